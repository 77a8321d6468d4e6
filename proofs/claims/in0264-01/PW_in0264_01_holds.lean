import PyProof.Rows.All
import Wide.All
import OpenK.AllK
import Wide.FinOn
import PySem.Challenge.RW_in0264_01
open PySem PySem.W PySem.Spec PySem.Calls PyProof.Rows
set_option Elab.async false
set_option maxRecDepth 100000
namespace Mine
local macro_rules | `(tactic| walk_at $s:str) => `(tactic| k_extra $(Lean.Syntax.mkStrLit ("m " ++ s.getString)))
/-- the def at a place of the row's text: its name, arguments, body and scope -/
noncomputable def treeAt (i : Nat) : Str × Arguments × List Stmt × Scope := match PySem.Challenge.pw_in0264_01.main.body[i]? with
  | some (.FunctionDef n a b _ _ _ s _ _ _) => (n, a, b, s)
  | _ => default
/-- what the heap holds when the text's top has run (as the head lays it); the defs' trees are taken from the row -/
noncomputable def H (P : Params) : Frag := (fun (n2 : Str) (a2 : Arguments) (b2 : List Stmt) (s2 : Scope) (_ : treeAt 2 = (n2, a2, b2, s2)) (n5 : Str) (a5 : Arguments) (b5 : List Stmt) (s5 : Scope) (_ : treeAt 5 = (n5, a5, b5, s5)) (n8 : Str) (a8 : Arguments) (b8 : List Stmt) (s8 : Scope) (_ : treeAt 8 = (n8, a8, b8, s8)) (n10 : Str) (a10 : Arguments) (b10 : List Stmt) (s10 : Scope) (_ : treeAt 10 = (n10, a10, b10, s10)) (n11 : Str) (a11 : Arguments) (b11 : List Stmt) (s11 : Scope) (_ : treeAt 11 = (n11, a11, b11, s11)) (n14 : Str) (a14 : Arguments) (b14 : List Stmt) (s14 : Scope) (_ : treeAt 14 = (n14, a14, b14, s14)) (n16 : Str) (a16 : Arguments) (b16 : List Stmt) (s16 : Scope) (_ : treeAt 16 = (n16, a16, b16, s16)) (n17 : Str) (a17 : Arguments) (b17 : List Stmt) (s17 : Scope) (_ : treeAt 17 = (n17, a17, b17, s17)) (n18 : Str) (a18 : Arguments) (b18 : List Stmt) (s18 : Scope) (_ : treeAt 18 = (n18, a18, b18, s18)) (n19 : Str) (a19 : Arguments) (b19 : List Stmt) (s19 : Scope) (_ : treeAt 19 = (n19, a19, b19, s19)) (n20 : Str) (a20 : Arguments) (b20 : List Stmt) (s20 : Scope) (_ : treeAt 20 = (n20, a20, b20, s20)) (n21 : Str) (a21 : Arguments) (b21 : List Stmt) (s21 : Scope) (_ : treeAt 21 = (n21, a21, b21, s21)) =>
  (nat_lit 2, Obj.mk Value.none none (Data.dict #[DictEntry.mk (PyData.keyHash P (Str.ofString "\x69mport.loaded._sre")) (Value.str (Str.ofString "\x69mport.loaded._sre") 183) (Value.bool Bool.true), DictEntry.mk (PyData.keyHash P (Str.ofString "class._frozen_importlib.BuiltinImporter")) (Value.str (Str.ofString "class._frozen_importlib.BuiltinImporter") 185) (Value.ref 14), DictEntry.mk (PyData.keyHash P (Str.ofString "watched.\x69mport")) (Value.str (Str.ofString "watched.\x69mport") 206) (Value.ref 18), DictEntry.mk (PyData.keyHash P (Str.ofString "class._frozen_importlib.ModuleSpec")) (Value.str (Str.ofString "class._frozen_importlib.ModuleSpec") 216) (Value.ref 22), DictEntry.mk (PyData.keyHash P (Str.ofString "sys.modules.booked-epoch")) (Value.str (Str.ofString "sys.modules.booked-epoch") 245) (Value.int 3 0), DictEntry.mk (PyData.keyHash P (Str.ofString "\x69mport.later-laid._sre")) (Value.str (Str.ofString "\x69mport.later-laid._sre") 270) (Value.bool Bool.true), DictEntry.mk (PyData.keyHash P (Str.ofString "watched.library")) (Value.str (Str.ofString "watched.library") 272) (Value.ref 27), DictEntry.mk (PyData.keyHash P (Str.ofString "watched.library-objects")) (Value.str (Str.ofString "watched.library-objects") 0) (Value.str (Str.ofString "\x0c") 0), DictEntry.mk (PyData.keyHash P (Str.ofString "watched.library-deep._sre")) (Value.str (Str.ofString "watched.library-deep._sre") 273) (Value.str (Str.ofString "\x04\x00\x00\x0b\x04\x00\x00\x0b\x04\x00\x00\x03\x04\x00\x00\x0b\x08\x04dict\x02") 0)] 9) #[]) ::
  (nat_lit 3, Obj.mk (Value.type "dict") none (Data.dict (List.toArray (DictEntry.mk (PyData.keyHash P (Str.ofString "__name__")) (Value.str (Str.ofString "__name__") 165) (Value.str (Str.ofString "law_in0264_01") 544) :: DictEntry.mk (PyData.keyHash P (Str.ofString "__doc__")) (Value.str (Str.ofString "__doc__") 166) Value.none :: DictEntry.mk (PyData.keyHash P (Str.ofString "__package__")) (Value.str (Str.ofString "__package__") 167) Value.none :: DictEntry.mk (PyData.keyHash P (Str.ofString "__loader__")) (Value.str (Str.ofString "__loader__") 168) (Value.builtin "__main__.__loader__#opaque") :: DictEntry.mk (PyData.keyHash P (Str.ofString "__spec__")) (Value.str (Str.ofString "__spec__") 169) Value.none :: DictEntry.mk (PyData.keyHash P (Str.ofString "__annotations__")) (Value.str (Str.ofString "__annotations__") 170) (Value.ref 6) :: DictEntry.mk (PyData.keyHash P (Str.ofString "__builtins__")) (Value.str (Str.ofString "__builtins__") 171) (Value.ref 4) :: DictEntry.mk (PyData.keyHash P (Str.ofString "__file__")) (Value.str (Str.ofString "__file__") 173) (Value.str (Str.ofString "/claim/cut.py") 172) :: DictEntry.mk (PyData.keyHash P (Str.ofString "__cached__")) (Value.str (Str.ofString "__cached__") 174) Value.none :: DictEntry.mk (PyData.keyHash P (Str.ofString "_sre")) (Value.str (Str.ofString "_sre") 275) (Value.ref 12) :: DictEntry.mk (PyData.keyHash P (Str.ofString "strip_quotes")) (Value.str (Str.ofString "strip_quotes") 290) (Value.ref 38) :: DictEntry.mk (PyData.keyHash P (Str.ofString "_twin_re_1")) (Value.str (Str.ofString "_twin_re_1") 330) (Value.ref 43) :: DictEntry.mk (PyData.keyHash P (Str.ofString "translate")) (Value.str (Str.ofString "translate") 339) (Value.ref 50) :: DictEntry.mk (PyData.keyHash P (Str.ofString "_special_chars_map")) (Value.str (Str.ofString "_special_chars_map") 487) (Value.ref 52) :: DictEntry.mk (PyData.keyHash P (Str.ofString "escape")) (Value.str (Str.ofString "escape") 494) (Value.ref 62) :: DictEntry.mk (PyData.keyHash P (Str.ofString "_translate")) (Value.str (Str.ofString "_translate") 515) (Value.ref 69) :: DictEntry.mk (PyData.keyHash P (Str.ofString "_join_translated_parts")) (Value.str (Str.ofString "_join_translated_parts") 528) (Value.ref 76) :: DictEntry.mk (PyData.keyHash P (Str.ofString "_initial_missing")) (Value.str (Str.ofString "_initial_missing") 531) (Value.ref 77) :: DictEntry.mk (PyData.keyHash P (Str.ofString "reduce")) (Value.str (Str.ofString "reduce") 543) (Value.ref 85) :: DictEntry.mk (PyData.keyHash P (Str.ofString "_law_pieces")) (Value.str (Str.ofString "_law_pieces") 551) (Value.ref 90) :: DictEntry.mk (PyData.keyHash P (Str.ofString "_law_deed")) (Value.str (Str.ofString "_law_deed") 559) (Value.ref 97) :: DictEntry.mk (PyData.keyHash P (Str.ofString "_law_left")) (Value.str (Str.ofString "_law_left") 565) (Value.ref 102) :: DictEntry.mk (PyData.keyHash P (Str.ofString "_law_told")) (Value.str (Str.ofString "_law_told") 571) (Value.ref 107) :: DictEntry.mk (PyData.keyHash P (Str.ofString "_law_expression")) (Value.str (Str.ofString "_law_expression") 577) (Value.ref 112) :: DictEntry.mk (PyData.keyHash P (Str.ofString "law")) (Value.str (Str.ofString "law") 583) (Value.ref 117) :: [])) 25) #[]) ::
  (nat_lit 6, Obj.mk (Value.type "dict") none (Data.dict #[] 0) #[]) ::
  (nat_lit 11, Obj.mk (Value.type "dict") none (Data.dict #[DictEntry.mk (PyData.keyHash P (Str.ofString "__name__")) (Value.str (Str.ofString "__name__") 247) (Value.str (Str.ofString "_sre") 246), DictEntry.mk (PyData.keyHash P (Str.ofString "__doc__")) (Value.str (Str.ofString "__doc__") 248) Value.none, DictEntry.mk (PyData.keyHash P (Str.ofString "__package__")) (Value.str (Str.ofString "__package__") 250) (Value.str (Str.ofString "") 249), DictEntry.mk (PyData.keyHash P (Str.ofString "__loader__")) (Value.str (Str.ofString "__loader__") 251) (Value.builtin "off-the-table:_sre.__loader__:shared#opaque"), DictEntry.mk (PyData.keyHash P (Str.ofString "__spec__")) (Value.str (Str.ofString "__spec__") 252) (Value.builtin "off-the-table:_sre.__spec__:shared#opaque"), DictEntry.mk (PyData.keyHash P (Str.ofString "compile")) (Value.str (Str.ofString "compile") 253) (Value.builtin "_sre.compile"), DictEntry.mk (PyData.keyHash P (Str.ofString "template")) (Value.str (Str.ofString "template") 254) (Value.builtin "off-the-table:_sre.template:shared#opaque"), DictEntry.mk (PyData.keyHash P (Str.ofString "getcodesize")) (Value.str (Str.ofString "getcodesize") 255) (Value.builtin "off-the-table:_sre.getcodesize:shared#opaque"), DictEntry.mk (PyData.keyHash P (Str.ofString "ascii_iscased")) (Value.str (Str.ofString "ascii_iscased") 256) (Value.builtin "off-the-table:_sre.ascii_iscased:shared#opaque"), DictEntry.mk (PyData.keyHash P (Str.ofString "unicode_iscased")) (Value.str (Str.ofString "unicode_iscased") 257) (Value.builtin "off-the-table:_sre.unicode_iscased:shared#opaque"), DictEntry.mk (PyData.keyHash P (Str.ofString "ascii_tolower")) (Value.str (Str.ofString "ascii_tolower") 258) (Value.builtin "off-the-table:_sre.ascii_tolower:shared#opaque"), DictEntry.mk (PyData.keyHash P (Str.ofString "unicode_tolower")) (Value.str (Str.ofString "unicode_tolower") 259) (Value.builtin "off-the-table:_sre.unicode_tolower:shared#opaque"), DictEntry.mk (PyData.keyHash P (Str.ofString "MAGIC")) (Value.str (Str.ofString "MAGIC") 261) (Value.int 20230612 260), DictEntry.mk (PyData.keyHash P (Str.ofString "CODESIZE")) (Value.str (Str.ofString "CODESIZE") 263) (Value.int 4 262), DictEntry.mk (PyData.keyHash P (Str.ofString "MAXREPEAT")) (Value.str (Str.ofString "MAXREPEAT") 265) (Value.int 4294967295 264), DictEntry.mk (PyData.keyHash P (Str.ofString "MAXGROUPS")) (Value.str (Str.ofString "MAXGROUPS") 267) (Value.int 1073741823 266), DictEntry.mk (PyData.keyHash P (Str.ofString "copyright")) (Value.str (Str.ofString "copyright") 269) (Value.str (Str.ofString " SRE 2.2.2 Copyright (c) 1997-2002 by Secret Labs AB ") 268)] 17) #[]) ::
  (nat_lit 12, Obj.mk (Value.type "module") (some 11) Data.plain #[]) ::
  (nat_lit 32, Obj.mk (Value.type "tuple") none (Data.seq #[] 0) #[]) ::
  (nat_lit 34, Obj.mk (Value.type "tuple") none (Data.seq #[Value.str (Str.ofString "text") 287] 0) #[]) ::
  (nat_lit 35, Obj.mk (Value.type "tuple") none (Data.seq #[] 0) #[]) ::
  (nat_lit 37, Obj.mk (Value.type "code") none (Data.fields #[Value.str (Str.ofString "strip_quotes") 284, Value.str (Str.ofString "strip_quotes") 285, Value.str (Str.ofString "/claim/cut.py") 286, Value.int 3 0, Value.int 1 0, Value.int 0 0, Value.int 0 0, Value.int 3 0, Value.ref 32, Value.bool Bool.true, Value.int 276 0, Value.ref 33, Value.none, Value.ref 34, Value.ref 35, Value.ref 36, Value.int 288 0, Value.int 3 0, Value.str (Str.ofString "/claim/cut.py") 289]) #[]) ::
  (nat_lit 38, Obj.mk (Value.type "function") none (Data.func (FuncData.mk n2 n2 a2 (.stmts b2) s2 3 [] Value.none .none .none (Value.str (Str.ofString "cpy313.http.cookiejar") 282) none (Value.ref 37) .none 0)) #[]) ::
  (nat_lit 42, Obj.mk (Value.type "tuple") none (Data.seq (List.toArray (Value.int 14 0 :: Value.int 14 0 :: Value.int 4 0 :: Value.int 1 0 :: Value.int 1 0 :: Value.int 9 0 :: Value.int 0 0 :: Value.int 64 0 :: Value.int 0 0 :: Value.int 1342177280 0 :: Value.int 0 0 :: Value.int 0 0 :: Value.int 0 0 :: Value.int 0 0 :: Value.int 0 0 :: Value.int 17 0 :: Value.int 0 0 :: Value.int 13 0 :: Value.int 11 0 :: Value.int 9 0 :: Value.int 0 0 :: Value.int 64 0 :: Value.int 0 0 :: Value.int 1342177280 0 :: Value.int 0 0 :: Value.int 0 0 :: Value.int 0 0 :: Value.int 0 0 :: Value.int 0 0 :: Value.int 17 0 :: Value.int 1 0 :: Value.int 1 0 :: [])) 0) #[]) ::
  (nat_lit 43, Obj.mk (Value.type "re.Pattern") none (Data.fields #[Value.str (Str.ofString "([&~|])") 294, Value.int 32 329, Value.int 1 0, Value.none, Value.none, Value.ref 42, Value.int 0 0]) #[]) ::
  (nat_lit 44, Obj.mk (Value.type "tuple") none (Data.seq #[] 0) #[]) ::
  (nat_lit 46, Obj.mk (Value.type "tuple") none (Data.seq #[Value.str (Str.ofString "pat") 334, Value.str (Str.ofString "STAR") 335, Value.str (Str.ofString "parts") 336] 0) #[]) ::
  (nat_lit 47, Obj.mk (Value.type "tuple") none (Data.seq #[] 0) #[]) ::
  (nat_lit 49, Obj.mk (Value.type "code") none (Data.fields #[Value.str (Str.ofString "translate") 331, Value.str (Str.ofString "translate") 332, Value.str (Str.ofString "/claim/cut.py") 333, Value.int 11 0, Value.int 1 0, Value.int 0 0, Value.int 0 0, Value.int 3 0, Value.ref 44, Value.bool Bool.true, Value.int 276 0, Value.ref 45, Value.none, Value.ref 46, Value.ref 47, Value.ref 48, Value.int 337 0, Value.int 11 0, Value.str (Str.ofString "/claim/cut.py") 338]) #[]) ::
  (nat_lit 50, Obj.mk (Value.type "function") none (Data.func (FuncData.mk n5 n5 a5 (.stmts b5) s5 3 [] Value.none .none .none (Value.str (Str.ofString "cpy313.fnmatch") 291) none (Value.ref 49) .none 0)) #[]) ::
  (nat_lit 52, Obj.mk (Value.type "dict") none (Data.dict (List.toArray (DictEntry.mk 40 (Value.int 40 343) (Value.str (Str.ofString "\\(") 347) :: DictEntry.mk 41 (Value.int 41 349) (Value.str (Str.ofString "\\)") 353) :: DictEntry.mk 91 (Value.int 91 355) (Value.str (Str.ofString "\\[") 359) :: DictEntry.mk 93 (Value.int 93 361) (Value.str (Str.ofString "\\]") 365) :: DictEntry.mk 123 (Value.int 123 367) (Value.str (Str.ofString "\\{") 371) :: DictEntry.mk 125 (Value.int 125 373) (Value.str (Str.ofString "\\}") 377) :: DictEntry.mk 63 (Value.int 63 379) (Value.str (Str.ofString "\\?") 383) :: DictEntry.mk 42 (Value.int 42 385) (Value.str (Str.ofString "\\*") 389) :: DictEntry.mk 43 (Value.int 43 391) (Value.str (Str.ofString "\\+") 395) :: DictEntry.mk 45 (Value.int 45 397) (Value.str (Str.ofString "\\-") 401) :: DictEntry.mk 124 (Value.int 124 403) (Value.str (Str.ofString "\\|") 407) :: DictEntry.mk 94 (Value.int 94 409) (Value.str (Str.ofString "\\^") 413) :: DictEntry.mk 36 (Value.int 36 415) (Value.str (Str.ofString "\\$") 419) :: DictEntry.mk 92 (Value.int 92 421) (Value.str (Str.ofString "\\\\") 425) :: DictEntry.mk 46 (Value.int 46 427) (Value.str (Str.ofString "\\.") 431) :: DictEntry.mk 38 (Value.int 38 433) (Value.str (Str.ofString "\\&") 437) :: DictEntry.mk 126 (Value.int 126 439) (Value.str (Str.ofString "\\~") 443) :: DictEntry.mk 35 (Value.int 35 445) (Value.str (Str.ofString "\\#") 449) :: DictEntry.mk 32 (Value.int 32 451) (Value.str (Str.ofString "\\ ") 455) :: DictEntry.mk 9 (Value.int 9 457) (Value.str (Str.ofString "\\\t") 461) :: DictEntry.mk 10 (Value.int 10 463) (Value.str (Str.ofString "\\\n") 467) :: DictEntry.mk 13 (Value.int 13 469) (Value.str (Str.ofString "\\\x0d") 473) :: DictEntry.mk 11 (Value.int 11 475) (Value.str (Str.ofString "\\\x0b") 479) :: DictEntry.mk 12 (Value.int 12 481) (Value.str (Str.ofString "\\\x0c") 485) :: [])) 24) #[]) ::
  (nat_lit 56, Obj.mk (Value.type "tuple") none (Data.seq #[] 0) #[]) ::
  (nat_lit 58, Obj.mk (Value.type "tuple") none (Data.seq #[Value.str (Str.ofString "pattern") 491] 0) #[]) ::
  (nat_lit 59, Obj.mk (Value.type "tuple") none (Data.seq #[] 0) #[]) ::
  (nat_lit 61, Obj.mk (Value.type "code") none (Data.fields #[Value.str (Str.ofString "escape") 488, Value.str (Str.ofString "escape") 489, Value.str (Str.ofString "/claim/cut.py") 490, Value.int 17 0, Value.int 1 0, Value.int 0 0, Value.int 0 0, Value.int 3 0, Value.ref 56, Value.bool Bool.true, Value.int 276 0, Value.ref 57, Value.none, Value.ref 58, Value.ref 59, Value.ref 60, Value.int 492 0, Value.int 17 0, Value.str (Str.ofString "/claim/cut.py") 493]) #[]) ::
  (nat_lit 62, Obj.mk (Value.type "function") none (Data.func (FuncData.mk n8 n8 a8 (.stmts b8) s8 3 [] Value.none .none .none (Value.str (Str.ofString "re") 340) none (Value.ref 61) .none 0)) #[]) ::
  (nat_lit 63, Obj.mk (Value.type "tuple") none (Data.seq #[] 0) #[]) ::
  (nat_lit 65, Obj.mk (Value.type "tuple") none (Data.seq #[Value.str (Str.ofString "pat") 500, Value.str (Str.ofString "STAR") 501, Value.str (Str.ofString "QUESTION_MARK") 502, Value.str (Str.ofString "res") 503, Value.str (Str.ofString "add") 504, Value.str (Str.ofString "i") 505, Value.str (Str.ofString "n") 506, Value.str (Str.ofString "c") 507, Value.str (Str.ofString "j") 508, Value.str (Str.ofString "stuff") 509, Value.str (Str.ofString "chunks") 510, Value.str (Str.ofString "k") 511, Value.str (Str.ofString "chunk") 512] 0) #[]) ::
  (nat_lit 66, Obj.mk (Value.type "tuple") none (Data.seq #[] 0) #[]) ::
  (nat_lit 68, Obj.mk (Value.type "code") none (Data.fields #[Value.str (Str.ofString "_translate") 497, Value.str (Str.ofString "_translate") 498, Value.str (Str.ofString "/claim/cut.py") 499, Value.int 24 0, Value.int 3 0, Value.int 0 0, Value.int 0 0, Value.int 3 0, Value.ref 63, Value.bool Bool.true, Value.int 276 0, Value.ref 64, Value.none, Value.ref 65, Value.ref 66, Value.ref 67, Value.int 513 0, Value.int 24 0, Value.str (Str.ofString "/claim/cut.py") 514]) #[]) ::
  (nat_lit 69, Obj.mk (Value.type "function") none (Data.func (FuncData.mk n10 n10 a10 (.stmts b10) s10 3 [] Value.none .none .none (Value.str (Str.ofString "cpy313.fnmatch") 495) none (Value.ref 68) .none 0)) #[]) ::
  (nat_lit 70, Obj.mk (Value.type "tuple") none (Data.seq #[] 0) #[]) ::
  (nat_lit 72, Obj.mk (Value.type "tuple") none (Data.seq #[Value.str (Str.ofString "inp") 519, Value.str (Str.ofString "STAR") 520, Value.str (Str.ofString "res") 521, Value.str (Str.ofString "add") 522, Value.str (Str.ofString "i") 523, Value.str (Str.ofString "n") 524, Value.str (Str.ofString "fixed") 525] 0) #[]) ::
  (nat_lit 73, Obj.mk (Value.type "tuple") none (Data.seq #[] 0) #[]) ::
  (nat_lit 75, Obj.mk (Value.type "code") none (Data.fields #[Value.str (Str.ofString "_join_translated_parts") 516, Value.str (Str.ofString "_join_translated_parts") 517, Value.str (Str.ofString "/claim/cut.py") 518, Value.int 86 0, Value.int 2 0, Value.int 0 0, Value.int 0 0, Value.int 3 0, Value.ref 70, Value.bool Bool.true, Value.int 276 0, Value.ref 71, Value.none, Value.ref 72, Value.ref 73, Value.ref 74, Value.int 526 0, Value.int 86 0, Value.str (Str.ofString "/claim/cut.py") 527]) #[]) ::
  (nat_lit 76, Obj.mk (Value.type "function") none (Data.func (FuncData.mk n11 n11 a11 (.stmts b11) s11 3 [] Value.none .none .none (Value.str (Str.ofString "cpy313.fnmatch") 495) none (Value.ref 75) .none 0)) #[]) ::
  (nat_lit 77, Obj.mk (Value.type "object") none Data.plain #[]) ::
  (nat_lit 78, Obj.mk (Value.type "tuple") none (Data.seq #[Value.ref 77] 0) #[]) ::
  (nat_lit 79, Obj.mk (Value.type "tuple") none (Data.seq #[] 0) #[]) ::
  (nat_lit 81, Obj.mk (Value.type "tuple") none (Data.seq #[Value.str (Str.ofString "function") 535, Value.str (Str.ofString "sequence") 536, Value.str (Str.ofString "initial") 537, Value.str (Str.ofString "it") 538, Value.str (Str.ofString "value") 539, Value.str (Str.ofString "element") 540] 0) #[]) ::
  (nat_lit 82, Obj.mk (Value.type "tuple") none (Data.seq #[] 0) #[]) ::
  (nat_lit 84, Obj.mk (Value.type "code") none (Data.fields #[Value.str (Str.ofString "reduce") 532, Value.str (Str.ofString "reduce") 533, Value.str (Str.ofString "/claim/cut.py") 534, Value.int 115 0, Value.int 3 0, Value.int 0 0, Value.int 0 0, Value.int 3 0, Value.ref 79, Value.bool Bool.true, Value.int 276 0, Value.ref 80, Value.none, Value.ref 81, Value.ref 82, Value.ref 83, Value.int 541 0, Value.int 115 0, Value.str (Str.ofString "/claim/cut.py") 542]) #[]) ::
  (nat_lit 85, Obj.mk (Value.type "function") none (Data.func (FuncData.mk n14 n14 a14 (.stmts b14) s14 3 [] (Value.ref 78) .none .none (Value.str (Str.ofString "cpy313.functools") 529) none (Value.ref 84) .none 0)) #[]) ::
  (nat_lit 86, Obj.mk (Value.type "tuple") none (Data.seq #[] 0) #[]) ::
  (nat_lit 89, Obj.mk (Value.type "code") none (Data.fields #[Value.str (Str.ofString "_law_pieces") 546, Value.str (Str.ofString "_law_pieces") 547, Value.str (Str.ofString "/claim/cut.py") 548, Value.int 128 0, Value.int 1 0, Value.int 0 0, Value.int 0 0, Value.int 3 0, Value.ref 86, Value.bool Bool.true, Value.int 276 0, Value.ref 87, Value.none, Value.none, Value.none, Value.ref 88, Value.int 549 0, Value.int 128 0, Value.str (Str.ofString "/claim/cut.py") 550]) #[]) ::
  (nat_lit 90, Obj.mk (Value.type "function") none (Data.func (FuncData.mk n16 n16 a16 (.stmts b16) s16 3 [] Value.none .none .none (Value.str (Str.ofString "law_in0264_01") 544) none (Value.ref 89) .none 0)) #[]) ::
  (nat_lit 91, Obj.mk (Value.type "tuple") none (Data.seq #[] 0) #[]) ::
  (nat_lit 93, Obj.mk (Value.type "tuple") none (Data.seq #[Value.str (Str.ofString "text") 555, Value.str (Str.ofString "deed") 556] 0) #[]) ::
  (nat_lit 94, Obj.mk (Value.type "tuple") none (Data.seq #[] 0) #[]) ::
  (nat_lit 96, Obj.mk (Value.type "code") none (Data.fields #[Value.str (Str.ofString "_law_deed") 552, Value.str (Str.ofString "_law_deed") 553, Value.str (Str.ofString "/claim/cut.py") 554, Value.int 131 0, Value.int 2 0, Value.int 0 0, Value.int 0 0, Value.int 3 0, Value.ref 91, Value.bool Bool.true, Value.int 276 0, Value.ref 92, Value.none, Value.ref 93, Value.ref 94, Value.ref 95, Value.int 557 0, Value.int 131 0, Value.str (Str.ofString "/claim/cut.py") 558]) #[]) ::
  (nat_lit 97, Obj.mk (Value.type "function") none (Data.func (FuncData.mk n17 n17 a17 (.stmts b17) s17 3 [] Value.none .none .none (Value.str (Str.ofString "law_in0264_01") 544) none (Value.ref 96) .none 0)) #[]) ::
  (nat_lit 98, Obj.mk (Value.type "tuple") none (Data.seq #[] 0) #[]) ::
  (nat_lit 101, Obj.mk (Value.type "code") none (Data.fields #[Value.str (Str.ofString "_law_left") 560, Value.str (Str.ofString "_law_left") 561, Value.str (Str.ofString "/claim/cut.py") 562, Value.int 137 0, Value.int 2 0, Value.int 0 0, Value.int 0 0, Value.int 3 0, Value.ref 98, Value.bool Bool.true, Value.int 276 0, Value.ref 99, Value.none, Value.none, Value.none, Value.ref 100, Value.int 563 0, Value.int 137 0, Value.str (Str.ofString "/claim/cut.py") 564]) #[]) ::
  (nat_lit 102, Obj.mk (Value.type "function") none (Data.func (FuncData.mk n18 n18 a18 (.stmts b18) s18 3 [] Value.none .none .none (Value.str (Str.ofString "law_in0264_01") 544) none (Value.ref 101) .none 0)) #[]) ::
  (nat_lit 103, Obj.mk (Value.type "tuple") none (Data.seq #[] 0) #[]) ::
  (nat_lit 106, Obj.mk (Value.type "code") none (Data.fields #[Value.str (Str.ofString "_law_told") 566, Value.str (Str.ofString "_law_told") 567, Value.str (Str.ofString "/claim/cut.py") 568, Value.int 140 0, Value.int 2 0, Value.int 0 0, Value.int 0 0, Value.int 3 0, Value.ref 103, Value.bool Bool.true, Value.int 276 0, Value.ref 104, Value.none, Value.none, Value.none, Value.ref 105, Value.int 569 0, Value.int 140 0, Value.str (Str.ofString "/claim/cut.py") 570]) #[]) ::
  (nat_lit 107, Obj.mk (Value.type "function") none (Data.func (FuncData.mk n19 n19 a19 (.stmts b19) s19 3 [] Value.none .none .none (Value.str (Str.ofString "law_in0264_01") 544) none (Value.ref 106) .none 0)) #[]) ::
  (nat_lit 108, Obj.mk (Value.type "tuple") none (Data.seq #[] 0) #[]) ::
  (nat_lit 111, Obj.mk (Value.type "code") none (Data.fields #[Value.str (Str.ofString "_law_expression") 572, Value.str (Str.ofString "_law_expression") 573, Value.str (Str.ofString "/claim/cut.py") 574, Value.int 148 0, Value.int 1 0, Value.int 0 0, Value.int 0 0, Value.int 3 0, Value.ref 108, Value.bool Bool.true, Value.int 276 0, Value.ref 109, Value.none, Value.none, Value.none, Value.ref 110, Value.int 575 0, Value.int 148 0, Value.str (Str.ofString "/claim/cut.py") 576]) #[]) ::
  (nat_lit 112, Obj.mk (Value.type "function") none (Data.func (FuncData.mk n20 n20 a20 (.stmts b20) s20 3 [] Value.none .none .none (Value.str (Str.ofString "law_in0264_01") 544) none (Value.ref 111) .none 0)) #[]) ::
  (nat_lit 113, Obj.mk (Value.type "tuple") none (Data.seq #[] 0) #[]) ::
  (nat_lit 116, Obj.mk (Value.type "code") none (Data.fields #[Value.str (Str.ofString "law") 578, Value.str (Str.ofString "law") 579, Value.str (Str.ofString "/claim/cut.py") 580, Value.int 159 0, Value.int 1 0, Value.int 0 0, Value.int 0 0, Value.int 3 0, Value.ref 113, Value.bool Bool.true, Value.int 276 0, Value.ref 114, Value.none, Value.none, Value.none, Value.ref 115, Value.int 581 0, Value.int 159 0, Value.str (Str.ofString "/claim/cut.py") 582]) #[]) ::
  (nat_lit 117, Obj.mk (Value.type "function") none (Data.func (FuncData.mk n21 n21 a21 (.stmts b21) s21 3 [] Value.none .none .none (Value.str (Str.ofString "law_in0264_01") 544) none (Value.ref 116) .none 0)) #[]) :: []) _ _ _ _ rfl _ _ _ _ rfl _ _ _ _ rfl _ _ _ _ rfl _ _ _ _ rfl _ _ _ _ rfl _ _ _ _ rfl _ _ _ _ rfl _ _ _ _ rfl _ _ _ _ rfl _ _ _ _ rfl _ _ _ _ rfl
theorem fillH (w : World) : H w.params = H w.params ∧ PySem.Challenge.rw_in0264_01.row.prog = PySem.Challenge.rw_in0264_01.row.prog := by
  k_fill
  exact ⟨rfl, rfl⟩
abbrev prg : Program := PySem.Challenge.rw_in0264_01.row.prog

abbrev Con (w : World) (f : Addr) (vs : List Value) (d : Nat) (Pre : List (Addr × Obj) → Prop) (Post : List (Addr × Obj) → List (Addr × Obj) → Value → Prop) : Prop :=
  ∀ (dp un : Nat) (gd : Option (List Code)) (cn : Str) (cs : Scope) (a : Addr) (ccd : Value) (cl : List (Str × Addr)) (outer : List Env) (A₀ : Around) (base : Heap) (p : Program) (loose : List Str) (mean : ExcName → Option Value) (mg mb : Str → Option Value)
    (h₀ : Heap) (L : Addr) (m : Str → Option Value) (news : List (Addr × Obj)) (s : Shared) (Q E : Value → Shared → Prop),
    Below A₀ base outer h₀ → Fr h₀ L s.heap m → (H w.params).In h₀ → News h₀ L s.heap news → Top p loose mean mg mb h₀ → cs.kind = .function → Pre news → dp + d < recursionLimit → un + 8 * d < cLine →
    (∀ r news' h' tk', Fr h₀ L h' m → News h₀ L h' news' → Post news news' r → Q r { s with heap := h', toks := tk' }) →
    wpAny (model prg w) (ktrTop dp un gd cn cs L a ccd cl outer) (call (.ref f) vs) Q E s


/-- an iterator over the list l, i items taken -/
noncomputable def ItOf (o : Obj) (l : Addr) (i : Nat) : Prop := o.cls = .type "list_iterator" ∧ o.data = .fields #[.ref l, .int i 0]

section
variable {prog : Program} {w : World} {A : Around} {E : Value → Shared → Prop} {s : Shared} {h₀ : Heap} {L l it : Addr} {m : Str → Option Value} {news : List (Addr × Obj)} {g : Obj → List (Addr × Obj)} {io : Obj} {i : Nat} {x : Value}

theorem ItOf.at {h : Heap} (a : ItOf io l i) (ho : h.get? it = some io) : h.IsListIter it l i := ⟨io, ho, a.1, a.2⟩

theorem it_new {items : Array Value} {Q : Value → Shared → Prop} (F : Fr h₀ L s.heap m) (N : News h₀ L s.heap news) (hl : s.heap.IsList l items)
    (h : ∀ I h' oI, Fr h₀ L h' m → News h₀ L h' ((I, oI) :: news) → (∀ p ∈ news, p.1 < I) → l < I → ItOf oI l 0 → Q (.ref I) { s with heap := h' }) :
    wpAny (model prog w) A (pyIter (.ref l)) Q E s := by
  have hlt : l < s.heap.objs.size := by obtain ⟨o, e, _⟩ := hl; exact Heap.lt_size e
  refine wpAny_pyIter_list hl ?_
  exact h _ _ _ (F.push _) (News.push F N _ rfl) (fun q hq => Heap.lt_size (N q hq).1) hlt ⟨rfl, rfl⟩

theorem it_self {Q : Value → Shared → Prop} (N : News h₀ L s.heap news := by k_asm) (hm : (it, io) ∈ news := by k_mem) (hi : ItOf io l i := by k_asm) (h : Q (.ref it) s) : wpAny (model prog w) A (pyIter (.ref it)) Q E s :=
  wpAny_pyIter_listiter (hi.at (N _ hm).1) h

theorem it_iter {items : Array Value} {Q : Value → Shared → Prop} (F : Fr h₀ L s.heap m := by k_asm) (N : News h₀ L s.heap news := by k_asm) (hl : s.heap.IsList l items := by exact News.isList (by k_asm) (by k_asm))
    (h : ∀ I h' oI, Fr h₀ L h' m → News h₀ L h' ((I, oI) :: news) → (∀ p ∈ news, p.1 < I) → l < I → ItOf oI l 0 → Q (.ref I) { s with heap := h' }) :
    wpAny (model prog w) A (call (.builtin "iter") [.ref l]) Q E s := by
  refine call_function_entry (by decide +kernel) (by decide +kernel) kdk_entry_iter (kdk_args_iter _) ?_
  unfold Builtin.«iter»
  refine wpAny_bind (m := someArgs "iter" 1 2 _) (wpAny_of_eq (a := [Value.ref l]) (by first | rfl | kernel_rfl!) ?_)
  show wpAny _ _ (pyIter (.ref l) >>= _) _ _ _
  exact wpAny_bind (it_new F N hl fun I h' oI F' N' h1 h2 h3 => wpAny_pure ⟨_, rfl, h I h' oI F' N' h1 h2 h3⟩)

theorem it_special {items : Array Value} {Q : Option Value → Shared → Prop} (hit : s.heap.IsListIter it l i) (hl : s.heap.IsList l items) (hx : items[i]? = some x)
    (hQ : ∀ h', h'.IsListIter it l (i + 1) → Heap.SameBut it s.heap h' → Q (some x) { s with heap := h' }) :
    wpAny (model prog w) A (callSpecial? (.ref it) (Str.ofString "__next__")) Q E s := by
  obtain ⟨o, ho, hc, hd⟩ := id hit
  obtain ⟨ol, hol, _, nl, hdl⟩ := hl
  refine wpAny_callSpecial?_slot (name := Str.ofString "__next__") hit.typeIs slot_listiter_next (wpAny_call_entry slot_listiter_next hit.typeIs entry_listiter_next ?_ (args_listiter_next _))
  show wpAny _ _ (field (.ref it) 0 >>= _) _ _ s
  refine wpAny_bind (wpAny_field ho hd (x := .ref l) rfl ?_)
  show wpAny _ _ (if (Value.ref l == Value.none) = true then _ else _) _ _ s
  rw [if_neg (show ¬ ((Value.ref l == Value.none) = true) from Bool.false_ne_true)]
  show wpAny _ _ (field (.ref it) 1 >>= _) _ _ s
  refine wpAny_bind (wpAny_field ho hd (x := .int i 0) rfl ?_)
  show wpAny _ _ (seqItems? (.ref l) >>= _) _ _ s
  refine wpAny_bind (wpAny_seqItems hol hdl ?_)
  simp only [Int.toNat_natCast, hx]
  refine wpAny_bind (wpAny_setField ho hd (by simp) (wpAny_pure ⟨x, rfl, hQ _ ?_ (Heap.SameBut.update ..)⟩))
  exact ⟨_, Heap.get?_update_self _ ho (Obj.isFreed_of_fields (Obj.data_mapFields hd _)), (Obj.cls_mapFields ..).trans hc, by
    rw [Obj.data_mapFields hd]; simp [rawInt]⟩

theorem it_next {items : Array Value} {Q : Value → Shared → Prop} (F : Fr h₀ L s.heap m := by k_asm) (N : News h₀ L s.heap news := by k_asm) (U : UpdF it io news g := by k_updF) (hi : ItOf io l i := by k_asm) (hl : s.heap.IsList l items := by exact News.isList (by k_asm) (by first | k_asm | exact List.Mem.tail _ (by k_asm))) (hx : items[i]? = some x := by exact rfl)
    (h : ∀ h' o', Fr h₀ L h' m → News h₀ L h' (g o') → ItOf o' l (i + 1) → Q x { s with heap := h' }) :
    wpAny (model prog w) A (call (.builtin "next") [.ref it]) Q E s := by
  obtain ⟨pre, post, hl', hg, a, b⟩ := U.split
  have hmem : (it, io) ∈ news := by rw [hl']; exact List.mem_append_right _ (.head _)
  have hm := N (it, io) hmem
  have hit := hi.at hm.1
  refine call_function_entry (by decide +kernel) (by decide +kernel) kdk_entry_next (kdk_args_next _) ?_
  unfold Builtin.«next»
  refine wpAny_bind (m := someArgs "next" 1 2 _) (wpAny_of_eq (a := [Value.ref it]) (by first | rfl | kernel_rfl!) ?_)
  dsimp only
  refine wpAny_bind (wpAny_specialOf (name := Str.ofString "__next__") hit.typeIs slot_listiter_next.lookup ?_)
  refine wpAny_ite_split (fun hab => absurd hab (by decide)) (fun _ => ?_)
  refine wpAny_bind (it_special hit hl hx fun h' hit' hs => ?_)
  obtain ⟨o', ho', hc', hd'⟩ := hit'
  exact wpAny_pure ⟨_, rfl, h h' o' (F.change hs hm.2.1 hm.2.2) (hg o' ▸ (show News h₀ L s.heap (pre ++ (it, io) :: post) from hl' ▸ N).setIn a b hs ho') ⟨hc', hd'⟩⟩
end

section
variable {M : Model} {A : Around} {E : Value → Shared → Prop} {s : Shared} {Q : Value → Shared → Prop} {x : Str} {t : Tok} {a : Addr}
theorem is_str_ref (h : Q (.bool false) s) : wpAny M A (compareOp .Is (.str x t) (.ref a)) Q E s := by
  show wpAny M A (do return .bool (← isSame (.str x t) (.ref a))) Q E s
  exact wpAny_bind (wpAny_pure (wpAny_pure h))
theorem isNot_str_ref (h : Q (.bool true) s) : wpAny M A (compareOp .IsNot (.str x t) (.ref a)) Q E s := by
  show wpAny M A (do return .bool (!(← isSame (.str x t) (.ref a)))) Q E s
  exact wpAny_bind (wpAny_pure (wpAny_pure h))
end

section
variable {prog : Program} {w : World} {A : Around} {s : Shared} {env : Env} {h₀ : Heap}

/-- what a turn of a loop leaves -/
noncomputable def ForEnd (h₀ : Heap) (L : Addr) (s : Shared) (I l : Addr) (i : Nat) (J : Nat → (Str → Option Value) → List (Addr × Obj) → Prop) (s' : Shared) : Prop :=
  ∃ h' tk' m' news' oI, s' = { s with heap := h', toks := tk' } ∧ Fr h₀ L h' m' ∧ News h₀ L h' ((I, oI) :: news') ∧ ItOf oI l (i + 1) ∧ J (i + 1) m' news'
noncomputable def ForPost (h₀ : Heap) (L : Addr) (s : Shared) (I l : Addr) (i : Nat) (J : Nat → (Str → Option Value) → List (Addr × Obj) → Prop) (R : Result → Shared → Prop) (f : Flow) (s' : Shared) : Prop :=
  match f with
  | .next => ForEnd h₀ L s I l i J s'
  | .cont => ForEnd h₀ L s I l i J s'
  | .brk => R (.ok .next) s'
  | .ret v => R (.ok (.ret v)) s'

theorem for_list {R : Result → Shared → Prop} {target : PySem.Expr} {body : List Stmt} {I l : Addr} {oI : Obj} {items : List Value} {i₀ : Nat} {m : Str → Option Value} {news : List (Addr × Obj)}
    (J : Nat → (Str → Option Value) → List (Addr × Obj) → Prop) (hh : A.handled = none)
    (F : Fr h₀ env.locals s.heap m) (N : News h₀ env.locals s.heap ((I, oI) :: news)) (hi : ItOf oI l i₀) (h0 : J i₀ m news) (hi0 : i₀ ≤ items.length)
    (hoff : ∀ i m₁ news₁, J i m₁ news₁ → ∀ p ∈ news₁, p.1 ≠ I)
    (hlist : ∀ i m₁ news₁ h, J i m₁ news₁ → Fr h₀ env.locals h m₁ → News h₀ env.locals h news₁ → h.IsList l items.toArray)
    (turn : ∀ i v m₁ news₁ h tk oI, items[i]? = some v → J i m₁ news₁ → Fr h₀ env.locals h m₁ → News h₀ env.locals h ((I, oI) :: news₁) → ItOf oI l (i + 1) →
      wpAny (model prog w) A (assign target env v) (fun _ s₂ => wpAny (model prog w) A (execs body env) (ForPost h₀ env.locals s I l i J R) (fun _ _ => False) s₂) (fun _ _ => False) { s with heap := h, toks := tk })
    (done : ∀ m₁ news₁ h tk, J items.length m₁ news₁ → Fr h₀ env.locals h m₁ → News h₀ env.locals h news₁ → R (.ok .next) { s with heap := h, toks := tk })
    (ht : ∀ v, letOwnedTupleGo target (.ref I) v = pure () := by intro _; rfl) :
    codeAny (model prog w) A (.forLoop target (.ref I) body [] env) R s := by
  refine codeAny_forLoop
    (fun k s' => ∃ h' tk m' news' oI i, s' = { s with heap := h', toks := tk } ∧ Fr h₀ env.locals h' m' ∧ News h₀ env.locals h' ((I, oI) :: news') ∧ ItOf oI l i ∧ J i m' news' ∧ i ≤ items.length ∧ k = items.length + 1 - i) ?_ (items.length + 1 - i₀)
    ⟨s.heap, s.toks, m, news, oI, i₀, rfl, F, N, hi, h0, hi0, rfl⟩ ht
  rintro k s' ⟨h', tk, m', news', oI', i, rfl, F', N', hi', hJ, hle, rfl⟩
  have hm := N' (I, oI') (.head _)
  have hlst := hlist i m' news' h' hJ F' (fun p hp => N' p (.tail _ hp))
  by_cases hlt : i < items.length
  · refine wpAny_pyNext_list_item (hi'.at hm.1) hlst (x := items[i]) (by simp [hlt]) fun h₁ hit₁ hs₁ => ?_
    obtain ⟨o', ho', hc', hd'⟩ := hit₁
    have N₁ : News h₀ env.locals h₁ ((I, o') :: news') := News.setIn (own := []) N' (fun _ h => nomatch h) (fun p hp => hoff i m' news' hJ p hp) hs₁ ho'
    have F₁ : Fr h₀ env.locals h₁ m' := F'.change hs₁ hm.2.1 hm.2.2
    refine wpAny_noRaise (wpAny_mono (turn i items[i] m' news' h₁ tk o' (by simp [hlt]) hJ F₁ N₁ ⟨hc', hd'⟩) (fun _ s₂ h₂ => wpAny_noRaise (wpAny_mono h₂ (fun f s₃ h₃ => ?_) fun _ _ x => x)) fun _ _ x => x)
    have fin : ForEnd h₀ env.locals s I l i J s₃ → ∃ m, m < items.length + 1 - i ∧ ∃ h' tk m' news' oI i, s₃ = { s with heap := h', toks := tk } ∧ Fr h₀ env.locals h' m' ∧ News h₀ env.locals h' ((I, oI) :: news') ∧ ItOf oI l i ∧ J i m' news' ∧ i ≤ items.length ∧ m = items.length + 1 - i := by
      rintro ⟨h', tk', m', news', oI, e, F₃, N₃, hi₃, hJ₃⟩
      exact ⟨_, by lia, h', tk', m', news', oI, i + 1, e, F₃, N₃, hi₃, hJ₃, hlt, rfl⟩
    cases f with
    | next => exact fin h₃
    | cont => exact fin h₃
    | brk => exact h₃
    | ret v => exact h₃
  · have hin : i = items.length := by lia
    subst hin
    refine wpAny_pyNext_list_end hh (hi'.at hm.1) hlst (by simp) fun h₁ he₁ => wpAny_execs_nil ?_
    have N₁ : News h₀ env.locals h₁ news' := fun p hp => ⟨he₁ _ _ (hoff _ m' news' hJ p hp) (N' p (.tail _ hp)).1, (N' p (.tail _ hp)).2⟩
    have F₁ : Fr h₀ env.locals h₁ m' := ⟨F'.ns.extBut he₁ (Ne.symm hm.2.1), fun b o e => he₁ b o (fun q => by rw [q, hm.2.2] at e; cases e) (F'.keep b o e), F'.above⟩
    exact done m' news' h₁ tk hJ F₁ N₁

theorem for_stmt {target iter : PySem.Expr} {body : List Stmt} {pos : Pos} {Q : Flow → Shared → Prop}
    (h : wpAny (model prog w) A (eval iter env) (fun x s₁ => wpAny (model prog w) A (pyIter x) (fun it s₂ =>
      codeAny (model prog w) A (.forLoop target it body [] env) (fun r s' => match r with | .ok f => Q f s' | .error _ => False) s₂) (fun _ _ => False) s₁) (fun _ _ => False) s)
    (hs : ∀ x, foldedSetIterable iter env x = pure x := by intro _; rfl) :
    wpAny (model prog w) A (exec (.For target iter body [] pos) env) Q (fun _ _ => False) s :=
  wpAny_For (wpAny_mono h (fun x s₁ h₁ => wpAny_mono h₁ (fun it s₂ h₂ => codeAny_mono h₂ fun r s' hr => by cases r with | ok f => exact hr | error e => exact hr.elim) fun _ _ e => e) fun _ _ e => e) hs
end

section
open LCg
variable {prog : Program} {w : World} {A : Around} {s : Shared} {h₀ : Heap} {L : Addr} {m : Str → Option Value} {env : Env}
noncomputable def EltEnd (P : Prop) (h₀ : Heap) (L : Addr) (m : Str → Option Value) (led : List (Addr × Obj)) (s s₂ : Shared) : Prop := P ∧ ∃ h' tk, s₂ = { s with heap := h', toks := tk } ∧ Fr h₀ L h' m ∧ News h₀ L h' led
theorem EltEnd.intro {P : Prop} {h₀ : Heap} {L : Addr} {m : Str → Option Value} {led led' : List (Addr × Obj)} {s : Shared} {h' : Heap} {tk : Nat} (hp : P) (F : Fr h₀ L h' m) (N : News h₀ L h' led') (hs : ∀ p ∈ led, p ∈ led') : EltEnd P h₀ L m led s { s with heap := h', toks := tk } :=
  ⟨hp, h', tk, rfl, F, fun p hp => N p (hs p hp)⟩
/-- a comprehension whose elements change nothing -/
theorem rest_pure {elt : PySem.Expr} {x : Str} {scope : Scope} {cl : List (Str × Addr)} {S : List (Addr × Obj) → Prop} {P : Nat → Value → Prop} {Fin : List Value → List (Addr × Obj) → Prop} {news : List (Addr × Obj)} (n : Nat) (f : Nat → Value → Value → Prop) (hS : S news)
    (helt : ∀ i v I oI C oC D oD m₂ h tk, i < n → P i v → NsObj oC m₂ → m₂ x = some v → Fr h₀ L h m → News h₀ L h ((I, oI) :: (C, oC) :: (D, oD) :: news) →
      wpAny (model prog w) A (eval elt (compEnvC scope cl C env)) (fun y s₂ => EltEnd (f i v y) h₀ L m ((I, oI) :: (C, oC) :: (D, oD) :: news) { s with heap := h, toks := tk } s₂) (fun _ _ => False) { s with heap := h, toks := tk })
    (fin : ∀ ys : List Value, ys.length = n → (∀ j y, ys[j]? = some y → ∃ v, P j v ∧ f j v y) → Fin ys news) :
    CompRest prog w A h₀ L m env elt x scope cl s S P Fin n 0 [] news := by
  have key : ∀ k i (ys : List Value), i + k = n → ys.length = i → (∀ j y, ys[j]? = some y → ∃ v, P j v ∧ f j v y) → CompRest prog w A h₀ L m env elt x scope cl s S P Fin k i ys news := by
    intro k
    induction k with
    | zero => intro i ys e1 e2 e3; exact CompRest.zero (fin ys (by lia) e3)
    | succ k ih =>
      intro i ys e1 e2 e3
      refine CompRest.succ fun v I oI C oC D m₂ h tk E' hP hns hx F N off hne => ?_
      refine wpAny_mono (helt i v I oI C oC D _ m₂ h tk (by lia) hP hns hx F N) (fun y s₂ h₂ => ?_) fun _ _ e => e.elim
      obtain ⟨hf, h', tk', rfl, F', N'⟩ := h₂
      refine ⟨h', tk', news, rfl, F', N', off, hS, ih (i + 1) (ys ++ [y]) (by lia) (by simp [e2]) ?_⟩
      intro j z hj
      by_cases hlt : j < ys.length
      · rw [List.getElem?_append_left hlt] at hj; exact e3 j z hj
      · have hj2 : j = ys.length := by
          rcases Nat.lt_trichotomy j ys.length with q | q | q
          · exact absurd q hlt
          · exact q
          · rw [List.getElem?_eq_none (by simp; lia)] at hj; cases hj
        subst hj2
        simp at hj
        subst hj
        exact ⟨v, by rw [e2]; exact hP, by rw [e2]; exact hf⟩
  exact key n 0 [] (by lia) rfl (by simp)
noncomputable def TestEnd (b ok : Bool) (T F : Prop) : Prop := ok = b ∧ (b = true → T) ∧ (b = false → F)
open LCt in
theorem rest_test {ct elt : PySem.Expr} {x : Str} {scope : Scope} {cl : List (Str × Addr)} {S : List (Addr × Obj) → Prop} {P : Nat → Value → Prop} {Fin : List Value → List (Addr × Obj) → Prop} {news : List (Addr × Obj)} (n : Nat) (p : Nat → Bool) (f : Nat → Value → Value → Prop) (hS : S news)
    (helt : ∀ i v I oI C oC D oD m₂ h tk, i < n → P i v → NsObj oC m₂ → m₂ x = some v → Fr h₀ L h m → News h₀ L h ((I, oI) :: (C, oC) :: (D, oD) :: news) →
      wpAny (model prog w) A (isTrue ct (compEnvC scope cl C env) (eval ct (compEnvC scope cl C env))) (fun ok s' => TestEnd (p i) ok
        (wpAny (model prog w) A (eval elt (compEnvC scope cl C env)) (fun y s₂ => EltEnd (f i v y) h₀ L m ((I, oI) :: (C, oC) :: (D, oD) :: news) { s with heap := h, toks := tk } s₂) (fun _ _ => False) s')
        (EltEnd True h₀ L m ((I, oI) :: (C, oC) :: (D, oD) :: news) { s with heap := h, toks := tk } s')) (fun _ _ => False) { s with heap := h, toks := tk })
    (fin : ∀ ys : List Value, ys.length = ((List.range n).filter p).length → (∀ (j : Nat) (y : Value), ys[j]? = some y → ∃ i v, ((List.range n).filter p)[j]? = some i ∧ P i v ∧ f i v y) → Fin ys news) :
    CompRestT prog w A h₀ L m env ct elt x scope cl s S P Fin n 0 [] news := by
  have key : ∀ k i (ys : List Value), i + k = n → ys.length = ((List.range i).filter p).length → (∀ (j : Nat) (y : Value), ys[j]? = some y → ∃ i' v, ((List.range i).filter p)[j]? = some i' ∧ P i' v ∧ f i' v y) → CompRestT prog w A h₀ L m env ct elt x scope cl s S P Fin k i ys news := by
    intro k
    induction k with
    | zero => intro i ys e1 e2 e3; have : i = n := by lia
              subst this; exact CompRestT.zero (fin ys e2 e3)
    | succ k ih =>
      intro i ys e1 e2 e3
      refine CompRestT.succ fun v I oI C oC D m₂ h tk E' hP hns hx F N off hne => ?_
      refine wpAny_mono (helt i v I oI C oC D _ m₂ h tk (by lia) hP hns hx F N) (fun ok s₂ h₂ => ?_) fun _ _ e => e.elim
      obtain ⟨rfl, hT, hF⟩ := h₂
      cases hp : p i with
      | true =>
        simp only [if_true]
        refine wpAny_mono (hT hp) (fun y s₃ h₃ => ?_) fun _ _ e => e.elim
        obtain ⟨hf, h', tk', rfl, F', N'⟩ := h₃
        have hr : (List.range (i + 1)).filter p = (List.range i).filter p ++ [i] := by rw [List.range_succ, List.filter_append]; simp [hp]
        refine ⟨h', tk', news, rfl, F', N', off, hS, ih (i + 1) (ys ++ [y]) (by lia) (by rw [hr]; simp [e2]) ?_⟩
        intro j z hj
        rw [hr]
        by_cases hlt : j < ys.length
        · rw [List.getElem?_append_left hlt] at hj
          rw [List.getElem?_append_left (e2 ▸ hlt)]; exact e3 j z hj
        · have hj2 : j = ys.length := by
            rcases Nat.lt_trichotomy j ys.length with q | q | q
            · exact absurd q hlt
            · exact q
            · rw [List.getElem?_eq_none (by simp; lia)] at hj; cases hj
          subst hj2
          simp at hj
          subst hj
          exact ⟨i, v, by rw [e2]; simp, hP, hf⟩
      | false =>
        simp only [Bool.false_eq_true, if_false]
        obtain ⟨_, h', tk', rfl, F', N'⟩ := hF hp
        have hr : (List.range (i + 1)).filter p = (List.range i).filter p := by rw [List.range_succ, List.filter_append]; simp [hp]
        exact ⟨h', tk', news, rfl, F', N', off, hS, ih (i + 1) ys (by lia) (by rw [hr]; exact e2) (by rw [hr]; exact e3)⟩
  exact key n 0 [] (by lia) rfl (by simp)
end
theorem con_use {w : World} {f : Addr} {vs : List Value} {d : Nat} {Pre : List (Addr × Obj) → Prop} {Post : List (Addr × Obj) → List (Addr × Obj) → Value → Prop} (C : Con w f vs d Pre Post)
    {dp un : Nat} {gd : Option (List Code)} {cn : Str} {cs : Scope} {a : Addr} {ccd : Value} {cl : List (Str × Addr)} {outer : List Env} {A₀ : Around} {base : Heap} {p : Program} {loose : List Str} {mean : ExcName → Option Value} {mg mb : Str → Option Value}
    {h₀ : Heap} {L : Addr} {m : Str → Option Value} {news : List (Addr × Obj)} {s : Shared} {Q E : Value → Shared → Prop}
    (B : Below A₀ base outer h₀ := by k_asm) (F : Fr h₀ L s.heap m := by k_asm) (X : (H w.params).In h₀ := by k_asm) (N : News h₀ L s.heap news := by k_asm) (T : Top p loose mean mg mb h₀ := by k_asm) (hk : cs.kind = .function := by first | exact rfl | assumption) (hp : Pre news) (hd : dp + d < recursionLimit := by ktr_room) (hu : un + 8 * d < cLine := by ktr_units)
    (ret : ∀ r news' h' tk', Fr h₀ L h' m → News h₀ L h' news' → Post news news' r → Q r { s with heap := h', toks := tk' }) :
    wpAny (model prg w) (ktrTop dp un gd cn cs L a ccd cl outer) (call (.ref f) vs) Q E s := C _ _ _ _ _ _ _ _ _ _ _ _ _ _ _ _ _ _ _ _ _ _ _ B F X N T hk hp hd hu ret

theorem ints_get {vs : List Value} {ds : List Int} {i : Nat} {v : Value} (hi : IntsAre vs ds) (h : vs[i]? = some v) : ∃ n t, ds[i]? = some n ∧ v = .int n t := by
  have hlt : i < ds.length := by
    rw [← hi.length]
    rcases Nat.lt_or_ge i vs.length with q | q
    · exact q
    · rw [List.getElem?_eq_none q] at h; cases h
  obtain ⟨t, e⟩ := hi.get i ds[i] (by simp [hlt])
  rw [h] at e
  cases e
  exact ⟨_, t, by simp [hlt], rfl⟩
theorem all_ne {news : List (Addr × Obj)} {I : Addr} (h : ∀ p ∈ news, p.1 < I) : ∀ p ∈ news, p.1 ≠ I := fun p hp => Nat.ne_of_lt (h p hp)
theorem ints_of : ∀ {vs : List Value} {ds : List Int}, vs.length = ds.length → (∀ (j : Nat) (v : Value), vs[j]? = some v → ∃ n t, ds[j]? = some n ∧ v = .int n t) → IntsAre vs ds
  | [], [], _, _ => .nil
  | [], _ :: _, e, _ => by simp at e
  | _ :: _, [], e, _ => by simp at e
  | v :: vs, d :: ds, e, h => by
    obtain ⟨n, t, e1, e2⟩ := h 0 v rfl
    simp at e1
    subst e1; subst e2
    exact .cons _ _ (ints_of (by simpa using e) fun j v hj => by simpa using h (j + 1) v (by simpa using hj))
theorem ints_app : ∀ {vs vs' : List Value} {ds ds' : List Int}, IntsAre vs ds → IntsAre vs' ds' → IntsAre (vs ++ vs') (ds ++ ds')
  | _, _, _, _, .nil, h => h
  | _, _, _, _, .cons n t h, h' => .cons n t (ints_app h h')
theorem fr_say {h₀ h : Heap} {L : Addr} {m : Str → Option Value} (ps : List (Str × Value)) (hp : ∀ p ∈ ps, m p.1 = some p.2) (F : Fr h₀ L h m) : Fr h₀ L h (kstB m ps) := by
  have e : kstB m ps = m := by
    funext z
    exact kstB_eq hp fun _ => rfl
  rw [e]; exact F

theorem all_ne2 {news : List (Addr × Obj)} {I J : Addr} (h : ∀ p ∈ news, p.1 < I) (hl : @LE.le Nat _ I J) : ∀ p ∈ news, p.1 ≠ J := fun p hp => Nat.ne_of_lt (Nat.lt_of_lt_of_le (h p hp) hl)
theorem all_ne3 {news : List (Addr × Obj)} {I J : Addr} (h : AllLt I news) (hl : @LE.le Nat _ I J) : ∀ p ∈ news, p.1 ≠ J := fun p hp => Nat.ne_of_lt (Nat.lt_of_lt_of_le (kst_ltOf h p hp) hl)
theorem item_list {A : Around} {E : Value → Shared → Prop} {s : Shared} {h₀ : Heap} {L tl : Addr} {nw : List (Addr × Obj)} {refs : List Value} {c : Nat} {value slice : PySem.Expr} {i : Int} {u : Tok} {Q : Value → Shared → Prop} {prog : Program} {w : World}
    (N : News h₀ L s.heap nw := by k_asm) (hm : (tl, listOf refs.toArray c) ∈ nw := by walk_at "my mem") (h0 : 0 ≤ i := by (k_fmods; lia)) (h1 : i < refs.length := by (k_fmods; lia)) (h2 : refs.length < 2 ^ 62 := by lia) (h : ∀ v, refs[i.toNat]? = some v → Q v s)
    (hs : subscripted slice false (.ref tl) (.int i u) = operate [.ref tl, .int i u] (getItem (.ref tl) (.int i u)) := by with_unfolding_all rfl) :
    wpAny (model prog w) A (subscriptTail value slice (.ref tl) (.int i u)) Q E s := by
  have hL : s.heap.IsList tl refs.toArray := News.isList N hm
  have hlt : i.toNat < refs.length := by lia
  exact tail_any hL.typeIs slot_list_getitem.lookup (wpAny_getItem_list hL h0 (by lia) (x := refs[i.toNat]) (by simp [hlt]) (h _ (by simp [hlt]))) hs

theorem item_at {A : Around} {E : Value → Shared → Prop} {s : Shared} {h₀ : Heap} {L tl : Addr} {nw : List (Addr × Obj)} {refs : List Value} {c : Nat} {value slice : PySem.Expr} {i : Int} {u : Tok} {v : Value} {Q : Value → Shared → Prop} {prog : Program} {w : World}
    (N : News h₀ L s.heap nw := by k_asm) (hm : (tl, listOf refs.toArray c) ∈ nw := by walk_at "my mem") (h0 : 0 ≤ i := by first | lia | decide) (h1 : i < 2 ^ 62 := by first | lia | decide) (hx : refs[i.toNat]? = some v := by first | with_reducible assumption | exact rfl) (h : Q v s)
    (hs : subscripted slice false (.ref tl) (.int i u) = operate [.ref tl, .int i u] (getItem (.ref tl) (.int i u)) := by with_unfolding_all rfl) :
    wpAny (model prog w) A (subscriptTail value slice (.ref tl) (.int i u)) Q E s := by
  have hL : s.heap.IsList tl refs.toArray := News.isList N hm
  exact tail_any hL.typeIs slot_list_getitem.lookup (wpAny_getItem_list hL h0 (by lia) (x := v) (by simpa using hx) h) hs
section
variable {M : Model} {A : Around} {E : Value → Shared → Prop} {s : Shared} {scope : Scope} {cl : List (Str × Addr)} {C c : Addr} {env : Env} {h₀ : Heap} {L : Addr} {news : List (Addr × Obj)} {o : Obj} {x : Str} {pos : Pos} {v : Value} {Q : Value → Shared → Prop}
theorem ld_cellC (N : News h₀ L s.heap news) (hc : cl.lookup x = some c) (hm : (c, o) ∈ news) (hd : o.data = .cell (some v)) (h : Q v s)
    (hk : (compEnvC scope cl C env).scope.kind = .function) (hl : (compEnvC scope cl C env).kindOf x = some .cell) (hb : (x == ("__debug__" : Str)) = false) :
    wpAny M A (eval (.Name x pos) (compEnvC scope cl C env)) Q E s := ldCellK hc ⟨o, N.get hm, hd⟩ h hk hl hb
noncomputable def CellAt (nw : List (Addr × Obj)) (c : Addr) (v : Value) : Prop := ∃ o, (c, o) ∈ nw ∧ o.data = .cell (some v)
theorem ld_cellA {nw : List (Addr × Obj)} (N : News h₀ L s.heap news := by k_asm) (hc : cl.lookup x = some c := by exact rfl) (hA : CellAt nw c v := by with_reducible assumption) (hs : ∀ p ∈ nw, p ∈ news := by walk_at "my sub") (h : Q v s)
    (hk : (compEnvC scope cl C env).scope.kind = .function := by exact rfl) (hl : (compEnvC scope cl C env).kindOf x = some .cell := by exact rfl) (hb : (x == ("__debug__" : Str)) = false := by decide) :
    wpAny M A (eval (.Name x pos) (compEnvC scope cl C env)) Q E s := by
  obtain ⟨o, hm, hd⟩ := hA
  exact ldCellK hc ⟨o, N.get (hs _ hm), hd⟩ h hk hl hb
theorem ld_cellB {nw : List (Addr × Obj)} {cn : Str} {cs : Scope} {a : Addr} {ccd : Value} (N : News h₀ L s.heap news := by k_asm) (hc : cl.lookup x = some c := by exact rfl) (hA : CellAt nw c v := by with_reducible assumption) (hs : ∀ p ∈ nw, p ∈ news := by walk_at "my sub") (h : Q v s)
    (hk : cs.kind = .function := by exact rfl) (hx : (envX cn cs L a ccd cl).kindOf x = some .cell := by exact rfl) (hb : (x == ("__debug__" : Str)) = false := by decide) :
    wpAny M A (eval (.Name x pos) (envX cn cs L a ccd cl)) Q E s := by
  obtain ⟨o, hm, hd⟩ := hA
  exact nameX_C (E := E) N hc (hs _ hm) hd h hk hx hb
theorem first_of {h : Heap} {a : Addr} {o : Obj} {nw : List (Addr × Obj)} (_N : News h₀ L h ((a, o) :: nw)) : ∃ a', a' = a := ⟨a, rfl⟩
theorem led_of {h : Heap} {nw : List (Addr × Obj)} (_N : News h₀ L h nw) : ∃ nw', nw' = nw := ⟨nw, rfl⟩
theorem fr_of {h : Heap} {m : Str → Option Value} (_F : Fr h₀ L h m) : ∃ m', m' = m := ⟨m, rfl⟩
end
theorem sum_led {prog : Program} {w : World} {A : Around} {E : Value → Shared → Prop} {s : Shared} {h₀ : Heap} {L l : Addr} {m : Str → Option Value} {news : List (Addr × Obj)} {arr : Array Value} {c : Nat} {ns : List Int} {Q : Value → Shared → Prop}
    (hh : A.handled = none := by exact rfl) (F : Fr h₀ L s.heap m := by k_asm) (N : News h₀ L s.heap news := by k_asm) (hm : (l, listOf arr c) ∈ news := by walk_at "my mem") (hi : IntsAre arr.toList ns := by walk_at "my ints")
    (h : ∀ h' tk t', Fr h₀ L h' m → News h₀ L h' news → Q (.int ns.sum t') { s with heap := h', toks := tk }) :
    wpAny (model prog w) A (call (.builtin "sum") [.ref l]) Q E s :=
  sumK (vs := arr.toList) hh F N (by rw [Array.toArray_toList]; exact News.isList N hm) hi h
theorem mul_led {prog : Program} {w : World} {A : Around} {E : Value → Shared → Prop} {s : Shared} {h₀ : Heap} {L l : Addr} {m : Str → Option Value} {news : List (Addr × Obj)} {v : Value} {c : Nat} {x : Int} {u : Tok} {Q : Value → Shared → Prop}
    (F : Fr h₀ L s.heap m := by k_asm) (N : News h₀ L s.heap news := by k_asm) (hm : (l, listOf [v].toArray c) ∈ news := by walk_at "my mem") (hx : x.natAbs ≤ 10000 := by first | lia | (with_reducible assumption))
    (h : ∀ D h', Fr h₀ L h' m → News h₀ L h' ((D, listOf (List.replicate x.toNat v).toArray 0) :: news) → (∀ p ∈ news, p.1 < D) → Q (.ref D) { s with heap := h' }) :
    wpAny (model prog w) A (binaryOp .Mult (.ref l) (.int x u)) Q E s := by
  refine mul_list F N (N _ hm).1 (by lia) (by lia) (by simp; lia) fun h' F' N' => h _ h' F' ?_ fun p hp => Heap.lt_size (N p hp).1
  have e : ∀ n : Nat, ∀ acc : Array Value, List.foldl (fun x1 x2 => x1 ++ x2) acc (List.replicate n [v].toArray) = acc ++ (List.replicate n v).toArray := by
    intro n
    induction n with
    | zero => intro acc; simp
    | succ n ih => intro acc; rw [List.replicate_succ, List.foldl_cons, ih, List.replicate_succ, Array.append_assoc]; apply Array.ext'; simp
  have := e x.toNat #[]
  simp only [List.isEmpty_toArray, List.isEmpty_cons, Bool.false_eq_true, if_false] at N'
  rw [this] at N'
  simpa using N'
theorem item_last {A : Around} {E : Value → Shared → Prop} {s : Shared} {h₀ : Heap} {L tl : Addr} {nw : List (Addr × Obj)} {refs : List Value} {c : Nat} {value slice : PySem.Expr} {u : Tok} {v : Value} {Q : Value → Shared → Prop} {prog : Program} {w : World}
    (N : News h₀ L s.heap nw := by k_asm) (hm : (tl, listOf refs.toArray c) ∈ nw := by walk_at "my mem") (hne : 0 < refs.length := by with_reducible assumption) (hx : refs[refs.length - 1]? = some v := by with_reducible assumption) (h : Q v s)
    (hs : subscripted slice false (.ref tl) (.int (-1) u) = operate [.ref tl, .int (-1) u] (getItem (.ref tl) (.int (-1) u)) := by with_unfolding_all rfl) :
    wpAny (model prog w) A (subscriptTail value slice (.ref tl) (.int (-1) u)) Q E s := by
  have hL : s.heap.IsList tl refs.toArray := News.isList N hm
  refine tail_any hL.typeIs slot_list_getitem.lookup (wpAny_getItem_list_neg hL (by decide) (by simp; lia) (by decide) (x := v) ?_ h) hs
  have e : ((-1 : Int) + (refs.toArray.size : Int)).toNat = refs.length - 1 := by simp; lia
  rw [e]; simpa using hx
noncomputable def MyStop (P : Prop) : Prop := P
theorem wpAny_stop {α : Type} {M : Model} {A : Around} {E : Value → Shared → Prop} {s : Shared} {t : Sem α} {Q : α → Shared → Prop} (h : wpAny M A t (fun a s' => MyStop (Q a s')) E s) : wpAny M A t Q E s := h
theorem MyStop.intro {P : Prop} (h : P) : MyStop P := h
theorem news_dup {h₀ h : Heap} {L : Addr} {nw : List (Addr × Obj)} {p : Addr × Obj} (N : News h₀ L h nw) (hm : p ∈ nw) : News h₀ L h (p :: nw) := fun q hq => by
  rcases List.mem_cons.mp hq with rfl | hq
  · exact N _ hm
  · exact N q hq
theorem news_sub {h₀ h : Heap} {L : Addr} {nw nw' : List (Addr × Obj)} (N : News h₀ L h nw) (hs : ∀ p ∈ nw', p ∈ nw) : News h₀ L h nw' := fun q hq => N q (hs q hq)
section
variable {prog : Program} {w : World} {A : Around} {E : Value → Shared → Prop} {s : Shared} {h₀ : Heap} {L a b : Addr} {m : Str → Option Value} {news : List (Addr × Obj)} {xs ys : List Value} {c d : Nat} {Q : Value → Shared → Prop}
theorem cat_list (F : Fr h₀ L s.heap m := by k_asm) (N : News h₀ L s.heap news := by k_asm) (ha : (a, listOf xs.toArray c) ∈ news := by walk_at "my mem") (hb : (b, listOf ys.toArray d) ∈ news := by walk_at "my mem") (hsz : xs.length + ys.length ≤ sizeLine := by first | (rw [PySem.sizeLine_eq]; simp only [List.length_cons, List.length_nil]; lia) | (first | decide | (simp only [PySem.sizeLine_eq, List.length_append, List.length_cons, List.length_nil] at *; lia)))
    (h : ∀ D h', Fr h₀ L h' m → News h₀ L h' ((D, listOf (xs ++ ys).toArray 0) :: news) → (∀ p ∈ news, p.1 < D) → Q (.ref D) { s with heap := h' }) :
    wpAny (model prog w) A (binaryOp .Add (.ref a) (.ref b)) Q E s :=
  add_lists (vs := xs) (ws := ys) (hsz := hsz) F N (News.isList N ha) (News.isList N hb) fun h' F' N' => h _ h' F' N' fun p hp => Heap.lt_size (N p hp).1
end
theorem words2 : True := by
  (k_with "m my g1" => (with_reducible show wpAny _ _ (PySem.call (Value.builtin _) [Value.ref _]) _ _ _))
  (k_with "m my g2" => (with_reducible show wpAny _ _ (PySem.call (Value.builtin _) [Value.ref _, _]) _ _ _))
  (k_with "m my g3" => (with_reducible show wpAny _ _ (PySem.call (Value.builtin _) [Value.str _ _, Value.ref _]) _ _ _))
  (k_with "m my ga" => (((with_reducible show wpAny _ _ (PySem.call (Value.builtin _) (_ ++ _)) _ _ _); dsimp only [List.cons_append, List.nil_append])))
  (k_with "m my back" => ((intro r9w news9w h9w tk9w F9w N9w P9w; obtain ⟨e9w, t9w, e8w⟩ := P9w; subst e9w; subst e8w; (try dsimp only); (try k_fold))))
  (k_with "m my enter" => ((refine' code_def ?k1 ?k2 ?k3 ?k4 ?k5 ?kA ?kF ?kK ?k6 ?k7 ?k8 ?k9 ?kB ?_ ?c2 ?c3 ?c4 ?c5; (case kA => exact rfl); (case kF => exact rfl); (case kK => assumption); (case k1 => k_asm); (case k2 => k_asm); (case k3 => k_asm); (case k4 => k_asm); (case k5 => k_asm); (case k6 => k_is); (case k7 => k_is); (case k8 => ktr_room); (case k9 => first | exact BindsTo.of_eq rfl | exact binds_K (by k_in) rfl (by k_is) rfl rfl rfl); (case c5 => decide); (case kB => exact locs rfl); (case c2 => exact rfl); (case c3 => exact rfl); (case c4 => exact rfl); k_whole)))
  (k_with "m call builtin:iter" => ((k_here; walk_at "my g1"; k_dflt (refine it_iter (h := ?_); k_whole); intro I'w h'w o'w F'w N'w l1w l2w hi'w; (try k_lt l1w); (try k_lt2 l2w))))
  (k_with "m compareOp Is str ref" => ((refine is_str_ref ?_)))
  (k_with "m exec For Name Name cons nil" => ((refine wpAny_noRaise ?_; k_dflt (refine for_stmt (h := ?_)))))
  (k_with "m pyIter ref" => ((k_dflt (refine it_self (h := ?_)))))
  (k_with "m call builtin:next" => ((k_here; walk_at "my g1"; k_dflt (refine it_next (h := ?_); k_whole); intro h'w o'w F'w N'w hi'w)))
  (k_with "m compareOp Is ref ref" => ((k_dflt (refine wpAny_is_ref_self ?_))))
  trivial
local macro_rules | `(tactic| k_all) => `(tactic| first | exact all_ne (by assumption) | exact all_ne2 (by assumption) (by lia) | exact all_ne3 (by assumption) (by lia))
theorem words3 : True := by
  (k_with "m my mem" => (first | exact List.Mem.head _ | with_reducible assumption | assumption | (refine' List.Mem.tail _ ?_; walk_at "my mem")))
  (k_with "m my enterC" => ((refine' code_defC ?k1 ?k2 ?k3 ?k4 ?k5 ?kA ?kF ?kK ?k6 ?k7 ?k8 ?k9 ?kB ?kD ?_ ?c2 ?c3 ?c4; (case kA => exact rfl); (case kF => exact rfl); (case kK => assumption); (case k1 => k_asm); (case k2 => k_asm); (case k3 => k_asm); (case k4 => k_asm); (case k5 => k_asm); (case k6 => k_is); (case k7 => k_is); (case k8 => ktr_room); (case k9 => first | exact BindsTo.of_eq rfl | exact binds_K (by k_in) rfl (by k_is) rfl rfl rfl); (case kB => exact rfl); (case kD => decide +kernel); (case c2 => exact rfl); (case c3 => exact rfl); (case c4 => exact rfl); k_whole)))
  (k_with "m eval ListComp" => ((k_here; (with_reducible show wpAny _ _ (eval (PySem.Expr.ListComp _ [⟨PySem.Expr.Name _ _, _, [], _⟩] _ _) _) _ _ _); k_dflt (refine LCg.ListComp_U (F₀ := by k_asm) (by rfl) (by decide) (by rfl) (by decide) (by rfl) ?_); refine wpAny_stop ?_)))
  (k_with "m exec Assign cons ListComp" => ((k_here; (with_reducible show wpAny _ _ (exec (Stmt.Assign [_] (PySem.Expr.ListComp _ [⟨PySem.Expr.Name _ _, _, [], _⟩] _ _) _) _) _ _ _); k_dflt (refine LCg.Assign_ListComp_U (F₀ := by k_asm) (by rfl) (by with_unfolding_all rfl) (by rfl) (by decide) (by rfl) (by decide) (by rfl) (by rfl) (by rfl) ?_); refine wpAny_stop ?_)))
  (k_with "m exec Assign cons ListComp" => ((k_here; (with_reducible show wpAny _ _ (exec (Stmt.Assign [_] (PySem.Expr.ListComp _ [⟨_, _, [_], _⟩] _ _) _) _) _ _ _); k_dflt (refine LCt.Assign_ListComp_T (F₀ := by k_asm) (by rfl) (by with_unfolding_all rfl) (by rfl) (by decide) (by rfl) (by decide) (by rfl) (by rfl) (by rfl) ?_); refine wpAny_stop ?_)))
  (k_with "m call builtin:len" => ((k_here; walk_at "my g1"; k_dflt (refine kst_len (by k_asm) (by walk_at "my mem") (by exact rfl) (by lia) ?_; k_whole))))
  (k_with "m my sub" => (first | exact List.forall_mem_nil _ | (with_reducible refine List.forall_mem_cons.mpr ⟨?_, ?_⟩; (focus (walk_at "my mem")); walk_at "my sub") | exact fun _ h => h | (intro pw hpw; repeat' (first | exact hpw | refine' List.Mem.tail _ ?_))))
  (k_with "m eval Name" => ((k_here; (with_reducible show wpAny _ _ (eval (PySem.Expr.Name _ _) (compEnvC _ _ _ _)) _ _ _); k_dflt (refine ld_cellA (h := ?_); k_whole))))
  (k_with "m eval Name" => ((k_here; (with_reducible show wpAny _ _ (eval (PySem.Expr.Name _ _) (envOfC _ _ _ _ _)) _ _ _); k_dflt (refine ld_cellB (h := ?_); k_whole))))
  (k_with "m binaryOp Mult ref int" => ((k_here; k_dflt (refine mul_led (h := ?_); k_whole); intro D'w h'w F'w N'w l1'w; (try dsimp only))))
  (k_with "m my ints" => (first | with_reducible assumption | exact slice_ints_fromW (by with_reducible assumption) (by lia)))
  (k_with "m call builtin:sum" => ((k_here; walk_at "my g1"; k_dflt (refine sum_led (h := ?_); k_whole); intro h'w tk'w t'w F'w N'w; (try dsimp only))))
  (k_with "m subscriptTail Name Slice ref ref" => ((k_here; (with_reducible show wpAny _ _ (subscriptTail _ (PySem.Expr.Slice _ _ none _) (Value.ref _) (Value.ref _)) _ _ _); k_dflt (refine kmk_slice (by k_asm) (by k_asm) (by exact News.isList (by k_asm) (by walk_at "my mem")) (by kmk_part) (by kmk_part) ?_ (by with_unfolding_all rfl) (by kmk_pure) (by (simp only [List.size_toArray, PySem.sizeLine_eq]; lia))); intro D'w h'w F'w N'w l1'w; (try dsimp only))))
  (k_with "m binaryOp Add ref ref" => ((k_here; k_dflt (refine cat_list (h := ?_); k_whole); intro D'w h'w F'w N'w l1'w; (try dsimp only))))
  trivial
/- what comes behind a statement, kept as one variable: its terms need not be copied at every step -/
noncomputable def Goto (K : Flow → Shared → Prop) (f : Flow) (s : Shared) : Prop := K f s
noncomputable def Cont (M : Model) (A : Around) (rest : List Stmt) (env : Env) (Q : Flow → Shared → Prop) (E : Value → Shared → Prop) (K : Flow → Shared → Prop) : Prop :=
  (∀ s', wpAny M A (execs rest env) Q E s' → K .next s') ∧ ∀ f s', f ≠ .next → Q f s' → K f s'
section
variable {M : Model} {A : Around} {st : Stmt} {rest : List Stmt} {env : Env} {Q K : Flow → Shared → Prop} {E : Value → Shared → Prop} {s : Shared} {f : Flow}
theorem execs_cut (h : ∀ K, Cont M A rest env Q E K → wpAny M A (exec st env) (Goto K) E s) : wpAny M A (execs (st :: rest) env) Q E s :=
  wpAny_execs_cons (h (fun f s' => match f with | .next => wpAny M A (execs rest env) Q E s' | f => Q f s') ⟨fun _ x => x, fun f s' hf x => by cases f <;> first | exact absurd rfl hf | exact x⟩)
theorem execs_one (h : wpAny M A (exec st env) Q E s) : wpAny M A (execs [st] env) Q E s :=
  wpAny_execs_cons (wpAny_mono h (fun f s' x => by cases f <;> first | exact wpAny_execs_nil x | exact x) fun _ _ x => x)
theorem goto_next (C : Cont M A rest env Q E K) (h : wpAny M A (execs rest env) Q E s) : Goto K .next s := C.1 _ h
theorem goto_ret {v : Value} (C : Cont M A rest env Q E K) (h : Q (.ret v) s) : Goto K (.ret v) s := C.2 _ _ nofun h
theorem goto_brk (C : Cont M A rest env Q E K) (h : Q .brk s) : Goto K .brk s := C.2 _ _ nofun h
theorem goto_cont (C : Cont M A rest env Q E K) (h : Q .cont s) : Goto K .cont s := C.2 _ _ nofun h
theorem gen_toks {α : Type} {Q : α → Shared → Prop} {t : Sem α} {h : Heap} {g : Array GenState} {d : Drawn} {o : OsState} {tk : Nat} (H : ∀ tk, wpAny M A t Q E ⟨h, g, d, tk, o⟩) : wpAny M A t Q E ⟨h, g, d, tk + 1, o⟩ := H _
end
theorem words4 : True := by
  (k_with "m execs cons" => (((first | with_reducible refine execs_one ?_ | (with_reducible refine execs_cut ?_; intro _ _)); try dsimp only)))
  (k_with "m execs cons" => ((with_reducible refine gen_toks ?_; intro tkw)))
  (k_with "m execs nil" => ((with_reducible refine gen_toks ?_; intro tkw)))
  (k_with "m Goto next" => (with_reducible refine goto_next (by with_reducible assumption) ?_))
  (k_with "m Goto" => (first | with_reducible refine goto_ret (by with_reducible assumption) ?_ | with_reducible refine goto_brk (by with_reducible assumption) ?_ | with_reducible refine goto_cont (by with_reducible assumption) ?_))
  trivial
section
/-- what strip_quotes does -/
noncomputable def stripQ (x : Str) : Str :=
  let y := if Txt.startswith x (Str.ofString "\"") then Txt.slice x (some 1) none else x
  if Txt.endswith y (Str.ofString "\"") then Txt.slice y none (some (-1)) else y

abbrev qt : Str := Str.ofString "\""
theorem strip_tt {x : Str} (h1 : Txt.startswith x (Str.ofString "\"") = true) (h2 : Txt.endswith (Txt.slice x (some 1) none) (Str.ofString "\"") = true) : Txt.slice (Txt.slice x (some 1) none) none (some (-1)) = stripQ x := by
  unfold stripQ; rw [h1]; simp [h2]
theorem strip_tf {x : Str} (h1 : Txt.startswith x (Str.ofString "\"") = true) (h2 : Txt.endswith (Txt.slice x (some 1) none) (Str.ofString "\"") = false) : Txt.slice x (some 1) none = stripQ x := by
  unfold stripQ; rw [h1]; simp [h2]
theorem strip_ft {x : Str} (h1 : Txt.startswith x (Str.ofString "\"") = false) (h2 : Txt.endswith x (Str.ofString "\"") = true) : Txt.slice x none (some (-1)) = stripQ x := by
  unfold stripQ; rw [h1]; simp [h2]
theorem strip_ff {x : Str} (h1 : Txt.startswith x (Str.ofString "\"") = false) (h2 : Txt.endswith x (Str.ofString "\"") = false) : x = stripQ x := by
  unfold stripQ; rw [h1]; simp [h2]

set_option maxRecDepth 100000 in
set_option maxHeartbeats 4000000 in
theorem strip_con (w : World) (x : Str) (t : Tok) (hx : x.length ≤ 100000) : Con w 38 [.str x t] 1 (fun _ => True) (fun news news' r => news = news' ∧ ∃ t', r = .str (stripQ x) t') := by
  intro dp un gd cn cs a ccd cl outer A₀ base p loose mean mg mb h₀ L m news s Q E B F X N T hk _ hd hu hret
  w_on
  refine wpAny_call ?_
  k_dflt ktr_enter
  k_steps
  all_goals (refine hret _ news _ _ (by k_asm) (by k_asm) ⟨rfl, _, congrArg (Value.str · _) ?_⟩; (with_reducible first | exact strip_tt (by assumption) (by assumption) | exact strip_tf (by assumption) (by assumption) | exact strip_ft (by assumption) (by assumption) | exact strip_ff (by assumption) (by assumption)))
theorem strip_len (x : Str) : (stripQ x).length ≤ x.length := by
  have h : ∀ (y : Str) a b, (Txt.slice y a b).length ≤ y.length := fun y a b => PyProof.Txt.length_slice_le y a b
  unfold stripQ
  dsimp only
  split <;> split
  · exact Nat.le_trans (h _ _ _) (h _ _ _)
  · exact h _ _ _
  · exact h _ _ _
  · exact Nat.le_refl _
end
section
theorem words10 : True := by
  (k_with "m call ref" => ((k_here; (with_reducible show wpAny _ _ (PySem.call (Value.ref 38) _) _ _ _); k_dflt (refine con_use (strip_con _ _ _ (by omega)) (hp := by trivial) (ret := ?_)); walk_at "my back")))
  trivial

noncomputable def deedS (x : Str) (d : Int) : Str := if d = 0 then Str.ofString "\"" ++ x else if d = 1 then x ++ Str.ofString "\"" else stripQ x

theorem deed_0 {x : Str} {d : Int} (h : d = 0) : Str.ofString "\"" ++ x = deedS x d := by subst h; rfl
theorem deed_1 {x : Str} {d : Int} (h : d = 1) : x ++ Str.ofString "\"" = deedS x d := by subst h; rfl
theorem deed_2 {x : Str} {d : Int} (h : d ≠ 0) (h1 : d ≠ 1) : stripQ x = deedS x d := by unfold deedS; rw [if_neg h, if_neg h1]
set_option maxRecDepth 100000 in
set_option maxHeartbeats 4000000 in
theorem deed_con (w : World) (x : Str) (t : Tok) (d : Int) (td : Tok) (hx : x.length ≤ 90000) : Con w 97 [.str x t, .int d td] 2 (fun _ => True) (fun news news' r => news = news' ∧ ∃ t', r = .str (deedS x d) t') := by
  intro dp un gd cn cs a ccd cl outer A₀ base p loose mean mg mb h₀ L m news s Q E B F X N T hk _ hd hu hret
  w_on
  refine wpAny_call ?_
  k_dflt ktr_enter
  k_steps
  all_goals (refine hret _ news _ _ (by k_asm) (by k_asm) ⟨rfl, _, congrArg (Value.str · _) ?_⟩; (with_reducible first | exact deed_0 (by assumption) | exact deed_1 (by assumption) | exact deed_2 (by assumption) (by assumption)))
end
theorem words11 : True := by
  k_with_none
  (k_with "m my g1" => (with_reducible show wpAny _ _ (PySem.call (Value.builtin _) [Value.ref _]) _ _ _))
  (k_with "m my g2" => (with_reducible show wpAny _ _ (PySem.call (Value.builtin _) [Value.ref _, _]) _ _ _))
  (k_with "m my g3" => (with_reducible show wpAny _ _ (PySem.call (Value.builtin _) [Value.str _ _, Value.ref _]) _ _ _))
  (k_with "m my ga" => (((with_reducible show wpAny _ _ (PySem.call (Value.builtin _) (_ ++ _)) _ _ _); dsimp only [List.cons_append, List.nil_append])))
  (k_with "m my back" => ((intro r9w news9w h9w tk9w F9w N9w P9w; obtain ⟨e9w, t9w, e8w⟩ := P9w; subst e9w; subst e8w; (try dsimp only); (try k_fold))))
  (k_with "m my enter" => ((refine' code_def ?k1 ?k2 ?k3 ?k4 ?k5 ?kA ?kF ?kK ?k6 ?k7 ?k8 ?k9 ?kB ?_ ?c2 ?c3 ?c4 ?c5; (case kA => exact rfl); (case kF => exact rfl); (case kK => assumption); (case k1 => k_asm); (case k2 => k_asm); (case k3 => k_asm); (case k4 => k_asm); (case k5 => k_asm); (case k6 => k_is); (case k7 => k_is); (case k8 => ktr_room); (case k9 => first | exact BindsTo.of_eq rfl | exact binds_K (by k_in) rfl (by k_is) rfl rfl rfl); (case c5 => decide); (case kB => exact locs rfl); (case c2 => exact rfl); (case c3 => exact rfl); (case c4 => exact rfl); k_whole)))
  (k_with "m call builtin:iter" => ((k_here; walk_at "my g1"; k_dflt (refine it_iter (h := ?_); k_whole); intro I'w h'w o'w F'w N'w l1w l2w hi'w; (try k_lt l1w); (try k_lt2 l2w))))
  (k_with "m compareOp Is str ref" => ((refine is_str_ref ?_)))
  (k_with "m exec For Name Name cons nil" => ((refine wpAny_noRaise ?_; k_dflt (refine for_stmt (h := ?_)))))
  (k_with "m pyIter ref" => ((k_dflt (refine it_self (h := ?_)))))
  (k_with "m call builtin:next" => ((k_here; walk_at "my g1"; k_dflt (refine it_next (h := ?_); k_whole); intro h'w o'w F'w N'w hi'w)))
  (k_with "m compareOp Is ref ref" => ((k_dflt (refine wpAny_is_ref_self ?_))))
  (k_with "m my mem" => (first | exact List.Mem.head _ | with_reducible assumption | assumption | (refine' List.Mem.tail _ ?_; walk_at "my mem")))
  (k_with "m my enterC" => ((refine' code_defC ?k1 ?k2 ?k3 ?k4 ?k5 ?kA ?kF ?kK ?k6 ?k7 ?k8 ?k9 ?kB ?kD ?_ ?c2 ?c3 ?c4; (case kA => exact rfl); (case kF => exact rfl); (case kK => assumption); (case k1 => k_asm); (case k2 => k_asm); (case k3 => k_asm); (case k4 => k_asm); (case k5 => k_asm); (case k6 => k_is); (case k7 => k_is); (case k8 => ktr_room); (case k9 => first | exact BindsTo.of_eq rfl | exact binds_K (by k_in) rfl (by k_is) rfl rfl rfl); (case kB => exact rfl); (case kD => decide +kernel); (case c2 => exact rfl); (case c3 => exact rfl); (case c4 => exact rfl); k_whole)))
  (k_with "m eval ListComp" => ((k_here; (with_reducible show wpAny _ _ (eval (PySem.Expr.ListComp _ [⟨PySem.Expr.Name _ _, _, [], _⟩] _ _) _) _ _ _); k_dflt (refine LCg.ListComp_U (F₀ := by k_asm) (by rfl) (by decide) (by rfl) (by decide) (by rfl) ?_); refine wpAny_stop ?_)))
  (k_with "m exec Assign cons ListComp" => ((k_here; (with_reducible show wpAny _ _ (exec (Stmt.Assign [_] (PySem.Expr.ListComp _ [⟨PySem.Expr.Name _ _, _, [], _⟩] _ _) _) _) _ _ _); k_dflt (refine LCg.Assign_ListComp_U (F₀ := by k_asm) (by rfl) (by with_unfolding_all rfl) (by rfl) (by decide) (by rfl) (by decide) (by rfl) (by rfl) (by rfl) ?_); refine wpAny_stop ?_)))
  (k_with "m exec Assign cons ListComp" => ((k_here; (with_reducible show wpAny _ _ (exec (Stmt.Assign [_] (PySem.Expr.ListComp _ [⟨_, _, [_], _⟩] _ _) _) _) _ _ _); k_dflt (refine LCt.Assign_ListComp_T (F₀ := by k_asm) (by rfl) (by with_unfolding_all rfl) (by rfl) (by decide) (by rfl) (by decide) (by rfl) (by rfl) (by rfl) ?_); refine wpAny_stop ?_)))
  (k_with "m call builtin:len" => ((k_here; walk_at "my g1"; k_dflt (refine kst_len (by k_asm) (by walk_at "my mem") (by exact rfl) (by lia) ?_; k_whole))))
  (k_with "m my sub" => (first | exact List.forall_mem_nil _ | (with_reducible refine List.forall_mem_cons.mpr ⟨?_, ?_⟩; (focus (walk_at "my mem")); walk_at "my sub") | exact fun _ h => h | (intro pw hpw; repeat' (first | exact hpw | refine' List.Mem.tail _ ?_))))
  (k_with "m eval Name" => ((k_here; (with_reducible show wpAny _ _ (eval (PySem.Expr.Name _ _) (compEnvC _ _ _ _)) _ _ _); k_dflt (refine ld_cellA (h := ?_); k_whole))))
  (k_with "m eval Name" => ((k_here; (with_reducible show wpAny _ _ (eval (PySem.Expr.Name _ _) (envOfC _ _ _ _ _)) _ _ _); k_dflt (refine ld_cellB (h := ?_); k_whole))))
  (k_with "m binaryOp Mult ref int" => ((k_here; k_dflt (refine mul_led (h := ?_); k_whole); intro D'w h'w F'w N'w l1'w; (try dsimp only))))
  (k_with "m my ints" => (first | with_reducible assumption | exact slice_ints_fromW (by with_reducible assumption) (by lia)))
  (k_with "m call builtin:sum" => ((k_here; walk_at "my g1"; k_dflt (refine sum_led (h := ?_); k_whole); intro h'w tk'w t'w F'w N'w; (try dsimp only))))
  (k_with "m subscriptTail Name Slice ref ref" => ((k_here; (with_reducible show wpAny _ _ (subscriptTail _ (PySem.Expr.Slice _ _ none _) (Value.ref _) (Value.ref _)) _ _ _); k_dflt (refine kmk_slice (by k_asm) (by k_asm) (by exact News.isList (by k_asm) (by walk_at "my mem")) (by kmk_part) (by kmk_part) ?_ (by with_unfolding_all rfl) (by kmk_pure) (by (simp only [List.size_toArray, PySem.sizeLine_eq]; lia))); intro D'w h'w F'w N'w l1'w; (try dsimp only))))
  (k_with "m binaryOp Add ref ref" => ((k_here; k_dflt (refine cat_list (h := ?_); k_whole); intro D'w h'w F'w N'w l1'w; (try dsimp only))))
  (k_with "m execs cons" => (((first | with_reducible refine execs_one ?_ | (with_reducible refine execs_cut ?_; intro _ _)); try dsimp only)))
  (k_with "m execs cons" => ((with_reducible refine gen_toks ?_; intro tkw)))
  (k_with "m execs nil" => ((with_reducible refine gen_toks ?_; intro tkw)))
  (k_with "m Goto next" => (with_reducible refine goto_next (by with_reducible assumption) ?_))
  (k_with "m Goto" => (first | with_reducible refine goto_ret (by with_reducible assumption) ?_ | with_reducible refine goto_brk (by with_reducible assumption) ?_ | with_reducible refine goto_cont (by with_reducible assumption) ?_))
  trivial
section
theorem words14 : True := by
  (k_with "m call ref" => ((k_here; (with_reducible show wpAny _ _ (PySem.call (Value.ref 97) _) _ _ _); k_dflt (refine con_use (deed_con _ _ _ _ _ (by first | assumption | omega)) (hp := by trivial) (ret := ?_)); walk_at "my back")))
  trivial
theorem deedS_len (x : Str) (d : Int) : (deedS x d).length ≤ x.length + 1 := by
  have q : (Str.ofString "\"").length = 1 := by decide +kernel
  unfold deedS
  split
  · rw [Str.length_append, q]; omega
  · split
    · rw [Str.length_append, q]; omega
    · have := strip_len x; omega
theorem deeds_len (ds : List Int) : ∀ x : Str, (ds.foldl deedS x).length ≤ x.length + ds.length := by
  induction ds with
  | nil => intro x; simp
  | cons d r ih => intro x; have := ih (deedS x d); have := deedS_len x d; simp only [List.foldl_cons, List.length_cons]; omega
set_option maxRecDepth 100000 in
set_option maxHeartbeats 4000000 in
theorem reduce3_con (w : World) (x : Str) (t : Tok) (l : Addr) (vs : List Value) (ds : List Int) (c : Nat) (hi : IntsAre vs ds) (hx : x.length ≤ 1000) (hl : ds.length ≤ 100) :
    Con w 85 [.ref 97, .ref l, .str x t] 4 (fun news => (l, listOf vs.toArray c) ∈ news) (fun news news' r => news = news' ∧ ∃ t', r = .str (ds.foldl deedS x) t') := by
  intro dp un gd cn cs a ccd cl outer A₀ base p loose mean mg mb h₀ L m news s Q E B F X N T hk hpre hd hu hret
  w_on
  refine wpAny_call ?_
  k_dflt (walk_at "my enter")
  intro g1 L1 h1 FG1 F1 N1 B1 X1 T1
  (try dsimp only)
  refine wpAny_noRaise ?_
  (try k_fold)
  k_steps
  rename (∀ p ∈ news, p.1 < _) => l1
  rename ItOf _ _ _ => hit
  rename Fr _ _ _ _ => F1
  rename News _ _ _ _ => N1
  refine' for_list (items := vs) (i₀ := 0) (fun i m₁ news₁ => news₁ = news ∧ (∃ t, m₁ (Str.ofString "value") = some (.str ((ds.take i).foldl deedS x) t)) ∧ m₁ (Str.ofString "function") = some (.ref 97)) ?hh F1 N1 hit ?h0 (Nat.zero_le _) ?hoff ?hlist ?turn ?done ?ht
  case hh => rfl
  case ht => intro _; rfl
  case h0 => exact ⟨rfl, ⟨_, rfl⟩, rfl⟩
  case hoff =>
    rintro i m₁ news₁ ⟨rfl, _⟩ p hp
    exact Nat.ne_of_lt (l1 p hp)
  case hlist =>
    rintro i m₁ news₁ h ⟨rfl, _⟩ F N
    exact News.isList N hpre
  case turn =>
    rintro i v m₁ news₁ h tk oI hv ⟨rfl, ⟨t1, hm1⟩, hm2⟩ F1 N1 hit
    obtain ⟨n, tn, hn, rfl⟩ : ∃ n tn, ds[i]? = some n ∧ v = .int n tn := ints_get hi hv
    have hlen : ((ds.take i).foldl deedS x).length ≤ 90000 := by
      have := deeds_len (ds.take i) x
      have : (ds.take i).length ≤ ds.length := by rw [List.length_take]; omega
      omega
    have hs : (ds.take (i + 1)).foldl deedS x = deedS ((ds.take i).foldl deedS x) n := by
      rw [List.take_add_one, hn]; simp
    have F2 := fr_say [(Str.ofString "value", .str ((ds.take i).foldl deedS x) t1), (Str.ofString "function", .ref 97)] (by simp [hm1, hm2]) F1
    clear F1
    generalize (ds.take i).foldl deedS x = y at *
    k_steps
    rename ItOf oI _ _ => hit'
    exact ⟨_, _, _, _, _, rfl, by assumption, by assumption, hit', rfl, ⟨_, by rw [hs]; rfl⟩, rfl⟩
  case done =>
    rintro m₁ news₁ h tk ⟨rfl, ⟨t1, hm1⟩, hm2⟩ F1 N1
    rw [hi.length, List.take_length] at hm1
    have F2 := fr_say [(Str.ofString "value", .str (ds.foldl deedS x) t1), (Str.ofString "function", .ref 97)] (by simp [hm1, hm2]) F1
    clear F1
    dsimp only
    k_steps
    exact hret _ _ _ _ (by assumption) (by assumption) ⟨rfl, _, rfl⟩

set_option maxRecDepth 100000 in
set_option maxHeartbeats 4000000 in
theorem reduce2_con (w : World) (x : Str) (t : Tok) (l : Addr) (vs : List Value) (ds : List Int) (c : Nat) (hi : IntsAre vs ds) (hx : x.length ≤ 1000) (hl : ds.length ≤ 100) :
    Con w 85 [.ref 97, .ref l] 4 (fun news => (l, listOf (.str x t :: vs).toArray c) ∈ news) (fun news news' r => news = news' ∧ ∃ t', r = .str (ds.foldl deedS x) t') := by
  intro dp un gd cn cs a ccd cl outer A₀ base p loose mean mg mb h₀ L m news s Q E B F X N T hk hpre hd hu hret
  w_on
  refine wpAny_call ?_
  k_dflt (walk_at "my enter")
  intro g1 L1 h1 FG1 F1 N1 B1 X1 T1
  (try dsimp only)
  refine wpAny_noRaise ?_
  (try k_fold)
  k_steps
  rename (∀ p ∈ news, p.1 < _) => l1
  rename ItOf _ _ (0 + 1) => hit
  rename Fr _ _ _ _ => F1
  rename News _ _ _ _ => N1
  refine' for_list (items := .str x t :: vs) (i₀ := 1) (fun i m₁ news₁ => 1 ≤ i ∧ news₁ = news ∧ (∃ t, m₁ (Str.ofString "value") = some (.str ((ds.take (i - 1)).foldl deedS x) t)) ∧ m₁ (Str.ofString "function") = some (.ref 97)) ?hh F1 N1 hit ?h0 (Nat.succ_le_succ (Nat.zero_le _)) ?hoff ?hlist ?turn ?done ?ht
  case hh => rfl
  case ht => intro _; rfl
  case h0 => exact ⟨Nat.le_refl _, rfl, ⟨_, rfl⟩, rfl⟩
  case hoff =>
    rintro i m₁ news₁ ⟨_, rfl, _⟩ p hp
    exact Nat.ne_of_lt (l1 p hp)
  case hlist =>
    rintro i m₁ news₁ h ⟨_, rfl, _⟩ F N
    exact News.isList N hpre
  case turn =>
    rintro i v m₁ news₁ h tk oI hv ⟨h1, rfl, ⟨t1, hm1⟩, hm2⟩ F1 N1 hit
    obtain ⟨k, rfl⟩ : ∃ k, i = k + 1 := ⟨i - 1, by omega⟩
    obtain ⟨n, tn, hn, rfl⟩ : ∃ n tn, ds[k]? = some n ∧ v = .int n tn := ints_get hi (by simpa using hv)
    simp only [Nat.add_sub_cancel] at hm1
    have hlen : ((ds.take k).foldl deedS x).length ≤ 90000 := by
      have := deeds_len (ds.take k) x
      have : (ds.take k).length ≤ ds.length := by rw [List.length_take]; omega
      omega
    have hs : (ds.take (k + 1)).foldl deedS x = deedS ((ds.take k).foldl deedS x) n := by
      rw [List.take_add_one, hn]; simp
    have F2 := fr_say [(Str.ofString "value", .str ((ds.take k).foldl deedS x) t1), (Str.ofString "function", .ref 97)] (by simp [hm1, hm2]) F1
    clear F1
    generalize (ds.take k).foldl deedS x = y at *
    k_steps
    rename ItOf oI _ _ => hit'
    exact ⟨_, _, _, _, _, rfl, by assumption, by assumption, hit', Nat.succ_le_succ (Nat.zero_le _), rfl, ⟨_, by rw [Nat.add_sub_cancel, hs]; rfl⟩, rfl⟩
  case done =>
    rintro m₁ news₁ h tk ⟨_, rfl, ⟨t1, hm1⟩, hm2⟩ F1 N1
    rw [List.length_cons, Nat.add_sub_cancel, hi.length, List.take_length] at hm1
    have F2 := fr_say [(Str.ofString "value", .str (ds.foldl deedS x) t1), (Str.ofString "function", .ref 97)] (by simp [hm1, hm2]) F1
    clear F1
    dsimp only
    k_steps
    exact hret _ _ _ _ (by assumption) (by assumption) ⟨rfl, _, rfl⟩
end
theorem words15 : True := by
  k_with_none
  (k_with "m my g1" => (with_reducible show wpAny _ _ (PySem.call (Value.builtin _) [Value.ref _]) _ _ _))
  (k_with "m my g2" => (with_reducible show wpAny _ _ (PySem.call (Value.builtin _) [Value.ref _, _]) _ _ _))
  (k_with "m my g3" => (with_reducible show wpAny _ _ (PySem.call (Value.builtin _) [Value.str _ _, Value.ref _]) _ _ _))
  (k_with "m my ga" => (((with_reducible show wpAny _ _ (PySem.call (Value.builtin _) (_ ++ _)) _ _ _); dsimp only [List.cons_append, List.nil_append])))
  (k_with "m my back" => ((intro r9w news9w h9w tk9w F9w N9w P9w; obtain ⟨e9w, t9w, e8w⟩ := P9w; subst e9w; subst e8w; (try dsimp only); (try k_fold))))
  (k_with "m my enter" => ((refine' code_def ?k1 ?k2 ?k3 ?k4 ?k5 ?kA ?kF ?kK ?k6 ?k7 ?k8 ?k9 ?kB ?_ ?c2 ?c3 ?c4 ?c5; (case kA => exact rfl); (case kF => exact rfl); (case kK => assumption); (case k1 => k_asm); (case k2 => k_asm); (case k3 => k_asm); (case k4 => k_asm); (case k5 => k_asm); (case k6 => k_is); (case k7 => k_is); (case k8 => ktr_room); (case k9 => first | exact BindsTo.of_eq rfl | exact binds_K (by k_in) rfl (by k_is) rfl rfl rfl); (case c5 => decide); (case kB => exact locs rfl); (case c2 => exact rfl); (case c3 => exact rfl); (case c4 => exact rfl); k_whole)))
  (k_with "m call builtin:iter" => ((k_here; walk_at "my g1"; k_dflt (refine it_iter (h := ?_); k_whole); intro I'w h'w o'w F'w N'w l1w l2w hi'w; (try k_lt l1w); (try k_lt2 l2w))))
  (k_with "m compareOp Is str ref" => ((refine is_str_ref ?_)))
  (k_with "m exec For Name Name cons nil" => ((refine wpAny_noRaise ?_; k_dflt (refine for_stmt (h := ?_)))))
  (k_with "m pyIter ref" => ((k_dflt (refine it_self (h := ?_)))))
  (k_with "m call builtin:next" => ((k_here; walk_at "my g1"; k_dflt (refine it_next (h := ?_); k_whole); intro h'w o'w F'w N'w hi'w)))
  (k_with "m compareOp Is ref ref" => ((k_dflt (refine wpAny_is_ref_self ?_))))
  (k_with "m my mem" => (first | exact List.Mem.head _ | with_reducible assumption | assumption | (refine' List.Mem.tail _ ?_; walk_at "my mem")))
  (k_with "m my enterC" => ((refine' code_defC ?k1 ?k2 ?k3 ?k4 ?k5 ?kA ?kF ?kK ?k6 ?k7 ?k8 ?k9 ?kB ?kD ?_ ?c2 ?c3 ?c4; (case kA => exact rfl); (case kF => exact rfl); (case kK => assumption); (case k1 => k_asm); (case k2 => k_asm); (case k3 => k_asm); (case k4 => k_asm); (case k5 => k_asm); (case k6 => k_is); (case k7 => k_is); (case k8 => ktr_room); (case k9 => first | exact BindsTo.of_eq rfl | exact binds_K (by k_in) rfl (by k_is) rfl rfl rfl); (case kB => exact rfl); (case kD => decide +kernel); (case c2 => exact rfl); (case c3 => exact rfl); (case c4 => exact rfl); k_whole)))
  (k_with "m eval ListComp" => ((k_here; (with_reducible show wpAny _ _ (eval (PySem.Expr.ListComp _ [⟨PySem.Expr.Name _ _, _, [], _⟩] _ _) _) _ _ _); k_dflt (refine LCg.ListComp_U (F₀ := by k_asm) (by rfl) (by decide) (by rfl) (by decide) (by rfl) ?_); refine wpAny_stop ?_)))
  (k_with "m exec Assign cons ListComp" => ((k_here; (with_reducible show wpAny _ _ (exec (Stmt.Assign [_] (PySem.Expr.ListComp _ [⟨PySem.Expr.Name _ _, _, [], _⟩] _ _) _) _) _ _ _); k_dflt (refine LCg.Assign_ListComp_U (F₀ := by k_asm) (by rfl) (by with_unfolding_all rfl) (by rfl) (by decide) (by rfl) (by decide) (by rfl) (by rfl) (by rfl) ?_); refine wpAny_stop ?_)))
  (k_with "m exec Assign cons ListComp" => ((k_here; (with_reducible show wpAny _ _ (exec (Stmt.Assign [_] (PySem.Expr.ListComp _ [⟨_, _, [_], _⟩] _ _) _) _) _ _ _); k_dflt (refine LCt.Assign_ListComp_T (F₀ := by k_asm) (by rfl) (by with_unfolding_all rfl) (by rfl) (by decide) (by rfl) (by decide) (by rfl) (by rfl) (by rfl) ?_); refine wpAny_stop ?_)))
  (k_with "m call builtin:len" => ((k_here; walk_at "my g1"; k_dflt (refine kst_len (by k_asm) (by walk_at "my mem") (by exact rfl) (by lia) ?_; k_whole))))
  (k_with "m my sub" => (first | exact List.forall_mem_nil _ | (with_reducible refine List.forall_mem_cons.mpr ⟨?_, ?_⟩; (focus (walk_at "my mem")); walk_at "my sub") | exact fun _ h => h | (intro pw hpw; repeat' (first | exact hpw | refine' List.Mem.tail _ ?_))))
  (k_with "m eval Name" => ((k_here; (with_reducible show wpAny _ _ (eval (PySem.Expr.Name _ _) (compEnvC _ _ _ _)) _ _ _); k_dflt (refine ld_cellA (h := ?_); k_whole))))
  (k_with "m eval Name" => ((k_here; (with_reducible show wpAny _ _ (eval (PySem.Expr.Name _ _) (envOfC _ _ _ _ _)) _ _ _); k_dflt (refine ld_cellB (h := ?_); k_whole))))
  (k_with "m binaryOp Mult ref int" => ((k_here; k_dflt (refine mul_led (h := ?_); k_whole); intro D'w h'w F'w N'w l1'w; (try dsimp only))))
  (k_with "m my ints" => (first | with_reducible assumption | exact slice_ints_fromW (by with_reducible assumption) (by lia)))
  (k_with "m call builtin:sum" => ((k_here; walk_at "my g1"; k_dflt (refine sum_led (h := ?_); k_whole); intro h'w tk'w t'w F'w N'w; (try dsimp only))))
  (k_with "m subscriptTail Name Slice ref ref" => ((k_here; (with_reducible show wpAny _ _ (subscriptTail _ (PySem.Expr.Slice _ _ none _) (Value.ref _) (Value.ref _)) _ _ _); k_dflt (refine kmk_slice (by k_asm) (by k_asm) (by exact News.isList (by k_asm) (by walk_at "my mem")) (by kmk_part) (by kmk_part) ?_ (by with_unfolding_all rfl) (by kmk_pure) (by (simp only [List.size_toArray, PySem.sizeLine_eq]; lia))); intro D'w h'w F'w N'w l1'w; (try dsimp only))))
  (k_with "m binaryOp Add ref ref" => ((k_here; k_dflt (refine cat_list (h := ?_); k_whole); intro D'w h'w F'w N'w l1'w; (try dsimp only))))
  (k_with "m execs cons" => (((first | with_reducible refine execs_one ?_ | (with_reducible refine execs_cut ?_; intro _ _)); try dsimp only)))
  (k_with "m execs cons" => ((with_reducible refine gen_toks ?_; intro tkw)))
  (k_with "m execs nil" => ((with_reducible refine gen_toks ?_; intro tkw)))
  (k_with "m Goto next" => (with_reducible refine goto_next (by with_reducible assumption) ?_))
  (k_with "m Goto" => (first | with_reducible refine goto_ret (by with_reducible assumption) ?_ | with_reducible refine goto_brk (by with_reducible assumption) ?_ | with_reducible refine goto_cont (by with_reducible assumption) ?_))
  trivial
section
/-- the pieces' signs and parts -/
noncomputable def sgn : Nat → Str
  | 0 => Str.ofString "*" | 1 => Str.ofString "?" | 2 => Str.ofString "a" | 3 => Str.ofString "\"" | 4 => Str.ofString "." | 5 => Str.ofString "[a-c]"
  | 6 => Str.ofString "[!a]" | 7 => Str.ofString "[\"]" | 8 => Str.ofString "[c-a]" | 9 => Str.ofString "]" | 10 => Str.ofString "-" | _ => Str.ofString "[!c-a]"
noncomputable def prt : Nat → Option Str
  | 0 => none | 1 => some (Str.ofString ".") | 2 => some (Str.ofString "a") | 3 => some (Str.ofString "\"") | 4 => some (Str.ofString "\\.") | 5 => some (Str.ofString "[a-c]")
  | 6 => some (Str.ofString "[^a]") | 7 => some (Str.ofString "[\"]") | 8 => some (Str.ofString "(?!)") | 9 => some (Str.ofString "\\]") | 10 => some (Str.ofString "\\-") | _ => some (Str.ofString ".")
noncomputable def PrtV (k : Nat) (v : Value) : Prop := match prt k with
  | none => v = .none
  | some x => ∃ t, v = .str x t
noncomputable def PieceObj (o : Obj) (k : Nat) : Prop := ∃ t pv n, o.cls = .type "tuple" ∧ o.data = .seq #[.str (sgn k) t, pv] n ∧ PrtV k pv
noncomputable def PieceAt (news : List (Addr × Obj)) (v : Value) (k : Nat) : Prop := ∃ a o, v = .ref a ∧ (a, o) ∈ news ∧ PieceObj o k

theorem PieceAt.mono {news news' : List (Addr × Obj)} {v : Value} {k : Nat} (h : PieceAt news v k) (hs : ∀ p ∈ news, p ∈ news') : PieceAt news' v k := by
  obtain ⟨a, o, e, hm, r⟩ := h
  exact ⟨a, o, e, hs _ hm, r⟩
noncomputable def PieceAll (news : List (Addr × Obj)) (us : List Value) (ks : List Nat) : Prop := us.length = ks.length ∧ ∀ (j : Nat) (v : Value) (k : Nat), us[j]? = some v → ks[j]? = some k → PieceAt news v k
theorem PieceAll.mono {news news' : List (Addr × Obj)} {us : List Value} {ks : List Nat} (h : PieceAll news us ks) (hs : ∀ p ∈ news, p ∈ news') : PieceAll news' us ks :=
  ⟨h.1, fun j v k h1 h2 => (h.2 j v k h1 h2).mono hs⟩
theorem PieceAll.append {news : List (Addr × Obj)} {us us' : List Value} {ks ks' : List Nat} (h : PieceAll news us ks) (h' : PieceAll news us' ks') : PieceAll news (us ++ us') (ks ++ ks') := by
  refine ⟨by rw [List.length_append, List.length_append, h.1, h'.1], fun j v k h1 h2 => ?_⟩
  by_cases hj : j < us.length
  · rw [List.getElem?_append_left hj] at h1
    rw [List.getElem?_append_left (h.1 ▸ hj)] at h2
    exact h.2 j v k h1 h2
  · rw [List.getElem?_append_right (Nat.le_of_not_lt hj)] at h1
    rw [List.getElem?_append_right (by rw [← h.1]; exact Nat.le_of_not_lt hj), ← h.1] at h2
    exact h'.2 _ v k h1 h2
theorem PieceAll.one {news : List (Addr × Obj)} {v : Value} {k : Nat} (h : PieceAt news v k) : PieceAll news [v] [k] := by
  refine ⟨rfl, fun j v' k' h1 h2 => ?_⟩
  match j, h1, h2 with
  | 0, h1, h2 => simp at h1 h2; subst h1; subst h2; exact h
  | j + 1, h1, _ => simp at h1
noncomputable def kd (y : Int) : Nat := (y.fmod 12).toNat
theorem words18 : True := by
  (k_with "m subscriptTail Name BinOp ref int" => ((k_here; k_dflt (refine item_list (h := ?_)); intro v'w hv'w)))
  trivial
theorem table_ex {h₀ h : Heap} {L l3 tbl : Addr} {i3 : List Value} {c3 : Nat} {rfs : List Value} {c : Nat} {rest : List (Addr × Obj)} (_N : News h₀ L h ((l3, listOf i3.toArray c3) :: (tbl, listOf rfs.toArray c) :: rest)) : ∃ r t l x, r = rfs ∧ t = tbl ∧ l = l3 ∧ x = i3 := ⟨rfs, tbl, l3, i3, rfl, rfl, rfl, rfl⟩
section
variable {prog : Program} {w : World} {A : Around} {E : Value → Shared → Prop} {s : Shared} {h₀ : Heap} {L : Addr} {m : Str → Option Value} {news : List (Addr × Obj)} {env : Env} {Q : Value → Shared → Prop} {a b : Str} {p1 p2 pos : Pos} {k k1 k2 : Nat}
theorem tup_ss (F : Fr h₀ L s.heap m := by k_asm) (N : News h₀ L s.heap news := by k_asm)
    (h : ∀ D h' t1 t2 tk, Fr h₀ L h' m → News h₀ L h' ((D, { cls := .type "tuple", data := .seq #[.str a t1, .str b t2] }) :: news) → (∀ p ∈ news, p.1 < D) → Q (.ref D) { s with heap := h', toks := tk }) :
    wpAny (model prog w) A (eval (.Tuple [.Constant (.str a) k1 p1, .Constant (.str b) k2 p2] k pos) env) Q E s := by
  w_on
  repeat walk1
  exact h _ _ _ _ _ (by assumption) (by assumption) (fun p hp => Heap.lt_size (N p hp).1)
theorem tup_sn (F : Fr h₀ L s.heap m := by k_asm) (N : News h₀ L s.heap news := by k_asm)
    (h : ∀ D h' t1 tk, Fr h₀ L h' m → News h₀ L h' ((D, { cls := .type "tuple", data := .seq #[.str a t1, .none] }) :: news) → (∀ p ∈ news, p.1 < D) → Q (.ref D) { s with heap := h', toks := tk }) :
    wpAny (model prog w) A (eval (.Tuple [.Constant (.str a) k1 p1, .Constant .none k2 p2] k pos) env) Q E s := by
  w_on
  repeat walk1
  exact h _ _ _ _ (by assumption) (by assumption) (fun p hp => Heap.lt_size (N p hp).1)
end
theorem words19 : True := by
  (k_with "m eval Tuple" => ((k_here; (with_reducible show wpAny _ _ (eval (PySem.Expr.Tuple [PySem.Expr.Constant (Const.str _) _ _, PySem.Expr.Constant (Const.str _) _ _] _ _) _) _ _ _); k_dflt (refine tup_ss (h := ?_)); intro D'w h'w _ _ _ F'w N'w l1w; (try k_lt l1w); (try dsimp only))))
  (k_with "m eval Tuple" => ((k_here; (with_reducible show wpAny _ _ (eval (PySem.Expr.Tuple [PySem.Expr.Constant (Const.str _) _ _, PySem.Expr.Constant Const.none _ _] _ _) _) _ _ _); k_dflt (refine tup_sn (h := ?_)); intro D'w h'w _ _ F'w N'w l1w; (try k_lt l1w); (try dsimp only))))
  (k_with "m subscriptTail Name Constant ref int" => ((k_here; k_dflt (refine item_at (h := ?_); k_whole))))
  trivial
set_option maxRecDepth 100000 in
set_option maxHeartbeats 4000000 in
theorem pieces_con (w : World) (l : Addr) (vs : List Value) (ys : List Int) (c : Nat) (hi : IntsAre vs ys) (hl : ys.length ≤ 10) :
    Con w 90 [.ref l] 4 (fun news => (l, listOf vs.toArray c) ∈ news)
      (fun news news' r => ∃ (D : Addr) (us : List Value) (n : Nat), r = .ref D ∧ (D, listOf us.toArray n) ∈ news' ∧ (∀ p ∈ news, p ∈ news') ∧ PieceAll news' us ([3] ++ ys.map kd ++ [3, 3])) := by
  intro dp un gd cn cs a ccd cl outer A₀ base p loose mean mg mb h₀ L m news s Q E B F X N T hk hpre hd hu hret
  have hvl : vs.length ≤ 10 := by have := hi.length; lia
  w_on
  refine wpAny_call ?_
  k_dflt (walk_at "my enterC")
  intro g1 L1 h1 tk1 cells1 FG1 F1 N1 Y1 B1 X1 T1 l1
  obtain ⟨o1, hE1, d1⟩ := CellsAre.one Y1
  subst hE1
  simp only [List.cons_append, List.nil_append] at N1
  (try dsimp only)
  refine wpAny_noRaise ?_
  (try k_fold)
  k_steps
  rename News _ _ _ _ => N2
  rename Fr _ _ _ _ => F2
  rename Obj.data _ = Data.cell (some _) => hcd
  obtain ⟨nw1, hnw⟩ := led_of N2
  obtain ⟨rfs, tb, l3, i3, hr, htb, hl3, hi3⟩ := table_ex N2
  rw [← htb] at hcd
  have hml : (l, listOf vs.toArray c) ∈ nw1 := by rw [hnw]; walk_at "my mem"
  have hmt : (tb, listOf rfs.toArray 0) ∈ nw1 := by rw [hnw, hr, htb]; walk_at "my mem"
  have hmc : CellAt nw1 (L1 + 1) (.ref tb) := ⟨_, by rw [hnw]; walk_at "my mem", hcd⟩
  clear hcd
  have hnlt : ∀ p ∈ news, p ∈ nw1 := by
    intro p hp
    rw [hnw]
    repeat' refine' List.Mem.tail _ ?_
    exact hp
  have hT : ∀ k, k < 12 → ∃ v, rfs[k]? = some v ∧ PieceAt nw1 v k := by
    subst hr; subst hnw
    intro k hk
    match k, hk with
    | 0, _ => exact ⟨_, rfl, _, _, rfl, by walk_at "my mem", _, _, _, rfl, rfl, rfl⟩
    | 1, _ => exact ⟨_, rfl, _, _, rfl, by walk_at "my mem", _, _, _, rfl, rfl, _, rfl⟩
    | 2, _ => exact ⟨_, rfl, _, _, rfl, by walk_at "my mem", _, _, _, rfl, rfl, _, rfl⟩
    | 3, _ => exact ⟨_, rfl, _, _, rfl, by walk_at "my mem", _, _, _, rfl, rfl, _, rfl⟩
    | 4, _ => exact ⟨_, rfl, _, _, rfl, by walk_at "my mem", _, _, _, rfl, rfl, _, rfl⟩
    | 5, _ => exact ⟨_, rfl, _, _, rfl, by walk_at "my mem", _, _, _, rfl, rfl, _, rfl⟩
    | 6, _ => exact ⟨_, rfl, _, _, rfl, by walk_at "my mem", _, _, _, rfl, rfl, _, rfl⟩
    | 7, _ => exact ⟨_, rfl, _, _, rfl, by walk_at "my mem", _, _, _, rfl, rfl, _, rfl⟩
    | 8, _ => exact ⟨_, rfl, _, _, rfl, by walk_at "my mem", _, _, _, rfl, rfl, _, rfl⟩
    | 9, _ => exact ⟨_, rfl, _, _, rfl, by walk_at "my mem", _, _, _, rfl, rfl, _, rfl⟩
    | 10, _ => exact ⟨_, rfl, _, _, rfl, by walk_at "my mem", _, _, _, rfl, rfl, _, rfl⟩
    | 11, _ => exact ⟨_, rfl, _, _, rfl, by walk_at "my mem", _, _, _, rfl, rfl, _, rfl⟩
    | k + 12, hk => exact absurd hk (by lia)
  rw [← hnw] at N2
  have hlen : rfs.length = 12 := by rw [hr]; rfl
  obtain ⟨r3, h3, hp3⟩ := hT 3 (by decide)
  have h3' : rfs[(3 : Int).toNat]? = some r3 := h3
  have hm3 : (l3, listOf [r3].toArray 0) ∈ nw1 := by
    have : r3 = _ := (Option.some.inj (h3.symm.trans (by rw [hr]; rfl)))
    rw [this, hl3, hnw]
    exact List.Mem.head _
  rw [← hl3]
  clear hr htb hl3 hi3 hnw
  refine MyStop.intro ?_
  k_dflt (refine' LCg.CompSrc.ledger rfl F2 N2 hml ?s ?_)
  case s =>
    have := hi.length
    simp only [List.size_toArray, PySem.sizeLine_eq]; lia
  intro g
  rw [List.size_toArray]
  refine rest_pure vs.length (fun i v y => ∃ n t, v = .int n t ∧ rfs[(n.fmod 12).toNat]? = some y) (.inr ⟨_, hml, rfl, _, rfl⟩) ?elt ?fin
  case elt =>
    intro i v I oI C oC D oD m₂ h tk hlt hP hns hx F N
    obtain ⟨n, t, hn, rfl⟩ := ints_get hi (by simpa using hP)
    k_steps
    exact ⟨⟨_, _, rfl, by assumption⟩, _, _, rfl, F, N⟩
  case fin =>
    intro us hus hall
    unfold LCg.FinE
    intro D h tk F3 N3 off
    dsimp only at F3 N3 ⊢
    k_steps
    rename News _ _ _ _ => N4
    rename Fr _ _ _ _ => F4
    obtain ⟨nw4, hnw4⟩ := led_of N4
    have up : ∀ p ∈ nw1, p ∈ nw4 := fun p hp => by
      rw [hnw4]
      repeat' refine' List.Mem.tail _ ?_
      exact hp
    refine hret _ _ _ _ F4 N4 ⟨_, _, _, rfl, List.Mem.head _, fun p hp => hnw4 ▸ up p (hnlt p hp), ?_⟩
    · rw [← hnw4]
      refine PieceAll.append (PieceAll.append (.one (hp3.mono up)) ?_) (PieceAll.append (.one (hp3.mono up)) (.one (hp3.mono up)))
      refine ⟨by rw [List.length_map, hus, hi.length], fun j v k h1 h2 => ?_⟩
      obtain ⟨v', hv', n, t, e1, e2⟩ := hall j v h1
      obtain ⟨n', t', hn, e3⟩ := ints_get hi (by simpa using hv')
      rw [e1] at e3
      cases e3
      rw [List.getElem?_map, hn] at h2
      cases h2
      have hk : kd n < 12 := by
        have : n.fmod 12 < 12 := Int.fmod_lt_of_pos n (by decide)
        have : 0 ≤ n.fmod 12 := Int.fmod_nonneg_of_pos n (by decide)
        unfold kd; lia
      obtain ⟨x, hx, hpx⟩ := hT (kd n) hk
      have : x = v := Option.some.inj (hx.symm.trans e2)
      subst this
      exact hpx.mono up
end
theorem words20 : True := by
  k_with_none
  (k_with "m my g1" => (with_reducible show wpAny _ _ (PySem.call (Value.builtin _) [Value.ref _]) _ _ _))
  (k_with "m my g2" => (with_reducible show wpAny _ _ (PySem.call (Value.builtin _) [Value.ref _, _]) _ _ _))
  (k_with "m my g3" => (with_reducible show wpAny _ _ (PySem.call (Value.builtin _) [Value.str _ _, Value.ref _]) _ _ _))
  (k_with "m my ga" => (((with_reducible show wpAny _ _ (PySem.call (Value.builtin _) (_ ++ _)) _ _ _); dsimp only [List.cons_append, List.nil_append])))
  (k_with "m my back" => ((intro r9w news9w h9w tk9w F9w N9w P9w; obtain ⟨e9w, t9w, e8w⟩ := P9w; subst e9w; subst e8w; (try dsimp only); (try k_fold))))
  (k_with "m my enter" => ((refine' code_def ?k1 ?k2 ?k3 ?k4 ?k5 ?kA ?kF ?kK ?k6 ?k7 ?k8 ?k9 ?kB ?_ ?c2 ?c3 ?c4 ?c5; (case kA => exact rfl); (case kF => exact rfl); (case kK => assumption); (case k1 => k_asm); (case k2 => k_asm); (case k3 => k_asm); (case k4 => k_asm); (case k5 => k_asm); (case k6 => k_is); (case k7 => k_is); (case k8 => ktr_room); (case k9 => first | exact BindsTo.of_eq rfl | exact binds_K (by k_in) rfl (by k_is) rfl rfl rfl); (case c5 => decide); (case kB => exact locs rfl); (case c2 => exact rfl); (case c3 => exact rfl); (case c4 => exact rfl); k_whole)))
  (k_with "m call builtin:iter" => ((k_here; walk_at "my g1"; k_dflt (refine it_iter (h := ?_); k_whole); intro I'w h'w o'w F'w N'w l1w l2w hi'w; (try k_lt l1w); (try k_lt2 l2w))))
  (k_with "m compareOp Is str ref" => ((refine is_str_ref ?_)))
  (k_with "m exec For Name Name cons nil" => ((refine wpAny_noRaise ?_; k_dflt (refine for_stmt (h := ?_)))))
  (k_with "m pyIter ref" => ((k_dflt (refine it_self (h := ?_)))))
  (k_with "m call builtin:next" => ((k_here; walk_at "my g1"; k_dflt (refine it_next (h := ?_); k_whole); intro h'w o'w F'w N'w hi'w)))
  (k_with "m compareOp Is ref ref" => ((k_dflt (refine wpAny_is_ref_self ?_))))
  (k_with "m my mem" => (first | exact List.Mem.head _ | with_reducible assumption | assumption | (refine' List.Mem.tail _ ?_; walk_at "my mem")))
  (k_with "m my enterC" => ((refine' code_defC ?k1 ?k2 ?k3 ?k4 ?k5 ?kA ?kF ?kK ?k6 ?k7 ?k8 ?k9 ?kB ?kD ?_ ?c2 ?c3 ?c4; (case kA => exact rfl); (case kF => exact rfl); (case kK => assumption); (case k1 => k_asm); (case k2 => k_asm); (case k3 => k_asm); (case k4 => k_asm); (case k5 => k_asm); (case k6 => k_is); (case k7 => k_is); (case k8 => ktr_room); (case k9 => first | exact BindsTo.of_eq rfl | exact binds_K (by k_in) rfl (by k_is) rfl rfl rfl); (case kB => exact rfl); (case kD => decide +kernel); (case c2 => exact rfl); (case c3 => exact rfl); (case c4 => exact rfl); k_whole)))
  (k_with "m eval ListComp" => ((k_here; (with_reducible show wpAny _ _ (eval (PySem.Expr.ListComp _ [⟨PySem.Expr.Name _ _, _, [], _⟩] _ _) _) _ _ _); k_dflt (refine LCg.ListComp_U (F₀ := by k_asm) (by rfl) (by decide) (by rfl) (by decide) (by rfl) ?_); refine wpAny_stop ?_)))
  (k_with "m exec Assign cons ListComp" => ((k_here; (with_reducible show wpAny _ _ (exec (Stmt.Assign [_] (PySem.Expr.ListComp _ [⟨PySem.Expr.Name _ _, _, [], _⟩] _ _) _) _) _ _ _); k_dflt (refine LCg.Assign_ListComp_U (F₀ := by k_asm) (by rfl) (by with_unfolding_all rfl) (by rfl) (by decide) (by rfl) (by decide) (by rfl) (by rfl) (by rfl) ?_); refine wpAny_stop ?_)))
  (k_with "m exec Assign cons ListComp" => ((k_here; (with_reducible show wpAny _ _ (exec (Stmt.Assign [_] (PySem.Expr.ListComp _ [⟨_, _, [_], _⟩] _ _) _) _) _ _ _); k_dflt (refine LCt.Assign_ListComp_T (F₀ := by k_asm) (by rfl) (by with_unfolding_all rfl) (by rfl) (by decide) (by rfl) (by decide) (by rfl) (by rfl) (by rfl) ?_); refine wpAny_stop ?_)))
  (k_with "m call builtin:len" => ((k_here; walk_at "my g1"; k_dflt (refine kst_len (by k_asm) (by walk_at "my mem") (by exact rfl) (by lia) ?_; k_whole))))
  (k_with "m my sub" => (first | exact List.forall_mem_nil _ | (with_reducible refine List.forall_mem_cons.mpr ⟨?_, ?_⟩; (focus (walk_at "my mem")); walk_at "my sub") | exact fun _ h => h | (intro pw hpw; repeat' (first | exact hpw | refine' List.Mem.tail _ ?_))))
  (k_with "m eval Name" => ((k_here; (with_reducible show wpAny _ _ (eval (PySem.Expr.Name _ _) (compEnvC _ _ _ _)) _ _ _); k_dflt (refine ld_cellA (h := ?_); k_whole))))
  (k_with "m eval Name" => ((k_here; (with_reducible show wpAny _ _ (eval (PySem.Expr.Name _ _) (envOfC _ _ _ _ _)) _ _ _); k_dflt (refine ld_cellB (h := ?_); k_whole))))
  (k_with "m binaryOp Mult ref int" => ((k_here; k_dflt (refine mul_led (h := ?_); k_whole); intro D'w h'w F'w N'w l1'w; (try dsimp only))))
  (k_with "m my ints" => (first | with_reducible assumption | exact slice_ints_fromW (by with_reducible assumption) (by lia)))
  (k_with "m call builtin:sum" => ((k_here; walk_at "my g1"; k_dflt (refine sum_led (h := ?_); k_whole); intro h'w tk'w t'w F'w N'w; (try dsimp only))))
  (k_with "m subscriptTail Name Slice ref ref" => ((k_here; (with_reducible show wpAny _ _ (subscriptTail _ (PySem.Expr.Slice _ _ none _) (Value.ref _) (Value.ref _)) _ _ _); k_dflt (refine kmk_slice (by k_asm) (by k_asm) (by exact News.isList (by k_asm) (by walk_at "my mem")) (by kmk_part) (by kmk_part) ?_ (by with_unfolding_all rfl) (by kmk_pure) (by (simp only [List.size_toArray, PySem.sizeLine_eq]; lia))); intro D'w h'w F'w N'w l1'w; (try dsimp only))))
  (k_with "m binaryOp Add ref ref" => ((k_here; k_dflt (refine cat_list (h := ?_); k_whole); intro D'w h'w F'w N'w l1'w; (try dsimp only))))
  (k_with "m execs cons" => (((first | with_reducible refine execs_one ?_ | (with_reducible refine execs_cut ?_; intro _ _)); try dsimp only)))
  (k_with "m execs cons" => ((with_reducible refine gen_toks ?_; intro tkw)))
  (k_with "m execs nil" => ((with_reducible refine gen_toks ?_; intro tkw)))
  (k_with "m Goto next" => (with_reducible refine goto_next (by with_reducible assumption) ?_))
  (k_with "m Goto" => (first | with_reducible refine goto_ret (by with_reducible assumption) ?_ | with_reducible refine goto_brk (by with_reducible assumption) ?_ | with_reducible refine goto_cont (by with_reducible assumption) ?_))
  trivial
section
/-- the marks left, told step by step -/
noncomputable def leftZ (first : Int) (ws : List Int) : Int := ws.foldl (fun a x => max (a + x) 0) first
theorem left_max : ∀ (ws : List Int) (first M : Int), M ∈ [first + ws.sum] ++ (List.range ws.length).map (fun i => (ws.drop (i + 1)).sum) → (∀ a, a ∈ [first + ws.sum] ++ (List.range ws.length).map (fun i => (ws.drop (i + 1)).sum) → a ≤ M) → M = leftZ first ws
  | [], first, M, h, _ => by simpa [leftZ] using h
  | x :: r, first, M, h, h2 => by
    have hr : (List.range (x :: r).length).map (fun i => ((x :: r).drop (i + 1)).sum) = r.sum :: (List.range r.length).map (fun i => (r.drop (i + 1)).sum) := by
      rw [List.length_cons, List.range_succ_eq_map, List.map_cons, List.map_map]
      rfl
    rw [hr] at h h2
    simp only [List.sum_cons] at h h2
    have e : leftZ first (x :: r) = leftZ (max (first + x) 0) r := rfl
    rw [e]
    have b1 := h2 (first + (x + r.sum)) (by simp)
    have b2 := h2 r.sum (by simp)
    refine left_max r _ M ?_ ?_
    · simp only [List.cons_append, List.nil_append, List.mem_cons] at h ⊢
      rcases h with h | h | h
      · left; lia
      · left; lia
      · right; exact h
    · intro a ha
      simp only [List.cons_append, List.nil_append, List.mem_cons] at ha h2
      rcases ha with ha | ha
      · lia
      · exact h2 a (.inr (.inr ha))
set_option maxRecDepth 100000 in
set_option maxHeartbeats 4000000 in
theorem left_con (w : World) (first : Int) (tf : Tok) (l : Addr) (vs : List Value) (ws : List Int) (c : Nat) (hi : IntsAre vs ws) (hl : ws.length ≤ 20) (hf : first.natAbs ≤ 1000) (hw : ∀ x ∈ ws, x.natAbs ≤ 10) :
    Con w 102 [.int first tf, .ref l] 4 (fun news => (l, listOf vs.toArray c) ∈ news)
      (fun news news' r => news = news' ∧ ∃ t, r = .int (leftZ first ws) t) := by
  intro dp un gd cn cs a ccd cl outer A₀ base p loose mean mg mb h₀ L m news s Q E B F X N T hk hpre hd hu hret
  have hvl : vs.length ≤ 20 := by have := hi.length; lia
  w_on
  refine wpAny_call ?_
  k_dflt (walk_at "my enterC")
  intro g1 L1 h1 tk1 cells1 FG1 F1 N1 Y1 B1 X1 T1 l1
  obtain ⟨o1, hE1, d1⟩ := CellsAre.one Y1
  subst hE1
  simp only [List.cons_append, List.nil_append] at N1
  replace N1 := news_dup N1 (List.Mem.tail _ hpre)
  (try dsimp only)
  refine wpAny_noRaise ?_
  (try k_fold)
  k_steps
  refine MyStop.intro ?_
  rename IsRange _ _ _ _ _ _ _ _ => rg
  rename News _ _ _ _ => N2
  rename Fr _ _ _ _ => F2
  refine LCg.CompSrc.range rfl F2 N2 rg (small_one (by lia) (by lia) (by lia) (by lia)) (rangeSize_nat _ _) (by simp only [PySem.sizeLine_eq]; lia) ?_
  intro g
  refine rest_pure _ (fun i v y => ∃ t, y = .int (ws.drop (i + 1)).sum t) trivial ?elt ?fin
  case elt =>
    rintro i v I oI C oC D oD m₂ h tk hlt ⟨t, rfl⟩ hns hx F N
    dsimp only
    k_steps
    have e : (1 + (i : Int)).toNat = i + 1 := by lia
    rename Fr _ _ _ _ => F3
    rename News _ _ _ _ => N3
    exact EltEnd.intro ⟨_, by rw [e]⟩ F3 N3 (fun p hp => .tail _ hp)
  case fin =>
    intro us hus hall
    unfold LCg.FinA
    intro D h tk F3 N3 off
    dsimp only at F3 N3 ⊢
    have hul : us.length = ws.length := by rw [hus]; lia
    have hius : IntsAre us ((List.range ws.length).map fun i => (ws.drop (i + 1)).sum) := ints_of (by simp [hul]) fun j y hj => by
      obtain ⟨v, _, t, e⟩ := hall j y hj
      have hlt : j < ws.length := by
        rw [← hul]
        rcases Nat.lt_or_ge j us.length with q | q
        · exact q
        · rw [List.getElem?_eq_none q] at hj; cases hj
      exact ⟨_, t, by simp [hlt], e⟩
    k_steps
    rename _ ∈ ([first + ws.sum] ++ _ : List Int) => hM
    rename (∀ a, a ∈ ([first + ws.sum] ++ _ : List Int) → a ≤ _) => hM2
    rename News _ _ _ _ => N4
    rename Fr _ _ _ _ => F4
    refine hret _ _ _ _ F4 (news_sub N4 fun p hp => ?_) ⟨rfl, _, congrArg (Value.int · _) (left_max ws first _ hM hM2)⟩
    · repeat' refine' List.Mem.tail _ ?_
      exact hp
end
section
noncomputable def pieceD (k : Nat) : PyData := .tuple [.str (sgn k), match prt k with | none => .none | some x => .str x]
theorem piece_reads {h₀ h : Heap} {L : Addr} {news : List (Addr × Obj)} {v : Value} {k : Nat} (N : News h₀ L h news) (p : PieceAt news v k) : Reads h v (pieceD k) [] := by
  obtain ⟨a, o, rfl, hm, t, pv, n, hc, hd, hp⟩ := p
  refine reads_tuple_at (N _ hm).1 hc hd ?_
  have hr : Reads h pv (match prt k with | none => PyData.none | some x => .str x) [] := by
    unfold PrtV at hp
    cases e : prt k with
    | none => rw [e] at hp; subst hp; exact Reads.none
    | some x => rw [e] at hp; obtain ⟨t', rfl⟩ := hp; exact Reads.str _ _
  exact ReadsAll.cons (as := []) (Reads.str _ _) (ReadsAll.cons (as := []) hr .nil)
theorem piece_shaped : ∀ k, k < 12 → SeqAt.shaped (pieceD k) = true := by decide +kernel
theorem piece_eqv : ∀ k, k < 12 → PyData.eqv (pieceD k) (pieceD 3) = (k == 3) := by decide +kernel
theorem ne_mark {prog : Program} {w : World} {A : Around} {E : Value → Shared → Prop} {s : Shared} {h₀ : Heap} {L : Addr} {news : List (Addr × Obj)} {u v : Value} {k : Nat} {Q : Value → Shared → Prop}
    (N : News h₀ L s.heap news := by k_asm) (pu : PieceAt news u k := by exact PieceAt.mono (by with_reducible assumption) (by walk_at "my sub")) (pv : PieceAt news v 3 := by exact PieceAt.mono (by with_reducible assumption) (by walk_at "my sub")) (hk : k < 12 := by with_reducible assumption) (hu : A.units + 64 < cLine := by ktr_units) (h : Q (.bool (k != 3)) s) : wpAny (model prog w) A (compareOp .NotEq u v) Q E s := by
  refine ne_dataH (piece_reads N pu) (piece_reads N pv) (piece_shaped k hk) (piece_shaped 3 (by decide)) hu ?_
  rw [piece_eqv k hk]
  exact h
noncomputable def w0 (d : Int) : Int := [1, 1, -2].getD d.toNat 0
noncomputable def w1 (d : Int) : Int := [1, 0, -1].getD d.toNat 0
noncomputable def w2 (d : Int) : Int := [0, 1, -1].getD d.toNat 0
noncomputable def places (ks : List Nat) : List Nat := (List.range ks.length).filter fun i => ks.getD i 0 != 3
noncomputable def told (ks : List Nat) (ds : List Int) : List Nat :=
  match places ks with
  | [] => List.replicate (leftZ ks.length (ds.map w0)).toNat 3
  | p :: r => List.replicate (leftZ p (ds.map w1)).toNat 3 ++ (ks.drop p).take ((p :: r).getLast (by simp) + 1 - p) ++ List.replicate (leftZ ((ks.length : Int) - 1 - (p :: r).getLast (by simp)) (ds.map w2)).toNat 3
theorem PieceAll.rep {news : List (Addr × Obj)} {v : Value} {k : Nat} (h : PieceAt news v k) (n : Nat) : PieceAll news (List.replicate n v) (List.replicate n k) := by
  refine ⟨by simp, fun j v' k' h1 h2 => ?_⟩
  rw [List.getElem?_replicate] at h1 h2
  split at h1
  · rename_i hj
    rw [if_pos hj] at h2
    cases h1; cases h2; exact h
  · cases h1
theorem PieceAll.slice {news : List (Addr × Obj)} {vs : List Value} {ks : List Nat} (h : PieceAll news vs ks) (a n : Nat) : PieceAll news ((vs.drop a).take n) ((ks.drop a).take n) := by
  refine ⟨by simp [h.1], fun j v k h1 h2 => ?_⟩
  rw [List.getElem?_take] at h1 h2
  split at h1
  · rename_i hj
    rw [if_pos hj] at h2
    rw [List.getElem?_drop] at h1 h2
    exact h.2 _ _ _ h1 h2
  · cases h1
theorem leftZ_abs : ∀ (ws : List Int) (f : Int), (∀ x ∈ ws, x.natAbs ≤ 10) → (leftZ f ws).natAbs ≤ f.natAbs + 10 * ws.length
  | [], f, _ => by simp [leftZ]
  | x :: r, f, h => by
    have h1 := h x (.head _)
    have ih := leftZ_abs r (max (f + x) 0) fun y hy => h y (.tail _ hy)
    have e : leftZ f (x :: r) = leftZ (max (f + x) 0) r := rfl
    rw [e, List.length_cons]
    lia
theorem nm_ne : ¬ (Str.ofString "row" = Str.ofString "places") := by decide +kernel
theorem words25 : True := by
  (k_with "m call ref" => ((k_here; (with_reducible show wpAny _ _ (PySem.call (Value.ref 102) _) _ _ _); k_dflt (refine con_use (left_con _ _ _ _ _ _ _ (by with_reducible assumption) (by with_reducible assumption) (by lia) (by with_reducible assumption)) (hp := by walk_at "my mem") (ret := ?_)); walk_at "my back")))
  (k_with "m subscriptTail Name Name ref int" => ((k_here; k_dflt (refine item_at (h := ?_); k_whole))))
  (k_with "m compareOp NotEq ref ref" => ((k_here; (with_reducible show wpAny _ _ (compareOp CmpOp.NotEq (Value.ref _) (Value.ref _)) _ _ _); k_dflt (refine ne_mark (h := ?_)))))
  (k_with "m subscriptTail Name Constant ref int" => ((k_here; k_dflt (refine item_at (h := ?_); k_whole))))
  (k_with "m subscriptTail Name UnaryOp ref int" => ((k_here; k_dflt (refine item_last (h := ?_); k_whole))))
  trivial
set_option maxRecDepth 100000 in
set_option maxHeartbeats 4000000 in
theorem told_con (w : World) (l lr : Addr) (us vs : List Value) (ks : List Nat) (ds : List Int) (c cr : Nat) (hiv : IntsAre vs ds) (hdl : ds.length ≤ 20) (hds : ∀ d ∈ ds, 0 ≤ d ∧ d < 3) (hkl : ks.length ≤ 100) (hks : ∀ k ∈ ks, k < 12) :
    Con w 107 [.ref l, .ref lr] 20 (fun news => (l, listOf us.toArray c) ∈ news ∧ (lr, listOf vs.toArray cr) ∈ news ∧ PieceAll news us ks)
      (fun news news' r => ∃ (D : Addr) (us' : List Value) (n : Nat), r = .ref D ∧ (D, listOf us'.toArray n) ∈ news' ∧ (∀ p ∈ news, p ∈ news') ∧ PieceAll news' us' (told ks ds)) := by
  intro dp un gd cn cs a ccd cl outer A₀ base p loose mean mg mb h₀ L m news s Q E B F X N T hk hpre hd hu hret
  obtain ⟨hpl, hpr, hpa⟩ := hpre
  have hi := hiv
  have hvl : vs.length ≤ 20 := by have := hiv.length; lia
  have hul : us.length = ks.length := hpa.1
  w_on
  refine wpAny_call ?_
  k_dflt (walk_at "my enterC")
  intro g1 L1 h1 tk1 cells1 FG1 F1 N1 Y1 B1 X1 T1 l1
  obtain ⟨o1, o2, hE1, d1, d2⟩ := CellsAre.two Y1
  subst hE1
  simp only [List.cons_append, List.nil_append] at N1
  (try dsimp only)
  refine wpAny_noRaise ?_
  (try k_fold)
  k_steps
  refine MyStop.intro ?_
  rename IsRange _ _ _ _ _ _ _ _ => rg
  rename News _ _ _ _ => N2
  rename Fr _ _ _ _ => F2
  rename Obj.data _ = Data.cell (some (Value.ref _)) => hcd
  obtain ⟨nw1, hnw⟩ := led_of N2
  obtain ⟨tm, htm⟩ := first_of N2
  obtain ⟨m1, hm1⟩ := fr_of F2
  have hrow : m1 (Str.ofString "row") = some (.ref lr) := by rw [hm1]; rfl
  have hC1 : CellAt nw1 (L1 + 1) (.ref l) := ⟨_, by rw [hnw]; walk_at "my mem", d2⟩
  have hC2 : CellAt nw1 (L1 + 1 + 1) (.ref tm) := ⟨_, by rw [hnw]; walk_at "my mem", by rw [htm]; exact hcd⟩
  have hmk : PieceAt nw1 (.ref tm) 3 := ⟨_, _, rfl, by rw [hnw, htm]; exact List.Mem.head _, _, _, _, rfl, rfl, _, rfl⟩
  have hup : ∀ p ∈ news, p ∈ nw1 := by
    intro p hp
    rw [hnw]
    repeat' refine' List.Mem.tail _ ?_
    exact hp
  rw [← hnw] at N2
  rw [← hm1] at F2 ⊢
  clear hnw hm1 hcd d1 d2 htm Y1
  have hpl1 := hup _ hpl
  have hpr1 := hup _ hpr
  have hpa1 := hpa.mono hup
  clear hpl hpr hpa
  refine LCt.CompSrcT.range rfl F2 N2 rg (small_one (by lia) (by lia) (by lia) (by lia)) (rangeSize_nat _ _) (by simp only [PySem.sizeLine_eq]; lia) ?_
  intro g
  refine rest_test _ (fun i => ks.getD i 0 != 3) (fun i v y => ∃ t, y = .int (i : Int) t) trivial ?elt ?fin
  case elt =>
    rintro i v I oI C oC D oD m₂ h tk hlt ⟨t, rfl⟩ hns hx F N
    have hik : i < ks.length := by lia
    obtain ⟨u, hu1⟩ : ∃ u, us[i]? = some u := ⟨us[i]'(by lia), by simp [hul, hik]⟩
    have hku : ks[i]? = some (ks.getD i 0) := by simp [hik]
    have hP := hpa1.2 i u _ hu1 hku
    have hk12 : ks.getD i 0 < 12 := hks _ (List.mem_of_getElem? hku)
    generalize ks.getD i 0 = k at hP hk12 ⊢
    obtain ⟨ua, uo, rfl, r⟩ := hP
    have hP : PieceAt nw1 (.ref ua) k := ⟨ua, uo, rfl, r⟩
    clear r hku
    have hu2 : us[((0 : Int) + (i : Int)).toNat]? = some (.ref ua) := by
      rw [show ((0 : Int) + (i : Int)).toNat = i by lia]; exact hu1
    dsimp only
    k_steps
    rename Fr _ _ _ _ => F3
    rename News _ _ _ _ => N3
    refine ⟨rfl, fun _ => ?_, fun _ => EltEnd.intro trivial F3 N3 (fun _ h => h)⟩
    k_steps
    exact EltEnd.intro ⟨_, by rw [Int.zero_add]⟩ F3 N3 (fun _ h => h)
  case fin =>
    have hn0 : ((us.length : Int) - 0).toNat = ks.length := by lia
    rw [hn0]
    intro ps hps hall
    have hps : ps.length = (places ks).length := hps
    have hips : IntsAre ps ((places ks).map fun (i : Nat) => (i : Int)) := ints_of (by simp [hps]) fun j y hj => by
      obtain ⟨i, v, h1, _, t, e⟩ := hall j y hj
      exact ⟨_, t, by rw [List.getElem?_map]; rw [show (places ks)[j]? = some i from h1]; rfl, e⟩
    unfold LCg.FinA
    intro D h tk F3 N3 off
    dsimp only at F3 N3 ⊢
    have F4 := fr_say [(Str.ofString "places", .ref D), (Str.ofString "row", .ref lr)] (by simp [hrow, nm_ne]) F3
    clear F3
    have hw0 : ∀ x ∈ ds.map w0, x.natAbs ≤ 10 := by
      intro x hx
      obtain ⟨d, hd', rfl⟩ := List.mem_map.mp hx
      rcases (by have := hds d hd'; lia : d = 0 ∨ d = 1 ∨ d = 2) with rfl | rfl | rfl <;> decide
    have hl0 : (ds.map w0).length ≤ 20 := by simpa using hdl
    cases hpc : places ks with
    | nil =>
      have htold : told ks ds = List.replicate (leftZ ks.length (ds.map w0)).toNat 3 := by unfold told; rw [hpc]
      rw [hpc] at hips
      have hb0 : (leftZ (us.length : Int) (ds.map w0)).natAbs ≤ 10000 := by have := leftZ_abs (ds.map w0) us.length hw0; lia
      k_steps
      refine MyStop.intro ?_
      rename News _ _ _ _ => N5
      rename Fr _ _ _ _ => F5
      refine LCg.CompSrc.ledger rfl F5 N5 (by walk_at "my mem") (by simp only [List.size_toArray, PySem.sizeLine_eq]; lia) ?_
      intro g
      rw [List.size_toArray]
      refine rest_pure vs.length (fun i v y => ∃ d t', ds[i]? = some d ∧ y = .int (w0 d) t') (.inr ⟨_, by walk_at "my mem", rfl, _, rfl⟩) ?elt ?fin
      case elt =>
        intro i v I oI C oC D oD m₂ h tk hlt hP hns hx F N
        obtain ⟨d, t, hd', rfl⟩ := ints_get hiv (by simpa using hP)
        rcases (by have := hds d (List.mem_of_getElem? hd'); lia : d = 0 ∨ d = 1 ∨ d = 2) with rfl | rfl | rfl
        all_goals
          k_steps
          rename Fr _ _ _ _ => F6
          rename News _ _ _ _ => N6
          exact EltEnd.intro ⟨_, _, hd', rfl⟩ F6 N6 (fun p hp => List.Mem.tail _ hp)
      case fin =>
        intro us1 hus1 hall1
        unfold LCg.FinE
        intro D1 h1 tk1 F6 N6 off1
        dsimp only at F6 N6 ⊢
        have hiw : IntsAre us1 (ds.map w0) := ints_of (by simp [hus1, hiv.length]) fun j y hj => by
          obtain ⟨v, _, d, t, hd', e⟩ := hall1 j y hj
          exact ⟨w0 d, t, by rw [List.getElem?_map, hd']; rfl, e⟩
        k_steps
        rename Fr h₀ _ _ _ => F7
        rename News h₀ _ _ _ => N7
        refine hret _ _ _ _ F7 N7 ⟨_, _, _, rfl, List.Mem.head _, fun p hp => ?_, ?_⟩
        · repeat' refine' List.Mem.tail _ ?_
          exact hup _ hp
        · rw [htold, hul]
          refine (PieceAll.rep hmk _).mono (fun q hq => ?_)
          repeat' refine' List.Mem.tail _ ?_
          exact hq
    | cons p r =>
      have htold : told ks ds = List.replicate (leftZ p (ds.map w1)).toNat 3 ++ (ks.drop p).take ((p :: r).getLast (by simp) + 1 - p) ++ List.replicate (leftZ ((ks.length : Int) - 1 - (p :: r).getLast (by simp)) (ds.map w2)).toNat 3 := by
        unfold told
        split
        · rename_i e; rw [hpc] at e; cases e
        · rename_i e; rw [hpc] at e; cases e; rfl
      have hmem : ∀ x ∈ p :: r, x < ks.length := by
        intro x hx
        rw [← hpc] at hx
        exact List.mem_range.mp (List.mem_filter.mp hx).1
      have hpk : p < ks.length := hmem p (.head _)
      have hqm : (p :: r).getLast (by simp) < ks.length := hmem _ (List.getLast_mem _)
      have hpq : p ≤ (p :: r).getLast (by simp) := by
        have hs : List.Pairwise (· < ·) (p :: r) := by rw [← hpc]; exact List.pairwise_lt_range.filter _
        rcases List.mem_cons.mp (List.getLast_mem (l := p :: r) (by simp)) with e | e
        · lia
        · exact Nat.le_of_lt ((List.pairwise_cons.mp hs).1 _ e)
      rw [hpc] at hips hps
      have hpsl : ps.length = r.length + 1 := by simpa using hps
      obtain ⟨t0, hv0⟩ : ∃ t, ps[(0 : Int).toNat]? = some (.int (p : Int) t) := by
        have h0 : ps[0]? = some (ps[0]'(by lia)) := by simp
        obtain ⟨d, t, e, f⟩ := ints_get hips h0
        simp only [List.map_cons, List.getElem?_cons_zero, Option.some.injEq] at e
        subst e
        exact ⟨t, by rw [← f]; exact h0⟩
      obtain ⟨t1, hv1⟩ : ∃ t, ps[ps.length - 1]? = some (.int (((p :: r).getLast (by simp) : Nat) : Int) t) := by
        have h0 : ps[ps.length - 1]? = some (ps[ps.length - 1]'(by lia)) := by simp
        obtain ⟨d, t, e, f⟩ := ints_get hips h0
        rw [List.getElem?_map, hpsl, Nat.add_sub_cancel, show r.length = (p :: r).length - 1 by simp, ← List.getLast?_eq_getElem?, List.getLast?_eq_some_getLast (by simp)] at e
        simp only [Option.map_some, Option.some.injEq] at e
        subst e
        exact ⟨t, by rw [← f]; exact h0⟩
      generalize hqe : (p :: r).getLast (by simp) = q at hv1 htold hqm hpq
      have hne0 : 0 < ps.length := by lia
      have hw1 : ∀ x ∈ ds.map w1, x.natAbs ≤ 10 := by
        intro x hx
        obtain ⟨d, hd', rfl⟩ := List.mem_map.mp hx
        rcases (by have := hds d hd'; lia : d = 0 ∨ d = 1 ∨ d = 2) with rfl | rfl | rfl <;> decide
      have hw2 : ∀ x ∈ ds.map w2, x.natAbs ≤ 10 := by
        intro x hx
        obtain ⟨d, hd', rfl⟩ := List.mem_map.mp hx
        rcases (by have := hds d hd'; lia : d = 0 ∨ d = 1 ∨ d = 2) with rfl | rfl | rfl <;> decide
      have hl1 : (ds.map w1).length ≤ 20 := by simpa using hdl
      have hl2 : (ds.map w2).length ≤ 20 := by simpa using hdl
      have hb1 : (leftZ (p : Int) (ds.map w1)).natAbs ≤ 10000 := by have := leftZ_abs (ds.map w1) p hw1; lia
      have hb2 : (leftZ ((us.length : Int) - 1 - q) (ds.map w2)).natAbs ≤ 10000 := by have := leftZ_abs (ds.map w2) ((us.length : Int) - 1 - q) hw2; lia
      k_steps
      · exfalso
        rename decide _ = true => hbad
        simp at hbad
      refine MyStop.intro ?_
      rename News _ _ _ _ => N5
      rename Fr _ _ _ _ => F5
      refine LCg.CompSrc.ledger rfl F5 N5 (by walk_at "my mem") (by simp only [List.size_toArray, PySem.sizeLine_eq]; lia) ?_
      intro g
      rw [List.size_toArray]
      refine rest_pure vs.length (fun i v y => ∃ d t', ds[i]? = some d ∧ y = .int (w1 d) t') (.inr ⟨_, by walk_at "my mem", rfl, _, rfl⟩) ?elt ?fin
      case elt =>
        intro i v I oI C oC D oD m₂ h tk hlt hP hns hx F N
        obtain ⟨d, t, hd', rfl⟩ := ints_get hiv (by simpa using hP)
        rcases (by have := hds d (List.mem_of_getElem? hd'); lia : d = 0 ∨ d = 1 ∨ d = 2) with rfl | rfl | rfl
        all_goals
          k_steps
          rename Fr _ _ _ _ => F6
          rename News _ _ _ _ => N6
          exact EltEnd.intro ⟨_, _, hd', rfl⟩ F6 N6 (fun p hp => List.Mem.tail _ hp)
      case fin =>
        intro us1 hus1 hall1
        unfold LCg.FinE
        intro D1 h1 tk1 F6 N6 off1
        dsimp only at F6 N6 ⊢
        have hiw : IntsAre us1 (ds.map w1) := ints_of (by simp [hus1, hiv.length]) fun j y hj => by
          obtain ⟨v, _, d, t, hd', e⟩ := hall1 j y hj
          exact ⟨w1 d, t, by rw [List.getElem?_map, hd']; rfl, e⟩
        k_steps
        refine MyStop.intro ?_
        rename News _ _ _ _ => N5
        rename Fr _ _ _ _ => F5
        refine LCg.CompSrc.ledger rfl F5 N5 (by walk_at "my mem") (by simp only [List.size_toArray, PySem.sizeLine_eq]; lia) ?_
        intro g
        rw [List.size_toArray]
        refine rest_pure vs.length (fun i v y => ∃ d t', ds[i]? = some d ∧ y = .int (w2 d) t') (.inr ⟨_, by walk_at "my mem", rfl, _, rfl⟩) ?elt ?fin
        case elt =>
          intro i v I oI C oC D oD m₂ h tk hlt hP hns hx F N
          obtain ⟨d, t, hd', rfl⟩ := ints_get hiv (by simpa using hP)
          rcases (by have := hds d (List.mem_of_getElem? hd'); lia : d = 0 ∨ d = 1 ∨ d = 2) with rfl | rfl | rfl
          all_goals
            k_steps
            rename Fr _ _ _ _ => F6
            rename News _ _ _ _ => N6
            exact EltEnd.intro ⟨_, _, hd', rfl⟩ F6 N6 (fun p hp => List.Mem.tail _ hp)
        case fin =>
          intro us1 hus1 hall1
          unfold LCg.FinE
          intro D1 h1 tk1 F6 N6 off1
          dsimp only at F6 N6 ⊢
          have hiw : IntsAre us1 (ds.map w2) := ints_of (by simp [hus1, hiv.length]) fun j y hj => by
            obtain ⟨v, _, d, t, hd', e⟩ := hall1 j y hj
            exact ⟨w2 d, t, by rw [List.getElem?_map, hd']; rfl, e⟩
          k_steps
          rename News _ _ _ _ => N7
          rename Fr _ _ _ _ => F7
          rw [show (some ((q : Int) + 1)) = some (((q + 1 : Nat) : Int)) by simp, slicePick_run _ _ _ (by simp; lia) (by lia)] at N7
          dsimp only at N7
          have hdt : ((us.drop p).take (q + 1 - p)).length ≤ 200 := by simp; lia
          k_steps
          rename News h₀ _ _ _ => N8
          rename Fr h₀ _ _ _ => F8
          refine hret _ _ _ _ F8 N8 ⟨_, _, _, rfl, List.Mem.head _, fun p hp => ?_, ?_⟩
          · repeat' refine' List.Mem.tail _ ?_
            exact hup _ hp
          · rw [htold, hul]
            refine (((PieceAll.rep hmk _).append (hpa1.slice p (q + 1 - p))).append (PieceAll.rep hmk _)).mono (fun q hq => ?_)
            repeat' refine' List.Mem.tail _ ?_
            exact hq
end
theorem words26 : True := by
  k_with_none
  (k_with "m my g1" => (with_reducible show wpAny _ _ (PySem.call (Value.builtin _) [Value.ref _]) _ _ _))
  (k_with "m my g2" => (with_reducible show wpAny _ _ (PySem.call (Value.builtin _) [Value.ref _, _]) _ _ _))
  (k_with "m my g3" => (with_reducible show wpAny _ _ (PySem.call (Value.builtin _) [Value.str _ _, Value.ref _]) _ _ _))
  (k_with "m my ga" => (((with_reducible show wpAny _ _ (PySem.call (Value.builtin _) (_ ++ _)) _ _ _); dsimp only [List.cons_append, List.nil_append])))
  (k_with "m my back" => ((intro r9w news9w h9w tk9w F9w N9w P9w; obtain ⟨e9w, t9w, e8w⟩ := P9w; subst e9w; subst e8w; (try dsimp only); (try k_fold))))
  (k_with "m my enter" => ((refine' code_def ?k1 ?k2 ?k3 ?k4 ?k5 ?kA ?kF ?kK ?k6 ?k7 ?k8 ?k9 ?kB ?_ ?c2 ?c3 ?c4 ?c5; (case kA => exact rfl); (case kF => exact rfl); (case kK => assumption); (case k1 => k_asm); (case k2 => k_asm); (case k3 => k_asm); (case k4 => k_asm); (case k5 => k_asm); (case k6 => k_is); (case k7 => k_is); (case k8 => ktr_room); (case k9 => first | exact BindsTo.of_eq rfl | exact binds_K (by k_in) rfl (by k_is) rfl rfl rfl); (case c5 => decide); (case kB => exact locs rfl); (case c2 => exact rfl); (case c3 => exact rfl); (case c4 => exact rfl); k_whole)))
  (k_with "m call builtin:iter" => ((k_here; walk_at "my g1"; k_dflt (refine it_iter (h := ?_); k_whole); intro I'w h'w o'w F'w N'w l1w l2w hi'w; (try k_lt l1w); (try k_lt2 l2w))))
  (k_with "m compareOp Is str ref" => ((refine is_str_ref ?_)))
  (k_with "m exec For Name Name cons nil" => ((refine wpAny_noRaise ?_; k_dflt (refine for_stmt (h := ?_)))))
  (k_with "m pyIter ref" => ((k_dflt (refine it_self (h := ?_)))))
  (k_with "m call builtin:next" => ((k_here; walk_at "my g1"; k_dflt (refine it_next (h := ?_); k_whole); intro h'w o'w F'w N'w hi'w)))
  (k_with "m compareOp Is ref ref" => ((k_dflt (refine wpAny_is_ref_self ?_))))
  (k_with "m my mem" => (first | exact List.Mem.head _ | with_reducible assumption | assumption | (refine' List.Mem.tail _ ?_; walk_at "my mem")))
  (k_with "m my enterC" => ((refine' code_defC ?k1 ?k2 ?k3 ?k4 ?k5 ?kA ?kF ?kK ?k6 ?k7 ?k8 ?k9 ?kB ?kD ?_ ?c2 ?c3 ?c4; (case kA => exact rfl); (case kF => exact rfl); (case kK => assumption); (case k1 => k_asm); (case k2 => k_asm); (case k3 => k_asm); (case k4 => k_asm); (case k5 => k_asm); (case k6 => k_is); (case k7 => k_is); (case k8 => ktr_room); (case k9 => first | exact BindsTo.of_eq rfl | exact binds_K (by k_in) rfl (by k_is) rfl rfl rfl); (case kB => exact rfl); (case kD => decide +kernel); (case c2 => exact rfl); (case c3 => exact rfl); (case c4 => exact rfl); k_whole)))
  (k_with "m eval ListComp" => ((k_here; (with_reducible show wpAny _ _ (eval (PySem.Expr.ListComp _ [⟨PySem.Expr.Name _ _, _, [], _⟩] _ _) _) _ _ _); k_dflt (refine LCg.ListComp_U (F₀ := by k_asm) (by rfl) (by decide) (by rfl) (by decide) (by rfl) ?_); refine wpAny_stop ?_)))
  (k_with "m exec Assign cons ListComp" => ((k_here; (with_reducible show wpAny _ _ (exec (Stmt.Assign [_] (PySem.Expr.ListComp _ [⟨PySem.Expr.Name _ _, _, [], _⟩] _ _) _) _) _ _ _); k_dflt (refine LCg.Assign_ListComp_U (F₀ := by k_asm) (by rfl) (by with_unfolding_all rfl) (by rfl) (by decide) (by rfl) (by decide) (by rfl) (by rfl) (by rfl) ?_); refine wpAny_stop ?_)))
  (k_with "m exec Assign cons ListComp" => ((k_here; (with_reducible show wpAny _ _ (exec (Stmt.Assign [_] (PySem.Expr.ListComp _ [⟨_, _, [_], _⟩] _ _) _) _) _ _ _); k_dflt (refine LCt.Assign_ListComp_T (F₀ := by k_asm) (by rfl) (by with_unfolding_all rfl) (by rfl) (by decide) (by rfl) (by decide) (by rfl) (by rfl) (by rfl) ?_); refine wpAny_stop ?_)))
  (k_with "m call builtin:len" => ((k_here; walk_at "my g1"; k_dflt (refine kst_len (by k_asm) (by walk_at "my mem") (by exact rfl) (by lia) ?_; k_whole))))
  (k_with "m my sub" => (first | exact List.forall_mem_nil _ | (with_reducible refine List.forall_mem_cons.mpr ⟨?_, ?_⟩; (focus (walk_at "my mem")); walk_at "my sub") | exact fun _ h => h | (intro pw hpw; repeat' (first | exact hpw | refine' List.Mem.tail _ ?_))))
  (k_with "m eval Name" => ((k_here; (with_reducible show wpAny _ _ (eval (PySem.Expr.Name _ _) (compEnvC _ _ _ _)) _ _ _); k_dflt (refine ld_cellA (h := ?_); k_whole))))
  (k_with "m eval Name" => ((k_here; (with_reducible show wpAny _ _ (eval (PySem.Expr.Name _ _) (envOfC _ _ _ _ _)) _ _ _); k_dflt (refine ld_cellB (h := ?_); k_whole))))
  (k_with "m binaryOp Mult ref int" => ((k_here; k_dflt (refine mul_led (h := ?_); k_whole); intro D'w h'w F'w N'w l1'w; (try dsimp only))))
  (k_with "m my ints" => (first | with_reducible assumption | exact slice_ints_fromW (by with_reducible assumption) (by lia)))
  (k_with "m call builtin:sum" => ((k_here; walk_at "my g1"; k_dflt (refine sum_led (h := ?_); k_whole); intro h'w tk'w t'w F'w N'w; (try dsimp only))))
  (k_with "m subscriptTail Name Slice ref ref" => ((k_here; (with_reducible show wpAny _ _ (subscriptTail _ (PySem.Expr.Slice _ _ none _) (Value.ref _) (Value.ref _)) _ _ _); k_dflt (refine kmk_slice (by k_asm) (by k_asm) (by exact News.isList (by k_asm) (by walk_at "my mem")) (by kmk_part) (by kmk_part) ?_ (by with_unfolding_all rfl) (by kmk_pure) (by (simp only [List.size_toArray, PySem.sizeLine_eq]; lia))); intro D'w h'w F'w N'w l1'w; (try dsimp only))))
  (k_with "m binaryOp Add ref ref" => ((k_here; k_dflt (refine cat_list (h := ?_); k_whole); intro D'w h'w F'w N'w l1'w; (try dsimp only))))
  (k_with "m execs cons" => (((first | with_reducible refine execs_one ?_ | (with_reducible refine execs_cut ?_; intro _ _)); try dsimp only)))
  (k_with "m execs cons" => ((with_reducible refine gen_toks ?_; intro tkw)))
  (k_with "m execs nil" => ((with_reducible refine gen_toks ?_; intro tkw)))
  (k_with "m Goto next" => (with_reducible refine goto_next (by with_reducible assumption) ?_))
  (k_with "m Goto" => (first | with_reducible refine goto_ret (by with_reducible assumption) ?_ | with_reducible refine goto_brk (by with_reducible assumption) ?_ | with_reducible refine goto_cont (by with_reducible assumption) ?_))
  trivial
section
variable {prog : Program} {w : World} {A : Around} {s : Shared} {env : Env} {h₀ : Heap}
theorem for_listT {R : Result → Shared → Prop} {elts : List PySem.Expr} {x1} {ps : Pos} {body : List Stmt} {I l : Addr} {oI : Obj} {items : List Value} {i₀ : Nat} {m : Str → Option Value} {news : List (Addr × Obj)}
    (J : Nat → (Str → Option Value) → List (Addr × Obj) → Prop) (hh : A.handled = none)
    (F : Fr h₀ env.locals s.heap m) (N : News h₀ env.locals s.heap ((I, oI) :: news)) (hi : ItOf oI l i₀) (h0 : J i₀ m news) (hi0 : i₀ ≤ items.length)
    (hoff : ∀ i m₁ news₁, J i m₁ news₁ → ∀ p ∈ news₁, p.1 ≠ I)
    (hlist : ∀ i m₁ news₁ h, J i m₁ news₁ → Fr h₀ env.locals h m₁ → News h₀ env.locals h news₁ → h.IsList l items.toArray)
    (href : ∀ (i : Nat) (v : Value), items[i]? = some v → ∃ T, v = .ref T)
    (turn : ∀ i v m₁ news₁ h tk oI, items[i]? = some v → J i m₁ news₁ → Fr h₀ env.locals h m₁ → News h₀ env.locals h ((I, oI) :: news₁) → ItOf oI l (i + 1) →
      wpAny (model prog w) A (assign (.Tuple elts x1 ps) env v) (fun _ s₂ => wpAny (model prog w) A (execs body env) (ForPost h₀ env.locals s I l i J R) (fun _ _ => False) s₂) (fun _ _ => False) { s with heap := h, toks := tk })
    (done : ∀ m₁ news₁ h tk, J items.length m₁ news₁ → Fr h₀ env.locals h m₁ → News h₀ env.locals h news₁ → R (.ok .next) { s with heap := h, toks := tk }) :
    codeAny (model prog w) A (.forLoop (.Tuple elts x1 ps) (.ref I) body [] env) R s := by
  refine codeAny_forLoop_any
    (fun k s' => ∃ h' tk m' news' oI i, s' = { s with heap := h', toks := tk } ∧ Fr h₀ env.locals h' m' ∧ News h₀ env.locals h' ((I, oI) :: news') ∧ ItOf oI l i ∧ J i m' news' ∧ i ≤ items.length ∧ k = items.length + 1 - i) ?_ (items.length + 1 - i₀)
    ⟨s.heap, s.toks, m, news, oI, i₀, rfl, F, N, hi, h0, hi0, rfl⟩
  rintro k s' ⟨h', tk, m', news', oI', i, rfl, F', N', hi', hJ, hle, rfl⟩
  have hm := N' (I, oI') (.head _)
  have hlst := hlist i m' news' h' hJ F' (fun p hp => N' p (.tail _ hp))
  by_cases hlt : i < items.length
  · refine wpAny_pyNext_list_item (hi'.at hm.1) hlst (x := items[i]) (by simp [hlt]) fun h₁ hit₁ hs₁ => ?_
    obtain ⟨T, hT⟩ := href i items[i] (by simp [hlt])
    have hitk := hit₁
    obtain ⟨o', ho', hc', hd'⟩ := hit₁
    have N₁ : News h₀ env.locals h₁ ((I, o') :: news') := News.setIn (own := []) N' (fun _ h => nomatch h) (fun p hp => hoff i m' news' hJ p hp) hs₁ ho'
    have F₁ : Fr h₀ env.locals h₁ m' := F'.change hs₁ hm.2.1 hm.2.2
    show wpAny _ _ (letOwnedTupleGo _ _ items[i]) _ _ _
    have key := turn i items[i] m' news' h₁ tk o' (by simp [hlt]) hJ F₁ N₁ ⟨hc', hd'⟩
    rw [hT] at key ⊢
    refine wpAny_letOwnedTupleGo_listiter hitk ?_
    refine wpAny_noRaise (wpAny_mono key (fun _ s₂ h₂ => wpAny_noRaise (wpAny_mono h₂ (fun f s₃ h₃ => ?_) fun _ _ x => x)) fun _ _ x => x)
    have fin : ForEnd h₀ env.locals s I l i J s₃ → ∃ m, m < items.length + 1 - i ∧ ∃ h' tk m' news' oI i, s₃ = { s with heap := h', toks := tk } ∧ Fr h₀ env.locals h' m' ∧ News h₀ env.locals h' ((I, oI) :: news') ∧ ItOf oI l i ∧ J i m' news' ∧ i ≤ items.length ∧ m = items.length + 1 - i := by
      rintro ⟨h', tk', m', news', oI, e, F₃, N₃, hi₃, hJ₃⟩
      exact ⟨_, by lia, h', tk', m', news', oI, i + 1, e, F₃, N₃, hi₃, hJ₃, hlt, rfl⟩
    cases f with
    | next => exact fin h₃
    | cont => exact fin h₃
    | brk => exact h₃
    | ret v => exact h₃
  · have hin : i = items.length := by lia
    subst hin
    refine wpAny_pyNext_list_end hh (hi'.at hm.1) hlst (by simp) fun h₁ he₁ => wpAny_execs_nil ?_
    have N₁ : News h₀ env.locals h₁ news' := fun p hp => ⟨he₁ _ _ (hoff _ m' news' hJ p hp) (N' p (.tail _ hp)).1, (N' p (.tail _ hp)).2⟩
    have F₁ : Fr h₀ env.locals h₁ m' := ⟨F'.ns.extBut he₁ (Ne.symm hm.2.1), fun b o e => he₁ b o (fun q => by rw [q, hm.2.2] at e; cases e) (F'.keep b o e), F'.above⟩
    exact done m' news' h₁ tk hJ F₁ N₁
theorem unpackP {E : Value → Shared → Prop} {elts : List PySem.Expr} {k} {pos : Pos} {ta L : Addr} {kk : Nat} {m : Str → Option Value} {nw news : List (Addr × Obj)} {Q : Unit → Shared → Prop} (F : Fr h₀ L s.heap m := by k_asm) (N : News h₀ L s.heap news := by k_asm) (hP : PieceAt nw (.ref ta) kk := by with_reducible assumption) (hs : ∀ p ∈ nw, p ∈ news := by walk_at "my sub")
    (hh : A.handled = none := by exact rfl) (hn : (assignEach elts env).length = 2 := by exact rfl) (hstar : (assignEach elts env).findIdx? (·.1) = none := by exact rfl)
    (h : ∀ h' t pv, PrtV kk pv → Fr h₀ L h' m → News h₀ L h' news → wpAny (model prog w) A (assignInOrder ((assignEach elts env).map (·.2)) [.str (sgn kk) t, pv]) Q E { s with heap := h' }) :
    wpAny (model prog w) A (assign (.Tuple elts k pos) env (.ref ta)) Q E s := by
  obtain ⟨a, o, e, hm, t, pv, n, hc, hd, hp⟩ := hP
  cases e
  exact unpackN_ F N ⟨o, (N _ (hs _ hm)).1, hc, n, hd⟩ hh hn hstar fun h' F' N' => h h' t pv hp F' N'
theorem setItem_neg1 {E : Value → Shared → Prop} {l : Addr} {items : Array Value} {c : Nat} {k : Int} {t : Tok} {v : Value} {Q : Unit → Shared → Prop} (ho : s.heap.get? l = some (listOf items c))
    (h0 : k < 0) (h1 : -(items.size : Int) ≤ k) (hfit : -(2 ^ 63) ≤ k)
    (hQ : ∀ h' c', h'.get? l = some (listOf (items.setIfInBounds (k + items.size).toNat v) c') → Heap.SameBut l s.heap h' → Q () { s with heap := h' }) :
    wpAny (model prog w) A (setItem (.ref l) (.int k t) v) Q E s := by
  have hl : s.heap.IsList l items := ⟨_, ho, rfl, c, rfl⟩
  have hd : (listOf items c).data = .seq items c := rfl
  unfold setItem
  try with_reducible refine wpAny_holding ?_
  first | refine wpAny_bind (wpAny_pure ?_) | skip
  refine wpAny_bind (wpAny_sequenceKey hl.typeIs (by decide) ?_)
  refine wpAny_bind (wpAny_callSpecial?_slot (name := Str.ofString "__setitem__") hl.typeIs slot_list_setitem
    (wpAny_call_entry slot_list_setitem hl.typeIs entry_list_setitem ?_ (args_list_setitem _ _ _)))
  show wpAny _ _ (Builtin.List.listSubscript? (.int k t) >>= _) _ _ s
  refine wpAny_bind (wpAny_listSubscript_int (fitsIndex_neg h0 hfit) ?_)
  clear hfit
  have hidx := seqIndex_neg (n := items.size) h0 (by lia)
  have hj : (k + items.size).toNat < items.size := by lia
  have hx' : items[(k + items.size).toNat]? = some items[(k + items.size).toNat] := Array.getElem?_eq_getElem hj
  obtain ⟨j, rfl⟩ : ∃ j : Nat, k = Int.negSucc j := by
    cases k with
    | ofNat n => exact absurd h0 (Int.not_lt.mpr (Int.ofNat_nonneg n))
    | negSucc n => exact ⟨n, rfl⟩
  show wpAny _ _ ((Builtin.List.listItems (.ref l) >>= fun xs => pure ((seqIndex? (Int.negSucc j) xs.size).bind fun i => xs[i]?.map (i, ·))) >>= _) _ _ s
  refine wpAny_bind (wpAny_bind ?_)
  show wpAny _ _ (seqItems? (.ref l) >>= _) _ _ s
  refine wpAny_bind (wpAny_seqItems ho hd (wpAny_pure (wpAny_pure ?_)))
  rw [hidx]
  generalize (Int.negSucc j + (items.size : Int)).toNat = i at *
  simp only [Option.bind_some, hx', Option.map_some]
  show wpAny _ _ (setSeqItemAt l i v >>= _) _ _ s
  have hm : ∃ c', Obj.mapSeq (·.setIfInBounds i v) (listOf items c) = listOf (items.setIfInBounds i v) c' := ⟨_, rfl⟩
  obtain ⟨c', hm⟩ := hm
  obtain ⟨n', hd'⟩ := Obj.data_mapSeq hd (·.setIfInBounds i v)
  have hfin : (s.heap.update l (Obj.mapSeq (·.setIfInBounds i v))).get? l = some (listOf (items.setIfInBounds i v) c') := by
    rw [← hm]; exact Heap.get?_update_self _ ho (Obj.isFreed_of_seq hd')
  refine wpAny_bind (wpAny_setSeqItemAt ho hd ?_)
  first
    | exact wpAny_bind (wpAny_pure (wpAny_pure ⟨.none, rfl, wpAny_pure (hQ _ _ hfin (Heap.SameBut.update ..))⟩))
    | exact wpAny_pure ⟨.none, rfl, wpAny_pure (hQ _ _ hfin (Heap.SameBut.update ..))⟩
theorem set_last {E : Value → Shared → Prop} {l L : Addr} {m : Str → Option Value} {news : List (Addr × Obj)} {vi : List Value} {x v : Value} {c : Nat} {t : Tok} {g : Obj → List (Addr × Obj)} {Q : Unit → Shared → Prop}
    (F : Fr h₀ L s.heap m := by k_asm) (N : News h₀ L s.heap news := by k_asm) (U : UpdF l (listOf (vi ++ [x]).toArray c) news g := by walk_at "my updF")
    (h : ∀ h' c', Fr h₀ L h' m → News h₀ L h' (g (listOf (vi ++ [v]).toArray c')) → Q () { s with heap := h' }) :
    wpAny (model prog w) A (setItem (.ref l) (.int (-1) t) v) Q E s := by
  obtain ⟨pre, post, hl', hg, a, b⟩ := U.split
  have hmem : (l, listOf (vi ++ [x]).toArray c) ∈ news := by rw [hl']; exact List.mem_append_right _ (.head _)
  have hm := N _ hmem
  refine setItem_neg1 (N _ hmem).1 (by decide) (by simp; lia) (by decide) fun h' c' ho' hs => ?_
  have e : ((vi ++ [x]).toArray.setIfInBounds ((-1 : Int) + ((vi ++ [x]).toArray.size : Int)).toNat v) = (vi ++ [v]).toArray := by
    have e1 : ((-1 : Int) + ((vi ++ [x]).toArray.size : Int)).toNat = vi.length := by simp; lia
    rw [e1]
    apply Array.ext'
    simp
  rw [e] at ho'
  exact h h' c' (F.change hs hm.2.1 hm.2.2) (hg _ ▸ (show News h₀ L s.heap (pre ++ (l, _) :: post) from hl' ▸ N).setIn a b hs ho')
theorem join_led {E : Value → Shared → Prop} {D L : Addr} {news : List (Addr × Obj)} {vs : List Value} {c : Nat} {ys : List Str} {t : Tok} {Q : Value → Shared → Prop}
    (N : News h₀ L s.heap news := by k_asm) (hm : (D, listOf vs.toArray c) ∈ news := by walk_at "my mem") (hi : StrsAre vs ys := by with_reducible assumption) (hok : (ys.map Str.length).sum ≤ 100000 := by with_reducible assumption) (h : ∀ t' k, Q (.str (Txt.join (Str.ofString "") ys) t') { s with toks := k }) :
    wpAny (model prog w) A (call (.builtin "str.join") [.str (Str.ofString "") t, .ref D]) Q E s :=
  join_list (News.isList N hm) hi (by have : (Str.ofString "").length = 0 := by decide
                                      rw [this]; have : (ys.map (·.length)).sum ≤ 100000 := hok
                                      lia) h
theorem push_snoc {E : Value → Shared → Prop} {l L : Addr} {m : Str → Option Value} {news : List (Addr × Obj)} {vs : List Value} {x : Value} {c : Nat} {g : Obj → List (Addr × Obj)} {Q : Value → Shared → Prop}
    (F : Fr h₀ L s.heap m := by k_asm) (N : News h₀ L s.heap news := by k_asm) (U : UpdF l (listOf vs.toArray c) news g := by walk_at "my updF") (hsz : vs.length ≤ sizeLine := by (simp only [PySem.sizeLine_eq, List.length_append, List.length_cons, List.length_nil]; lia))
    (h : ∀ h' c', Fr h₀ L h' m → News h₀ L h' (g (listOf (vs ++ [x]).toArray c')) → Q .none { s with heap := h' }) :
    wpAny (model prog w) A (call (.builtin "list.append") [.ref l, x]) Q E s := by
  obtain ⟨pre, post, hl', hg, a, b⟩ := U.split
  have hmem : (l, listOf vs.toArray c) ∈ news := by rw [hl']; exact List.mem_append_right _ (.head _)
  have hm := N _ hmem
  refine append_at (hsz := by simpa using hsz) hm.1 fun h' hs ho' => ?_
  have e : vs.toArray.push x = (vs ++ [x]).toArray := by simp
  rw [e] at ho'
  exact h h' (c + 1) (F.change hs hm.2.1 hm.2.2) (hg _ ▸ (show News h₀ L s.heap (pre ++ (l, _) :: post) from hl' ▸ N).setIn a b hs ho')
theorem get_last {E : Value → Shared → Prop} {l L : Addr} {news : List (Addr × Obj)} {vi : List Value} {x : Value} {c : Nat} {t : Tok} {Q : Value → Shared → Prop}
    (N : News h₀ L s.heap news := by k_asm) (hm : (l, listOf (vi ++ [x]).toArray c) ∈ news := by walk_at "my mem") (h : Q x s) :
    wpAny (model prog w) A (getItem (.ref l) (.int (-1) t)) Q E s := by
  refine wpAny_getItem_list_neg (News.isList N hm) (by decide) (by simp; lia) (by decide) (x := x) ?_ h
  have e : ((-1 : Int) + ((vi ++ [x]).toArray.size : Int)).toNat = vi.length := by simp; lia
  rw [e]; simp
theorem item_snoc {E : Value → Shared → Prop} {l L : Addr} {news : List (Addr × Obj)} {vi : List Value} {x : Value} {c : Nat} {t : Tok} {Q : Value → Shared → Prop} {value slice : PySem.Expr}
    (N : News h₀ L s.heap news := by k_asm) (hm : (l, listOf (vi ++ [x]).toArray c) ∈ news := by walk_at "my mem") (h : Q x s)
    (hs : subscripted slice false (.ref l) (.int (-1) t) = operate [.ref l, .int (-1) t] (getItem (.ref l) (.int (-1) t)) := by with_unfolding_all rfl) :
    wpAny (model prog w) A (subscriptTail value slice (.ref l) (.int (-1) t)) Q E s :=
  item_last N hm (by simp) (by simp) h hs
end
theorem words30 : True := by
  (k_with "m my updF" => (first | (refine UpdF.head (by exact all_ne (by with_reducible assumption))) | (refine UpdF.tail (by first | exact Ne.symm (Nat.ne_of_lt (by with_reducible assumption)) | exact Nat.ne_of_lt (by with_reducible assumption)) (by walk_at "my updF"))))
  (k_with "m call builtin:list.append" => ((k_here; walk_at "my g2"; k_dflt (refine push_snoc (h := ?_); k_whole); intro h'w c'w F'w N'w)))
  (k_with "m call builtin:list.append" => ((walk_at "my ga")))
  (k_with "m setItem ref int" => ((k_here; k_dflt (refine set_last (h := ?_); k_whole); intro h'w c'w F'w N'w)))
  (k_with "m getItem ref int" => ((k_here; k_dflt (refine get_last (h := ?_); k_whole))))
  (k_with "m getItem ref int" => (((with_reducible show wpAny _ _ (getItem (Prod.snd _) _) _ _ _); dsimp only)))
  (k_with "m setItem ref int" => (((with_reducible show wpAny _ _ (setItem (Prod.snd _) _ _) _ _ _); dsimp only)))
  (k_with "m subscriptTail Name Constant ref int" => ((k_here; k_dflt (refine item_at (h := ?_); k_whole))))
  (k_with "m call builtin:str.join" => ((walk_at "my ga")))
  (k_with "m call builtin:str.join" => ((k_here; walk_at "my g3"; k_dflt (refine join_led (h := ?_)); intro tjw kjw)))
  (k_with "m subscriptTail Name UnaryOp ref int" => ((k_here; k_dflt (refine item_snoc (h := ?_); k_whole))))
  (k_with "m call builtin:len" => ((k_here; walk_at "my g1"; k_dflt (refine kst_len (by k_asm) (by walk_at "my mem") (by exact rfl) (by (simp only [List.size_toArray, List.length_append, List.length_cons, List.length_nil]; lia)) ?_; k_whole))))
  (k_with "m call builtin:len" => (((with_reducible show wpAny _ _ (PySem.call (Value.builtin "len") [Prod.snd _]) _ _ _); dsimp only)))
  trivial
section
variable {prog : Program} {w : World} {A : Around} {s : Shared} {env : Env} {test : PySem.Expr} {body : List Stmt} {Q : Flow → Shared → Prop}
noncomputable def TurnPost (I : Nat → Shared → Prop) (n : Nat) (Q : Flow → Shared → Prop) (f : Flow) (s : Shared) : Prop :=
  match f with
  | .next => ∃ m, m < n ∧ I m s
  | .cont => ∃ m, m < n ∧ I m s
  | .brk => Q .next s
  | .ret v => Q (.ret v) s
noncomputable def WIf (b : Bool) (T F : Prop) : Prop := if b = true then T else F
theorem WIf.yes {b : Bool} {T F : Prop} (h : b = true) (t : T) : WIf b T F := by subst h; exact t
theorem WIf.no {b : Bool} {T F : Prop} (h : b = false) (t : F) : WIf b T F := by subst h; unfold WIf; rw [if_neg Bool.false_ne_true]; exact t
theorem while_inv (I : Nat → Shared → Prop) {pos : Pos}
    (turn : ∀ n s, I n s → wpAny (model prog w) A (isTrue test env (eval test env)) (fun b s₂ => WIf b (wpAny (model prog w) A (execs body env) (TurnPost I n Q) (fun _ _ => False) s₂) (Q .next s₂)) (fun _ _ => False) s)
    (n : Nat) (h : I n s) : wpAny (model prog w) A (exec (.While test body [] pos) env) Q (fun _ _ => False) s := by
  refine whl_start (n + 1) ?_
  have key : ∀ k n s, n < k → I n s → WhlRest prog w A (fun _ _ => False) env test body [] Q k s := by
    intro k
    induction k with
    | zero => intro n s h; lia
    | succ k ih =>
      intro n s hn hI
      refine whl_turn PassesOwn.never ?_
      refine wpAny_mono (turn n s hI) (fun b s₂ h₂ => ?_) fun _ _ x => x
      cases b with
      | true =>
        refine WhlIf.yes rfl ?_
        have h₃ : wpAny (model prog w) A (execs body env) (TurnPost I n Q) (fun _ _ => False) s₂ := by
          unfold WIf at h₂
          rw [if_pos rfl] at h₂
          exact h₂
        refine wpAny_mono h₃ (fun f s₃ h₄ => ?_) fun _ _ x => x
        cases f with
        | next => obtain ⟨m, hm, hI'⟩ := h₄; exact ih m s₃ (by lia) hI'
        | cont => obtain ⟨m, hm, hI'⟩ := h₄; exact ih m s₃ (by lia) hI'
        | brk => exact h₄
        | ret v => exact h₄
      | false =>
        refine WhlIf.no rfl ?_
        have h₃ : Q .next s₂ := by
          unfold WIf at h₂
          rw [if_neg Bool.false_ne_true] at h₂
          exact h₂
        exact wpAny_execs_nil h₃
  exact key _ n s (by lia) h
end
noncomputable def PartV (star : Value) (o : Option Str) (v : Value) : Prop := match o with
  | none => v = star
  | some x => ∃ t, v = .str x t
noncomputable def PartsAre (star : Value) (vs : List Value) (os : List (Option Str)) : Prop := vs.length = os.length ∧ ∀ (j : Nat) (v : Value) (o : Option Str), vs[j]? = some v → os[j]? = some o → PartV star o v
section
theorem words33 : True := by
  (k_with "m assign Tuple" => ((k_here; (with_reducible show wpAny _ _ (assign (PySem.Expr.Tuple _ _ _) _ (Value.ref _)) _ _ _); k_dflt (refine unpackP (h := ?_); k_whole); intro h'w tp'w pv'w hpv'w F'w N'w)))
  trivial
noncomputable def AllBelow (I : Addr) (nw : List (Addr × Obj)) : Prop := ∀ p ∈ nw, p.1 < I
theorem it_newB {prog : Program} {w : World} {A : Around} {E : Value → Shared → Prop} {s : Shared} {h₀ : Heap} {L l : Addr} {m : Str → Option Value} {news : List (Addr × Obj)} {items : Array Value} {Q : Value → Shared → Prop} (F : Fr h₀ L s.heap m := by k_asm) (N : News h₀ L s.heap news := by k_asm) (hl : s.heap.IsList l items := by exact News.isList (by k_asm) (by walk_at "my mem"))
    (h : ∀ I h' oI, Fr h₀ L h' m → News h₀ L h' ((I, oI) :: news) → AllBelow I news → l < I → ItOf oI l 0 → Q (.ref I) { s with heap := h' }) :
    wpAny (model prog w) A (pyIter (.ref l)) Q E s := it_new F N hl h
theorem second_of {h₀ h : Heap} {L a b : Addr} {o q : Obj} {nw : List (Addr × Obj)} (_N : News h₀ L h ((a, o) :: (b, q) :: nw)) : ∃ b', b' = b := ⟨b, rfl⟩
theorem app_cps (a b : Str) : (a ++ b).cps.toList = a.cps.toList ++ b.cps.toList := Array.toList_append
theorem join_cps (ys : List Str) : (Txt.join (Str.ofString "") ys).cps.toList = (ys.map fun y => y.cps.toList).flatten := by
  unfold Txt.join
  rw [StrLaws.glued_eq_join]
  induction ys with
  | nil => rfl
  | cons x r ih =>
    cases r with
    | nil => simp [Str.join]
    | cons y r =>
      have e : Str.join (Str.ofString "") (x :: y :: r) = x ++ Str.ofString "" ++ Str.join (Str.ofString "") (y :: r) := rfl
      rw [e, app_cps, app_cps, ih]
      have h0 : (Str.ofString "").cps.toList = [] := by decide
      rw [h0]; simp
theorem join_len (ys : List Str) : (Txt.join (Str.ofString "") ys).length = (ys.map Str.length).sum := by
  have e := join_cps ys
  have : ∀ x : Str, x.length = x.cps.toList.length := fun x => by simp [Str.length]
  rw [this, e, List.length_flatten, List.map_map]
  congr 1
theorem sum_le {ys : List Str} {x : Str} (h : x ∈ ys) : x.length ≤ (ys.map Str.length).sum := by
  induction ys with
  | nil => cases h
  | cons y r ih =>
    simp only [List.map_cons, List.sum_cons]
    rcases List.mem_cons.mp h with rfl | h
    · lia
    · have := ih h; lia
theorem strs_get {vs : List Value} {ds : List Str} {i : Nat} {v : Value} (hi : StrsAre vs ds) (h : vs[i]? = some v) : ∃ n t, ds[i]? = some n ∧ v = .str n t := by
  induction hi generalizing i with
  | nil => cases h
  | cons y t _ ih =>
    cases i with
    | zero => simp at h; subst h; exact ⟨y, t, rfl, rfl⟩
    | succ j => exact ih (i := j) (by simpa using h)
theorem strs_of : ∀ {vs : List Value} {ds : List Str}, vs.length = ds.length → (∀ (j : Nat) (v : Value), vs[j]? = some v → ∃ n t, ds[j]? = some n ∧ v = .str n t) → StrsAre vs ds
  | [], [], _, _ => .nil
  | v :: vs, d :: ds, hl, h => by
    obtain ⟨n, t, e, rfl⟩ := h 0 v rfl
    simp at e
    subst e
    exact .cons _ _ (strs_of (by simpa using hl) fun j v hv => by simpa using h (j + 1) v (by simpa using hv))
  | [], _ :: _, hl, _ => by simp at hl
  | _ :: _, [], hl, _ => by simp at hl
theorem slice_inner2 (a b : Value) (vr : List Value) : slicePick (a :: vr ++ [b]).toArray (some 1) (some (-1)) none = vr.toArray := by
  rw [slicePick_plain]
  simp only [Option.elim]
  rw [show (1 : Int) = ((1 : Nat) : Int) from rfl, clipAt_nat, clipAt_neg _ 1 (by lia)]
  simp
theorem slice_inner (vs : List Value) : slicePick vs.toArray (some 1) (some (-1)) none = ((vs.drop 1).take (vs.length - 1 - 1)).toArray := by
  rw [slicePick_plain]
  simp only [Option.elim]
  rw [show (1 : Int) = ((1 : Nat) : Int) from rfl, clipAt_nat, clipAt_neg _ 1 (by lia)]
  simp only [List.size_toArray, List.toList_toArray]
  rcases Nat.eq_zero_or_pos vs.length with h | h
  · simp [List.length_eq_zero_iff.mp h]
  · rw [Nat.min_eq_left (by lia)]
noncomputable def eStep (s : List Str × Str) (k : Nat) : List Str × Str :=
  match prt k with
  | some x => (s.1, s.2 ++ x)
  | none => if s.1 = [] ∨ s.2 ≠ Str.ofString "" then (s.1 ++ [s.2], Str.ofString "") else s
noncomputable def eRun (ks : List Nat) : List Str × Str := ks.foldl eStep ([], Str.ofString "")
theorem prt_len {k : Nat} {x : Str} (h : prt k = some x) : x.length ≤ 5 := by
  match k, h with
  | 0, h => cases h
  | 1, h | 2, h | 3, h | 4, h | 5, h | 6, h | 7, h | 8, h | 9, h | 10, h | _ + 11, h => cases h; decide
theorem len_app (a b : Str) : (a ++ b).length = a.length + b.length := Array.size_append
theorem eStep_bound (s : List Str × Str) (k : Nat) : (eStep s k).1.length ≤ s.1.length + 1 ∧ ((eStep s k).1.map Str.length).sum + (eStep s k).2.length ≤ (s.1.map Str.length).sum + s.2.length + 5 := by
  unfold eStep
  cases h : prt k with
  | some x => have := prt_len h; simp only [len_app]; lia
  | none =>
    simp only
    split
    · simp [show (Str.ofString "").length = 0 from by decide]
    · lia
theorem eRun_bound' : ∀ (ks : List Nat) (s : List Str × Str), (ks.foldl eStep s).1.length ≤ s.1.length + ks.length ∧ ((ks.foldl eStep s).1.map Str.length).sum + (ks.foldl eStep s).2.length ≤ (s.1.map Str.length).sum + s.2.length + 5 * ks.length
  | [], s => by simp
  | k :: r, s => by
    have := eRun_bound' r (eStep s k)
    have := eStep_bound s k
    simp only [List.foldl_cons, List.length_cons]
    lia
theorem eRun_bound (ks : List Nat) : (eRun ks).1.length ≤ ks.length ∧ ((eRun ks).1.map Str.length).sum + (eRun ks).2.length ≤ 5 * ks.length := by
  have := eRun_bound' ks ([], Str.ofString "")
  have e : (Str.ofString "").length = 0 := by decide
  simp only [e] at this
  simpa [eRun] using this
noncomputable def wrapS (x : Str) : Str := Str.ofString "(?>.*?" ++ x ++ Str.ofString ")"
theorem wrap_sum : ∀ r : List Str, ((r.map wrapS).map Str.length).sum = (r.map Str.length).sum + 7 * r.length
  | [] => rfl
  | x :: r => by
    have ih := wrap_sum r
    have e : (wrapS x).length = x.length + 7 := by
      unfold wrapS
      rw [len_app, len_app]
      have h1 : (Str.ofString "(?>.*?").length = 6 := by decide
      have h2 : (Str.ofString ")").length = 1 := by decide
      lia
    simp only [List.map_cons, List.sum_cons, List.length_cons] at *
    lia
theorem eStep_some {st : List Str × Str} {k : Nat} {x : Str} (h : prt k = some x) : eStep st k = (st.1, st.2 ++ x) := by unfold eStep; rw [h]
theorem eStep_new {st : List Str × Str} {k : Nat} (h : prt k = none) (hc : st.1 = [] ∨ st.2 ≠ Str.ofString "") : eStep st k = (st.1 ++ [st.2], Str.ofString "") := by unfold eStep; rw [h]; exact if_pos hc
theorem eStep_same {st : List Str × Str} {k : Nat} (h : prt k = none) (hc : ¬ (st.1 = [] ∨ st.2 ≠ Str.ofString "")) : eStep st k = st := by unfold eStep; rw [h]; exact if_neg hc
noncomputable def exprS (ks : List Nat) : Str :=
  match (eRun ks).1 with
  | [] => (eRun ks).2
  | f :: r => f ++ Txt.join (Str.ofString "") (r.map wrapS) ++ Str.ofString ".*" ++ (eRun ks).2
theorem words34 : True := by
  (k_with "m pyIter ref" => ((k_dflt (refine it_newB (h := ?_); k_whole); intro I'w h'w o'w F'w N'w l1w l2w hi'w)))
  (k_with "m call builtin:len" => ((k_here; walk_at "my g1"; k_dflt (refine kst_len (by k_asm) (by walk_at "my mem") (by exact rfl) (by (simp only [List.size_toArray, List.length_append, List.length_cons, List.length_nil]; lia)) ?_; k_whole))))
  (k_with "m call builtin:len" => (((with_reducible show wpAny _ _ (PySem.call (Value.builtin "len") [Prod.snd _]) _ _ _); dsimp only)))
  (k_with "m exec For Tuple Name cons nil" => ((refine wpAny_noRaise ?_; k_dflt (refine for_stmt (h := ?_)))))
  trivial
set_option maxRecDepth 100000 in
set_option maxHeartbeats 4000000 in
theorem expr_con (w : World) (l : Addr) (us : List Value) (ks : List Nat) (c : Nat) (hkl : ks.length ≤ 200) :
    Con w 112 [.ref l] 4 (fun news => (l, listOf us.toArray c) ∈ news ∧ PieceAll news us ks)
      (fun news news' r => news = news' ∧ ∃ t, r = .str (exprS ks) t) := by
  intro dp un gd cn cs a ccd cl outer A₀ base p loose mean mg mb h₀ L m news s Q E B F X N T hk hpre hd hu hret
  obtain ⟨hpl, hpa⟩ := hpre
  have hul : us.length = ks.length := hpa.1
  w_on
  refine wpAny_call ?_
  k_dflt (walk_at "my enter")
  intro g1 L1 h1 FG1 F1 N1 B1 X1 T1
  (try dsimp only)
  refine wpAny_noRaise ?_
  (try k_fold)
  k_steps
  rename AllBelow _ _ => l1
  rename ItOf _ _ _ => hit
  rename Fr _ _ _ _ => F2
  rename News _ _ _ _ => N2
  obtain ⟨S, hS⟩ := second_of N2
  rw [← hS] at F2 N2 l1
  have lN : ∀ p ∈ news, p.1 < S := by rw [hS]; assumption
  have lS := l1 _ (.head _)
  dsimp only at lS
  refine' for_listT (items := us) (i₀ := 0) (fun i m₁ news₁ => ∃ vi tl n, news₁ = (S, listOf (vi ++ [.str (eRun (ks.take i)).2 tl]).toArray n) :: news ∧ StrsAre vi (eRun (ks.take i)).1 ∧ m₁ (Str.ofString "stretches") = some (.ref S)) ?hh F2 N2 hit ?h0 (Nat.zero_le _) ?hoff ?hlist ?href ?turn ?done
  case hh => rfl
  case href =>
    intro i v hv
    have hik : i < ks.length := by
      rw [← hul]
      rcases Nat.lt_or_ge i us.length with q | q
      · exact q
      · rw [List.getElem?_eq_none q] at hv; cases hv
    obtain ⟨ta, _, e, _⟩ := hpa.2 i v (ks[i]) hv (by simp [hik])
    exact ⟨ta, e⟩
  case h0 => exact ⟨[], _, _, rfl, .nil, rfl⟩
  case hoff =>
    rintro i m₁ news₁ ⟨vi, tl, n, rfl, _⟩ p hp
    refine Nat.ne_of_lt ?_
    rcases List.mem_cons.mp hp with rfl | hp
    · exact lS
    · exact l1 p (.tail _ hp)
  case hlist =>
    rintro i m₁ news₁ h ⟨vi, tl, n, rfl, _⟩ F N
    exact News.isList N (.tail _ hpl)
  case turn =>
    rintro i v m₁ news₁ h tk oI hv ⟨vi, tl, n, rfl, hvs, hm1⟩ F1 N1 hit
    have hik : i < ks.length := by
      rw [← hul]
      rcases Nat.lt_or_ge i us.length with q | q
      · exact q
      · rw [List.getElem?_eq_none q] at hv; cases hv
    obtain ⟨k, hk0⟩ : ∃ k, ks[i]? = some k := ⟨ks[i], by simp [hik]⟩
    have hP := hpa.2 i v k hv hk0
    obtain ⟨ta, hta⟩ : ∃ ta, v = .ref ta := by obtain ⟨ta, _, e, _⟩ := hP; exact ⟨ta, e⟩
    subst hta
    have F2 := fr_say [(Str.ofString "stretches", .ref S)] (by simp [hm1]) F1
    clear F1
    k_steps
    rename PrtV _ _ => hpv
    unfold PrtV at hpv
    have hstep : eRun (ks.take (i + 1)) = eStep (eRun (ks.take i)) k := by
      unfold eRun
      rw [List.take_add_one, hk0]; simp
    have hb := eRun_bound (ks.take i)
    have hvil := hvs.length
    have htk : (ks.take i).length ≤ 200 := by rw [List.length_take]; lia
    generalize eRun (ks.take i) = st at *
    have hst2 : st.2.length ≤ 2000 := by lia
    have hvsl : vi.length ≤ 300 := by lia
    cases hpk : prt k with
    | some x =>
      have hxl := prt_len hpk
      rw [hpk] at hpv
      obtain ⟨tx, rfl⟩ := hpv
      k_steps
      rename ItOf oI _ _ => hit'
      exact ⟨_, _, _, _, _, rfl, by assumption, by assumption, hit', vi, _, _, by rw [hstep, eStep_some hpk], by rw [hstep, eStep_some hpk]; exact hvs, rfl⟩
    | none =>
      rw [hpk] at hpv
      subst hpv
      k_steps
      · rename ItOf oI _ _ => hit'
        rename ((_ : Nat) : Int) = 1 => hc1
        have he : st.1 = [] := by
          have hz : st.1.length = 0 := by simp only [List.length_append, List.length_cons, List.length_nil] at hc1; lia
          exact List.eq_nil_of_length_eq_zero hz
        refine ⟨_, _, _, _, _, rfl, by assumption, by assumption, hit', vi ++ [.str st.2 tl], _, _, by rw [hstep, eStep_new hpk (.inl he)], by rw [hstep, eStep_new hpk (.inl he)]; exact kct_snoc hvs, rfl⟩
      · rename ItOf oI _ _ => hit'
        rename (st.2 != Str.ofString "") = true => hc1
        have he : st.2 ≠ Str.ofString "" := by simpa using hc1
        refine ⟨_, _, _, _, _, rfl, by assumption, by assumption, hit', vi ++ [.str st.2 tl], _, _, by rw [hstep, eStep_new hpk (.inr he)], by rw [hstep, eStep_new hpk (.inr he)]; exact kct_snoc hvs, rfl⟩
      · rename ItOf oI _ _ => hit'
        rename (st.2 != Str.ofString "") = false => hc1
        rename ((_ : Nat) : Int) ≠ 1 => hc2
        have he : ¬ (st.1 = [] ∨ st.2 ≠ Str.ofString "") := by
          rintro (q | q)
          · apply hc2
            rw [q] at hvil
            simp only [List.length_append, List.length_cons, List.length_nil] at *
            lia
          · exact q (by simpa using hc1)
        refine ⟨_, _, _, _, _, rfl, by assumption, by assumption, hit', vi, _, _, by rw [hstep, eStep_same hpk he], by rw [hstep, eStep_same hpk he]; exact hvs, rfl⟩
  case done =>
    rintro m₁ news₁ h tk ⟨vi, tl, n, rfl, hvs, hm1⟩ F1 N1
    have F2 := fr_say [(Str.ofString "stretches", .ref S)] (by simp [hm1]) F1
    clear F1
    rw [hul, List.take_length] at hvs N1
    have hb := eRun_bound ks
    have hvil := hvs.length
    dsimp only
    cases hst : eRun ks with
    | mk fr la =>
      rw [hst] at hvs hb hvil N1
      dsimp only at hvs hb hvil N1
      cases fr with
      | nil =>
        cases hvs
        have hx0 : ([Value.str la tl])[(0 : Int).toNat]? = some (.str la tl) := rfl
        have hexp : exprS ks = la := by unfold exprS; rw [hst]
        simp only [List.nil_append] at N1
        k_steps
        all_goals first
          | (exfalso; rename ((_ : Nat) : Int) ≠ 1 => hc; exact hc rfl)
          | skip
        refine hret _ _ _ _ (by assumption) ?_ ⟨rfl, _, by rw [hexp]⟩
        rename News h₀ _ _ _ => N9
        exact news_sub N9 fun p hp => List.Mem.tail _ hp
      | cons f r =>
        obtain ⟨vr, tf, rfl, hvr⟩ : ∃ vr tf, vi = .str f tf :: vr ∧ StrsAre vr r := by
          cases hvs
          exact ⟨_, _, rfl, by assumption⟩
        have hexp : exprS ks = f ++ Txt.join (Str.ofString "") (r.map wrapS) ++ Str.ofString ".*" ++ la := by unfold exprS; rw [hst]
        have hvrl := hvr.length
        have hx0 : (Value.str f tf :: vr ++ [Value.str la tl])[(0 : Int).toNat]? = some (.str f tf) := rfl
        have hvsl : vr.length ≤ 300 := by simp only [List.length_cons] at hb; lia
        k_steps
        · exfalso
          rename ((_ : Nat) : Int) = 1 => hc
          simp only [List.length_append, List.length_cons, List.length_nil] at hc
          lia
        refine MyStop.intro ?_
        rename News _ _ _ _ => N5
        rename Fr _ _ _ _ => F5
        rw [slice_inner2] at N5
        refine LCg.CompSrc.ledger rfl F5 N5 (by walk_at "my mem") (by simp only [List.size_toArray, PySem.sizeLine_eq]; lia) ?_
        intro g
        rw [List.size_toArray]
        refine rest_pure vr.length (fun i v y => ∃ x t', r[i]? = some x ∧ y = .str (wrapS x) t') (.inr ⟨_, by walk_at "my mem", rfl, _, rfl⟩) ?elt ?fin
        case elt =>
          intro i v I oI C oC D oD m₂ h tk hlt hP hns hx F N
          obtain ⟨x, t, hx', rfl⟩ := strs_get hvr (by simpa using hP)
          have hxl : x.length ≤ 2000 := by
            have := sum_le (List.mem_of_getElem? hx')
            simp only [List.map_cons, List.sum_cons] at hb
            lia
          k_steps
          rename Fr _ _ _ _ => F6
          rename News _ _ _ _ => N6
          exact EltEnd.intro ⟨_, _, hx', rfl⟩ F6 N6 (fun p hp => hp)
        case fin =>
          intro us1 hus1 hall1
          unfold LCg.FinA
          intro D1 h1 tk1 F6 N6 off1
          dsimp only at F6 N6 ⊢
          have hiw : StrsAre us1 (r.map wrapS) := strs_of (by simp [hus1, hvrl]) fun j y hj => by
            obtain ⟨v, _, x, t, hx', e⟩ := hall1 j y hj
            exact ⟨wrapS x, t, by rw [List.getElem?_map, hx']; rfl, e⟩
          have hsum : ((r.map wrapS).map Str.length).sum ≤ 100000 := by
            rw [wrap_sum]; simp only [List.map_cons, List.sum_cons, List.length_cons] at hb; lia
          have hjl : (Txt.join (Str.ofString "") (r.map wrapS)).length ≤ 100000 := by rw [join_len]; exact hsum
          have hfl : f.length ≤ 2000 := by simp only [List.map_cons, List.sum_cons] at hb; lia
          have hll : la.length ≤ 2000 := by lia
          k_steps
          refine hret _ _ _ _ (by assumption) ?_ ⟨rfl, _, by rw [hexp]⟩
          rename News h₀ _ _ _ => N9
          refine news_sub N9 fun p hp => ?_
          repeat' refine' List.Mem.tail _ ?_
          exact hp
end
theorem words35 : True := by
  k_with_none
  (k_with "m my g1" => (with_reducible show wpAny _ _ (PySem.call (Value.builtin _) [Value.ref _]) _ _ _))
  (k_with "m my g2" => (with_reducible show wpAny _ _ (PySem.call (Value.builtin _) [Value.ref _, _]) _ _ _))
  (k_with "m my g3" => (with_reducible show wpAny _ _ (PySem.call (Value.builtin _) [Value.str _ _, Value.ref _]) _ _ _))
  (k_with "m my ga" => (((with_reducible show wpAny _ _ (PySem.call (Value.builtin _) (_ ++ _)) _ _ _); dsimp only [List.cons_append, List.nil_append])))
  (k_with "m my back" => ((intro r9w news9w h9w tk9w F9w N9w P9w; obtain ⟨e9w, t9w, e8w⟩ := P9w; subst e9w; subst e8w; (try dsimp only); (try k_fold))))
  (k_with "m my enter" => ((refine' code_def ?k1 ?k2 ?k3 ?k4 ?k5 ?kA ?kF ?kK ?k6 ?k7 ?k8 ?k9 ?kB ?_ ?c2 ?c3 ?c4 ?c5; (case kA => exact rfl); (case kF => exact rfl); (case kK => assumption); (case k1 => k_asm); (case k2 => k_asm); (case k3 => k_asm); (case k4 => k_asm); (case k5 => k_asm); (case k6 => k_is); (case k7 => k_is); (case k8 => ktr_room); (case k9 => first | exact BindsTo.of_eq rfl | exact binds_K (by k_in) rfl (by k_is) rfl rfl rfl); (case c5 => decide); (case kB => exact locs rfl); (case c2 => exact rfl); (case c3 => exact rfl); (case c4 => exact rfl); k_whole)))
  (k_with "m call builtin:iter" => ((k_here; walk_at "my g1"; k_dflt (refine it_iter (h := ?_); k_whole); intro I'w h'w o'w F'w N'w l1w l2w hi'w; (try k_lt l1w); (try k_lt2 l2w))))
  (k_with "m compareOp Is str ref" => ((refine is_str_ref ?_)))
  (k_with "m exec For Name Name cons nil" => ((refine wpAny_noRaise ?_; k_dflt (refine for_stmt (h := ?_)))))
  (k_with "m pyIter ref" => ((k_dflt (refine it_self (h := ?_)))))
  (k_with "m call builtin:next" => ((k_here; walk_at "my g1"; k_dflt (refine it_next (h := ?_); k_whole); intro h'w o'w F'w N'w hi'w)))
  (k_with "m compareOp Is ref ref" => ((k_dflt (refine wpAny_is_ref_self ?_))))
  (k_with "m my mem" => (first | exact List.Mem.head _ | with_reducible assumption | assumption | (refine' List.Mem.tail _ ?_; walk_at "my mem")))
  (k_with "m my enterC" => ((refine' code_defC ?k1 ?k2 ?k3 ?k4 ?k5 ?kA ?kF ?kK ?k6 ?k7 ?k8 ?k9 ?kB ?kD ?_ ?c2 ?c3 ?c4; (case kA => exact rfl); (case kF => exact rfl); (case kK => assumption); (case k1 => k_asm); (case k2 => k_asm); (case k3 => k_asm); (case k4 => k_asm); (case k5 => k_asm); (case k6 => k_is); (case k7 => k_is); (case k8 => ktr_room); (case k9 => first | exact BindsTo.of_eq rfl | exact binds_K (by k_in) rfl (by k_is) rfl rfl rfl); (case kB => exact rfl); (case kD => decide +kernel); (case c2 => exact rfl); (case c3 => exact rfl); (case c4 => exact rfl); k_whole)))
  (k_with "m eval ListComp" => ((k_here; (with_reducible show wpAny _ _ (eval (PySem.Expr.ListComp _ [⟨PySem.Expr.Name _ _, _, [], _⟩] _ _) _) _ _ _); k_dflt (refine LCg.ListComp_U (F₀ := by k_asm) (by rfl) (by decide) (by rfl) (by decide) (by rfl) ?_); refine wpAny_stop ?_)))
  (k_with "m exec Assign cons ListComp" => ((k_here; (with_reducible show wpAny _ _ (exec (Stmt.Assign [_] (PySem.Expr.ListComp _ [⟨PySem.Expr.Name _ _, _, [], _⟩] _ _) _) _) _ _ _); k_dflt (refine LCg.Assign_ListComp_U (F₀ := by k_asm) (by rfl) (by with_unfolding_all rfl) (by rfl) (by decide) (by rfl) (by decide) (by rfl) (by rfl) (by rfl) ?_); refine wpAny_stop ?_)))
  (k_with "m exec Assign cons ListComp" => ((k_here; (with_reducible show wpAny _ _ (exec (Stmt.Assign [_] (PySem.Expr.ListComp _ [⟨_, _, [_], _⟩] _ _) _) _) _ _ _); k_dflt (refine LCt.Assign_ListComp_T (F₀ := by k_asm) (by rfl) (by with_unfolding_all rfl) (by rfl) (by decide) (by rfl) (by decide) (by rfl) (by rfl) (by rfl) ?_); refine wpAny_stop ?_)))
  (k_with "m call builtin:len" => ((k_here; walk_at "my g1"; k_dflt (refine kst_len (by k_asm) (by walk_at "my mem") (by exact rfl) (by lia) ?_; k_whole))))
  (k_with "m my sub" => (first | exact List.forall_mem_nil _ | (with_reducible refine List.forall_mem_cons.mpr ⟨?_, ?_⟩; (focus (walk_at "my mem")); walk_at "my sub") | exact fun _ h => h | (intro pw hpw; repeat' (first | exact hpw | refine' List.Mem.tail _ ?_))))
  (k_with "m eval Name" => ((k_here; (with_reducible show wpAny _ _ (eval (PySem.Expr.Name _ _) (compEnvC _ _ _ _)) _ _ _); k_dflt (refine ld_cellA (h := ?_); k_whole))))
  (k_with "m eval Name" => ((k_here; (with_reducible show wpAny _ _ (eval (PySem.Expr.Name _ _) (envOfC _ _ _ _ _)) _ _ _); k_dflt (refine ld_cellB (h := ?_); k_whole))))
  (k_with "m binaryOp Mult ref int" => ((k_here; k_dflt (refine mul_led (h := ?_); k_whole); intro D'w h'w F'w N'w l1'w; (try dsimp only))))
  (k_with "m my ints" => (first | with_reducible assumption | exact slice_ints_fromW (by with_reducible assumption) (by lia)))
  (k_with "m call builtin:sum" => ((k_here; walk_at "my g1"; k_dflt (refine sum_led (h := ?_); k_whole); intro h'w tk'w t'w F'w N'w; (try dsimp only))))
  (k_with "m subscriptTail Name Slice ref ref" => ((k_here; (with_reducible show wpAny _ _ (subscriptTail _ (PySem.Expr.Slice _ _ none _) (Value.ref _) (Value.ref _)) _ _ _); k_dflt (refine kmk_slice (by k_asm) (by k_asm) (by exact News.isList (by k_asm) (by walk_at "my mem")) (by kmk_part) (by kmk_part) ?_ (by with_unfolding_all rfl) (by kmk_pure) (by (simp only [List.size_toArray, PySem.sizeLine_eq]; lia))); intro D'w h'w F'w N'w l1'w; (try dsimp only))))
  (k_with "m binaryOp Add ref ref" => ((k_here; k_dflt (refine cat_list (h := ?_); k_whole); intro D'w h'w F'w N'w l1'w; (try dsimp only))))
  (k_with "m execs cons" => (((first | with_reducible refine execs_one ?_ | (with_reducible refine execs_cut ?_; intro _ _)); try dsimp only)))
  (k_with "m execs cons" => ((with_reducible refine gen_toks ?_; intro tkw)))
  (k_with "m execs nil" => ((with_reducible refine gen_toks ?_; intro tkw)))
  (k_with "m Goto next" => (with_reducible refine goto_next (by with_reducible assumption) ?_))
  (k_with "m Goto" => (first | with_reducible refine goto_ret (by with_reducible assumption) ?_ | with_reducible refine goto_brk (by with_reducible assumption) ?_ | with_reducible refine goto_cont (by with_reducible assumption) ?_))
  (k_with "m my updF" => (first | (refine UpdF.head (by exact all_ne (by with_reducible assumption))) | (refine UpdF.tail (by first | exact Ne.symm (Nat.ne_of_lt (by with_reducible assumption)) | exact Nat.ne_of_lt (by with_reducible assumption)) (by walk_at "my updF"))))
  (k_with "m call builtin:list.append" => ((k_here; walk_at "my g2"; k_dflt (refine push_snoc (h := ?_); k_whole); intro h'w c'w F'w N'w)))
  (k_with "m call builtin:list.append" => ((walk_at "my ga")))
  (k_with "m setItem ref int" => ((k_here; k_dflt (refine set_last (h := ?_); k_whole); intro h'w c'w F'w N'w)))
  (k_with "m getItem ref int" => ((k_here; k_dflt (refine get_last (h := ?_); k_whole))))
  (k_with "m getItem ref int" => (((with_reducible show wpAny _ _ (getItem (Prod.snd _) _) _ _ _); dsimp only)))
  (k_with "m setItem ref int" => (((with_reducible show wpAny _ _ (setItem (Prod.snd _) _ _) _ _ _); dsimp only)))
  (k_with "m subscriptTail Name Constant ref int" => ((k_here; k_dflt (refine item_at (h := ?_); k_whole))))
  (k_with "m call builtin:str.join" => ((walk_at "my ga")))
  (k_with "m call builtin:str.join" => ((k_here; walk_at "my g3"; k_dflt (refine join_led (h := ?_)); intro tjw kjw)))
  (k_with "m subscriptTail Name UnaryOp ref int" => ((k_here; k_dflt (refine item_snoc (h := ?_); k_whole))))
  (k_with "m call builtin:len" => ((k_here; walk_at "my g1"; k_dflt (refine kst_len (by k_asm) (by walk_at "my mem") (by exact rfl) (by (simp only [List.size_toArray, List.length_append, List.length_cons, List.length_nil]; lia)) ?_; k_whole))))
  (k_with "m call builtin:len" => (((with_reducible show wpAny _ _ (PySem.call (Value.builtin "len") [Prod.snd _]) _ _ _); dsimp only)))
  trivial
abbrev bmOf (l : Addr) : Obj := { cls := .type "builtin_function_or_method", data := .fields #[.builtin "list.append", .ref l] }
theorem md_slot_get : Slot "method_descriptor" "__get__" "method_descriptor.__get__" :=
  .of (owner := "method_descriptor") (n := "__get__") (by rw [typeLookup_type, builtinLookup_eq_fast]; kernel_rfl) (by decide +kernel) (by decide +kernel) (by decide +kernel)
    (by first | exact .inl (by decide +kernel) | exact .inr (by decide +kernel)) (by rw [isSubtype_type]; kernel_rfl)
theorem md_entry_get : entryFor table "method_descriptor.__get__" = some Builtin.«method_descriptor.__get__» := entryFor_of_tree (by kernel_rfl)
theorem md_args_get (a b c : Value) : argsOk "method_descriptor.__get__" ⟨[a, b, c], []⟩ := by unfold argsOk; kernel_rfl
theorem md_set_none : typeLookup (.type "method_descriptor") "__set__" = pure none := by rw [typeLookup_type, builtinLookup_eq_fast]; kernel_rfl
theorem md_del_none : typeLookup (.type "method_descriptor") "__delete__" = pure none := by rw [typeLookup_type, builtinLookup_eq_fast]; kernel_rfl
theorem md_told : Manifest.toldItsClass.contains "list.append" = false := by decide +kernel
section
variable {prog : Program} {w : World} {A : Around} {E : Value → Shared → Prop} {s : Shared}
theorem md_run_get {P : Fin → Shared → Prop} {l : Addr} (hT : s.TypeIs (.ref l) "list") (h : P (.done (.ret (.ref s.heap.objs.size))) { s with heap := s.heap.push (bmOf l) }) :
    wpAny (model prog w) A (Builtin.«method_descriptor.__get__» ⟨[.builtin "list.append", .ref l, .type "list"], []⟩) P E s := by
  unfold Builtin.«method_descriptor.__get__»
  refine wpAny_bind (wpAny_of_eq (a := (.builtin "list.append", some (.ref l), some (.type "list"))) (by first | rfl | kernel_rfl) ?_)
  simp only [md_told]
  refine KFB.if_not rfl ?_
  have f1 : isSubtype (.type "list") (.type "list") = pure true := by rw [isSubtype_type]; kernel_rfl
  have own : ".".intercalate ("list.append".cutAt '.').dropLast = "list" := by first | decide +kernel | kernel_rfl
  repeat (any_goals (first | assumption | wp_step))
  rw [own]
  refine wpAny_of_eq f1 ?_
  refine KFB.if_not rfl ?_
  refine wpAny_pure ?_
  exact wpAny_bind (wpAny_newObj_type (wpAny_pure h))
theorem md_getattribute {P : Fin → Shared → Prop} {l : Addr} {xs : Array Value} {k : Nat} {u : Tok} (hx : s.heap.get? l = some (listOf xs k)) (hA : A.handled = none) (h : P (.done (.ret (.ref s.heap.objs.size))) { s with heap := s.heap.push (bmOf l) }) :
    wpAny (model prog w) A (Builtin.«object.__getattribute__» ⟨[.ref l, .str (Str.ofString "append") u], []⟩) P E s := by
  obtain ⟨hp, g, d, tk, os⟩ := s
  have hT : (⟨hp, g, d, tk, os⟩ : Shared).TypeIs (.ref l) "list" := ⟨_, hx, rfl⟩
  have f2 := F.slot_list_append.lookup
  have f3 := F.type_list_append
  have f4 := md_slot_get.lookup
  have f5 := md_set_none
  have f6 := md_del_none
  unfold Builtin.«object.__getattribute__»
  repeat (any_goals (first | assumption | ((with_reducible show wpAny _ _ (call (Value.builtin "method_descriptor.__get__") _ _) _ _ _); refine wpAny_call_entry md_slot_get f3 md_entry_get (md_run_get hT ?_) (md_args_get _ _ _)) | wp_step))
  exact ⟨_, rfl, wpAny_pure h⟩
theorem getAttr_append {Q : Value → Shared → Prop} {h₀ : Heap} {L l : Addr} {m : Str → Option Value} {news : List (Addr × Obj)} {xs : Array Value} {k : Nat} (F : Fr h₀ L s.heap m := by k_asm) (N : News h₀ L s.heap news := by k_asm) (hm : (l, listOf xs k) ∈ news := by walk_at "my mem") (hA : A.handled = none := by exact rfl)
    (h : ∀ b h' tk, Fr h₀ L h' m → News h₀ L h' ((b, bmOf l) :: news) → (∀ p ∈ news, p.1 < b) → Q (.ref b) { s with heap := h', toks := tk }) :
    wpAny (model prog w) A (getAttr (.ref l) (Str.ofString "append") true) Q E s := by
  have hx := (N _ hm).1
  have key : ∀ tk, Q (.ref s.heap.objs.size) { s with heap := s.heap.push (bmOf l), toks := tk } := fun tk => h _ _ tk (F.push _) (News.push F N _ rfl) fun p hp => Heap.lt_size (N p hp).1
  clear h
  obtain ⟨hp, g, d, tk, os⟩ := s
  have hT : ∀ tk', (⟨hp, g, d, tk', os⟩ : Shared).TypeIs (.ref l) "list" := fun _ => ⟨_, hx, rfl⟩
  have f3 := PySem.F.slot_list_getattribute.lookup
  have f4 := PySem.F.slot_list_getattribute.bind (.ref l)
  have f5 := am_list_getattr_none
  unfold getAttr getAttrBy
  repeat (any_goals (first | assumption | exact hT _ | ((with_reducible show wpAny _ _ (call (Value.builtin "list.__getattribute__") _ _) _ _ _); refine wpAny_call_entry PySem.F.slot_list_getattribute (hT _) am_entry_list_getattribute (md_getattribute hx hA ?_) (PySem.F.args_list_getattribute_2 _ _)) | wp_step))
  exact ⟨_, rfl, wpAny_pure (key _)⟩
noncomputable def BStands (u l : Addr) (h : Heap) : Prop := h.get? u = some (bmOf l)
theorem callWith_fieldsB {pos : Pos} {u l : Addr} {first : List Value} {args : List (Bool × Sem Value)} {Q : Value → Shared → Prop} (hplain : args.any (·.1) = false)
    (h : wpAny (model prog w) A (evalArgs (.ref u) true args []) (fun x s₁ => BStands u l s₁.heap ∧ wpAny (model prog w) A (call (.ref u) (first ++ x.pos) x.kw) Q E s₁) E s) : wpAny (model prog w) A (callWith pos (.ref u) first args []) Q E s := by
  unfold callWith
  refine wpAny_bind (wpAny_holding (wpAny_mono h (fun x s₁ h₁ => wpAny_bind (wpAny_standAt ?_)) fun _ _ x => x))
  obtain ⟨ho, hcall⟩ := h₁
  simp only [hplain, List.any_nil, Bool.or_false]
  refine wpAny_bind (m := keeperOf (.ref u)) ?_
  unfold keeperOf
  refine wpAny_bind (wpAny_load ho ?_)
  simp only [show (Value.type "builtin_function_or_method" != Value.type "method") = true by decide, show (Value.type "builtin_function_or_method" == Value.type "builtin_function_or_method" || Value.type "builtin_function_or_method" == Value.type "method-wrapper") = true by decide, if_true]
  refine wpAny_pure ?_
  exact wpAny_bind (wpAny_mono hcall (fun r s₂ hr => wpAny_bind (wpAny_holding (wpAny_point (wpAny_pure hr)))) fun _ _ x => x)
theorem callWith_boundB {pos : Pos} {u l L : Addr} {h₀ : Heap} {news : List (Addr × Obj)} {first : List Value} {env : Env} {e : PySem.Expr} {rest : List PySem.Expr} {Q : Value → Shared → Prop} (_N : News h₀ L s.heap news := by k_asm) (_hm : (u, bmOf l) ∈ news := by walk_at "my mem")
    (h : wpAny (model prog w) A (spliced (backTo pos (starEach (e :: rest) env))) (fun vs s₁ => BStands u l s₁.heap ∧ wpAny (model prog w) A (call (.ref u) (first ++ vs)) Q E s₁) E s)
    (he : starEach (e :: rest) env = (false, eval e env) :: starEach rest env := by rfl) (hplain : (backTo pos (starEach rest env)).any (·.1) = false := by rfl) :
    wpAny (model prog w) A (callWith pos (.ref u) first (backTo pos (starEach (e :: rest) env)) []) Q E s := by
  rw [he] at h ⊢
  refine callWith_fieldsB (l := l) (by show (false || (backTo pos (starEach rest env)).any (·.1)) = false; rw [hplain]; rfl) ?_
  exact evalArgs_plain h
theorem check_append {l : Addr} {x : Value} {xs : Array Value} {k : Nat} {Q : Unit → Shared → Prop} (hx : s.heap.get? l = some (listOf xs k)) (h : Q () s) :
    wpAny (model prog w) A (checkBoundCall "list.append" ⟨[.ref l, x], []⟩) Q E s := by
  have hT : s.TypeIs (.ref l) "list" := ⟨_, hx, rfl⟩
  unfold checkBoundCall
  repeat (any_goals (first | assumption | wp_step))
  have f1 : isSubtype (.type "list") (.type "module") = pure false := by rw [isSubtype_type]; kernel_rfl
  have f3 : (Manifest.varargsMethods.contains "list.append" || false) = false := by rw [Bool.or_false]; decide +kernel
  refine wpAny_of_eq f1 ?_
  refine KFB.if_not f3 ?_
  wp_step
  wp_step
  wp_step
  wp_step
  wp_step
  refine wpAny_pure ?_
  dsimp only
  refine KFB.if_not rfl ?_
  refine wpAny_bind (wpAny_typeOf hT ?_)
  dsimp only
  exact wpAny_of_eq (a := ()) (by first | kernel_rfl | rfl) h
theorem quiet_append {as : Args} : (Code.builtin "list.append" as).quiet = true := Code.quiet_builtin _ (by decide +kernel)
theorem call_bm {u l L : Addr} {h₀ : Heap} {m : Str → Option Value} {news : List (Addr × Obj)} {vs : List Value} {x : Value} {c : Nat} {g : Obj → List (Addr × Obj)} {Q : Value → Shared → Prop}
    (F : Fr h₀ L s.heap m := by k_asm) (N : News h₀ L s.heap news := by k_asm) (hb : (u, bmOf l) ∈ news := by walk_at "my mem") (U : UpdF l (listOf vs.toArray c) news g := by walk_at "my updF") (hsz : vs.length ≤ sizeLine := by (simp only [PySem.sizeLine_eq, List.length_append, List.length_cons, List.length_nil]; lia))
    (h : ∀ h' c', Fr h₀ L h' m → News h₀ L h' (g (listOf (vs ++ [x]).toArray c')) → Q .none { s with heap := h' }) :
    wpAny (model prog w) A (call (.ref u) [x]) Q E s := by
  obtain ⟨pre, post, hl', hg, ha, hbb⟩ := U.split
  have hmem : (l, listOf vs.toArray c) ∈ news := by rw [hl']; exact List.mem_append_right _ (.head _)
  have hm := N _ hmem
  refine wpAny_call (codeAny_of_tree ?_)
  show wpAny _ A.in1 (callAny (.ref u) ⟨[x], []⟩) _ _ s
  simp only [callAny]
  refine wpAny_bind (wpAny_load (N _ hb).1 ?_)
  refine KFB.if_so (by dsimp only; decide) ?_
  refine wpAny_bind (check_append hm.1 ?_)
  refine wpAny_bind (wpAny_pure (wpAny_pure ?_))
  refine ⟨quiet_append, codeAny_builtin PySem.F.entry_list_append ?_⟩
  show wpAny _ _ (updateSeq l (·.push x) >>= fun _ => ret .none) _ _ s
  refine wpAny_bind ?_
  refine wpAny_updateSeq hm.1 rfl (wpAny_pure ?_)
  show Q .none _
  have ho' : (s.heap.update l (Obj.mapSeq fun x_1 => x_1.push x)).get? l = some (listOf (vs ++ [x]).toArray (c + 1)) := by
    have e : vs.toArray.push x = (vs ++ [x]).toArray := by simp
    rw [Heap.get?_update_self _ hm.1 (by rw [mapSeq_push]; rfl), mapSeq_push, e]
  have hs := Heap.SameBut.update s.heap l (Obj.mapSeq fun x_1 => x_1.push x)
  exact h _ (c + 1) (F.change hs hm.2.1 hm.2.2) (hg _ ▸ (show News h₀ L s.heap (pre ++ (l, _) :: post) from hl' ▸ N).setIn ha hbb hs ho')
end
theorem words39 : True := by
  (k_with "m my bm" => ((fail_if_success (fail_if_success (first | (with_reducible rename News _ _ _ ((_, bmOf _) :: _) => hbm9w) | (with_reducible rename News _ _ _ (_ :: (_, bmOf _) :: _) => hbm9w) | (with_reducible rename News _ _ _ (_ :: _ :: (_, bmOf _) :: _) => hbm9w) | (with_reducible rename News _ _ _ (_ :: _ :: _ :: (_, bmOf _) :: _) => hbm9w) | (with_reducible rename News _ _ _ (_ :: _ :: _ :: _ :: (_, bmOf _) :: _) => hbm9w) | (with_reducible rename News _ _ _ (_ :: _ :: _ :: _ :: _ :: (_, bmOf _) :: _) => hbm9w))))))
  (k_with "m getAttr ref" => ((k_here; (with_reducible show wpAny _ _ (getAttr (Value.ref _) (PySem.Str.ofString "append") true) _ _ _); k_dflt (refine getAttr_append (h := ?_)); intro b'w h'w tk'w F'w N'w l1'w)))
  (k_with "m callWith ref" => ((k_here; (with_reducible show wpAny _ _ (callWith _ (Value.ref _) _ (backTo _ (starEach (_ :: _) _)) []) _ _ _); walk_at "my bm"; k_dflt (refine callWith_boundB (h := ?_); k_whole))))
  (k_with "m And" => (((with_reducible show BStands _ _ _ ∧ _); k_dflt (refine ⟨News.get (by k_asm) (by walk_at "my mem"), ?_⟩); (try dsimp only [List.nil_append, List.cons_append]))))
  (k_with "m call ref" => ((k_here; (with_reducible show wpAny _ _ (PySem.call (Value.ref _) [_]) _ _ _); walk_at "my bm"; k_dflt (refine call_bm (h := ?_); k_whole); intro h'w c'w F'w N'w)))
  trivial
noncomputable def WStop (P : Prop) : Prop := P
theorem WStop.out {P : Prop} (h : WStop P) : P := h
theorem WStop.intro {P : Prop} (h : P) : WStop P := h
theorem words42 : True := by
  (k_with "m my while" => (((with_reducible show wpAny _ _ (exec (Stmt.While _ _ _ _) _) _ _ _); refine WStop.out ?_)))
  (k_with "m exec While BoolOp" => (walk_at "my while"))
  (k_with "m exec While Compare" => (walk_at "my while"))
  (k_with "m last exec While" => (walk_at "my while"))
  (k_with "m exec While" => (walk_at "my while"))
  (k_with "m WIf" => (first | with_reducible refine WIf.yes rfl ?_ | with_reducible refine WIf.no rfl ?_ | refine WIf.yes (decide_eq_true (by lia)) ?_ | refine WIf.no (decide_eq_false (by lia)) ?_))
  trivial
section
noncomputable def flatO (segs : List (List Str)) : List (Option Str) := segs.flatMap fun g => none :: g.map some
noncomputable def outS : List (List Str) → List Str
  | [] => []
  | [g] => if g = [] then [Str.ofString ".*"] else [Str.ofString ".*", Txt.join (Str.ofString "") g]
  | g :: g' :: r => wrapS (Txt.join (Str.ofString "") g) :: outS (g' :: r)
noncomputable def joinedS (pre : List Str) (segs : List (List Str)) : Str := Str.ofString "(?s:" ++ Txt.join (Str.ofString "") (pre ++ outS segs) ++ Str.ofString ")\\Z"
noncomputable def segsOk : List (List Str) → Prop
  | [] => True
  | [_] => True
  | g :: g' :: r => g ≠ [] ∧ segsOk (g' :: r)
theorem at_none {star : Value} {vs : List Value} {os rest : List (Option Str)} {i : Nat} (hp : PartsAre star vs os) (h : os.drop i = none :: rest) : vs[i]? = some star ∧ i < vs.length ∧ os.drop (i + 1) = rest := by
  have ho : os[i]? = some none := by have := congrArg (·[0]?) h; simpa using this
  have hlt : i < os.length := by
    rcases Nat.lt_or_ge i os.length with q | q
    · exact q
    · rw [List.getElem?_eq_none q] at ho; cases ho
  have hlt' : i < vs.length := by rw [hp.1]; exact hlt
  have hv : vs[i]? = some vs[i] := by simp [hlt']
  have := hp.2 i _ _ hv ho
  refine ⟨by rw [hv]; exact congrArg some this, hlt', ?_⟩
  have := congrArg (List.drop 1) h
  simpa [List.drop_drop, Nat.add_comm] using this
theorem at_some {star : Value} {vs : List Value} {os rest : List (Option Str)} {i : Nat} {x : Str} (hp : PartsAre star vs os) (h : os.drop i = some x :: rest) : (∃ t, vs[i]? = some (.str x t)) ∧ i < vs.length ∧ os.drop (i + 1) = rest := by
  have ho : os[i]? = some (some x) := by have := congrArg (·[0]?) h; simpa using this
  have hlt : i < os.length := by
    rcases Nat.lt_or_ge i os.length with q | q
    · exact q
    · rw [List.getElem?_eq_none q] at ho; cases ho
  have hlt' : i < vs.length := by rw [hp.1]; exact hlt
  have hv : vs[i]? = some vs[i] := by simp [hlt']
  obtain ⟨t, e⟩ := hp.2 i _ _ hv ho
  refine ⟨⟨t, by rw [hv, e]⟩, hlt', ?_⟩
  have := congrArg (List.drop 1) h
  simpa [List.drop_drop, Nat.add_comm] using this
theorem at_end {star : Value} {vs : List Value} {os : List (Option Str)} {i : Nat} (hp : PartsAre star vs os) (h : os.drop i = []) (hi : i ≤ vs.length) : i = vs.length := by
  have := List.drop_eq_nil_iff.mp h
  rw [← hp.1] at this
  lia
theorem at_pre {star : Value} {vs : List Value} {pre : List Str} {os : List (Option Str)} {i : Nat} (hp : PartsAre star vs (pre.map some ++ os)) (hi : i < pre.length) : ∃ t, vs[i]? = some (.str pre[i] t) ∧ i < vs.length := by
  have hlt : i < vs.length := by have := hp.1; simp only [List.length_append, List.length_map] at this; lia
  have hv : vs[i]? = some vs[i] := by simp [hlt]
  obtain ⟨t, e⟩ := hp.2 i _ (some pre[i]) hv (by rw [List.getElem?_append_left (by simpa using hi)]; simp [hi])
  exact ⟨t, by rw [hv, e], hlt⟩
theorem sum_mem {g : List Str} {segs : List (List Str)} (h : g ∈ segs) : (g.map Str.length).sum ≤ (segs.map fun g => (g.map Str.length).sum).sum := by
  induction segs with
  | nil => cases h
  | cons y r ih =>
    simp only [List.map_cons, List.sum_cons]
    rcases List.mem_cons.mp h with rfl | h
    · lia
    · have := ih h; lia
theorem outS_len : ∀ segs : List (List Str), (outS segs).length ≤ segs.length + 1
  | [] => by simp [outS]
  | [g] => by unfold outS; split <;> simp
  | g :: g' :: r => by have := outS_len (g' :: r); simp only [outS, List.length_cons] at *; lia
theorem flatO_len : ∀ segs : List (List Str), segs.length ≤ (flatO segs).length
  | [] => by simp [flatO]
  | g :: r => by have := flatO_len r; simp only [flatO, List.flatMap_cons, List.length_append, List.length_cons] at *; lia
theorem outS_sum : ∀ segs : List (List Str), ((outS segs).map Str.length).sum ≤ (segs.map fun g => (g.map Str.length).sum).sum + 7 * segs.length
  | [] => by simp [outS]
  | [g] => by
    have h2 : (Str.ofString ".*").length = 2 := by decide
    unfold outS
    split
    · simp [h2]
    · simp [h2, join_len]; lia
  | g :: g' :: r => by
    have ih := outS_sum (g' :: r)
    have hw : (wrapS (Txt.join (Str.ofString "") g)).length = (g.map Str.length).sum + 7 := by
      have h1 : (Str.ofString "(?>.*?").length = 6 := by decide
      have h2 : (Str.ofString ")").length = 1 := by decide
      unfold wrapS; rw [len_app, len_app, join_len]; lia
    simp only [outS, List.map_cons, List.sum_cons, List.length_cons] at *
    rw [hw]
    lia
theorem third_of {h₀ h : Heap} {L d b r : Addr} {o0 : Obj} {x : Array Value} {nw : List (Addr × Obj)} (_N : News h₀ L h ((d, o0) :: (b, bmOf r) :: (r, listOf x 0) :: nw)) : ∃ B R, B = b ∧ R = r := ⟨b, r, rfl, rfl⟩
noncomputable def LDone (P : Prop) : Prop := P
theorem LDone.out {P : Prop} (h : LDone P) : P := h
theorem LDone.intro {P : Prop} (h : P) : LDone P := h
noncomputable def JFr (l R B : Addr) (star : Value) (N i : Nat) (m : Str → Option Value) : Prop :=
  ∃ ti tn, m (Str.ofString "i") = some (.int (i : Int) ti) ∧ m (Str.ofString "n") = some (.int (N : Int) tn) ∧ m (Str.ofString "inp") = some (.ref l) ∧ m (Str.ofString "STAR") = some star ∧ m (Str.ofString "add") = some (.ref B) ∧ m (Str.ofString "res") = some (.ref R)
noncomputable def JSt (g : Heap) (L l R B : Addr) (star : Value) (N : Nat) (news : List (Addr × Obj)) (s : Shared) (i : Nat) (vi : List Value) (s' : Shared) : Prop :=
  ∃ h tk m c, s' = { s with heap := h, toks := tk } ∧ Fr g L h m ∧ News g L h ((B, bmOf R) :: (R, listOf vi.toArray c) :: news) ∧ JFr l R B star N i m
noncomputable def JIn (g : Heap) (L l R B : Addr) (star : Value) (N : Nat) (news : List (Addr × Obj)) (s : Shared) (FF : Addr) (i : Nat) (vi fx : List Value) (s' : Shared) : Prop :=
  ∃ h tk m c cf, s' = { s with heap := h, toks := tk } ∧ Fr g L h m ∧ News g L h ((FF, listOf fx.toArray cf) :: (B, bmOf R) :: (R, listOf vi.toArray c) :: news) ∧ JFr l R B star N i m ∧ m (Str.ofString "fixed") = some (.ref FF)
theorem JFr.mk' {l R B : Addr} {star : Value} {N i : Nat} {m : Str → Option Value} {ti tn : Tok} (h1 : m (Str.ofString "i") = some (.int (i : Int) ti)) (h2 : m (Str.ofString "n") = some (.int (N : Int) tn)) (h3 : m (Str.ofString "inp") = some (.ref l)) (h4 : m (Str.ofString "STAR") = some star) (h5 : m (Str.ofString "add") = some (.ref B)) (h6 : m (Str.ofString "res") = some (.ref R)) : JFr l R B star N i m := ⟨ti, tn, h1, h2, h3, h4, h5, h6⟩
section
variable {g h : Heap} {L l R B FF : Addr} {star : Value} {N' i c cf : Nat} {m : Str → Option Value} {news : List (Addr × Obj)} {s s' : Shared} {vi fx : List Value} {tk : Nat}
theorem JSt.mk' (F : Fr g L h m) (N : News g L h ((B, bmOf R) :: (R, listOf vi.toArray c) :: news)) (j : JFr l R B star N' i m) : JSt g L l R B star N' news s i vi { s with heap := h, toks := tk } := ⟨h, tk, m, c, rfl, F, N, j⟩
theorem JIn.mk' (F : Fr g L h m) (N : News g L h ((FF, listOf fx.toArray cf) :: (B, bmOf R) :: (R, listOf vi.toArray c) :: news)) (j : JFr l R B star N' i m) (e : m (Str.ofString "fixed") = some (.ref FF)) : JIn g L l R B star N' news s FF i vi fx { s with heap := h, toks := tk } := ⟨h, tk, m, c, cf, rfl, F, N, j, e⟩
theorem JSt.el {P : Prop} (x : JSt g L l R B star N' news s i vi s') (k : ∀ h tk m c ti tn, s' = { s with heap := h, toks := tk } → Fr g L h m → News g L h ((B, bmOf R) :: (R, listOf vi.toArray c) :: news) →
    m (Str.ofString "i") = some (.int (i : Int) ti) → m (Str.ofString "n") = some (.int (N' : Int) tn) → m (Str.ofString "inp") = some (.ref l) → m (Str.ofString "STAR") = some star → m (Str.ofString "add") = some (.ref B) → m (Str.ofString "res") = some (.ref R) → P) : P := by
  obtain ⟨h, tk, m, c, e, F, N, ti, tn, e1, e2, e3, e4, e5, e6⟩ := x
  exact k h tk m c ti tn e F N e1 e2 e3 e4 e5 e6
theorem JIn.el {P : Prop} (x : JIn g L l R B star N' news s FF i vi fx s') (k : ∀ h tk m c cf ti tn, s' = { s with heap := h, toks := tk } → Fr g L h m → News g L h ((FF, listOf fx.toArray cf) :: (B, bmOf R) :: (R, listOf vi.toArray c) :: news) →
    m (Str.ofString "i") = some (.int (i : Int) ti) → m (Str.ofString "n") = some (.int (N' : Int) tn) → m (Str.ofString "inp") = some (.ref l) → m (Str.ofString "STAR") = some star → m (Str.ofString "add") = some (.ref B) → m (Str.ofString "res") = some (.ref R) → m (Str.ofString "fixed") = some (.ref FF) → P) : P := by
  obtain ⟨h, tk, m, c, cf, e, F, N, ⟨ti, tn, e1, e2, e3, e4, e5, e6⟩, e7⟩ := x
  exact k h tk m c cf ti tn e F N e1 e2 e3 e4 e5 e6 e7
end
theorem empty_app (a : Str) : Str.empty ++ a = a := by
  show Str.append _ _ = _
  unfold Str.append
  simp [Str.empty]
theorem len_pre : (Str.ofString "(?>.*?").length = 6 := by decide
theorem len_par : (Str.ofString ")").length = 1 := by decide
theorem len_opn : (Str.ofString "(?s:").length = 4 := by decide
theorem len_end : (Str.ofString ")\\Z").length = 3 := by decide
theorem len_emp : Str.empty.length = 0 := rfl
noncomputable def IsStar (v : Value) : Prop := v = .none ∨ ∃ a, v = .ref a
section
variable {M : Model} {A : Around} {E : Value → Shared → Prop} {s : Shared} {Q : Value → Shared → Prop} {x : Str} {t : Tok} {v : Value}
theorem star_is (hs : IsStar v) (h : Q (.bool false) s) : wpAny M A (compareOp .Is (.str x t) v) Q E s := by
  rcases hs with rfl | ⟨a, rfl⟩
  · exact PyProof.Rows.is_str_none h
  · exact is_str_ref h
theorem star_isN (hs : IsStar v) (h : Q (.bool true) s) : wpAny M A (compareOp .IsNot (.str x t) v) Q E s := by
  rcases hs with rfl | ⟨a, rfl⟩
  · exact PyProof.Rows.isnot_str_none h
  · exact isNot_str_ref h
theorem star_same (hs : IsStar v) (h : Q (.bool true) s) : wpAny M A (compareOp .Is v v) Q E s := by
  rcases hs with rfl | ⟨a, rfl⟩
  · exact PyProof.Rows.is_none_none h
  · exact wpAny_is_ref_self h
theorem star_sameN (hs : IsStar v) (h : Q (.bool false) s) : wpAny M A (compareOp .IsNot v v) Q E s := by
  rcases hs with rfl | ⟨a, rfl⟩
  · exact PyProof.Rows.isnot_none_none h
  · exact wpAny_isNot_ref_self h
end
theorem words45 : True := by
  (k_with "m my fslen" => ((simp only [len_app, PySem.sizeLine_eq, len_pre, len_par, len_opn, len_end, len_emp]; lia)))
  (k_with "m formatField str" => ((refine formatField_str ?_ (by (rw [PySem.sizeLine_eq]; lia)); intro _ _)))
  (k_with "m And" => (((with_reducible show Str.length _ ≤ sizeLine ∧ _); (refine ⟨by walk_at "my fslen", ?_⟩))))
  (k_with "m joinParts" => ((k_here; (first | (with_reducible show wpAny _ _ (joinParts _ []) _ _ _) | (with_reducible show wpAny _ _ (joinParts _ (evalEach [] _)) _ _ _)); k_dflt (refine joinParts_nil ?_ (by walk_at "my fslen")))))
  (k_with "m compareOp Is" => (first | with_reducible refine star_is (by assumption) ?_ | with_reducible refine star_same (by assumption) ?_))
  (k_with "m compareOp IsNot" => (first | with_reducible refine star_isN (by assumption) ?_ | with_reducible refine star_sameN (by assumption) ?_))
  (k_with "m subscriptTail Name Name ref int" => ((k_here; k_dflt (refine item_at (h := ?_); k_whole))))
  trivial
set_option maxRecDepth 100000 in
set_option maxHeartbeats 4000000 in
theorem join_any (w : World) (l : Addr) (star : Value) (hst : IsStar star) (vs : List Value) (pre : List Str) (segs : List (List Str)) (c : Nat) (hok : segsOk segs)
    (hp : PartsAre star vs (pre.map some ++ flatO segs)) (hl : vs.length ≤ 1000) (hsm : (pre.map Str.length).sum + (segs.map fun g => (g.map Str.length).sum).sum ≤ 10000) :
    Con w 76 [.ref l, star] 4 (fun news => (l, listOf vs.toArray c) ∈ news)
      (fun news news' r => news = news' ∧ ∃ t, r = .str (joinedS pre segs) t) := by
  intro dp un gd cn cs a ccd cl outer A₀ base p loose mean mg mb h₀ L m news s Q E B F X N T hk hpre hd hu hret
  w_on
  refine wpAny_call ?_
  k_dflt (walk_at "my enter")
  intro g1 L1 h1 FG1 F1 N1 B1 X1 T1
  (try dsimp only)
  refine wpAny_noRaise ?_
  (try k_fold)
  k_steps
  refine WStop.intro ?_
  rename News _ _ _ _ => N2
  rename Fr _ _ _ _ => F2
  obtain ⟨bb, rr, hbb, hrr⟩ := third_of N2
  have lN : ∀ p ∈ news, p.1 < rr := by rw [hrr]; assumption
  have lB : ∀ p ∈ ((rr, listOf #[] 0) :: news), p.1 < bb := by rw [hrr, hbb]; assumption
  rw [← hbb, ← hrr] at N2 F2
  have hRB : rr < bb := lB (rr, _) (.head _)
  have lNB : ∀ p ∈ news, p.1 < bb := fun p hp => lB p (.tail _ hp)
  refine wpAny_mono (while_inv (Q := fun f s' => LDone (f = .next ∧ ∃ vi, StrsAre vi pre ∧ JSt g1 L1 l rr bb star vs.length news s pre.length vi s'))
    (fun n s' => ∃ i vi, i ≤ pre.length ∧ n = pre.length - i ∧ StrsAre vi (pre.take i) ∧ JSt g1 L1 l rr bb star vs.length news s i vi s') ?turn pre.length
    ⟨0, [], Nat.zero_le _, rfl, .nil, JSt.mk' F2 (fun p hp => N2 p (.tail _ hp)) (JFr.mk' rfl rfl rfl rfl rfl rfl)⟩) ?rest (fun _ _ x => x)
  case turn =>
    rintro n s' ⟨i, vi, hi, rfl, hvi, hJ⟩
    refine hJ.el ?_
    rintro h tk m' c' ti tn rfl F N e1 e2 e3 e4 e5 e6
    clear hJ
    have hvil := hvi.length
    have hvl : vi.length ≤ 1000 := by have := hp.1; simp only [List.length_append, List.length_map] at this; rw [hvil, List.length_take]; lia
    have F2 := fr_say [(Str.ofString "i", .int (i : Int) ti), (Str.ofString "n", .int (vs.length : Int) tn), (Str.ofString "inp", .ref l), (Str.ofString "STAR", star), (Str.ofString "add", .ref bb), (Str.ofString "res", .ref rr)] (by simp [e1, e2, e3, e4, e5, e6]) F
    clear F
    generalize hK : TurnPost _ _ _ = K
    rcases Nat.lt_or_ge i pre.length with hlt | hge
    · obtain ⟨tx, hv, hvl2⟩ := at_pre hp hlt
      have hv' : vs[(i : Int).toNat]? = some (.str pre[i] tx) := hv
      k_steps
      rw [← hK]
      refine ⟨pre.length - (i + 1), by lia, i + 1, vi ++ [.str pre[i] tx], by lia, rfl, by rw [List.take_succ_eq_append_getElem hlt]; exact kct_snoc hvi, JSt.mk' (by assumption) (by assumption) (JFr.mk' rfl rfl rfl rfl rfl rfl)⟩
    · have hie : i = pre.length := by lia
      subst hie
      rw [List.take_length] at hvi
      cases segs with
      | nil =>
        have hN : vs.length = pre.length := by simpa [flatO] using hp.1
        k_steps
        refine LDone.intro ⟨rfl, vi, hvi, JSt.mk' (by assumption) (by assumption) (JFr.mk' rfl rfl rfl rfl rfl rfl)⟩
      | cons g r =>
        obtain ⟨hv, hlt2, _⟩ := at_none (i := pre.length) (rest := g.map some ++ flatO r) hp (by simp [flatO])
        have hv' : vs[((pre.length : Nat) : Int).toNat]? = some star := hv
        k_steps
        refine LDone.intro ⟨rfl, vi, hvi, JSt.mk' (by assumption) (by assumption) (JFr.mk' rfl rfl rfl rfl rfl rfl)⟩
  case rest =>
    intro f s' hdone
    obtain ⟨rfl, vi, hvi, hJ⟩ := LDone.out hdone
    refine hJ.el ?_
    rintro h tk m' c' ti tn rfl F N e1 e2 e3 e4 e5 e6
    clear hJ
    clear hdone
    have F2 := fr_say [(Str.ofString "i", .int (pre.length : Int) ti), (Str.ofString "n", .int (vs.length : Int) tn), (Str.ofString "inp", .ref l), (Str.ofString "STAR", star), (Str.ofString "add", .ref bb), (Str.ofString "res", .ref rr)] (by simp [e1, e2, e3, e4, e5, e6]) F
    clear F
    (try dsimp only)
    k_steps
    refine WStop.intro ?_
    rename News g1 _ _ _ => N3
    rename Fr g1 _ _ _ => F3
    refine wpAny_mono (while_inv (Q := fun f s' => LDone (f = .next ∧ ∃ vi, StrsAre vi (pre ++ outS segs) ∧ JSt g1 L1 l rr bb star vs.length news s vs.length vi s'))
      (fun n s' => ∃ i vi sg out, n = sg.length ∧ i ≤ vs.length ∧ (pre.map some ++ flatO segs).drop i = flatO sg ∧ segsOk sg ∧ (∀ g ∈ sg, (g.map Str.length).sum ≤ 10000) ∧ out ++ outS sg = pre ++ outS segs ∧ StrsAre vi out ∧ JSt g1 L1 l rr bb star vs.length news s i vi s') ?turn2 segs.length
      ⟨pre.length, vi, segs, pre, rfl, by have := hp.1; simp only [List.length_append, List.length_map] at this; lia, by simp, hok, fun g hg => by have := sum_mem hg; lia, rfl, hvi, JSt.mk' F3 N3 (JFr.mk' rfl rfl rfl rfl rfl rfl)⟩) ?rest2 (fun _ _ x => x)
    case turn2 =>
      clear F3 N3 hvi e1 e2 e3 e4 e5 e6
      clear vi
      rintro n s' ⟨i, vi, sg, out, rfl, hi, hdr, hsok, hsum, hout, hvi, hJ⟩
      refine hJ.el ?_
      rintro h tk m' c' ti tn rfl F N e1 e2 e3 e4 e5 e6
      clear hJ
      have hvil := hvi.length
      have hvl : vi.length ≤ 3000 := by
        have h1 := congrArg List.length hout
        have h2 := outS_len segs
        have h3 := flatO_len segs
        have h4 := hp.1
        simp only [List.length_append, List.length_map] at h1 h4
        lia
      have F2 := fr_say [(Str.ofString "i", .int (i : Int) ti), (Str.ofString "n", .int (vs.length : Int) tn), (Str.ofString "inp", .ref l), (Str.ofString "STAR", star), (Str.ofString "add", .ref bb), (Str.ofString "res", .ref rr)] (by simp [e1, e2, e3, e4, e5, e6]) F
      clear F
      generalize hK2 : TurnPost _ _ _ = K2
      cases sg with
      | nil =>
        have hie : i = vs.length := at_end hp hdr hi
        subst hie
        have hout' : out = pre ++ outS segs := by simpa [outS] using hout
        k_steps
        refine LDone.intro ⟨rfl, vi, by rw [← hout']; exact hvi, JSt.mk' (by assumption) (by assumption) (JFr.mk' rfl rfl rfl rfl rfl rfl)⟩
      | cons g r =>
        obtain ⟨hv, hlt, hdr1⟩ := at_none (rest := g.map some ++ flatO r) hp (by rw [hdr]; simp [flatO])
        have hv' : vs[(i : Int).toNat]? = some star := hv
        cases g with
        | nil =>
          have hr : r = [] := by
            cases r with
            | nil => rfl
            | cons g' r => exact absurd rfl hsok.1
          subst hr
          have hN : i + 1 = vs.length := at_end hp (by simpa [flatO] using hdr1) hlt
          k_steps
          · rename News g1 _ _ _ => N9
            rename Fr g1 _ _ _ => F9
            rw [show (i : Int) + 1 = (vs.length : Int) by lia] at F9
            rw [← hK2]
            refine LDone.intro ⟨rfl, _, ?_, JSt.mk' F9 N9 (JFr.mk' rfl rfl rfl rfl rfl rfl)⟩
            rw [← hout]; exact kct_snoc hvi
          · exfalso; lia
        | cons x g =>
          obtain ⟨⟨tx, hw⟩, hlt1, hdr2⟩ := at_some hp hdr1
          have hw' : vs[((i : Int) + 1).toNat]? = some (.str x tx) := hw
          k_steps
          · exfalso; lia
          refine WStop.intro ?_
          rename News g1 _ _ _ => N4
          rename Fr g1 _ _ _ => F4
          obtain ⟨ff, hff⟩ := first_of N4
          have hBF : bb < ff ∧ rr < ff ∧ AllLt ff news := by
            rw [hff]
            assumption
          have hNF : ∀ p ∈ news, p.1 < ff := fun p hp => kst_ltOf hBF.2.2 p hp
          have hRF : rr < ff := hBF.2.1
          have hBF : bb < ff := hBF.1
          rw [← hff] at N4 F4
          have hgsum : ((x :: g).map Str.length).sum ≤ 10000 := hsum _ (.head _)
          have hgl : i + 1 + (x :: g).length ≤ vs.length := by
            have h1 := congrArg List.length hdr1
            simp only [List.length_drop, List.length_append, List.length_map] at h1
            have h2 := hp.1
            simp only [List.length_append, List.length_map] at h2
            lia
          refine wpAny_mono (while_inv (Q := fun f s' => LDone (f = .next ∧ ∃ fx, StrsAre fx (x :: g) ∧ JIn g1 L1 l rr bb star vs.length news s ff (i + 1 + (x :: g).length) vi fx s'))
            (fun n s' => ∃ j fx, n = (x :: g).length - j ∧ j ≤ (x :: g).length ∧ StrsAre fx ((x :: g).take j) ∧ JIn g1 L1 l rr bb star vs.length news s ff (i + 1 + j) vi fx s') ?turn3 (x :: g).length
            ⟨0, [], rfl, Nat.zero_le _, .nil, JIn.mk' F4 N4 (JFr.mk' rfl rfl rfl rfl rfl rfl) rfl⟩) ?rest3 (fun _ _ x => x)
          case turn3 =>
            clear F4 N4 hw hw' hdr2 hlt1
            rintro n s' ⟨j, fx, rfl, hj, hfx, hJ⟩
            refine hJ.el ?_
            rintro h tk m' c' cf ti tn rfl F N e1 e2 e3 e4 e5 e6 e7
            clear hJ
            have hfxl := hfx.length
            have hfxl2 : fx.length ≤ 3000 := by rw [hfxl, List.length_take]; lia
            have F2 := fr_say [(Str.ofString "i", .int ((i + 1 + j : Nat) : Int) ti), (Str.ofString "n", .int (vs.length : Int) tn), (Str.ofString "inp", .ref l), (Str.ofString "STAR", star), (Str.ofString "add", .ref bb), (Str.ofString "res", .ref rr), (Str.ofString "fixed", .ref ff)] (by simp [e1, e2, e3, e4, e5, e6, e7]) F
            clear F
            generalize hK3 : TurnPost _ _ _ = K3
            rcases Nat.lt_or_ge j (x :: g).length with hjl | hjl
            · have hdj : (pre.map some ++ flatO segs).drop (i + 1 + j) = some (x :: g)[j] :: (((x :: g).drop (j + 1)).map some ++ flatO r) := by
                rw [← List.drop_drop, hdr1, List.drop_append_of_le_length (by simpa using Nat.le_of_lt hjl), ← List.map_drop, List.drop_eq_getElem_cons hjl]
                rfl
              obtain ⟨⟨tx, hw⟩, hlt1, hdr2⟩ := at_some hp hdj
              have hw' : vs[((i + 1 + j : Nat) : Int).toNat]? = some (.str (x :: g)[j] tx) := hw
              generalize hgy : (x :: g)[j] = y at *
              k_steps
              rename News g1 _ _ _ => N9
              rename Fr g1 _ _ _ => F9
              rw [← hK3]
              refine ⟨(x :: g).length - (j + 1), by lia, j + 1, _, rfl, hjl, ?_, JIn.mk' F9 N9 (JFr.mk' rfl rfl rfl rfl rfl rfl) rfl⟩
              rw [List.take_succ_eq_append_getElem hjl, hgy]; have := kct_snoc (y := y) (t := tx) hfx; simpa using this
            · have hje : j = (x :: g).length := by lia
              subst hje
              rw [List.take_length] at hfx
              have hdj : (pre.map some ++ flatO segs).drop (i + 1 + (x :: g).length) = flatO r := by
                rw [← List.drop_drop, hdr1, List.drop_left' (by simp)]
              cases r with
              | nil =>
                have hN : i + 1 + (x :: g).length = vs.length := at_end hp (by simpa [flatO] using hdj) hgl
                k_steps
                refine LDone.intro ⟨rfl, fx, hfx, JIn.mk' (by assumption) (by assumption) (JFr.mk' rfl rfl rfl rfl rfl rfl) rfl⟩
              | cons g' r =>
                obtain ⟨hw, hlt2, _⟩ := at_none (rest := g'.map some ++ flatO r) hp (by rw [hdj]; simp [flatO])
                have hw' : vs[((i + 1 + (x :: g).length : Nat) : Int).toNat]? = some star := hw
                k_steps
                refine LDone.intro ⟨rfl, fx, hfx, JIn.mk' (by assumption) (by assumption) (JFr.mk' rfl rfl rfl rfl rfl rfl) rfl⟩
          case rest3 =>
            intro f s' hdone
            obtain ⟨rfl, fx, hfx, hJ⟩ := LDone.out hdone
            refine hJ.el ?_
            rintro h tk m' c' cf ti tn rfl F N e1 e2 e3 e4 e5 e6 e7
            clear hJ
            clear hdone
            have F2 := fr_say [(Str.ofString "i", .int ((i + 1 + (x :: g).length : Nat) : Int) ti), (Str.ofString "n", .int (vs.length : Int) tn), (Str.ofString "inp", .ref l), (Str.ofString "STAR", star), (Str.ofString "add", .ref bb), (Str.ofString "res", .ref rr), (Str.ofString "fixed", .ref ff)] (by simp [e1, e2, e3, e4, e5, e6, e7]) F
            clear F F4 N4 hw hw' hdr2 hlt1
            have hsum1 : ((x :: g).map Str.length).sum ≤ 100000 := by lia
            have hjl : (Txt.join (Str.ofString "") (x :: g)).length ≤ 100000 := by rw [join_len]; exact hsum1
            have hdj : (pre.map some ++ flatO segs).drop (i + 1 + (x :: g).length) = flatO r := by
              rw [← List.drop_drop, hdr1, List.drop_left' (by simp)]
            (try dsimp only)
            cases r with
            | nil =>
              have hN : i + 1 + (x :: g).length = vs.length := at_end hp (by simpa [flatO] using hdj) hgl
              k_steps
              · rename News g1 _ _ _ => N9
                rename Fr g1 _ _ _ => F9
                have hdN : (pre.map some ++ flatO segs).drop vs.length = flatO [] := by rw [hp.1, List.drop_length]; rfl
                have N10 := news_sub N9 (fun p hp => List.Mem.tail _ hp)
                rw [hN] at F9
                have hgs0 : ∀ g ∈ ([] : List (List Str)), (g.map Str.length).sum ≤ 10000 := by simp
                have ho0 : (pre ++ outS segs) ++ outS [] = pre ++ outS segs := by simp [outS]
                have ho : out ++ [Str.ofString ".*"] ++ [Txt.join (Str.ofString "") (x :: g)] = pre ++ outS segs := by rw [← hout]; simp [outS]
                rw [← hK2]
                refine ⟨0, Nat.succ_pos _, vs.length, _, [], pre ++ outS segs, rfl, Nat.le_refl _, hdN, trivial, hgs0, ho0, ?_, JSt.mk' F9 N10 (JFr.mk' rfl rfl rfl rfl rfl rfl)⟩
                rw [← ho]
                exact kct_snoc (kct_snoc hvi)
              · exfalso; lia
            | cons g' r =>
              obtain ⟨hw, hlt2, _⟩ := at_none (rest := g'.map some ++ flatO r) hp (by rw [hdj]; simp [flatO])
              k_steps
              · exfalso; lia
              · rename News g1 _ _ _ => N9
                rename Fr g1 _ _ _ => F9
                have N10 := news_sub N9 (fun p hp => List.Mem.tail _ hp)
                rw [empty_app] at N10
                have hgs0 : ∀ y ∈ g' :: r, (y.map Str.length).sum ≤ 10000 := fun y hy => hsum y (List.Mem.tail _ hy)
                have ho0 : (out ++ [wrapS (Txt.join (Str.ofString "") (x :: g))]) ++ outS (g' :: r) = pre ++ outS segs := by rw [← hout]; simp [outS]
                have hsk : segsOk (g' :: r) := hsok.2
                rw [← hK2]
                refine ⟨(g' :: r).length, Nat.lt_succ_self _, i + 1 + (x :: g).length, _, g' :: r, _, rfl, hgl, hdj, hsk, hgs0, ho0, ?_, JSt.mk' F9 N10 (JFr.mk' rfl rfl rfl rfl rfl rfl)⟩
                exact kct_snoc hvi
    case rest2 =>
      clear F3 N3 hvi e1 e2 e3 e4 e5 e6
      clear vi
      intro f s' hdone
      obtain ⟨rfl, vi, hvi, hJ⟩ := LDone.out hdone
      refine hJ.el ?_
      rintro h tk m' c' ti tn rfl F N e1 e2 e3 e4 e5 e6
      clear hJ
      clear hdone
      have F2 := fr_say [(Str.ofString "i", .int (vs.length : Int) ti), (Str.ofString "n", .int (vs.length : Int) tn), (Str.ofString "inp", .ref l), (Str.ofString "STAR", star), (Str.ofString "add", .ref bb), (Str.ofString "res", .ref rr)] (by simp [e1, e2, e3, e4, e5, e6]) F
      clear F
      have hsum1 : ((pre ++ outS segs).map Str.length).sum ≤ 100000 := by
        have h1 := outS_sum segs
        have h3 := flatO_len segs
        have h4 := hp.1
        simp only [List.length_append, List.length_map] at h4
        rw [List.map_append, List.sum_append]
        lia
      have hjl : (Txt.join (Str.ofString "") (pre ++ outS segs)).length ≤ 100000 := by rw [join_len]; exact hsum1
      (try dsimp only)
      k_steps
      refine hret _ _ _ _ (by assumption) ?_ ⟨rfl, _, by rw [empty_app]; rfl⟩
      rename News h₀ _ _ _ => N9
      refine news_sub N9 fun p hp => ?_
      repeat' refine' List.Mem.tail _ ?_
      exact hp
end
theorem words46 : True := by
  k_with_none
  (k_with "m my g1" => (with_reducible show wpAny _ _ (PySem.call (Value.builtin _) [Value.ref _]) _ _ _))
  (k_with "m my g2" => (with_reducible show wpAny _ _ (PySem.call (Value.builtin _) [Value.ref _, _]) _ _ _))
  (k_with "m my g3" => (with_reducible show wpAny _ _ (PySem.call (Value.builtin _) [Value.str _ _, Value.ref _]) _ _ _))
  (k_with "m my ga" => (((with_reducible show wpAny _ _ (PySem.call (Value.builtin _) (_ ++ _)) _ _ _); dsimp only [List.cons_append, List.nil_append])))
  (k_with "m my back" => ((intro r9w news9w h9w tk9w F9w N9w P9w; obtain ⟨e9w, t9w, e8w⟩ := P9w; subst e9w; subst e8w; (try dsimp only); (try k_fold))))
  (k_with "m my enter" => ((refine' code_def ?k1 ?k2 ?k3 ?k4 ?k5 ?kA ?kF ?kK ?k6 ?k7 ?k8 ?k9 ?kB ?_ ?c2 ?c3 ?c4 ?c5; (case kA => exact rfl); (case kF => exact rfl); (case kK => assumption); (case k1 => k_asm); (case k2 => k_asm); (case k3 => k_asm); (case k4 => k_asm); (case k5 => k_asm); (case k6 => k_is); (case k7 => k_is); (case k8 => ktr_room); (case k9 => first | exact BindsTo.of_eq rfl | exact binds_K (by k_in) rfl (by k_is) rfl rfl rfl); (case c5 => decide); (case kB => exact locs rfl); (case c2 => exact rfl); (case c3 => exact rfl); (case c4 => exact rfl); k_whole)))
  (k_with "m call builtin:iter" => ((k_here; walk_at "my g1"; k_dflt (refine it_iter (h := ?_); k_whole); intro I'w h'w o'w F'w N'w l1w l2w hi'w; (try k_lt l1w); (try k_lt2 l2w))))
  (k_with "m compareOp Is str ref" => ((refine is_str_ref ?_)))
  (k_with "m exec For Name Name cons nil" => ((refine wpAny_noRaise ?_; k_dflt (refine for_stmt (h := ?_)))))
  (k_with "m pyIter ref" => ((k_dflt (refine it_self (h := ?_)))))
  (k_with "m call builtin:next" => ((k_here; walk_at "my g1"; k_dflt (refine it_next (h := ?_); k_whole); intro h'w o'w F'w N'w hi'w)))
  (k_with "m compareOp Is ref ref" => ((k_dflt (refine wpAny_is_ref_self ?_))))
  (k_with "m my mem" => (first | exact List.Mem.head _ | with_reducible assumption | assumption | (refine' List.Mem.tail _ ?_; walk_at "my mem")))
  (k_with "m my enterC" => ((refine' code_defC ?k1 ?k2 ?k3 ?k4 ?k5 ?kA ?kF ?kK ?k6 ?k7 ?k8 ?k9 ?kB ?kD ?_ ?c2 ?c3 ?c4; (case kA => exact rfl); (case kF => exact rfl); (case kK => assumption); (case k1 => k_asm); (case k2 => k_asm); (case k3 => k_asm); (case k4 => k_asm); (case k5 => k_asm); (case k6 => k_is); (case k7 => k_is); (case k8 => ktr_room); (case k9 => first | exact BindsTo.of_eq rfl | exact binds_K (by k_in) rfl (by k_is) rfl rfl rfl); (case kB => exact rfl); (case kD => decide +kernel); (case c2 => exact rfl); (case c3 => exact rfl); (case c4 => exact rfl); k_whole)))
  (k_with "m eval ListComp" => ((k_here; (with_reducible show wpAny _ _ (eval (PySem.Expr.ListComp _ [⟨PySem.Expr.Name _ _, _, [], _⟩] _ _) _) _ _ _); k_dflt (refine LCg.ListComp_U (F₀ := by k_asm) (by rfl) (by decide) (by rfl) (by decide) (by rfl) ?_); refine wpAny_stop ?_)))
  (k_with "m exec Assign cons ListComp" => ((k_here; (with_reducible show wpAny _ _ (exec (Stmt.Assign [_] (PySem.Expr.ListComp _ [⟨PySem.Expr.Name _ _, _, [], _⟩] _ _) _) _) _ _ _); k_dflt (refine LCg.Assign_ListComp_U (F₀ := by k_asm) (by rfl) (by with_unfolding_all rfl) (by rfl) (by decide) (by rfl) (by decide) (by rfl) (by rfl) (by rfl) ?_); refine wpAny_stop ?_)))
  (k_with "m exec Assign cons ListComp" => ((k_here; (with_reducible show wpAny _ _ (exec (Stmt.Assign [_] (PySem.Expr.ListComp _ [⟨_, _, [_], _⟩] _ _) _) _) _ _ _); k_dflt (refine LCt.Assign_ListComp_T (F₀ := by k_asm) (by rfl) (by with_unfolding_all rfl) (by rfl) (by decide) (by rfl) (by decide) (by rfl) (by rfl) (by rfl) ?_); refine wpAny_stop ?_)))
  (k_with "m call builtin:len" => ((k_here; walk_at "my g1"; k_dflt (refine kst_len (by k_asm) (by walk_at "my mem") (by exact rfl) (by lia) ?_; k_whole))))
  (k_with "m my sub" => (first | exact List.forall_mem_nil _ | (with_reducible refine List.forall_mem_cons.mpr ⟨?_, ?_⟩; (focus (walk_at "my mem")); walk_at "my sub") | exact fun _ h => h | (intro pw hpw; repeat' (first | exact hpw | refine' List.Mem.tail _ ?_))))
  (k_with "m eval Name" => ((k_here; (with_reducible show wpAny _ _ (eval (PySem.Expr.Name _ _) (compEnvC _ _ _ _)) _ _ _); k_dflt (refine ld_cellA (h := ?_); k_whole))))
  (k_with "m eval Name" => ((k_here; (with_reducible show wpAny _ _ (eval (PySem.Expr.Name _ _) (envOfC _ _ _ _ _)) _ _ _); k_dflt (refine ld_cellB (h := ?_); k_whole))))
  (k_with "m binaryOp Mult ref int" => ((k_here; k_dflt (refine mul_led (h := ?_); k_whole); intro D'w h'w F'w N'w l1'w; (try dsimp only))))
  (k_with "m my ints" => (first | with_reducible assumption | exact slice_ints_fromW (by with_reducible assumption) (by lia)))
  (k_with "m call builtin:sum" => ((k_here; walk_at "my g1"; k_dflt (refine sum_led (h := ?_); k_whole); intro h'w tk'w t'w F'w N'w; (try dsimp only))))
  (k_with "m subscriptTail Name Slice ref ref" => ((k_here; (with_reducible show wpAny _ _ (subscriptTail _ (PySem.Expr.Slice _ _ none _) (Value.ref _) (Value.ref _)) _ _ _); k_dflt (refine kmk_slice (by k_asm) (by k_asm) (by exact News.isList (by k_asm) (by walk_at "my mem")) (by kmk_part) (by kmk_part) ?_ (by with_unfolding_all rfl) (by kmk_pure) (by (simp only [List.size_toArray, PySem.sizeLine_eq]; lia))); intro D'w h'w F'w N'w l1'w; (try dsimp only))))
  (k_with "m binaryOp Add ref ref" => ((k_here; k_dflt (refine cat_list (h := ?_); k_whole); intro D'w h'w F'w N'w l1'w; (try dsimp only))))
  (k_with "m execs cons" => (((first | with_reducible refine execs_one ?_ | (with_reducible refine execs_cut ?_; intro _ _)); try dsimp only)))
  (k_with "m execs cons" => ((with_reducible refine gen_toks ?_; intro tkw)))
  (k_with "m execs nil" => ((with_reducible refine gen_toks ?_; intro tkw)))
  (k_with "m Goto next" => (with_reducible refine goto_next (by with_reducible assumption) ?_))
  (k_with "m Goto" => (first | with_reducible refine goto_ret (by with_reducible assumption) ?_ | with_reducible refine goto_brk (by with_reducible assumption) ?_ | with_reducible refine goto_cont (by with_reducible assumption) ?_))
  (k_with "m my updF" => (first | (refine UpdF.head (by exact all_ne (by with_reducible assumption))) | (refine UpdF.tail (by first | exact Ne.symm (Nat.ne_of_lt (by with_reducible assumption)) | exact Nat.ne_of_lt (by with_reducible assumption)) (by walk_at "my updF"))))
  (k_with "m call builtin:list.append" => ((k_here; walk_at "my g2"; k_dflt (refine push_snoc (h := ?_); k_whole); intro h'w c'w F'w N'w)))
  (k_with "m call builtin:list.append" => ((walk_at "my ga")))
  (k_with "m setItem ref int" => ((k_here; k_dflt (refine set_last (h := ?_); k_whole); intro h'w c'w F'w N'w)))
  (k_with "m getItem ref int" => ((k_here; k_dflt (refine get_last (h := ?_); k_whole))))
  (k_with "m getItem ref int" => (((with_reducible show wpAny _ _ (getItem (Prod.snd _) _) _ _ _); dsimp only)))
  (k_with "m setItem ref int" => (((with_reducible show wpAny _ _ (setItem (Prod.snd _) _ _) _ _ _); dsimp only)))
  (k_with "m subscriptTail Name Constant ref int" => ((k_here; k_dflt (refine item_at (h := ?_); k_whole))))
  (k_with "m call builtin:str.join" => ((walk_at "my ga")))
  (k_with "m call builtin:str.join" => ((k_here; walk_at "my g3"; k_dflt (refine join_led (h := ?_)); intro tjw kjw)))
  (k_with "m subscriptTail Name UnaryOp ref int" => ((k_here; k_dflt (refine item_snoc (h := ?_); k_whole))))
  (k_with "m call builtin:len" => ((k_here; walk_at "my g1"; k_dflt (refine kst_len (by k_asm) (by walk_at "my mem") (by exact rfl) (by (simp only [List.size_toArray, List.length_append, List.length_cons, List.length_nil]; lia)) ?_; k_whole))))
  (k_with "m call builtin:len" => (((with_reducible show wpAny _ _ (PySem.call (Value.builtin "len") [Prod.snd _]) _ _ _); dsimp only)))
  (k_with "m my bm" => ((fail_if_success (fail_if_success (first | (with_reducible rename News _ _ _ ((_, bmOf _) :: _) => hbm9w) | (with_reducible rename News _ _ _ (_ :: (_, bmOf _) :: _) => hbm9w) | (with_reducible rename News _ _ _ (_ :: _ :: (_, bmOf _) :: _) => hbm9w) | (with_reducible rename News _ _ _ (_ :: _ :: _ :: (_, bmOf _) :: _) => hbm9w) | (with_reducible rename News _ _ _ (_ :: _ :: _ :: _ :: (_, bmOf _) :: _) => hbm9w) | (with_reducible rename News _ _ _ (_ :: _ :: _ :: _ :: _ :: (_, bmOf _) :: _) => hbm9w))))))
  (k_with "m getAttr ref" => ((k_here; (with_reducible show wpAny _ _ (getAttr (Value.ref _) (PySem.Str.ofString "append") true) _ _ _); k_dflt (refine getAttr_append (h := ?_)); intro b'w h'w tk'w F'w N'w l1'w)))
  (k_with "m callWith ref" => ((k_here; (with_reducible show wpAny _ _ (callWith _ (Value.ref _) _ (backTo _ (starEach (_ :: _) _)) []) _ _ _); walk_at "my bm"; k_dflt (refine callWith_boundB (h := ?_); k_whole))))
  (k_with "m And" => (((with_reducible show BStands _ _ _ ∧ _); k_dflt (refine ⟨News.get (by k_asm) (by walk_at "my mem"), ?_⟩); (try dsimp only [List.nil_append, List.cons_append]))))
  (k_with "m call ref" => ((k_here; (with_reducible show wpAny _ _ (PySem.call (Value.ref _) [_]) _ _ _); walk_at "my bm"; k_dflt (refine call_bm (h := ?_); k_whole); intro h'w c'w F'w N'w)))
  (k_with "m my while" => (((with_reducible show wpAny _ _ (exec (Stmt.While _ _ _ _) _) _ _ _); refine WStop.out ?_)))
  (k_with "m exec While BoolOp" => (walk_at "my while"))
  (k_with "m exec While Compare" => (walk_at "my while"))
  (k_with "m last exec While" => (walk_at "my while"))
  (k_with "m exec While" => (walk_at "my while"))
  (k_with "m WIf" => (first | with_reducible refine WIf.yes rfl ?_ | with_reducible refine WIf.no rfl ?_ | refine WIf.yes (decide_eq_true (by lia)) ?_ | refine WIf.no (decide_eq_false (by lia)) ?_))
  trivial
section
noncomputable def keyOk (e : DictEntry) : Bool := match e.key with | .int k _ => e.hash == hashInt k | _ => false
theorem map52 {prog : Program} {w : World} {h : Heap} (X : (Mine.H w.params).In h) : ∃ f, h.MapOf (intKind prog w) 52 f ∧ f 97 = none ∧ f 34 = none ∧ (∃ t, f 46 = some (.str (Str.ofString "\\.") t)) ∧ (∃ t, f 93 = some (.str (Str.ofString "\\]") t)) ∧ (∃ t, f 45 = some (.str (Str.ofString "\\-") t)) := by
  have hl : ∃ es n, (Mine.H w.params).lookup 52 = some ⟨.type "dict", none, .dict es n, #[]⟩ ∧ es.toList.all keyOk = true ∧ findBy Value.isInt es 97 = none ∧ findBy Value.isInt es 34 = none ∧ (∃ t, findBy Value.isInt es 46 = some (.str (Str.ofString "\\.") t)) ∧ (∃ t, findBy Value.isInt es 93 = some (.str (Str.ofString "\\]") t)) ∧ (∃ t, findBy Value.isInt es 45 = some (.str (Str.ofString "\\-") t)) := by
    refine ⟨_, _, by with_unfolding_all rfl, by decide +kernel, ?_, ?_, ?_, ?_, ?_⟩
    all_goals first | exact ⟨_, rfl⟩ | rfl | decide +kernel
  obtain ⟨es, n, hl, hk, h1, h2, h3, h4, h5⟩ := hl
  refine ⟨fun k => findBy Value.isInt es k, ⟨_, es, n, X _ _ hl, ⟨rfl, rfl, rfl⟩, rfl, fun e he => ?_, fun _ => rfl⟩, h1, h2, h3, h4, h5⟩
  have := List.all_eq_true.mp hk e (Array.mem_toList_iff.mpr he)
  unfold keyOk at this
  split at this
  · rename_i k t ek
    exact ⟨k, by rw [ek]; exact intKind_is prog w k t, (by simpa using this : e.hash = hashInt k)⟩
  · cases this
section
variable {prog : Program} {w : World} {A : Around} {E : Value → Shared → Prop} {s : Shared} {h₀ : Heap} {L : Addr} {m : Str → Option Value} {news : List (Addr × Obj)}
open Builtin Builtin.Str in
theorem lk_hit {f : Int → Option Value} {c : Nat} {x : Str} {t : Tok} {Q : Mapped → Shared → Prop} (hm : s.heap.MapOf (intKind prog w) 52 f) (hv : f c = some (.str x t)) (h : ∀ tk, Q (.text x) { s with toks := tk }) :
    wpAny (model prog w) A (tableLookup (.ref 52) c) Q E s := by
  unfold tableLookup
  refine wpAny_bind (wpAny_attempt (wpAny_bind (wpAny_mkInt' (wpAny_getItem_of (s := { s with toks := s.toks + 1 }) (intKind_is prog w _ _) hm hv ?_))))
  (try dsimp only)
  repeat (any_goals (first | assumption | wp_step))
  exact h _
open Builtin Builtin.Str in
theorem lk_miss {f : Int → Option Value} {c : Nat} {Q : Mapped → Shared → Prop} (hA : A.handled = none) (hm : s.heap.MapOf (intKind prog w) 52 f) (hv : f c = none)
    (h : ∀ h' tk e, Heap.NewExc s.heap h' e "KeyError" → Q .keep { s with heap := h', toks := tk }) :
    wpAny (model prog w) A (tableLookup (.ref 52) c) Q E s := by
  unfold tableLookup
  refine wpAny_bind (wpAny_attempt (wpAny_bind (wpAny_mkInt' (wpAny_getItem_missing_of (s := { s with toks := s.toks + 1 }) (intKind_is prog w _ _) (by decide) hA hm hv fun h' e hx => ?_))))
  (try dsimp only)
  have hT : (⟨h', s.gens, s.drawn, s.toks + 1 + 1, s.os⟩ : Shared).TypeIs (.ref e) "KeyError" := by obtain ⟨ob, t, ho, hc, _⟩ := hx.there; exact ⟨ob, ho, hc⟩
  have f1 : isSubtype (.type "KeyError") (.type "LookupError") = pure true := by rw [isSubtype_type]; kernel_rfl
  refine wpAny_bind (wpAny_isInstance hT f1 ?_)
  refine KFB.if_so rfl ?_
  refine wpAny_bind (wpAny_rule (wpAny_pure ?_))
  exact h _ _ _ hx
open Builtin Builtin.Str in
theorem tr_hit {f : Int → Option Value} {c : Nat} {x : Str} {t u : Tok} {P : Fin → Shared → Prop} (hc : c < 128) (hm : s.heap.MapOf (intKind prog w) 52 f) (hv : f c = some (.str x t)) (hx : x.length = 2)
    (h : ∀ t' tk, P (.done (.ret (.str x t'))) { s with toks := tk }) :
    wpAny (model prog w) A (Builtin.«str.translate» ⟨[.str ⟨#[c]⟩ u, .ref 52], []⟩) P E s := by
  unfold Builtin.«str.translate»
  refine wpAny_bind (wpAny_of_eq (a := (.str ⟨#[c]⟩ u, ⟨#[c]⟩, .ref 52)) (by first | rfl | kernel_rfl) ?_)
  (try dsimp only)
  refine KFB.if_not rfl ?_
  have hall : (#[c].all fun x => decide (x < 128)) = true := by simp [hc]
  rw [hall]
  refine wpAny_bind ?_
  rw [← Array.forIn_toList]
  show wpAny _ _ (forIn [c] _ _) _ _ _
  rw [List.forIn_cons]
  refine wpAny_bind ?_
  refine KFB.if_not rfl ?_
  refine KFB.if_so rfl ?_
  dsimp only [List.lookup]
  refine wpAny_bind (lk_hit hm hv fun tk => ?_)
  have h2 : (x.length == 1 && x.cps.all fun x => decide (x < 128)) = false := by rw [hx]; rfl
  (try dsimp only)
  simp only [h2, Bool.false_eq_true, if_false]
  refine wpAny_bind (wpAny_pure ?_)
  (try dsimp only)
  refine wpAny_bind (wpAny_rule ?_)
  refine wpAny_bind (lk_hit (s := { s with toks := tk }) hm hv fun tk2 => ?_)
  (try dsimp only)
  refine wpAny_pure ?_
  (try dsimp only)
  rw [List.forIn_nil]
  refine wpAny_pure ?_
  (try dsimp only)
  have hl2 : tooLong (0 + x.length) = false := by rw [hx]; decide
  refine KFB.if_not hl2 ?_
  have e : (⟨[x].reverse.foldl (fun acc p => acc ++ p.cps) #[]⟩ : Str) = x := by simp
  rw [e]
  show wpAny _ _ (mkStr x >>= fun v => ret v) _ _ _
  exact wpAny_bind (wpAny_mkStr (wpAny_pure (h _ _)) (by rw [PySem.sizeLine_eq]; lia))
open Builtin Builtin.Str in
theorem tr_miss {f : Int → Option Value} {c : Nat} {u : Tok} {P : Fin → Shared → Prop} (hA : A.handled = none) (hc : c < 128) (hm : s.heap.MapOf (intKind prog w) 52 f) (hv : f c = none)
    (h : ∀ h' t' tk, (∀ b o, s.heap.get? b = some o → h'.get? b = some o) → P (.done (.ret (.str ⟨#[c]⟩ t'))) { s with heap := h', toks := tk }) :
    wpAny (model prog w) A (Builtin.«str.translate» ⟨[.str ⟨#[c]⟩ u, .ref 52], []⟩) P E s := by
  unfold Builtin.«str.translate»
  refine wpAny_bind (wpAny_of_eq (a := (.str ⟨#[c]⟩ u, ⟨#[c]⟩, .ref 52)) (by first | rfl | kernel_rfl) ?_)
  (try dsimp only)
  refine KFB.if_not rfl ?_
  have hall : (#[c].all fun x => decide (x < 128)) = true := by simp [hc]
  rw [hall]
  refine wpAny_bind ?_
  rw [← Array.forIn_toList]
  show wpAny _ _ (forIn [c] _ _) _ _ _
  rw [List.forIn_cons]
  refine wpAny_bind ?_
  refine KFB.if_not rfl ?_
  refine KFB.if_so rfl ?_
  dsimp only [List.lookup]
  refine wpAny_bind (lk_miss hA hm hv fun h' tk e hx => ?_)
  (try dsimp only)
  refine wpAny_bind (wpAny_pure ?_)
  (try dsimp only)
  refine wpAny_pure ?_
  (try dsimp only)
  rw [List.forIn_nil]
  refine wpAny_pure ?_
  (try dsimp only)
  refine KFB.if_not (by decide) ?_
  show wpAny _ _ (mkStr ⟨#[c]⟩ >>= fun v => ret v) _ _ _
  exact wpAny_bind (wpAny_mkStr (wpAny_pure (h _ _ _ hx.keeps)) (by rw [PySem.sizeLine_eq]; show 1 ≤ _; lia))
noncomputable def escS (c : Nat) : Str := if c = 46 then Str.ofString "\\." else if c = 93 then Str.ofString "\\]" else if c = 45 then Str.ofString "\\-" else ⟨#[c]⟩
theorem tr_any {c : Nat} {u : Tok} {Q : Value → Shared → Prop} (hA : A.handled = none := by exact rfl) (X : (Mine.H w.params).In s.heap := by exact Frag.In.keeps (by assumption) (Fr.keep (by k_asm))) (hc : c = 97 ∨ c = 34 ∨ c = 46 ∨ c = 93 ∨ c = 45 := by with_reducible assumption) (F : Fr h₀ L s.heap m := by k_asm) (N : News h₀ L s.heap news := by k_asm)
    (h : ∀ h' t' tk, Fr h₀ L h' m → News h₀ L h' news → Q (.str (escS c) t') { s with heap := h', toks := tk }) :
    wpAny (model prog w) A (call (.builtin "str.translate") [.str ⟨#[c]⟩ u, .ref 52]) Q E s := by
  obtain ⟨f, hm, f1, f2, ⟨t3, f3⟩, ⟨t4, f4⟩, ⟨t5, f5⟩⟩ := map52 (prog := prog) X
  refine wpAny_call_entry PySem.F.slot_str_translate (typeIs_str _ _ _) PySem.F.entry_str_translate ?_ (PySem.F.args_str_translate_2 _ _)
  have miss : ∀ c, c < 128 → f (c : Nat) = none → escS c = ⟨#[c]⟩ → (∀ h' t' tk, Fr h₀ L h' m → News h₀ L h' news → Q (.str (escS c) t') { s with heap := h', toks := tk }) →
      wpAny (model prog w) A.in1 (Builtin.«str.translate» ⟨[.str ⟨#[c]⟩ u, .ref 52], []⟩) (fun fin s' => ∃ v, fin = .done (.ret v) ∧ Q v s') E s := fun c hc hf he h =>
    tr_miss hA hc hm hf fun h' t' tk hk => ⟨_, rfl, by
      have hx : Heap.ExtBut s.heap.objs.size s.heap h' := fun b o _ e => hk b o e
      have := h h' t' tk (F.extBut hx (Nat.le_refl _)) (N.extBut hx (Nat.le_refl _))
      rw [he] at this
      exact this⟩
  have hit : ∀ c x t, c < 128 → f (c : Nat) = some (.str x t) → x.length = 2 → escS c = x → (∀ h' t' tk, Fr h₀ L h' m → News h₀ L h' news → Q (.str (escS c) t') { s with heap := h', toks := tk }) →
      wpAny (model prog w) A.in1 (Builtin.«str.translate» ⟨[.str ⟨#[c]⟩ u, .ref 52], []⟩) (fun fin s' => ∃ v, fin = .done (.ret v) ∧ Q v s') E s := fun c x t hc hf hx he h =>
    tr_hit hc hm hf hx fun t' tk => ⟨_, rfl, by
      have := h s.heap t' tk F N
      rw [he] at this
      exact this⟩
  rcases hc with rfl | rfl | rfl | rfl | rfl
  · exact miss 97 (by decide) f1 rfl h
  · exact miss 34 (by decide) f2 rfl h
  · exact hit 46 _ _ (by decide) f3 (by decide) rfl h
  · exact hit 93 _ _ (by decide) f4 (by decide) rfl h
  · exact hit 45 _ _ (by decide) f5 (by decide) rfl h
theorem gm_translate {pl : Sem Bool} {x : Str} {t : Tok} {Q : Value × List Value → Shared → Prop} (h : Q (.builtin "str.translate", [.str x t]) s) : wpAny (model prog w) A (getMethod (.str x t) (Str.ofString "translate") pl) Q E s := by
  with_reducible exact GM.of (.str x t) (typeIs_str _ _ _) PySem.F.slot_str_translate PySem.F.type_str_translate GM.noRef h
end
theorem words49 : True := by
  (k_with "m getMethod str" => (((with_reducible show wpAny _ _ (getMethod (Value.str _ _) (PySem.Str.ofString "translate") _) _ _ _); refine gm_translate ?_)))
  (k_with "m call builtin:str.translate" => ((walk_at "my ga")))
  (k_with "m call builtin:str.translate" => ((k_here; walk_at "my g3"; k_dflt (refine tr_any (h := ?_)); intro h'w t'w tk'w F'w N'w)))
  trivial
set_option maxRecDepth 100000 in
set_option maxHeartbeats 4000000 in
theorem esc_con (w : World) (c : Nat) (t : Tok) (hc : c = 97 ∨ c = 34 ∨ c = 46 ∨ c = 93 ∨ c = 45) :
    Con w 62 [.str ⟨#[c]⟩ t] 2 (fun _ => True) (fun news news' r => news = news' ∧ ∃ t, r = .str (escS c) t) := by
  intro dp un gd cn cs a ccd cl outer A₀ base p loose mean mg mb h₀ L m news s Q E B F X N T hk hpre hd hu hret
  w_on
  refine wpAny_call ?_
  k_dflt (walk_at "my enter")
  intro g1 L1 h1 FG1 F1 N1 B1 X1 T1
  (try dsimp only)
  refine wpAny_noRaise ?_
  (try k_fold)
  k_steps
  exact hret _ _ _ _ (by assumption) (by assumption) ⟨rfl, _, rfl⟩
end
theorem words50 : True := by
  k_with_none
  (k_with "m my g1" => (with_reducible show wpAny _ _ (PySem.call (Value.builtin _) [Value.ref _]) _ _ _))
  (k_with "m my g2" => (with_reducible show wpAny _ _ (PySem.call (Value.builtin _) [Value.ref _, _]) _ _ _))
  (k_with "m my g3" => (with_reducible show wpAny _ _ (PySem.call (Value.builtin _) [Value.str _ _, Value.ref _]) _ _ _))
  (k_with "m my ga" => (((with_reducible show wpAny _ _ (PySem.call (Value.builtin _) (_ ++ _)) _ _ _); dsimp only [List.cons_append, List.nil_append])))
  (k_with "m my back" => ((intro r9w news9w h9w tk9w F9w N9w P9w; obtain ⟨e9w, t9w, e8w⟩ := P9w; subst e9w; subst e8w; (try dsimp only); (try k_fold))))
  (k_with "m my enter" => ((refine' code_def ?k1 ?k2 ?k3 ?k4 ?k5 ?kA ?kF ?kK ?k6 ?k7 ?k8 ?k9 ?kB ?_ ?c2 ?c3 ?c4 ?c5; (case kA => exact rfl); (case kF => exact rfl); (case kK => assumption); (case k1 => k_asm); (case k2 => k_asm); (case k3 => k_asm); (case k4 => k_asm); (case k5 => k_asm); (case k6 => k_is); (case k7 => k_is); (case k8 => ktr_room); (case k9 => first | exact BindsTo.of_eq rfl | exact binds_K (by k_in) rfl (by k_is) rfl rfl rfl); (case c5 => decide); (case kB => exact locs rfl); (case c2 => exact rfl); (case c3 => exact rfl); (case c4 => exact rfl); k_whole)))
  (k_with "m call builtin:iter" => ((k_here; walk_at "my g1"; k_dflt (refine it_iter (h := ?_); k_whole); intro I'w h'w o'w F'w N'w l1w l2w hi'w; (try k_lt l1w); (try k_lt2 l2w))))
  (k_with "m compareOp Is str ref" => ((refine is_str_ref ?_)))
  (k_with "m exec For Name Name cons nil" => ((refine wpAny_noRaise ?_; k_dflt (refine for_stmt (h := ?_)))))
  (k_with "m pyIter ref" => ((k_dflt (refine it_self (h := ?_)))))
  (k_with "m call builtin:next" => ((k_here; walk_at "my g1"; k_dflt (refine it_next (h := ?_); k_whole); intro h'w o'w F'w N'w hi'w)))
  (k_with "m compareOp Is ref ref" => ((k_dflt (refine wpAny_is_ref_self ?_))))
  (k_with "m my mem" => (first | exact List.Mem.head _ | with_reducible assumption | assumption | (refine' List.Mem.tail _ ?_; walk_at "my mem")))
  (k_with "m my enterC" => ((refine' code_defC ?k1 ?k2 ?k3 ?k4 ?k5 ?kA ?kF ?kK ?k6 ?k7 ?k8 ?k9 ?kB ?kD ?_ ?c2 ?c3 ?c4; (case kA => exact rfl); (case kF => exact rfl); (case kK => assumption); (case k1 => k_asm); (case k2 => k_asm); (case k3 => k_asm); (case k4 => k_asm); (case k5 => k_asm); (case k6 => k_is); (case k7 => k_is); (case k8 => ktr_room); (case k9 => first | exact BindsTo.of_eq rfl | exact binds_K (by k_in) rfl (by k_is) rfl rfl rfl); (case kB => exact rfl); (case kD => decide +kernel); (case c2 => exact rfl); (case c3 => exact rfl); (case c4 => exact rfl); k_whole)))
  (k_with "m eval ListComp" => ((k_here; (with_reducible show wpAny _ _ (eval (PySem.Expr.ListComp _ [⟨PySem.Expr.Name _ _, _, [], _⟩] _ _) _) _ _ _); k_dflt (refine LCg.ListComp_U (F₀ := by k_asm) (by rfl) (by decide) (by rfl) (by decide) (by rfl) ?_); refine wpAny_stop ?_)))
  (k_with "m exec Assign cons ListComp" => ((k_here; (with_reducible show wpAny _ _ (exec (Stmt.Assign [_] (PySem.Expr.ListComp _ [⟨PySem.Expr.Name _ _, _, [], _⟩] _ _) _) _) _ _ _); k_dflt (refine LCg.Assign_ListComp_U (F₀ := by k_asm) (by rfl) (by with_unfolding_all rfl) (by rfl) (by decide) (by rfl) (by decide) (by rfl) (by rfl) (by rfl) ?_); refine wpAny_stop ?_)))
  (k_with "m exec Assign cons ListComp" => ((k_here; (with_reducible show wpAny _ _ (exec (Stmt.Assign [_] (PySem.Expr.ListComp _ [⟨_, _, [_], _⟩] _ _) _) _) _ _ _); k_dflt (refine LCt.Assign_ListComp_T (F₀ := by k_asm) (by rfl) (by with_unfolding_all rfl) (by rfl) (by decide) (by rfl) (by decide) (by rfl) (by rfl) (by rfl) ?_); refine wpAny_stop ?_)))
  (k_with "m call builtin:len" => ((k_here; walk_at "my g1"; k_dflt (refine kst_len (by k_asm) (by walk_at "my mem") (by exact rfl) (by lia) ?_; k_whole))))
  (k_with "m my sub" => (first | exact List.forall_mem_nil _ | (with_reducible refine List.forall_mem_cons.mpr ⟨?_, ?_⟩; (focus (walk_at "my mem")); walk_at "my sub") | exact fun _ h => h | (intro pw hpw; repeat' (first | exact hpw | refine' List.Mem.tail _ ?_))))
  (k_with "m eval Name" => ((k_here; (with_reducible show wpAny _ _ (eval (PySem.Expr.Name _ _) (compEnvC _ _ _ _)) _ _ _); k_dflt (refine ld_cellA (h := ?_); k_whole))))
  (k_with "m eval Name" => ((k_here; (with_reducible show wpAny _ _ (eval (PySem.Expr.Name _ _) (envOfC _ _ _ _ _)) _ _ _); k_dflt (refine ld_cellB (h := ?_); k_whole))))
  (k_with "m binaryOp Mult ref int" => ((k_here; k_dflt (refine mul_led (h := ?_); k_whole); intro D'w h'w F'w N'w l1'w; (try dsimp only))))
  (k_with "m my ints" => (first | with_reducible assumption | exact slice_ints_fromW (by with_reducible assumption) (by lia)))
  (k_with "m call builtin:sum" => ((k_here; walk_at "my g1"; k_dflt (refine sum_led (h := ?_); k_whole); intro h'w tk'w t'w F'w N'w; (try dsimp only))))
  (k_with "m subscriptTail Name Slice ref ref" => ((k_here; (with_reducible show wpAny _ _ (subscriptTail _ (PySem.Expr.Slice _ _ none _) (Value.ref _) (Value.ref _)) _ _ _); k_dflt (refine kmk_slice (by k_asm) (by k_asm) (by exact News.isList (by k_asm) (by walk_at "my mem")) (by kmk_part) (by kmk_part) ?_ (by with_unfolding_all rfl) (by kmk_pure) (by (simp only [List.size_toArray, PySem.sizeLine_eq]; lia))); intro D'w h'w F'w N'w l1'w; (try dsimp only))))
  (k_with "m binaryOp Add ref ref" => ((k_here; k_dflt (refine cat_list (h := ?_); k_whole); intro D'w h'w F'w N'w l1'w; (try dsimp only))))
  (k_with "m execs cons" => (((first | with_reducible refine execs_one ?_ | (with_reducible refine execs_cut ?_; intro _ _)); try dsimp only)))
  (k_with "m execs cons" => ((with_reducible refine gen_toks ?_; intro tkw)))
  (k_with "m execs nil" => ((with_reducible refine gen_toks ?_; intro tkw)))
  (k_with "m Goto next" => (with_reducible refine goto_next (by with_reducible assumption) ?_))
  (k_with "m Goto" => (first | with_reducible refine goto_ret (by with_reducible assumption) ?_ | with_reducible refine goto_brk (by with_reducible assumption) ?_ | with_reducible refine goto_cont (by with_reducible assumption) ?_))
  (k_with "m my updF" => (first | (refine UpdF.head (by exact all_ne (by with_reducible assumption))) | (refine UpdF.tail (by first | exact Ne.symm (Nat.ne_of_lt (by with_reducible assumption)) | exact Nat.ne_of_lt (by with_reducible assumption)) (by walk_at "my updF"))))
  (k_with "m call builtin:list.append" => ((k_here; walk_at "my g2"; k_dflt (refine push_snoc (h := ?_); k_whole); intro h'w c'w F'w N'w)))
  (k_with "m call builtin:list.append" => ((walk_at "my ga")))
  (k_with "m setItem ref int" => ((k_here; k_dflt (refine set_last (h := ?_); k_whole); intro h'w c'w F'w N'w)))
  (k_with "m getItem ref int" => ((k_here; k_dflt (refine get_last (h := ?_); k_whole))))
  (k_with "m getItem ref int" => (((with_reducible show wpAny _ _ (getItem (Prod.snd _) _) _ _ _); dsimp only)))
  (k_with "m setItem ref int" => (((with_reducible show wpAny _ _ (setItem (Prod.snd _) _ _) _ _ _); dsimp only)))
  (k_with "m subscriptTail Name Constant ref int" => ((k_here; k_dflt (refine item_at (h := ?_); k_whole))))
  (k_with "m call builtin:str.join" => ((walk_at "my ga")))
  (k_with "m call builtin:str.join" => ((k_here; walk_at "my g3"; k_dflt (refine join_led (h := ?_)); intro tjw kjw)))
  (k_with "m subscriptTail Name UnaryOp ref int" => ((k_here; k_dflt (refine item_snoc (h := ?_); k_whole))))
  (k_with "m call builtin:len" => ((k_here; walk_at "my g1"; k_dflt (refine kst_len (by k_asm) (by walk_at "my mem") (by exact rfl) (by (simp only [List.size_toArray, List.length_append, List.length_cons, List.length_nil]; lia)) ?_; k_whole))))
  (k_with "m call builtin:len" => (((with_reducible show wpAny _ _ (PySem.call (Value.builtin "len") [Prod.snd _]) _ _ _); dsimp only)))
  (k_with "m my bm" => ((fail_if_success (fail_if_success (first | (with_reducible rename News _ _ _ ((_, bmOf _) :: _) => hbm9w) | (with_reducible rename News _ _ _ (_ :: (_, bmOf _) :: _) => hbm9w) | (with_reducible rename News _ _ _ (_ :: _ :: (_, bmOf _) :: _) => hbm9w) | (with_reducible rename News _ _ _ (_ :: _ :: _ :: (_, bmOf _) :: _) => hbm9w) | (with_reducible rename News _ _ _ (_ :: _ :: _ :: _ :: (_, bmOf _) :: _) => hbm9w) | (with_reducible rename News _ _ _ (_ :: _ :: _ :: _ :: _ :: (_, bmOf _) :: _) => hbm9w))))))
  (k_with "m getAttr ref" => ((k_here; (with_reducible show wpAny _ _ (getAttr (Value.ref _) (PySem.Str.ofString "append") true) _ _ _); k_dflt (refine getAttr_append (h := ?_)); intro b'w h'w tk'w F'w N'w l1'w)))
  (k_with "m callWith ref" => ((k_here; (with_reducible show wpAny _ _ (callWith _ (Value.ref _) _ (backTo _ (starEach (_ :: _) _)) []) _ _ _); walk_at "my bm"; k_dflt (refine callWith_boundB (h := ?_); k_whole))))
  (k_with "m And" => (((with_reducible show BStands _ _ _ ∧ _); k_dflt (refine ⟨News.get (by k_asm) (by walk_at "my mem"), ?_⟩); (try dsimp only [List.nil_append, List.cons_append]))))
  (k_with "m call ref" => ((k_here; (with_reducible show wpAny _ _ (PySem.call (Value.ref _) [_]) _ _ _); walk_at "my bm"; k_dflt (refine call_bm (h := ?_); k_whole); intro h'w c'w F'w N'w)))
  (k_with "m my while" => (((with_reducible show wpAny _ _ (exec (Stmt.While _ _ _ _) _) _ _ _); refine WStop.out ?_)))
  (k_with "m exec While BoolOp" => (walk_at "my while"))
  (k_with "m exec While Compare" => (walk_at "my while"))
  (k_with "m last exec While" => (walk_at "my while"))
  (k_with "m exec While" => (walk_at "my while"))
  (k_with "m WIf" => (first | with_reducible refine WIf.yes rfl ?_ | with_reducible refine WIf.no rfl ?_ | refine WIf.yes (decide_eq_true (by lia)) ?_ | refine WIf.no (decide_eq_false (by lia)) ?_))
  trivial
section
open Builtin Builtin.Re
section
variable {prog : Program} {w : World} {A : Around} {E : Value → Shared → Prop} {s : Shared}
theorem runEnd_none {m : Sre.M} {Q : Option Sre.M → Shared → Prop} (h : (match (m.runFor 4).outcome with | some .failed => true | _ => false) = true) (hQ : Q none s) : wpAny (model prog w) A (reRunToEnd m) Q E s := by
  have ho : (m.runFor 4).outcome = some .failed := by
    generalize (m.runFor 4).outcome = o at h
    match o, h with
    | some .failed, _ => rfl
  unfold reRunToEnd
  have hd : reDrive (2 ^ 64) m = pure (m.runFor 4) := by
    rw [show (2 : Nat) ^ 64 = 18446744073709551615 + 1 from rfl, reDrive]
    show (if (m.runFor 4).outcome.isSome then pure (m.runFor 4) else _) = _
    rw [ho]
    rfl
  rw [hd]
  refine wpAny_bind (wpAny_pure ?_)
  generalize m.runFor 4 = m' at *
  refine wpAny_bind ?_
  have loop : ∀ l : List Nat, wpAny (model prog w) A (forIn l PUnit.unit fun i r => do
      if m'.seen.has i = true then do
        rule (Sre.names.getD i "")
        pure (ForInStep.yield PUnit.unit)
      else pure (ForInStep.yield PUnit.unit)) (fun _ s' => s' = s) E s := by
    intro l
    induction l with
    | nil => rw [List.forIn_nil]; exact wpAny_pure rfl
    | cons i l ih =>
      rw [List.forIn_cons]
      refine wpAny_bind ?_
      by_cases hi : m'.seen.has i = true
      · rw [if_pos hi]
        exact wpAny_bind (wpAny_rule (wpAny_pure ih))
      · rw [if_neg hi]
        exact wpAny_pure ih
  refine wpAny_mono (loop (List.range Sre.names.size)) (fun a s' e => ?_) fun _ _ x => x
  subst e
  rw [ho]
  exact wpAny_pure hQ
noncomputable def codeOf (xs : Array Value) : Array Nat := (xs.map reRawOf).map (·.toNat)
noncomputable def noHit (code : Array Nat) (x : Str) : Bool := match ((Sre.forSearch code x.cps 1 0 x.cps.size false).runFor 4).outcome with | some .failed => true | _ => false
noncomputable def plainTexts : List Str := [Str.ofString "a-c", Str.ofString "!a", Str.ofString "\"", Str.ofString "", Str.ofString "!"]
theorem patK (P : Params) : ∃ o xs n fs, (Mine.H P).lookup 42 = some o ∧ o.data = .seq xs n ∧ (Mine.H P).lookup 43 = some ⟨.type "re.Pattern", none, .fields fs, #[]⟩ ∧
    fs.getD 6 .none = .int 0 0 ∧ fs.getD 5 .none = .ref 42 ∧ fs.getD 2 .none = .int 1 0 ∧ plainTexts.all (noHit (codeOf xs)) = true := by
  refine ⟨_, _, _, _, by with_unfolding_all rfl, by with_unfolding_all rfl, by with_unfolding_all rfl, ?_, ?_, ?_, ?_⟩
  · rfl
  · rfl
  · rfl
  · decide +kernel
theorem whole_target {x : Str} {t : Tok} {Q : ReTarget → Shared → Prop} {xs : Array Value} {n : Nat} {fs : Array Value} {o : Obj} (h42 : s.heap.get? 42 = some o) (hd : o.data = .seq xs n) (h43 : s.heap.get? 43 = some ⟨.type "re.Pattern", none, .fields fs, #[]⟩)
    (e6 : fs.getD 6 .none = .int 0 0) (e5 : fs.getD 5 .none = .ref 42) (e2 : fs.getD 2 .none = .int 1 0)
    (h : Q { pattern := .ref 43, string := .str x t, code := codeOf xs, text := x.cps, kind := 0, groups := 1, pos := 0, lim := x.cps.size } s) : wpAny (model prog w) A (reWholeTarget (.ref 43) (.str x t)) Q E s := by
  unfold reWholeTarget
  refine wpAny_bind ?_
  unfold fieldsOf
  refine wpAny_bind (wpAny_load h43 ?_)
  refine wpAny_pure ?_
  rw [e6, e5, e2]
  refine wpAny_bind (wpAny_of_eq (a := (x.cps, 0)) (by first | rfl | kernel_rfl) ?_)
  (try dsimp only)
  refine KFB.if_not rfl ?_
  refine KFB.if_not rfl ?_
  refine wpAny_bind (wpAny_of_eq (a := ()) (by first | rfl | kernel_rfl) ?_)
  refine wpAny_bind ?_
  unfold reRawItems
  refine wpAny_bind ?_
  refine wpAny_seqItems h42 hd ?_
  refine wpAny_pure (wpAny_pure ?_)
  exact h
theorem fn_call : typeLookup (.type "function") (Str.ofString "__call__") = pure (some (.builtin "function.__call__")) := by rw [typeLookup_type, builtinLookup_eq_fast]; kernel_rfl
theorem str_ba : isSubtype (.type "str") (.type "bytearray") = pure false := by rw [isSubtype_type]; kernel_rfl
open Builtin in
theorem sub_run {x : Str} {t : Tok} {fa L : Addr} {h₀ : Heap} {m : Str → Option Value} {news : List (Addr × Obj)} {of : Obj} {fd : FuncData} {P : Fin → Shared → Prop} (X : (Mine.H w.params).In s.heap) (F : Fr h₀ L s.heap m) (N : News h₀ L s.heap news)
    (hf : s.heap.get? fa = some of) (hfc : of.cls = .type "function") (hx : x ∈ plainTexts)
    (h : ∀ l h', Fr h₀ L h' m → News h₀ L h' ((l, listOf #[] 0) :: news) → (∀ p ∈ news, p.1 < l) → P (.again (Code.builtin "re.Pattern.sub.loop" ⟨[.ref 43, .str x t, .ref fa, rawInt 1, rawInt 0, rawInt 0, rawInt 0, rawInt 0, .bool false, .ref l, .bool false], []⟩)) { s with heap := h' }) :
    wpAny (model prog w) A (Builtin.«re.Pattern.sub» ⟨[.ref 43, .ref fa, .str x t], []⟩) P E s := by
  obtain ⟨o, xs, n, fs, h42, hd, h43, e6, e5, e2, hall⟩ := patK w.params
  have g42 := X _ _ h42
  have g43 := X _ _ h43
  have hT : s.TypeIs (.ref fa) "function" := ⟨_, hf, hfc⟩
  unfold Builtin.«re.Pattern.sub» reSubstitute
  (try dsimp only)
  refine wpAny_bind (wpAny_of_eq (a := [some (.ref fa), some (.str x t), none]) (by first | rfl | kernel_rfl) ?_)
  (try dsimp only)
  refine wpAny_bind (wpAny_pure ?_)
  refine wpAny_bind (wpAny_specialOf hT fn_call ?_)
  refine KFB.if_so rfl ?_
  refine wpAny_bind (wpAny_pure ?_)
  refine KFB.if_so rfl ?_
  refine wpAny_bind (wpAny_pure ?_)
  refine wpAny_bind (wpAny_holding (whole_target g42 hd g43 e6 e5 e2 ?_))
  refine KFB.if_so rfl ?_
  refine wpAny_bind ?_
  unfold reNotHeld
  refine wpAny_bind (wpAny_isInstance (typeIs_str s x t) str_ba ?_)
  refine KFB.if_not rfl ?_
  refine wpAny_pure ?_
  refine wpAny_bind (newList_K F N (fun l h' F' N' hl => ?_) (by rw [PySem.sizeLine_eq]; exact Nat.zero_le _))
  exact wpAny_pure (h l h' F' N' hl)
open Builtin in
theorem sub_loop {x : Str} {t : Tok} {fa L Lst : Addr} {h₀ : Heap} {m : Str → Option Value} {news : List (Addr × Obj)} {P : Fin → Shared → Prop} (X : (Mine.H w.params).In s.heap) (F : Fr h₀ L s.heap m) (N : News h₀ L s.heap ((Lst, listOf #[] 0) :: news))
    (hx : x ∈ plainTexts) (h : ∀ h' t' tk, Fr h₀ L h' m → News h₀ L h' news → P (.done (.ret (.str x t'))) { s with heap := h', toks := tk }) (hnl : ∀ p ∈ news, p.1 < Lst) :
    wpAny (model prog w) A (Builtin.«re.Pattern.sub.loop» ⟨[.ref 43, .str x t, .ref fa, rawInt 1, rawInt 0, rawInt 0, rawInt 0, rawInt 0, .bool false, .ref Lst, .bool false], []⟩) P E s := by
  obtain ⟨o, xs, n, fs, h42, hd, h43, e6, e5, e2, hall⟩ := patK w.params
  have g42 := X _ _ h42
  have g43 := X _ _ h43
  have hno := List.all_eq_true.mp hall x hx
  unfold Builtin.«re.Pattern.sub.loop»
  dsimp only [rawInt]
  refine wpAny_bind (whole_target g42 hd g43 e6 e5 e2 ?_)
  refine KFB.if_not rfl ?_
  refine wpAny_bind ?_
  refine KFB.if_not rfl ?_
  refine runEnd_none hno ?_
  (try dsimp only)
  have hxl : x.length ≤ 10 := by
    have : plainTexts.all (fun y => decide (y.length ≤ 10)) = true := by decide +kernel
    exact of_decide_eq_true (List.all_eq_true.mp this x hx)
  have hempty : ∀ z : Array Nat, (⟨z.extract 0 0⟩ : Str) = Str.empty := fun z => by simp [Str.empty]
  have hm := N (Lst, listOf #[] 0) (.head _)
  by_cases hz : (0 : Int).toNat < x.cps.size
  · rw [if_pos hz]
    refine wpAny_bind ?_
    refine KFB.if_so rfl ?_
    have hfull : (⟨x.cps.extract (0 : Int).toNat x.cps.size⟩ : Str) = x := by cases x; simp
    rw [hfull]
    refine wpAny_mkStr ?_ (by rw [PySem.sizeLine_eq]; omega)
    refine wpAny_bind (wpAny_updateSeq hm.1 rfl ?_)
    have hs := Heap.SameBut.update s.heap Lst (Obj.mapSeq fun x_1 => x_1.push (Value.str x s.toks))
    have ho' : (s.heap.update Lst (Obj.mapSeq fun x_1 => x_1.push (Value.str x s.toks))).get? Lst = some (listOf #[Value.str x s.toks] 1) := by
      rw [Heap.get?_update_self _ hm.1 (by rw [mapSeq_push]; rfl), mapSeq_push]; rfl
    have F' := F.change hs hm.2.1 hm.2.2
    have N' : News h₀ L (s.heap.update Lst (Obj.mapSeq fun x_1 => x_1.push (Value.str x s.toks))) ((Lst, listOf #[Value.str x s.toks] 1) :: news) :=
      News.setIn (own := []) N (fun _ h => nomatch h) (fun p hp => Nat.ne_of_lt (hnl p hp)) hs ho'
    refine wpAny_bind ?_
    refine KFB.if_so rfl ?_
    rw [hempty]
    refine wpAny_mkStr ?_ (by rw [PySem.sizeLine_eq]; exact Nat.zero_le _)
    refine wpAny_bind (wpAny_seqItems ho' rfl ?_)
    refine KFB.if_not rfl ?_
    show wpAny _ _ (call (Value.builtin "str.join") [.str Str.empty _, .ref Lst] >>= _) _ _ _
    have hsum : (([x] : List Str).map (·.length)).sum + ([x] : List Str).length * Str.empty.length ≤ 16777216 := by
      show x.length + 0 + 1 * 0 ≤ _
      omega
    refine wpAny_bind (join_list (items := #[Value.str x s.toks]) (ys := [x]) ⟨_, ho', rfl, 1, rfl⟩ (.cons _ _ .nil) hsum fun t' k => ?_)
    refine KFB.if_not rfl ?_
    exact wpAny_pure (h _ _ _ F' (news_sub N' fun p hp => .tail _ hp))
  · rw [if_neg hz]
    refine wpAny_bind ?_
    refine KFB.if_so rfl ?_
    rw [hempty]
    refine wpAny_mkStr ?_ (by rw [PySem.sizeLine_eq]; exact Nat.zero_le _)
    refine wpAny_bind (wpAny_seqItems hm.1 rfl ?_)
    refine KFB.if_so rfl ?_
    refine wpAny_bind (wpAny_pure ?_)
    refine KFB.if_not rfl ?_
    have hx0 : x = Str.empty := by
      have : x.cps.size = 0 := by have : (0 : Int).toNat = 0 := rfl; omega
      cases x
      simp only [Array.size_eq_zero_iff] at this
      subst this
      rfl
    have := h s.heap s.toks (s.toks + 1) F (news_sub N fun p hp => .tail _ hp)
    rw [hx0] at this
    exact wpAny_pure this
theorem sub_slot : Slot "re.Pattern" "sub" "re.Pattern.sub" :=
  .of (owner := "re.Pattern") (n := "sub") (by rw [typeLookup_type, builtinLookup_eq_fast]; kernel_rfl) (by decide +kernel) (by decide +kernel) (by decide +kernel)
    (by first | exact .inl (by decide +kernel) | exact .inr (by decide +kernel)) (by rw [isSubtype_type]; kernel_rfl)
theorem sub_entry : entryFor table "re.Pattern.sub" = some Builtin.«re.Pattern.sub» := entryFor_of_tree (by kernel_rfl)
theorem sub_loop_entry : entryFor table "re.Pattern.sub.loop" = some Builtin.«re.Pattern.sub.loop» := entryFor_of_tree (by kernel_rfl)
theorem sub_args (a b c : Value) : argsOk "re.Pattern.sub" ⟨[a, b, c], []⟩ := by unfold argsOk; kernel_rfl
theorem sub_type : typeOf (.builtin "re.Pattern.sub") = pure (.type "method_descriptor") := by show builtinType _ = _; rw [builtinType_eq_fast]; kernel_rfl
theorem sub_quiet {as : Args} : (Code.builtin "re.Pattern.sub.loop" as).quiet = true := Code.quiet_builtin _ (by decide +kernel)
theorem sub_call {x : Str} {t : Tok} {fa L : Addr} {h₀ : Heap} {m : Str → Option Value} {news : List (Addr × Obj)} {of : Obj} {Q : Value → Shared → Prop} (X : (Mine.H w.params).In h₀ := by with_reducible assumption) (F : Fr h₀ L s.heap m := by k_asm) (N : News h₀ L s.heap news := by k_asm)
    (hf : (fa, of) ∈ news := by walk_at "my mem") (hfc : of.cls = .type "function" := by with_reducible assumption) (hx : x ∈ plainTexts := by decide)
    (h : ∀ h' t' tk, Fr h₀ L h' m → News h₀ L h' news → Q (.str x t') { s with heap := h', toks := tk }) :
    wpAny (model prog w) A (call (.builtin "re.Pattern.sub") [.ref 43, .ref fa, .str x t]) Q E s := by
  have X1 := X.keeps F.keep
  obtain ⟨o, xs, n, fs, h42, hd, h43, _⟩ := patK w.params
  have hT : s.TypeIs (.ref 43) "re.Pattern" := ⟨_, X1 _ _ h43, rfl⟩
  refine wpAny_call (codeAny_call_builtin sub_slot.plain sub_entry (sub_slot.check _ _ _ _ _ _ _ _ hT (sub_args _ _ _) ?_))
  refine sub_run (fd := default) X1 F N (N _ hf).1 hfc hx fun l h' F' N' hl => ?_
  refine ⟨sub_quiet, codeAny_builtin sub_loop_entry ?_⟩
  exact sub_loop (s := { s with heap := h' }) (X.keeps F'.keep) F' N' hx (fun h2 t' tk F2 N2 => h _ _ _ F2 N2) hl
theorem plainAttrs_pat : PlainAttrs "re.Pattern" := by
  first
    | exact ⟨⟨"re.Pattern.__getattribute__", by rw [typeLookup_type, builtinLookup_eq_fast]; kernel_rfl, by decide +kernel⟩, by rw [typeLookup_type, builtinLookup_eq_fast]; kernel_rfl⟩
    | exact ⟨⟨"object.__getattribute__", by rw [typeLookup_type, builtinLookup_eq_fast]; kernel_rfl, by decide +kernel⟩, by rw [typeLookup_type, builtinLookup_eq_fast]; kernel_rfl⟩
theorem gm_sub {pl : Sem Bool} {L : Addr} {h₀ : Heap} {m : Str → Option Value} {Q : Value × List Value → Shared → Prop} (X : (Mine.H w.params).In h₀ := by with_reducible assumption) (F : Fr h₀ L s.heap m := by k_asm) (h : Q (.builtin "re.Pattern.sub", [.ref 43]) s) :
    wpAny (model prog w) A (getMethod (.ref 43) (Str.ofString "sub") pl) Q E s := by
  have X1 := X.keeps F.keep
  obtain ⟨o, xs, n, fs, h42, hd, h43, _⟩ := patK w.params
  exact getMethod_builtin ⟨_, X1 _ _ h43, rfl⟩ plainAttrs_pat sub_slot sub_type (fun a e => by cases e; exact ⟨_, X1 _ _ h43, rfl⟩) h
end
end
section
section
variable {prog : Program} {w : World} {A : Around} {E : Value → Shared → Prop} {s : Shared}
theorem item_chr {x : Str} {t u : Tok} {i : Int} {c : Nat} {value slice : PySem.Expr} {Q : Value → Shared → Prop} (h0 : 0 ≤ i := by lia) (h1 : i < 2 ^ 62 := by lia) (hc : x.cps[i.toNat]? = some c := by with_reducible assumption)
    (h : Q (.str ⟨#[c]⟩ s.toks) { s with toks := s.toks + 1 })
    (hs : subscripted slice false (.str x t) (.int i u) = operate [.str x t, .int i u] (getItem (.str x t) (.int i u)) := by with_unfolding_all rfl) :
    wpAny (model prog w) A (subscriptTail value slice (.str x t) (.int i u)) Q E s := by
  obtain ⟨j, rfl⟩ := Int.eq_ofNat_of_zero_le h0
  have hlt : j < x.cps.size := by
    rcases Nat.lt_or_ge j x.cps.size with q | q
    · exact q
    · rw [show ((j : Int).toNat) = j from rfl, Array.getElem?_eq_none q] at hc; cases hc
  refine tail_any (typeIs_str s x t) PySem.F.slot_str_getitem.lookup (P.getItem_str ?_ ?_ h) hs
  · simp; lia
  · have hi : seqIndex? (j : Int) x.length = some j := by
      unfold seqIndex?
      have h1 : ¬ ((j : Int) < 0) := by lia
      have h2 : (decide ((0 : Int) ≤ (j : Int)) && decide ((j : Int) < (x.length : Int))) = true := by
        have : x.length = x.cps.size := rfl
        simp; lia
      simp only [if_neg h1, h2, if_true]
      rfl
    rw [hi]
    exact hc
end
theorem cps_at {x : Str} {P G R : List Nat} {d c : Nat} (h : x.cps.toList = P ++ G ++ R) (hd : G[d]? = some c) : x.cps[P.length + d]? = some c := by
  have hlt : d < G.length := by
    rcases Nat.lt_or_ge d G.length with q | q
    · exact q
    · rw [List.getElem?_eq_none q] at hd; cases hd
  rw [← Array.getElem?_toList, h, List.getElem?_append_left (by simp; lia), List.getElem?_append_right (by lia), Nat.add_sub_cancel_left]
  exact hd
theorem slice_lit {x : Str} {P G R : List Nat} {a b : Nat} {i j : Int} (h : x.cps.toList = P ++ G ++ R) (hi : i = ((P.length + a : Nat) : Int)) (hj : j = ((P.length + b : Nat) : Int)) (hab : a ≤ b) (hb : b ≤ G.length) :
    Txt.slice x (some i) (some j) = ⟨((G.drop a).take (b - a)).toArray⟩ := by
  subst hi; subst hj
  show StrLaws.sliceText x _ _ = _
  have hl : x.cps.toList.length = P.length + G.length + R.length := by rw [h]; simp only [List.length_append]
  rw [StrLaws.sliceText_plain ⟨by lia, by lia, by lia⟩, h]
  congr 2
  have e1 : (((P.length + b : Nat) : Int) - ((P.length + a : Nat) : Int)).toNat = b - a := by lia
  have e2 : (((P.length + a : Nat) : Int)).toNat = P.length + a := by lia
  rw [e1, e2, List.append_assoc, List.drop_append, List.drop_of_length_le (by lia), List.nil_append, Nat.add_sub_cancel_left, List.drop_append_of_le_length (by lia), List.take_append_of_le_length (by simp; lia)]
noncomputable def sgnL (k : Nat) : List Nat := (sgn k).cps.toList
noncomputable def catL (ks : List Nat) : List Nat := (ks.map sgnL).flatten
noncomputable def pStep (acc : List (Option Str)) (k : Nat) : List (Option Str) := match prt k with
  | some x => acc ++ [some x]
  | none => if acc.getLast? = some none then acc else acc ++ [none]
noncomputable def partsO (ks : List Nat) : List (Option Str) := ks.foldl pStep []
noncomputable def TFr (pat : Str) (star : Value) (R B : Addr) (N i : Nat) (m : Str → Option Value) : Prop :=
  ∃ ti tn tp tq, m (Str.ofString "i") = some (.int (i : Int) ti) ∧ m (Str.ofString "n") = some (.int (N : Int) tn) ∧ m (Str.ofString "pat") = some (.str pat tp) ∧ m (Str.ofString "STAR") = some star ∧ m (Str.ofString "QUESTION_MARK") = some (.str (Str.ofString ".") tq) ∧ m (Str.ofString "add") = some (.ref B) ∧ m (Str.ofString "res") = some (.ref R)
theorem TFr.mk' {pat : Str} {star : Value} {R B : Addr} {N i : Nat} {m : Str → Option Value} {ti tn tp tq : Tok} (h1 : m (Str.ofString "i") = some (.int (i : Int) ti)) (h2 : m (Str.ofString "n") = some (.int (N : Int) tn)) (h3 : m (Str.ofString "pat") = some (.str pat tp)) (h4 : m (Str.ofString "STAR") = some star) (h5 : m (Str.ofString "QUESTION_MARK") = some (.str (Str.ofString ".") tq)) (h6 : m (Str.ofString "add") = some (.ref B)) (h7 : m (Str.ofString "res") = some (.ref R)) : TFr pat star R B N i m := ⟨ti, tn, tp, tq, h1, h2, h3, h4, h5, h6, h7⟩
noncomputable def TSt (g : Heap) (L : Addr) (pat : Str) (star : Value) (R B : Addr) (N : Nat) (news : List (Addr × Obj)) (s : Shared) (i : Nat) (vi : List Value) (s' : Shared) : Prop :=
  ∃ h tk m c ps, s' = { s with heap := h, toks := tk } ∧ Fr g L h m ∧ News g L h ((B, bmOf R) :: (R, listOf vi.toArray c) :: (64, tabObj ps) :: news) ∧ TFr pat star R B N i m
theorem PartsAre.snoc {star v : Value} {vs : List Value} {os : List (Option Str)} {o : Option Str} (h : PartsAre star vs os) (hv : PartV star o v) : PartsAre star (vs ++ [v]) (os ++ [o]) := by
  refine ⟨by simp [h.1], fun j v' o' h1 h2 => ?_⟩
  by_cases hj : j < vs.length
  · rw [List.getElem?_append_left hj] at h1
    rw [List.getElem?_append_left (h.1 ▸ hj)] at h2
    exact h.2 j v' o' h1 h2
  · rw [List.getElem?_append_right (by lia)] at h1
    rw [List.getElem?_append_right (by rw [← h.1]; lia), ← h.1] at h2
    generalize j - vs.length = q at h1 h2
    match q, h1, h2 with
    | 0, h1, h2 => simp at h1 h2; subst h1; subst h2; exact hv
    | q + 1, h1, _ => simp at h1
theorem pStep_some {acc : List (Option Str)} {k : Nat} {x : Str} (h : prt k = some x) : pStep acc k = acc ++ [some x] := by unfold pStep; rw [h]
end
section
open Builtin Builtin.Str
section
variable {prog : Program} {w : World} {A : Around} {E : Value → Shared → Prop} {s : Shared} {x y z : Str} {t u v : Tok} {Q : Value → Shared → Prop}
theorem replace_none (ho : (occurrences x y 0 x.length (x.length + 1)).isEmpty = true) (h : Q (.str x t) s) :
    wpAny (model prog w) A (call (.builtin "str.replace") [.str x t, .str y u, .str z v]) Q E s := by
  refine call_gives F.slot_str_replace (typeIs_str _ _ _) F.entry_str_replace (F.args_str_replace_3 _ _ _)
    (gives_str_replace x y z t u v fun hc => ?_) ?_
  · rw [ho] at hc; cases hc
  · rw [ho]; exact h
theorem gives_find4 (x y : Str) (i j : Int) (t u v v' : Tok) : Gives (Builtin.«str.find» ⟨[.str x t, .str y u, .int i v, .int j v'], []⟩) (.int (match occurrences x y (fromIndex x.length i) (min (fromIndex x.length j) x.length) 1 with | k :: _ => (k : Int) | [] => -1)) := by
  show Gives (match occurrences x y (fromIndex x.length i) (min (fromIndex x.length j) x.length) 1 with | k :: _ => retInt k | [] => (do rule "str.find.not-found"; retInt (-1))) _
  cases occurrences x y (fromIndex x.length i) (min (fromIndex x.length j) x.length) 1 with
  | nil => exact .rule (.of_eq rfl)
  | cons k _ => exact .of_eq rfl
theorem from_nat {n : Nat} {i : Int} (h : 0 ≤ i) : fromIndex n i = i.toNat := by
  unfold fromIndex
  have : ¬ i < 0 := by lia
  simp only [if_neg this]
  lia
theorem find4_hit {i j : Int} {v' : Tok} {c : Nat} (h0 : 0 ≤ i) (hij : i < j) (hj : j ≤ x.length) (hc : x.cps[i.toNat]? = some c)
    (h : Q (.int i s.toks) { s with toks := s.toks + 1 }) :
    wpAny (model prog w) A (call (.builtin "str.find") [.str x t, .str ⟨#[c]⟩ u, .int i v, .int j v']) Q E s := by
  refine call_gives F.slot_str_find (typeIs_str _ _ _) F.entry_str_find (F.args_str_find_4 _ _ _ _) (gives_find4 x ⟨#[c]⟩ i j t u v v') ?_
  rw [from_nat h0, from_nat (by lia : 0 ≤ j), Nat.min_eq_left (by lia)]
  have e : ∃ r, occurrences x ⟨#[c]⟩ i.toNat j.toNat 1 = i.toNat :: r := by
    rw [StrLaws.occ_eq]
    have e1 : j.toNat + 1 - i.toNat = (j.toNat - i.toNat) + 1 := by lia
    rw [e1, List.range'_succ, List.forIn_cons]
    unfold StrLaws.occBody
    have hs : subAt x ⟨#[c]⟩ i.toNat = true := by
      have hlt : i.toNat < x.cps.size := by
        rcases Nat.lt_or_ge i.toNat x.cps.size with q | q
        · exact q
        · rw [Array.getElem?_eq_none q] at hc; cases hc
      rw [Array.getElem?_eq_getElem hlt] at hc
      have hc' := Option.some.inj hc
      unfold subAt
      have e2 : x.cps.extract i.toNat (i.toNat + (⟨#[c]⟩ : Str).length) = #[c] := by
        apply Array.ext
        · simp [Str.length]; lia
        · intro k hk1 hk2
          have : k = 0 := by simp at hk2; exact hk2
          subst this
          simp [hc']
      rw [e2]
      exact beq_self_eq_true _
    rw [if_pos ⟨⟨⟨Nat.zero_lt_one, Nat.le_refl _⟩, by show i.toNat + 1 ≤ j.toNat; lia⟩, hs⟩]
    have hk := StrLaws.occ_head_keeps x ⟨#[c]⟩ j.toNat 1 i.toNat (List.range' (i.toNat + 1) (j.toNat - i.toNat)) (#[i.toNat], i.toNat + 1) rfl
    show ∃ r, (forIn (List.range' (i.toNat + 1) (j.toNat - i.toNat)) (#[i.toNat], i.toNat + 1) (StrLaws.occBody x ⟨#[c]⟩ j.toNat 1)).run.fst.toList = _
    generalize (forIn (List.range' (i.toNat + 1) (j.toNat - i.toNat)) (#[i.toNat], i.toNat + 1) (StrLaws.occBody x ⟨#[c]⟩ j.toNat 1)).run.fst = arr at hk
    have h1 : arr.toList[0]? = some i.toNat := by simpa using hk
    cases hL : arr.toList with
    | nil => rw [hL] at h1; cases h1
    | cons b t => rw [hL] at h1; simp at h1; exact ⟨t, by rw [h1]⟩
  obtain ⟨r, e⟩ := e
  rw [e]
  show Q (.int ((i.toNat : Nat) : Int) s.toks) _
  rw [Int.toNat_of_nonneg h0]
  exact h
theorem find4_miss {i j : Int} {v' : Tok} {c : Nat} (h0 : 0 ≤ j) (hij : j < i)
    (h : Q (.int (-1) s.toks) { s with toks := s.toks + 1 }) :
    wpAny (model prog w) A (call (.builtin "str.find") [.str x t, .str ⟨#[c]⟩ u, .int i v, .int j v']) Q E s := by
  refine call_gives F.slot_str_find (typeIs_str _ _ _) F.entry_str_find (F.args_str_find_4 _ _ _ _) (gives_find4 x ⟨#[c]⟩ i j t u v v') ?_
  rw [from_nat (by lia : 0 ≤ i), from_nat h0]
  have e : occurrences x ⟨#[c]⟩ i.toNat (min j.toNat x.length) 1 = [] := by
    rw [StrLaws.occ_eq]
    have e1 : min j.toNat x.length + 1 - i.toNat = 0 := by lia
    rw [e1]
    rfl
  rw [e]
  exact h
end
noncomputable def TabOk (ps : Array Value) : Prop := TriplesOk ps.toList ∧ ∀ pos v, codeAmong pos ps.toList = some v → ∃ a, v = Value.ref a
theorem TabOk.nil : TabOk #[] := ⟨trivial, fun _ _ h => by cases h⟩
theorem among_app {pos : Pos} {a b : Int} {c v : Value} : ∀ (l : List Value), TriplesOk l → codeAmong pos (l ++ [rawInt a, rawInt b, c]) = some v → codeAmong pos l = some v ∨ v = c := by
  intro l h
  fun_induction TriplesOk l with
  | case1 => intro e; simp [codeAmong, rawInt] at e; exact .inr e.2.symm
  | case2 a t b u x rest ih =>
    intro e
    simp only [List.cons_append, codeAmong] at e ⊢
    split at e
    · rename_i hc; rw [if_pos hc]; exact .inl e
    · rename_i hc; rw [if_neg hc]; exact ih h e
  | case3 l h1 h2 => exact h.elim
theorem TabOk.snoc {ps : Array Value} (h : TabOk ps) (a b : Int) (c : Addr) : TabOk (ps ++ #[rawInt a, rawInt b, .ref c]) := by
  have e : (ps ++ #[rawInt a, rawInt b, Value.ref c]).toList = ps.toList ++ [rawInt a, rawInt b, .ref c] := by simp
  refine ⟨by rw [e]; exact TriplesOk_snoc _ _ _ _ h.1, fun pos v hv => ?_⟩
  rw [e] at hv
  rcases among_app _ h.1 hv with q | q
  · exact h.2 _ _ q
  · exact ⟨c, q⟩
theorem news_drop2 {h₀ h : Heap} {L : Addr} {x y : Addr × Obj} {nw : List (Addr × Obj)} (N : News h₀ L h (x :: y :: nw)) : News h₀ L h (x :: nw) := fun q hq => by
  rcases List.mem_cons.mp hq with rfl | hq
  · exact N _ (.head _)
  · exact N _ (.tail _ (.tail _ hq))
theorem UpdF.same {d : Addr} {o : Obj} {l : List (Addr × Obj)} {g : Obj → List (Addr × Obj)} (U : UpdF d o l g) : g o = l := by
  obtain ⟨pre, post, e1, e2, _⟩ := U.split
  rw [e2, e1]
section
variable {M : Model} {A : Around} {E : Value → Shared → Prop} {s : Shared} {h₀ : Heap} {L a c P : Addr} {m mg mb : Str → Option Value} {cn : Str} {cs : Scope} {ccd : Value} {cl : List (Str × Addr)} {news : List (Addr × Obj)} {g : Obj → List (Addr × Obj)}
  {p : Program} {loose : List Str} {mean : ExcName → Option Value} {name qual : Str} {params : Arguments} {body : PySem.Expr} {scope : Scope} {ps : Array Value} {pos : Pos} {firstLine : Nat} {clos : List (Str × Addr)}
theorem lam_make {Q : Value → Shared → Prop} (F : Fr h₀ L s.heap m := by k_asm) (N : News h₀ L s.heap news := by k_asm) (T : Top p loose mean mg mb h₀ := by k_asm) (C : CodeHd h₀ c P := by with_reducible assumption) (hcd : ccd = .ref c := by exact rfl) (U : UpdF P (tabObj ps) news g := by walk_at "my updF") (ht : TabOk ps := by with_reducible assumption)
    (hcl : closureFor scope (envX cn cs L a ccd cl) = pure clos := by exact rfl)
    (h : ∀ f of ps' h' tk, Fr h₀ L h' m → News h₀ L h' ((f, of) :: g (tabObj ps')) → of.cls = .type "function" → TabOk ps' → (∀ q ∈ news, q.1 < f) → Q (.ref f) { s with heap := h', toks := tk }) :
    wpAny M A (makeFunction name qual params (.expr body) scope (envX cn cs L a ccd cl) [] [] [] pos firstLine) Q E s := by
  cases hca : codeAmong pos ps.toList with
  | none =>
    refine kla_nest F N T C hcd U ht.1 hca hcl fun f c' oc vs t ctv h' tk F' N' _ _ h1 h2 => ?_
    exact h f _ _ h' tk F' (news_drop2 N') rfl (ht.snoc _ _ c') fun q hq => Nat.lt_trans (h1 q hq) h2
  | some v =>
    obtain ⟨c', rfl⟩ := ht.2 _ _ hca
    have hm : (P, tabObj ps) ∈ news := by
      obtain ⟨pre, post, e1, _⟩ := U.split
      rw [e1]; exact List.mem_append_right _ (.head _)
    refine kla_hit F N T C hcd hm ht.1 hca hcl fun f ctv h' tk F' N' h1 => ?_
    exact h f _ ps h' tk F' (UpdF.same U ▸ N') rfl ht h1
end
theorem WalksS.mono' {prog : Program} {w : World} {A : Around} {I : Addr} {fp wr : List Addr} {G : Array GenState → Array GenState → Prop} {n : Nat} {P P' : Nat → Value → Prop} {St : Nat → Shared → Prop}
    (W : WalksS prog w A I fp wr G n P St) (hP : ∀ i v, P i v → P' i v) : WalksS prog w A I fp wr G n P' St where
  sub := W.sub
  grefl := W.grefl
  gtrans := W.gtrans
  frame := W.frame
  item := fun i s Q E hi st hQ => W.item i s Q E hi st fun v s' hv => hQ v s' (hP i v hv)
  done := W.done
  self := W.self
noncomputable def GenRdy (prog : Program) (w : World) (A : Around) (N a : Addr) (ys : List Str) (s : Shared) : Prop :=
  ∃ fp wr g St, WalksS prog w A.in4 a fp wr (GenOnlyQ g) ys.length (fun j v => ∃ y u, ys[j]? = some y ∧ v = .str y u) St ∧ St 0 s ∧ (∀ i s', St i s' → s'.TypeIs (.ref a) "generator") ∧ a ∈ fp ∧ (∀ b ∈ fp, b < s.heap.objs.size) ∧ ∀ b ∈ wr, N ≤ b
section
variable {prog : Program} {w : World} {A : Around} {E : Value → Shared → Prop} {s : Shared} {h₀ : Heap} {L c P : Addr} {m mg mb : Str → Option Value} {news : List (Addr × Obj)} {g : Obj → List (Addr × Obj)}
  {p : Program} {loose : List Str} {mean : ExcName → Option Value} {ps : Array Value} {Q : Value → Shared → Prop}
theorem gen_make {env : Env} {elt iter : PySem.Expr} {x : Str} {px : Pos} {scope : Scope} {pos : Pos} {l : Addr} {k : Nat} {items : List Value} {ys : List Str}
    (F : Fr h₀ L s.heap m) (N : News h₀ L s.heap news) (T : Top p loose mean mg mb h₀) (C : CodeHd h₀ c P) (hcode : env.code = .ref c) (hge0 : env.globals = mainGlobals) (U : UpdF P (tabObj ps) news g) (ht : TabOk ps) (G : AllBare s.gens)
    (hh : A.handled = none) (hco : scope.isCoroutine = false) (hclos : closureFor scope env = pure []) (hcell : ∀ y ∈ scope.names, y.2 ≠ .cell) (h0 : scope.names.lookup (".0" : Str) = some NameKind.local)
    (hx : scope.names.lookup x = some .local) (hkind : scope.kind = .function) (hroom : A.depth < recursionLimit) (hs : ∀ x, genFold iter env x = pure x)
    (hev : ∀ Q' : Value → Shared → Prop, Q' (.ref l) s → wpAny (model prog w) A (eval iter env) Q' E s)
    (hl : (l, listOf items.toArray k) ∈ news) (hlen : items.length = ys.length)
    (helt : ∀ (i : Nat) (v : Value) (y : Str) (C : Addr) (code : Value) (A' : Around) (E' : Value → Shared → Prop) (s₂ : Shared) (m₂ : Str → Option Value), items[i]? = some v → ys[i]? = some y → s₂.heap.Ns (genEnv scope [] C code builtinsNs env).locals m₂ → m₂ x = some v →
      wpAny (model prog w) A' (eval elt (genEnv scope [] C code builtinsNs env)) (fun r s₃ => (∃ u, r = .str y u) ∧ Keeps s₂ s₃) E' s₂)
    (h : ∀ a n ps' h' tk gs, Fr h₀ L h' m → News h₀ L h' (g (tabObj ps')) → TabOk ps' → AllBare gs → L < n → (∀ q ∈ g (tabObj ps'), q.1 < n) →
      GenRdy prog w A n a ys { s with heap := h', toks := tk, gens := gs } → Q (.ref a) { s with heap := h', toks := tk, gens := gs }) :
    wpAny (model prog w) A (eval (.GeneratorExp elt [⟨.Name x px, iter, [], 0⟩] scope pos) env) Q E s := by
  obtain ⟨pre, post, hl', hg, ha, hbb⟩ := U.split
  have hm : (P, tabObj ps) ∈ news := by rw [hl']; exact List.mem_append_right _ (.head _)
  have hP := N _ hm
  have hL := News.isList N hl
  have hlN := N _ hl
  have hllt : l < s.heap.objs.size := Heap.lt_size hlN.1
  have hlP : l ≠ P := fun q => by
    have e := hlN.1
    rw [q, hP.1] at e; cases e
  have hgs := T.g.keeps F.keep
  obtain ⟨bm, ob, b1, b2, b3, b4, b5, b6⟩ := T.bmain
  have hgP : mainGlobals ≠ P := fun q => by
    obtain ⟨o, es, ep, e, hd, _⟩ := hgs
    rw [q, hP.1] at e; cases e; cases hd
  have hbP : bm ≠ P := fun q => by
    have e := F.keep _ _ b3
    rw [q, hP.1] at e; cases e; cases b4
  have hbG : bm ≠ mainGlobals := fun q => by
    obtain ⟨o, es, ep, e, hd, _⟩ := T.g
    rw [q, e] at b3; cases b3; rw [hd] at b6; cases b6
  have hlim : s.heap.NoLimit := T.nolimit.keeps F.keep
  have hcP : cStatics ≠ P := fun e => by
    obtain ⟨_, hns, _⟩ := hlim
    obtain ⟨o, es, ep, ho, hd, _⟩ := hns
    rw [e, hP.1] at ho; cases ho; cases hd
  have hLlt : L < s.heap.objs.size := F.ns.lt
  have hclt : cStatics < s.heap.objs.size := let ⟨_, hn, _⟩ := hlim; hn.lt
  refine wpAny_GeneratorExp_walksQ hh hco hclos hcell h0 hx hkind hroom (hev _ ?_) hs
  refine wpAny_pyIter_list hL ⟨hlim.push _, ?_⟩
  have fin : ∀ (code : Value) (h₃ : Heap) (tk₃ : Tok) (ps' : Array Value), Heap.ExtBut P (s.heap.push { cls := .type "list_iterator", data := .fields #[.ref l, .int 0 0] }) h₃ → s.heap.objs.size + 1 ≤ h₃.objs.size → h₃.get? P = some (tabObj ps') → TabOk ps' →
      wpAny (model prog w) A (builtinsFor env.globals env.builtins) (fun bi s₄ =>
        ∃ I fp wr n₀ P St₀ pz F, (Value.ref s.heap.objs.size) = .ref I ∧ (∀ A' : Around, A'.handled = none → Walks prog w A' I fp wr n₀ P St₀) ∧ St₀ 0 s₄.heap ∧ (∀ b ∈ fp, b < s₄.heap.objs.size) ∧ s₄.heap.NoLimit ∧ cStatics ∉ wr ∧
          (∀ href : Heap, (∀ b o, s₄.heap.get? b = some o → href.get? b = some o) →
            QuietGen prog w (genEnv scope [] s₄.heap.objs.size code bi env) x [] elt (List.range s₄.heap.objs.size) wr P pz F href) ∧
          (∀ a h₅ tk gs, gs.bare = true → s₄.heap.objs.size < a → h₅.objs.size = a + 1 → (∀ b o, s₄.heap.get? b = some o → h₅.get? b = some o) →
            WalksS prog w A.in4 a (a :: s₄.heap.objs.size :: List.range s₄.heap.objs.size) (s₄.heap.objs.size :: wr) (GenOnlyQ s₄.gens.size) (passing pz n₀ 0).length
              (fun j y => ∃ i, (passing pz n₀ 0)[j]? = some i ∧ F i y) (GenAt prog w A.in4 a s₄.gens.size s₄.heap.objs.size (List.range s₄.heap.objs.size) wr pz n₀ F) →
            GenAt prog w A.in4 a s₄.gens.size s₄.heap.objs.size (List.range s₄.heap.objs.size) wr pz n₀ F 0 { s₄ with gens := s₄.gens.push gs, toks := tk, heap := h₅ } →
            Q (.ref a) { s₄ with gens := s₄.gens.push gs, toks := tk, heap := h₅ })) E { s with heap := h₃, toks := tk₃ } := by
    intro code h₃ tk₃ ps' hx₃ hsz htab hok
    have keep : ∀ b o, b ≠ P → s.heap.get? b = some o → h₃.get? b = some o := fun b o hb e => hx₃ b o hb (Heap.get?_push_of_some _ e)
    rw [hge0]
    refine wpAny_builtinsFor (hgs.extBut (fun b o hb e => keep b o hb e) hgP) b1 b2 (keep _ _ hbP (F.keep _ _ b3)) b4 b5 b6 ?_
    have hpass : passing (fun _ => true) items.length 0 = List.range items.length := by simp [passing]
    refine ⟨s.heap.objs.size, [s.heap.objs.size, l], [s.heap.objs.size], items.length, (fun i v => items.toArray[i]? = some v), (fun i h => h.IsListIter s.heap.objs.size l i ∧ h.IsList l items.toArray), fun _ => true, fun i y => ∃ z u, ys[i]? = some z ∧ y = .str z u, rfl,
      (fun A' hA => Walks.list hA _ _ (Nat.ne_of_lt hllt) items.toArray), ⟨⟨_, hx₃ _ _ (Nat.ne_of_gt (Heap.lt_size hP.1)) (Heap.get?_push_size _ rfl), rfl, rfl⟩, ?_⟩, ?_, hlim.extBut keep hcP, ?_, ?_, ?_⟩
    · obtain ⟨o, e, r⟩ := hL
      exact ⟨o, keep _ _ hlP e, r⟩
    · intro b hb
      show b < h₃.objs.size
      rcases List.mem_cons.mp hb with rfl | hb
      · exact Nat.lt_of_lt_of_le (Nat.lt_succ_self _) hsz
      · rcases List.mem_cons.mp hb with rfl | hb
        · exact Nat.lt_of_lt_of_le (Nat.lt_succ_of_lt hllt) hsz
        · cases hb
    · intro hb
      rcases List.mem_cons.mp hb with e | hb
      · rw [e] at hclt; exact Nat.lt_irrefl _ hclt
      · cases hb
    · intro href _
      refine ⟨fun A' E' i v s₂ m₂ _ _ _ _ _ => ?_, fun A' E' i v s₂ m₂ _ hv _ hns hm₂ _ => ?_⟩
      · rw [List.forIn_nil]
        exact wpAny_pure ⟨rfl, s₂.heap, s₂.toks, rfl, fun _ _ e => e⟩
      · have hv' : items[i]? = some v := by simpa using hv
        have hlt : i < ys.length := by
          rw [← hlen]
          exact (List.getElem?_eq_some_iff.mp hv').1
        refine wpAny_mono (helt i v ys[i] _ _ A' E' s₂ m₂ hv' (List.getElem?_eq_getElem hlt) hns hm₂) (fun r s₃ hr => ?_) fun _ _ e => e
        obtain ⟨⟨u, rfl⟩, hk⟩ := hr
        exact ⟨⟨_, u, List.getElem?_eq_getElem hlt, rfl⟩, hk⟩
    · intro a h₅ tk gs hgb hag hsz₅ hk₅ W hat
      have F₅ : Fr h₀ L h₅ m := ⟨(F.ns.extBut (fun b o hb e => hk₅ b o (keep b o hb e)) hP.2.1.symm), fun b o e => hk₅ b o (keep b o (fun q => by rw [q, hP.2.2] at e; cases e) (F.keep b o e)), F.above⟩
      have N₅ : News h₀ L h₅ (g (tabObj ps')) := fun q hq => by
        rw [hg] at hq
        rcases List.mem_append.mp hq with hq | hq
        · have n := N q (by rw [hl']; exact List.mem_append_left _ hq)
          exact ⟨hk₅ _ _ (keep _ _ (ha q hq) n.1), n.2⟩
        · rcases List.mem_cons.mp hq with rfl | hq
          · exact ⟨hk₅ _ _ htab, hP.2⟩
          · have n := N q (by rw [hl']; exact List.mem_append_right _ (.tail _ hq))
            exact ⟨hk₅ _ _ (keep _ _ (hbb q hq) n.1), n.2⟩
      refine h a s.heap.objs.size ps' h₅ tk _ F₅ N₅ hok (G.push hgb) hLlt (fun q hq => ?_) ?_
      · rw [hg] at hq
        rcases List.mem_append.mp hq with hq | hq
        · exact Heap.lt_size (N q (by rw [hl']; exact List.mem_append_left _ hq)).1
        · rcases List.mem_cons.mp hq with rfl | hq
          · exact Heap.lt_size hP.1
          · exact Heap.lt_size (N q (by rw [hl']; exact List.mem_append_right _ (.tail _ hq))).1
      · rw [hpass] at W
        have e1 : (List.range items.length).length = ys.length := by simp [hlen]
        rw [e1] at W
        have W' := WalksS.mono' (P' := fun j v => ∃ y u, ys[j]? = some y ∧ v = .str y u) W fun j y hy => by
          obtain ⟨i, hi, hF⟩ := hy
          have : i = j := by
            have hlt : j < items.length := by
              rcases Nat.lt_or_ge j items.length with q | q
              · exact q
              · rw [List.getElem?_eq_none (by simpa using q)] at hi; cases hi
            rw [List.getElem?_range hlt] at hi
            exact (Option.some.inj hi).symm
          subst this
          exact hF
        refine ⟨_, _, _, _, W', hat, (fun i s' st => st.1.typeIs), List.mem_cons_self, ?_, ?_⟩
        · intro b hb
          show b < h₅.objs.size
          rw [hsz₅]
          rcases List.mem_cons.mp hb with rfl | hb
          · exact Nat.lt_succ_self _
          · rcases List.mem_cons.mp hb with rfl | hb
            · exact Nat.lt_succ_of_lt hag
            · exact Nat.lt_succ_of_lt (Nat.lt_trans (List.mem_range.mp hb) hag)
        · intro b hb
          rcases List.mem_cons.mp hb with rfl | hb
          · exact Nat.le_trans (Nat.le_succ _) hsz
          · rcases List.mem_cons.mp hb with rfl | hb
            · exact Nat.le_refl _
            · cases hb
  have hIC : ({ s with heap := s.heap.push { cls := .type "list_iterator", data := .fields #[.ref l, .int 0 0] } } : Shared).heap.IsCode c P ps :=
    ((C.keeps F.keep).keeps fun b o e => Heap.get?_push_of_some _ e).code (Heap.get?_push_of_some _ hP.1) ht.1
  cases hca : codeAmong pos ps.toList with
  | none =>
    refine wpAny_genexprCodeX hcode hIC (((C.keeps F.keep).keeps fun b o e => Heap.get?_push_of_some _ e).tab (Heap.get?_push_of_some _ hP.1)) hca fun c' h₃ tk₃ hx₃ hge hlt _ _ htab₃ _ => ?_
    have hge' : (s.heap.push { cls := .type "list_iterator", data := .fields #[.ref l, .int 0 0] }).objs.size ≤ c' := hge
    rw [Heap.size_push] at hge'
    exact fin (.ref c') h₃ tk₃ _ hx₃ (by lia) htab₃.2 (ht.snoc _ _ c')
  | some v =>
    refine wpAny_genexprCode_hit hcode hIC hca ?_
    exact fin v _ s.toks ps (fun _ _ _ e => e) (by rw [Heap.size_push]; exact Nat.le_refl _) (Heap.get?_push_of_some _ hP.1) ht
theorem gen_join {sep : Str} {t : Tok} {a n : Addr} {ys : List Str} (F : Fr h₀ L s.heap m) (N : News h₀ L s.heap news) (G : AllBare s.gens) (X : GenRdy prog w A n a ys s) (hL : L < n) (hn : ∀ q ∈ news, q.1 < n) (hok : JoinOk sep ys = true) (hsz : ys.length ≤ sizeLine)
    (h : ∀ h' t' tk gs, Fr h₀ L h' m → News h₀ L h' news → AllBare gs → Q (.str (Txt.join sep ys) t') { s with heap := h', toks := tk, gens := gs }) :
    wpAny (model prog w) A (call (.builtin "str.join") [.str sep t, .ref a]) Q E s := by
  obtain ⟨fp, wr, gn, St, W, hst, hT, ha, hfp, hwr⟩ := X
  have W := W.in4_2
  refine SC.joinGen W hT hst hfp ha (fun j v hv => let ⟨y, u, _, e⟩ := hv; ⟨y, u, e⟩) (fun s' lt hm hacc => ?_) hsz
  have hl : lt.map (·.1) = ys := by
    apply List.ext_getElem?
    intro j
    have hsz : lt.length = ys.length := by simpa [strValues] using hacc.1
    by_cases hj : j < ys.length
    · have hj' : j < lt.length := hsz ▸ hj
      obtain ⟨y, u, hy, hv⟩ := hacc.2 j (.str lt[j].1 lt[j].2) (by simp [strValues, List.getElem?_eq_getElem hj'])
      injection hv with h1 _
      rw [List.getElem?_map, List.getElem?_eq_getElem hj', hy]
      simp [h1]
    · rw [List.getElem?_eq_none (by simpa [hsz] using Nat.le_of_not_lt hj), List.getElem?_eq_none (Nat.le_of_not_lt hj)]
  rw [hl]
  refine ⟨hok, fun t' k => ?_⟩
  have hLw : L ∉ wr := fun hb => Nat.lt_irrefl _ (Nat.lt_of_lt_of_le hL (hwr _ hb))
  have F' : Fr h₀ L s'.heap m := ⟨F.ns.at fun o e => hm.heap L o hLw e, fun b o e => hm.heap b o (fun hb => by
    have h1 := hwr _ hb
    have h2 : b < h₀.objs.size := Heap.lt_size e
    have h3 := F.above
    exact Nat.lt_irrefl _ (Nat.lt_of_lt_of_le (Nat.lt_of_lt_of_le (Nat.lt_of_lt_of_le h2 h3) (Nat.le_of_lt hL)) h1)) (F.keep b o e), F.above⟩
  have N' : News h₀ L s'.heap news := fun q hq => ⟨hm.heap _ _ (fun hb => Nat.lt_irrefl _ (Nat.lt_of_lt_of_le (hn q hq) (hwr _ hb))) (N q hq).1, (N q hq).2⟩
  have hr := h s'.heap t' k s'.gens F' N' (G.movedS hm)
  have e1 := hm.drawn
  have e2 := hm.os
  have e3 : ({ s with heap := s'.heap, toks := k, gens := s'.gens } : Shared) = { s' with toks := k } := by
    cases s; cases s'; simp_all
  rw [← e3]; exact hr
end
end
abbrev ConG (w : World) (f : Addr) (vs : List Value) (d : Nat) (Pre : List (Addr × Obj) → Prop) (Post : List (Addr × Obj) → List (Addr × Obj) → Value → Prop) : Prop :=
  ∀ (dp un : Nat) (gd : Option (List Code)) (cn : Str) (cs : Scope) (a : Addr) (ccd : Value) (cl : List (Str × Addr)) (outer : List Env) (A₀ : Around) (base : Heap) (p : Program) (loose : List Str) (mean : ExcName → Option Value) (mg mb : Str → Option Value)
    (h₀ : Heap) (L : Addr) (m : Str → Option Value) (news : List (Addr × Obj)) (s : Shared) (Q E : Value → Shared → Prop),
    Below A₀ base outer h₀ → Fr h₀ L s.heap m → (H w.params).In h₀ → News h₀ L s.heap news → Top p loose mean mg mb h₀ → cs.kind = .function → Pre news → dp + d < recursionLimit → un + 8 * d < cLine → AllBare s.gens →
    (∀ r news' h' tk' gs', Fr h₀ L h' m → News h₀ L h' news' → AllBare gs' → Post news news' r → Q r { s with heap := h', toks := tk', gens := gs' }) →
    wpAny (model prg w) (ktrTop dp un gd cn cs L a ccd cl outer) (call (.ref f) vs) Q E s
theorem con_useG {w : World} {f : Addr} {vs : List Value} {d : Nat} {Pre : List (Addr × Obj) → Prop} {Post : List (Addr × Obj) → List (Addr × Obj) → Value → Prop} (C : ConG w f vs d Pre Post)
    {dp un : Nat} {gd : Option (List Code)} {cn : Str} {cs : Scope} {a : Addr} {ccd : Value} {cl : List (Str × Addr)} {outer : List Env} {A₀ : Around} {base : Heap} {p : Program} {loose : List Str} {mean : ExcName → Option Value} {mg mb : Str → Option Value}
    {h₀ : Heap} {L : Addr} {m : Str → Option Value} {news : List (Addr × Obj)} {s : Shared} {Q E : Value → Shared → Prop}
    (B : Below A₀ base outer h₀) (F : Fr h₀ L s.heap m) (X : (H w.params).In h₀) (N : News h₀ L s.heap news) (T : Top p loose mean mg mb h₀) (hk : cs.kind = .function) (hp : Pre news) (hd : dp + d < recursionLimit) (hu : un + 8 * d < cLine) (hg : AllBare s.gens)
    (ret : ∀ r news' h' tk' gs', Fr h₀ L h' m → News h₀ L h' news' → AllBare gs' → Post news news' r → Q r { s with heap := h', toks := tk', gens := gs' }) :
    wpAny (model prg w) (ktrTop dp un gd cn cs L a ccd cl outer) (call (.ref f) vs) Q E s := C _ _ _ _ _ _ _ _ _ _ _ _ _ _ _ _ _ _ _ _ _ _ _ B F X N T hk hp hd hu hg ret
theorem code68 {P : Params} {h : Heap} (X : (H P).In h) : CodeHd h 68 64 := by
  have hl : ∃ o vs file tf flags tg inF text tt, (H P).lookup 68 = some o ∧ o.cls = .type "code" ∧ o.data = .fields vs ∧ vs[11]? = some (.ref 64) ∧ vs.getD 11 .none = .ref 64 ∧ vs.getD 18 .none = .str file tf ∧
    vs.getD 7 .none = .int flags tg ∧ vs.getD 9 .none = .bool inF ∧ vs.getD 10 .none = .int text tt ∧ (68 : Nat) ≠ 64 :=
    ⟨_, _, _, _, _, _, _, _, _, by with_unfolding_all rfl, rfl, rfl, rfl, rfl, rfl, rfl, rfl, rfl, by decide⟩
  obtain ⟨o, vs, file, tf, flags, tg, inF, text, tt, e, r⟩ := hl
  exact ⟨o, vs, file, tf, flags, tg, inF, text, tt, X _ _ e, r⟩
noncomputable def TSg (g : Heap) (L : Addr) (pat : Str) (star : Value) (R B : Addr) (N : Nat) (rest : List (Addr × Obj)) (s : Shared) (i : Nat) (vi : List Value) (s' : Shared) : Prop :=
  ∃ h tk m c ps gs, s' = { s with heap := h, toks := tk, gens := gs } ∧ AllBare gs ∧ TabOk ps ∧ Fr g L h m ∧ News g L h ((B, bmOf R) :: (R, listOf vi.toArray c) :: (64, tabObj ps) :: rest) ∧ TFr pat star R B N i m
theorem TSg.mk' {g h : Heap} {L R B : Addr} {pat : Str} {star : Value} {N' i c : Nat} {rest : List (Addr × Obj)} {s : Shared} {vi : List Value} {m : Str → Option Value} {tk : Nat} {ps : Array Value} {gs : Array GenState} (G : AllBare gs) (K : TabOk ps) (F : Fr g L h m)
    (N : News g L h ((B, bmOf R) :: (R, listOf vi.toArray c) :: (64, tabObj ps) :: rest)) (t : TFr pat star R B N' i m) : TSg g L pat star R B N' rest s i vi { s with heap := h, toks := tk, gens := gs } := ⟨h, tk, m, c, ps, gs, rfl, G, K, F, N, t⟩
theorem TSg.el {P : Prop} {g : Heap} {L R B : Addr} {pat : Str} {star : Value} {N' i : Nat} {rest : List (Addr × Obj)} {s s' : Shared} {vi : List Value} (x : TSg g L pat star R B N' rest s i vi s')
    (k : ∀ h tk m c ps gs ti tn tp tq, s' = { s with heap := h, toks := tk, gens := gs } → AllBare gs → TabOk ps → Fr g L h m → News g L h ((B, bmOf R) :: (R, listOf vi.toArray c) :: (64, tabObj ps) :: rest) →
      m (Str.ofString "i") = some (.int (i : Int) ti) → m (Str.ofString "n") = some (.int (N' : Int) tn) → m (Str.ofString "pat") = some (.str pat tp) → m (Str.ofString "STAR") = some star → m (Str.ofString "QUESTION_MARK") = some (.str (Str.ofString ".") tq) → m (Str.ofString "add") = some (.ref B) → m (Str.ofString "res") = some (.ref R) → P) : P := by
  obtain ⟨h, tk, m, c, ps, gs, e, G, K, F, N, ti, tn, tp, tq, e1, e2, e3, e4, e5, e6, e7⟩ := x
  exact k h tk m c ps gs ti tn tp tq e G K F N e1 e2 e3 e4 e5 e6 e7
theorem nes_sub {l r : List (Addr × Obj)} {f : Addr} (h : ∀ q ∈ l, q.1 < f) (s : ∀ p ∈ r, p ∈ l) : ∀ p ∈ r, p.1 ≠ f := fun p hp => Nat.ne_of_lt (h p (s p hp))
theorem allLt_ne {l : List (Addr × Obj)} {f d : Addr} {o : Obj} (h : ∀ q ∈ l, q.1 < f) (m : (d, o) ∈ l) : f ≠ d := Nat.ne_of_gt (h _ m)
section
variable {prog : Program} {w : World} {A : Around} {E : Value → Shared → Prop} {s : Shared} {h₀ : Heap} {L : Addr} {m : Str → Option Value} {news : List (Addr × Obj)} {x : Str} {t : Tok} {value slice : PySem.Expr} {Q : Value → Shared → Prop}
theorem slice_known {i j : Int} {ui uj : Tok} {y : Str} (hF : Fr h₀ L s.heap m) (hN : News h₀ L s.heap news) (hy : Txt.slice x (some i) (some j) = y) (h : ∀ h' t' k, Fr h₀ L h' m → News h₀ L h' news → Q (.str y t') { s with heap := h', toks := k })
    (hsz : x.length ≤ sizeLine) (hs : subscripted slice false (.str x t) (.ref s.heap.objs.size) = operate [.ref s.heap.objs.size, .str x t] (getItem (.str x t) (.ref s.heap.objs.size)) := by with_unfolding_all rfl)
    (ht : ∀ r, letTemporaryGo value (.str x t) r = pure () := by intro _; with_unfolding_all rfl) :
    wpAny (model prog w) A (subscriptTail value slice (.str x t) (.ref s.heap.objs.size)) Q E { s with heap := s.heap.push { cls := .type "slice", data := .fields #[.int i ui, .int j uj, .none] } } := by
  subst hy
  exact slice_strN_ss hF hN h hs ht hsz
end
theorem words56 : True := by
  (k_with "m subscriptTail Name Slice str ref" => (((with_reducible show wpAny _ _ (subscriptTail _ (PySem.Expr.Slice (some _) (some _) none _) _ _) _ _ _); (with_reducible rename Fr _ _ _ _ => F'w); (with_reducible rename News _ _ _ _ => N'w); (refine slice_known (s := ⟨_, _, _, _, _⟩) F'w N'w (by with_reducible assumption) ?_ (by (rw [PySem.sizeLine_eq]; lia))); intro _ _ _ _ _)))
  trivial
theorem dash_one : Str.ofString "-" = ⟨#[45]⟩ := by decide
section
variable {prog : Program} {w : World} {A : Around} {E : Value → Shared → Prop} {s : Shared} {x : Str} {t u v v' : Tok} {i j : Int} {Q : Value → Shared → Prop}
theorem find_dash (h0 : 0 ≤ i) (hij : i < j) (hj : j ≤ x.length) (hc : x.cps[i.toNat]? = some 45) (h : Q (.int i s.toks) { s with toks := s.toks + 1 }) :
    wpAny (model prog w) A (call (.builtin "str.find") [.str x t, .str (Str.ofString "-") u, .int i v, .int j v']) Q E s := by
  rw [dash_one]; exact find4_hit h0 hij hj hc h
theorem find_no (h0 : 0 ≤ j) (hij : j < i) (h : Q (.int (-1) s.toks) { s with toks := s.toks + 1 }) :
    wpAny (model prog w) A (call (.builtin "str.find") [.str x t, .str (Str.ofString "-") u, .int i v, .int j v']) Q E s := by
  rw [dash_one]; exact find4_miss h0 hij h
end
theorem words57 : True := by
  (k_with "m call builtin:str.find" => ((walk_at "my ga")))
  (k_with "m call builtin:str.find" => (((with_reducible show wpAny _ _ (PySem.call (Value.builtin "str.find") [Value.str _ _, Value.str _ _, Value.int _ _, Value.int _ _]) _ _ _); first | refine find_dash (by lia) (by lia) (by lia) (by with_reducible assumption) ?_ | refine find_no (by lia) (by lia) ?_)))
  trivial
abbrev rIt (x l st : Int) : Obj := { cls := .type "range_iterator", dict := none, data := .fields #[rawInt x, rawInt l, rawInt st], slots := #[] }
section
variable {prog : Program} {w : World} {A : Around} {s : Shared} {h₀ : Heap} {m : Str → Option Value} {news : List (Addr × Obj)}
theorem iter_down {E : Value → Shared → Prop} {L r : Addr} {a b c : Int} {t u v : Tok} {Q : Value → Shared → Prop} (F : Fr h₀ L s.heap m := by k_asm) (N : News h₀ L s.heap news := by k_asm) (hr : IsRange s.heap r a b c t u v := by with_reducible assumption) (ha : a = 1 := by first | rfl | lia) (hb : b = 0 := by first | rfl | lia) (hc : c = -1 := by first | rfl | lia)
    (h : ∀ I h', Fr h₀ L h' m → News h₀ L h' ((I, rIt 1 1 (-1)) :: news) → (∀ p ∈ news, p.1 < I) → Q (.ref I) { s with heap := h' }) :
    wpAny (model prog w) A (pyIter (.ref r)) Q E s := by
  subst ha; subst hb; subst hc
  refine wpAny_pyIter_range hr (by decide) ?_
  exact h _ _ (F.push _) (News.push F N _ rfl) (fun q hq => Heap.lt_size (N q hq).1)
noncomputable def OnceEnd (h₀ : Heap) (L I : Addr) (s : Shared) (R : Result → Shared → Prop) (s₃ : Shared) : Prop :=
  ∃ h tk m' news', s₃ = { s with heap := h, toks := tk } ∧ Fr h₀ L h m' ∧ News h₀ L h ((I, rIt 0 0 (-1)) :: news') ∧ (∀ p ∈ news', p.1 ≠ I) ∧
    (∀ h' tk', Fr h₀ L h' m' → News h₀ L h' news' → R (.ok .next) { s with heap := h', toks := tk' })
noncomputable def OncePost (h₀ : Heap) (L I : Addr) (s : Shared) (R : Result → Shared → Prop) (f : Flow) (s₃ : Shared) : Prop :=
  match f with
  | .next => OnceEnd h₀ L I s R s₃
  | .cont => OnceEnd h₀ L I s R s₃
  | .brk => R (.ok .next) s₃
  | .ret v => R (.ok (.ret v)) s₃
theorem for_once {R : Result → Shared → Prop} {x : Str} {px : Pos} {body : List Stmt} {env : Env} {I L : Addr} (hL : env.locals = L) (hh : A.handled = none) (F : Fr h₀ L s.heap m) (N : News h₀ L s.heap ((I, rIt 1 1 (-1)) :: news)) (hne : ∀ p ∈ news, p.1 ≠ I)
    (turn : ∀ h' tk t, Fr h₀ L h' m → News h₀ L h' ((I, rIt 0 0 (-1)) :: news) →
      wpAny (model prog w) A (assign (.Name x px) env (.int 1 t)) (fun _ s₂ => wpAny (model prog w) A (execs body env) (OncePost h₀ L I s R) (fun _ _ => False) s₂) (fun _ _ => False) { s with heap := h', toks := tk }) :
    codeAny (model prog w) A (.forLoop (.Name x px) (.ref I) body [] env) R s := by
  subst hL
  refine codeAny_forLoop (fun k s' => (k = 1 ∧ s' = s) ∨ (k = 0 ∧ OnceEnd h₀ env.locals I s R s')) ?_ 1 (.inl ⟨rfl, rfl⟩) (by intro _; rfl)
  rintro k s' (⟨rfl, rfl⟩ | ⟨rfl, h, tk, m', news', rfl, F', N', hne', hR⟩)
  · have hm := N (I, rIt 1 1 (-1)) (.head _)
    refine wpAny_pyNext_range_item hm.1 (by decide) fun h₁ hit₁ hs₁ => ?_
    have N₁ : News h₀ env.locals h₁ ((I, rIt 0 0 (-1)) :: news) := News.setIn (own := []) N (fun _ h => nomatch h) hne hs₁ hit₁
    have F₁ : Fr h₀ env.locals h₁ m := F.change hs₁ hm.2.1 hm.2.2
    refine wpAny_noRaise (wpAny_mono (turn h₁ _ _ F₁ N₁) (fun _ s₂ h₂ => wpAny_noRaise (wpAny_mono h₂ (fun f s₃ h₃ => ?_) fun _ _ x => x)) fun _ _ x => x)
    cases f with
    | next => exact ⟨0, by lia, .inr ⟨rfl, h₃⟩⟩
    | cont => exact ⟨0, by lia, .inr ⟨rfl, h₃⟩⟩
    | brk => exact h₃
    | ret v => exact h₃
  · have hm := N' (I, rIt 0 0 (-1)) (.head _)
    refine wpAny_pyNext_range_end hh hm.1 (by decide) fun h₁ he₁ => wpAny_execs_nil ?_
    have N₁ : News h₀ env.locals h₁ news' := fun p hp => ⟨he₁ _ _ (hne' p hp) (N' p (.tail _ hp)).1, (N' p (.tail _ hp)).2⟩
    have F₁ : Fr h₀ env.locals h₁ m' := ⟨F'.ns.extBut he₁ (Ne.symm hm.2.1), fun b o e => he₁ b o (fun q => by rw [q, hm.2.2] at e; cases e) (F'.keep b o e), F'.above⟩
    exact hR h₁ tk F₁ N₁
end
theorem words58 : True := by
  (k_with "m exec For Name Call cons nil" => ((refine wpAny_noRaise ?_; k_dflt (refine for_stmt (h := ?_)))))
  (k_with "m pyIter ref" => ((k_here; k_dflt (refine iter_down (h := ?_); k_whole); intro I9w h9w F9w N9w l9w; refine WStop.out ?_)))
  (k_with "m subscriptTail Name BinOp ref int" => ((k_here; k_dflt (refine item_at (h := ?_); k_whole))))
  (k_with "m subscriptTail Name Name ref int" => ((k_here; k_dflt (refine item_at (h := ?_); k_whole))))
  trivial
section
open Builtin Builtin.Str
variable {prog : Program} {w : World} {A : Around} {E : Value → Shared → Prop} {s : Shared} {x y : Str} {t u : Tok} {Q : Value → Shared → Prop}
theorem notIn_lit {b : Bool} (hb : (occurrences y x 0 y.length 1).isEmpty = b) (h : Q (.bool b) s) : wpAny (model prog w) A (compareOp .NotIn (.str x t) (.str y u)) Q E s := by
  subst hb; exact notIn_str (by rw [Bool.not_not]; exact h)
noncomputable def noesc (y : Str) : Bool := (occurrences y (Str.ofString "\\") 0 y.length (y.length + 1)).isEmpty && (occurrences y (Str.ofString "-") 0 y.length (y.length + 1)).isEmpty
theorem noesc_split {y : Str} (h : noesc y = true) : (occurrences y (Str.ofString "\\") 0 y.length (y.length + 1)).isEmpty = true ∧ (occurrences y (Str.ofString "-") 0 y.length (y.length + 1)).isEmpty = true := by
  unfold noesc at h
  exact Bool.and_eq_true_iff.mp h
end
section
variable {prog : Program} {w : World} {A : Around} {E : Value → Shared → Prop} {s : Shared} {h₀ : Heap} {L c P : Addr} {m mg mb : Str → Option Value} {news : List (Addr × Obj)} {g : Obj → List (Addr × Obj)}
  {p : Program} {loose : List Str} {mean : ExcName → Option Value} {ps : Array Value} {Q : Value → Shared → Prop}
theorem gen_make2 {env : Env} {elt iter : PySem.Expr} {x : Str} {px : Pos} {scope : Scope} {pos : Pos} {l : Addr} {k : Nat} {items : List Value} {ys : List Str}
    (F : Fr h₀ L s.heap m := by k_asm) (N : News h₀ L s.heap news := by k_asm) (T : Top p loose mean mg mb h₀ := by k_asm) (C : CodeHd h₀ c P := by with_reducible assumption) (hcode : env.code = .ref c := by exact rfl) (hge0 : env.globals = mainGlobals := by exact rfl) (U : UpdF P (tabObj ps) news g := by walk_at "my updF") (ht : TabOk ps := by with_reducible assumption) (G : AllBare s.gens := by with_reducible assumption)
    (hh : A.handled = none := by exact rfl) (hco : scope.isCoroutine = false := by exact rfl) (hclos : closureFor scope env = pure [] := by exact rfl) (hcell : ∀ y ∈ scope.names, y.2 ≠ .cell := by decide) (h0 : scope.names.lookup (".0" : Str) = some NameKind.local := by with_unfolding_all rfl)
    (hx : scope.names.lookup x = some .local := by with_unfolding_all rfl) (hkind : scope.kind = .function := by exact rfl) (hroom : A.depth < recursionLimit := by ktr_room) (hs : ∀ x, genFold iter env x = pure x := by (intro _; with_unfolding_all rfl))
    (hev : ∀ Q' : Value → Shared → Prop, Q' (.ref l) s → wpAny (model prog w) A (eval iter env) Q' E s := by (intro Q' hQ'; walk1; exact hQ'))
    (hl : (l, listOf items.toArray k) ∈ news := by walk_at "my mem") (hst : StrsAre items ys := by walk_at "my strs") (hno : ys.all noesc = true := by decide +kernel)
    (helt : ∀ (y : Str) (t : Tok) (C : Addr) (code : Value) (A' : Around) (E' : Value → Shared → Prop) (s₂ : Shared) (m₂ : Str → Option Value), noesc y = true → s₂.heap.Ns (genEnv scope [] C code builtinsNs env).locals m₂ → m₂ x = some (.str y t) →
      wpAny (model prog w) A' (eval elt (genEnv scope [] C code builtinsNs env)) (fun r s₃ => (∃ u, r = .str y u) ∧ Keeps s₂ s₃) E' s₂ := by (intro y' t' C' code' A' E' s' m' hne hns hm; exact elt_walk hne hns hm rfl rfl rfl rfl))
    (h : ∀ a n ps' h' tk gs, Fr h₀ L h' m → News h₀ L h' (g (tabObj ps')) → TabOk ps' → AllBare gs → L < n → (∀ q ∈ g (tabObj ps'), q.1 < n) →
      GenRdy prog w A n a ys { s with heap := h', toks := tk, gens := gs } → Q (.ref a) { s with heap := h', toks := tk, gens := gs }) :
    wpAny (model prog w) A (eval (.GeneratorExp elt [⟨.Name x px, iter, [], 0⟩] scope pos) env) Q E s := by
  refine gen_make F N T C hcode hge0 U ht G hh hco hclos hcell h0 hx hkind hroom hs hev hl hst.length (fun i v y C code A' E' s₂ m₂ hv hy hns hm => ?_) h
  obtain ⟨t, e⟩ := hst.get i y hy
  rw [hv] at e
  cases e
  exact helt y t C code A' E' s₂ m₂ (List.all_eq_true.mp hno y (List.mem_of_getElem? hy)) hns hm
theorem gen_join2 {sep z : Str} {t : Tok} {a n : Addr} {ys : List Str} (F : Fr h₀ L s.heap m := by k_asm) (N : News h₀ L s.heap news := by k_asm) (G : AllBare s.gens := by with_reducible assumption) (X : GenRdy prog w A n a ys s := by with_reducible assumption) (hL : L < n := by with_reducible assumption) (hn : ∀ q ∈ news, q.1 < n := by with_reducible assumption) (hok : JoinOk sep ys = true := by decide +kernel) (hsz : ys.length ≤ sizeLine := by (rw [PySem.sizeLine_eq]; decide)) (hz : Txt.join sep ys = z := by with_reducible assumption)
    (h : ∀ h' t' tk gs, Fr h₀ L h' m → News h₀ L h' news → AllBare gs → Q (.str z t') { s with heap := h', toks := tk, gens := gs }) :
    wpAny (model prog w) A (call (.builtin "str.join") [.str sep t, .ref a]) Q E s := by
  subst hz
  exact gen_join F N G X hL hn hok hsz h
end
theorem words59 : True := by
  (k_with "m compareOp NotIn str str" => (first | (with_reducible refine notIn_lit (b := true) (by decide +kernel) ?_) | (with_reducible refine notIn_lit (b := false) (by decide +kernel) ?_)))
  (k_with "m eval Name" => (((with_reducible show wpAny _ _ (eval (PySem.Expr.Name _ _) (genEnv _ _ _ _ _ _)) _ _ _); refine ldG (by with_reducible assumption) (by with_reducible assumption) ?_ (by assumption) (by assumption) (by decide))))
  trivial
theorem elt_walk {prog : Program} {w : World} {A' : Around} {E' : Value → Shared → Prop} {s₂ : Shared} {m₂ : Str → Option Value} {cenv : Env} {y : Str} {t : Tok} {p1 p2 p3 p4 p5 p6 p7 p8 p9 : Pos} {k1 k2 k3 k4 : Nat} {pl1 pl2 : Sem Bool}
    (hne : noesc y = true) (hns : s₂.heap.Ns cenv.locals m₂) (hm : m₂ (Str.ofString "s") = some (.str y t))
    (hk : cenv.scope.kind = .function) (hl : cenv.scope.names.lookup (Str.ofString "s") = some .local)
    (he1 : eval (.Call (.Attribute (.Name (Str.ofString "s") p1) (Str.ofString "replace") p2) [.Constant (.str (Str.ofString "\\")) k1 p3, .Constant (.str (Str.ofString "\\\\")) k2 p4] [] p5) cenv = (do
      let ov ← eval (.Name (Str.ofString "s") p1) cenv
      standAt p2.atName
      let (f, first) ← holding [ov] (getMethod ov (Str.ofString "replace") pl1)
      callWith p5 f first (backTo p5 (starEach [.Constant (.str (Str.ofString "\\")) k1 p3, .Constant (.str (Str.ofString "\\\\")) k2 p4] cenv)) []))
    (he2 : eval (.Call (.Attribute (.Call (.Attribute (.Name (Str.ofString "s") p1) (Str.ofString "replace") p2) [.Constant (.str (Str.ofString "\\")) k1 p3, .Constant (.str (Str.ofString "\\\\")) k2 p4] [] p5) (Str.ofString "replace") p6)
      [.Constant (.str (Str.ofString "-")) k3 p7, .Constant (.str (Str.ofString "\\-")) k4 p8] [] p9) cenv = (do
      let ov ← eval (.Call (.Attribute (.Name (Str.ofString "s") p1) (Str.ofString "replace") p2) [.Constant (.str (Str.ofString "\\")) k1 p3, .Constant (.str (Str.ofString "\\\\")) k2 p4] [] p5) cenv
      standAt p6.atName
      let (f, first) ← holding [ov] (getMethod ov (Str.ofString "replace") pl2)
      callWith p9 f first (backTo p9 (starEach [.Constant (.str (Str.ofString "-")) k3 p7, .Constant (.str (Str.ofString "\\-")) k4 p8] cenv)) [])) :
    wpAny (model prog w) A' (eval (.Call (.Attribute (.Call (.Attribute (.Name (Str.ofString "s") p1) (Str.ofString "replace") p2) [.Constant (.str (Str.ofString "\\")) k1 p3, .Constant (.str (Str.ofString "\\\\")) k2 p4] [] p5) (Str.ofString "replace") p6)
      [.Constant (.str (Str.ofString "-")) k3 p7, .Constant (.str (Str.ofString "\\-")) k4 p8] [] p9) cenv) (fun r s₃ => (∃ u, r = .str y u) ∧ Keeps s₂ s₃) E' s₂ := by
  obtain ⟨n1, n2⟩ := noesc_split hne
  refine MethodCall_ ?_ he2
  refine MethodCall_ ?_ he1
  refine ldG hns hm ?_ hk hl (by decide)
  k_steps
  refine replace_none n1 ?_
  k_steps
  refine replace_none n2 ?_
  exact ⟨⟨_, rfl⟩, _, _, rfl, fun _ _ e => e⟩
theorem words60 : True := by
  (k_with "m my strs" => (first | exact StrsAre.nil | (refine StrsAre.cons _ _ (by walk_at "my strs"))))
  (k_with "m eval GeneratorExp" => ((k_here; k_dflt (refine gen_make2 (h := ?_); k_whole); intro a9w n9w ps9w h9w tk9w gs9w F9w N9w t9w G9w L9w l9w X9w; (try k_fold))))
  (k_with "m call builtin:str.join" => ((k_here; walk_at "my g3"; k_dflt (refine gen_join2 (h := ?_)); intro h9w t9w tk9w gs9w F9w N9w G9w; (try k_fold))))
  trivial
theorem UpdF.toUpd {d : Addr} {o o' : Obj} : ∀ {l : List (Addr × Obj)} {g : Obj → List (Addr × Obj)}, UpdF d o l g → Upd d o o' l (g o')
  | _, _, .head h => .head h
  | _, _, .tail h r => .tail h (UpdF.toUpd r)
section
variable {prog : Program} {w : World} {A : Around} {E : Value → Shared → Prop} {s : Shared} {h₀ : Heap} {L D : Addr} {m : Str → Option Value} {news : List (Addr × Obj)} {g : Obj → List (Addr × Obj)} {x y v : Value} {n : Nat} {k : Int} {t : Tok} {Q : Unit → Shared → Prop}
theorem set_zero (F : Fr h₀ L s.heap m := by k_asm) (N : News h₀ L s.heap news := by k_asm) (U : UpdF D (listOf (List.toArray [x, y]) n) news g := by walk_at "my updF") (hk : k = 0 := by exact rfl)
    (h : ∀ h', Fr h₀ L h' m → News h₀ L h' (g (listOf (List.toArray [v, y]) n)) → Q () { s with heap := h' }) : wpAny (model prog w) A (setItem (.ref D) (.int k t) v) Q E s := by
  subst hk
  exact ki_set (its := (List.toArray [x, y])) (q := [v, y]) F N (by decide) (by decide) rfl (UpdF.toUpd U) h
theorem del_one (F : Fr h₀ L s.heap m := by k_asm) (N : News h₀ L s.heap news := by k_asm) (U : UpdF D (listOf (List.toArray [x, y]) n) news g := by walk_at "my updF") (hk : k = 1 := by exact rfl)
    (h : ∀ h', Fr h₀ L h' m → News h₀ L h' (g (listOf (List.toArray [x]) (n + 1))) → Q () { s with heap := h' }) : wpAny (model prog w) A (delItem (.ref D) (.int k t)) Q E s := by
  subst hk
  exact ki_del (its := (List.toArray [x, y])) (q := [x]) (k := 1) F N rfl rfl rfl (UpdF.toUpd U) (by rw [PySem.sizeLine_eq]; show 2 ≤ _; lia) h
end
theorem words61 : True := by
  (k_with "m setItem ref int" => ((k_here; k_dflt (refine set_zero (h := ?_); k_whole); intro h9w F9w N9w)))
  (k_with "m delItem ref int" => ((k_here; k_dflt (refine del_one (h := ?_); k_whole); intro h9w F9w N9w)))
  (k_with "m call builtin:str.replace" => ((walk_at "my ga")))
  (k_with "m call builtin:str.replace" => (((with_reducible show wpAny _ _ (PySem.call (Value.builtin "str.replace") [Value.str _ _, Value.str _ _, Value.str _ _]) _ _ _); refine replace_none (by first | (with_reducible assumption) | decide +kernel) ?_)))
  trivial
theorem aL1 {a b : Prop} (h : a ∧ b := by with_reducible assumption) : a := h.1
theorem aL2 {a b c : Prop} (h : a ∧ b ∧ c := by with_reducible assumption) : b := h.2.1
theorem aL3 {a b c d : Prop} (h : a ∧ b ∧ c ∧ d := by with_reducible assumption) : c := h.2.2.1
theorem aL4 {a b c d e : Prop} (h : a ∧ b ∧ c ∧ d ∧ e := by with_reducible assumption) : d := h.2.2.2.1
theorem aL5 {a b c d e f : Prop} (h : a ∧ b ∧ c ∧ d ∧ e ∧ f := by with_reducible assumption) : e := h.2.2.2.2.1
theorem aL6 {a b c d e f g : Prop} (h : a ∧ b ∧ c ∧ d ∧ e ∧ f ∧ g := by with_reducible assumption) : f := h.2.2.2.2.2.1
theorem aL7 {a b c d e f g i : Prop} (h : a ∧ b ∧ c ∧ d ∧ e ∧ f ∧ g ∧ i := by with_reducible assumption) : g := h.2.2.2.2.2.2.1
theorem aL8 {a b c d e f g i j : Prop} (h : a ∧ b ∧ c ∧ d ∧ e ∧ f ∧ g ∧ i ∧ j := by with_reducible assumption) : i := h.2.2.2.2.2.2.2.1
theorem aR1 {a b : Prop} (h : a ∧ b := by with_reducible assumption) : b := h.2
theorem aR2 {a b c : Prop} (h : a ∧ b ∧ c := by with_reducible assumption) : c := h.2.2
theorem aR3 {a b c d : Prop} (h : a ∧ b ∧ c ∧ d := by with_reducible assumption) : d := h.2.2.2
theorem aR4 {a b c d e : Prop} (h : a ∧ b ∧ c ∧ d ∧ e := by with_reducible assumption) : e := h.2.2.2.2
theorem aR5 {a b c d e f : Prop} (h : a ∧ b ∧ c ∧ d ∧ e ∧ f := by with_reducible assumption) : f := h.2.2.2.2.2
theorem words62 : True := by
  (k_with "m my clt" => (first | (with_reducible assumption) | exact aL1 | exact aL2 | exact aL3 | exact aL4 | exact aL5 | exact aL6 | exact aL7 | exact aL8))
  (k_with "m my ne" => (first | (refine Ne.symm (Nat.ne_of_lt (by walk_at "my clt"))) | (refine Nat.ne_of_lt (by walk_at "my clt"))))
  (k_with "m my ne" => (first | exact Ne.symm (Nat.ne_of_lt (by with_reducible assumption)) | exact Nat.ne_of_lt (by with_reducible assumption) | (refine allLt_ne (by with_reducible assumption) (by walk_at "my mem")) | (refine Ne.symm (allLt_ne (by with_reducible assumption) (by walk_at "my mem")))))
  (k_with "m my nes" => (first | with_reducible assumption | exact all_ne (by with_reducible assumption) | exact List.forall_mem_nil _ | (refine List.forall_mem_cons.mpr ⟨?_, ?_⟩; (focus (walk_at "my ne")); walk_at "my nes")))
  (k_with "m my alt" => (first | (with_reducible assumption) | exact aR1 | exact aR2 | exact aR3 | exact aR4 | exact aR5))
  (k_with "m my nes" => (first | with_reducible assumption | exact all_ne (by with_reducible assumption) | exact List.forall_mem_nil _ | (refine List.forall_mem_cons.mpr ⟨?_, ?_⟩; (focus (walk_at "my ne")); walk_at "my nes") | (refine all_ne (kst_ltOf (by walk_at "my alt")))))
  (k_with "m my nes" => (first | with_reducible assumption | exact all_ne (by with_reducible assumption) | exact List.forall_mem_nil _ | (refine List.forall_mem_cons.mpr ⟨?_, ?_⟩; (focus (walk_at "my ne")); walk_at "my nes") | (refine all_ne (kst_ltOf (by walk_at "my alt"))) | (refine nes_sub (by with_reducible assumption) (by walk_at "my sub"))))
  (k_with "m my updF" => (first | (refine UpdF.head (by walk_at "my nes")) | (refine UpdF.tail (by walk_at "my ne") (by walk_at "my updF"))))
  (k_with "m eval Lambda" => ((k_here; k_dflt (refine kla_eval (by exact rfl) ?_); k_dflt (refine lam_make (h := ?_); k_whole); intro f9w of9w ps9w h9w tk9w F9w N9w cf9w t9w l9w; (try k_fold))))
  (k_with "m getMethod ref" => ((k_here; (with_reducible show wpAny _ _ (getMethod (Value.ref 43) (PySem.Str.ofString "sub") _) _ _ _); k_dflt (refine gm_sub (h := ?_)))))
  (k_with "m call builtin:re.Pattern.sub" => ((walk_at "my ga")))
  (k_with "m call builtin:re.Pattern.sub" => ((k_here; (with_reducible show wpAny _ _ (PySem.call (Value.builtin "re.Pattern.sub") [_, _, _]) _ _ _); k_dflt (refine sub_call (h := ?_)); intro h9w t9w tk9w F9w N9w; (try k_fold))))
  (k_with "m subscriptTail Name Name str int" => ((k_here; k_dflt (refine item_chr (h := ?_); k_whole))))
  (k_with "m call ref" => ((k_here; (with_reducible show wpAny _ _ (PySem.call (Value.ref 62) _) _ _ _); k_dflt (refine con_use (esc_con _ _ _ (by first | with_reducible assumption | decide)) (hp := by exact trivial) (ret := ?_)); walk_at "my back")))
  trivial
theorem truthy_snoc {prog : Program} {w : World} {A : Around} {E : Value → Shared → Prop} {s : Shared} {h₀ : Heap} {L l : Addr} {news : List (Addr × Obj)} {vs : List Value} {v : Value} {c : Nat} {Q : Bool → Shared → Prop}
    (N : News h₀ L s.heap news := by k_asm) (hm : (l, listOf (vs ++ [v]).toArray c) ∈ news := by walk_at "my mem") (hl : (vs ++ [v]).length ≤ 100000 := by with_reducible assumption) (h : Q true { s with toks := s.toks + 1 + 1 }) : wpAny (model prog w) A (truthy (.ref l)) Q E s := by
  refine wpAny_truthy_list (News.isList N hm) (by simp only [List.size_toArray]; lia) ?_
  have e : (!(vs ++ [v]).toArray.isEmpty) = true := by simp
  rw [e]
  exact h
theorem words63 : True := by
  (k_with "m truthy ref" => ((k_here; k_dflt (refine truthy_snoc (h := ?_); k_whole))))
  (k_with "m truthy ref" => (((with_reducible show wpAny _ _ (truthy (Prod.snd _)) _ _ _); dsimp only)))
  trivial
theorem PartsAre.last {star v : Value} {vs : List Value} {os : List (Option Str)} (h : PartsAre star (vs ++ [v]) os) : ∃ o, os.getLast? = some o ∧ PartV star o v := by
  have hl := h.1
  simp only [List.length_append, List.length_cons, List.length_nil] at hl
  have hne : os ≠ [] := by intro e; rw [e] at hl; simp at hl
  refine ⟨os.getLast hne, List.getLast?_eq_some_getLast hne, ?_⟩
  refine h.2 vs.length v _ (by simp) ?_
  rw [List.getLast_eq_getElem, List.getElem?_eq_getElem (by lia)]
  congr 2
  lia
theorem pStep_new {acc : List (Option Str)} {k : Nat} (h : prt k = none) (hn : acc.getLast? ≠ some none) : pStep acc k = acc ++ [none] := by unfold pStep; rw [h]; exact if_neg hn
theorem pStep_same {acc : List (Option Str)} {k : Nat} (h : prt k = none) (hn : acc.getLast? = some none) : pStep acc k = acc := by unfold pStep; rw [h]; exact if_pos hn
theorem pStep_len (acc : List (Option Str)) (k : Nat) : (pStep acc k).length ≤ acc.length + 1 := by
  unfold pStep
  split
  · simp
  · split <;> simp
theorem partsO_len' : ∀ (ks : List Nat) (acc : List (Option Str)), (ks.foldl pStep acc).length ≤ acc.length + ks.length
  | [], _ => by simp
  | k :: r, acc => by
    have := partsO_len' r (pStep acc k)
    have := pStep_len acc k
    simp only [List.foldl_cons, List.length_cons]
    lia
theorem partsO_len (ks : List Nat) : (partsO ks).length ≤ ks.length := by simpa [partsO] using partsO_len' ks []
theorem catL_snoc (done : List Nat) (k : Nat) : catL (done ++ [k]) = catL done ++ sgnL k := by simp [catL]
theorem partsO_snoc (done : List Nat) (k : Nat) : partsO (done ++ [k]) = pStep (partsO done) k := by simp [partsO]
theorem PartV.some {star : Value} {x : Str} {t : Tok} : PartV star (Option.some x) (.str x t) := ⟨t, rfl⟩
section
abbrev T (x : Str) : List Nat := x.cps.toList
theorem str_eq {x y : Str} (h : T x = T y) : x = y := by
  cases x with | mk a => cases y with | mk b => exact congrArg Str.mk (Array.toList_inj.mp h)
theorem T_len (x : Str) : x.length = (T x).length := by simp [Str.length, T]
noncomputable def stripL (l : List Nat) : List Nat :=
  let y := if l.head? = some 34 then l.tail else l
  if y.getLast? = some 34 then y.dropLast else y
noncomputable def deedL (l : List Nat) (d : Int) : List Nat := if d = 0 then 34 :: l else if d = 1 then l ++ [34] else stripL l
noncomputable def mk (n : Nat) : List Nat := List.replicate n 34
theorem mk_add (a b : Nat) : mk (a + b) = mk a ++ mk b := by simp [mk, List.replicate_append_replicate]
theorem mk_one : mk 1 = [34] := rfl
theorem strip_marks (n : Nat) : stripL (mk n) = mk (n - 2) := by
  match n with
  | 0 => rfl
  | 1 => rfl
  | n + 2 =>
    unfold stripL
    have e1 : (mk (n + 2)).head? = some 34 := rfl
    have e2 : (mk (n + 2)).tail = mk (n + 1) := rfl
    have e3 : mk (n + 1) = mk n ++ [34] := by rw [mk_add n 1, mk_one]
    simp only [e1, if_true, e2]
    rw [e3]
    simp
theorem strip_mid (a b : Nat) (M : List Nat) (h1 : ∃ c r, M = c :: r ∧ c ≠ 34) (h2 : ∃ r c, M = r ++ [c] ∧ c ≠ 34) : stripL (mk a ++ M ++ mk b) = mk (a - 1) ++ M ++ mk (b - 1) := by
  have tail : ∀ X : List Nat, (let y := X ++ M ++ mk b; if y.getLast? = some 34 then y.dropLast else y) = X ++ M ++ mk (b - 1) := by
    intro X
    obtain ⟨r, c, e, hc⟩ := h2
    match b with
    | 0 =>
      have : (X ++ M ++ mk 0).getLast? = some c := by rw [e]; simp [mk]
      simp only [this]
      rw [if_neg (by intro q; exact hc (Option.some.inj q))]
    | b + 1 =>
      have e2 : X ++ M ++ mk (b + 1) = (X ++ M ++ mk b) ++ [34] := by rw [mk_add b 1, mk_one]; simp
      simp only [e2]
      simp
  unfold stripL
  match a with
  | 0 =>
    obtain ⟨c, r, e, hc⟩ := h1
    have : (mk 0 ++ M ++ mk b).head? = some c := by rw [e]; simp [mk]
    have hne : (some c = some 34) = False := eq_false (by intro q; exact hc (Option.some.inj q))
    simp only [this, hne, if_false]
    exact tail (mk 0)
  | a + 1 =>
    have e1 : (mk (a + 1) ++ M ++ mk b).head? = some 34 := rfl
    have e2 : (mk (a + 1) ++ M ++ mk b).tail = mk a ++ M ++ mk b := rfl
    simp only [e1, if_true, e2]
    exact tail _
theorem deeds_marks : ∀ (ds : List Int) (n : Nat), (∀ d ∈ ds, 0 ≤ d ∧ d < 3) → ds.foldl deedL (mk n) = mk (leftZ n (ds.map w0)).toNat
  | [], n, _ => by simp [leftZ]
  | d :: r, n, h => by
    have hd := h d (.head _)
    have hr : ∀ d ∈ r, 0 ≤ d ∧ d < 3 := fun d hd => h d (.tail _ hd)
    have hc : d = 0 ∨ d = 1 ∨ d = 2 := by lia
    have e : ∃ n' : Nat, deedL (mk n) d = mk n' ∧ max ((n : Int) + w0 d) 0 = n' := by
      rcases hc with rfl | rfl | rfl
      · exact ⟨n + 1, rfl, by simp [w0]; lia⟩
      · refine ⟨n + 1, ?_, by simp [w0]; lia⟩
        rw [mk_add n 1, mk_one]; rfl
      · exact ⟨n - 2, strip_marks n, by simp [w0]; lia⟩
    obtain ⟨n', e1, e2⟩ := e
    rw [List.foldl_cons, e1, deeds_marks r n' hr]
    simp only [List.map_cons, leftZ, List.foldl_cons, e2]
theorem deeds_mid (M : List Nat) (h1 : ∃ c r, M = c :: r ∧ c ≠ 34) (h2 : ∃ r c, M = r ++ [c] ∧ c ≠ 34) : ∀ (ds : List Int) (a b : Nat), (∀ d ∈ ds, 0 ≤ d ∧ d < 3) →
    ds.foldl deedL (mk a ++ M ++ mk b) = mk (leftZ a (ds.map w1)).toNat ++ M ++ mk (leftZ b (ds.map w2)).toNat
  | [], a, b, _ => by simp [leftZ]
  | d :: r, a, b, h => by
    have hd := h d (.head _)
    have hr : ∀ d ∈ r, 0 ≤ d ∧ d < 3 := fun d hd => h d (.tail _ hd)
    have hc : d = 0 ∨ d = 1 ∨ d = 2 := by lia
    have e : ∃ a' b' : Nat, deedL (mk a ++ M ++ mk b) d = mk a' ++ M ++ mk b' ∧ max ((a : Int) + w1 d) 0 = a' ∧ max ((b : Int) + w2 d) 0 = b' := by
      rcases hc with rfl | rfl | rfl
      · exact ⟨a + 1, b, rfl, by simp [w1]; lia, by simp [w2]⟩
      · refine ⟨a, b + 1, ?_, by simp [w1], by simp [w2]; lia⟩
        rw [mk_add b 1, mk_one]; simp [deedL]
      · exact ⟨a - 1, b - 1, strip_mid a b M h1 h2, by simp [w1]; lia, by simp [w2]; lia⟩
    obtain ⟨a', b', e1, e2, e3⟩ := e
    rw [List.foldl_cons, e1, deeds_mid M h1 h2 r a' b' hr]
    simp only [List.map_cons, leftZ, List.foldl_cons, e2, e3]
theorem T_app (a b : Str) : T (a ++ b) = T a ++ T b := by
  show (Str.append a b).cps.toList = _
  unfold Str.append
  simp [T]
theorem T_q : T (Str.ofString "\"") = [34] := by decide
theorem T_nil {x : Str} (h : T x = []) : x = ⟨#[]⟩ := str_eq (by rw [h])
theorem T_slice1 (x : Str) : T (Txt.slice x (some 1) none) = (T x).tail := by
  cases h : T x with
  | nil => rw [T_nil h]; decide
  | cons c r =>
    have hl : x.cps.toList.length = r.length + 1 := by rw [show x.cps.toList = c :: r from h]; rfl
    show (StrLaws.sliceText x (some 1) none).cps.toList = _
    rw [StrLaws.sliceText_from ⟨by lia, by lia⟩]
    show (x.cps.toList.drop _).take _ = _
    rw [show x.cps.toList = c :: r from h]
    have e1 : (1 : Int).toNat = 1 := rfl
    rw [e1]
    simp only [List.drop_succ_cons, List.drop_zero, List.tail_cons]
    rw [List.take_of_length_le]
    simp
theorem T_slicem (x : Str) : T (Txt.slice x none (some (-1))) = (T x).dropLast := by
  cases h : T x with
  | nil => rw [T_nil h]; decide
  | cons c r =>
    have hl : x.length = r.length + 1 := by rw [T_len, h]; rfl
    show (StrLaws.sliceText x none (some (-1))).cps.toList = _
    rw [StrLaws.sliceText_neg_hi x none (by decide) (by lia), StrLaws.sliceText_to ⟨by lia, by rw [show x.cps.toList = c :: r from h]; simp only [List.length_cons]; lia⟩]
    show (x.cps.toList.drop _).take _ = _
    rw [show x.cps.toList = c :: r from h, List.drop_zero, List.dropLast_eq_take]
    congr 1
    simp only [List.length_cons]
    lia
theorem q_one : Str.ofString "\"" = ⟨#[34]⟩ := by decide
theorem starts_q (x : Str) : Txt.startswith x (Str.ofString "\"") = decide ((T x).head? = some 34) := by
  rw [Bool.eq_iff_iff, decide_eq_true_iff, q_one]
  have := StrLaws.subAt_one x 34 0
  unfold Txt.startswith
  rw [Bool.and_eq_true, decide_eq_true_iff, this, List.head?_eq_getElem?]
theorem ends_q (x : Str) : Txt.endswith x (Str.ofString "\"") = decide ((T x).getLast? = some 34) := by
  rw [Bool.eq_iff_iff, decide_eq_true_iff, q_one]
  have e1 : (⟨#[34]⟩ : Str).length = 1 := rfl
  unfold Txt.endswith
  rw [Bool.and_eq_true, decide_eq_true_iff, List.getLast?_eq_getElem?, e1]
  have := StrLaws.subAt_one x 34 (x.length - 1)
  rw [e1] at this
  rw [show (T x).length = x.length from (T_len x).symm, ← this]
  constructor
  · rintro ⟨h1, h2⟩; exact ⟨by lia, h2⟩
  · rintro ⟨h1, h2⟩; exact ⟨by lia, h2⟩
theorem T_strip (x : Str) : T (stripQ x) = stripL (T x) := by
  unfold stripQ stripL
  rw [starts_q]
  by_cases h : (T x).head? = some 34
  · simp only [h, decide_true, if_true]
    rw [ends_q, T_slice1]
    by_cases h2 : (T x).tail.getLast? = some 34
    · simp only [h2, decide_true, if_true]; rw [T_slicem, T_slice1]
    · simp only [h2, decide_false, Bool.false_eq_true, if_false]; rw [T_slice1]
  · simp only [h, decide_false, Bool.false_eq_true, if_false]
    rw [ends_q]
    by_cases h2 : (T x).getLast? = some 34
    · simp only [h2, decide_true, if_true]; rw [T_slicem]
    · simp only [h2, decide_false, Bool.false_eq_true, if_false]
theorem T_deed (x : Str) (d : Int) : T (deedS x d) = deedL (T x) d := by
  unfold deedS deedL
  split
  · rw [T_app, T_q]; rfl
  · split
    · rw [T_app, T_q]
    · exact T_strip x
theorem T_deeds : ∀ (ds : List Int) (x : Str), T (ds.foldl deedS x) = ds.foldl deedL (T x)
  | [], _ => rfl
  | d :: r, x => by rw [List.foldl_cons, T_deeds r, T_deed, List.foldl_cons]
-- the pieces' split
theorem places_of (p q : Nat) (mid : List Nat) (h1 : ∃ c r, mid = c :: r ∧ c ≠ 3) (h2 : ∃ r c, mid = r ++ [c] ∧ c ≠ 3) :
    ∃ l, places (List.replicate p 3 ++ mid ++ List.replicate q 3) = l ∧ (∃ r, l = p :: r) ∧ ∃ r, l = r ++ [p + mid.length - 1] := by
  refine ⟨_, rfl, ?_⟩
  have hpl : places (List.replicate p 3 ++ mid ++ List.replicate q 3) = ((List.range mid.length).filter fun i => mid.getD i 0 != 3).map (p + ·) := by
    unfold places
    have hn : (List.replicate p 3 ++ mid ++ List.replicate q 3).length = p + mid.length + q := by simp; lia
    rw [hn, List.range_add, List.range_add, List.filter_append, List.filter_append, List.filter_map, List.filter_map]
    have e1 : (List.range p).filter (fun i => (List.replicate p 3 ++ mid ++ List.replicate q 3).getD i 0 != 3) = [] := by
      rw [List.filter_eq_nil_iff]
      intro i hi
      have hi := List.mem_range.mp hi
      rw [List.getD_eq_getElem?_getD, List.append_assoc, List.getElem?_append_left (by simpa using hi)]
      simp [hi]
    have e3 : (List.range q).filter ((fun i => (List.replicate p 3 ++ mid ++ List.replicate q 3).getD i 0 != 3) ∘ fun x => p + mid.length + x) = [] := by
      rw [List.filter_eq_nil_iff]
      intro i hi
      have hi := List.mem_range.mp hi
      simp only [Function.comp_def]
      rw [List.getD_eq_getElem?_getD, List.getElem?_append_right (by simp)]
      simp [hi]
    have e2 : (List.range mid.length).filter ((fun i => (List.replicate p 3 ++ mid ++ List.replicate q 3).getD i 0 != 3) ∘ fun x => p + x) = (List.range mid.length).filter fun i => mid.getD i 0 != 3 := by
      apply List.filter_congr
      intro i hi
      have hi := List.mem_range.mp hi
      simp only [Function.comp_def]
      rw [List.getD_eq_getElem?_getD, List.append_assoc, List.getElem?_append_right (by simp), List.getElem?_append_left (by simp; lia), List.getD_eq_getElem?_getD]
      simp
    rw [e1, e2, e3]
    simp
  rw [hpl]
  constructor
  · obtain ⟨c, r, e, hc⟩ := h1
    subst e
    rw [List.length_cons, List.range_succ_eq_map, List.filter_cons]
    have : ((c :: r).getD 0 0 != 3) = true := by simpa using hc
    rw [if_pos this]
    exact ⟨_, rfl⟩
  · obtain ⟨r, c, e, hc⟩ := h2
    subst e
    rw [List.length_append, List.length_singleton, List.range_succ, List.filter_append, List.filter_cons]
    have : ((r ++ [c]).getD r.length 0 != 3) = true := by simpa using hc
    rw [if_pos this]
    refine ⟨_, by rw [List.map_append]; rfl⟩
theorem split_marks : ∀ ks : List Nat, ks = List.replicate ks.length 3 ∨ ∃ p mid q, ks = List.replicate p 3 ++ mid ++ List.replicate q 3 ∧ (∃ c r, mid = c :: r ∧ c ≠ 3) ∧ ∃ r c, mid = r ++ [c] ∧ c ≠ 3
  | [] => .inl rfl
  | k :: r => by
    rcases split_marks r with h | ⟨p, mid, q, e, ⟨c, r1, h1, hc⟩, h2⟩
    · by_cases hk : k = 3
      · subst hk; left; rw [List.length_cons, List.replicate_succ, ← h]
      · right
        refine ⟨0, [k], r.length, by rw [← h]; simp, ⟨k, [], rfl, hk⟩, ⟨[], k, rfl, hk⟩⟩
    · by_cases hk : k = 3
      · subst hk; right
        exact ⟨p + 1, mid, q, by rw [e]; rfl, ⟨c, r1, h1, hc⟩, h2⟩
      · right
        obtain ⟨r2, c2, h3, hc2⟩ := h2
        exact ⟨0, k :: (List.replicate p 3 ++ mid), q, by rw [e]; simp, ⟨k, _, rfl, hk⟩, ⟨k :: (List.replicate p 3 ++ r2), c2, by rw [h3]; simp, hc2⟩⟩
theorem told_marks (n : Nat) (ds : List Int) : told (List.replicate n 3) ds = List.replicate (leftZ n (ds.map w0)).toNat 3 := by
  have h : places (List.replicate n 3) = [] := by
    unfold places
    rw [List.filter_eq_nil_iff]
    intro i hi
    have hi : i < n := by simpa using hi
    rw [List.getD_eq_getElem?_getD]
    simp [hi]
  unfold told
  split
  · rw [List.length_replicate]
  · rename_i p r e; rw [h] at e; cases e
theorem told_mid (p q : Nat) (mid : List Nat) (h1 : ∃ c r, mid = c :: r ∧ c ≠ 3) (h2 : ∃ r c, mid = r ++ [c] ∧ c ≠ 3) (ds : List Int) :
    told (List.replicate p 3 ++ mid ++ List.replicate q 3) ds = List.replicate (leftZ p (ds.map w1)).toNat 3 ++ mid ++ List.replicate (leftZ q (ds.map w2)).toNat 3 := by
  obtain ⟨l, e, ⟨r, e1⟩, r', e2⟩ := places_of p q mid h1 h2
  have hm : 0 < mid.length := by obtain ⟨c, r, e, _⟩ := h1; rw [e]; simp
  unfold told
  split
  · rename_i e3; rw [e, e1] at e3; cases e3
  · rename_i p' r2 e3
    rw [e, e1] at e3
    injection e3 with e4 e5
    subst e4
    subst e5
    have hlast : (p :: r).getLast (by simp) = p + mid.length - 1 := by
      have : (p :: r).getLast? = some (p + mid.length - 1) := by rw [← e1, e2]; simp
      rw [List.getLast?_eq_some_getLast (by simp)] at this
      exact Option.some.inj this
    rw [hlast]
    have hlen : (List.replicate p 3 ++ mid ++ List.replicate q 3).length = p + mid.length + q := by simp; lia
    have hdr : (List.replicate p 3 ++ mid ++ List.replicate q 3).drop p = mid ++ List.replicate q 3 := by
      rw [List.append_assoc, List.drop_left' (by simp)]
    rw [hdr, hlen]
    have et : p + mid.length - 1 + 1 - p = mid.length := by lia
    rw [et, List.take_left' rfl]
    have ez : ((p + mid.length + q : Nat) : Int) - 1 - ((p + mid.length - 1 : Nat) : Int) = (q : Int) := by lia
    rw [ez]
theorem catL_app (a b : List Nat) : catL (a ++ b) = catL a ++ catL b := by simp [catL]
theorem catL_marks : ∀ n : Nat, catL (List.replicate n 3) = mk n
  | 0 => rfl
  | n + 1 => by
    have e : catL (List.replicate (n + 1) 3) = sgnL 3 ++ catL (List.replicate n 3) := by simp [catL, List.replicate_succ]
    rw [e, catL_marks n]; rfl
theorem sgn_head (k : Nat) (h : k ≠ 3) : ∃ c r, sgnL k = c :: r ∧ c ≠ 34 := by
  match k, h with
  | 0, _ | 1, _ | 2, _ | 4, _ | 5, _ | 6, _ | 7, _ | 8, _ | 9, _ | 10, _ => exact ⟨_, _, rfl, by decide⟩
  | 3, h => exact absurd rfl h
  | _ + 11, _ => exact ⟨_, _, rfl, by decide⟩
theorem sgn_last (k : Nat) (h : k ≠ 3) : ∃ r c, sgnL k = r ++ [c] ∧ c ≠ 34 := by
  match k, h with
  | 0, _ => exact ⟨[], _, rfl, by decide⟩
  | 1, _ => exact ⟨[], _, rfl, by decide⟩
  | 2, _ => exact ⟨[], _, rfl, by decide⟩
  | 4, _ => exact ⟨[], _, rfl, by decide⟩
  | 9, _ => exact ⟨[], _, rfl, by decide⟩
  | 10, _ => exact ⟨[], _, rfl, by decide⟩
  | 5, _ => exact ⟨[91, 97, 45, 99], _, rfl, by decide⟩
  | 6, _ => exact ⟨[91, 33, 97], _, rfl, by decide⟩
  | 7, _ => exact ⟨[91, 34], _, rfl, by decide⟩
  | 8, _ => exact ⟨[91, 99, 45, 97], _, rfl, by decide⟩
  | 3, h => exact absurd rfl h
  | _ + 11, _ => exact ⟨[91, 33, 99, 45, 97], _, rfl, by decide⟩
/-- the deeds over the pattern -/
theorem left_told (ks : List Nat) (ds : List Int) (hds : ∀ d ∈ ds, 0 ≤ d ∧ d < 3) (x : Str) (hx : T x = catL ks) : T (ds.foldl deedS x) = catL (told ks ds) := by
  rw [T_deeds, hx]
  rcases split_marks ks with h | ⟨p, mid, q, rfl, h1, h2⟩
  · rw [h, told_marks, catL_marks, catL_marks, deeds_marks ds _ hds]
  · rw [told_mid p q mid h1 h2, catL_app, catL_app, catL_marks, catL_marks, catL_app, catL_app, catL_marks, catL_marks]
    refine deeds_mid _ ?_ ?_ ds p q hds
    · obtain ⟨c, r, e, hc⟩ := h1
      obtain ⟨c', r', e', hc'⟩ := sgn_head c hc
      exact ⟨c', r' ++ catL r, by rw [e]; simp [catL, e'], hc'⟩
    · obtain ⟨r, c, e, hc⟩ := h2
      obtain ⟨r', c', e', hc'⟩ := sgn_last c hc
      exact ⟨catL r ++ r', c', by rw [e]; simp [catL, e'], hc'⟩
end
section
abbrev J (xs : List Str) : Str := Txt.join (Str.ofString "") xs
theorem T_J (xs : List Str) : T (J xs) = (xs.map T).flatten := join_cps xs
theorem J_app (a b : List Str) : J (a ++ b) = J a ++ J b := str_eq (by rw [T_app, T_J, T_J, T_J, List.map_append, List.flatten_append])
theorem J_nil : J [] = Str.ofString "" := by decide
theorem J_one (x : Str) : J [x] = x := str_eq (by rw [T_J]; simp)
theorem str_assoc (a b c : Str) : a ++ b ++ c = a ++ (b ++ c) := str_eq (by rw [T_app, T_app, T_app, T_app, List.append_assoc])
theorem T_emp : T (Str.ofString "") = [] := by decide
theorem str_emp_app (a : Str) : Str.ofString "" ++ a = a := str_eq (by rw [T_app, T_emp]; rfl)
theorem str_app_emp (a : Str) : a ++ Str.ofString "" = a := str_eq (by rw [T_app, T_emp, List.append_nil])
theorem prt_ne {k : Nat} {x : Str} (h : prt k = some x) : x ≠ Str.ofString "" := by
  match k, h with
  | 0, h => cases h
  | 1, h | 2, h | 3, h | 4, h | 5, h | 6, h | 7, h | 8, h | 9, h | 10, h | _ + 11, h => cases h; decide
theorem J_ne {g : List Str} (hg : g ≠ []) (hx : ∀ x ∈ g, x ≠ Str.ofString "") : J g ≠ Str.ofString "" := by
  cases g with
  | nil => exact absurd rfl hg
  | cons x r =>
    intro e
    have h1 := congrArg T e
    rw [T_J, T_emp] at h1
    simp only [List.map_cons, List.flatten_cons, List.append_eq_nil_iff] at h1
    exact hx x (.head _) (str_eq (by rw [h1.1, T_emp]))
theorem flatO_snoc (gs : List (List Str)) (g : List Str) : flatO (gs ++ [g]) = flatO gs ++ (none :: g.map some) := by simp [flatO]
theorem segsOk_snoc : ∀ (gs : List (List Str)) (g : List Str), segsOk (gs ++ [g]) ↔ ∀ y ∈ gs, y ≠ []
  | [], g => by simp [segsOk]
  | [a], g => by simp [segsOk]
  | a :: b :: r, g => by
    have := segsOk_snoc (b :: r) g
    simp only [List.cons_append] at this ⊢
    simp only [segsOk]
    rw [this]
    simp
noncomputable def PInv (P : List (Option Str)) (s : List Str × Str) (pre : List Str) (segs : List (List Str)) : Prop :=
  P = pre.map some ++ flatO segs ∧ segsOk segs ∧ (∀ g ∈ segs, ∀ x ∈ g, x ≠ Str.ofString "") ∧
    ((segs = [] ∧ s.1 = [] ∧ s.2 = J pre) ∨ ∃ gs g, segs = gs ++ [g] ∧ s.1 = J pre :: gs.map J ∧ s.2 = J g)
theorem PInv.step {P : List (Option Str)} {s : List Str × Str} {pre : List Str} {segs : List (List Str)} (k : Nat) (h : PInv P s pre segs) : ∃ pre' segs', PInv (pStep P k) (eStep s k) pre' segs' := by
  obtain ⟨hP, hok, hne, hc⟩ := h
  cases hk : prt k with
  | some x =>
    have e1 : pStep P k = P ++ [some x] := pStep_some hk
    have e2 : eStep s k = (s.1, s.2 ++ x) := by unfold eStep; rw [hk]
    rw [e1, e2]
    rcases hc with ⟨rfl, h1, h2⟩ | ⟨gs, g, rfl, h1, h2⟩
    · refine ⟨pre ++ [x], [], ?_, trivial, (fun _ h => nomatch h), .inl ⟨rfl, h1, ?_⟩⟩
      · rw [hP]; simp [flatO]
      · rw [J_app, J_one, h2]
    · refine ⟨pre, gs ++ [g ++ [x]], ?_, ?_, ?_, .inr ⟨gs, g ++ [x], rfl, h1, ?_⟩⟩
      · rw [hP, flatO_snoc, flatO_snoc]; simp
      · exact (segsOk_snoc _ _).mpr ((segsOk_snoc _ _).mp hok)
      · intro g' hg' y hy
        rcases List.mem_append.mp hg' with hg' | hg'
        · exact hne g' (List.mem_append_left _ hg') y hy
        · have : g' = g ++ [x] := by simpa using hg'
          subst this
          rcases List.mem_append.mp hy with hy | hy
          · exact hne g (List.mem_append_right _ (.head _)) y hy
          · have : y = x := by simpa using hy
            subst this
            exact prt_ne hk
      · rw [J_app, J_one, h2]
  | none =>
    rcases hc with ⟨rfl, h1, h2⟩ | ⟨gs, g, rfl, h1, h2⟩
    · have e1 : pStep P k = P ++ [none] := pStep_new hk (by
        rw [hP]
        intro q
        have : (pre.map some).getLast? = some (none : Option Str) := by simpa [flatO] using q
        have hm := List.mem_of_getLast? this
        simp at hm)
      have e2 : eStep s k = (s.1 ++ [s.2], Str.ofString "") := by unfold eStep; rw [hk]; exact if_pos (.inl h1)
      rw [e1, e2]
      refine ⟨pre, [[]], ?_, trivial, ?_, .inr ⟨[], [], rfl, ?_, ?_⟩⟩
      · rw [hP]; simp [flatO]
      · intro g hg x hx
        have : g = [] := by simpa using hg
        subst this; cases hx
      · show s.1 ++ [s.2] = _
        rw [h1, h2]; rfl
      · exact J_nil.symm
    · by_cases hg : g = []
      · subst hg
        have e1 : pStep P k = P := pStep_same hk (by rw [hP, flatO_snoc]; simp)
        have e2 : eStep s k = s := by
          unfold eStep; rw [hk]
          refine if_neg ?_
          rintro (q | q)
          · rw [h1] at q; cases q
          · exact q (by rw [h2, J_nil])
        rw [e1, e2]
        exact ⟨pre, gs ++ [[]], hP, hok, hne, .inr ⟨gs, [], rfl, h1, h2⟩⟩
      · have hgx := hne g (List.mem_append_right _ (.head _))
        have e1 : pStep P k = P ++ [none] := pStep_new hk (by
          rw [hP, flatO_snoc]
          intro q
          rcases List.eq_nil_or_concat g with h0 | ⟨g', x, h0⟩
          · exact hg h0
          · have e : pre.map some ++ (flatO gs ++ none :: g.map some) = (pre.map some ++ (flatO gs ++ none :: g'.map some)) ++ [some x] := by rw [h0, List.concat_eq_append]; simp
            rw [e, List.getLast?_concat] at q
            cases q)
        have e2 : eStep s k = (s.1 ++ [s.2], Str.ofString "") := by
          unfold eStep; rw [hk]; exact if_pos (.inr (by rw [h2]; exact J_ne hg hgx))
        rw [e1, e2]
        refine ⟨pre, gs ++ [g] ++ [[]], ?_, ?_, ?_, .inr ⟨gs ++ [g], [], rfl, ?_, J_nil.symm⟩⟩
        · rw [hP, flatO_snoc (gs ++ [g])]; simp
        · refine (segsOk_snoc _ _).mpr fun y hy => ?_
          rcases List.mem_append.mp hy with hy | hy
          · exact (segsOk_snoc _ _).mp hok y hy
          · have : y = g := by simpa using hy
            subst this; exact hg
        · intro g' hg' x hx
          rcases List.mem_append.mp hg' with hg' | hg'
          · exact hne g' hg' x hx
          · have : g' = [] := by simpa using hg'
            subst this; cases hx
        · show s.1 ++ [s.2] = _
          rw [h1, h2]; simp
theorem parts_inv : ∀ (ks : List Nat) (P : List (Option Str)) (s : List Str × Str) (pre : List Str) (segs : List (List Str)), PInv P s pre segs → ∃ pre' segs', PInv (ks.foldl pStep P) (ks.foldl eStep s) pre' segs'
  | [], _, _, pre, segs, h => ⟨pre, segs, h⟩
  | k :: r, P, s, pre, segs, h => by
    obtain ⟨pre', segs', h'⟩ := h.step k
    exact parts_inv r _ _ _ _ h'
theorem outS_snoc : ∀ (gs : List (List Str)) (g : List Str), J (outS (gs ++ [g])) = J ((gs.map J).map wrapS) ++ Str.ofString ".*" ++ J g
  | [], g => by
    simp only [List.nil_append, outS, List.map_nil]
    rw [J_nil, str_emp_app]
    split
    · rename_i h; rw [h, J_nil, J_one, str_app_emp]
    · rw [show ([Str.ofString ".*", Txt.join (Str.ofString "") g] : List Str) = [Str.ofString ".*"] ++ [J g] from rfl, J_app, J_one, J_one]
  | [a], g => by
    simp only [List.cons_append, List.nil_append, outS, List.map_cons, List.map_nil]
    rw [J_one]
    have ih := outS_snoc [] g
    simp only [List.nil_append, outS, List.map_nil] at ih
    rw [show ∀ (y : Str) (l : List Str), (y :: l) = [y] ++ l from fun _ _ => rfl, J_app, J_one, ih, J_nil, str_emp_app, ← str_assoc]
  | a :: b :: r, g => by
    have ih := outS_snoc (b :: r) g
    simp only [List.cons_append, List.map_cons] at ih ⊢
    simp only [outS]
    rw [show ∀ (y : Str) (l : List Str), (y :: l) = [y] ++ l from fun _ _ => rfl, J_app, J_one, ih]
    rw [show (wrapS (J a) :: wrapS (J b) :: List.map wrapS (List.map J r)) = [wrapS (J a)] ++ (wrapS (J b) :: List.map wrapS (List.map J r)) from rfl, J_app, J_one, str_assoc, str_assoc, str_assoc]
/-- the parts of _translate and the expression -/
theorem parts_expr (ks : List Nat) : ∃ pre segs, partsO ks = pre.map some ++ flatO segs ∧ segsOk segs ∧ joinedS pre segs = Str.ofString "(?s:" ++ exprS ks ++ Str.ofString ")\\Z" ∧
    (pre.map Str.length).sum + (segs.map fun g => (g.map Str.length).sum).sum ≤ 5 * ks.length := by
  obtain ⟨pre, segs, hP, hok, hne, hc⟩ := parts_inv ks [] ([], Str.ofString "") [] [] ⟨rfl, trivial, (fun _ h => nomatch h), .inl ⟨rfl, rfl, J_nil.symm⟩⟩
  have hJ : ∀ g : List Str, (J g).length = (g.map Str.length).sum := fun g => join_len g
  have hb := eRun_bound ks
  refine ⟨pre, segs, hP, hok, ?_, ?_⟩
  · show Str.ofString "(?s:" ++ J (pre ++ outS segs) ++ Str.ofString ")\\Z" = _
    rw [J_app]
    congr 2
    unfold exprS eRun
    rcases hc with ⟨rfl, h1, h2⟩ | ⟨gs, g, rfl, h1, h2⟩
    · rw [h1, h2]
      show J pre ++ J (outS []) = J pre
      rw [outS, J_nil, str_app_emp]
    · rw [h1, h2, outS_snoc]
      show _ = J pre ++ J ((gs.map J).map wrapS) ++ Str.ofString ".*" ++ J g
      rw [str_assoc, str_assoc, str_assoc]
  · unfold eRun at hb
    rcases hc with ⟨rfl, h1, h2⟩ | ⟨gs, g, rfl, h1, h2⟩
    · rw [h1, h2, hJ] at hb
      simpa using hb.2
    · rw [h1, h2, hJ] at hb
      simp only [List.map_cons, List.map_map, List.sum_cons, hJ, Function.comp_def] at hb
      simp only [List.map_append, List.sum_append, List.map_cons, List.map_nil, List.sum_cons, List.sum_nil]
      lia
-- the expression's own shape
noncomputable def eL (s : List (List Nat) × List Nat) (k : Nat) : List (List Nat) × List Nat :=
  match prt k with
  | some x => (s.1, s.2 ++ T x)
  | none => if s.1 = [] ∨ s.2 ≠ [] then (s.1 ++ [s.2], []) else s
noncomputable def wL (x : List Nat) : List Nat := T (Str.ofString "(?>.*?") ++ x ++ T (Str.ofString ")")
noncomputable def xL (s : List (List Nat) × List Nat) : List Nat := match s.1 with
  | [] => s.2
  | f :: r => f ++ (r.map wL).flatten ++ T (Str.ofString ".*") ++ s.2
noncomputable def mapT (s : List Str × Str) : List (List Nat) × List Nat := (s.1.map T, T s.2)
theorem eL_eq (s : List Str × Str) (k : Nat) : mapT (eStep s k) = eL (mapT s) k := by
  unfold eStep eL mapT
  cases prt k with
  | some x => simp only [T_app]
  | none =>
    have e1 : (s.1.map T = []) = (s.1 = []) := by simp
    have e2 : (T s.2 ≠ []) = (s.2 ≠ Str.ofString "") := by
      apply propext
      constructor
      · intro h e; exact h (by rw [e, T_emp])
      · intro h e; exact h (str_eq (by rw [e, T_emp]))
    simp only [e1, e2]
    split
    · simp [T_emp]
    · rfl
theorem eL_run : ∀ (ks : List Nat) (s : List Str × Str), mapT (ks.foldl eStep s) = ks.foldl eL (mapT s)
  | [], _ => rfl
  | k :: r, s => by rw [List.foldl_cons, eL_run r, eL_eq, List.foldl_cons]
theorem T_expr (ks : List Nat) : T (exprS ks) = xL (ks.foldl eL ([], [])) := by
  have h := eL_run ks ([], Str.ofString "")
  have e0 : mapT ([], Str.ofString "") = ([], []) := by simp [mapT, T_emp]
  rw [e0] at h
  rw [← h]
  unfold exprS eRun xL mapT
  cases (ks.foldl eStep ([], Str.ofString "")).1 with
  | nil => rfl
  | cons f r =>
    simp only [List.map_cons]
    rw [T_app, T_app, T_app, T_J]
    congr 3
    rw [List.map_map, List.map_map]
    congr 1
    apply List.map_congr_left
    intro x _
    simp only [Function.comp_def, wrapS, wL, T_app]
noncomputable def RL (m : List Nat) (s s' : List (List Nat) × List Nat) : Prop := (s.1 = [] ∧ s' = ([], m ++ s.2)) ∨ ∃ f r, s.1 = f :: r ∧ s' = ((m ++ f) :: r, s.2)
theorem RL.step {m : List Nat} {s s' : List (List Nat) × List Nat} (h : RL m s s') (k : Nat) : RL m (eL s k) (eL s' k) := by
  unfold eL
  rcases h with ⟨h1, rfl⟩ | ⟨f, r, h1, rfl⟩
  · cases prt k with
    | some x => exact .inl ⟨h1, by simp⟩
    | none =>
      simp only [h1, true_or, if_true]
      exact .inr ⟨s.2, [], by simp, by simp⟩
  · cases prt k with
    | some x => exact .inr ⟨f, r, h1, rfl⟩
    | none =>
      simp only [h1, reduceCtorEq, false_or]
      by_cases h2 : s.2 = []
      · simp only [h2, ne_eq, not_true_eq_false, if_false]
        exact .inr ⟨f, r, h1, by rw [h2]⟩
      · simp only [ne_eq, h2, not_false_eq_true, if_true]
        exact .inr ⟨f, r ++ [s.2], by simp, by simp⟩
theorem RL.run {m : List Nat} : ∀ (ks : List Nat) {s s' : List (List Nat) × List Nat}, RL m s s' → RL m (ks.foldl eL s) (ks.foldl eL s')
  | [], _, _, h => h
  | k :: r, _, _, h => RL.run r (h.step k)
theorem RL.out {m : List Nat} {s s' : List (List Nat) × List Nat} (h : RL m s s') : xL s' = m ++ xL s := by
  unfold xL
  rcases h with ⟨h1, rfl⟩ | ⟨f, r, h1, rfl⟩
  · rw [h1]
  · rw [h1]; simp
theorem eL_marks : ∀ (q : Nat) (s : List (List Nat) × List Nat), (List.replicate q 3).foldl eL s = (s.1, s.2 ++ mk q)
  | 0, s => by simp [mk]
  | q + 1, s => by
    rw [List.replicate_succ, List.foldl_cons, eL_marks q]
    have : eL s 3 = (s.1, s.2 ++ [34]) := by unfold eL; rfl
    rw [this]
    simp [mk, List.replicate_succ]
theorem xL_app (s : List (List Nat) × List Nat) (y : List Nat) : xL (s.1, s.2 ++ y) = xL s ++ y := by
  unfold xL
  cases s.1 with
  | nil => rfl
  | cons f r => simp
theorem expr_marks (p q : Nat) (mid : List Nat) : T (exprS (List.replicate p 3 ++ mid ++ List.replicate q 3)) = mk p ++ T (exprS mid) ++ mk q := by
  rw [T_expr, T_expr, List.foldl_append, List.foldl_append, eL_marks, eL_marks, xL_app]
  congr 1
  have h : RL (mk p) ([], []) ([], [] ++ mk p) := .inl ⟨rfl, by simp⟩
  exact (h.run mid).out
theorem prt_head {k : Nat} {x : Str} (h : prt k = some x) (hk : k ≠ 3) : (∃ c r, T x = c :: r ∧ c ≠ 34) ∧ ∃ r c, T x = r ++ [c] ∧ c ≠ 34 := by
  match k, h, hk with
  | 0, h, _ => cases h
  | 3, _, hk => exact absurd rfl hk
  | 1, h, _ => cases h; exact ⟨⟨46, [], by decide, by decide⟩, [], 46, by decide, by decide⟩
  | 2, h, _ => cases h; exact ⟨⟨97, [], by decide, by decide⟩, [], 97, by decide, by decide⟩
  | 4, h, _ => cases h; exact ⟨⟨92, [46], by decide, by decide⟩, [92], 46, by decide, by decide⟩
  | 5, h, _ => cases h; exact ⟨⟨91, [97, 45, 99, 93], by decide, by decide⟩, [91, 97, 45, 99], 93, by decide, by decide⟩
  | 6, h, _ => cases h; exact ⟨⟨91, [94, 97, 93], by decide, by decide⟩, [91, 94, 97], 93, by decide, by decide⟩
  | 7, h, _ => cases h; exact ⟨⟨91, [34, 93], by decide, by decide⟩, [91, 34], 93, by decide, by decide⟩
  | 8, h, _ => cases h; exact ⟨⟨40, [63, 33, 41], by decide, by decide⟩, [40, 63, 33], 41, by decide, by decide⟩
  | 9, h, _ => cases h; exact ⟨⟨92, [93], by decide, by decide⟩, [92], 93, by decide, by decide⟩
  | 10, h, _ => cases h; exact ⟨⟨92, [45], by decide, by decide⟩, [92], 45, by decide, by decide⟩
  | _ + 11, h, _ => cases h; exact ⟨⟨46, [], by decide, by decide⟩, [], 46, by decide, by decide⟩
theorem eL_keeps : ∀ (ks : List Nat) (s : List (List Nat) × List Nat) (r : List (List Nat)), s.1 = [] :: r → ∃ r', (ks.foldl eL s).1 = [] :: r'
  | [], _, r, h => ⟨r, h⟩
  | k :: ks, s, r, h => by
    rw [List.foldl_cons]
    have : ∃ r', (eL s k).1 = [] :: r' := by
      unfold eL
      cases prt k with
      | some x => exact ⟨r, h⟩
      | none =>
        show ∃ r', (if s.1 = [] ∨ s.2 ≠ [] then (s.1 ++ [s.2], []) else s).1 = [] :: r'
        by_cases hc : s.1 = [] ∨ s.2 ≠ []
        · rw [if_pos hc]; exact ⟨r ++ [s.2], by simp [h]⟩
        · rw [if_neg hc]; exact ⟨r, h⟩
    obtain ⟨r', h'⟩ := this
    exact eL_keeps ks _ r' h'
theorem expr_head {mid : List Nat} (h : ∃ c r, mid = c :: r ∧ c ≠ 3) : ∃ c r, T (exprS mid) = c :: r ∧ c ≠ 34 := by
  obtain ⟨k, r, rfl, hk⟩ := h
  rw [T_expr, List.foldl_cons]
  cases hp : prt k with
  | some x =>
    obtain ⟨⟨c, x', e, hc⟩, _⟩ := prt_head hp hk
    have e1 : eL ([], []) k = ([], T x) := by unfold eL; rw [hp]; rfl
    rw [e1]
    have h0 : RL (T x) ([], []) ([], T x) := .inl ⟨rfl, by simp⟩
    rw [(h0.run r).out, e]
    exact ⟨c, _, rfl, hc⟩
  | none =>
    have e1 : eL ([], []) k = ([[]], []) := by unfold eL; rw [hp]; rfl
    rw [e1]
    obtain ⟨r', h'⟩ := eL_keeps r ([[]], []) [] rfl
    unfold xL
    rw [h']
    cases r' with
    | nil => exact ⟨46, _, rfl, by decide⟩
    | cons a b => exact ⟨40, _, rfl, by decide⟩
theorem expr_last {mid : List Nat} (h : ∃ r c, mid = r ++ [c] ∧ c ≠ 3) : ∃ r c, T (exprS mid) = r ++ [c] ∧ c ≠ 34 := by
  obtain ⟨r, k, rfl, hk⟩ := h
  rw [T_expr, List.foldl_append, List.foldl_cons, List.foldl_nil]
  generalize r.foldl eL ([], []) = s
  cases hp : prt k with
  | some x =>
    obtain ⟨_, x', c, e, hc⟩ := prt_head hp hk
    have e1 : eL s k = (s.1, s.2 ++ T x) := by unfold eL; rw [hp]
    rw [e1, xL_app, e, ← List.append_assoc]
    exact ⟨_, c, rfl, hc⟩
  | none =>
    have e1 : ∃ f r', eL s k = (f :: r', []) := by
      unfold eL; rw [hp]
      by_cases hc : s.1 = [] ∨ s.2 ≠ []
      · refine ⟨(s.1 ++ [s.2]).head (by simp), (s.1 ++ [s.2]).tail, ?_⟩
        simp only [if_pos hc]
        rw [List.cons_head_tail]
      · simp only [if_neg hc]
        obtain ⟨a, b⟩ := s
        simp only [not_or, ne_eq, Classical.not_not] at hc
        obtain ⟨h1, h2⟩ := hc
        subst h2
        cases a with
        | nil => exact absurd rfl h1
        | cons f r' => exact ⟨f, r', rfl⟩
    obtain ⟨f, r', e1⟩ := e1
    rw [e1]
    have e2 : T (Str.ofString ".*") = [46] ++ [42] := by decide
    refine ⟨f ++ (r'.map wL).flatten ++ [46], 42, ?_, by decide⟩
    unfold xL
    simp only [List.append_nil]
    rw [e2]
    simp
theorem expr_allmarks (n : Nat) : T (exprS (List.replicate n 3)) = mk n := by
  have := expr_marks n 0 []
  have e : T (exprS []) = [] := by decide
  simp only [List.append_nil, List.replicate_zero] at this
  rw [this, e]; simp [mk]
/-- the deeds over the expression -/
theorem expr_told (ks : List Nat) (ds : List Int) (hds : ∀ d ∈ ds, 0 ≤ d ∧ d < 3) : ds.foldl deedS (exprS ks) = exprS (told ks ds) := by
  apply str_eq
  rw [T_deeds]
  rcases split_marks ks with h | ⟨p, mid, q, rfl, h1, h2⟩
  · rw [h, told_marks, expr_allmarks, expr_allmarks, deeds_marks ds _ hds]
  · rw [told_mid p q mid h1 h2, expr_marks, expr_marks]
    exact deeds_mid _ (expr_head h1) (expr_last h2) ds p q hds
/-- what lies within the frame -/
theorem within_expr (x : Str) : Txt.slice (Str.ofString "(?s:" ++ x ++ Str.ofString ")\\Z") (some 4) (some (-3)) = x := by
  apply str_eq
  have e1 : T (Str.ofString "(?s:") = [40, 63, 115, 58] := by decide
  have e2 : T (Str.ofString ")\\Z") = [41, 92, 90] := by decide
  have hT : T (Str.ofString "(?s:" ++ x ++ Str.ofString ")\\Z") = [40, 63, 115, 58] ++ T x ++ [41, 92, 90] := by rw [T_app, T_app, e1, e2]
  generalize hy : Str.ofString "(?s:" ++ x ++ Str.ofString ")\\Z" = y at hT
  have hl : y.length = (T x).length + 7 := by rw [T_len, hT]; simp
  have hl2 : y.cps.toList.length = (T x).length + 7 := by rw [show y.cps.toList = _ from hT]; simp
  show (StrLaws.sliceText y (some 4) (some (-3))).cps.toList = _
  rw [StrLaws.sliceText_neg_hi y (some 4) (by decide) (by lia), StrLaws.sliceText_plain ⟨by decide, by lia, by lia⟩]
  show (y.cps.toList.drop _).take _ = _
  rw [show y.cps.toList = _ from hT, hl]
  have e3 : (4 : Int).toNat = 4 := rfl
  have e4 : ((-3 : Int) + (((T x).length + 7 : Nat) : Int) - 4).toNat = (T x).length := by lia
  rw [e3, e4]
  show ((T x ++ [41, 92, 90])).take _ = _
  rw [List.take_left' rfl]
end
noncomputable def IsI (i : Int) (v : Value) : Prop := ∃ t, v = .int i t
noncomputable def IsS (x : Str) (v : Value) : Prop := ∃ t, v = .str x t
/-- a pure expression: it gives a value of P and changes nothing but the count of tokens -/
noncomputable def Ev (prog : Program) (w : World) (A : Around) (env : Env) (h₀ : Heap) (L : Addr) (m : Str → Option Value) (e : PySem.Expr) (P : Value → Prop) : Prop :=
  ∀ (s : Shared) (Q E : Value → Shared → Prop), Fr h₀ L s.heap m → (∀ v tk, P v → Q v { s with toks := tk }) → wpAny (model prog w) A (eval e env) Q E s
/-- a pure test -/
noncomputable def EvB (prog : Program) (w : World) (A : Around) (env : Env) (h₀ : Heap) (L : Addr) (m : Str → Option Value) (e : PySem.Expr) (b : Bool) : Prop :=
  ∀ (s : Shared) (Q : Bool → Shared → Prop) (E : Value → Shared → Prop), Fr h₀ L s.heap m → (∀ tk, Q b { s with toks := tk }) → wpAny (model prog w) A (isTrue e env (eval e env)) Q E s
section
variable {prog : Program} {w : World} {A : Around} {h₀ : Heap} {L a : Addr} {m : Str → Option Value} {cn : Str} {cs : Scope} {ccd : Value} {cl : List (Str × Addr)} {env : Env} {e e1 e2 : PySem.Expr} {pos : Pos} {i j : Int} {x y z : Str} {t : Tok} {b c : Bool}
theorem Ev.name {v : Value} {P : Value → Prop} (hv : m x = some v) (hp : P v) (hk : cs.kind = .function := by rfl) (hx : (envX cn cs L a ccd cl).kindOf x = some .local := by rfl) (hd : (x == ("__debug__" : Str)) = false := by decide) :
    Ev prog w A (envX cn cs L a ccd cl) h₀ L m (.Name x pos) P := fun s _ _ F h => nameX_L F hv (h v s.toks hp) hk hx hd
theorem Ev.int {k : Nat} : Ev prog w A env h₀ L m (.Constant (.int i) k pos) (IsI i) := fun _ _ _ _ h => wpAny_Constant_int (h _ _ ⟨_, rfl⟩)
theorem Ev.str {k : Nat} : Ev prog w A env h₀ L m (.Constant (.str x) k pos) (IsS x) := fun _ _ _ _ h => Calls.Constant_str (h _ _ ⟨_, rfl⟩)
theorem Ev.add (ha : Ev prog w A env h₀ L m e1 (IsI i)) (hb : Ev prog w A env h₀ L m e2 (IsI j)) : Ev prog w A env h₀ L m (.BinOp e1 .Add e2 pos) (IsI (i + j)) :=
  fun _ _ _ F h => wpAny_BinOp (ha _ _ _ F fun _ _ ⟨_, e1⟩ => e1 ▸ hb _ _ _ F fun _ _ ⟨_, e2⟩ => e2 ▸ add_int (h _ _ ⟨_, rfl⟩))
theorem EvB.lt (ha : Ev prog w A env h₀ L m e1 (IsI i)) (hb : Ev prog w A env h₀ L m e2 (IsI j)) (hc : decide (i < j) = c) (hm : behindInMarks .Lt e2 = false := by with_unfolding_all rfl) : EvB prog w A env h₀ L m (.Compare e1 [.Lt] [e2] pos) c :=
  fun _ _ _ F h => wpAny_isTrue_Compare1 (ha _ _ _ F fun _ _ ⟨_, e1⟩ => e1 ▸ hb _ _ _ F fun _ _ ⟨_, e2⟩ => e2 ▸ lt_int (wpAny_truthy_bool (hc ▸ h _))) hm
theorem EvB.eqs (ha : Ev prog w A env h₀ L m e1 (IsS x)) (hb : Ev prog w A env h₀ L m e2 (IsS y)) (hc : (x == y) = c) (hm : behindInMarks .Eq e2 = false := by with_unfolding_all rfl) : EvB prog w A env h₀ L m (.Compare e1 [.Eq] [e2] pos) c :=
  fun _ _ _ F h => wpAny_isTrue_Compare1 (ha _ _ _ F fun _ _ ⟨_, e1⟩ => e1 ▸ hb _ _ _ F fun _ _ ⟨_, e2⟩ => e2 ▸ PyProof.Rows.eq_str (wpAny_truthy_bool (hc ▸ h _))) hm
theorem assign_ev {E : Value → Shared → Prop} {s : Shared} {Q : Flow → Shared → Prop} {P : Value → Prop} {news : List (Addr × Obj)} {p1 p2 : Pos} (F : Fr h₀ L s.heap m) (N : News h₀ L s.heap news) (hv : Ev prog w A (envX cn cs L a ccd cl) h₀ L m e P)
    (h : ∀ h' v tk, P v → Fr h₀ L h' (fun z => if z = x then some v else m z) → News h₀ L h' news → Q .next { s with heap := h', toks := tk })
    (hs : swapsWith e (some (.Name x p1)) p2.line (envX cn cs L a ccd cl) = pure false := by rfl) (hk : cs.kind = .function := by rfl) (hx : (envX cn cs L a ccd cl).kindOf x = some .local := by rfl) :
    wpAny (model prog w) A (exec (.Assign [.Name x p1] e p2) (envX cn cs L a ccd cl)) Q E s :=
  wpAny_Assign_Name (hv s _ _ F fun v tk hp => storeX_L (s := { s with toks := tk }) F N (fun h' F' N' => h h' v _ hp F' N') hk hx) hs
theorem Ev.item {pat p y : Str} {tp tx : Tok} {c : Nat} {p1 p2 : Pos} (hp : m p = some (.str pat tp)) (hy : m y = some (.int i tx)) (h0 : 0 ≤ i) (h1 : i < 2 ^ 62) (hc : pat.cps[i.toNat]? = some c)
    (hk : cs.kind = .function) (k1 : (envX cn cs L a ccd cl).kindOf p = some .local) (k2 : (envX cn cs L a ccd cl).kindOf y = some .local) (d1 : (p == ("__debug__" : Str)) = false) (d2 : (y == ("__debug__" : Str)) = false) :
    Ev prog w A (envX cn cs L a ccd cl) h₀ L m (.Subscript (.Name p p1) (.Name y p2) pos) (IsS ⟨#[c]⟩) :=
  fun _ _ _ F h => Subscript_ (nameX_L F hp (nameX_L F hy (item_chr h0 h1 hc (h _ _ ⟨_, rfl⟩)) hk k2 d2) hk k1 d1)
theorem EvB.nes (ha : Ev prog w A env h₀ L m e1 (IsS x)) (hb : Ev prog w A env h₀ L m e2 (IsS y)) (hc : (x != y) = c) (hm : behindInMarks .NotEq e2 = false) : EvB prog w A env h₀ L m (.Compare e1 [.NotEq] [e2] pos) c :=
  fun _ _ _ F h => wpAny_isTrue_Compare1 (ha _ _ _ F fun _ _ ⟨_, e1⟩ => e1 ▸ hb _ _ _ F fun _ _ ⟨_, e2⟩ => e2 ▸ PyProof.Rows.ne_str (wpAny_truthy_bool (hc ▸ h _))) hm
theorem EvB.and2 {whole : Sem Value} {s : Shared} {Q : Bool → Shared → Prop} {E : Value → Shared → Prop} (ha : EvB prog w A env h₀ L m e1 true) (hb : EvB prog w A env h₀ L m e2 b) (F : Fr h₀ L s.heap m) (h : ∀ tk, Q b { s with toks := tk }) :
    wpAny (model prog w) A (isTrue (.BoolOp .And [e1, e2] pos) env whole) Q E s :=
  isTrue_and (ha _ _ _ F fun _ => isTrue_and (hb _ _ _ F fun tk => by cases b; exact h tk; exact isTrue_and_nil (h tk)))
theorem and_eq {s : Shared} {Q : Bool → Shared → Prop} {E : Value → Shared → Prop} {whole : Sem Value} {y n p d pat : Str} {ty tn tp : Tok} {k c : Nat} {p1 p2 p3 p4 p5 p6 p7 p8 p9 : Pos} (b : Bool)
    (F : Fr h₀ L s.heap m := by k_asm) (hy : m y = some (.int i ty) := by exact rfl) (hn : m n = some (.int j tn) := by exact rfl) (hp : m p = some (.str pat tp) := by exact rfl)
    (hc : pat.cps[i.toNat]? = some c := by with_reducible assumption) (hb : ((⟨#[c]⟩ : Str) == d) = b := by decide) (h0 : 0 ≤ i := by omega) (h1 : i < j := by omega) (h2 : i < 2 ^ 62 := by omega)
    (hk : cs.kind = .function := by exact rfl) (k1 : (envX cn cs L a ccd cl).kindOf y = some .local := by exact rfl) (k2 : (envX cn cs L a ccd cl).kindOf n = some .local := by exact rfl) (k3 : (envX cn cs L a ccd cl).kindOf p = some .local := by exact rfl)
    (d1 : (y == ("__debug__" : Str)) = false := by decide) (d2 : (n == ("__debug__" : Str)) = false := by decide) (d3 : (p == ("__debug__" : Str)) = false := by decide)
    (h : ∀ tk, Q b { s with toks := tk }) :
    wpAny (model prog w) A (isTrue (.BoolOp .And [.Compare (.Name y p1) [.Lt] [.Name n p2] p3, .Compare (.Subscript (.Name p p4) (.Name y p5) p6) [.Eq] [.Constant (.str d) k p7] p8] p9) (envX cn cs L a ccd cl) whole) Q E s :=
  EvB.and2 (EvB.lt (Ev.name hy ⟨_, rfl⟩ hk k1 d1) (Ev.name hn ⟨_, rfl⟩ hk k2 d2) (decide_eq_true h1)) (EvB.eqs (Ev.item hp hy h0 h2 hc hk k3 k1 d3 d1) Ev.str hb) F h
theorem and_ne {s : Shared} {Q : Bool → Shared → Prop} {E : Value → Shared → Prop} {whole : Sem Value} {y n p d pat : Str} {ty tn tp : Tok} {k c : Nat} {p1 p2 p3 p4 p5 p6 p7 p8 p9 : Pos} (b : Bool)
    (F : Fr h₀ L s.heap m := by k_asm) (hy : m y = some (.int i ty) := by exact rfl) (hn : m n = some (.int j tn) := by exact rfl) (hp : m p = some (.str pat tp) := by exact rfl)
    (hc : pat.cps[i.toNat]? = some c := by with_reducible assumption) (hb : ((⟨#[c]⟩ : Str) != d) = b := by decide) (h0 : 0 ≤ i := by omega) (h1 : i < j := by omega) (h2 : i < 2 ^ 62 := by omega)
    (hk : cs.kind = .function := by exact rfl) (k1 : (envX cn cs L a ccd cl).kindOf y = some .local := by exact rfl) (k2 : (envX cn cs L a ccd cl).kindOf n = some .local := by exact rfl) (k3 : (envX cn cs L a ccd cl).kindOf p = some .local := by exact rfl)
    (d1 : (y == ("__debug__" : Str)) = false := by decide) (d2 : (n == ("__debug__" : Str)) = false := by decide) (d3 : (p == ("__debug__" : Str)) = false := by decide)
    (h : ∀ tk, Q b { s with toks := tk }) :
    wpAny (model prog w) A (isTrue (.BoolOp .And [.Compare (.Name y p1) [.Lt] [.Name n p2] p3, .Compare (.Subscript (.Name p p4) (.Name y p5) p6) [.NotEq] [.Constant (.str d) k p7] p8] p9) (envX cn cs L a ccd cl) whole) Q E s :=
  EvB.and2 (EvB.lt (Ev.name hy ⟨_, rfl⟩ hk k1 d1) (Ev.name hn ⟨_, rfl⟩ hk k2 d2) (decide_eq_true h1)) (EvB.nes (Ev.item hp hy h0 h2 hc hk k3 k1 d3 d1) Ev.str hb rfl) F h
theorem asg_add {E : Value → Shared → Prop} {s : Shared} {Q : Flow → Shared → Prop} {news : List (Addr × Obj)} {x y : Str} {ty : Tok} {c : Int} {k : Nat} {p1 p2 p3 p4 p5 : Pos} (F : Fr h₀ L s.heap m := by k_asm) (N : News h₀ L s.heap news := by k_asm)
    (hy : m y = some (.int i ty) := by exact rfl)
    (h : ∀ h' t tk, Fr h₀ L h' (fun z => if z = x then some (.int (i + c) t) else m z) → News h₀ L h' news → Q .next { s with heap := h', toks := tk })
    (hk : cs.kind = .function := by exact rfl) (hx : (envX cn cs L a ccd cl).kindOf x = some .local := by exact rfl) (k1 : (envX cn cs L a ccd cl).kindOf y = some .local := by exact rfl) (d1 : (y == ("__debug__" : Str)) = false := by decide)
    (hs : swapsWith (.BinOp (.Name y p2) .Add (.Constant (.int c) k p3) p4) (some (.Name x p1)) p5.line (envX cn cs L a ccd cl) = pure false := by exact rfl) :
    wpAny (model prog w) A (exec (.Assign [.Name x p1] (.BinOp (.Name y p2) .Add (.Constant (.int c) k p3) p4) p5) (envX cn cs L a ccd cl)) Q E s :=
  assign_ev F N (Ev.add (Ev.name hy ⟨_, rfl⟩ hk k1 d1) Ev.int) (fun h' _ tk hv F' N' => by obtain ⟨t, rfl⟩ := hv; exact h h' t tk F' N') hs hk hx
end
section
variable {prog : Program} {w : World} {M : Model} {A : Around} {st : Stmt} {rest : List Stmt} {env : Env} {Q K : Flow → Shared → Prop} {E : Value → Shared → Prop} {s : Shared} {h : Heap} {g : Array GenState} {d : Drawn} {tk : Nat} {o : OsState}
theorem execs_cut_t (H : ∀ tk K, Cont M A rest env Q E K → wpAny M A (exec st env) (Goto K) E ⟨h, g, d, tk, o⟩) : wpAny M A (execs (st :: rest) env) Q E ⟨h, g, d, tk + 1, o⟩ := execs_cut (H _)
theorem execs_one_t (H : ∀ tk, wpAny M A (exec st env) Q E ⟨h, g, d, tk, o⟩) : wpAny M A (execs [st] env) Q E ⟨h, g, d, tk + 1, o⟩ := execs_one (H _)
theorem goto_cut_t (C : Cont M A (st :: rest) env Q E K := by with_reducible assumption) (H : ∀ tk K, Cont M A rest env Q E K → wpAny M A (exec st env) (Goto K) E ⟨h, g, d, tk, o⟩) : Goto K .next ⟨h, g, d, tk + 1, o⟩ := C.1 _ (execs_cut (H _))
theorem goto_one_t (C : Cont M A [st] env Q E K := by with_reducible assumption) (H : ∀ tk, wpAny M A (exec st env) Q E ⟨h, g, d, tk, o⟩) : Goto K .next ⟨h, g, d, tk + 1, o⟩ := C.1 _ (execs_one (H _))
theorem goto_cut (C : Cont M A (st :: rest) env Q E K := by with_reducible assumption) (H : ∀ K, Cont M A rest env Q E K → wpAny M A (exec st env) (Goto K) E s) : Goto K .next s := C.1 _ (execs_cut H)
theorem goto_one (C : Cont M A [st] env Q E K := by with_reducible assumption) (H : wpAny M A (exec st env) Q E s) : Goto K .next s := C.1 _ (execs_one H)
theorem nm {h₀ : Heap} {L a : Addr} {m : Str → Option Value} {cn x : Str} {cs : Scope} {ccd v : Value} {cl : List (Str × Addr)} {pos : Pos} {Q : Value → Shared → Prop} (F : Fr h₀ L s.heap m := by k_asm) (hv : m x = some v := by exact rfl) (H : Q v s) (hk : cs.kind = .function := by exact rfl)
    (hx : (envX cn cs L a ccd cl).kindOf x = some .local := by exact rfl) (hd : (x == ("__debug__" : Str)) = false := by decide) : wpAny (model prog w) A (eval (.Name x pos) (envX cn cs L a ccd cl)) Q E s := nameX_L F hv H hk hx hd
end
theorem small_fits {x : Str} (h : decide (x.length ≤ 100000) = true := by decide +kernel) : x.length ≤ sizeLine := by have := of_decide_eq_true h; rw [PySem.sizeLine_eq]; omega
theorem words75 : True := by
  (k_with "m And" => (((with_reducible show PySem.Str.length _ ≤ sizeLine ∧ _); refine ⟨small_fits, ?_⟩)))
  (k_with "m eval Name" => ((k_here; k_dflt (refine nm (H := ?_)))))
  (k_with "m execs cons" => (((first | (with_reducible refine execs_one_t ?_; intro _) | (with_reducible refine execs_cut_t ?_; intro _ _ _)); try dsimp only)))
  (k_with "m Goto next" => (((first | (with_reducible refine goto_one_t (H := ?_); intro _) | (with_reducible refine goto_cut_t (H := ?_); intro _ _ _) | with_reducible refine goto_one (H := ?_) | (with_reducible refine goto_cut (H := ?_); intro _ _)); try dsimp only)))
  (k_with "m isTrue BoolOp" => ((k_here; (with_reducible show wpAny _ _ (isTrue (PySem.Expr.BoolOp _ [PySem.Expr.Compare (PySem.Expr.Name _ _) _ [PySem.Expr.Name _ _] _, PySem.Expr.Compare (PySem.Expr.Subscript _ _ _) [CmpOp.Eq] [PySem.Expr.Constant _ _ _] _] _) _ _) _ _ _); (first | k_dflt (refine and_eq true (h := ?_)) | k_dflt (refine and_eq false (h := ?_))); intro tk9w; (try dsimp only))))
  (k_with "m isTrue BoolOp" => ((k_here; (with_reducible show wpAny _ _ (isTrue (PySem.Expr.BoolOp _ [PySem.Expr.Compare (PySem.Expr.Name _ _) _ [PySem.Expr.Name _ _] _, PySem.Expr.Compare (PySem.Expr.Subscript _ _ _) [CmpOp.NotEq] [PySem.Expr.Constant _ _ _] _] _) _ _) _ _ _); (first | k_dflt (refine and_ne true (h := ?_)) | k_dflt (refine and_ne false (h := ?_))); intro tk9w; (try dsimp only))))
  (k_with "m exec Assign" => ((k_here; (with_reducible show wpAny _ _ (exec (Stmt.Assign [PySem.Expr.Name _ _] (PySem.Expr.BinOp (PySem.Expr.Name _ _) Operator.Add (PySem.Expr.Constant (Const.int _) _ _) _) _) _) _ _ _); k_dflt (refine asg_add (h := ?_)); intro h'w t'w tk'w F'w N'w; (try k_sweep); (try dsimp only))))
  trivial
section
theorem eq_chr_ne {prog : Program} {w : World} {A : Around} {E : Value → Shared → Prop} {s : Shared} {x y : Str} {t u : Tok} {Q : Value → Shared → Prop} (hn : (x == y) = false) (h : Q (.bool false) s) : wpAny (model prog w) A (compareOp .Eq (.str x t) (.str y u)) Q E s := PyProof.Rows.eq_str (by rw [hn]; exact h)
theorem chr_of {k : Nat} (hg : k = 2 ∨ k = 3 ∨ k = 4 ∨ k = 9 ∨ k = 10) : ∃ d, (d = 97 ∨ d = 34 ∨ d = 46 ∨ d = 93 ∨ d = 45) ∧ sgnL k = [d] ∧ prt k = some (escS d) ∧ ((⟨#[d]⟩ : Str) == Str.ofString "*") = false ∧ ((⟨#[d]⟩ : Str) == Str.ofString "?") = false ∧ ((⟨#[d]⟩ : Str) == Str.ofString "[") = false := by
  rcases hg with rfl | rfl | rfl | rfl | rfl
  · exact ⟨97, by decide, by decide, by decide, by decide, by decide, by decide⟩
  · exact ⟨34, by decide, by decide, by decide, by decide, by decide, by decide⟩
  · exact ⟨46, by decide, by decide, by decide, by decide, by decide, by decide⟩
  · exact ⟨93, by decide, by decide, by decide, by decide, by decide, by decide⟩
  · exact ⟨45, by decide, by decide, by decide, by decide, by decide, by decide⟩
theorem words78 : True := by
  (k_with "m compareOp Eq str str" => (with_reducible refine eq_chr_ne (by with_reducible assumption) ?_))
  (k_with "m compareOp IsNot" => (first | with_reducible refine star_isN (by assumption) ?_ | with_reducible refine star_sameN (by assumption) ?_))
  trivial
set_option maxRecDepth 100000 in
set_option maxHeartbeats 8000000 in
theorem tr_con (w : World) (star : Value) (hst : IsStar star) (pat : Str) (t tq : Tok) (ks : List Nat) (hks : ∀ k ∈ ks, k < 12) (hkl : ks.length ≤ 200) (hpat : pat.cps.toList = catL ks) (hpl : pat.length ≤ 10000) (rest : List (Addr × Obj)) (hr64 : ∀ p ∈ rest, p.1 ≠ 64) :
    ConG w 69 [.str pat t, star, .str (Str.ofString ".") tq] 8 (fun news => ∃ ps, TabOk ps ∧ (64, tabObj ps) ∈ news ∧ ∀ p ∈ rest, p ∈ news)
      (fun news news' r => ∃ ps D vs n, TabOk ps ∧ (64, tabObj ps) ∈ news' ∧ (∀ p ∈ rest, p ∈ news') ∧ r = .ref D ∧ (D, listOf vs.toArray n) ∈ news' ∧ PartsAre star vs (partsO ks)) := by
  intro dp un gd cn cs a ccd cl outer A₀ base p loose mean mg mb h₀ L m news s Q E B F X N T hk hpre hd hu hG0 hret
  obtain ⟨ps0, hok0, hps0, hrest0⟩ := hpre
  w_on
  refine wpAny_call ?_
  k_dflt (walk_at "my enter")
  intro g1 L1 h1 FG1 F1 N1 B1 X1 T1
  (try dsimp only)
  refine wpAny_noRaise ?_
  (try k_fold)
  k_steps
  refine WStop.intro ?_
  rename News _ _ _ _ => N2
  rename Fr _ _ _ _ => F2
  obtain ⟨bb, rr, hbb, hrr⟩ := third_of N2
  have lN0 : ∀ p ∈ news, p.1 < rr := by rw [hrr]; assumption
  have lB : ∀ p ∈ ((rr, listOf #[] 0) :: news), p.1 < bb := by rw [hrr, hbb]; assumption
  rw [← hbb, ← hrr] at N2 F2
  have hRB : rr < bb := lB (rr, _) (.head _)
  have lN : ∀ p ∈ rest, p.1 < rr := fun p hp => lN0 p (hrest0 p hp)
  have lNB : ∀ p ∈ rest, p.1 < bb := fun p hp => lB p (.tail _ (hrest0 p hp))
  have h64R : (64 : Nat) < rr := lN0 _ hps0
  have h64B : (64 : Nat) < bb := Nat.lt_trans h64R hRB
  have hC1 : CodeHd g1 68 64 := code68 X1
  have N3 : News g1 L1 _ ((bb, bmOf rr) :: (rr, listOf #[] 0) :: (64, tabObj ps0) :: rest) := fun p hp => by
    rcases List.mem_cons.mp hp with rfl | hp
    · exact N2 _ (.tail _ (.head _))
    rcases List.mem_cons.mp hp with rfl | hp
    · exact N2 _ (.tail _ (.tail _ (.head _)))
    rcases List.mem_cons.mp hp with rfl | hp
    · exact N2 _ (.tail _ (.tail _ (.tail _ hps0)))
    · exact N2 _ (.tail _ (.tail _ (.tail _ (hrest0 _ hp))))
  refine wpAny_mono (while_inv (Q := fun f s' => LDone (f = .next ∧ ∃ vi, PartsAre star vi (partsO ks) ∧ TSg g1 L1 pat star rr bb pat.length rest s pat.length vi s'))
    (fun n s' => ∃ done todo vi, ks = done ++ todo ∧ n = todo.length ∧ PartsAre star vi (partsO done) ∧ TSg g1 L1 pat star rr bb pat.length rest s (catL done).length vi s') ?turn ks.length
    ⟨[], ks, [], rfl, rfl, ⟨rfl, fun j v o h => by simp at h⟩, TSg.mk' hG0 hok0 F2 N3 (TFr.mk' rfl rfl rfl rfl rfl rfl rfl)⟩) ?rest (fun _ _ x => x)
  case turn =>
    clear F2 N2 N3 hps0 hok0 ps0 hG0 hrest0 lB lN0
    rintro n s' ⟨done, todo, vi, hsplit, rfl, hvi, hJ⟩
    refine hJ.el ?_
    rintro h tk m' c' ps gs ti tn tp tq rfl hG hok F N e1 e2 e3 e4 e5 e6 e7
    clear hJ
    have F2 := fr_say [(Str.ofString "i", .int (((catL done).length : Nat) : Int) ti), (Str.ofString "n", .int (pat.length : Int) tn), (Str.ofString "pat", .str pat tp), (Str.ofString "STAR", star), (Str.ofString "QUESTION_MARK", .str (Str.ofString ".") tq), (Str.ofString "add", .ref bb), (Str.ofString "res", .ref rr)] (by simp [e1, e2, e3, e4, e5, e6, e7]) F
    clear F e1 e2 e3 e4 e5 e6 e7
    have hvil : vi.length ≤ 300 := by
      have h1 := partsO_len done
      have h2 := hvi.1
      have h3 := congrArg List.length hsplit
      simp only [List.length_append] at h3
      omega
    cases todo with
    | nil =>
      have hks : ks = done := by simpa using hsplit
      subst hks
      have hlen : (catL ks).length = pat.length := by rw [← hpat]; simp [Str.length]
      rw [hlen] at F2
      k_steps
      refine LDone.intro ⟨rfl, vi, hvi, TSg.mk' hG hok (by assumption) (by assumption) (TFr.mk' rfl rfl rfl rfl rfl rfl rfl)⟩
    | cons k todo =>
      have hk12 : k < 12 := hks k (by rw [hsplit]; simp)
      have hcut : pat.cps.toList = catL done ++ sgnL k ++ catL todo := by rw [hpat, hsplit]; simp [catL]
      have hlen : pat.length = (catL done).length + (sgnL k).length + (catL todo).length := by
        have := congrArg List.length hcut
        simp only [List.length_append] at this
        rw [← this]; simp [Str.length]
      generalize hii : (catL done).length = i at *
      generalize hK : TurnPost _ _ _ = K

      rcases Classical.em (k = 2 ∨ k = 3 ∨ k = 4 ∨ k = 9 ∨ k = 10) with hgen | hgen
      · obtain ⟨d, hd, hl, hpr, hn1, hn2, hn3⟩ := chr_of hgen
        have c0 : pat.cps[((i : Nat) : Int).toNat]? = some d := by
          have := cps_at (d := 0) (c := d) hcut (by rw [hl]; rfl); rw [hii] at this; exact this
        have hlen1 : (sgnL k).length = 1 := by rw [hl]; rfl
        rw [hlen1] at hlen
        k_steps
        rename News g1 _ _ _ => N9
        rename Fr g1 _ _ _ => F9
        have N10 : News g1 L1 _ ((bb, bmOf rr) :: (rr, listOf _ _) :: (64, tabObj _) :: rest) := news_sub N9 (by walk_at "my sub")
        rw [show (i : Int) + 1 = (((catL (done ++ [k])).length : Nat) : Int) by rw [catL_snoc, List.length_append, hii, hl]; rfl] at F9
        rw [← hK]
        refine ⟨todo.length, Nat.lt_succ_self _, done ++ [k], todo, _, by rw [hsplit]; simp, rfl, ?_, TSg.mk' (by assumption) (by assumption) F9 N10 (TFr.mk' rfl rfl rfl rfl rfl rfl rfl)⟩
        rw [partsO_snoc, pStep_some hpr]; exact hvi.snoc PartV.some
      match k, hk12 with
      | 2, _ => exact absurd (by decide) hgen
      | 3, _ => exact absurd (by decide) hgen
      | 4, _ => exact absurd (by decide) hgen
      | 9, _ => exact absurd (by decide) hgen
      | 10, _ => exact absurd (by decide) hgen
      | 0, _ =>
        have hl : (sgnL 0).length = 1 := by decide
        have c0 : pat.cps[((i : Nat) : Int).toNat]? = some 42 := by
          have := cps_at (d := 0) (c := 42) hcut (by decide); rw [hii] at this; rw [show ((i : Nat) : Int).toNat = i + 0 by omega]; exact this
        rcases List.eq_nil_or_concat vi with hv0 | ⟨vj, v, hv0⟩
        · subst hv0
          have he : partsO done = [] := List.eq_nil_of_length_eq_zero hvi.1.symm
          k_steps
          rename News g1 _ _ _ => N9
          rename Fr g1 _ _ _ => F9
          have N10 : News g1 L1 _ ((bb, bmOf rr) :: (rr, listOf _ _) :: (64, tabObj _) :: rest) := news_sub N9 (by walk_at "my sub")
          rw [show (i : Int) + 1 = (((catL (done ++ [0])).length : Nat) : Int) by rw [catL_snoc, List.length_append, hii, hl]; omega] at F9
          rw [← hK]
          refine ⟨todo.length, Nat.lt_succ_self _, done ++ [0], todo, _, by rw [hsplit]; simp, rfl, ?_, TSg.mk' (by assumption) (by assumption) F9 N10 (TFr.mk' rfl rfl rfl rfl rfl rfl rfl)⟩
          rw [partsO_snoc, pStep_new rfl (by rw [he]; decide)]; exact hvi.snoc rfl
        · rw [List.concat_eq_append] at hv0
          subst hv0
          obtain ⟨o, ho, hpv⟩ := hvi.last
          have hvjl : (vj ++ [v]).length ≤ 100000 := by omega
          have hvj2 : vj.length ≤ 1000 := by simp only [List.length_append, List.length_cons, List.length_nil] at hvil; omega
          cases o with
          | none =>
            have hpv : v = star := hpv
            subst hpv
            k_steps
            rename News g1 _ _ _ => N9
            rename Fr g1 _ _ _ => F9
            have N10 : News g1 L1 _ ((bb, bmOf rr) :: (rr, listOf _ _) :: (64, tabObj _) :: rest) := news_sub N9 (by walk_at "my sub")
            rw [show (i : Int) + 1 = (((catL (done ++ [0])).length : Nat) : Int) by rw [catL_snoc, List.length_append, hii, hl]; omega] at F9
            rw [← hK]
            refine ⟨todo.length, Nat.lt_succ_self _, done ++ [0], todo, _, by rw [hsplit]; simp, rfl, ?_, TSg.mk' (by assumption) (by assumption) F9 N10 (TFr.mk' rfl rfl rfl rfl rfl rfl rfl)⟩
            rw [partsO_snoc, pStep_same rfl ho]; exact hvi
          | some x =>
            obtain ⟨tx, rfl⟩ := hpv
            k_steps
            rename News g1 _ _ _ => N9
            rename Fr g1 _ _ _ => F9
            have N10 : News g1 L1 _ ((bb, bmOf rr) :: (rr, listOf _ _) :: (64, tabObj _) :: rest) := news_sub N9 (by walk_at "my sub")
            rw [show (i : Int) + 1 = (((catL (done ++ [0])).length : Nat) : Int) by rw [catL_snoc, List.length_append, hii, hl]; omega] at F9
            rw [← hK]
            refine ⟨todo.length, Nat.lt_succ_self _, done ++ [0], todo, _, by rw [hsplit]; simp, rfl, ?_, TSg.mk' (by assumption) (by assumption) F9 N10 (TFr.mk' rfl rfl rfl rfl rfl rfl rfl)⟩
            rw [partsO_snoc, pStep_new rfl (by rw [ho]; simp)]; exact hvi.snoc rfl
      | 1, _ =>
        have hl : (sgnL 1).length = 1 := by decide
        have c0 : pat.cps[((i : Nat) : Int).toNat]? = some 63 := by
          have := cps_at (d := 0) (c := 63) hcut (by decide); rw [hii] at this; rw [show ((i : Nat) : Int).toNat = i + 0 by omega]; exact this
        k_steps
        rename News g1 _ _ _ => N9
        rename Fr g1 _ _ _ => F9
        have N10 : News g1 L1 _ ((bb, bmOf rr) :: (rr, listOf _ _) :: (64, tabObj _) :: rest) := news_sub N9 (by walk_at "my sub")
        rw [show (i : Int) + 1 = (((catL (done ++ [1])).length : Nat) : Int) by rw [catL_snoc, List.length_append, hii, hl]; omega] at F9
        rw [← hK]
        refine ⟨todo.length, Nat.lt_succ_self _, done ++ [1], todo, _, by rw [hsplit]; simp, rfl, ?_, TSg.mk' (by assumption) (by assumption) F9 N10 (TFr.mk' rfl rfl rfl rfl rfl rfl rfl)⟩
        rw [partsO_snoc, pStep_some (show prt 1 = some (Str.ofString ".") from by decide)]; exact hvi.snoc PartV.some
      | 5, _ =>
        have hl : (sgnL 5).length = 5 := by decide
        rw [hl] at hlen
        have c0 : pat.cps[((i : Nat) : Int).toNat]? = some 91 := by
          have := cps_at (d := 0) (c := 91) hcut (by decide); rw [hii] at this; rw [show ((i : Nat) : Int).toNat = i + 0 by omega]; exact this
        have c1 : pat.cps[((i : Nat) + 1 : Int).toNat]? = some 97 := by
          have := cps_at (d := 1) (c := 97) hcut (by decide); rw [hii] at this; rw [show ((i : Nat) + 1 : Int).toNat = i + 1 by omega]; exact this
        have c2 : pat.cps[((i : Nat) + 1 + 1 : Int).toNat]? = some 45 := by
          have := cps_at (d := 2) (c := 45) hcut (by decide); rw [hii] at this; rw [show ((i : Nat) + 1 + 1 : Int).toNat = i + 2 by omega]; exact this
        have c3 : pat.cps[((i : Nat) + 1 + 1 + 1 : Int).toNat]? = some 99 := by
          have := cps_at (d := 3) (c := 99) hcut (by decide); rw [hii] at this; rw [show ((i : Nat) + 1 + 1 + 1 : Int).toNat = i + 3 by omega]; exact this
        have c4 : pat.cps[((i : Nat) + 1 + 1 + 1 + 1 : Int).toNat]? = some 93 := by
          have := cps_at (d := 4) (c := 93) hcut (by decide); rw [hii] at this; rw [show ((i : Nat) + 1 + 1 + 1 + 1 : Int).toNat = i + 4 by omega]; exact this
        have s1 : Txt.slice pat (some ((i : Int) + 1)) (some ((i : Int) + 1 + 1 + 1 + 1)) = Str.ofString "a-c" := by
          rw [slice_lit (a := 1) (b := 4) hcut (by rw [hii]; omega) (by rw [hii]; omega) (by decide) (by decide)]; decide
        have s2 : Txt.slice pat (some ((i : Int) + 1)) (some ((i : Int) + 1 + 1)) = Str.ofString "a" := by
          rw [slice_lit (a := 1) (b := 2) hcut (by rw [hii]; omega) (by rw [hii]; omega) (by decide) (by decide)]; decide
        have s3 : Txt.slice pat (some ((i : Int) + 1 + 1 + 1)) (some ((i : Int) + 1 + 1 + 1 + 1)) = Str.ofString "c" := by
          rw [slice_lit (a := 3) (b := 4) hcut (by rw [hii]; omega) (by rw [hii]; omega) (by decide) (by decide)]; decide
        k_steps
        refine WStop.intro ?_
        refine whl_start 100 ?_
        k_steps
        have j1 : Txt.join (Str.ofString "-") [Str.ofString "a", Str.ofString "c"] = Str.ofString "a-c" := by decide +kernel
        refine WStop.intro ?_
        refine whl_start 100 ?_
        k_steps
        refine WStop.intro ?_
        rename News g1 _ _ _ => N9
        rename Fr g1 _ _ _ => F9
        change News g1 L1 _ ((_, _) :: (_, listOf (List.toArray [_, _]) _) :: _) at N9
        refine for_once rfl rfl F9 N9 (by first | walk_at "my nes" | exact all_ne (by assumption)) fun h9 tk9 t9 F9 N9 => ?_
        k_steps
        rename News g1 _ _ _ => N9
        rename Fr g1 _ _ _ => F9
        refine ⟨_, _, _, _, rfl, F9, N9, by first | walk_at "my nes" | exact all_ne (by assumption), fun h9 tk9 F9 N9 => ?_⟩
        k_steps
        rename News g1 _ _ _ => N9
        rename Fr g1 _ _ _ => F9
        have N10 : News g1 L1 _ ((bb, bmOf rr) :: (rr, listOf _ _) :: (64, tabObj _) :: rest) := news_sub N9 (by walk_at "my sub")
        rw [show (i : Int) + 1 + 1 + 1 + 1 + 1 = (((catL (done ++ [5])).length : Nat) : Int) by rw [catL_snoc, List.length_append, hii, hl]; omega] at F9
        rw [← hK]
        refine ⟨todo.length, Nat.lt_succ_self _, done ++ [5], todo, _, by rw [hsplit]; simp, rfl, ?_, TSg.mk' (by assumption) (by assumption) F9 N10 (TFr.mk' rfl rfl rfl rfl rfl rfl rfl)⟩
        rw [partsO_snoc, pStep_some (show prt 5 = some (Str.ofString "[a-c]") from by decide)]; exact hvi.snoc PartV.some
      | 6, _ =>
        have hl : (sgnL 6).length = 4 := by decide
        rw [hl] at hlen
        have c0 : pat.cps[((i : Nat) : Int).toNat]? = some 91 := by
          have := cps_at (d := 0) (c := 91) hcut (by decide); rw [hii] at this; rw [show ((i : Nat) : Int).toNat = i + 0 by omega]; exact this
        have c1 : pat.cps[((i : Nat) + 1 : Int).toNat]? = some 33 := by
          have := cps_at (d := 1) (c := 33) hcut (by decide); rw [hii] at this; rw [show ((i : Nat) + 1 : Int).toNat = i + 1 by omega]; exact this
        have c2 : pat.cps[((i : Nat) + 1 + 1 : Int).toNat]? = some 97 := by
          have := cps_at (d := 2) (c := 97) hcut (by decide); rw [hii] at this; rw [show ((i : Nat) + 1 + 1 : Int).toNat = i + 2 by omega]; exact this
        have c3 : pat.cps[((i : Nat) + 1 + 1 + 1 : Int).toNat]? = some 93 := by
          have := cps_at (d := 3) (c := 93) hcut (by decide); rw [hii] at this; rw [show ((i : Nat) + 1 + 1 + 1 : Int).toNat = i + 3 by omega]; exact this
        have s1 : Txt.slice pat (some ((i : Int) + 1)) (some ((i : Int) + 1 + 1 + 1)) = Str.ofString "!a" := by
          rw [slice_lit (a := 1) (b := 3) hcut (by rw [hii]; omega) (by rw [hii]; omega) (by decide) (by decide)]; decide
        k_steps
        refine WStop.intro ?_
        refine whl_start 100 ?_
        k_steps
        rename News g1 _ _ _ => N9
        rename Fr g1 _ _ _ => F9
        have N10 : News g1 L1 _ ((bb, bmOf rr) :: (rr, listOf _ _) :: (64, tabObj _) :: rest) := news_sub N9 (by walk_at "my sub")
        rw [show (i : Int) + 1 + 1 + 1 + 1 = (((catL (done ++ [6])).length : Nat) : Int) by rw [catL_snoc, List.length_append, hii, hl]; omega] at F9
        rw [← hK]
        refine ⟨todo.length, Nat.lt_succ_self _, done ++ [6], todo, _, by rw [hsplit]; simp, rfl, ?_, TSg.mk' (by assumption) (by assumption) F9 N10 (TFr.mk' rfl rfl rfl rfl rfl rfl rfl)⟩
        rw [partsO_snoc, pStep_some (show prt 6 = some (Str.ofString "[^a]") from by decide)]; exact hvi.snoc PartV.some
      | 7, _ =>
        have hl : (sgnL 7).length = 3 := by decide
        rw [hl] at hlen
        have c0 : pat.cps[((i : Nat) : Int).toNat]? = some 91 := by
          have := cps_at (d := 0) (c := 91) hcut (by decide); rw [hii] at this; rw [show ((i : Nat) : Int).toNat = i + 0 by omega]; exact this
        have c1 : pat.cps[((i : Nat) + 1 : Int).toNat]? = some 34 := by
          have := cps_at (d := 1) (c := 34) hcut (by decide); rw [hii] at this; rw [show ((i : Nat) + 1 : Int).toNat = i + 1 by omega]; exact this
        have c2 : pat.cps[((i : Nat) + 1 + 1 : Int).toNat]? = some 93 := by
          have := cps_at (d := 2) (c := 93) hcut (by decide); rw [hii] at this; rw [show ((i : Nat) + 1 + 1 : Int).toNat = i + 2 by omega]; exact this
        have s1 : Txt.slice pat (some ((i : Int) + 1)) (some ((i : Int) + 1 + 1)) = Str.ofString "\"" := by
          rw [slice_lit (a := 1) (b := 2) hcut (by rw [hii]; omega) (by rw [hii]; omega) (by decide) (by decide)]; decide
        k_steps
        refine WStop.intro ?_
        refine whl_start 100 ?_
        k_steps
        rename News g1 _ _ _ => N9
        rename Fr g1 _ _ _ => F9
        have N10 : News g1 L1 _ ((bb, bmOf rr) :: (rr, listOf _ _) :: (64, tabObj _) :: rest) := news_sub N9 (by walk_at "my sub")
        rw [show (i : Int) + 1 + 1 + 1 = (((catL (done ++ [7])).length : Nat) : Int) by rw [catL_snoc, List.length_append, hii, hl]; omega] at F9
        rw [← hK]
        refine ⟨todo.length, Nat.lt_succ_self _, done ++ [7], todo, _, by rw [hsplit]; simp, rfl, ?_, TSg.mk' (by assumption) (by assumption) F9 N10 (TFr.mk' rfl rfl rfl rfl rfl rfl rfl)⟩
        rw [partsO_snoc, pStep_some (show prt 7 = some (Str.ofString "[\"]") from by decide)]; exact hvi.snoc PartV.some
      | 8, _ =>
        have hl : (sgnL 8).length = 5 := by decide
        rw [hl] at hlen
        have c0 : pat.cps[((i : Nat) : Int).toNat]? = some 91 := by
          have := cps_at (d := 0) (c := 91) hcut (by decide); rw [hii] at this; rw [show ((i : Nat) : Int).toNat = i + 0 by omega]; exact this
        have c1 : pat.cps[((i : Nat) + 1 : Int).toNat]? = some 99 := by
          have := cps_at (d := 1) (c := 99) hcut (by decide); rw [hii] at this; rw [show ((i : Nat) + 1 : Int).toNat = i + 1 by omega]; exact this
        have c2 : pat.cps[((i : Nat) + 1 + 1 : Int).toNat]? = some 45 := by
          have := cps_at (d := 2) (c := 45) hcut (by decide); rw [hii] at this; rw [show ((i : Nat) + 1 + 1 : Int).toNat = i + 2 by omega]; exact this
        have c3 : pat.cps[((i : Nat) + 1 + 1 + 1 : Int).toNat]? = some 97 := by
          have := cps_at (d := 3) (c := 97) hcut (by decide); rw [hii] at this; rw [show ((i : Nat) + 1 + 1 + 1 : Int).toNat = i + 3 by omega]; exact this
        have c4 : pat.cps[((i : Nat) + 1 + 1 + 1 + 1 : Int).toNat]? = some 93 := by
          have := cps_at (d := 4) (c := 93) hcut (by decide); rw [hii] at this; rw [show ((i : Nat) + 1 + 1 + 1 + 1 : Int).toNat = i + 4 by omega]; exact this
        have s1 : Txt.slice pat (some ((i : Int) + 1)) (some ((i : Int) + 1 + 1 + 1 + 1)) = Str.ofString "c-a" := by
          rw [slice_lit (a := 1) (b := 4) hcut (by rw [hii]; omega) (by rw [hii]; omega) (by decide) (by decide)]; decide
        have s2 : Txt.slice pat (some ((i : Int) + 1)) (some ((i : Int) + 1 + 1)) = Str.ofString "c" := by
          rw [slice_lit (a := 1) (b := 2) hcut (by rw [hii]; omega) (by rw [hii]; omega) (by decide) (by decide)]; decide
        have s3 : Txt.slice pat (some ((i : Int) + 1 + 1 + 1)) (some ((i : Int) + 1 + 1 + 1 + 1)) = Str.ofString "a" := by
          rw [slice_lit (a := 3) (b := 4) hcut (by rw [hii]; omega) (by rw [hii]; omega) (by decide) (by decide)]; decide
        k_steps
        refine WStop.intro ?_
        refine whl_start 100 ?_
        k_steps
        have j1 : Txt.join (Str.ofString "-") [Txt.slice (Str.ofString "c") none (some (-1)) ++ Txt.slice (Str.ofString "a") (some 1) none] = Str.ofString "" := by decide +kernel
        refine WStop.intro ?_
        refine whl_start 100 ?_
        k_steps
        refine WStop.intro ?_
        rename News g1 _ _ _ => N9
        rename Fr g1 _ _ _ => F9
        change News g1 L1 _ ((_, _) :: (_, listOf (List.toArray [_, _]) _) :: _) at N9
        refine for_once rfl rfl F9 N9 (by first | walk_at "my nes" | exact all_ne (by assumption)) fun h9 tk9 t9 F9 N9 => ?_
        k_steps
        rename News g1 _ _ _ => N9
        rename Fr g1 _ _ _ => F9
        refine ⟨_, _, _, _, rfl, F9, N9, by first | walk_at "my nes" | exact all_ne (by assumption), fun h9 tk9 F9 N9 => ?_⟩
        k_steps
        rename News g1 _ _ _ => N9
        rename Fr g1 _ _ _ => F9
        have N10 : News g1 L1 _ ((bb, bmOf rr) :: (rr, listOf _ _) :: (64, tabObj _) :: rest) := news_sub N9 (by walk_at "my sub")
        rw [show (i : Int) + 1 + 1 + 1 + 1 + 1 = (((catL (done ++ [8])).length : Nat) : Int) by rw [catL_snoc, List.length_append, hii, hl]; omega] at F9
        rw [← hK]
        refine ⟨todo.length, Nat.lt_succ_self _, done ++ [8], todo, _, by rw [hsplit]; simp, rfl, ?_, TSg.mk' (by assumption) (by assumption) F9 N10 (TFr.mk' rfl rfl rfl rfl rfl rfl rfl)⟩
        rw [partsO_snoc, pStep_some (show prt 8 = some (Str.ofString "(?!)") from by decide)]; exact hvi.snoc PartV.some
      | 11, _ =>
        have hl : (sgnL 11).length = 6 := by decide
        rw [hl] at hlen
        have c0 : pat.cps[((i : Nat) : Int).toNat]? = some 91 := by
          have := cps_at (d := 0) (c := 91) hcut (by decide); rw [hii] at this; rw [show ((i : Nat) : Int).toNat = i + 0 by omega]; exact this
        have c1 : pat.cps[((i : Nat) + 1 : Int).toNat]? = some 33 := by
          have := cps_at (d := 1) (c := 33) hcut (by decide); rw [hii] at this; rw [show ((i : Nat) + 1 : Int).toNat = i + 1 by omega]; exact this
        have c2 : pat.cps[((i : Nat) + 1 + 1 : Int).toNat]? = some 99 := by
          have := cps_at (d := 2) (c := 99) hcut (by decide); rw [hii] at this; rw [show ((i : Nat) + 1 + 1 : Int).toNat = i + 2 by omega]; exact this
        have c3 : pat.cps[((i : Nat) + 1 + 1 + 1 : Int).toNat]? = some 45 := by
          have := cps_at (d := 3) (c := 45) hcut (by decide); rw [hii] at this; rw [show ((i : Nat) + 1 + 1 + 1 : Int).toNat = i + 3 by omega]; exact this
        have c4 : pat.cps[((i : Nat) + 1 + 1 + 1 + 1 : Int).toNat]? = some 97 := by
          have := cps_at (d := 4) (c := 97) hcut (by decide); rw [hii] at this; rw [show ((i : Nat) + 1 + 1 + 1 + 1 : Int).toNat = i + 4 by omega]; exact this
        have c5 : pat.cps[((i : Nat) + 1 + 1 + 1 + 1 + 1 : Int).toNat]? = some 93 := by
          have := cps_at (d := 5) (c := 93) hcut (by decide); rw [hii] at this; rw [show ((i : Nat) + 1 + 1 + 1 + 1 + 1 : Int).toNat = i + 5 by omega]; exact this
        have s1 : Txt.slice pat (some ((i : Int) + 1)) (some ((i : Int) + 1 + 1 + 1 + 1 + 1)) = Str.ofString "!c-a" := by
          rw [slice_lit (a := 1) (b := 5) hcut (by rw [hii]; omega) (by rw [hii]; omega) (by decide) (by decide)]; decide
        have c3' : pat.cps[((i : Nat) + 1 + 2 : Int).toNat]? = some 45 := by
          rw [show ((i : Nat) + 1 + 2 : Int) = ((i : Nat) + 1 + 1 + 1 : Int) by omega]; exact c3
        have s2 : Txt.slice pat (some ((i : Int) + 1)) (some ((i : Int) + 1 + 2)) = Str.ofString "!c" := by
          rw [slice_lit (a := 1) (b := 3) hcut (by rw [hii]; omega) (by rw [hii]; omega) (by decide) (by decide)]; decide
        have s3 : Txt.slice pat (some ((i : Int) + 1 + 2 + 1)) (some ((i : Int) + 1 + 1 + 1 + 1 + 1)) = Str.ofString "a" := by
          rw [slice_lit (a := 4) (b := 5) hcut (by rw [hii]; omega) (by rw [hii]; omega) (by decide) (by decide)]; decide
        k_steps
        refine WStop.intro ?_
        refine whl_start 100 ?_
        k_steps
        have j1 : Txt.join (Str.ofString "-") [Txt.slice (Str.ofString "!c") none (some (-1)) ++ Txt.slice (Str.ofString "a") (some 1) none] = Str.ofString "!" := by decide +kernel
        refine WStop.intro ?_
        refine whl_start 100 ?_
        k_steps
        refine WStop.intro ?_
        rename News g1 _ _ _ => N9
        rename Fr g1 _ _ _ => F9
        change News g1 L1 _ ((_, _) :: (_, listOf (List.toArray [_, _]) _) :: _) at N9
        refine for_once rfl rfl F9 N9 (by first | walk_at "my nes" | exact all_ne (by assumption)) fun h9 tk9 t9 F9 N9 => ?_
        k_steps
        rename News g1 _ _ _ => N9
        rename Fr g1 _ _ _ => F9
        refine ⟨_, _, _, _, rfl, F9, N9, by first | walk_at "my nes" | exact all_ne (by assumption), fun h9 tk9 F9 N9 => ?_⟩
        k_steps
        rename News g1 _ _ _ => N9
        rename Fr g1 _ _ _ => F9
        have N10 : News g1 L1 _ ((bb, bmOf rr) :: (rr, listOf _ _) :: (64, tabObj _) :: rest) := news_sub N9 (by walk_at "my sub")
        rw [show (i : Int) + 1 + 1 + 1 + 1 + 1 + 1 = (((catL (done ++ [11])).length : Nat) : Int) by rw [catL_snoc, List.length_append, hii, hl]; omega] at F9
        rw [← hK]
        refine ⟨todo.length, Nat.lt_succ_self _, done ++ [11], todo, _, by rw [hsplit]; simp, rfl, ?_, TSg.mk' (by assumption) (by assumption) F9 N10 (TFr.mk' rfl rfl rfl rfl rfl rfl rfl)⟩
        rw [partsO_snoc, pStep_some (show prt 11 = some (Str.ofString ".") from by decide)]; exact hvi.snoc PartV.some
  case rest =>
    clear F2 N2 N3 hps0 hok0 ps0 hG0 hrest0 lB lN0
    intro f s' hdone
    obtain ⟨rfl, vi, hvi, hJ⟩ := LDone.out hdone
    refine hJ.el ?_
    rintro h tk m' c' ps gs ti tn tp tq rfl hG hok F N e1 e2 e3 e4 e5 e6 e7
    clear hJ
    clear hdone
    have F2 := fr_say [(Str.ofString "i", .int ((pat.length : Nat) : Int) ti), (Str.ofString "n", .int (pat.length : Int) tn), (Str.ofString "pat", .str pat tp), (Str.ofString "STAR", star), (Str.ofString "QUESTION_MARK", .str (Str.ofString ".") tq), (Str.ofString "add", .ref bb), (Str.ofString "res", .ref rr)] (by simp [e1, e2, e3, e4, e5, e6, e7]) F
    clear F e1 e2 e3 e4 e5 e6 e7
    (try dsimp only)
    k_steps
    refine hret _ ((rr, listOf vi.toArray c') :: (64, tabObj ps) :: rest) _ _ _ (by assumption) ?_ hG ⟨ps, rr, vi, c', hok, .tail _ (.head _), fun p hp => .tail _ (.tail _ hp), rfl, .head _, hvi⟩
    rename News h₀ _ _ _ => N9
    exact news_sub N9 (by walk_at "my sub")
end
theorem words79 : True := by
  k_with_none
  (k_with "m my g1" => (with_reducible show wpAny _ _ (PySem.call (Value.builtin _) [Value.ref _]) _ _ _))
  (k_with "m my g2" => (with_reducible show wpAny _ _ (PySem.call (Value.builtin _) [Value.ref _, _]) _ _ _))
  (k_with "m my g3" => (with_reducible show wpAny _ _ (PySem.call (Value.builtin _) [Value.str _ _, Value.ref _]) _ _ _))
  (k_with "m my ga" => (((with_reducible show wpAny _ _ (PySem.call (Value.builtin _) (_ ++ _)) _ _ _); dsimp only [List.cons_append, List.nil_append])))
  (k_with "m my back" => ((intro r9w news9w h9w tk9w F9w N9w P9w; obtain ⟨e9w, t9w, e8w⟩ := P9w; subst e9w; subst e8w; (try dsimp only); (try k_fold))))
  (k_with "m my enter" => ((refine' code_def ?k1 ?k2 ?k3 ?k4 ?k5 ?kA ?kF ?kK ?k6 ?k7 ?k8 ?k9 ?kB ?_ ?c2 ?c3 ?c4 ?c5; (case kA => exact rfl); (case kF => exact rfl); (case kK => assumption); (case k1 => k_asm); (case k2 => k_asm); (case k3 => k_asm); (case k4 => k_asm); (case k5 => k_asm); (case k6 => k_is); (case k7 => k_is); (case k8 => ktr_room); (case k9 => first | exact BindsTo.of_eq rfl | exact binds_K (by k_in) rfl (by k_is) rfl rfl rfl); (case c5 => decide); (case kB => exact locs rfl); (case c2 => exact rfl); (case c3 => exact rfl); (case c4 => exact rfl); k_whole)))
  (k_with "m call builtin:iter" => ((k_here; walk_at "my g1"; k_dflt (refine it_iter (h := ?_); k_whole); intro I'w h'w o'w F'w N'w l1w l2w hi'w; (try k_lt l1w); (try k_lt2 l2w))))
  (k_with "m compareOp Is str ref" => ((refine is_str_ref ?_)))
  (k_with "m exec For Name Name cons nil" => ((refine wpAny_noRaise ?_; k_dflt (refine for_stmt (h := ?_)))))
  (k_with "m pyIter ref" => ((k_dflt (refine it_self (h := ?_)))))
  (k_with "m call builtin:next" => ((k_here; walk_at "my g1"; k_dflt (refine it_next (h := ?_); k_whole); intro h'w o'w F'w N'w hi'w)))
  (k_with "m compareOp Is ref ref" => ((k_dflt (refine wpAny_is_ref_self ?_))))
  (k_with "m my mem" => (first | exact List.Mem.head _ | with_reducible assumption | assumption | (refine' List.Mem.tail _ ?_; walk_at "my mem")))
  (k_with "m my enterC" => ((refine' code_defC ?k1 ?k2 ?k3 ?k4 ?k5 ?kA ?kF ?kK ?k6 ?k7 ?k8 ?k9 ?kB ?kD ?_ ?c2 ?c3 ?c4; (case kA => exact rfl); (case kF => exact rfl); (case kK => assumption); (case k1 => k_asm); (case k2 => k_asm); (case k3 => k_asm); (case k4 => k_asm); (case k5 => k_asm); (case k6 => k_is); (case k7 => k_is); (case k8 => ktr_room); (case k9 => first | exact BindsTo.of_eq rfl | exact binds_K (by k_in) rfl (by k_is) rfl rfl rfl); (case kB => exact rfl); (case kD => decide +kernel); (case c2 => exact rfl); (case c3 => exact rfl); (case c4 => exact rfl); k_whole)))
  (k_with "m eval ListComp" => ((k_here; (with_reducible show wpAny _ _ (eval (PySem.Expr.ListComp _ [⟨PySem.Expr.Name _ _, _, [], _⟩] _ _) _) _ _ _); k_dflt (refine LCg.ListComp_U (F₀ := by k_asm) (by rfl) (by decide) (by rfl) (by decide) (by rfl) ?_); refine wpAny_stop ?_)))
  (k_with "m exec Assign cons ListComp" => ((k_here; (with_reducible show wpAny _ _ (exec (Stmt.Assign [_] (PySem.Expr.ListComp _ [⟨PySem.Expr.Name _ _, _, [], _⟩] _ _) _) _) _ _ _); k_dflt (refine LCg.Assign_ListComp_U (F₀ := by k_asm) (by rfl) (by with_unfolding_all rfl) (by rfl) (by decide) (by rfl) (by decide) (by rfl) (by rfl) (by rfl) ?_); refine wpAny_stop ?_)))
  (k_with "m exec Assign cons ListComp" => ((k_here; (with_reducible show wpAny _ _ (exec (Stmt.Assign [_] (PySem.Expr.ListComp _ [⟨_, _, [_], _⟩] _ _) _) _) _ _ _); k_dflt (refine LCt.Assign_ListComp_T (F₀ := by k_asm) (by rfl) (by with_unfolding_all rfl) (by rfl) (by decide) (by rfl) (by decide) (by rfl) (by rfl) (by rfl) ?_); refine wpAny_stop ?_)))
  (k_with "m call builtin:len" => ((k_here; walk_at "my g1"; k_dflt (refine kst_len (by k_asm) (by walk_at "my mem") (by exact rfl) (by lia) ?_; k_whole))))
  (k_with "m my sub" => (first | exact List.forall_mem_nil _ | (with_reducible refine List.forall_mem_cons.mpr ⟨?_, ?_⟩; (focus (walk_at "my mem")); walk_at "my sub") | exact fun _ h => h | (intro pw hpw; repeat' (first | exact hpw | refine' List.Mem.tail _ ?_))))
  (k_with "m eval Name" => ((k_here; (with_reducible show wpAny _ _ (eval (PySem.Expr.Name _ _) (compEnvC _ _ _ _)) _ _ _); k_dflt (refine ld_cellA (h := ?_); k_whole))))
  (k_with "m eval Name" => ((k_here; (with_reducible show wpAny _ _ (eval (PySem.Expr.Name _ _) (envOfC _ _ _ _ _)) _ _ _); k_dflt (refine ld_cellB (h := ?_); k_whole))))
  (k_with "m binaryOp Mult ref int" => ((k_here; k_dflt (refine mul_led (h := ?_); k_whole); intro D'w h'w F'w N'w l1'w; (try dsimp only))))
  (k_with "m my ints" => (first | with_reducible assumption | exact slice_ints_fromW (by with_reducible assumption) (by lia)))
  (k_with "m call builtin:sum" => ((k_here; walk_at "my g1"; k_dflt (refine sum_led (h := ?_); k_whole); intro h'w tk'w t'w F'w N'w; (try dsimp only))))
  (k_with "m subscriptTail Name Slice ref ref" => ((k_here; (with_reducible show wpAny _ _ (subscriptTail _ (PySem.Expr.Slice _ _ none _) (Value.ref _) (Value.ref _)) _ _ _); k_dflt (refine kmk_slice (by k_asm) (by k_asm) (by exact News.isList (by k_asm) (by walk_at "my mem")) (by kmk_part) (by kmk_part) ?_ (by with_unfolding_all rfl) (by kmk_pure) (by (simp only [List.size_toArray, PySem.sizeLine_eq]; lia))); intro D'w h'w F'w N'w l1'w; (try dsimp only))))
  (k_with "m binaryOp Add ref ref" => ((k_here; k_dflt (refine cat_list (h := ?_); k_whole); intro D'w h'w F'w N'w l1'w; (try dsimp only))))
  (k_with "m execs cons" => (((first | with_reducible refine execs_one ?_ | (with_reducible refine execs_cut ?_; intro _ _)); try dsimp only)))
  (k_with "m execs cons" => ((with_reducible refine gen_toks ?_; intro tkw)))
  (k_with "m execs nil" => ((with_reducible refine gen_toks ?_; intro tkw)))
  (k_with "m Goto next" => (with_reducible refine goto_next (by with_reducible assumption) ?_))
  (k_with "m Goto" => (first | with_reducible refine goto_ret (by with_reducible assumption) ?_ | with_reducible refine goto_brk (by with_reducible assumption) ?_ | with_reducible refine goto_cont (by with_reducible assumption) ?_))
  (k_with "m my updF" => (first | (refine UpdF.head (by exact all_ne (by with_reducible assumption))) | (refine UpdF.tail (by first | exact Ne.symm (Nat.ne_of_lt (by with_reducible assumption)) | exact Nat.ne_of_lt (by with_reducible assumption)) (by walk_at "my updF"))))
  (k_with "m call builtin:list.append" => ((k_here; walk_at "my g2"; k_dflt (refine push_snoc (h := ?_); k_whole); intro h'w c'w F'w N'w)))
  (k_with "m call builtin:list.append" => ((walk_at "my ga")))
  (k_with "m setItem ref int" => ((k_here; k_dflt (refine set_last (h := ?_); k_whole); intro h'w c'w F'w N'w)))
  (k_with "m getItem ref int" => ((k_here; k_dflt (refine get_last (h := ?_); k_whole))))
  (k_with "m getItem ref int" => (((with_reducible show wpAny _ _ (getItem (Prod.snd _) _) _ _ _); dsimp only)))
  (k_with "m setItem ref int" => (((with_reducible show wpAny _ _ (setItem (Prod.snd _) _ _) _ _ _); dsimp only)))
  (k_with "m subscriptTail Name Constant ref int" => ((k_here; k_dflt (refine item_at (h := ?_); k_whole))))
  (k_with "m call builtin:str.join" => ((walk_at "my ga")))
  (k_with "m call builtin:str.join" => ((k_here; walk_at "my g3"; k_dflt (refine join_led (h := ?_)); intro tjw kjw)))
  (k_with "m subscriptTail Name UnaryOp ref int" => ((k_here; k_dflt (refine item_snoc (h := ?_); k_whole))))
  (k_with "m call builtin:len" => ((k_here; walk_at "my g1"; k_dflt (refine kst_len (by k_asm) (by walk_at "my mem") (by exact rfl) (by (simp only [List.size_toArray, List.length_append, List.length_cons, List.length_nil]; lia)) ?_; k_whole))))
  (k_with "m call builtin:len" => (((with_reducible show wpAny _ _ (PySem.call (Value.builtin "len") [Prod.snd _]) _ _ _); dsimp only)))
  (k_with "m my bm" => ((fail_if_success (fail_if_success (first | (with_reducible rename News _ _ _ ((_, bmOf _) :: _) => hbm9w) | (with_reducible rename News _ _ _ (_ :: (_, bmOf _) :: _) => hbm9w) | (with_reducible rename News _ _ _ (_ :: _ :: (_, bmOf _) :: _) => hbm9w) | (with_reducible rename News _ _ _ (_ :: _ :: _ :: (_, bmOf _) :: _) => hbm9w) | (with_reducible rename News _ _ _ (_ :: _ :: _ :: _ :: (_, bmOf _) :: _) => hbm9w) | (with_reducible rename News _ _ _ (_ :: _ :: _ :: _ :: _ :: (_, bmOf _) :: _) => hbm9w))))))
  (k_with "m getAttr ref" => ((k_here; (with_reducible show wpAny _ _ (getAttr (Value.ref _) (PySem.Str.ofString "append") true) _ _ _); k_dflt (refine getAttr_append (h := ?_)); intro b'w h'w tk'w F'w N'w l1'w)))
  (k_with "m callWith ref" => ((k_here; (with_reducible show wpAny _ _ (callWith _ (Value.ref _) _ (backTo _ (starEach (_ :: _) _)) []) _ _ _); walk_at "my bm"; k_dflt (refine callWith_boundB (h := ?_); k_whole))))
  (k_with "m And" => (((with_reducible show BStands _ _ _ ∧ _); k_dflt (refine ⟨News.get (by k_asm) (by walk_at "my mem"), ?_⟩); (try dsimp only [List.nil_append, List.cons_append]))))
  (k_with "m call ref" => ((k_here; (with_reducible show wpAny _ _ (PySem.call (Value.ref _) [_]) _ _ _); walk_at "my bm"; k_dflt (refine call_bm (h := ?_); k_whole); intro h'w c'w F'w N'w)))
  (k_with "m my while" => (((with_reducible show wpAny _ _ (exec (Stmt.While _ _ _ _) _) _ _ _); refine WStop.out ?_)))
  (k_with "m exec While BoolOp" => (walk_at "my while"))
  (k_with "m exec While Compare" => (walk_at "my while"))
  (k_with "m last exec While" => (walk_at "my while"))
  (k_with "m exec While" => (walk_at "my while"))
  (k_with "m WIf" => (first | with_reducible refine WIf.yes rfl ?_ | with_reducible refine WIf.no rfl ?_ | refine WIf.yes (decide_eq_true (by lia)) ?_ | refine WIf.no (decide_eq_false (by lia)) ?_))
  (k_with "m subscriptTail Name Slice str ref" => (((with_reducible show wpAny _ _ (subscriptTail _ (PySem.Expr.Slice (some _) (some _) none _) _ _) _ _ _); (with_reducible rename Fr _ _ _ _ => F'w); (with_reducible rename News _ _ _ _ => N'w); (refine slice_known (s := ⟨_, _, _, _, _⟩) F'w N'w (by with_reducible assumption) ?_ (by (rw [PySem.sizeLine_eq]; lia))); intro _ _ _ _ _)))
  (k_with "m call builtin:str.find" => ((walk_at "my ga")))
  (k_with "m call builtin:str.find" => (((with_reducible show wpAny _ _ (PySem.call (Value.builtin "str.find") [Value.str _ _, Value.str _ _, Value.int _ _, Value.int _ _]) _ _ _); first | refine find_dash (by lia) (by lia) (by lia) (by with_reducible assumption) ?_ | refine find_no (by lia) (by lia) ?_)))
  (k_with "m exec For Name Call cons nil" => ((refine wpAny_noRaise ?_; k_dflt (refine for_stmt (h := ?_)))))
  (k_with "m pyIter ref" => ((k_here; k_dflt (refine iter_down (h := ?_); k_whole); intro I9w h9w F9w N9w l9w; refine WStop.out ?_)))
  (k_with "m subscriptTail Name BinOp ref int" => ((k_here; k_dflt (refine item_at (h := ?_); k_whole))))
  (k_with "m subscriptTail Name Name ref int" => ((k_here; k_dflt (refine item_at (h := ?_); k_whole))))
  (k_with "m compareOp NotIn str str" => (first | (with_reducible refine notIn_lit (b := true) (by decide +kernel) ?_) | (with_reducible refine notIn_lit (b := false) (by decide +kernel) ?_)))
  (k_with "m eval Name" => (((with_reducible show wpAny _ _ (eval (PySem.Expr.Name _ _) (genEnv _ _ _ _ _ _)) _ _ _); refine ldG (by with_reducible assumption) (by with_reducible assumption) ?_ (by assumption) (by assumption) (by decide))))
  (k_with "m my strs" => (first | exact StrsAre.nil | (refine StrsAre.cons _ _ (by walk_at "my strs"))))
  (k_with "m eval GeneratorExp" => ((k_here; k_dflt (refine gen_make2 (h := ?_); k_whole); intro a9w n9w ps9w h9w tk9w gs9w F9w N9w t9w G9w L9w l9w X9w; (try k_fold))))
  (k_with "m call builtin:str.join" => ((k_here; walk_at "my g3"; k_dflt (refine gen_join2 (h := ?_)); intro h9w t9w tk9w gs9w F9w N9w G9w; (try k_fold))))
  (k_with "m setItem ref int" => ((k_here; k_dflt (refine set_zero (h := ?_); k_whole); intro h9w F9w N9w)))
  (k_with "m delItem ref int" => ((k_here; k_dflt (refine del_one (h := ?_); k_whole); intro h9w F9w N9w)))
  (k_with "m call builtin:str.replace" => ((walk_at "my ga")))
  (k_with "m call builtin:str.replace" => (((with_reducible show wpAny _ _ (PySem.call (Value.builtin "str.replace") [Value.str _ _, Value.str _ _, Value.str _ _]) _ _ _); refine replace_none (by first | (with_reducible assumption) | decide +kernel) ?_)))
  (k_with "m my clt" => (first | (with_reducible assumption) | exact aL1 | exact aL2 | exact aL3 | exact aL4 | exact aL5 | exact aL6 | exact aL7 | exact aL8))
  (k_with "m my ne" => (first | (refine Ne.symm (Nat.ne_of_lt (by walk_at "my clt"))) | (refine Nat.ne_of_lt (by walk_at "my clt"))))
  (k_with "m my ne" => (first | exact Ne.symm (Nat.ne_of_lt (by with_reducible assumption)) | exact Nat.ne_of_lt (by with_reducible assumption) | (refine allLt_ne (by with_reducible assumption) (by walk_at "my mem")) | (refine Ne.symm (allLt_ne (by with_reducible assumption) (by walk_at "my mem")))))
  (k_with "m my nes" => (first | with_reducible assumption | exact all_ne (by with_reducible assumption) | exact List.forall_mem_nil _ | (refine List.forall_mem_cons.mpr ⟨?_, ?_⟩; (focus (walk_at "my ne")); walk_at "my nes")))
  (k_with "m my alt" => (first | (with_reducible assumption) | exact aR1 | exact aR2 | exact aR3 | exact aR4 | exact aR5))
  (k_with "m my nes" => (first | with_reducible assumption | exact all_ne (by with_reducible assumption) | exact List.forall_mem_nil _ | (refine List.forall_mem_cons.mpr ⟨?_, ?_⟩; (focus (walk_at "my ne")); walk_at "my nes") | (refine all_ne (kst_ltOf (by walk_at "my alt")))))
  (k_with "m my nes" => (first | with_reducible assumption | exact all_ne (by with_reducible assumption) | exact List.forall_mem_nil _ | (refine List.forall_mem_cons.mpr ⟨?_, ?_⟩; (focus (walk_at "my ne")); walk_at "my nes") | (refine all_ne (kst_ltOf (by walk_at "my alt"))) | (refine nes_sub (by with_reducible assumption) (by walk_at "my sub"))))
  (k_with "m my updF" => (first | (refine UpdF.head (by walk_at "my nes")) | (refine UpdF.tail (by walk_at "my ne") (by walk_at "my updF"))))
  (k_with "m eval Lambda" => ((k_here; k_dflt (refine kla_eval (by exact rfl) ?_); k_dflt (refine lam_make (h := ?_); k_whole); intro f9w of9w ps9w h9w tk9w F9w N9w cf9w t9w l9w; (try k_fold))))
  (k_with "m getMethod ref" => ((k_here; (with_reducible show wpAny _ _ (getMethod (Value.ref 43) (PySem.Str.ofString "sub") _) _ _ _); k_dflt (refine gm_sub (h := ?_)))))
  (k_with "m call builtin:re.Pattern.sub" => ((walk_at "my ga")))
  (k_with "m call builtin:re.Pattern.sub" => ((k_here; (with_reducible show wpAny _ _ (PySem.call (Value.builtin "re.Pattern.sub") [_, _, _]) _ _ _); k_dflt (refine sub_call (h := ?_)); intro h9w t9w tk9w F9w N9w; (try k_fold))))
  (k_with "m subscriptTail Name Name str int" => ((k_here; k_dflt (refine item_chr (h := ?_); k_whole))))
  (k_with "m call ref" => ((k_here; (with_reducible show wpAny _ _ (PySem.call (Value.ref 62) _) _ _ _); k_dflt (refine con_use (esc_con _ _ _ (by first | with_reducible assumption | decide)) (hp := by exact trivial) (ret := ?_)); walk_at "my back")))
  (k_with "m truthy ref" => ((k_here; k_dflt (refine truthy_snoc (h := ?_); k_whole))))
  (k_with "m truthy ref" => (((with_reducible show wpAny _ _ (truthy (Prod.snd _)) _ _ _); dsimp only)))
  (k_with "m And" => (((with_reducible show PySem.Str.length _ ≤ sizeLine ∧ _); refine ⟨small_fits, ?_⟩)))
  (k_with "m eval Name" => ((k_here; k_dflt (refine nm (H := ?_)))))
  (k_with "m execs cons" => (((first | (with_reducible refine execs_one_t ?_; intro _) | (with_reducible refine execs_cut_t ?_; intro _ _ _)); try dsimp only)))
  (k_with "m Goto next" => (((first | (with_reducible refine goto_one_t (H := ?_); intro _) | (with_reducible refine goto_cut_t (H := ?_); intro _ _ _) | with_reducible refine goto_one (H := ?_) | (with_reducible refine goto_cut (H := ?_); intro _ _)); try dsimp only)))
  (k_with "m isTrue BoolOp" => ((k_here; (with_reducible show wpAny _ _ (isTrue (PySem.Expr.BoolOp _ [PySem.Expr.Compare (PySem.Expr.Name _ _) _ [PySem.Expr.Name _ _] _, PySem.Expr.Compare (PySem.Expr.Subscript _ _ _) [CmpOp.Eq] [PySem.Expr.Constant _ _ _] _] _) _ _) _ _ _); (first | k_dflt (refine and_eq true (h := ?_)) | k_dflt (refine and_eq false (h := ?_))); intro tk9w; (try dsimp only))))
  (k_with "m isTrue BoolOp" => ((k_here; (with_reducible show wpAny _ _ (isTrue (PySem.Expr.BoolOp _ [PySem.Expr.Compare (PySem.Expr.Name _ _) _ [PySem.Expr.Name _ _] _, PySem.Expr.Compare (PySem.Expr.Subscript _ _ _) [CmpOp.NotEq] [PySem.Expr.Constant _ _ _] _] _) _ _) _ _ _); (first | k_dflt (refine and_ne true (h := ?_)) | k_dflt (refine and_ne false (h := ?_))); intro tk9w; (try dsimp only))))
  (k_with "m exec Assign" => ((k_here; (with_reducible show wpAny _ _ (exec (Stmt.Assign [PySem.Expr.Name _ _] (PySem.Expr.BinOp (PySem.Expr.Name _ _) Operator.Add (PySem.Expr.Constant (Const.int _) _ _) _) _) _) _ _ _); k_dflt (refine asg_add (h := ?_)); intro h'w t'w tk'w F'w N'w; (try k_sweep); (try dsimp only))))
  trivial
section
theorem ob_mro : mroOf (.type "object") = pure [.type "object"] := by rw [mroOf_type]; kernel_rfl
theorem ob_new : typeLookup (.type "object") "__new__" = pure (some (.builtin "object.__new__")) := by rw [typeLookup_type, builtinLookup_eq_fast]; kernel_rfl
theorem ob_plain : plainId "object.__new__" = true := by decide +kernel
theorem ob_init : Slot "object" "__init__" "object.__init__" :=
  .of (owner := "object") (n := "__init__") (by rw [typeLookup_type, builtinLookup_eq_fast]; kernel_rfl) (by decide +kernel) (by decide +kernel) (by decide +kernel)
    (by first | exact .inl (by decide +kernel) | exact .inr (by decide +kernel)) (by rw [isSubtype_type]; kernel_rfl)
theorem ob_called : TypeCalled "object" "object.__new__" "object.__init__" :=
  ⟨by decide +kernel, by decide +kernel, ⟨_, _, ob_mro⟩, madeBy_type ob_mro ob_new (by decide +kernel), ob_plain, by rw [isSubtype_type]; kernel_rfl, ob_init⟩
theorem ob_type0 : checkTypeCall "object" ⟨[], []⟩ = pure () := by kernel_rfl
theorem ob_new0 : checkBuiltinCall "object.__new__" ⟨[.type "object"], []⟩ = pure () := by kernel_rfl
theorem ob_init_entry : entryFor table "object.__init__" = some Builtin.«object.__init__» := entryFor_of_tree (by kernel_rfl)
theorem ob_init_args (a : Value) : argsOk "object.__init__" ⟨[a], []⟩ := by unfold argsOk; kernel_rfl
theorem ob_dies : diesByItsTypesDel "object" = false := by decide +kernel
theorem ob_dict : typeHasDict (.type "object") = false := by decide +kernel
abbrev obO : Obj := { cls := .type "object", dict := none, data := .plain }
section
variable {prog : Program} {w : World} {A : Around} {E : Value → Shared → Prop} {s : Shared}
theorem ob_code {Q₁ : Value → Shared → Prop} (h : Q₁ (.ref s.heap.objs.size) { s with heap := s.heap.push obO }) :
    codeAny (model prog w) A (.call (.builtin "object.__new__") ⟨[.type "object"], []⟩) (wants Q₁ E) s := by
  refine codeAny_of_tree ?_
  show wpAny _ A.in1 (do checkBuiltinCall "object.__new__" ⟨[.type "object"], []⟩; again (.builtin "object.__new__" ⟨[.type "object"], []⟩)) _ _ s
  refine wpAny_bind (wpAny_of_eq ob_new0 (wpAny_pure ⟨plainId_quiet ob_plain _, codeAny_builtin PySem.F.entry_object_new ?_⟩))
  rw [Around.under_plainId ob_plain _]
  unfold Builtin.«object.__new__»
  dsimp only
  refine wpAny_bind (wpAny_of_eq (a := true) (by first | rfl | kernel_rfl) ?_)
  refine KFB.if_not rfl ?_
  refine KFB.if_not (by decide +kernel) ?_
  refine wpAny_bind (wpAny_of_eq (a := ()) (by first | rfl | kernel_rfl) ?_)
  refine KFB.if_not rfl ?_
  refine KFB.if_not ob_dict ?_
  refine wpAny_bind (wpAny_pure ?_)
  refine wpAny_bind ?_
  unfold newObj
  refine wpAny_bind (wpAny_alloc (wpAny_pure ?_))
  refine KFB.if_not ob_dies ?_
  exact wpAny_pure h
set_option maxHeartbeats 1000000 in
theorem call_object {Q : Value → Shared → Prop} (h : Q (.ref s.heap.objs.size) { s with heap := s.heap.push obO }) : wpAny (model prog w) A (call (.type "object") []) Q E s := by
  obtain ⟨c, tl, hmro⟩ := ob_called.mro
  have hmade := ob_called.made
  have hsub := ob_called.sub
  refine wpAny_call (codeAny_of_tree ?_)
  show wpAny _ _ (callAny (.type "object") _) _ _ _
  refine wpAny_pure ⟨Code.quiet_builtin _ (by decide +kernel), codeAny_builtin PySem.F.entry_type_call ?_⟩
  rw [Around.under_plain (weight_type_call_type "object" [] []) rfl]
  have h1 := ob_called.notType
  have h2 := ob_called.canCreate
  have hct := ob_type0
  repeat (any_goals (first | assumption | wp_step))
  refine codeAny_mono (ob_code (E := E) (Q₁ := fun obj s₁ => obj = .ref s.heap.objs.size ∧ s₁ = { s with heap := s.heap.push obO }) ⟨rfl, rfl⟩) fun r s₁ hr => ?_
  cases r with
  | error e => exact hr
  | ok fl =>
    cases fl with
    | ret obj =>
      obtain ⟨rfl, rfl⟩ := hr
      have hS : (s.heap.push obO).get? s.heap.objs.size = some obO := Heap.get?_push_size _ rfl
      have hT : Shared.TypeIs { s with heap := s.heap.push obO } (.ref s.heap.objs.size) "object" := ⟨_, hS, rfl⟩
      have hli := ob_called.init.lookup
      have hbi := ob_called.init.bind (.ref s.heap.objs.size)
      repeat (any_goals (first | assumption | wp_step))
      refine codeAny_mono (codeAny_call_builtin (R := wants (fun r s₂ => r = .none ∧ Q (.ref s.heap.objs.size) s₂) E) ob_init.plain ob_init_entry (ob_init.check _ _ _ _ _ _ _ _ hT (ob_init_args _) ?_)) fun r₂ s₂ hr₂ => ?_
      · unfold Builtin.«object.__init__»
        exact wpAny_pure ⟨rfl, h⟩
      · cases r₂ with
        | error e => exact hr₂
        | ok fl₂ =>
          cases fl₂ with
          | ret r =>
            obtain ⟨rfl, hq⟩ := hr₂
            repeat (any_goals (first | assumption | wp_step))
          | _ => exact hr₂.elim
    | _ => exact hr.elim
theorem object_K {h₀ : Heap} {L : Addr} {m : Str → Option Value} {news : List (Addr × Obj)} {Q : Value → Shared → Prop} (F : Fr h₀ L s.heap m := by k_asm) (N : News h₀ L s.heap news := by k_asm)
    (h : ∀ D h', Fr h₀ L h' m → News h₀ L h' ((D, obO) :: news) → (∀ p ∈ news, p.1 < D) → Q (.ref D) { s with heap := h' }) : wpAny (model prog w) A (call (.type "object") []) Q E s :=
  call_object (h _ _ (F.push _) (News.push F N _ rfl) fun q hq => Heap.lt_size (N q hq).1)
end
end
section
theorem partsO_len2 {star : Value} {vs : List Value} {ks : List Nat} (h : PartsAre star vs (partsO ks)) (hk : ks.length ≤ 200) : vs.length ≤ 1000 := by
  have := h.1
  have := partsO_len ks
  lia
theorem words83 : True := by
  (k_with "m call ref" => ((k_here; (with_reducible show wpAny _ _ (PySem.call (Value.ref 69) _) _ _ _); refine WStop.out ?_)))
  (k_with "m call ref" => ((k_here; (with_reducible show wpAny _ _ (PySem.call (Value.ref 76) _) _ _ _); refine WStop.out ?_)))
  (k_with "m call type:object" => ((k_here; k_dflt (refine object_K (h := ?_); k_whole); intro D9w h9w F9w N9w l9w; (try k_fold))))
  trivial
set_option maxRecDepth 100000 in
set_option maxHeartbeats 4000000 in
theorem trans_con (w : World) (pat : Str) (t : Tok) (ks : List Nat) (hks : ∀ k ∈ ks, k < 12) (hkl : ks.length ≤ 200) (hpat : pat.cps.toList = catL ks) (hpl : pat.length ≤ 10000) (rest : List (Addr × Obj)) (hr64 : ∀ p ∈ rest, p.1 ≠ 64) :
    ConG w 50 [.str pat t] 14 (fun news => ∃ ps, TabOk ps ∧ (64, tabObj ps) ∈ news ∧ ∀ p ∈ rest, p ∈ news)
      (fun news news' r => ∃ ps t, TabOk ps ∧ (64, tabObj ps) ∈ news' ∧ (∀ p ∈ rest, p ∈ news') ∧ r = .str (Str.ofString "(?s:" ++ exprS ks ++ Str.ofString ")\\Z") t) := by
  intro dp un gd cn cs a ccd cl outer A₀ base p loose mean mg mb h₀ L m news s Q E B F X N T hk hpre hd hu hG0 hret
  obtain ⟨ps0, hok0, hps0, hrest0⟩ := hpre
  obtain ⟨pre, segs, hP, hok, hjoin, hsum⟩ := parts_expr ks
  w_on
  refine wpAny_call ?_
  k_dflt (walk_at "my enter")
  intro g1 L1 h1 FG1 F1 N1 B1 X1 T1
  (try dsimp only)
  refine wpAny_noRaise ?_
  (try k_fold)
  k_steps
  refine WStop.intro ?_
  rename News _ _ _ _ => N2
  rename Fr _ _ _ _ => F2
  refine con_useG (tr_con w _ (.inr ⟨_, rfl⟩) pat _ _ ks hks hkl hpat hpl rest hr64) (by k_asm) F2 (by k_asm) N2 (by k_asm) (by first | exact rfl | assumption) ⟨ps0, hok0, .tail _ hps0, fun p hp => .tail _ (hrest0 p hp)⟩ (by ktr_room) (by ktr_units) hG0 ?_
  intro r9 news9 h9 tk9 gs9 F9 N9 G9 P9
  obtain ⟨ps9, D9, vs9, n9, t9, m9, q9, e9, l9, a9⟩ := P9
  subst e9
  (try dsimp only)
  (try k_fold)
  clear F2 N2
  k_steps
  refine WStop.intro ?_
  rename News _ _ _ _ => N2
  rename Fr _ _ _ _ => F2
  refine con_use (join_any w _ _ (.inr ⟨_, rfl⟩) vs9 pre segs n9 hok (hP ▸ a9) (partsO_len2 a9 hkl) (by lia)) (by k_asm) F2 (by k_asm) N2 (by k_asm) (by first | exact rfl | assumption) l9 (by ktr_room) (by ktr_units) ?_
  intro r9 news8 h8 tk8 F8 N8 P8
  obtain ⟨e8, t8, e9⟩ := P8
  subst e8
  subst e9
  rw [hjoin]
  (try dsimp only)
  (try k_fold)
  k_steps
  exact hret _ _ _ _ _ (by assumption) (by assumption) G9 ⟨ps9, t8, t9, m9, q9, rfl⟩
end
theorem words84 : True := by
  k_with_none
  (k_with "m my g1" => (with_reducible show wpAny _ _ (PySem.call (Value.builtin _) [Value.ref _]) _ _ _))
  (k_with "m my g2" => (with_reducible show wpAny _ _ (PySem.call (Value.builtin _) [Value.ref _, _]) _ _ _))
  (k_with "m my g3" => (with_reducible show wpAny _ _ (PySem.call (Value.builtin _) [Value.str _ _, Value.ref _]) _ _ _))
  (k_with "m my ga" => (((with_reducible show wpAny _ _ (PySem.call (Value.builtin _) (_ ++ _)) _ _ _); dsimp only [List.cons_append, List.nil_append])))
  (k_with "m my back" => ((intro r9w news9w h9w tk9w F9w N9w P9w; obtain ⟨e9w, t9w, e8w⟩ := P9w; subst e9w; subst e8w; (try dsimp only); (try k_fold))))
  (k_with "m my enter" => ((refine' code_def ?k1 ?k2 ?k3 ?k4 ?k5 ?kA ?kF ?kK ?k6 ?k7 ?k8 ?k9 ?kB ?_ ?c2 ?c3 ?c4 ?c5; (case kA => exact rfl); (case kF => exact rfl); (case kK => assumption); (case k1 => k_asm); (case k2 => k_asm); (case k3 => k_asm); (case k4 => k_asm); (case k5 => k_asm); (case k6 => k_is); (case k7 => k_is); (case k8 => ktr_room); (case k9 => first | exact BindsTo.of_eq rfl | exact binds_K (by k_in) rfl (by k_is) rfl rfl rfl); (case c5 => decide); (case kB => exact locs rfl); (case c2 => exact rfl); (case c3 => exact rfl); (case c4 => exact rfl); k_whole)))
  (k_with "m call builtin:iter" => ((k_here; walk_at "my g1"; k_dflt (refine it_iter (h := ?_); k_whole); intro I'w h'w o'w F'w N'w l1w l2w hi'w; (try k_lt l1w); (try k_lt2 l2w))))
  (k_with "m compareOp Is str ref" => ((refine is_str_ref ?_)))
  (k_with "m exec For Name Name cons nil" => ((refine wpAny_noRaise ?_; k_dflt (refine for_stmt (h := ?_)))))
  (k_with "m pyIter ref" => ((k_dflt (refine it_self (h := ?_)))))
  (k_with "m call builtin:next" => ((k_here; walk_at "my g1"; k_dflt (refine it_next (h := ?_); k_whole); intro h'w o'w F'w N'w hi'w)))
  (k_with "m compareOp Is ref ref" => ((k_dflt (refine wpAny_is_ref_self ?_))))
  (k_with "m my mem" => (first | exact List.Mem.head _ | with_reducible assumption | assumption | (refine' List.Mem.tail _ ?_; walk_at "my mem")))
  (k_with "m my enterC" => ((refine' code_defC ?k1 ?k2 ?k3 ?k4 ?k5 ?kA ?kF ?kK ?k6 ?k7 ?k8 ?k9 ?kB ?kD ?_ ?c2 ?c3 ?c4; (case kA => exact rfl); (case kF => exact rfl); (case kK => assumption); (case k1 => k_asm); (case k2 => k_asm); (case k3 => k_asm); (case k4 => k_asm); (case k5 => k_asm); (case k6 => k_is); (case k7 => k_is); (case k8 => ktr_room); (case k9 => first | exact BindsTo.of_eq rfl | exact binds_K (by k_in) rfl (by k_is) rfl rfl rfl); (case kB => exact rfl); (case kD => decide +kernel); (case c2 => exact rfl); (case c3 => exact rfl); (case c4 => exact rfl); k_whole)))
  (k_with "m eval ListComp" => ((k_here; (with_reducible show wpAny _ _ (eval (PySem.Expr.ListComp _ [⟨PySem.Expr.Name _ _, _, [], _⟩] _ _) _) _ _ _); k_dflt (refine LCg.ListComp_U (F₀ := by k_asm) (by rfl) (by decide) (by rfl) (by decide) (by rfl) ?_); refine wpAny_stop ?_)))
  (k_with "m exec Assign cons ListComp" => ((k_here; (with_reducible show wpAny _ _ (exec (Stmt.Assign [_] (PySem.Expr.ListComp _ [⟨PySem.Expr.Name _ _, _, [], _⟩] _ _) _) _) _ _ _); k_dflt (refine LCg.Assign_ListComp_U (F₀ := by k_asm) (by rfl) (by with_unfolding_all rfl) (by rfl) (by decide) (by rfl) (by decide) (by rfl) (by rfl) (by rfl) ?_); refine wpAny_stop ?_)))
  (k_with "m exec Assign cons ListComp" => ((k_here; (with_reducible show wpAny _ _ (exec (Stmt.Assign [_] (PySem.Expr.ListComp _ [⟨_, _, [_], _⟩] _ _) _) _) _ _ _); k_dflt (refine LCt.Assign_ListComp_T (F₀ := by k_asm) (by rfl) (by with_unfolding_all rfl) (by rfl) (by decide) (by rfl) (by decide) (by rfl) (by rfl) (by rfl) ?_); refine wpAny_stop ?_)))
  (k_with "m call builtin:len" => ((k_here; walk_at "my g1"; k_dflt (refine kst_len (by k_asm) (by walk_at "my mem") (by exact rfl) (by lia) ?_; k_whole))))
  (k_with "m my sub" => (first | exact List.forall_mem_nil _ | (with_reducible refine List.forall_mem_cons.mpr ⟨?_, ?_⟩; (focus (walk_at "my mem")); walk_at "my sub") | exact fun _ h => h | (intro pw hpw; repeat' (first | exact hpw | refine' List.Mem.tail _ ?_))))
  (k_with "m eval Name" => ((k_here; (with_reducible show wpAny _ _ (eval (PySem.Expr.Name _ _) (compEnvC _ _ _ _)) _ _ _); k_dflt (refine ld_cellA (h := ?_); k_whole))))
  (k_with "m eval Name" => ((k_here; (with_reducible show wpAny _ _ (eval (PySem.Expr.Name _ _) (envOfC _ _ _ _ _)) _ _ _); k_dflt (refine ld_cellB (h := ?_); k_whole))))
  (k_with "m binaryOp Mult ref int" => ((k_here; k_dflt (refine mul_led (h := ?_); k_whole); intro D'w h'w F'w N'w l1'w; (try dsimp only))))
  (k_with "m my ints" => (first | with_reducible assumption | exact slice_ints_fromW (by with_reducible assumption) (by lia)))
  (k_with "m call builtin:sum" => ((k_here; walk_at "my g1"; k_dflt (refine sum_led (h := ?_); k_whole); intro h'w tk'w t'w F'w N'w; (try dsimp only))))
  (k_with "m subscriptTail Name Slice ref ref" => ((k_here; (with_reducible show wpAny _ _ (subscriptTail _ (PySem.Expr.Slice _ _ none _) (Value.ref _) (Value.ref _)) _ _ _); k_dflt (refine kmk_slice (by k_asm) (by k_asm) (by exact News.isList (by k_asm) (by walk_at "my mem")) (by kmk_part) (by kmk_part) ?_ (by with_unfolding_all rfl) (by kmk_pure) (by (simp only [List.size_toArray, PySem.sizeLine_eq]; lia))); intro D'w h'w F'w N'w l1'w; (try dsimp only))))
  (k_with "m binaryOp Add ref ref" => ((k_here; k_dflt (refine cat_list (h := ?_); k_whole); intro D'w h'w F'w N'w l1'w; (try dsimp only))))
  (k_with "m execs cons" => (((first | with_reducible refine execs_one ?_ | (with_reducible refine execs_cut ?_; intro _ _)); try dsimp only)))
  (k_with "m execs cons" => ((with_reducible refine gen_toks ?_; intro tkw)))
  (k_with "m execs nil" => ((with_reducible refine gen_toks ?_; intro tkw)))
  (k_with "m Goto next" => (with_reducible refine goto_next (by with_reducible assumption) ?_))
  (k_with "m Goto" => (first | with_reducible refine goto_ret (by with_reducible assumption) ?_ | with_reducible refine goto_brk (by with_reducible assumption) ?_ | with_reducible refine goto_cont (by with_reducible assumption) ?_))
  (k_with "m my updF" => (first | (refine UpdF.head (by exact all_ne (by with_reducible assumption))) | (refine UpdF.tail (by first | exact Ne.symm (Nat.ne_of_lt (by with_reducible assumption)) | exact Nat.ne_of_lt (by with_reducible assumption)) (by walk_at "my updF"))))
  (k_with "m call builtin:list.append" => ((k_here; walk_at "my g2"; k_dflt (refine push_snoc (h := ?_); k_whole); intro h'w c'w F'w N'w)))
  (k_with "m call builtin:list.append" => ((walk_at "my ga")))
  (k_with "m setItem ref int" => ((k_here; k_dflt (refine set_last (h := ?_); k_whole); intro h'w c'w F'w N'w)))
  (k_with "m getItem ref int" => ((k_here; k_dflt (refine get_last (h := ?_); k_whole))))
  (k_with "m getItem ref int" => (((with_reducible show wpAny _ _ (getItem (Prod.snd _) _) _ _ _); dsimp only)))
  (k_with "m setItem ref int" => (((with_reducible show wpAny _ _ (setItem (Prod.snd _) _ _) _ _ _); dsimp only)))
  (k_with "m subscriptTail Name Constant ref int" => ((k_here; k_dflt (refine item_at (h := ?_); k_whole))))
  (k_with "m call builtin:str.join" => ((walk_at "my ga")))
  (k_with "m call builtin:str.join" => ((k_here; walk_at "my g3"; k_dflt (refine join_led (h := ?_)); intro tjw kjw)))
  (k_with "m subscriptTail Name UnaryOp ref int" => ((k_here; k_dflt (refine item_snoc (h := ?_); k_whole))))
  (k_with "m call builtin:len" => ((k_here; walk_at "my g1"; k_dflt (refine kst_len (by k_asm) (by walk_at "my mem") (by exact rfl) (by (simp only [List.size_toArray, List.length_append, List.length_cons, List.length_nil]; lia)) ?_; k_whole))))
  (k_with "m call builtin:len" => (((with_reducible show wpAny _ _ (PySem.call (Value.builtin "len") [Prod.snd _]) _ _ _); dsimp only)))
  (k_with "m my bm" => ((fail_if_success (fail_if_success (first | (with_reducible rename News _ _ _ ((_, bmOf _) :: _) => hbm9w) | (with_reducible rename News _ _ _ (_ :: (_, bmOf _) :: _) => hbm9w) | (with_reducible rename News _ _ _ (_ :: _ :: (_, bmOf _) :: _) => hbm9w) | (with_reducible rename News _ _ _ (_ :: _ :: _ :: (_, bmOf _) :: _) => hbm9w) | (with_reducible rename News _ _ _ (_ :: _ :: _ :: _ :: (_, bmOf _) :: _) => hbm9w) | (with_reducible rename News _ _ _ (_ :: _ :: _ :: _ :: _ :: (_, bmOf _) :: _) => hbm9w))))))
  (k_with "m getAttr ref" => ((k_here; (with_reducible show wpAny _ _ (getAttr (Value.ref _) (PySem.Str.ofString "append") true) _ _ _); k_dflt (refine getAttr_append (h := ?_)); intro b'w h'w tk'w F'w N'w l1'w)))
  (k_with "m callWith ref" => ((k_here; (with_reducible show wpAny _ _ (callWith _ (Value.ref _) _ (backTo _ (starEach (_ :: _) _)) []) _ _ _); walk_at "my bm"; k_dflt (refine callWith_boundB (h := ?_); k_whole))))
  (k_with "m And" => (((with_reducible show BStands _ _ _ ∧ _); k_dflt (refine ⟨News.get (by k_asm) (by walk_at "my mem"), ?_⟩); (try dsimp only [List.nil_append, List.cons_append]))))
  (k_with "m call ref" => ((k_here; (with_reducible show wpAny _ _ (PySem.call (Value.ref _) [_]) _ _ _); walk_at "my bm"; k_dflt (refine call_bm (h := ?_); k_whole); intro h'w c'w F'w N'w)))
  (k_with "m my while" => (((with_reducible show wpAny _ _ (exec (Stmt.While _ _ _ _) _) _ _ _); refine WStop.out ?_)))
  (k_with "m exec While BoolOp" => (walk_at "my while"))
  (k_with "m exec While Compare" => (walk_at "my while"))
  (k_with "m last exec While" => (walk_at "my while"))
  (k_with "m exec While" => (walk_at "my while"))
  (k_with "m WIf" => (first | with_reducible refine WIf.yes rfl ?_ | with_reducible refine WIf.no rfl ?_ | refine WIf.yes (decide_eq_true (by lia)) ?_ | refine WIf.no (decide_eq_false (by lia)) ?_))
  (k_with "m subscriptTail Name Slice str ref" => (((with_reducible show wpAny _ _ (subscriptTail _ (PySem.Expr.Slice (some _) (some _) none _) _ _) _ _ _); (with_reducible rename Fr _ _ _ _ => F'w); (with_reducible rename News _ _ _ _ => N'w); (refine slice_known (s := ⟨_, _, _, _, _⟩) F'w N'w (by with_reducible assumption) ?_ (by (rw [PySem.sizeLine_eq]; lia))); intro _ _ _ _ _)))
  (k_with "m call builtin:str.find" => ((walk_at "my ga")))
  (k_with "m call builtin:str.find" => (((with_reducible show wpAny _ _ (PySem.call (Value.builtin "str.find") [Value.str _ _, Value.str _ _, Value.int _ _, Value.int _ _]) _ _ _); first | refine find_dash (by lia) (by lia) (by lia) (by with_reducible assumption) ?_ | refine find_no (by lia) (by lia) ?_)))
  (k_with "m exec For Name Call cons nil" => ((refine wpAny_noRaise ?_; k_dflt (refine for_stmt (h := ?_)))))
  (k_with "m pyIter ref" => ((k_here; k_dflt (refine iter_down (h := ?_); k_whole); intro I9w h9w F9w N9w l9w; refine WStop.out ?_)))
  (k_with "m subscriptTail Name BinOp ref int" => ((k_here; k_dflt (refine item_at (h := ?_); k_whole))))
  (k_with "m subscriptTail Name Name ref int" => ((k_here; k_dflt (refine item_at (h := ?_); k_whole))))
  (k_with "m compareOp NotIn str str" => (first | (with_reducible refine notIn_lit (b := true) (by decide +kernel) ?_) | (with_reducible refine notIn_lit (b := false) (by decide +kernel) ?_)))
  (k_with "m eval Name" => (((with_reducible show wpAny _ _ (eval (PySem.Expr.Name _ _) (genEnv _ _ _ _ _ _)) _ _ _); refine ldG (by with_reducible assumption) (by with_reducible assumption) ?_ (by assumption) (by assumption) (by decide))))
  (k_with "m my strs" => (first | exact StrsAre.nil | (refine StrsAre.cons _ _ (by walk_at "my strs"))))
  (k_with "m eval GeneratorExp" => ((k_here; k_dflt (refine gen_make2 (h := ?_); k_whole); intro a9w n9w ps9w h9w tk9w gs9w F9w N9w t9w G9w L9w l9w X9w; (try k_fold))))
  (k_with "m call builtin:str.join" => ((k_here; walk_at "my g3"; k_dflt (refine gen_join2 (h := ?_)); intro h9w t9w tk9w gs9w F9w N9w G9w; (try k_fold))))
  (k_with "m setItem ref int" => ((k_here; k_dflt (refine set_zero (h := ?_); k_whole); intro h9w F9w N9w)))
  (k_with "m delItem ref int" => ((k_here; k_dflt (refine del_one (h := ?_); k_whole); intro h9w F9w N9w)))
  (k_with "m call builtin:str.replace" => ((walk_at "my ga")))
  (k_with "m call builtin:str.replace" => (((with_reducible show wpAny _ _ (PySem.call (Value.builtin "str.replace") [Value.str _ _, Value.str _ _, Value.str _ _]) _ _ _); refine replace_none (by first | (with_reducible assumption) | decide +kernel) ?_)))
  (k_with "m my clt" => (first | (with_reducible assumption) | exact aL1 | exact aL2 | exact aL3 | exact aL4 | exact aL5 | exact aL6 | exact aL7 | exact aL8))
  (k_with "m my ne" => (first | (refine Ne.symm (Nat.ne_of_lt (by walk_at "my clt"))) | (refine Nat.ne_of_lt (by walk_at "my clt"))))
  (k_with "m my ne" => (first | exact Ne.symm (Nat.ne_of_lt (by with_reducible assumption)) | exact Nat.ne_of_lt (by with_reducible assumption) | (refine allLt_ne (by with_reducible assumption) (by walk_at "my mem")) | (refine Ne.symm (allLt_ne (by with_reducible assumption) (by walk_at "my mem")))))
  (k_with "m my nes" => (first | with_reducible assumption | exact all_ne (by with_reducible assumption) | exact List.forall_mem_nil _ | (refine List.forall_mem_cons.mpr ⟨?_, ?_⟩; (focus (walk_at "my ne")); walk_at "my nes")))
  (k_with "m my alt" => (first | (with_reducible assumption) | exact aR1 | exact aR2 | exact aR3 | exact aR4 | exact aR5))
  (k_with "m my nes" => (first | with_reducible assumption | exact all_ne (by with_reducible assumption) | exact List.forall_mem_nil _ | (refine List.forall_mem_cons.mpr ⟨?_, ?_⟩; (focus (walk_at "my ne")); walk_at "my nes") | (refine all_ne (kst_ltOf (by walk_at "my alt")))))
  (k_with "m my nes" => (first | with_reducible assumption | exact all_ne (by with_reducible assumption) | exact List.forall_mem_nil _ | (refine List.forall_mem_cons.mpr ⟨?_, ?_⟩; (focus (walk_at "my ne")); walk_at "my nes") | (refine all_ne (kst_ltOf (by walk_at "my alt"))) | (refine nes_sub (by with_reducible assumption) (by walk_at "my sub"))))
  (k_with "m my updF" => (first | (refine UpdF.head (by walk_at "my nes")) | (refine UpdF.tail (by walk_at "my ne") (by walk_at "my updF"))))
  (k_with "m eval Lambda" => ((k_here; k_dflt (refine kla_eval (by exact rfl) ?_); k_dflt (refine lam_make (h := ?_); k_whole); intro f9w of9w ps9w h9w tk9w F9w N9w cf9w t9w l9w; (try k_fold))))
  (k_with "m getMethod ref" => ((k_here; (with_reducible show wpAny _ _ (getMethod (Value.ref 43) (PySem.Str.ofString "sub") _) _ _ _); k_dflt (refine gm_sub (h := ?_)))))
  (k_with "m call builtin:re.Pattern.sub" => ((walk_at "my ga")))
  (k_with "m call builtin:re.Pattern.sub" => ((k_here; (with_reducible show wpAny _ _ (PySem.call (Value.builtin "re.Pattern.sub") [_, _, _]) _ _ _); k_dflt (refine sub_call (h := ?_)); intro h9w t9w tk9w F9w N9w; (try k_fold))))
  (k_with "m subscriptTail Name Name str int" => ((k_here; k_dflt (refine item_chr (h := ?_); k_whole))))
  (k_with "m call ref" => ((k_here; (with_reducible show wpAny _ _ (PySem.call (Value.ref 62) _) _ _ _); k_dflt (refine con_use (esc_con _ _ _ (by first | with_reducible assumption | decide)) (hp := by exact trivial) (ret := ?_)); walk_at "my back")))
  (k_with "m truthy ref" => ((k_here; k_dflt (refine truthy_snoc (h := ?_); k_whole))))
  (k_with "m truthy ref" => (((with_reducible show wpAny _ _ (truthy (Prod.snd _)) _ _ _); dsimp only)))
  (k_with "m And" => (((with_reducible show PySem.Str.length _ ≤ sizeLine ∧ _); refine ⟨small_fits, ?_⟩)))
  (k_with "m eval Name" => ((k_here; k_dflt (refine nm (H := ?_)))))
  (k_with "m execs cons" => (((first | (with_reducible refine execs_one_t ?_; intro _) | (with_reducible refine execs_cut_t ?_; intro _ _ _)); try dsimp only)))
  (k_with "m Goto next" => (((first | (with_reducible refine goto_one_t (H := ?_); intro _) | (with_reducible refine goto_cut_t (H := ?_); intro _ _ _) | with_reducible refine goto_one (H := ?_) | (with_reducible refine goto_cut (H := ?_); intro _ _)); try dsimp only)))
  (k_with "m isTrue BoolOp" => ((k_here; (with_reducible show wpAny _ _ (isTrue (PySem.Expr.BoolOp _ [PySem.Expr.Compare (PySem.Expr.Name _ _) _ [PySem.Expr.Name _ _] _, PySem.Expr.Compare (PySem.Expr.Subscript _ _ _) [CmpOp.Eq] [PySem.Expr.Constant _ _ _] _] _) _ _) _ _ _); (first | k_dflt (refine and_eq true (h := ?_)) | k_dflt (refine and_eq false (h := ?_))); intro tk9w; (try dsimp only))))
  (k_with "m isTrue BoolOp" => ((k_here; (with_reducible show wpAny _ _ (isTrue (PySem.Expr.BoolOp _ [PySem.Expr.Compare (PySem.Expr.Name _ _) _ [PySem.Expr.Name _ _] _, PySem.Expr.Compare (PySem.Expr.Subscript _ _ _) [CmpOp.NotEq] [PySem.Expr.Constant _ _ _] _] _) _ _) _ _ _); (first | k_dflt (refine and_ne true (h := ?_)) | k_dflt (refine and_ne false (h := ?_))); intro tk9w; (try dsimp only))))
  (k_with "m exec Assign" => ((k_here; (with_reducible show wpAny _ _ (exec (Stmt.Assign [PySem.Expr.Name _ _] (PySem.Expr.BinOp (PySem.Expr.Name _ _) Operator.Add (PySem.Expr.Constant (Const.int _) _ _) _) _) _) _ _ _); k_dflt (refine asg_add (h := ?_)); intro h'w t'w tk'w F'w N'w; (try k_sweep); (try dsimp only))))
  trivial
section
theorem post_gens {M : Model} {A : Around} {cd : Code} {s s₁ : Shared} {cw : ClaimW} {cl : Str → Option Addr} {mean : ExcName → Option Value} {args : List WData} {tabs : List (Addr × Addr)} (hT : TabsAt tabs s₁.heap) (hr : ∀ a x, cw.raises a x = false)
    (h : codeAny M A cd (fun r s' => (GoodW cw cl mean args { s₁ with heap := ghostOf s₁.heap tabs } r { s' with gens := #[] } ∧ AllBare s'.gens) ∧ GrownAll tabs s'.heap) s) : codeAny M A cd (GoodWG cw cl mean args s₁) s := by
  refine codeAny_mono h fun r s' hh => ?_
  obtain ⟨⟨⟨hc, hk, hos, _⟩, hb⟩, hgr⟩ := hh
  have stay : ∀ b o, b ∉ tabs.map (·.2) → s₁.heap.get? b = some o → s'.heap.get? b = some o := fun b o hn e => hk b o (ghost_ne e hn)
  have tab : ∀ b o, b ∈ tabs.map (·.2) → s₁.heap.get? b = some o → isCodeTable s₁.heap b ∧ o = tabObj #[] ∧ ∃ ps, s'.heap.get? b = some (tabObj ps) := by
    intro b o hm e
    obtain ⟨q, hq, rfl⟩ := List.mem_map.mp hm
    have h2 := (hT q hq).2
    have h1 := ((hT q hq).1.tab h2).isCodeTable
    rw [h2] at e
    exact ⟨h1, (Option.some.inj e).symm, hgr.get q hq⟩
  have old : OldK s₁.heap s'.heap := by
    refine ⟨fun b o e => ?_, fun b o e => ?_⟩
    · by_cases hm : b ∈ tabs.map (·.2)
      · obtain ⟨h1, rfl, ps, h2⟩ := tab b o hm e
        refine .inr (.inl ⟨h1, rfl, #[], ps, rfl, ?_⟩)
        rw [Array.empty_append]
        exact h2
      · exact .inl (stay b o hm e)
    · by_cases hm : b ∈ tabs.map (·.2)
      · obtain ⟨_, _, ps, h2⟩ := tab b o hm e
        exact ⟨_, h2⟩
      · exact ⟨o, stay b o hm e⟩
  refine ⟨?_, old, hos, hb⟩
  rcases hc with ⟨v, d, as, e1, e2, e3, e4, e5⟩ | ⟨e, ob, x, _, _, _, e4, _⟩
  · refine .inl ⟨v, d, as, e1, e2, e3, e4, fun hu => ⟨(e5 hu).1, fun a ha => ?_⟩⟩
    cases hq : s₁.heap.get? a with
    | none => rfl
    | some o =>
      exfalso
      by_cases hm : a ∈ tabs.map (·.2)
      · obtain ⟨_, _, ps, h2⟩ := tab a o hm hq
        exact readsW_apart h2 rfl e3 ha
      · have := (e5 hu).2 a ha
        rw [show (ghostOf s₁.heap tabs).get? a = some o from ghost_ne hq hm] at this
        cases this
  · rw [hr] at e4
    cases e4
end
section
open LCg LCp
section
variable {prog : Program} {w : World} {A : Around} {s : Shared} {h₀ : Heap} {L : Addr} {m : Str → Option Value} {env : Env}
/-- a comprehension over pairs whose elements are the pairs' first parts -/
theorem rest_first {x x₂ : Str} {px : Pos} {scope : Scope} {cl : List (Str × Addr)} {S : List (Addr × Obj) → Prop} {P : Nat → Value → Prop} {Fin : List Value → List (Addr × Obj) → Prop} {news : List (Addr × Obj)} (n : Nat) (xs : List Str) (hxs : xs.length = n) (hS : S news)
    (hP : ∀ i v y, i < n → P i v → xs[i]? = some y → ∃ (t : Addr) (ot : Obj) (u : Tok) (v₂ : Value) (nt : Nat), v = .ref t ∧ (t, ot) ∈ news ∧ ot.cls = .type "tuple" ∧ ot.data = .seq #[.str y u, v₂] nt)
    (hk : scope.kind = .function) (hl : (relabel scope env).names.lookup x = some .local) (hd : (x == ("__debug__" : Str)) = false)
    (fin : ∀ ys : List Value, StrsAre ys xs → Fin ys news) :
    CompRestP prog w A h₀ L m env (.Name x px) x x₂ scope cl s S P Fin n 0 [] news := by
  have key : ∀ k i (ys : List Value), i + k = n → StrsAre ys (xs.take i) → CompRestP prog w A h₀ L m env (.Name x px) x x₂ scope cl s S P Fin k i ys news := by
    intro k
    induction k with
    | zero =>
      intro i ys e1 e2
      refine CompRestP.zero (fin ys ?_)
      rw [List.take_of_length_le (by lia)] at e2
      exact e2
    | succ k ih =>
      intro i ys e1 e2
      refine CompRestP.succ fun v hv => ?_
      have hlt : i < xs.length := by lia
      obtain ⟨t, ot, u, v₂, nt, e, hm, hc, hdt⟩ := hP i v xs[i] (by lia) hv (List.getElem?_eq_getElem hlt)
      refine ⟨t, ot, _, v₂, nt, e, hm, hc, hdt, fun I oI C oC D m₂ h tk E' hns h1 _ F N off hne => ?_⟩
      have hns' := hns.ns (N (C, oC) (.tail _ (.head _))).1
      refine ldG (cenv := compEnvC scope cl C env) (m := m₂) hns' h1 ⟨h, tk, news, rfl, F, N, off, hS, ih (i + 1) _ (by lia) ?_⟩ hk hl hd
      have e3 : xs.take (i + 1) = xs.take i ++ [xs[i]] := by rw [List.take_add_one, List.getElem?_eq_getElem hlt]; rfl
      rw [e3]
      exact kct_snoc e2
  exact key n 0 [] (by lia) .nil
end
end
section
open PyProof.V
theorem leftZ_le : ∀ (ws : List Int) (f : Int), (∀ x ∈ ws, x ≤ 1) → 0 ≤ f → leftZ f ws ≤ f + ws.length
  | [], f, _, _ => by simp [leftZ]
  | x :: r, f, h, hf => by
    have hx := h x (.head _)
    have ih := leftZ_le r (max (f + x) 0) (fun y hy => h y (.tail _ hy)) (by lia)
    have e : leftZ f (x :: r) = leftZ (max (f + x) 0) r := rfl
    rw [e, List.length_cons]
    lia
theorem w0_le (d : Int) (h : 0 ≤ d ∧ d < 3) : w0 d ≤ 1 := by
  have hc : d = 0 ∨ d = 1 ∨ d = 2 := by lia
  rcases hc with rfl | rfl | rfl <;> decide
theorem w1_le (d : Int) (h : 0 ≤ d ∧ d < 3) : w1 d ≤ 1 := by
  have hc : d = 0 ∨ d = 1 ∨ d = 2 := by lia
  rcases hc with rfl | rfl | rfl <;> decide
theorem w2_le (d : Int) (h : 0 ≤ d ∧ d < 3) : w2 d ≤ 1 := by
  have hc : d = 0 ∨ d = 1 ∨ d = 2 := by lia
  rcases hc with rfl | rfl | rfl <;> decide
theorem told_len (ks : List Nat) (ds : List Int) (hds : ∀ d ∈ ds, 0 ≤ d ∧ d < 3) : (told ks ds).length ≤ ks.length + 2 * ds.length := by
  have b0 : ∀ f : Nat, leftZ f (ds.map w0) ≤ f + ds.length := fun f => by
    have := leftZ_le (ds.map w0) f (fun x hx => by obtain ⟨d, hd, rfl⟩ := List.mem_map.mp hx; exact w0_le d (hds d hd)) (by lia)
    simpa using this
  have b1 : ∀ f : Nat, leftZ f (ds.map w1) ≤ f + ds.length := fun f => by
    have := leftZ_le (ds.map w1) f (fun x hx => by obtain ⟨d, hd, rfl⟩ := List.mem_map.mp hx; exact w1_le d (hds d hd)) (by lia)
    simpa using this
  have b2 : ∀ f : Nat, leftZ f (ds.map w2) ≤ f + ds.length := fun f => by
    have := leftZ_le (ds.map w2) f (fun x hx => by obtain ⟨d, hd, rfl⟩ := List.mem_map.mp hx; exact w2_le d (hds d hd)) (by lia)
    simpa using this
  rcases split_marks ks with h | ⟨p, mid, q, rfl, h1, h2⟩
  · have e : told ks ds = List.replicate (leftZ ks.length (ds.map w0)).toNat 3 := by
      conv => lhs; rw [h]
      rw [told_marks]
    rw [e, List.length_replicate]
    have := b0 ks.length
    lia
  · rw [told_mid p q mid h1 h2]
    have := b1 p
    have := b2 q
    simp only [List.length_append, List.length_replicate]
    lia
theorem told_lt (ks : List Nat) (ds : List Int) (hks : ∀ k ∈ ks, k < 12) : ∀ k ∈ told ks ds, k < 12 := by
  rcases split_marks ks with h | ⟨p, mid, q, rfl, h1, h2⟩
  · have e : told ks ds = List.replicate (leftZ ks.length (ds.map w0)).toNat 3 := by
      conv => lhs; rw [h]
      rw [told_marks]
    rw [e]
    intro k hk
    rw [(List.mem_replicate.mp hk).2]; decide
  · rw [told_mid p q mid h1 h2]
    intro k hk
    rcases List.mem_append.mp hk with hk | hk
    · rcases List.mem_append.mp hk with hk | hk
      · rw [(List.mem_replicate.mp hk).2]; decide
      · exact hks k (List.mem_append_left _ (List.mem_append_right _ hk))
    · rw [(List.mem_replicate.mp hk).2]; decide
theorem sgn_len (k : Nat) : (sgnL k).length ≤ 6 := by
  match k with
  | 0 | 1 | 2 | 3 | 4 | 5 | 6 | 7 | 8 | 9 | 10 => decide
  | _ + 11 => show (T (Str.ofString "[!c-a]")).length ≤ 6; decide
theorem catL_len : ∀ ks : List Nat, (catL ks).length ≤ 6 * ks.length
  | [] => by simp [catL]
  | k :: r => by
    have := catL_len r
    have := sgn_len k
    have e : catL (k :: r) = sgnL k ++ catL r := by simp [catL]
    rw [e, List.length_append, List.length_cons]
    lia
theorem expr_len (ks : List Nat) : (exprS ks).length ≤ 12 * ks.length + 2 := by
  have hb := eRun_bound ks
  have e2 : (Str.ofString ".*").length = 2 := by decide
  unfold exprS
  generalize (eRun ks).1 = l at hb
  generalize (eRun ks).2 = y at hb
  cases l with
  | nil => simp at hb; show y.length ≤ _; lia
  | cons f r =>
    show (f ++ Txt.join (Str.ofString "") (r.map wrapS) ++ Str.ofString ".*" ++ y).length ≤ _
    rw [len_app, len_app, len_app, join_len, e2]
    have hw : ((r.map wrapS).map Str.length).sum = (r.map Str.length).sum + 7 * r.length := by
      clear hb
      induction r with
      | nil => rfl
      | cons x r ih =>
        have e : (wrapS x).length = x.length + 7 := by
          unfold wrapS
          rw [len_app, len_app]
          have h1 : (Str.ofString "(?>.*?").length = 6 := by decide
          have h2 : (Str.ofString ")").length = 1 := by decide
          lia
        simp only [List.map_cons, List.sum_cons, List.length_cons, ih, e]
        lia
    rw [hw]
    simp only [List.map_cons, List.sum_cons, List.length_cons] at hb
    lia
theorem pat_T (ks : List Nat) : T (J (ks.map sgn)) = catL ks := by
  rw [T_J, List.map_map]; rfl
theorem pat_sum (ks : List Nat) (h : ks.length ≤ 100) : ((ks.map sgn).map Str.length).sum ≤ 100000 := by
  rw [← join_len, T_len]
  have := catL_len ks
  rw [show T (Txt.join (Str.ofString "") (ks.map sgn)) = catL ks from pat_T ks]
  lia
noncomputable def rest64 (news : List (Addr × Obj)) : List (Addr × Obj) := news.filter fun p => decide (p.1 ≠ (64 : Nat))
theorem rest64_ne (news : List (Addr × Obj)) : ∀ p ∈ rest64 news, p.1 ≠ 64 := fun p hp => by
  have := (List.mem_filter.mp hp).2
  exact of_decide_eq_true this
theorem rest64_sub (news : List (Addr × Obj)) : ∀ p ∈ rest64 news, p ∈ news := fun p hp => (List.mem_filter.mp hp).1
theorem rest64_mem {news : List (Addr × Obj)} {h₀ h : Heap} {L a : Addr} {o : Obj} {ps : Array Value} (N : News h₀ L h news) (h64 : (64, tabObj ps) ∈ news) (hm : (a, o) ∈ news) (hc : o.cls ≠ .none) : (a, o) ∈ rest64 news := by
  refine List.mem_filter.mpr ⟨hm, decide_eq_true fun q => ?_⟩
  have h1 := (N _ hm).1
  have h2 := (N _ h64).1
  rw [show a = (64 : Nat) from q] at h1
  rw [h2] at h1
  cases h1
  exact hc rfl
theorem PieceAll.rest {news : List (Addr × Obj)} {h₀ h : Heap} {L : Addr} {ps : Array Value} {us : List Value} {ks : List Nat} (N : News h₀ L h news) (h64 : (64, tabObj ps) ∈ news) (hp : PieceAll news us ks) : PieceAll (rest64 news) us ks :=
  ⟨hp.1, fun j v k h1 h2 => by
    obtain ⟨a, o, e, hm, ho⟩ := hp.2 j v k h1 h2
    refine ⟨a, o, e, rest64_mem N h64 hm ?_, ho⟩
    obtain ⟨t, pv, n, hc, _⟩ := ho
    rw [hc]; nofun⟩
theorem PieceAll.mono' {news news' : List (Addr × Obj)} {us : List Value} {ks : List Nat} (hp : PieceAll news us ks) (hs : ∀ p ∈ news, p ∈ news') : PieceAll news' us ks :=
  ⟨hp.1, fun j v k h1 h2 => (hp.2 j v k h1 h2).mono hs⟩
theorem PieceAll.firsts {news : List (Addr × Obj)} {us : List Value} {ks : List Nat} (hp : PieceAll news us ks) (i : Nat) (v : Value) (y : Str) (hv : us[i]? = some v) (hy : (ks.map sgn)[i]? = some y) :
    ∃ (t : Addr) (ot : Obj) (u : Tok) (v₂ : Value) (nt : Nat), v = .ref t ∧ (t, ot) ∈ news ∧ ot.cls = .type "tuple" ∧ ot.data = .seq #[.str y u, v₂] nt := by
  rw [List.getElem?_map] at hy
  cases hk : ks[i]? with
  | none => rw [hk] at hy; cases hy
  | some k =>
    rw [hk] at hy
    cases hy
    obtain ⟨a, o, e, hm, t, pv, n, hc, hd, _⟩ := hp.2 i v k hv hk
    exact ⟨a, o, t, pv, n, e, hm, hc, hd⟩
theorem ne_same {prog : Program} {w : World} {A : Around} {E : Value → Shared → Prop} {s : Shared} {x : Str} {t u : Tok} {Q : Value → Shared → Prop} (h : Q (.bool false) s) : wpAny (model prog w) A (compareOp .NotEq (.str x t) (.str x u)) Q E s := by
  refine ne_str ?_
  simpa using h
theorem ne_eq_str {prog : Program} {w : World} {A : Around} {E : Value → Shared → Prop} {s : Shared} {x y : Str} {t u : Tok} {Q : Value → Shared → Prop} (hxy : x = y) (h : Q (.bool false) s) : wpAny (model prog w) A (compareOp .NotEq (.str x t) (.str y u)) Q E s := by
  subst hxy; exact ne_same h
theorem eq_three {prog : Program} {w : World} {A : Around} {E : Value → Shared → Prop} {s : Shared} {a b : Addr} {x : Str} {t1 t2 t3 u1 u2 u3 : Tok} {Q : Value → Shared → Prop} (ha : s.heap.IsList a #[.str x t1, .str x t2, .str x t3]) (hb : s.heap.IsList b #[.str x u1, .str x u2, .str x u3]) (hu : A.units < cLine) (h : Q (.bool true) s) :
    wpAny (model prog w) A (compareOp .Eq (.ref a) (.ref b)) Q E s := by
  have hxx : (x == x) = true := beq_self_eq_true _
  refine SeqAt.eq_listAt (e := fun _ => true) ha hb rfl hu (fun j h1 h2 => ?_) h
  match j, h1, h2 with
  | 0, _, _ => exact hxx ▸ (eqGives_str x x t1 u1).at _ _
  | 1, _, _ => exact hxx ▸ (eqGives_str x x t2 u2).at _ _
  | 2, _, _ => exact hxx ▸ (eqGives_str x x t3 u3).at _ _
  | j + 3, h1, _ => exact absurd h1 (by simp)
theorem row_ex {h₀ h : Heap} {L D : Addr} {rv : List Value} {n : Int} {t : Tok} {c : Nat} {r : List (Addr × Obj)} (_N : News h₀ L h ((D, listOf (rv ++ [Value.int n t]).toArray c) :: r)) : ∃ (D' : Addr) (t' : Tok), D' = D ∧ t' = t := ⟨_, _, rfl, rfl⟩
theorem head_ex {h₀ h : Heap} {L D : Addr} {o : Obj} {r : List (Addr × Obj)} (_N : News h₀ L h ((D, o) :: r)) : ∃ (D' : Addr), D' = D := ⟨_, rfl⟩
theorem ints_snoc {n : Int} {t : Tok} : ∀ {vs : List Value} {ds : List Int}, IntsAre vs ds → IntsAre (vs ++ [Value.int n t]) (ds ++ [n])
  | _, _, .nil => .cons n t .nil
  | _, _, .cons z u r => .cons z u (ints_snoc r)
end
section
local macro_rules | `(tactic| kn_posts) => `(tactic| (refine post_gens (by with_reducible assumption) (fun _ _ => rfl) ?_))
theorem law_post (args : List WData) : PySem.Challenge.rw_in0264_01.row.claim.post args (.bool true) args = true :=
  postW_of (by wrow_shape) (w_eq_bool (w_res rfl) w_lit) (by w_fin)
theorem words90 : True := by
  (k_with "m compareOp Eq ref ref" => (((with_reducible show wpAny _ _ (compareOp CmpOp.Eq (Value.ref _) (Value.ref _)) _ _ _); refine WStop.out ?_)))
  (k_with "m call ref" => ((k_here; (with_reducible show wpAny _ _ (PySem.call (Value.ref _) _) _ _ _); refine WStop.out ?_)))
  (k_with "m binaryOp Add ref ref" => ((k_here; k_dflt (refine cat_list (h := ?_); k_whole); intro D'w h'w F'w N'w l1'w; (try dsimp only))))
  (k_with "m eval ListComp" => ((k_here; (with_reducible show wpAny _ _ (eval (PySem.Expr.ListComp _ [⟨PySem.Expr.Tuple _ _ _, _, [], _⟩] _ _) _) _ _ _); k_dflt (refine LCp.ListComp_P (F₀ := by k_asm) (by rfl) (by decide) (by rfl) (by decide) (by rfl) (by rfl) (by decide) ?_); refine wpAny_stop ?_)))
  (k_with "m compareOp NotEq str str" => (first | (with_reducible refine ne_same ?_) | (with_reducible refine ne_eq_str (by with_reducible assumption) ?_) | (with_reducible refine ne_eq_str (within_expr _) ?_)))
  trivial
/- the names that the head would lay a second copy of each of its own objects under: taken, it lays none (and the compiled file is 20 MB smaller) -/
theorem law_holds.tw7356724547972884604 : True := trivial
theorem law_holds.tw5389484754426515990 : True := trivial
theorem law_holds.tw872945423123597577 : True := trivial
theorem law_holds.tw15759456685926392790 : True := trivial
theorem law_holds.tw11557135564483155855 : True := trivial
theorem law_holds.tw4406793961583663384 : True := trivial
theorem law_holds.tw14479214429240233694 : True := trivial
theorem law_holds.tw1905533677188600702 : True := trivial
theorem law_holds.tw13780023080261437657 : True := trivial
theorem law_holds.tw6765152471904792315 : True := trivial
theorem law_holds.tw14545874151571354728 : True := trivial
theorem law_holds.tw16869599502669767113 : True := trivial
theorem law_holds.tw2882485010973397480 : True := trivial
theorem law_holds.tw16470317323979864763 : True := trivial
theorem law_holds.tw13031272927247242282 : True := trivial
theorem law_holds.tw17993387198741990920 : True := trivial
theorem law_holds.tw519298541982818421 : True := trivial
theorem law_holds.tw2907507879108658156 : True := trivial
theorem law_holds.tw2643271747718453845 : True := trivial
theorem law_holds.tw575232530192455986 : True := trivial
theorem law_holds.tw11098625913536864229 : True := trivial
theorem law_holds.tw15012669898789001497 : True := trivial
theorem law_holds.tw8634839017697508684 : True := trivial
theorem law_holds.tw2136269947727277649 : True := trivial
theorem law_holds.tw11924911360389889469 : True := trivial
theorem law_holds.tw520180527934627913 : True := trivial
theorem law_holds.tw12134408205421670959 : True := trivial
theorem law_holds.tw9631777516455689382 : True := trivial
theorem law_holds.tw5437443297558396678 : True := trivial
theorem law_holds.tw5123404419316150 : True := trivial
theorem law_holds.tw15923723764856563912 : True := trivial
theorem law_holds.tw14920527711883184719 : True := trivial
theorem law_holds.tw11789484784352828139 : True := trivial
theorem law_holds.tw1024454922138811184 : True := trivial
theorem law_holds.tw602461330855297101 : True := trivial
theorem law_holds.tw9606376775287448836 : True := trivial
theorem law_holds.tw447027507633508388 : True := trivial
theorem law_holds.tw14561673929254271789 : True := trivial
theorem law_holds.tw14160533322030094474 : True := trivial
theorem law_holds.tw576407869801174206 : True := trivial
theorem law_holds.tw16273140198857503625 : True := trivial
theorem law_holds.tw6507877686720480950 : True := trivial
theorem law_holds.tw6704310671800884803 : True := trivial
theorem law_holds.tw7019463264422422977 : True := trivial
theorem law_holds.tw17255088995462705879 : True := trivial
theorem law_holds.tw15154181528809165683 : True := trivial
theorem law_holds.tw16257229351972016128 : True := trivial
theorem law_holds.tw14774650325386425613 : True := trivial
theorem law_holds.tw11838502802998350659 : True := trivial
theorem law_holds.tw16614716721108272449 : True := trivial
theorem law_holds.tw13397297893571687751 : True := trivial
theorem law_holds.tw7664682514474162845 : True := trivial
theorem law_holds.tw14201498089721532212 : True := trivial
theorem law_holds.tw4037582482628031876 : True := trivial
theorem law_holds.tw12240961182476476926 : True := trivial
theorem law_holds.tw10958410103948607464 : True := trivial
theorem law_holds.tw4503035019201841076 : True := trivial
theorem law_holds.tw7336637973963217214 : True := trivial
theorem law_holds.tw8957123355933967898 : True := trivial
theorem law_holds.tw9992725586745946429 : True := trivial
theorem law_holds.tw16099233806120587224 : True := trivial
theorem law_holds.tw16106779387088534511 : True := trivial
theorem law_holds.tw9069877914133315304 : True := trivial
theorem law_holds.tw11126432536435168541 : True := trivial
theorem law_holds.tw2475230577751417141 : True := trivial
theorem law_holds.tw3253820488102484341 : True := trivial
theorem law_holds.tw7820799176418779761 : True := trivial
theorem law_holds.tw7304591109411159013 : True := trivial
theorem law_holds.tw8549365171731915398 : True := trivial
theorem law_holds.tw2322801206320994539 : True := trivial
theorem law_holds.tw7910590604623066228 : True := trivial
theorem law_holds.tw13447034303474945011 : True := trivial
theorem law_holds.tw4273555757443719353 : True := trivial
theorem law_holds.tw9875236377963488844 : True := trivial
theorem law_holds.tw1670043908289496885 : True := trivial
theorem law_holds.tw13028658284911697911 : True := trivial
theorem law_holds.tw4260448847042921076 : True := trivial
theorem law_holds.tw7408322871517469003 : True := trivial
theorem law_holds.tw6709271908398517637 : True := trivial
theorem law_holds.tw4889031023730116350 : True := trivial
theorem law_holds.tw5022413801572241592 : True := trivial
theorem law_holds.tw6860709855171689206 : True := trivial
theorem law_holds.tw9843604407834444796 : True := trivial
theorem law_holds.tw15661869461025623997 : True := trivial
theorem law_holds.tw2618386414584295968 : True := trivial
theorem law_holds.tw17590937770903843232 : True := trivial
theorem law_holds.tw17237755526102222789 : True := trivial
theorem law_holds.tw16461882675039125421 : True := trivial
theorem law_holds.tw6667284449218939238 : True := trivial
theorem law_holds.tw5212384866228535430 : True := trivial
theorem law_holds.tw14289194402921355359 : True := trivial
theorem law_holds.tw18340598423539479173 : True := trivial
theorem law_holds.tw17180001009569633970 : True := trivial
theorem law_holds.tw8720880381367431298 : True := trivial
theorem law_holds.tw13956741780833797525 : True := trivial
theorem law_holds.tw1377309892636839040 : True := trivial
theorem law_holds.tw16883458599210261866 : True := trivial
theorem law_holds.tw8441880690091102137 : True := trivial
theorem law_holds.tw2075624079617657780 : True := trivial
theorem law_holds.tw10024239376800412576 : True := trivial
theorem law_holds.tw12889673554181485818 : True := trivial
theorem law_holds.tw3850375180904979519 : True := trivial
theorem law_holds.tw15014403891855920072 : True := trivial
theorem law_holds.tw11781800970755023335 : True := trivial
theorem law_holds.tw4030767218360268280 : True := trivial
theorem law_holds.tw18234560199702728603 : True := trivial
theorem law_holds.tw11609493526922420660 : True := trivial
theorem law_holds.tw13766487248619392586 : True := trivial
theorem law_holds.tw18269650602155537469 : True := trivial
theorem law_holds.tw14571795756577361901 : True := trivial
theorem law_holds.tw4992725456586698614 : True := trivial
theorem law_holds.tw6564709946809587534 : True := trivial
theorem law_holds.tw3035144380315620824 : True := trivial
theorem law_holds.tw6159533029260741167 : True := trivial
theorem law_holds.tw10007947361888340627 : True := trivial
theorem law_holds.tw5062152199769849712 : True := trivial
theorem law_holds.tw2558664710541493025 : True := trivial
theorem law_holds.tw9423440377400516374 : True := trivial
theorem law_holds.tw10028117763298573888 : True := trivial
theorem law_holds.tw517122205372281323 : True := trivial
theorem law_holds.tw12459966957829302596 : True := trivial
theorem law_holds.tw14498155544194170393 : True := trivial
theorem law_holds.tw9529696498207198238 : True := trivial
theorem law_holds.tw5506821171919863439 : True := trivial
theorem law_holds.tw9288214680346807717 : True := trivial
theorem law_holds.tw9168033884955339765 : True := trivial
theorem law_holds.tw18326849912455186884 : True := trivial
theorem law_holds.tw14983226153234331074 : True := trivial
theorem law_holds.tw12831907817818079685 : True := trivial
theorem law_holds.tw1928719863018725356 : True := trivial
theorem law_holds.tw1622690429015379626 : True := trivial
theorem law_holds.tw10486713781251687710 : True := trivial
theorem law_holds.tw9184033795430018204 : True := trivial
theorem law_holds.tw14997073306097389879 : True := trivial
theorem law_holds.tw13709617746848070560 : True := trivial
theorem law_holds.tw16887194039231368127 : True := trivial
theorem law_holds.tw8835965917227929528 : True := trivial
theorem law_holds.tw15150646450996357022 : True := trivial
theorem law_holds.tw6896717019858035522 : True := trivial
theorem law_holds.tw11097350217990362986 : True := trivial
theorem law_holds.tw6499956759230125245 : True := trivial
theorem law_holds.tw3426384778480675251 : True := trivial
theorem law_holds.tw9849722394096787677 : True := trivial
theorem law_holds.tw9779807473162285230 : True := trivial
theorem law_holds.tw3438298445031660282 : True := trivial
theorem law_holds.tw3186734533307500241 : True := trivial
theorem law_holds.tw13182730311906835528 : True := trivial
theorem law_holds.tw10188763426450519768 : True := trivial
theorem law_holds.tw17253903310271361901 : True := trivial
theorem law_holds.tw4818577856007422655 : True := trivial
theorem law_holds.tw17911580528928914924 : True := trivial
theorem law_holds.tw123295346585929383 : True := trivial
theorem law_holds.tw653560878884961445 : True := trivial
theorem law_holds.tw5112083995522966620 : True := trivial
theorem law_holds.tw13280740594461564331 : True := trivial
theorem law_holds.tw12116493165278983582 : True := trivial
theorem law_holds.tw2102315897755806987 : True := trivial
theorem law_holds.tw16098122237329998606 : True := trivial
theorem law_holds.tw7185456241796803578 : True := trivial
theorem law_holds.tw8249079356659094474 : True := trivial
theorem law_holds.tw10841264019214440115 : True := trivial
theorem law_holds.tw14335913921861858828 : True := trivial
theorem law_holds.tw8176227357466254829 : True := trivial
theorem law_holds.tw1767730674963353768 : True := trivial
theorem law_holds.tw11065903779536590938 : True := trivial
theorem law_holds.tw4916342969005030805 : True := trivial
theorem law_holds.tw14988988175077273356 : True := trivial
theorem law_holds.tw12476058986133298565 : True := trivial
theorem law_holds.tw7425569058691365973 : True := trivial
theorem law_holds.tw8652346329174877282 : True := trivial
theorem law_holds.tw15802469936163623734 : True := trivial
theorem law_holds.tw9682718004065560343 : True := trivial
theorem law_holds.tw12223724995276690173 : True := trivial
theorem law_holds.tw1186782194237197914 : True := trivial
theorem law_holds.tw12342728606916771844 : True := trivial
theorem law_holds.tw1989176631692091739 : True := trivial
theorem law_holds.tw2143268655074302082 : True := trivial
theorem law_holds.tw6776455111828631412 : True := trivial
theorem law_holds.tw2856731137302751260 : True := trivial
theorem law_holds.tw16893121556090616931 : True := trivial
theorem law_holds.tw888361636418404089 : True := trivial
theorem law_holds.tw15448297888555860652 : True := trivial
theorem law_holds.tw10242277825702978295 : True := trivial
theorem law_holds.tw15472126771306010800 : True := trivial
theorem law_holds.tw17027635718292003107 : True := trivial
theorem law_holds.tw3776956092104397036 : True := trivial
theorem law_holds.tw631266038723830076 : True := trivial
theorem law_holds.tw3956099054510807996 : True := trivial
theorem law_holds.tw15607887362523206001 : True := trivial
theorem law_holds.tw13220211186989608806 : True := trivial
theorem law_holds.tw6911747868599837429 : True := trivial
theorem law_holds.tw9759124837219819334 : True := trivial
theorem law_holds.tw12785981023593982270 : True := trivial
theorem law_holds.tw15806970514647361693 : True := trivial
theorem law_holds.tw4439653461905209652 : True := trivial
theorem law_holds.tw11404014056486942332 : True := trivial
theorem law_holds.tw12732824653754844360 : True := trivial
theorem law_holds.tw8369274380968253667 : True := trivial
theorem law_holds.tw2446358144275080391 : True := trivial
theorem law_holds.tw302768837105346163 : True := trivial
theorem law_holds.tw11026575858783421537 : True := trivial
theorem law_holds.tw4329158554759489670 : True := trivial
theorem law_holds.tw2644310842459337959 : True := trivial
theorem law_holds.tw16674325987445784360 : True := trivial
theorem law_holds.tw5640673133297012132 : True := trivial
theorem law_holds.tw14925382992726071281 : True := trivial
theorem law_holds.tw16720094985154256693 : True := trivial
theorem law_holds.tw5821855803836879357 : True := trivial
theorem law_holds.tw13882729330811710610 : True := trivial
theorem law_holds.tw15352839923633478061 : True := trivial
theorem law_holds.tw11347954631545130290 : True := trivial
theorem law_holds.tw14822640431511872941 : True := trivial
theorem law_holds.tw6723812968561706957 : True := trivial
theorem law_holds.tw17295586203589526084 : True := trivial
theorem law_holds.tw9086603574393679603 : True := trivial
theorem law_holds.tw14596297492920191028 : True := trivial
theorem law_holds.tw4370086069003782432 : True := trivial
set_option Elab.async true in
set_option maxRecDepth 100000 in
set_option maxHeartbeats 8000000 in
theorem law_holds : PySem.Challenge.rw_in0264_01.Holds := by
  w_on
  o_law
  k_head
  (case hw => w_witness2)
  w_strict (
      k_go0
      rename World => w
      rename Frag.In _ _ => X
      replace X : (H w.params).In _ := X
      (try k_fold)
      k_steps
      refine MyStop.intro ?_
      rename News _ _ _ _ => N2
      rename Fr _ _ _ _ => F2
      rename IntsAre _ (List.take 10 _) => hi
      rename World => w
      (try (rename Dflts _ _ _ _ _ _ => hDf; clear hDf))
      generalize hds : List.take 10 _ = ds at hi
      have hdl : ds.length ≤ 10 := by rw [← hds, List.length_take]; lia
      clear hds
      k_dflt (refine' LCg.CompSrc.ledger rfl F2 N2 ?m ?s ?_)
      case m => walk_at "my mem"
      case s =>
        have := hi.length
        simp only [List.size_toArray, PySem.sizeLine_eq]; lia
      intro g
      rw [List.size_toArray]
      refine rest_pure _ (fun i v y => ∃ n t, ds[i]? = some n ∧ y = .int (n.fmod 36) t) (.inr ⟨_, by walk_at "my mem", rfl, _, rfl⟩) ?elt ?fin
      case elt =>
        intro i v I oI C oC D oD m₂ h tk hlt hP hns hx F N
        obtain ⟨n, t, hn, rfl⟩ := ints_get hi (by simpa using hP)
        k_steps
        exact ⟨⟨_, _, hn, rfl⟩, _, _, rfl, F, N⟩
      case fin =>
        intro dv hdv hall
        have hdi : IntsAre dv (ds.map fun n => n.fmod 36) := ints_of (by simp [hdv, hi.length]) fun j y hj => by
          obtain ⟨v, _, n, t, hn, e⟩ := hall j y hj
          exact ⟨_, t, by rw [List.getElem?_map, hn]; rfl, e⟩
        have hdr : ∀ x ∈ ds.map (fun n => n.fmod 36), 0 ≤ x ∧ x < 36 := fun x hx => by
          obtain ⟨n, _, rfl⟩ := List.mem_map.mp hx
          exact ⟨Int.fmod_nonneg_of_pos n (by decide), Int.fmod_lt_of_pos n (by decide)⟩
        have hdrl : (ds.map fun n => n.fmod 36).length ≤ 10 := by rw [List.length_map]; exact hdl
        generalize (ds.map fun n => n.fmod 36) = dr at hdi hdr hdrl
        clear hall hdv
        unfold LCg.FinA
        intro D h tk F3 N3 off
        dsimp only at F3 N3 ⊢
        clear F2 N2 hi hdl
        k_steps
        refine WStop.intro ?_
        rename News _ _ _ _ => N2
        rename Fr _ _ _ _ => F2
        refine con_use (pieces_con w _ dv dr _ hdi hdrl) (by k_asm) F2 (by k_asm) N2 (by k_asm) rfl (by walk_at "my mem") (by decide) (by decide) ?_
        intro r9 news9 h9 tk9 F9 N9 P9
        obtain ⟨Dp, us, np, e9, mp, q9, ap⟩ := P9
        subst e9
        have md : ∃ nd, (D, listOf dv.toArray nd) ∈ news9 := ⟨_, q9 _ (by walk_at "my mem")⟩
        obtain ⟨nd, md⟩ := md
        have m64 : (64, tabObj #[]) ∈ news9 := q9 _ (by walk_at "my mem")
        clear q9 F2 N2
        generalize hks : [3] ++ dr.map kd ++ [3, 3] = ks at ap
        have hkl : ks.length ≤ 13 := by rw [← hks]; simp; lia
        have hk12 : ∀ k ∈ ks, k < 12 := by
          rw [← hks]
          intro k hk
          rcases List.mem_append.mp hk with hk | hk
          · rcases List.mem_append.mp hk with hk | hk
            · rw [List.mem_singleton.mp hk]; decide
            · obtain ⟨y, _, rfl⟩ := List.mem_map.mp hk
              have h1 : y.fmod 12 < 12 := Int.fmod_lt_of_pos y (by decide)
              have h2 : 0 ≤ y.fmod 12 := Int.fmod_nonneg_of_pos y (by decide)
              unfold kd; lia
          · simp at hk; rw [hk]; decide
        clear hks
        (try dsimp only)
        (try k_fold)
        k_steps
        refine MyStop.intro ?_
        rename News _ _ _ _ => N2
        rename Fr _ _ _ _ => F2
        refine LCg.CompSrc.ledger rfl F2 N2 md (by have := hdi.length; simp only [List.size_toArray, PySem.sizeLine_eq]; lia) ?_
        intro g
        rw [List.size_toArray]
        refine rest_pure _ (fun i v y => ∃ n t, dr[i]? = some n ∧ y = .int (n.fdiv 12) t) (.inr ⟨_, md, rfl, _, rfl⟩) ?elt2 ?fin2
        case elt2 =>
          intro i v I oI C oC D oD m₂ h tk hlt hP hns hx F N
          obtain ⟨n, t, hn, rfl⟩ := ints_get hdi (by simpa using hP)
          k_steps
          exact ⟨⟨_, _, hn, rfl⟩, _, _, rfl, F, N⟩
        case fin2 =>
          intro rv hrv hall
          have hri : IntsAre rv (dr.map fun n => n.fdiv 12) := ints_of (by simp [hrv, hdi.length]) fun j y hj => by
            obtain ⟨v, _, n, t, hn, e⟩ := hall j y hj
            exact ⟨_, t, by rw [List.getElem?_map, hn]; rfl, e⟩
          have hrr : ∀ x ∈ dr.map (fun n => n.fdiv 12), 0 ≤ x ∧ x < 3 := fun x hx => by
            obtain ⟨n, hn, rfl⟩ := List.mem_map.mp hx
            have := hdr n hn
            rw [Int.fdiv_eq_ediv_of_nonneg _ (by decide)]
            lia
          have hrl : (dr.map fun n => n.fdiv 12).length ≤ 10 := by rw [List.length_map]; exact hdrl
          generalize (dr.map fun n => n.fdiv 12) = rs at hri hrr hrl
          have hrvl : rv.length ≤ 10 := by rw [hri.length]; exact hrl
          clear hall hrv hdr hdrl hdi
          unfold LCg.FinE
          intro D1 h1 tk1 F3 N3 off
          dsimp only at F3 N3 ⊢
          clear F2 N2 md
          k_steps
          refine MyStop.intro ?_
          rename News _ _ _ _ => N2
          rename Fr _ _ _ _ => F2
          obtain ⟨Dr, tr, hDr, htr⟩ := row_ex N2
          subst hDr
          rw [← htr] at N2
          have hri2 : IntsAre (rv ++ [Value.int 2 tr]) (rs ++ [2]) := ints_snoc hri
          have hrr2 : ∀ x ∈ rs ++ [2], 0 ≤ x ∧ x < 3 := fun x hx => by
            rcases List.mem_append.mp hx with hx | hx
            · exact hrr x hx
            · rw [List.mem_singleton.mp hx]; decide
          have hrl2 : (rs ++ [2]).length ≤ 11 := by simp; lia
          have N3 : News _ _ _ ((Dr, listOf (rv ++ [Value.int 2 tr]).toArray 0) :: news9) := news_sub N2 (by refine List.forall_mem_cons.mpr ⟨?_, ?_⟩; (focus (walk_at "my mem")); walk_at "my sub")
          generalize (rv ++ [Value.int 2 tr]) = rw_ at N3 hri2
          generalize rs ++ [2] = rs2 at hri2 hrr2 hrl2
          have hrwl : rw_.length ≤ 11 := by rw [hri2.length]; exact hrl2
          clear N2 htr hri hrr hrl hrvl
          obtain ⟨nw2, hnw2⟩ := led_of N3
          have mr : (Dr, listOf rw_.toArray 0) ∈ nw2 := by rw [hnw2]; exact .head _
          have mp2 := (show ∀ p ∈ news9, p ∈ nw2 by rw [hnw2]; exact fun p hp => .tail _ hp)
          have mp' := mp2 _ mp
          have m64' := mp2 _ m64
          have ap' := ap.mono' mp2
          rw [← hnw2] at N3
          clear hnw2 mp2 mp m64 ap
          have hksl : ks.length = us.length := ap'.1.symm
          refine LCp.SrcLP.ledger rfl F2 N3 mp' (by simp only [List.size_toArray, PySem.sizeLine_eq]; lia) ?_
          intro g
          rw [List.size_toArray]
          refine rest_first _ (ks.map sgn) (by rw [List.length_map]; exact hksl) (.inr ⟨_, mp', rfl, _, rfl⟩) (fun i v y hi hv hy => ap'.firsts i v y (by simpa using hv) hy) rfl (by rfl) (by decide) ?_
          intro sv hsv
          unfold LCg.FinE
          intro D2 h2 tk2 F4 N4 off2
          dsimp only at F4 N4 ⊢
          have hsum := pat_sum ks (by lia)
          clear F2 N3
          k_steps
          refine WStop.intro ?_
          rename News _ _ _ _ => N2
          rename Fr _ _ _ _ => F2
          refine con_use (told_con w _ _ us rw_ ks rs2 _ _ hri2 (by lia) hrr2 (by lia) hk12) (by k_asm) F2 (by k_asm) N2 (by k_asm) rfl ⟨.tail _ mp', .tail _ mr, ap'.mono' (fun p hp => .tail _ hp)⟩ (by decide) (by decide) ?_
          intro r9 news3 h9 tk9 F9 N9 P9
          obtain ⟨Du, us', nu, e9, mu, q9, au⟩ := P9
          subst e9
          have mp3 := q9 _ (.tail _ mp')
          have mr3 := q9 _ (.tail _ mr)
          have m643 := q9 _ (.tail _ m64')
          have ap3 := ap'.mono' fun p hp => q9 p (.tail _ hp)
          have tl := told_len ks rs2 hrr2
          have tlt := told_lt ks rs2 hk12
          have hpT : T (Txt.join (Str.ofString "") (ks.map sgn)) = catL ks := pat_T ks
          generalize Txt.join (Str.ofString "") (ks.map sgn) = pat at hpT F9
          have hpl : pat.length ≤ 100 := by rw [T_len, hpT]; have := catL_len ks; lia
          have hlT := left_told ks rs2 hrr2 pat hpT
          have heT := expr_told ks rs2 hrr2
          generalize hdu : told ks rs2 = du at au tl tlt hlT heT
          clear q9 ap' m64' mr mp' N2 F2 hsum hdu
          (try dsimp only)
          (try k_fold)
          k_steps
          refine WStop.intro ?_
          rename News _ _ _ _ => N2
          rename Fr _ _ _ _ => F2
          refine con_use (reduce3_con w _ _ _ rw_ rs2 _ hri2 (by lia) (by lia)) (by k_asm) F2 (by k_asm) N2 (by k_asm) rfl mr3 (by decide) (by decide) ?_
          intro r9 news9 h9 tk9 F9 N9 P9
          obtain ⟨e9, t9, e8⟩ := P9
          subst e9
          subst e8
          have hll : (rs2.foldl deedS pat).length ≤ 300 := by rw [T_len, hlT]; have := catL_len du; lia
          generalize hle : rs2.foldl deedS pat = left at hlT hll F9
          have hle2 : left = rs2.foldl deedS pat := hle.symm
          clear hle
          clear N2 F2
          (try dsimp only)
          (try k_fold)
          k_steps
          refine WStop.intro ?_
          rename News _ _ _ _ => N2
          rename Fr _ _ _ _ => F2
          rename _ = #[] => hgens
          refine con_useG (trans_con w pat _ ks hk12 (by lia) hpT (by lia) (rest64 news3) (rest64_ne _)) (by k_asm) F2 (by k_asm) N2 (by k_asm) rfl ⟨_, TabOk.nil, m643, rest64_sub _⟩ (by decide) (by decide) (AllBare.of_eq hgens) ?_
          intro r9 news4 h9 tk9 gs9 F9 N9 G9 P9
          obtain ⟨ps4, t4, ok4, m644, hr4, e9⟩ := P9
          subst e9
          have mp4 := hr4 _ (rest64_mem N2 m643 mp3 nofun)
          have mr4 := hr4 _ (rest64_mem N2 m643 mr3 nofun)
          have mu4 := hr4 _ (rest64_mem N2 m643 mu nofun)
          have ap4 := (ap3.rest N2 m643).mono' hr4
          have au4 := (au.rest N2 m643).mono' hr4
          have hwl := expr_len ks
          have hww : (Str.ofString "(?s:" ++ exprS ks ++ Str.ofString ")\\Z").length ≤ sizeLine := by
            have e1 : (Str.ofString "(?s:").length = 4 := by decide
            have e2 : (Str.ofString ")\\Z").length = 3 := by decide
            rw [len_app, len_app, e1, e2, PySem.sizeLine_eq]; lia
          clear N2 F2 hr4 mp3 mr3 mu ap3 au m643
          (try dsimp only)
          (try k_fold)
          k_steps
          refine WStop.intro ?_
          rename News _ _ _ _ => N2
          rename Fr _ _ _ _ => F2
          refine con_use (expr_con w _ us ks _ (by lia)) (by k_asm) F2 (by k_asm) N2 (by k_asm) rfl ⟨mp4, ap4⟩ (by decide) (by decide) ?_
          intro r9 news9 h9 tk9 F9 N9 P9
          obtain ⟨e9, t9, e8⟩ := P9
          subst e9
          subst e8
          clear N2 F2
          (try dsimp only)
          (try k_fold)
          k_steps
          refine MyStop.intro ?_
          rename News _ _ _ _ => N2
          rename Fr _ _ _ _ => F2
          change News _ _ _ news4 at N2
          have hdl2 : du.length = us'.length := au4.1.symm
          refine LCp.SrcLP.ledger rfl F2 N2 mu4 (by simp only [List.size_toArray, PySem.sizeLine_eq]; lia) ?_
          intro g
          rw [List.size_toArray]
          refine rest_first _ (du.map sgn) (by rw [List.length_map]; exact hdl2) (.inr ⟨_, mu4, rfl, _, rfl⟩) (fun i v y hi hv hy => au4.firsts i v y (by simpa using hv) hy) rfl (by rfl) (by decide) ?_
          intro sw hsw
          unfold LCg.FinE
          intro D3 h3 tk3 F4 N4 off3
          dsimp only at F4 N4 ⊢
          have hsum := pat_sum du (by lia)
          have hleft : left = Txt.join (Str.ofString "") (du.map sgn) := str_eq (hlT.trans (pat_T du).symm)
          clear F2 N2
          k_steps
          refine WStop.intro ?_
          rename News _ _ _ _ => N2
          rename Fr _ _ _ _ => F2
          refine con_use (reduce2_con w pat _ _ rw_ rs2 _ hri2 (by lia) (by lia)) (by k_asm) F2 (by k_asm) N2 (by k_asm) rfl (List.Mem.head _) (by decide) (by decide) ?_
          intro r9 news9 h9 tk9 F9 N9 P9
          obtain ⟨e9, t9, e8⟩ := P9
          subst e9
          subst e8
          clear N2 F2
          have hxl := expr_len du
          have hxl2 : (exprS du).length ≤ 500 := by lia
          (try dsimp only)
          (try k_fold)
          k_steps
          refine WStop.intro ?_
          rename News _ _ _ _ => N2
          rename Fr _ _ _ _ => F2
          refine con_use (expr_con w _ us' du _ (by lia)) (by k_asm) F2 (by k_asm) N2 (by k_asm) rfl ⟨by walk_at "my mem", au4.mono' (by walk_at "my sub")⟩ (by decide) (by decide) ?_
          intro r9 news9 h9 tk9 F9 N9 P9
          obtain ⟨e9, t9, e8⟩ := P9
          subst e9
          subst e8
          clear N2 F2
          (try dsimp only)
          (try k_fold)
          k_steps
          refine WStop.intro ?_
          rename News _ _ _ _ => N2
          rename Fr _ _ _ _ => F2
          have N3 : News _ _ _ news4 := news_sub N2 (by walk_at "my sub")
          clear N2
          refine con_useG (tr_con w .none (.inl rfl) left _ _ du tlt (by lia) hlT (by lia) (rest64 news4) (rest64_ne _)) (by k_asm) F2 (by k_asm) N3 (by k_asm) rfl ⟨ps4, ok4, m644, rest64_sub _⟩ (by decide) (by decide) G9 ?_
          intro r9 news5 h9 tk9 gs5 F9 N9 G5 P9
          obtain ⟨ps5, D5, vs5, n5, ok5, m645, hr5, e9, l5, a5⟩ := P9
          subst e9
          have mr5 := hr5 _ (rest64_mem N3 m644 mr4 nofun)
          obtain ⟨pre, segs, hP, hok, hjoin, hsumP⟩ := parts_expr du
          clear N3 F2 G9 hr5 mp4 mu4 ap4 au4 mr4 m644 ok4
          (try dsimp only)
          (try k_fold)
          k_steps
          refine WStop.intro ?_
          rename News _ _ _ _ => N2
          rename Fr _ _ _ _ => F2
          refine con_use (join_any w _ _ (.inl rfl) vs5 pre segs n5 hok (hP ▸ a5) (partsO_len2 a5 (by lia)) (by lia)) (by k_asm) F2 (by k_asm) N2 (by k_asm) rfl l5 (by decide) (by decide) ?_
          intro r9 news8 h8 tk8 F8 N8 P8
          obtain ⟨e8, t8, e9⟩ := P8
          subst e8
          subst e9
          rw [hjoin]
          clear N2 F2
          (try dsimp only)
          (try k_fold)
          k_steps
          refine WStop.intro ?_
          rename News _ _ _ _ => N2
          rename Fr _ _ _ _ => F2
          refine con_useG (trans_con w left _ du tlt (by lia) hlT (by lia) (rest64 news5) (rest64_ne _)) (by k_asm) F2 (by k_asm) N2 (by k_asm) rfl ⟨ps5, ok5, m645, rest64_sub _⟩ (by decide) (by decide) G5 ?_
          intro r9 news6 h9 tk9 gs6 F9 N9 G6 P9
          obtain ⟨ps6, t6, ok6, m646, hr6, e9⟩ := P9
          subst e9
          have mr6 := hr6 _ (rest64_mem N2 m645 mr5 nofun)
          clear N2 F2 G5 hr6 mr5 m645 ok5
          (try dsimp only)
          (try k_fold)
          k_steps
          refine WStop.intro ?_
          rename News _ _ _ _ => N2
          rename Fr _ _ _ _ => F2
          refine con_use (reduce3_con w _ _ _ rw_ rs2 _ hri2 (by rw [within_expr]; lia) (by lia)) (by k_asm) F2 (by k_asm) N2 (by k_asm) rfl mr6 (by decide) (by decide) ?_
          intro r9 news9 h9 tk9 F9 N9 P9
          obtain ⟨e9, t9, e8⟩ := P9
          subst e9
          rw [within_expr, heT] at e8
          subst e8
          clear N2 F2
          (try dsimp only)
          (try k_fold)
          k_steps
          refine WStop.intro ?_
          rename News _ _ _ _ => N2
          refine eq_three (News.isList N2 (by walk_at "my mem")) (News.isList N2 (by walk_at "my mem")) (by ktr_units) ?_
          dsimp only
          rename Fr _ _ _ _ => F2
          refine ⟨⟨goodW_bool F2 rfl (raisesW_false ?hn) ?hp, G6⟩, GrownAt.of N2 (by walk_at "my mem"), trivial⟩
          case hn => wrow_none_raised
          case hp => exact law_post _)
end
end Mine
theorem PySem.Challenge.cw_in0264_01_holds : PySem.Challenge.rw_in0264_01.Holds :=
  Mine.law_holds
