import PyProof.Rows.All
import Wide.All
import OpenK.AllK
import Wide.FinOn
import Lean
import PySem.Challenge.RW_sn0038_01
open PySem PySem.W PyProof.Rows
set_option Elab.async false
set_option maxRecDepth 100000
set_option maxHeartbeats 8000000
set_option rowWalk.seconds 0
namespace Mine
local macro_rules | `(tactic| walk_at "execs cons") => `(tactic| k_extra "my execs cons")
local macro_rules | `(tactic| walk_at "call ref") => `(tactic| k_extra "my call ref")
local macro_rules | `(tactic| walk_at "subscriptTail Name Slice ref ref") => `(tactic| k_extra "my subscriptTail Name Slice ref ref")
local macro_rules | `(tactic| walk_at "binaryOp FloorDiv int int") => `(tactic| k_extra "my binaryOp FloorDiv int int")
local macro_rules | `(tactic| walk_at "exec For Name Call cons nil") => `(tactic| k_extra "my exec For Name Call cons nil")
local macro_rules | `(tactic| walk_at "exec For Name Name cons nil") => `(tactic| k_extra "my exec For Name Name cons nil")
local macro_rules | `(tactic| walk_at "eval ListComp") => `(tactic| k_extra "my eval ListComp")
local macro_rules | `(tactic| walk_at "exec Assign cons ListComp") => `(tactic| k_extra "my exec Assign cons ListComp")
local macro_rules | `(tactic| walk_at "CompSrcT") => `(tactic| k_extra "my CompSrcT")
local macro_rules | `(tactic| walk_at "CompSrc") => `(tactic| k_extra "my CompSrc")
local macro_rules | `(tactic| walk_at "CompRestT") => `(tactic| k_extra "my CompRestT")
local macro_rules | `(tactic| walk_at "CompRest") => `(tactic| k_extra "my CompRest")
local macro_rules | `(tactic| walk_at "pyIter ref") => `(tactic| k_extra "my pyIter ref")
local macro_rules | `(tactic| walk_at "subscriptTail") => `(tactic| k_extra "my subscriptTail")
local macro_rules | `(tactic| walk_at "compareOp Eq ref ref") => `(tactic| k_extra "my compareOp Eq ref ref")
local macro_rules | `(tactic| walk_at "compareOp NotEq ref ref") => `(tactic| k_extra "my compareOp NotEq ref ref")
local macro_rules | `(tactic| walk_at "exec For Name Attribute cons nil") => `(tactic| k_extra "my exec For Name Attribute cons nil")
local macro_rules | `(tactic| walk_at "SrcB") => `(tactic| k_extra "my SrcB")
local macro_rules | `(tactic| walk_at "subscriptTail Name Name ref int") => `(tactic| k_extra "my subscriptTail Name Name ref int")
local macro_rules | `(tactic| walk_at "subscriptTail Name BinOp ref int") => `(tactic| k_extra "my subscriptTail Name BinOp ref int")
local macro_rules | `(tactic| walk_at "exec") => `(tactic| k_extra "my exec")
local macro_rules | `(tactic| walk_at "call builtin:len") => `(tactic| k_extra "my call builtin:len")
local macro_rules | `(tactic| walk_at "call builtin:min") => `(tactic| k_extra "my call builtin:min")
local macro_rules | `(tactic| walk_at "call builtin:max") => `(tactic| k_extra "my call builtin:max")
local macro_rules | `(tactic| walk_at "SrcK") => `(tactic| k_extra "my SrcK")
local macro_rules | `(tactic| walk_at "eval Name") => `(tactic| k_extra "my eval Name")
local macro_rules | `(tactic| walk_at "subscriptTail Name UnaryOp ref int") => `(tactic| k_extra "my subscriptTail Name UnaryOp ref int")
section
noncomputable def qst (i : Nat) : Stmt := PySem.Challenge.pw_sn0038_01.main.body.getD i (.Pass default)
noncomputable def qin (i j : Nat) : Stmt := match qst i with
  | .ClassDef _ _ _ b _ _ _ _ _ _ _ => b.getD j (.Pass default)
  | s => s
noncomputable def qa : Stmt → Arguments
  | .FunctionDef _ a _ _ _ _ _ _ _ _ => a
  | _ => default
noncomputable def qb : Stmt → List Stmt
  | .FunctionDef _ _ b _ _ _ _ _ _ _ => b
  | _ => []
noncomputable def qs : Stmt → Scope
  | .FunctionDef _ _ _ _ _ _ s _ _ _ => s
  | _ => default
noncomputable def kq2 (P : Params) : Obj := { cls := Value.none, data := Data.dict #[] }
noncomputable def kq3 (P : Params) : Obj := { cls := Value.type "dict", data := Data.dict #[{ hash := PyData.keyHash P (Str.ofString "__name__"), key := Value.str (Str.ofString "__name__") 165, val := Value.str (Str.ofString "law_sn0038_01") 347 }, { hash := PyData.keyHash P (Str.ofString "__doc__"), key := Value.str (Str.ofString "__doc__") 166, val := Value.none }, { hash := PyData.keyHash P (Str.ofString "__package__"), key := Value.str (Str.ofString "__package__") 167, val := Value.none }, { hash := PyData.keyHash P (Str.ofString "__loader__"), key := Value.str (Str.ofString "__loader__") 168, val := Value.builtin "__main__.__loader__#opaque" }, { hash := PyData.keyHash P (Str.ofString "__spec__"), key := Value.str (Str.ofString "__spec__") 169, val := Value.none }, { hash := PyData.keyHash P (Str.ofString "__annotations__"), key := Value.str (Str.ofString "__annotations__") 170, val := Value.ref 6 }, { hash := PyData.keyHash P (Str.ofString "__builtins__"), key := Value.str (Str.ofString "__builtins__") 171, val := Value.ref 4 }, { hash := PyData.keyHash P (Str.ofString "__file__"), key := Value.str (Str.ofString "__file__") 173, val := Value.str (Str.ofString "/claim/cut.py") 172 }, { hash := PyData.keyHash P (Str.ofString "__cached__"), key := Value.str (Str.ofString "__cached__") 174, val := Value.none }, { hash := PyData.keyHash P (Str.ofString "_wall"), key := Value.str (Str.ofString "_wall") 193, val := Value.ref 21 }, { hash := PyData.keyHash P (Str.ofString "insort_right"), key := Value.str (Str.ofString "insort_right") 208, val := Value.ref 30 }, { hash := PyData.keyHash P (Str.ofString "bisect_right"), key := Value.str (Str.ofString "bisect_right") 222, val := Value.ref 39 }, { hash := PyData.keyHash P (Str.ofString "bisect_left"), key := Value.str (Str.ofString "bisect_left") 236, val := Value.ref 48 }, { hash := PyData.keyHash P (Str.ofString "Int2AP"), key := Value.str (Str.ofString "Int2AP") 248, val := Value.ref 55 }, { hash := PyData.keyHash P (Str.ofString "Whitespace"), key := Value.str (Str.ofString "Whitespace") 346, val := Value.ref 117 }, { hash := PyData.keyHash P (Str.ofString "_law_common"), key := Value.str (Str.ofString "_law_common") 356, val := Value.ref 128 }, { hash := PyData.keyHash P (Str.ofString "_law_coins"), key := Value.str (Str.ofString "_law_coins") 367, val := Value.ref 135 }, { hash := PyData.keyHash P (Str.ofString "_law_parted"), key := Value.str (Str.ofString "_law_parted") 373, val := Value.ref 140 }, { hash := PyData.keyHash P (Str.ofString "_law_prices"), key := Value.str (Str.ofString "_law_prices") 379, val := Value.ref 145 }, { hash := PyData.keyHash P (Str.ofString "_law_lead"), key := Value.str (Str.ofString "_law_lead") 385, val := Value.ref 150 }, { hash := PyData.keyHash P (Str.ofString "_law_number"), key := Value.str (Str.ofString "_law_number") 394, val := Value.ref 157 }, { hash := PyData.keyHash P (Str.ofString "_law_read"), key := Value.str (Str.ofString "_law_read") 403, val := Value.ref 164 }, { hash := PyData.keyHash P (Str.ofString "_law_ones"), key := Value.str (Str.ofString "_law_ones") 409, val := Value.ref 169 }, { hash := PyData.keyHash P (Str.ofString "_law_found"), key := Value.str (Str.ofString "_law_found") 418, val := Value.ref 176 }, { hash := PyData.keyHash P (Str.ofString "_law_words"), key := Value.str (Str.ofString "_law_words") 424, val := Value.ref 181 }, { hash := PyData.keyHash P (Str.ofString "_law_holds"), key := Value.str (Str.ofString "_law_holds") 430, val := Value.ref 186 }, { hash := PyData.keyHash P (Str.ofString "law"), key := Value.str (Str.ofString "law") 436, val := Value.ref 191 }] 27 }
noncomputable def kq22 (P : Params) : Obj := { cls := Value.type "tuple", data := Data.seq #[Value.int 0 196, Value.none] }
noncomputable def kq23 (P : Params) : Obj := { cls := Value.type "dict", data := Data.dict #[{ hash := PyData.keyHash P (Str.ofString "key"), key := Value.str (Str.ofString "key") 197, val := Value.none }] 1 }
noncomputable def kq29 (P : Params) : Obj := { cls := Value.type "code", data := Data.fields #[Value.str (Str.ofString "insort_right") 198, Value.str (Str.ofString "insort_right") 199, Value.str (Str.ofString "/claim/cut.py") 200, Value.int 5 0, Value.int 4 0, Value.int 0 0, Value.int 1 0, Value.int 3 0, Value.ref 24, Value.bool true, Value.int 181 0, Value.ref 25, Value.none, Value.ref 26, Value.ref 27, Value.ref 28, Value.int 206 0, Value.int 5 0, Value.str (Str.ofString "/claim/cut.py") 207] }
noncomputable abbrev ar30 : {s : Arguments // s = qa (qst 2)} := ⟨_, by conv => { rhs; whnf }⟩
noncomputable abbrev bo30 : {s : List Stmt // s = qb (qst 2)} := ⟨_, by conv => { rhs; whnf }⟩
noncomputable abbrev sc30 : {s : Scope // s = qs (qst 2)} := ⟨_, by conv => { rhs; whnf }⟩
noncomputable def kq30 (P : Params) : Obj := { cls := Value.type "function", data := Data.func { name := Str.ofString "insort_right", qualname := Str.ofString "insort_right", params := ar30.1, body := .stmts bo30.1, scope := sc30.1, globals := 3, closure := [], defaults := Value.ref 22, kwdefaults := Value.ref 23, pyModule := Value.str (Str.ofString "cpy313.bisect") 194, code := Value.ref 29 } }
noncomputable def kq31 (P : Params) : Obj := { cls := Value.type "tuple", data := Data.seq #[Value.int 0 209, Value.none] }
noncomputable def kq32 (P : Params) : Obj := { cls := Value.type "dict", data := Data.dict #[{ hash := PyData.keyHash P (Str.ofString "key"), key := Value.str (Str.ofString "key") 210, val := Value.none }] 1 }
noncomputable def kq38 (P : Params) : Obj := { cls := Value.type "code", data := Data.fields #[Value.str (Str.ofString "bisect_right") 211, Value.str (Str.ofString "bisect_right") 212, Value.str (Str.ofString "/claim/cut.py") 213, Value.int 11 0, Value.int 4 0, Value.int 0 0, Value.int 1 0, Value.int 3 0, Value.ref 33, Value.bool true, Value.int 181 0, Value.ref 34, Value.none, Value.ref 35, Value.ref 36, Value.ref 37, Value.int 220 0, Value.int 11 0, Value.str (Str.ofString "/claim/cut.py") 221] }
noncomputable abbrev ar39 : {s : Arguments // s = qa (qst 3)} := ⟨_, by conv => { rhs; whnf }⟩
noncomputable abbrev bo39 : {s : List Stmt // s = qb (qst 3)} := ⟨_, by conv => { rhs; whnf }⟩
noncomputable abbrev sc39 : {s : Scope // s = qs (qst 3)} := ⟨_, by conv => { rhs; whnf }⟩
noncomputable def kq39 (P : Params) : Obj := { cls := Value.type "function", data := Data.func { name := Str.ofString "bisect_right", qualname := Str.ofString "bisect_right", params := ar39.1, body := .stmts bo39.1, scope := sc39.1, globals := 3, closure := [], defaults := Value.ref 31, kwdefaults := Value.ref 32, pyModule := Value.str (Str.ofString "cpy313.bisect") 194, code := Value.ref 38 } }
noncomputable def kq40 (P : Params) : Obj := { cls := Value.type "tuple", data := Data.seq #[Value.int 0 223, Value.none] }
noncomputable def kq41 (P : Params) : Obj := { cls := Value.type "dict", data := Data.dict #[{ hash := PyData.keyHash P (Str.ofString "key"), key := Value.str (Str.ofString "key") 224, val := Value.none }] 1 }
noncomputable def kq47 (P : Params) : Obj := { cls := Value.type "code", data := Data.fields #[Value.str (Str.ofString "bisect_left") 225, Value.str (Str.ofString "bisect_left") 226, Value.str (Str.ofString "/claim/cut.py") 227, Value.int 31 0, Value.int 4 0, Value.int 0 0, Value.int 1 0, Value.int 3 0, Value.ref 42, Value.bool true, Value.int 181 0, Value.ref 43, Value.none, Value.ref 44, Value.ref 45, Value.ref 46, Value.int 234 0, Value.int 31 0, Value.str (Str.ofString "/claim/cut.py") 235] }
noncomputable abbrev ar48 : {s : Arguments // s = qa (qst 4)} := ⟨_, by conv => { rhs; whnf }⟩
noncomputable abbrev bo48 : {s : List Stmt // s = qb (qst 4)} := ⟨_, by conv => { rhs; whnf }⟩
noncomputable abbrev sc48 : {s : Scope // s = qs (qst 4)} := ⟨_, by conv => { rhs; whnf }⟩
noncomputable def kq48 (P : Params) : Obj := { cls := Value.type "function", data := Data.func { name := Str.ofString "bisect_left", qualname := Str.ofString "bisect_left", params := ar48.1, body := .stmts bo48.1, scope := sc48.1, globals := 3, closure := [], defaults := Value.ref 40, kwdefaults := Value.ref 41, pyModule := Value.str (Str.ofString "cpy313.bisect") 194, code := Value.ref 47 } }
noncomputable def kq54 (P : Params) : Obj := { cls := Value.type "code", data := Data.fields #[Value.str (Str.ofString "Int2AP") 239, Value.str (Str.ofString "Int2AP") 240, Value.str (Str.ofString "/claim/cut.py") 241, Value.int 52 0, Value.int 1 0, Value.int 0 0, Value.int 0 0, Value.int 3 0, Value.ref 49, Value.bool true, Value.int 181 0, Value.ref 50, Value.none, Value.ref 51, Value.ref 52, Value.ref 53, Value.int 246 0, Value.int 52 0, Value.str (Str.ofString "/claim/cut.py") 247] }
noncomputable abbrev ar55 : {s : Arguments // s = qa (qst 6)} := ⟨_, by conv => { rhs; whnf }⟩
noncomputable abbrev bo55 : {s : List Stmt // s = qb (qst 6)} := ⟨_, by conv => { rhs; whnf }⟩
noncomputable abbrev sc55 : {s : Scope // s = qs (qst 6)} := ⟨_, by conv => { rhs; whnf }⟩
noncomputable def kq55 (P : Params) : Obj := { cls := Value.type "function", data := Data.func { name := Str.ofString "Int2AP", qualname := Str.ofString "Int2AP", params := ar55.1, body := .stmts bo55.1, scope := sc55.1, globals := 3, closure := [], defaults := Value.none, kwdefaults := Value.none, pyModule := Value.str (Str.ofString "cpy313.imaplib") 237, code := Value.ref 54 } }
noncomputable def kq71 (P : Params) : Obj := { cls := Value.type "code", data := Data.fields #[Value.str (Str.ofString "__init__") 268, Value.str (Str.ofString "Whitespace.__init__") 269, Value.str (Str.ofString "/claim/cut.py") 270, Value.int 64 0, Value.int 2 0, Value.int 0 0, Value.int 0 0, Value.int 3 0, Value.ref 66, Value.bool true, Value.int 181 0, Value.ref 67, Value.none, Value.ref 68, Value.ref 69, Value.ref 70, Value.int 280 0, Value.int 64 0, Value.str (Str.ofString "/claim/cut.py") 281] }
noncomputable abbrev ar72 : {s : Arguments // s = qa (qin 8 1)} := ⟨_, by conv => { rhs; whnf }⟩
noncomputable abbrev bo72 : {s : List Stmt // s = qb (qin 8 1)} := ⟨_, by conv => { rhs; whnf }⟩
noncomputable abbrev sc72 : {s : Scope // s = qs (qin 8 1)} := ⟨_, by conv => { rhs; whnf }⟩
noncomputable def kq72 (P : Params) : Obj := { cls := Value.type "function", data := Data.func { name := Str.ofString "__init__", qualname := Str.ofString "Whitespace.__init__", params := ar72.1, body := .stmts bo72.1, scope := sc72.1, globals := 3, closure := [], defaults := Value.none, kwdefaults := Value.none, pyModule := Value.str (Str.ofString "cpy313.tabnanny") 249, code := Value.ref 71 } }
noncomputable def kq85 (P : Params) : Obj := { cls := Value.type "code", data := Data.fields #[Value.str (Str.ofString "indent_level") 290, Value.str (Str.ofString "Whitespace.indent_level") 291, Value.str (Str.ofString "/claim/cut.py") 292, Value.int 90 0, Value.int 2 0, Value.int 0 0, Value.int 0 0, Value.int 3 0, Value.ref 80, Value.bool true, Value.int 181 0, Value.ref 81, Value.none, Value.ref 82, Value.ref 83, Value.ref 84, Value.int 299 0, Value.int 90 0, Value.str (Str.ofString "/claim/cut.py") 300] }
noncomputable abbrev ar86 : {s : Arguments // s = qa (qin 8 3)} := ⟨_, by conv => { rhs; whnf }⟩
noncomputable abbrev bo86 : {s : List Stmt // s = qb (qin 8 3)} := ⟨_, by conv => { rhs; whnf }⟩
noncomputable abbrev sc86 : {s : Scope // s = qs (qin 8 3)} := ⟨_, by conv => { rhs; whnf }⟩
noncomputable def kq86 (P : Params) : Obj := { cls := Value.type "function", data := Data.func { name := Str.ofString "indent_level", qualname := Str.ofString "Whitespace.indent_level", params := ar86.1, body := .stmts bo86.1, scope := sc86.1, globals := 3, closure := [], defaults := Value.none, kwdefaults := Value.none, pyModule := Value.str (Str.ofString "cpy313.tabnanny") 249, code := Value.ref 85 } }
noncomputable def kq92 (P : Params) : Obj := { cls := Value.type "code", data := Data.fields #[Value.str (Str.ofString "equal") 302, Value.str (Str.ofString "Whitespace.equal") 303, Value.str (Str.ofString "/claim/cut.py") 304, Value.int 97 0, Value.int 2 0, Value.int 0 0, Value.int 0 0, Value.int 3 0, Value.ref 87, Value.bool true, Value.int 181 0, Value.ref 88, Value.none, Value.ref 89, Value.ref 90, Value.ref 91, Value.int 307 0, Value.int 97 0, Value.str (Str.ofString "/claim/cut.py") 308] }
noncomputable abbrev ar93 : {s : Arguments // s = qa (qin 8 4)} := ⟨_, by conv => { rhs; whnf }⟩
noncomputable abbrev bo93 : {s : List Stmt // s = qb (qin 8 4)} := ⟨_, by conv => { rhs; whnf }⟩
noncomputable abbrev sc93 : {s : Scope // s = qs (qin 8 4)} := ⟨_, by conv => { rhs; whnf }⟩
noncomputable def kq93 (P : Params) : Obj := { cls := Value.type "function", data := Data.func { name := Str.ofString "equal", qualname := Str.ofString "Whitespace.equal", params := ar93.1, body := .stmts bo93.1, scope := sc93.1, globals := 3, closure := [], defaults := Value.none, kwdefaults := Value.none, pyModule := Value.str (Str.ofString "cpy313.tabnanny") 249, code := Value.ref 92 } }
noncomputable def kq116 (P : Params) : Obj := { cls := Value.type "dict", data := Data.dict #[{ hash := PyData.keyHash P (Str.ofString "__module__"), key := Value.str (Str.ofString "__module__") 258, val := Value.str (Str.ofString "cpy313.tabnanny") 249 }, { hash := PyData.keyHash P (Str.ofString "__firstlineno__"), key := Value.str (Str.ofString "__firstlineno__") 262, val := Value.int 61 261 }, { hash := PyData.keyHash P (Str.ofString "S"), key := Value.str (Str.ofString "S") 266, val := Value.str (Str.ofString " ") 264 }, { hash := PyData.keyHash P (Str.ofString "T"), key := Value.str (Str.ofString "T") 267, val := Value.str (Str.ofString "\t") 265 }, { hash := PyData.keyHash P (Str.ofString "__init__"), key := Value.str (Str.ofString "__init__") 282, val := Value.ref 72 }, { hash := PyData.keyHash P (Str.ofString "longest_run_of_spaces"), key := Value.str (Str.ofString "longest_run_of_spaces") 289, val := Value.ref 79 }, { hash := PyData.keyHash P (Str.ofString "indent_level"), key := Value.str (Str.ofString "indent_level") 301, val := Value.ref 86 }, { hash := PyData.keyHash P (Str.ofString "equal"), key := Value.str (Str.ofString "equal") 309, val := Value.ref 93 }, { hash := PyData.keyHash P (Str.ofString "not_equal_witness"), key := Value.str (Str.ofString "not_equal_witness") 317, val := Value.ref 100 }, { hash := PyData.keyHash P (Str.ofString "less"), key := Value.str (Str.ofString "less") 325, val := Value.ref 107 }, { hash := PyData.keyHash P (Str.ofString "not_less_witness"), key := Value.str (Str.ofString "not_less_witness") 333, val := Value.ref 114 }, { hash := PyData.keyHash P (Str.ofString "__static_attributes__"), key := Value.str (Str.ofString "__static_attributes__") 339, val := Value.ref 115 }, { hash := PyData.keyHash P (Str.ofString "__dict__"), key := Value.str (Str.ofString "__dict__") 341, val := Value.ref 118 }, { hash := PyData.keyHash P (Str.ofString "__weakref__"), key := Value.str (Str.ofString "__weakref__") 343, val := Value.ref 119 }, { hash := PyData.keyHash P (Str.ofString "__doc__"), key := Value.str (Str.ofString "__doc__") 344, val := Value.none }] 4 }
noncomputable def kq117 (P : Params) : Obj := { cls := Value.type "type", data := Data.cls { name := Str.ofString "Whitespace", bases := [Value.type "object"], mro := [Value.ref 117, Value.type "object"], ns := 116, qualname := Str.ofString "Whitespace" }, slots := #[none, none, some (Value.str (Str.ofString "Whitespace") 251), some (Value.str (Str.ofString "Whitespace") 259), some (Value.builtin "object.__new__"), some (Value.bool true)] }
noncomputable def kq127 (P : Params) : Obj := { cls := Value.type "code", data := Data.fields #[Value.str (Str.ofString "_law_common") 349, Value.str (Str.ofString "_law_common") 350, Value.str (Str.ofString "/claim/cut.py") 351, Value.int 109 0, Value.int 2 0, Value.int 0 0, Value.int 0 0, Value.int 3 0, Value.ref 122, Value.bool true, Value.int 181 0, Value.ref 123, Value.none, Value.ref 124, Value.ref 125, Value.ref 126, Value.int 354 0, Value.int 109 0, Value.str (Str.ofString "/claim/cut.py") 355] }
noncomputable abbrev ar128 : {s : Arguments // s = qa (qst 10)} := ⟨_, by conv => { rhs; whnf }⟩
noncomputable abbrev bo128 : {s : List Stmt // s = qb (qst 10)} := ⟨_, by conv => { rhs; whnf }⟩
noncomputable abbrev sc128 : {s : Scope // s = qs (qst 10)} := ⟨_, by conv => { rhs; whnf }⟩
noncomputable def kq128 (P : Params) : Obj := { cls := Value.type "function", data := Data.func { name := Str.ofString "_law_common", qualname := Str.ofString "_law_common", params := ar128.1, body := .stmts bo128.1, scope := sc128.1, globals := 3, closure := [], defaults := Value.none, kwdefaults := Value.none, pyModule := Value.str (Str.ofString "law_sn0038_01") 347, code := Value.ref 127 } }
noncomputable def kq134 (P : Params) : Obj := { cls := Value.type "code", data := Data.fields #[Value.str (Str.ofString "_law_coins") 357, Value.str (Str.ofString "_law_coins") 358, Value.str (Str.ofString "/claim/cut.py") 359, Value.int 113 0, Value.int 1 0, Value.int 0 0, Value.int 0 0, Value.int 3 0, Value.ref 129, Value.bool true, Value.int 181 0, Value.ref 130, Value.none, Value.ref 131, Value.ref 132, Value.ref 133, Value.int 365 0, Value.int 113 0, Value.str (Str.ofString "/claim/cut.py") 366] }
noncomputable abbrev ar135 : {s : Arguments // s = qa (qst 11)} := ⟨_, by conv => { rhs; whnf }⟩
noncomputable abbrev bo135 : {s : List Stmt // s = qb (qst 11)} := ⟨_, by conv => { rhs; whnf }⟩
noncomputable abbrev sc135 : {s : Scope // s = qs (qst 11)} := ⟨_, by conv => { rhs; whnf }⟩
noncomputable def kq135 (P : Params) : Obj := { cls := Value.type "function", data := Data.func { name := Str.ofString "_law_coins", qualname := Str.ofString "_law_coins", params := ar135.1, body := .stmts bo135.1, scope := sc135.1, globals := 3, closure := [], defaults := Value.none, kwdefaults := Value.none, pyModule := Value.str (Str.ofString "law_sn0038_01") 347, code := Value.ref 134 } }
noncomputable def kq139 (P : Params) : Obj := { cls := Value.type "code", data := Data.fields #[Value.str (Str.ofString "_law_parted") 368, Value.str (Str.ofString "_law_parted") 369, Value.str (Str.ofString "/claim/cut.py") 370, Value.int 119 0, Value.int 1 0, Value.int 0 0, Value.int 0 0, Value.int 3 0, Value.ref 136, Value.bool true, Value.int 181 0, Value.ref 137, Value.none, Value.none, Value.none, Value.ref 138, Value.int 371 0, Value.int 119 0, Value.str (Str.ofString "/claim/cut.py") 372] }
noncomputable abbrev ar140 : {s : Arguments // s = qa (qst 12)} := ⟨_, by conv => { rhs; whnf }⟩
noncomputable abbrev bo140 : {s : List Stmt // s = qb (qst 12)} := ⟨_, by conv => { rhs; whnf }⟩
noncomputable abbrev sc140 : {s : Scope // s = qs (qst 12)} := ⟨_, by conv => { rhs; whnf }⟩
noncomputable def kq140 (P : Params) : Obj := { cls := Value.type "function", data := Data.func { name := Str.ofString "_law_parted", qualname := Str.ofString "_law_parted", params := ar140.1, body := .stmts bo140.1, scope := sc140.1, globals := 3, closure := [], defaults := Value.none, kwdefaults := Value.none, pyModule := Value.str (Str.ofString "law_sn0038_01") 347, code := Value.ref 139 } }
noncomputable def kq144 (P : Params) : Obj := { cls := Value.type "code", data := Data.fields #[Value.str (Str.ofString "_law_prices") 374, Value.str (Str.ofString "_law_prices") 375, Value.str (Str.ofString "/claim/cut.py") 376, Value.int 127 0, Value.int 2 0, Value.int 0 0, Value.int 0 0, Value.int 3 0, Value.ref 141, Value.bool true, Value.int 181 0, Value.ref 142, Value.none, Value.none, Value.none, Value.ref 143, Value.int 377 0, Value.int 127 0, Value.str (Str.ofString "/claim/cut.py") 378] }
noncomputable abbrev ar145 : {s : Arguments // s = qa (qst 13)} := ⟨_, by conv => { rhs; whnf }⟩
noncomputable abbrev bo145 : {s : List Stmt // s = qb (qst 13)} := ⟨_, by conv => { rhs; whnf }⟩
noncomputable abbrev sc145 : {s : Scope // s = qs (qst 13)} := ⟨_, by conv => { rhs; whnf }⟩
noncomputable def kq145 (P : Params) : Obj := { cls := Value.type "function", data := Data.func { name := Str.ofString "_law_prices", qualname := Str.ofString "_law_prices", params := ar145.1, body := .stmts bo145.1, scope := sc145.1, globals := 3, closure := [], defaults := Value.none, kwdefaults := Value.none, pyModule := Value.str (Str.ofString "law_sn0038_01") 347, code := Value.ref 144 } }
noncomputable def kq149 (P : Params) : Obj := { cls := Value.type "code", data := Data.fields #[Value.str (Str.ofString "_law_lead") 380, Value.str (Str.ofString "_law_lead") 381, Value.str (Str.ofString "/claim/cut.py") 382, Value.int 132 0, Value.int 1 0, Value.int 0 0, Value.int 0 0, Value.int 3 0, Value.ref 146, Value.bool true, Value.int 181 0, Value.ref 147, Value.none, Value.none, Value.none, Value.ref 148, Value.int 383 0, Value.int 132 0, Value.str (Str.ofString "/claim/cut.py") 384] }
noncomputable abbrev ar150 : {s : Arguments // s = qa (qst 14)} := ⟨_, by conv => { rhs; whnf }⟩
noncomputable abbrev bo150 : {s : List Stmt // s = qb (qst 14)} := ⟨_, by conv => { rhs; whnf }⟩
noncomputable abbrev sc150 : {s : Scope // s = qs (qst 14)} := ⟨_, by conv => { rhs; whnf }⟩
noncomputable def kq150 (P : Params) : Obj := { cls := Value.type "function", data := Data.func { name := Str.ofString "_law_lead", qualname := Str.ofString "_law_lead", params := ar150.1, body := .stmts bo150.1, scope := sc150.1, globals := 3, closure := [], defaults := Value.none, kwdefaults := Value.none, pyModule := Value.str (Str.ofString "law_sn0038_01") 347, code := Value.ref 149 } }
noncomputable def kq156 (P : Params) : Obj := { cls := Value.type "code", data := Data.fields #[Value.str (Str.ofString "_law_number") 386, Value.str (Str.ofString "_law_number") 387, Value.str (Str.ofString "/claim/cut.py") 388, Value.int 134 0, Value.int 1 0, Value.int 0 0, Value.int 0 0, Value.int 3 0, Value.ref 151, Value.bool true, Value.int 181 0, Value.ref 152, Value.none, Value.ref 153, Value.ref 154, Value.ref 155, Value.int 392 0, Value.int 134 0, Value.str (Str.ofString "/claim/cut.py") 393] }
noncomputable abbrev ar157 : {s : Arguments // s = qa (qst 15)} := ⟨_, by conv => { rhs; whnf }⟩
noncomputable abbrev bo157 : {s : List Stmt // s = qb (qst 15)} := ⟨_, by conv => { rhs; whnf }⟩
noncomputable abbrev sc157 : {s : Scope // s = qs (qst 15)} := ⟨_, by conv => { rhs; whnf }⟩
noncomputable def kq157 (P : Params) : Obj := { cls := Value.type "function", data := Data.func { name := Str.ofString "_law_number", qualname := Str.ofString "_law_number", params := ar157.1, body := .stmts bo157.1, scope := sc157.1, globals := 3, closure := [], defaults := Value.none, kwdefaults := Value.none, pyModule := Value.str (Str.ofString "law_sn0038_01") 347, code := Value.ref 156 } }
noncomputable def kq163 (P : Params) : Obj := { cls := Value.type "code", data := Data.fields #[Value.str (Str.ofString "_law_read") 395, Value.str (Str.ofString "_law_read") 396, Value.str (Str.ofString "/claim/cut.py") 397, Value.int 139 0, Value.int 1 0, Value.int 0 0, Value.int 0 0, Value.int 3 0, Value.ref 158, Value.bool true, Value.int 181 0, Value.ref 159, Value.none, Value.ref 160, Value.ref 161, Value.ref 162, Value.int 401 0, Value.int 139 0, Value.str (Str.ofString "/claim/cut.py") 402] }
noncomputable abbrev ar164 : {s : Arguments // s = qa (qst 16)} := ⟨_, by conv => { rhs; whnf }⟩
noncomputable abbrev bo164 : {s : List Stmt // s = qb (qst 16)} := ⟨_, by conv => { rhs; whnf }⟩
noncomputable abbrev sc164 : {s : Scope // s = qs (qst 16)} := ⟨_, by conv => { rhs; whnf }⟩
noncomputable def kq164 (P : Params) : Obj := { cls := Value.type "function", data := Data.func { name := Str.ofString "_law_read", qualname := Str.ofString "_law_read", params := ar164.1, body := .stmts bo164.1, scope := sc164.1, globals := 3, closure := [], defaults := Value.none, kwdefaults := Value.none, pyModule := Value.str (Str.ofString "law_sn0038_01") 347, code := Value.ref 163 } }
noncomputable def kq168 (P : Params) : Obj := { cls := Value.type "code", data := Data.fields #[Value.str (Str.ofString "_law_ones") 404, Value.str (Str.ofString "_law_ones") 405, Value.str (Str.ofString "/claim/cut.py") 406, Value.int 144 0, Value.int 1 0, Value.int 0 0, Value.int 0 0, Value.int 3 0, Value.ref 165, Value.bool true, Value.int 181 0, Value.ref 166, Value.none, Value.none, Value.none, Value.ref 167, Value.int 407 0, Value.int 144 0, Value.str (Str.ofString "/claim/cut.py") 408] }
noncomputable abbrev ar169 : {s : Arguments // s = qa (qst 17)} := ⟨_, by conv => { rhs; whnf }⟩
noncomputable abbrev bo169 : {s : List Stmt // s = qb (qst 17)} := ⟨_, by conv => { rhs; whnf }⟩
noncomputable abbrev sc169 : {s : Scope // s = qs (qst 17)} := ⟨_, by conv => { rhs; whnf }⟩
noncomputable def kq169 (P : Params) : Obj := { cls := Value.type "function", data := Data.func { name := Str.ofString "_law_ones", qualname := Str.ofString "_law_ones", params := ar169.1, body := .stmts bo169.1, scope := sc169.1, globals := 3, closure := [], defaults := Value.none, kwdefaults := Value.none, pyModule := Value.str (Str.ofString "law_sn0038_01") 347, code := Value.ref 168 } }
noncomputable def kq175 (P : Params) : Obj := { cls := Value.type "code", data := Data.fields #[Value.str (Str.ofString "_law_found") 410, Value.str (Str.ofString "_law_found") 411, Value.str (Str.ofString "/claim/cut.py") 412, Value.int 147 0, Value.int 2 0, Value.int 0 0, Value.int 0 0, Value.int 3 0, Value.ref 170, Value.bool true, Value.int 181 0, Value.ref 171, Value.none, Value.ref 172, Value.ref 173, Value.ref 174, Value.int 416 0, Value.int 147 0, Value.str (Str.ofString "/claim/cut.py") 417] }
noncomputable abbrev ar176 : {s : Arguments // s = qa (qst 18)} := ⟨_, by conv => { rhs; whnf }⟩
noncomputable abbrev bo176 : {s : List Stmt // s = qb (qst 18)} := ⟨_, by conv => { rhs; whnf }⟩
noncomputable abbrev sc176 : {s : Scope // s = qs (qst 18)} := ⟨_, by conv => { rhs; whnf }⟩
noncomputable def kq176 (P : Params) : Obj := { cls := Value.type "function", data := Data.func { name := Str.ofString "_law_found", qualname := Str.ofString "_law_found", params := ar176.1, body := .stmts bo176.1, scope := sc176.1, globals := 3, closure := [], defaults := Value.none, kwdefaults := Value.none, pyModule := Value.str (Str.ofString "law_sn0038_01") 347, code := Value.ref 175 } }
noncomputable def kq180 (P : Params) : Obj := { cls := Value.type "code", data := Data.fields #[Value.str (Str.ofString "_law_words") 419, Value.str (Str.ofString "_law_words") 420, Value.str (Str.ofString "/claim/cut.py") 421, Value.int 150 0, Value.int 2 0, Value.int 0 0, Value.int 0 0, Value.int 3 0, Value.ref 177, Value.bool true, Value.int 181 0, Value.ref 178, Value.none, Value.none, Value.none, Value.ref 179, Value.int 422 0, Value.int 150 0, Value.str (Str.ofString "/claim/cut.py") 423] }
noncomputable abbrev ar181 : {s : Arguments // s = qa (qst 19)} := ⟨_, by conv => { rhs; whnf }⟩
noncomputable abbrev bo181 : {s : List Stmt // s = qb (qst 19)} := ⟨_, by conv => { rhs; whnf }⟩
noncomputable abbrev sc181 : {s : Scope // s = qs (qst 19)} := ⟨_, by conv => { rhs; whnf }⟩
noncomputable def kq181 (P : Params) : Obj := { cls := Value.type "function", data := Data.func { name := Str.ofString "_law_words", qualname := Str.ofString "_law_words", params := ar181.1, body := .stmts bo181.1, scope := sc181.1, globals := 3, closure := [], defaults := Value.none, kwdefaults := Value.none, pyModule := Value.str (Str.ofString "law_sn0038_01") 347, code := Value.ref 180 } }
noncomputable def kq185 (P : Params) : Obj := { cls := Value.type "code", data := Data.fields #[Value.str (Str.ofString "_law_holds") 425, Value.str (Str.ofString "_law_holds") 426, Value.str (Str.ofString "/claim/cut.py") 427, Value.int 156 0, Value.int 1 0, Value.int 0 0, Value.int 0 0, Value.int 3 0, Value.ref 182, Value.bool true, Value.int 181 0, Value.ref 183, Value.none, Value.none, Value.none, Value.ref 184, Value.int 428 0, Value.int 156 0, Value.str (Str.ofString "/claim/cut.py") 429] }
noncomputable abbrev ar186 : {s : Arguments // s = qa (qst 20)} := ⟨_, by conv => { rhs; whnf }⟩
noncomputable abbrev bo186 : {s : List Stmt // s = qb (qst 20)} := ⟨_, by conv => { rhs; whnf }⟩
noncomputable abbrev sc186 : {s : Scope // s = qs (qst 20)} := ⟨_, by conv => { rhs; whnf }⟩
noncomputable def kq186 (P : Params) : Obj := { cls := Value.type "function", data := Data.func { name := Str.ofString "_law_holds", qualname := Str.ofString "_law_holds", params := ar186.1, body := .stmts bo186.1, scope := sc186.1, globals := 3, closure := [], defaults := Value.none, kwdefaults := Value.none, pyModule := Value.str (Str.ofString "law_sn0038_01") 347, code := Value.ref 185 } }
noncomputable def kq190 (P : Params) : Obj := { cls := Value.type "code", data := Data.fields #[Value.str (Str.ofString "law") 431, Value.str (Str.ofString "law") 432, Value.str (Str.ofString "/claim/cut.py") 433, Value.int 189 0, Value.int 1 0, Value.int 0 0, Value.int 0 0, Value.int 3 0, Value.ref 187, Value.bool true, Value.int 181 0, Value.ref 188, Value.none, Value.none, Value.none, Value.ref 189, Value.int 434 0, Value.int 189 0, Value.str (Str.ofString "/claim/cut.py") 435] }
noncomputable abbrev ar191 : {s : Arguments // s = qa (qst 21)} := ⟨_, by conv => { rhs; whnf }⟩
noncomputable abbrev bo191 : {s : List Stmt // s = qb (qst 21)} := ⟨_, by conv => { rhs; whnf }⟩
noncomputable abbrev sc191 : {s : Scope // s = qs (qst 21)} := ⟨_, by conv => { rhs; whnf }⟩
noncomputable def kq191 (P : Params) : Obj := { cls := Value.type "function", data := Data.func { name := Str.ofString "law", qualname := Str.ofString "law", params := ar191.1, body := .stmts bo191.1, scope := sc191.1, globals := 3, closure := [], defaults := Value.none, kwdefaults := Value.none, pyModule := Value.str (Str.ofString "law_sn0038_01") 347, code := Value.ref 190 } }
noncomputable def kq : Params → Frag := fun P => (nat_lit 2, kq2 P) :: (nat_lit 3, kq3 P) :: (nat_lit 22, kq22 P) :: (nat_lit 23, kq23 P) :: (nat_lit 29, kq29 P) :: (nat_lit 30, kq30 P) :: (nat_lit 31, kq31 P) :: (nat_lit 32, kq32 P) :: (nat_lit 38, kq38 P) :: (nat_lit 39, kq39 P) :: (nat_lit 40, kq40 P) :: (nat_lit 41, kq41 P) :: (nat_lit 47, kq47 P) :: (nat_lit 48, kq48 P) :: (nat_lit 54, kq54 P) :: (nat_lit 55, kq55 P) :: (nat_lit 71, kq71 P) :: (nat_lit 72, kq72 P) :: (nat_lit 85, kq85 P) :: (nat_lit 86, kq86 P) :: (nat_lit 92, kq92 P) :: (nat_lit 93, kq93 P) :: (nat_lit 116, kq116 P) :: (nat_lit 117, kq117 P) :: (nat_lit 127, kq127 P) :: (nat_lit 128, kq128 P) :: (nat_lit 134, kq134 P) :: (nat_lit 135, kq135 P) :: (nat_lit 139, kq139 P) :: (nat_lit 140, kq140 P) :: (nat_lit 144, kq144 P) :: (nat_lit 145, kq145 P) :: (nat_lit 149, kq149 P) :: (nat_lit 150, kq150 P) :: (nat_lit 156, kq156 P) :: (nat_lit 157, kq157 P) :: (nat_lit 163, kq163 P) :: (nat_lit 164, kq164 P) :: (nat_lit 168, kq168 P) :: (nat_lit 169, kq169 P) :: (nat_lit 175, kq175 P) :: (nat_lit 176, kq176 P) :: (nat_lit 180, kq180 P) :: (nat_lit 181, kq181 P) :: (nat_lit 185, kq185 P) :: (nat_lit 186, kq186 P) :: (nat_lit 190, kq190 P) :: (nat_lit 191, kq191 P) :: []
noncomputable abbrev pg : Program := PySem.Challenge.pw_sn0038_01
-- the view: the law's def alone (all other names are loose); its literals are found by the tactic
noncomputable abbrev st21 : Stmt := by
  refine (?f : (s : Stmt) → s = qst 21 → Stmt) _ (by conv => { rhs; whnf })
  exact fun s _ => s
noncomputable abbrev scM : Scope := by
  refine (?f : (s : Scope) → s = pg.main.scope → Scope) _ (by conv => { rhs; whnf })
  exact fun s _ => s
noncomputable abbrev gvM : Given := by
  refine (?f : (s : Given) → s = pg.given → Given) _ (by conv => { rhs; whnf })
  exact fun s _ => s
noncomputable def vw : Program := { main := { body := [st21], scope := scM, futureAnnotations := false, file := Str.ofString "/claim/cut.py" }, modules := [], parses := [], absent := [], given := gvM }
noncomputable abbrev ls : List Str := [Str.ofString "_wall", Str.ofString "insort_right", Str.ofString "bisect_right", Str.ofString "bisect_left", Str.ofString "Int2AP", Str.ofString "Whitespace", Str.ofString "_law_common", Str.ofString "_law_coins", Str.ofString "_law_parted", Str.ofString "_law_prices", Str.ofString "_law_lead", Str.ofString "_law_number", Str.ofString "_law_read", Str.ofString "_law_ones", Str.ofString "_law_found", Str.ofString "_law_words", Str.ofString "_law_holds"]
noncomputable abbrev hk : Hook := kHook kq (nat_lit 2 :: nat_lit 3 :: nat_lit 22 :: nat_lit 23 :: nat_lit 29 :: nat_lit 30 :: nat_lit 31 :: nat_lit 32 :: nat_lit 38 :: nat_lit 39 :: nat_lit 40 :: nat_lit 41 :: nat_lit 47 :: nat_lit 48 :: nat_lit 54 :: nat_lit 55 :: nat_lit 71 :: nat_lit 72 :: nat_lit 85 :: nat_lit 86 :: nat_lit 92 :: nat_lit 93 :: nat_lit 116 :: nat_lit 117 :: nat_lit 127 :: nat_lit 128 :: nat_lit 134 :: nat_lit 135 :: nat_lit 139 :: nat_lit 140 :: nat_lit 144 :: nat_lit 145 :: nat_lit 149 :: nat_lit 150 :: nat_lit 156 :: nat_lit 157 :: nat_lit 163 :: nat_lit 164 :: nat_lit 168 :: nat_lit 169 :: nat_lit 175 :: nat_lit 176 :: nat_lit 180 :: nat_lit 181 :: nat_lit 185 :: nat_lit 186 :: nat_lit 190 :: nat_lit 191 :: []) (fun _ => by kernel_rfl)
noncomputable abbrev Xt0 : Shared → Bool := fun s => xlAt vw [] s && recOk (RowW.records PySem.Challenge.rw_sn0038_01.row.toRowW) s
-- the top's end, from a run of it: what topFrom asks beside the run
theorem top_ends {p : Program} {w : World} {N m : Nat} {ann : Option Value} {s₀ s₁ : Shared} (ground : (s₀.heap.isNs mainGlobals && s₀.gens.size == 0) = true) (sz : s₀.heap.objs.size = m) (an : s₀.heap.nsMap mainGlobals "__annotations__" = ann)
    (run : topRun treeTable p w m ann N s₀ (topStub p) = some s₁) (kept : (staticsOk (importedModules p.main.body) s₀.heap s₁.heap && namesBound p s₁.heap && gensDone s₁ && laidKept s₀.heap s₁.heap) = true) : topFrom treeTable p w N s₀ = some s₁ := by
  subst sz an
  simp only [topFrom, ground, run, Option.bind_some, kept]
-- one check of the whole run and of all looks at its end makes the head
theorem left_boot {p q : Program} {loose : List Str} {Xt : Shared → Bool} {β : Type} {obs : Shared → β} {val : World → β} {N M m : Nat} {H : Params → Heap} {gs : Array GenState} {dr : Drawn} {tk : Nat} {ann : Option Value}
    (opened : ∀ w : World, (fencedOpening treeTable p w N).map (fun s => (s.heap, s.gens, s.drawn, s.toks)) = some (H w.params, gs, dr, tk))
    (stands : ∀ w : World, ((H w.params).isNs mainGlobals && gs.size == 0, (H w.params).objs.size, (H w.params).nsMap mainGlobals "__annotations__") = (true, m, ann)) (enough : Nat.ble M N = true)
    (all : ∀ w : World, (fun os : OsState => (topRun treeTable p w m ann M ⟨H w.params, gs, dr, tk, os⟩ (topStub p)).map (fun s => ((staticsOk (importedModules p.main.body) (H w.params) s.heap && namesBound p s.heap && gensDone s && laidKept (H w.params) s.heap), openSeen q loose (importedModules p.main.body) Xt true s, obs s))) = fun _ => some (true, openGood q loose, val w)) : LeftO p q loose Xt obs val N := by
  intro w
  have o1 := opened w
  cases ho : fencedOpening treeTable p w N with
  | none => rw [ho] at o1; exact nomatch o1
  | some s₀ =>
    rw [ho] at o1
    have q1 := Option.some.inj o1
    have s1 := stands w
    have a1 := congrFun (all w) s₀.os
    have whole : s₀ = ⟨H w.params, gs, dr, tk, s₀.os⟩ := by
      cases s₀
      simp only [Prod.mk.injEq] at q1
      simp only [q1]
    rw [← whole] at a1
    cases hr : topRun treeTable p w m ann M s₀ (topStub p) with
    | none => rw [hr] at a1; exact nomatch a1
    | some s₁ =>
      rw [hr] at a1
      have a2 := Option.some.inj a1
      have hh : s₀.heap = H w.params := congrArg (fun x => x.1) q1
      have hg : s₀.gens = gs := congrArg (fun x => x.2.1) q1
      rw [← hh, ← hg] at s1
      rw [← hh] at a2
      have far := topRun_mono (N - M) _ _ _ _ hr
      rw [Nat.add_sub_cancel' (Nat.le_of_ble_eq_true enough)] at far
      have e := top_ends (congrArg Prod.fst s1) (congrArg (fun x => x.2.1) s1) (congrArg (fun x => x.2.2) s1) far (congrArg Prod.fst a2)
      simp only [openEnds, ho, Option.bind_some, e, Option.map_some]
      exact congrArg some (congrArg Prod.snd a2)
-- the head: the opening is the library's (boot_open); the run of the text and the looks at its end in one check of the kernel's for each answer of the one row that the top asks; the library's own quick twins (tw..) of the machine are named
noncomputable abbrev runP (w : World) : Prop := (fun os : OsState => (topRun treeTable pg w 11 (some (.ref 6)) 1063 ⟨boot_heap w.params, Array.mk [], boot_drawn, boot_toks, os⟩ (topStub pg)).map (fun s => ((staticsOk (importedModules pg.main.body) (boot_heap w.params) s.heap && namesBound pg s.heap && gensDone s && laidKept (boot_heap w.params) s.heap), openSeen vw ls (importedModules pg.main.body) Xt0 true s, Hook.obs hk s))) = fun _ => some (true, openGood vw ls, Hook.val hk w)
noncomputable abbrev runQ (w : World) : Prop := (fun os : OsState => (PySem.W.Fast.tw14082659384304107361 PySem.W.Fast.tw14364793385576792824 pg w 11 (some (.ref 6)) 1063 ⟨boot_heap w.params, Array.mk [], boot_drawn, boot_toks, os⟩ (topStub pg)).map (fun s => ((staticsOk (PySem.W.Fast.tw5923862056798008813 pg.main.body) (boot_heap w.params) s.heap && namesBound pg s.heap && gensDone s && laidKept (boot_heap w.params) s.heap), PySem.W.Fast.tw4187177175401517315 vw ls (PySem.W.Fast.tw5923862056798008813 pg.main.body) Xt0 true s, Hook.obs hk s))) = fun _ => some (true, openGood vw ls, Hook.val hk w)
theorem run_f : ∀ w : World, runQ (w.withFollow "special-get-raises" false) := fun w => by kernel_rfl
theorem run_t : ∀ w : World, runQ (w.withFollow "special-get-raises" true) := fun w => by kernel_rfl
theorem runQP (w : World) (h : runQ w) : runP w := by
  unfold runP
  rw [PySem.W.Fast.te14082659384304107361, PySem.W.Fast.te14364793385576792824, PySem.W.Fast.te4187177175401517315, PySem.W.Fast.te5923862056798008813]
  exact h
theorem left1 : LeftO pg vw ls Xt0 (Hook.obs hk) (Hook.val hk) 2216 :=
  left_boot (boot_open (by kernel_rfl) (by decide) (fun s => by kernel_rfl)) (fun w => by kernel_rfl) (by decide) (fun w => runQP w (byRow2 "special-get-raises" run_f run_t w))
theorem said0 : PySem.W.Fast.tw9446332074065402090 PySem.Challenge.rw_sn0038_01 = true := by kernel_rfl
theorem said1 : OpenLaw.wellSaid PySem.Challenge.rw_sn0038_01 = true := (congrFun PySem.W.Fast.te9446332074065402090 _).trans said0
theorem said2 : OpenRow.wellSaid (OpenLaw.row PySem.Challenge.rw_sn0038_01) = true := row_said said1

end
section
noncomputable abbrev Led := List (Addr × Obj)
noncomputable def Does (w : World) (f : Addr) (vs : List Value) (news : Led) (cost : Nat) (R : Value → Led → Prop) : Prop :=
  ∀ (mean : ExcName → Option Value) (mg mb : Str → Option Value) (dp un : Nat) (gd : Option (List Code)) (cn : Str) (cs : Scope) (a : Addr) (ccd : Value) (cl : List (Str × Addr)) (outer : List Env) (A₀ : Around) (base h₀ : Heap) (L : Addr) (m : Str → Option Value) (s : Shared) (Q E : Value → Shared → Prop),
    Below A₀ base outer h₀ → Fr h₀ L s.heap m → (kq w.params).In h₀ → News h₀ L s.heap news → Top vw (looseW vw [Str.ofString "_wall", Str.ofString "insort_right", Str.ofString "bisect_right", Str.ofString "bisect_left", Str.ofString "Int2AP", Str.ofString "Whitespace", Str.ofString "_law_common", Str.ofString "_law_coins", Str.ofString "_law_parted", Str.ofString "_law_prices", Str.ofString "_law_lead", Str.ofString "_law_number", Str.ofString "_law_read", Str.ofString "_law_ones", Str.ofString "_law_found", Str.ofString "_law_words", Str.ofString "_law_holds"]) mean mg mb h₀ → cs.kind = .function →
    dp + cost < recursionLimit → un + 8 * cost < cLine →
    (∀ v nw h' tk', R v nw → Fr h₀ L h' m → News h₀ L h' nw → Q v { s with heap := h', toks := tk' }) →
    wpAny (model PySem.Challenge.rw_sn0038_01.row.toRowW.prog w) (ktrTop dp un gd cn cs L a ccd cl outer) (call (.ref f) vs) Q E s
theorem does_use {w : World} {f : Addr} {vs : List Value} {news : Led} {cost : Nat} {R : Value → Led → Prop} {mean : ExcName → Option Value} {mg mb : Str → Option Value} {dp un : Nat} {gd : Option (List Code)} {cn : Str} {cs : Scope} {a : Addr} {ccd : Value} {cl : List (Str × Addr)} {outer : List Env} {A₀ : Around} {base h₀ : Heap} {L : Addr} {m : Str → Option Value} {s : Shared} {Q E : Value → Shared → Prop}
    (C : Does w f vs news cost R) (B : Below A₀ base outer h₀) (F : Fr h₀ L s.heap m) (X : (kq w.params).In h₀) (N : News h₀ L s.heap news) (T : Top vw (looseW vw [Str.ofString "_wall", Str.ofString "insort_right", Str.ofString "bisect_right", Str.ofString "bisect_left", Str.ofString "Int2AP", Str.ofString "Whitespace", Str.ofString "_law_common", Str.ofString "_law_coins", Str.ofString "_law_parted", Str.ofString "_law_prices", Str.ofString "_law_lead", Str.ofString "_law_number", Str.ofString "_law_read", Str.ofString "_law_ones", Str.ofString "_law_found", Str.ofString "_law_words", Str.ofString "_law_holds"]) mean mg mb h₀) (hk : cs.kind = .function)
    (hd : dp + cost < recursionLimit) (hu : un + 8 * cost < cLine)
    (ret : ∀ v nw h' tk', R v nw → Fr h₀ L h' m → News h₀ L h' nw → Q v { s with heap := h', toks := tk' }) :
    wpAny (model PySem.Challenge.rw_sn0038_01.row.toRowW.prog w) (ktrTop dp un gd cn cs L a ccd cl outer) (call (.ref f) vs) Q E s :=
  C _ _ _ _ _ _ _ _ _ _ _ _ _ _ _ _ _ _ _ _ B F X N T hk hd hu ret
theorem ints_of_mem {vs : List Value} : (∀ v ∈ vs, ∃ i t, v = Value.int i t) → ∃ ks, IntsAre vs ks := by
  induction vs with
  | nil => exact fun _ => ⟨[], .nil⟩
  | cons v r ih =>
    intro h
    obtain ⟨i, t, rfl⟩ := h v (.head _)
    obtain ⟨ks, hk⟩ := ih fun u hu => h u (.tail _ hu)
    exact ⟨i :: ks, .cons _ _ hk⟩
theorem ints_mem {vs : List Value} {ns : List Int} (hi : IntsAre vs ns) : ∀ v ∈ vs, ∃ i t, v = Value.int i t := by
  induction hi with
  | nil => exact fun _ h => nomatch h
  | cons n t _ ih =>
    intro v hm
    rcases List.mem_cons.mp hm with rfl | hm
    · exact ⟨n, t, rfl⟩
    · exact ih v hm
theorem ints_pick {vs : List Value} {ns : List Int} (hi : IntsAre vs ns) (lo hi' st : Option Int) : ∃ ks, IntsAre (slicePick vs.toArray lo hi' st).toList ks := by
  refine ints_of_mem fun v hv => ints_mem hi v ?_
  simp only [slicePick, List.toList_toArray] at hv
  obtain ⟨i, _, e⟩ := List.mem_filterMap.mp hv
  obtain ⟨h, rfl⟩ := Array.getElem?_eq_some_iff.mp e
  simp
theorem slice3_ints {prog : Program} {w : World} {A : Around} {E : Value → Shared → Prop} {s : Shared} {h₀ : Heap} {L : Addr} {m : Str → Option Value} {news : Led} {Q : Value → Shared → Prop} {value slice : Expr} {l : Addr} {vs : List Value} {ns : List Int} {vl vu vk : Value} {lo hi st : Option Int} {ops : List Value}
    (F : Fr h₀ L s.heap m) (N : News h₀ L s.heap news) (hl : s.heap.IsList l vs.toArray) (hv : IntsAre vs ns) (pl : IsPart vl lo) (pu : IsPart vu hi) (pk : IsPart vk st) (h0 : st ≠ some 0)
    (h : ∀ D h' ws ks, Fr h₀ L h' m → News h₀ L h' ((D, listOf (List.toArray ws) 0) :: news) → (∀ p ∈ news, p.1 < D) → IntsAre ws ks → Q (.ref D) { s with heap := h' })
    (hs : subscripted slice false (.ref l) (.ref s.heap.objs.size) = operate ops (getItem (.ref l) (.ref s.heap.objs.size))) (ht : ∀ r, letTemporaryGo value (.ref l) r = pure ()) (hz : vs.toArray.size ≤ sizeLine) :
    wpAny (model prog w) A (subscriptTail value slice (.ref l) (.ref s.heap.objs.size)) Q E { s with heap := s.heap.push { cls := .type "slice", data := .fields #[vl, vu, vk] } } := by
  obtain ⟨ks, hks⟩ := ints_pick hv lo hi st
  exact kmk_slice3_lit F N hl pl pu pk h0 rfl (fun D h' F' N' l1 => h D h' _ ks F' N' l1 hks) hs ht hz
theorem of_allLt {d : Addr} : ∀ {l : Led}, AllLt d l → ∀ p ∈ l, p.1 < d
  | [], _ => fun _ h => nomatch h
  | q :: r, h => fun p hp => by
    rcases List.mem_cons.mp hp with rfl | hp
    · exact h.1
    · exact of_allLt h.2 p hp
theorem drop1 {g : Heap} {L : Addr} {h : Heap} {q : Addr × Obj} {news : Led} (N : News g L h (q :: news)) : News g L h news := fun p hp => N p (.tail _ hp)
theorem drop2 {g : Heap} {L : Addr} {h : Heap} {p q : Addr × Obj} {news : Led} (N : News g L h (p :: q :: news)) : News g L h (p :: news) := fun r hr => by
  rcases List.mem_cons.mp hr with e | e
  · exact N r (e ▸ .head _)
  · exact N r (.tail _ (.tail _ e))
theorem allLt_ne {d : Addr} {l : Led} (h : AllLt d l) : ∀ p ∈ l, p.1 ≠ d := fun p hp => Nat.ne_of_lt (of_allLt h p hp)
theorem allLt_up {d : Addr} : ∀ {l : Led}, AllLt d l → AllLt (d + 1) l
  | [], _ => trivial
  | _ :: _, h => ⟨Nat.lt_succ_of_lt h.1, allLt_up h.2⟩
theorem execs_consT {M : Model} {A : Around} {env : Env} {st : Stmt} {rest : List Stmt} {Q : Flow → Shared → Prop} {E : Value → Shared → Prop} {hp : Heap} {g : _} {d : _} {t0 : Nat} {o : _}
    (h : ∀ tk : Nat, wpAny M A (exec st env) (fun f s' => match f with | .next => wpAny M A (execs rest env) Q E s' | f => Q f s') E ⟨hp, g, d, tk, o⟩) :
    wpAny M A (execs (st :: rest) env) Q E ⟨hp, g, d, t0, o⟩ := wpAny_execs_cons (h t0)
@[elab_as_elim] theorem genA {α : Type} {P : α → Prop} (a : α) (h : ∀ x, P x) : P a := h a
@[elab_as_elim] theorem genE {P : Nat → Prop} (a : Nat) (h : ∀ x : Nat, x = a → P x) : P a := h a rfl

end
section
noncomputable def lastQ (ca cb cc least top : Int) (row : List Int) (p : Int) : Bool := !([ca, cb, cc].any (fun c => !decide (top - least - top + p + c ∈ row)))

end
section
theorem gcd_turn {a b : Int} {g : Nat} (h0 : 0 ≤ a) (h1 : 0 ≤ b) (h : Int.gcd a b = g) (hb : b ≠ 0) :
    0 ≤ b ∧ 0 ≤ Int.fmod a b ∧ Int.gcd b (Int.fmod a b) = g := by
  refine ⟨h1, Int.fmod_nonneg h0 h1, ?_⟩
  rw [Int.fmod_eq_emod_of_nonneg _ h1, ← h]
  obtain ⟨n, rfl⟩ := Int.eq_ofNat_of_zero_le h0
  obtain ⟨k, rfl⟩ := Int.eq_ofNat_of_zero_le h1
  show Nat.gcd k (n % k) = Nat.gcd n k
  rw [Nat.gcd_comm, ← Nat.gcd_rec, Nat.gcd_comm]
theorem gcd_less {a b : Int} (h0 : 0 ≤ b) (hb : b ≠ 0) : (Int.fmod a b).toNat < b.toNat := by
  have := Int.fmod_lt_of_pos a (show 0 < b by omega)
  omega
theorem common (w : World) (x y : Int) (t u : Tok) (news : Led) (hx0 : 0 < x) (hy : 0 ≤ y) :
    Does w 128 [.int x t, .int y u] news 1 (fun v nw => nw = news ∧ (0 < ((Int.gcd x y : Nat) : Int) ∧ ((Int.gcd x y : Nat) : Int) ≤ x) ∧ ∃ t, v = .int (Int.gcd x y) t) := by
  have hx : 0 ≤ x := by omega
  have hg0 : 0 < ((Int.gcd x y : Nat) : Int) ∧ ((Int.gcd x y : Nat) : Int) ≤ x := by
    have := Int.gcd_pos_of_ne_zero_left y (show x ≠ 0 by omega)
    exact ⟨by omega, Int.le_of_dvd hx0 (Int.gcd_dvd_left ..)⟩
  k_with_none
  w_top off
  unfold Does
  k_fill
  intro mean mg mb dp un gd cn cs a ccd cl outer A₀ base h₀ L m s Q E B F X N T hkd9 hdp9 hun9 hret
  k_with "exec While Compare cons nil" => k_while_given ["high!", "low!"] (fun x y _ a b => 0 ≤ a ∧ 0 ≤ b ∧ Int.gcd a b = Int.gcd x y) (fun _ _ _ _ b => b.toNat) "high" "low"
  k_with "state" => first | exact ⟨hx, hy, rfl⟩ | exact gcd_turn (by assumption) (by assumption) (by assumption) (by assumption)
  k_with "measure" => exact gcd_less (by assumption) (by assumption)
  refine wpAny_call ?_
  k_dflt (refine' code_def ?ze1 ?ze2 ?ze3 ?ze4 ?ze5 ?zeA ?zeF ?zeK ?ze6 ?ze7 ?ze8 ?ze9 ?zeB ?_ ?zc2 ?zc3 ?zc4 ?zc5; (case zeA => exact rfl); (case zeF => exact rfl); (case zeK => assumption); (case ze1 => k_asm); (case ze2 => k_asm); (case ze3 => k_asm); (case ze4 => k_asm); (case ze5 => k_asm); (case ze6 => k_is); (case ze7 => k_is); (case ze8 => ktr_room); (case ze9 => first | exact BindsTo.of_eq rfl | (refine' kp_binds ?zkx ?zke; (case zkx => k_in); (case zke => exact fun _ => rfl))); (case zc5 => decide); (case zeB => exact locs rfl); (case zc2 => exact rfl); (case zc3 => exact rfl); (case zc4 => exact rfl); k_whole)
  intro g1 L1 h1 FG1 F1 N1 B1 X1 T1
  (try dsimp only)
  (try k_fold)
  (replace F1 : Fr _ _ _ (fun z9 => List.lookup z9 [(Str.ofString "low", Value.int y u), (Str.ofString "high", Value.int x t)]) := F1)
  k_steps
  (rename _ = Int.gcd x y => hg; subst_vars; rw [← hg, Int.gcd_zero_right, Int.natAbs_of_nonneg (by assumption)] at hret hg0; exact hret _ _ _ _ ⟨rfl, hg0, _, rfl⟩ (by assumption) (by assumption))

end
section
structure Stop (P : Prop) : Prop where
  h : P
theorem stopHere {P : Prop} (x : Stop P) : P := x.h
noncomputable def MinOf (ns : List Int) (x : Int) : Prop := x ∈ ns ∧ ∀ y ∈ ns, x ≤ y
noncomputable def MaxOf (ns : List Int) (x : Int) : Prop := x ∈ ns ∧ ∀ y ∈ ns, y ≤ x
theorem mem_pos {ns : List Int} {x : Int} (h : x ∈ ns) : 0 < ns.length := by
  cases ns with
  | nil => cases h
  | cons _ _ => simp
section
variable {prog : Program} {w : World} {A : Around} {E : Value → Shared → Prop} {s : Shared} {h₀ : Heap} {L l : Addr} {m : Str → Option Value} {news : List (Addr × Obj)} {vs : List Value} {ns : List Int} {x : Int} {Q : Value → Shared → Prop}
theorem min_of (F : Fr h₀ L s.heap m) (N : News h₀ L s.heap news) (hl : s.heap.IsList l vs.toArray) (hi : IntsAre vs ns) (hx : MinOf ns x) (hh : A.handled = none)
    (h : ∀ h' (t : Tok) tk, Fr h₀ L h' m → News h₀ L h' news → Q (.int x t) { s with heap := h', toks := tk }) : wpAny (model prog w) A (call (.builtin "min") [.ref l]) Q E s :=
  kso_min F N hl hi (mem_pos hx.1) hh fun h' M t tk F' N' a b => by
    have : M = x := Int.le_antisymm (b _ hx.1) (hx.2 _ a)
    subst this
    exact h h' t tk F' N'
theorem max_of (F : Fr h₀ L s.heap m) (N : News h₀ L s.heap news) (hl : s.heap.IsList l vs.toArray) (hi : IntsAre vs ns) (hx : MaxOf ns x) (hh : A.handled = none)
    (h : ∀ h' (t : Tok) tk, Fr h₀ L h' m → News h₀ L h' news → Q (.int x t) { s with heap := h', toks := tk }) : wpAny (model prog w) A (call (.builtin "max") [.ref l]) Q E s :=
  kso_max F N hl hi (mem_pos hx.1) hh fun h' M t tk F' N' a b => by
    have : M = x := Int.le_antisymm (hx.2 _ a) (b _ hx.1)
    subst this
    exact h h' t tk F' N'
theorem len_map {f : Nat → Value} {k : Nat} (hl : s.heap.IsList l ((List.range k).map f).toArray) (hk : k ≤ 1000) (h : Q (.int (k : Nat) (s.toks + 1)) { s with toks := s.toks + 1 + 1 }) : wpAny (model prog w) A (call (.builtin "len") [.ref l]) Q E s := by
  have e : ((List.range k).map f).toArray.size = k := by simp
  exact PySem.Calls.call_len_list hl (by rw [e]; omega) (by rw [e]; exact h)
end
theorem filter_getD (q : Int → Bool) : ∀ ns : List Int, ((List.range ns.length).filter (fun j => q (ns.getD j 0))).map (fun j => ns.getD j 0) = ns.filter q := by
  intro ns
  induction ns with
  | nil => rfl
  | cons x r ih =>
    rw [List.length_cons, List.range_succ_eq_map, List.filter_cons, List.filter_cons]
    have e : (List.filter (fun j => q ((x :: r).getD j 0)) (List.map Nat.succ (List.range r.length))).map (fun j => (x :: r).getD j 0) = r.filter q := by
      rw [List.filter_map, List.map_map, ← ih]
      rfl
    simp only [List.getD_cons_zero]
    split
    · rw [List.map_cons, e, List.getD_cons_zero]
    · exact e
theorem range_getD (ns : List Int) (n : Nat) (h : ns.length = n) : ((List.range n).filter (fun _ => true)).map (fun j => ns.getD j 0) = ns := by
  subst h
  have := filter_getD (fun _ => true) ns
  rw [this, List.filter_eq_self.mpr (by simp)]
theorem ints_fit {vs : List Value} {ns : List Int} (hi : IntsAre vs ns) (h : ns.length ≤ 1000) : vs.toArray.size ≤ sizeLine := by
  rw [List.size_toArray, hi.length, sizeLine_eq]; omega
theorem row_len {P : Nat → Bool} {n : Nat} {row : List Int} (h : ((List.range n).filter P).map (fun (i : Nat) => (i : Int)) = row) : row.length ≤ n := by
  rw [← h, List.length_map]
  exact Nat.le_trans (List.length_filter_le ..) (by simp)
theorem row_sorted {P : Nat → Bool} {n : Nat} {row : List Int} (h : ((List.range n).filter P).map (fun (i : Nat) => (i : Int)) = row) : row.Pairwise (· ≤ ·) := by
  rw [← h, List.pairwise_map]
  refine List.Pairwise.sublist List.filter_sublist ?_
  exact List.pairwise_lt_range.imp fun h => by omega
theorem row_mem {P : Nat → Bool} {n : Nat} {row : List Int} (h : ((List.range n).filter P).map (fun (i : Nat) => (i : Int)) = row) : ∀ x ∈ row, 0 ≤ x ∧ x < n := by
  rw [← h]
  intro x hx
  obtain ⟨i, hi, rfl⟩ := List.mem_map.mp hx
  have := List.mem_range.mp (List.mem_filter.mp hi).1
  omega
theorem ne_sameK {prog : Program} {w : World} {A : Around} {E : Value → Shared → Prop} {s : Shared} {a b : Addr} {vs us : List Value} {ns : List Int} {Q : Value → Shared → Prop} (hl : s.heap.IsList a vs.toArray) (hi : IntsAre vs ns) (hl' : s.heap.IsList b us.toArray) (hi' : IntsAre us ns) (hu : A.units + 64 < cLine)
    (h : Q (.bool false) s) : wpAny (model prog w) A (compareOp .NotEq (.ref a) (.ref b)) Q E s :=
  ne_intsK hl hi hl' hi' hu (by rw [decide_eq_true rfl]; exact h)
theorem item_last {prog : Program} {w : World} {A : Around} {E : Value → Shared → Prop} {s : Shared} {value slice : Expr} {l : Addr} {vs : List Value} {ns : List Int} {u : Tok} {top : Int} {Q : Value → Shared → Prop} (hl : s.heap.IsList l vs.toArray) (hi : IntsAre vs ns)
    (hp : 0 < ns.length) (ht : ns.getD (ns.length - 1) 0 = top) (h : ∀ t, Q (.int top t) s)
    (hs : subscripted slice false (.ref l) (.int (-1) u) = operate [.ref l, .int (-1) u] (getItem (.ref l) (.int (-1) u))) :
    wpAny (model prog w) A (subscriptTail value slice (.ref l) (.int (-1) u)) Q E s := by
  refine item_list_ints_negR hl hi (by decide) (by omega) (by decide) (fun t => ?_) hs
  rw [show ((-1 : Int) + ns.length).toNat = ns.length - 1 by omega, ht]
  exact h t
theorem len_intsB {prog : Program} {w : World} {A : Around} {E : Value → Shared → Prop} {s : Shared} {l : Addr} {vs : List Value} {ns : List Int} {Q : Value → Shared → Prop} (hl : s.heap.IsList l vs.toArray) (hi : IntsAre vs ns) (hn : ns.length ≤ 1000) (h : Q (.int (ns.length : Nat) (s.toks + 1)) { s with toks := s.toks + 1 + 1 }) : wpAny (model prog w) A (call (.builtin "len") [.ref l]) Q E s := by
  have e : vs.toArray.size = ns.length := by rw [List.size_toArray, hi.length]
  exact PySem.Calls.call_len_list hl (by rw [e]; omega) (by rw [e]; exact h)

end
section
open PyProof.Rows.LCg in
section
variable {prog : Program} {w : World} {A : Around} {E : Value → Shared → Prop} {s : Shared} {env : Env} {h₀ : Heap} {target : Expr} {body : List Stmt} {Q : Flow → Shared → Prop}
noncomputable def TEnd (h₀ : Heap) (L : Addr) (s₁ : Shared) (I : Addr) (o : Obj) (adr : List Addr) (J : (Str → Option Value) → Led → Prop) (s₂ : Shared) : Prop :=
  ∃ h' tk m' all news', s₂ = { s₁ with heap := h', toks := tk } ∧ Fr h₀ L h' m' ∧ News h₀ L h' all ∧ (I, o) ∈ all ∧ (∀ p ∈ news', p ∈ all) ∧ news'.map (·.1) = adr ∧ J m' news'
noncomputable def TPost (h₀ : Heap) (L : Addr) (s₁ : Shared) (I : Addr) (o : Obj) (adr : List Addr) (J : (Str → Option Value) → Led → Prop) (Q : Flow → Shared → Prop) (f : Flow) (s₂ : Shared) : Prop :=
  match f with
  | .ret v => Q (.ret v) s₂
  | .brk => Q .next s₂
  | _ => TEnd h₀ L s₁ I o adr J s₂
theorem tend {L : Addr} {s₁ : Shared} {I : Addr} {o : Obj} {adr : List Addr} {J : (Str → Option Value) → Led → Prop} {h' : Heap} {tk : Nat} {m' : Str → Option Value} {all : Led} (news' : Led)
    (F : Fr h₀ L h' m') (N : News h₀ L h' all) (hI : (I, o) ∈ all) (sub : ∀ p ∈ news', p ∈ all) (ha : news'.map (·.1) = adr) (r : J m' news') : TEnd h₀ L s₁ I o adr J { s₁ with heap := h', toks := tk } :=
  ⟨h', tk, m', all, news', rfl, F, N, hI, sub, ha, r⟩
theorem fr_known {L : Addr} {h : Heap} {m₁ : Str → Option Value} (ps : List (Str × Value)) (h1 : ∀ p ∈ ps, m₁ p.1 = some p.2) (F : Fr h₀ L h m₁) : Fr h₀ L h (kstB m₁ ps) := by
  have e : kstB m₁ ps = m₁ := funext fun y => kstB_eq h1 fun _ => rfl
  rw [e]; exact F
theorem subL_of {keep n : Led} (h : ∀ p ∈ keep, p ∈ n) : SubL keep n := by
  induction keep with
  | nil => trivial
  | cons p r ih => exact ⟨h p (.head _), ih fun q hq => h q (.tail _ hq)⟩
theorem allObj_mono : ∀ {ws : List (Addr × String)} {k k' : Led → Prop}, (∀ its, its.map (·.1) = ws.map (·.1) → k its → k' its) → AllObj ws k → AllObj ws k'
  | [], _, _, h, x => h [] rfl x
  | w :: ws, _, _, h, x => fun o ho => allObj_mono (fun its e y => h ((w.1, o) :: its) (by show w.1 :: its.map (·.1) = w.1 :: ws.map (·.1); rw [e]) y) (x o ho)
theorem rest_inv {ws : List (Addr × String)} {keep : Led} {xs : List Itm} (J : Nat → (Str → Option Value) → Led → Prop) (hk : ∀ i m n, J i m n → ∀ p ∈ keep, p ∈ n)
    (turn : ∀ i a m news v h tk, xs[i]? = some a → J i m news → a.Is v h → Fr h₀ env.locals h m → AllObj ws (fun its => News h₀ env.locals h (its ++ news) →
      wpAny (model prog w) A (assign target env v) (fun _ s₂ => wpAny (model prog w) A (execs body env) (UnrPostW h₀ env.locals { s with heap := h, toks := tk } its (J (i + 1)) Q) E s₂) E { s with heap := h, toks := tk }))
    (done : ∀ m news h tk, J xs.length m news → Fr h₀ env.locals h m → News h₀ env.locals h news → Q .next { s with heap := h, toks := tk }) :
    ∀ k i m news, i + k = xs.length → J i m news → ItemsRest prog w A E h₀ env target body Q s ws keep (xs.drop i) m news := by
  intro k
  induction k with
  | zero =>
    intro i m news hi hJ
    rw [List.drop_eq_nil_of_le (by omega)]
    intro h tk F N
    have : i = xs.length := by omega
    exact done m news h tk (this ▸ hJ) F N
  | succ k ih =>
    intro i m news hi hJ
    have hlt : i < xs.length := by omega
    rw [List.drop_eq_getElem_cons hlt]
    intro v h tk hv F
    refine allObj_mono (fun its _ y N => wpAny_mono (y N) (fun _ s₂ h₂ => wpAny_mono h₂ (fun f s₃ p => ?_) fun _ _ e => e) fun _ _ e => e) (turn i _ m news v h tk (List.getElem?_eq_getElem hlt) hJ hv F)
    have fin : UnrEndW h₀ env.locals { s with heap := h, toks := tk } its (J (i + 1)) s₃ → UnrEndW h₀ env.locals { s with heap := h, toks := tk } its (fun m' n' => SubL keep n' ∧ ItemsRest prog w A E h₀ env target body Q s ws keep (xs.drop (i + 1)) m' n') s₃ := by
      rintro ⟨h', tk', m', news', e, F', N', off, hJ'⟩
      exact ⟨h', tk', m', news', e, F', N', off, subL_of (hk _ _ _ hJ'), ih (i + 1) m' news' (by omega) hJ'⟩
    cases f with
    | ret v => exact p
    | brk => exact p
    | next => exact fin p
    | cont => exact fin p
theorem turn_post {L : Addr} {s₁ : Shared} {I : Addr} {o : Obj} {adr : List Addr} {J : (Str → Option Value) → Led → Prop} (hoff : ∀ a ∈ adr, a ≠ I) (f : Flow) (s₂ : Shared) (h : TPost h₀ L s₁ I o adr J Q f s₂) :
    UnrPostW h₀ L s₁ [(I, o)] (fun m n => n.map (·.1) = adr ∧ J m n) Q f s₂ := by
  have fin : TEnd h₀ L s₁ I o adr J s₂ → UnrEndW h₀ L s₁ [(I, o)] (fun m n => n.map (·.1) = adr ∧ J m n) s₂ := by
    rintro ⟨h', tk, m', all, news', e, F, N, hI, sub, ha, r⟩
    refine ⟨h', tk, m', news', e, F, fun p hp => ?_, fun p hp q hq => ?_, ha, r⟩
    · rcases List.mem_append.mp hp with hp | hp
      · rw [List.mem_singleton.mp hp]; exact N _ hI
      · exact N _ (sub p hp)
    · rw [List.mem_singleton.mp hq]
      exact hoff _ (ha ▸ List.mem_map_of_mem hp)
  cases f with
  | ret v => exact h
  | brk => exact h
  | next => exact fin h
  | cont => exact fin h
theorem loop_list {x : Str} {px : Pos} {ax : Addr} {vs : List Value} {n : Nat} {m₀ : Str → Option Value} {news : Led} (J : Nat → (Str → Option Value) → Led → Prop)
    (hh : A.handled = none) (F : Fr h₀ env.locals s.heap m₀) (N : News h₀ env.locals s.heap news) (hm : (ax, listOf vs.toArray n) ∈ news) (h0 : J 0 m₀ news) (hk : ∀ i m nw, J i m nw → (ax, listOf vs.toArray n) ∈ nw)
    (turn : ∀ I o i v m nw h tk, (∀ p ∈ news, p.1 < I) → vs[i]? = some v → nw.map (·.1) = news.map (·.1) → J i m nw → Fr h₀ env.locals h m → News h₀ env.locals h ((I, o) :: nw) →
      wpAny (model prog w) A (assign (.Name x px) env v) (fun _ s₂ => wpAny (model prog w) A (execs body env) (TPost h₀ env.locals { s with heap := h, toks := tk } I o (news.map (·.1)) (J (i + 1)) Q) E s₂) E { s with heap := h, toks := tk })
    (done : ∀ m nw h tk, J vs.length m nw → Fr h₀ env.locals h m → News h₀ env.locals h nw → Q .next { s with heap := h, toks := tk }) :
    wpAny (model prog w) A (pyIter (.ref ax)) (fun it s₂ => TurnsAt prog w A h₀ env (.Name x px) body Q E it s₂) E s := by
  refine iter_listTurns hh F N hm rfl rfl fun I hI => ?_
  have hoff : ∀ a ∈ news.map (·.1), a ≠ I := fun a ha => by
    obtain ⟨p, hp, rfl⟩ := List.mem_map.mp ha
    exact Nat.ne_of_lt (hI p hp)
  have := rest_inv (xs := vs.map Itm.val) (ws := [(I, "list_iterator")]) (keep := [(ax, listOf vs.toArray n)]) (s := s) (Q := Q) (E := E) (A := A) (prog := prog) (w := w) (h₀ := h₀) (env := env) (target := .Name x px) (body := body)
    (fun i m nw => nw.map (·.1) = news.map (·.1) ∧ J i m nw) (fun i m nw hJ p hp => by rw [List.mem_singleton.mp hp]; exact hk i m nw hJ.2) ?_ ?_ vs.length 0 m₀ news (by simp) ⟨rfl, h0⟩
  · rw [List.drop_zero] at this; exact this
  · rintro i a m nw v h tk hx ⟨ha, hJ⟩ hv F₁ o ho N₁
    rw [List.getElem?_map] at hx
    obtain ⟨u, hu, rfl⟩ := Option.map_eq_some_iff.mp hx
    have hv' : v = u := hv
    subst hv'
    exact wpAny_mono (turn I o i v m nw h tk hI hu ha hJ F₁ N₁) (fun _ s₂ h₂ => wpAny_mono h₂ (fun f s₃ p => turn_post hoff f s₃ p) fun _ _ e => e) fun _ _ e => e
  · rintro m nw h tk ⟨_, hJ⟩ F₁ N₁
    rw [List.length_map] at hJ
    exact done m nw h tk hJ F₁ N₁
theorem loop_range {x : Str} {px : Pos} {r : Addr} {a b : Int} {t u v : Tok} {n : Nat} {m₀ : Str → Option Value} {news : Led} (J : Nat → (Str → Option Value) → Led → Prop)
    (hh : A.handled = none) (F : Fr h₀ env.locals s.heap m₀) (N : News h₀ env.locals s.heap news) (hr : IsRange s.heap r a b 1 t u v) (hsm : Builtin.Range.small a b 1 = true) (hn : Builtin.Range.rangeSize a b 1 = ((n : Nat) : Int)) (h0 : J 0 m₀ news)
    (turn : ∀ I o i (k : Int) t' m nw h tk, (∀ p ∈ news, p.1 < I) → i < n → k = a + (i : Int) → nw.map (·.1) = news.map (·.1) → J i m nw → Fr h₀ env.locals h m → News h₀ env.locals h ((I, o) :: nw) →
      wpAny (model prog w) A (assign (.Name x px) env (.int k t')) (fun _ s₂ => wpAny (model prog w) A (execs body env) (TPost h₀ env.locals { s with heap := h, toks := tk } I o (news.map (·.1)) (J (i + 1)) Q) E s₂) E { s with heap := h, toks := tk })
    (done : ∀ m nw h tk, J n m nw → Fr h₀ env.locals h m → News h₀ env.locals h nw → Q .next { s with heap := h, toks := tk }) :
    wpAny (model prog w) A (pyIter (.ref r)) (fun it s₂ => TurnsAt prog w A h₀ env (.Name x px) body Q E it s₂) E s := by
  refine wpAny_pyIter_range hr hsm ?_
  rw [hn]
  have hI : ∀ p ∈ news, p.1 < s.heap.objs.size := fun p hp => Heap.lt_size (N p hp).1
  have hoff : ∀ a ∈ news.map (·.1), a ≠ s.heap.objs.size := fun a ha => by
    obtain ⟨p, hp, rfl⟩ := List.mem_map.mp ha
    exact Nat.ne_of_lt (hI p hp)
  have W : Walks prog w A s.heap.objs.size [s.heap.objs.size] [s.heap.objs.size] n (fun i v => i < n ∧ ∃ t, v = .int (a + i * 1) t)
      (fun i h => IsRangeIter h s.heap.objs.size (a + (i : Nat) * 1) ((n : Int) - (i : Nat)) 1) := (Walks.range hh _ a 1 n).bound
  refine ktu_core (tk0 := s.toks) (xs := (List.range n).map fun (i : Nat) => Itm.tok fun t => Value.int (a + (i : Int)) t) (ws := [(s.heap.objs.size, "range_iterator")]) (keep := []) (KTurns.ofWalks W fun i v s Q E st q => wpAny_pure q) (by simp) (fun i v h hp => ?_) (fun i h st => ?_) (fun b hb => ?_) (fun b hb => by simpa using hb) (fun b hb => by left; simpa using hb) ?_ (fun p hp hI' => ?_) ?_ (F.push _) (fun p hp => ⟨Heap.get?_push_of_some _ (N p hp).1, (N p hp).2⟩) trivial ?_
  · obtain ⟨hi, t, e⟩ := hp
    refine ⟨Itm.tok fun t => Value.int (a + (i : Int)) t, by simp [hi], t, ?_⟩
    rw [e, Int.mul_one]
  · exact ⟨[(s.heap.objs.size, _)], ⟨⟨rfl, rfl⟩, trivial⟩, fun p hp => by rw [List.mem_singleton.mp hp]; exact st⟩
  · have hb' : b = s.heap.objs.size := by simpa using hb
    rw [hb']
    exact ⟨List.mem_cons_self .., next_is_new F⟩
  · intro hI'
    exact absurd F.ns.lt ((List.mem_singleton.mp hI') ▸ Nat.lt_irrefl _)
  · exact absurd (Heap.lt_size (N p hp).1) ((List.mem_singleton.mp hI') ▸ Nat.lt_irrefl _)
  · show IsRangeIter _ _ _ _ _
    simpa using Heap.get?_push_size _ rfl
  · have := rest_inv (xs := (List.range n).map fun (i : Nat) => Itm.tok fun t => Value.int (a + (i : Int)) t) (ws := [(s.heap.objs.size, "range_iterator")]) (keep := []) (s := s) (Q := Q) (E := E) (A := A) (prog := prog) (w := w) (h₀ := h₀) (env := env) (target := .Name x px) (body := body)
      (fun i m nw => nw.map (·.1) = news.map (·.1) ∧ J i m nw) (fun i m nw hJ p hp => nomatch hp) ?_ ?_ n 0 m₀ news (by simp) ⟨rfl, h0⟩
    · rw [List.drop_zero] at this; exact this
    · rintro i a' m nw v h tk hx ⟨ha, hJ⟩ hv F₁ o ho N₁
      rw [List.getElem?_map] at hx
      obtain ⟨u, hu, rfl⟩ := Option.map_eq_some_iff.mp hx
      obtain ⟨hi, e⟩ := List.getElem?_eq_some_iff.mp hu
      rw [List.getElem_range] at e
      subst e
      obtain ⟨t', rfl⟩ := hv
      exact wpAny_mono (turn _ o i _ t' m nw h tk hI (by simpa using hi) rfl ha hJ F₁ N₁) (fun _ s₂ h₂ => wpAny_mono h₂ (fun f s₃ p => turn_post hoff f s₃ p) fun _ _ e => e) fun _ _ e => e
    · rintro m nw h tk ⟨_, hJ⟩ F₁ N₁
      rw [List.length_map, List.length_range] at hJ
      exact done m nw h tk hJ F₁ N₁
end

end
section
inductive Picks (pz : Nat → Bool) (El : Nat → Value → Prop) : Nat → List Value → Prop
  | zero : Picks pz El 0 []
  | take {i : Nat} {ys : List Value} {y : Value} : Picks pz El i ys → pz i = true → El i y → Picks pz El (i + 1) (ys ++ [y])
  | skip {i : Nat} {ys : List Value} : Picks pz El i ys → pz i = false → Picks pz El (i + 1) ys
theorem picks_ints {pz : Nat → Bool} {El : Nat → Value → Prop} {f : Nat → Int} (hf : ∀ i y, El i y → ∃ t, y = .int (f i) t) : ∀ {n : Nat} {ys : List Value}, Picks pz El n ys → IntsAre ys (((List.range n).filter pz).map f) := by
  intro n ys h
  induction h with
  | zero => exact .nil
  | take _ hp hE ih =>
    obtain ⟨t, rfl⟩ := hf _ _ hE
    rw [List.range_succ, List.filter_append, List.map_append]
    refine ih.append ?_
    simp only [List.filter_cons, hp, if_true, List.filter_nil, List.map_cons, List.map_nil]
    exact .cons _ _ .nil
  | skip _ hp ih =>
    rw [List.range_succ, List.filter_append, List.map_append]
    simpa [hp] using ih
theorem picks_map {El : Nat → Value → Prop} {f : Nat → Value} (hf : ∀ i y, El i y → y = f i) : ∀ {n : Nat} {ys : List Value}, Picks (fun _ => true) El n ys → ys = (List.range n).map f := by
  intro n ys h
  induction h with
  | zero => rfl
  | take _ hp hE ih => rw [List.range_succ, List.map_append, ih, hf _ _ hE]; rfl
  | skip _ hp ih => cases hp
theorem picks_length {El : Nat → Value → Prop} : ∀ {n : Nat} {ys : List Value}, Picks (fun _ => true) El n ys → ys.length = n := by
  intro n ys h
  induction h with
  | zero => rfl
  | take _ hp hE ih => simp [ih]
  | skip _ hp ih => cases hp
theorem picks_get {El : Nat → Value → Prop} : ∀ {n : Nat} {ys : List Value}, Picks (fun _ => true) El n ys → ∀ i, i < n → ∃ y, ys[i]? = some y ∧ El i y := by
  intro n ys h
  induction h with
  | zero => exact fun i h => absurd h (Nat.not_lt_zero _)
  | @take j ys y hP _ hE ih =>
    intro i hi
    have hl := picks_length hP
    by_cases e : i < j
    · obtain ⟨u, h1, h2⟩ := ih i e
      exact ⟨u, by rw [List.getElem?_append_left (by omega)]; exact h1, h2⟩
    · have : i = j := by omega
      subst this
      exact ⟨y, by rw [← hl]; simp, hE⟩
  | skip _ hp ih => cases hp
noncomputable def CKeep (h₀ : Heap) (L : Addr) (m : Str → Option Value) (s : Shared) (led : Led) (s' : Shared) : Prop :=
  ∃ h' tk all, s' = { s with heap := h', toks := tk } ∧ Fr h₀ L h' m ∧ News h₀ L h' all ∧ ∀ p ∈ led, p ∈ all
noncomputable def CTest (h₀ : Heap) (L : Addr) (m : Str → Option Value) (s : Shared) (led : Led) (b : Bool) (ok : Bool) (s' : Shared) : Prop := ok = b ∧ CKeep h₀ L m s led s'
noncomputable def CElt (h₀ : Heap) (L : Addr) (m : Str → Option Value) (s : Shared) (led : Led) (P : Value → Prop) (y : Value) (s' : Shared) : Prop := P y ∧ CKeep h₀ L m s led s'
section
variable {prog : Program} {w : World} {A : Around} {E : Value → Shared → Prop} {s : Shared} {h₀ : Heap} {L : Addr} {m : Str → Option Value} {env : Env}
theorem ctest {h' : Heap} {tk : Nat} {led all : Led} {b ok : Bool} (e : ok = b) (F : Fr h₀ L h' m) (N : News h₀ L h' all) (sub : ∀ p ∈ led, p ∈ all) : CTest h₀ L m s led b ok { s with heap := h', toks := tk } := ⟨e, h', tk, all, rfl, F, N, sub⟩
theorem celt {h' : Heap} {tk : Nat} {led all : Led} {P : Value → Prop} {y : Value} (e : P y) (F : Fr h₀ L h' m) (N : News h₀ L h' all) (sub : ∀ p ∈ led, p ∈ all) : CElt h₀ L m s led P y { s with heap := h', toks := tk } := ⟨e, h', tk, all, rfl, F, N, sub⟩
theorem comp_restT {ct elt : Expr} {x : Str} {scope : Scope} {cl : List (Str × Addr)} {S : Led → Prop} {P : Nat → Value → Prop} {Fin : List Value → Led → Prop} {news : Led} (n : Nat) (pz : Nat → Bool) (El : Nat → Value → Prop) (hS : S news)
    (test : ∀ i v I oI C oC D ys m₂ h tk (E' : Value → Shared → Prop), i < n → P i v → LCg.NsObj oC m₂ → m₂ x = some v → Fr h₀ L h m → News h₀ L h ((I, oI) :: (C, oC) :: (D, LCg.lst ys) :: news) →
      wpAny (model prog w) A (isTrue ct (compEnvC scope cl C env) (eval ct (compEnvC scope cl C env))) (CTest h₀ L m { s with heap := h, toks := tk } ((I, oI) :: (C, oC) :: (D, LCg.lst ys) :: news) (pz i)) E' { s with heap := h, toks := tk })
    (elem : ∀ i v I oI C oC D ys m₂ h tk (E' : Value → Shared → Prop), i < n → pz i = true → P i v → LCg.NsObj oC m₂ → m₂ x = some v → Fr h₀ L h m → News h₀ L h ((I, oI) :: (C, oC) :: (D, LCg.lst ys) :: news) →
      wpAny (model prog w) A (eval elt (compEnvC scope cl C env)) (CElt h₀ L m { s with heap := h, toks := tk } ((I, oI) :: (C, oC) :: (D, LCg.lst ys) :: news) (El i)) E' { s with heap := h, toks := tk })
    (fin : ∀ ys, Picks pz El n ys → Fin ys news) : LCt.CompRestT prog w A h₀ L m env ct elt x scope cl s S P Fin n 0 [] news := by
  have go : ∀ k i ys, i + k = n → Picks pz El i ys → LCt.CompRestT prog w A h₀ L m env ct elt x scope cl s S P Fin k i ys news := by
    intro k
    induction k with
    | zero =>
      intro i ys hi hp
      have : i = n := by omega
      subst this
      exact fin ys hp
    | succ k ih =>
      intro i ys hi hp
      refine LCt.CompRestT.succ fun v I oI C oC D m₂ h tk E' hP hC hx F N off ne => ?_
      refine wpAny_mono (test i v I oI C oC D ys m₂ h tk E' (by omega) hP hC hx F N) (fun ok s' hok => ?_) fun _ _ e => e
      obtain ⟨e, h', tk', all, rfl, F', N', sub⟩ := hok
      have N'' : News h₀ L h' ((I, oI) :: (C, oC) :: (D, LCg.lst ys) :: news) := fun p hp => N' p (sub p hp)
      cases hb : pz i with
      | true =>
        rw [e, hb, if_pos rfl]
        refine wpAny_mono (elem i v I oI C oC D ys m₂ h' tk' E' (by omega) hb hP hC hx F' N'') (fun y s₃ hy => ?_) fun _ _ e => e
        obtain ⟨hy, h₃, tk₃, all₃, rfl, F₃, N₃, sub₃⟩ := hy
        exact ⟨h₃, tk₃, news, rfl, F₃, fun p hp => N₃ p (sub₃ p hp), off, hS, ih (i + 1) _ (by omega) (.take hp hb hy)⟩
      | false =>
        rw [e, hb, if_neg Bool.false_ne_true]
        exact ⟨h', tk', news, rfl, F', N'', off, hS, ih (i + 1) _ (by omega) (.skip hp hb)⟩
  exact go n 0 [] (by omega) .zero
theorem comp_rest {elt : Expr} {x : Str} {scope : Scope} {cl : List (Str × Addr)} {S : Led → Prop} {P : Nat → Value → Prop} {Fin : List Value → Led → Prop} {news : Led} (n : Nat) (El : Nat → Value → Prop) (hS : S news)
    (elem : ∀ i v I oI C oC D ys m₂ h tk (E' : Value → Shared → Prop), i < n → P i v → LCg.NsObj oC m₂ → m₂ x = some v → Fr h₀ L h m → News h₀ L h ((I, oI) :: (C, oC) :: (D, LCg.lst ys) :: news) →
      wpAny (model prog w) A (eval elt (compEnvC scope cl C env)) (CElt h₀ L m { s with heap := h, toks := tk } ((I, oI) :: (C, oC) :: (D, LCg.lst ys) :: news) (El i)) E' { s with heap := h, toks := tk })
    (fin : ∀ ys, Picks (fun _ => true) El n ys → Fin ys news) : LCg.CompRest prog w A h₀ L m env elt x scope cl s S P Fin n 0 [] news := by
  have go : ∀ k i ys, i + k = n → Picks (fun _ => true) El i ys → LCg.CompRest prog w A h₀ L m env elt x scope cl s S P Fin k i ys news := by
    intro k
    induction k with
    | zero =>
      intro i ys hi hp
      have : i = n := by omega
      subst this
      exact fin ys hp
    | succ k ih =>
      intro i ys hi hp
      refine LCg.CompRest.succ fun v I oI C oC D m₂ h tk E' hP hC hx F N off ne => ?_
      refine wpAny_mono (elem i v I oI C oC D ys m₂ h tk E' (by omega) hP hC hx F N) (fun y s₃ hy => ?_) fun _ _ e => e
      obtain ⟨hy, h₃, tk₃, all₃, rfl, F₃, N₃, sub₃⟩ := hy
      exact ⟨h₃, tk₃, news, rfl, F₃, fun p hp => N₃ p (sub₃ p hp), off, hS, ih (i + 1) _ (by omega) (.take hp rfl hy)⟩
  exact go n 0 [] (by omega) .zero
end
theorem ints_item {vs : List Value} {ns : List Int} {i : Nat} {v : Value} (hi : IntsAre vs ns) (hv : vs.toArray[i]? = some v) : i < ns.length ∧ ∃ t, v = .int (ns.getD i 0) t := by
  have hv' : vs[i]? = some v := by simpa using hv
  obtain ⟨hlt, _⟩ := List.getElem?_eq_some_iff.mp hv'
  have hl := hi.length
  have hlt' : i < ns.length := by omega
  obtain ⟨t, ht⟩ := hi.get i ns[i] (by simp [hlt'])
  rw [hv'] at ht
  refine ⟨hlt', t, ?_⟩
  rw [Option.some.inj ht]
  simp [hlt']
theorem item_bools {prog : Program} {w : World} {A : Around} {E : Value → Shared → Prop} {s : Shared} {l : Addr} {n : Nat} {P : Nat → Bool} {k : Int} {u : Tok} {Q : Value → Shared → Prop} {value slice : Expr}
    (hl : s.heap.IsList l ((List.range n).map fun j => Value.bool (P j)).toArray) (h0 : 0 ≤ k) (h1 : k < n) (hn : n < 2 ^ 62) (h : Q (.bool (P k.toNat)) s)
    (hs : subscripted slice false (.ref l) (.int k u) = operate [.ref l, .int k u] (getItem (.ref l) (.int k u)) := by with_unfolding_all rfl) :
    wpAny (model prog w) A (subscriptTail value slice (.ref l) (.int k u)) Q E s := by
  have h9 : k.toNat < n := by omega
  exact tail_any hl.typeIs slot_list_getitem.lookup (wpAny_getItem_list hl h0 (by omega) (by simp [h9]) h) hs
theorem getD_in {ns : List Int} {i : Nat} (h : i < ns.length) : ns.getD i 0 ∈ ns := by
  have e : ns.getD i 0 = ns[i] := by simp [h]
  rw [e]; exact List.getElem_mem h
theorem notnil_any {α β : Type} [DecidableEq β] (p : α → Bool) (f : α → β) (l : List α) : (!decide ((l.filter p).map f = [])) = l.any p := by
  rw [Bool.eq_iff_iff, List.any_eq_true]
  simp [List.filter_eq_nil_iff]
theorem nil_any {α β : Type} [DecidableEq β] (p : α → Bool) (f : α → β) (l : List α) : decide ((l.filter p).map f = []) = !l.any p := by
  rw [← notnil_any p f l, Bool.not_not]
theorem strs_append : ∀ {vs ws : List Value} {ns ms : List Str}, StrsAre vs ns → StrsAre ws ms → StrsAre (vs ++ ws) (ns ++ ms)
  | _, _, _, _, .nil, h => h
  | _, _, _, _, .cons y t r, h => .cons y t (strs_append r h)
theorem picks_strs {El : Nat → Value → Prop} {f : Nat → Str} (hf : ∀ i y, El i y → ∃ t, y = .str (f i) t) : ∀ {n : Nat} {ys : List Value}, Picks (fun _ => true) El n ys → StrsAre ys ((List.range n).map f) := by
  intro n ys h
  induction h with
  | zero => exact .nil
  | take _ hp hE ih =>
    obtain ⟨t, rfl⟩ := hf _ _ hE
    rw [List.range_succ, List.map_append]
    exact strs_append ih (.cons _ _ .nil)
  | skip _ hp ih => cases hp
theorem map_getD {α : Type} (ns : List Int) (f : Int → α) : (List.range ns.length).map (fun j => f (ns.getD j 0)) = ns.map f := by
  apply List.ext_getElem
  · simp
  · intro i h1 h2
    have hi : i < ns.length := by simpa using h2
    simp [hi]
theorem drop4 {g : Heap} {L : Addr} {h : Heap} {a b c q : Addr × Obj} {news : Led} (N : News g L h (a :: b :: c :: q :: news)) : News g L h (a :: b :: c :: news) := fun r hr => by
  rcases List.mem_cons.mp hr with e | hr
  · exact N r (e ▸ .head _)
  · rcases List.mem_cons.mp hr with e | hr
    · exact N r (e ▸ .tail _ (.head _))
    · rcases List.mem_cons.mp hr with e | hr
      · exact N r (e ▸ .tail _ (.tail _ (.head _)))
      · exact N r (.tail _ (.tail _ (.tail _ (.tail _ hr))))

end
section
theorem countP_sorted {ns : List Int} {x : Int} (hs : ns.Pairwise (· ≤ ·)) : ∀ i, i < ns.length → (ns.getD i 0 < x ↔ i < ns.countP (fun y => decide (y < x))) := by
  induction hs with
  | nil => exact fun i h => absurd h (Nat.not_lt_zero _)
  | @cons a r ha _ ih =>
    intro i hi
    by_cases hax : a < x
    · rw [List.countP_cons_of_pos (by simpa using hax)]
      cases i with
      | zero => simpa using hax
      | succ i =>
        have := ih i (by simpa using hi)
        simp only [List.getD_cons_succ]
        omega
    · have h0 : r.countP (fun y => decide (y < x)) = 0 := by
        rw [List.countP_eq_zero]
        intro b hb
        have := ha b hb
        simp only [decide_eq_true_eq]
        omega
      rw [List.countP_cons_of_neg (by simpa using hax), h0]
      cases i with
      | zero => simpa using hax
      | succ i =>
        have hi' : i < r.length := by simpa using hi
        have e : r.getD i 0 = r[i] := by simp [hi']
        have := ha _ (List.getElem_mem hi')
        rw [List.getD_cons_succ, e]
        omega
theorem countP_sortedR {ns : List Int} {x : Int} (hs : ns.Pairwise (· ≤ ·)) : ∀ i, i < ns.length → (x < ns.getD i 0 ↔ ns.countP (fun y => decide (y ≤ x)) ≤ i) := by
  intro i hi
  have := countP_sorted (x := x + 1) hs i hi
  have e : (fun y : Int => decide (y < x + 1)) = fun y => decide (y ≤ x) := by funext y; simp only [decide_eq_decide]; omega
  rw [e] at this
  omega
section
variable {ns : List Int} {x lo hi : Int} {k : Nat}
theorem bisL1 (hk : ∀ i, i < ns.length → (ns.getD i 0 < x ↔ i < k)) (h1 : 0 ≤ lo) (h3 : (k : Int) ≤ hi) (h4 : hi ≤ ns.length) (hlt : lo < hi) (hm : ns.getD ((lo + hi).fdiv 2).toNat 0 < x) :
    0 ≤ (lo + hi).fdiv 2 + 1 ∧ (lo + hi).fdiv 2 + 1 ≤ k ∧ (k : Int) ≤ hi ∧ hi ≤ ns.length := by
  rw [Int.fdiv_eq_ediv_of_nonneg _ (by decide)] at *
  have := (hk _ (by omega)).mp hm
  omega
theorem bisL2 (hk : ∀ i, i < ns.length → (ns.getD i 0 < x ↔ i < k)) (h1 : 0 ≤ lo) (h2 : lo ≤ k) (h4 : hi ≤ ns.length) (hlt : lo < hi) (hm : ¬ ns.getD ((lo + hi).fdiv 2).toNat 0 < x) :
    0 ≤ lo ∧ lo ≤ k ∧ (k : Int) ≤ (lo + hi).fdiv 2 ∧ (lo + hi).fdiv 2 ≤ ns.length := by
  rw [Int.fdiv_eq_ediv_of_nonneg _ (by decide)] at *
  have := mt (hk _ (by omega)).mpr hm
  omega
theorem bisR1 (hk : ∀ i, i < ns.length → (x < ns.getD i 0 ↔ k ≤ i)) (h1 : 0 ≤ lo) (h3 : (k : Int) ≤ hi) (h4 : hi ≤ ns.length) (hlt : lo < hi) (hm : ¬ x < ns.getD ((lo + hi).fdiv 2).toNat 0) :
    0 ≤ (lo + hi).fdiv 2 + 1 ∧ (lo + hi).fdiv 2 + 1 ≤ k ∧ (k : Int) ≤ hi ∧ hi ≤ ns.length := by
  rw [Int.fdiv_eq_ediv_of_nonneg _ (by decide)] at *
  have := mt (hk _ (by omega)).mpr hm
  omega
theorem bisR2 (hk : ∀ i, i < ns.length → (x < ns.getD i 0 ↔ k ≤ i)) (h1 : 0 ≤ lo) (h2 : lo ≤ k) (h4 : hi ≤ ns.length) (hlt : lo < hi) (hm : x < ns.getD ((lo + hi).fdiv 2).toNat 0) :
    0 ≤ lo ∧ lo ≤ k ∧ (k : Int) ≤ (lo + hi).fdiv 2 ∧ (lo + hi).fdiv 2 ≤ ns.length := by
  rw [Int.fdiv_eq_ediv_of_nonneg _ (by decide)] at *
  have := (hk _ (by omega)).mp hm
  omega
theorem bisM1 (hlt : lo < hi) : (hi - ((lo + hi).fdiv 2 + 1)).toNat < (hi - lo).toNat := by
  rw [Int.fdiv_eq_ediv_of_nonneg _ (by decide)]; omega
theorem bisM2 (hlt : lo < hi) : ((lo + hi).fdiv 2 - lo).toNat < (hi - lo).toNat := by
  rw [Int.fdiv_eq_ediv_of_nonneg _ (by decide)]; omega
end

end
section
noncomputable def lineS (r : Int) : Str := Txt.mul (Str.ofString " ") r ++ Str.ofString "\t"
noncomputable def lineC (r : Int) : List Nat := List.replicate r.toNat 32 ++ [9]
theorem ofs_sp : (Str.ofString " ").cps = #[32] := by decide +kernel
theorem ofs_tab : (Str.ofString "\t").cps = #[9] := by decide +kernel
theorem ofs_end : (Str.ofString "x \t").cps = #[120, 32, 9] := by decide +kernel
theorem ofs_nil : (Str.ofString "").cps = #[] := by decide +kernel
theorem foldl_rep (n : Nat) (a : Array Nat) : ((List.replicate n #[32]).foldl (· ++ ·) a).toList = a.toList ++ List.replicate n 32 := by
  induction n generalizing a with
  | zero => simp
  | succ n ih => rw [List.replicate_succ, List.foldl_cons, ih, List.replicate_succ]; simp
theorem mul_sp (r : Int) : (Txt.mul (Str.ofString " ") r).cps.toList = List.replicate r.toNat 32 := by
  unfold Txt.mul
  by_cases h : r < 1
  · rw [if_pos h, show r.toNat = 0 by omega]; rfl
  · rw [if_neg h]
    have e : (Str.ofString " ").length = 1 := by show (Str.ofString " ").cps.size = 1; rw [ofs_sp]; rfl
    by_cases h1 : r = 1
    · subst h1
      rw [if_pos (by decide), ofs_sp]; rfl
    · rw [if_neg (by rw [e]; simp [h1])]
      show ((List.replicate r.toNat (Str.ofString " ").cps).foldl (· ++ ·) #[]).toList = _
      rw [ofs_sp, foldl_rep]
      simp
theorem lineS_cps (r : Int) : (lineS r).cps.toList = lineC r := by
  show ((Txt.mul (Str.ofString " ") r).cps ++ (Str.ofString "\t").cps).toList = _
  rw [Array.toList_append, mul_sp, ofs_tab]; rfl
theorem join_cps (ys : List Str) : (Txt.join (Str.ofString "") ys).cps.toList = ys.flatMap (·.cps.toList) := by
  unfold Txt.join
  rw [StrLaws.glued_eq_join]
  induction ys with
  | nil => rfl
  | cons y r ih =>
    cases r with
    | nil => simp [Str.join]
    | cons z r =>
      show ((y.cps ++ (Str.ofString "").cps) ++ (Str.join (Str.ofString "") (z :: r)).cps).toList = _
      rw [Array.toList_append, ih, ofs_nil]
      simp
noncomputable def textC (rs : List Int) : List Nat := rs.flatMap lineC ++ [120, 32, 9]
theorem text_cps (rs : List Int) : (Txt.join (Str.ofString "") (rs.map lineS) ++ Str.ofString "x \t").cps.toList = textC rs := by
  show ((Txt.join (Str.ofString "") (rs.map lineS)).cps ++ (Str.ofString "x \t").cps).toList = _
  rw [Array.toList_append, join_cps, ofs_end]
  unfold textC
  congr 1
  rw [List.flatMap_map]
  congr 1
  funext r
  exact lineS_cps r
theorem lineS_len (r : Int) : (lineS r).length = r.toNat + 1 := by
  show (lineS r).cps.size = _
  rw [← Array.length_toList, lineS_cps]
  simp [lineC]
theorem lines_sum {rs : List Int} (hb : ∀ r ∈ rs, 0 ≤ r ∧ r ≤ 77) : ((rs.map lineS).map (·.length)).sum ≤ rs.length * 78 := by
  induction rs with
  | nil => simp
  | cons r q ih =>
    have h1 := hb r (.head _)
    have h2 := ih fun x hx => hb x (.tail _ hx)
    simp only [List.map_cons, List.sum_cons, lineS_len, List.length_cons]
    omega
theorem text_len {rs : List Int} (hb : ∀ r ∈ rs, 0 ≤ r ∧ r ≤ 77) : (textC rs).length ≤ rs.length * 78 + 3 := by
  unfold textC
  rw [List.length_append]
  have : (rs.flatMap lineC).length ≤ rs.length * 78 := by
    induction rs with
    | nil => simp
    | cons r q ih =>
      have h1 := hb r (.head _)
      have h2 := ih fun x hx => hb x (.tail _ hx)
      simp only [List.flatMap_cons, List.length_append, List.length_cons, lineC, List.length_replicate, List.length_nil]
      omega
  simp only [List.length_cons, List.length_nil]
  omega
theorem text_ascii (rs : List Int) : (textC rs).all (· < 128) = true := by
  rw [List.all_eq_true]
  intro x hx
  unfold textC at hx
  rcases List.mem_append.mp hx with h | h
  · obtain ⟨r, _, hr⟩ := List.mem_flatMap.mp h
    unfold lineC at hr
    rcases List.mem_append.mp hr with hr | hr
    · rw [List.eq_of_mem_replicate hr]; decide
    · rw [List.mem_singleton.mp hr]; decide
  · simp only [List.mem_cons, List.not_mem_nil, or_false] at h
    rcases h with h | h | h <;> (rw [h]; decide)

end
section
noncomputable def padL (c : List Int) (b : Nat) : List Int := if c.length ≤ b then c ++ List.replicate (b - c.length + 1) 0 else c
noncomputable def bumpL (c : List Int) (b : Nat) : List Int := c.set b (c.getD b 0 + 1)
structure WsSt where
  c : List Int
  b : Nat
  n : Nat
  nt : Nat
noncomputable def wsStep (s : WsSt) (ch : Nat) : WsSt :=
  if ch = 32 then ⟨s.c, s.b + 1, s.n + 1, s.nt⟩ else if ch = 9 then ⟨bumpL (padL s.c s.b) s.b, 0, s.n + 1, s.nt + 1⟩ else s
noncomputable def wsF (l : List Nat) : WsSt := l.foldl wsStep ⟨[], 0, 0, 0⟩
theorem wsF_snoc {l : List Nat} {i ch : Nat} (h : l[i]? = some ch) : wsF (l.take (i + 1)) = wsStep (wsF (l.take i)) ch := by
  rw [List.take_add_one, h]
  simp [wsF, List.foldl_append]
theorem padL_len (c : List Int) (b : Nat) : b < (padL c b).length := by
  unfold padL
  split
  · rw [List.length_append, List.length_replicate]; omega
  · omega
theorem ws_blank {rs : List Int} {i ch : Nat} (h : (textC rs)[i]? = some ch) (hi : i < (rs.flatMap lineC).length) : ch = 32 ∨ ch = 9 := by
  unfold textC at h
  rw [List.getElem?_append_left hi] at h
  have hm := List.mem_of_getElem? h
  obtain ⟨r, _, hr⟩ := List.mem_flatMap.mp hm
  unfold lineC at hr
  rcases List.mem_append.mp hr with hr | hr
  · exact .inl (List.eq_of_mem_replicate hr)
  · exact .inr (List.mem_singleton.mp hr)
theorem ws_x (rs : List Int) : (textC rs)[(rs.flatMap lineC).length]? = some 120 := by
  unfold textC
  rw [List.getElem?_append_right (Nat.le_refl _)]
  simp
theorem ws_break {rs : List Int} {i ch : Nat} (h : (textC rs)[i]? = some ch) (h1 : ch ≠ 32) (h2 : ch ≠ 9) (hno : ∀ j < i, (textC rs)[j]? = some 32 ∨ (textC rs)[j]? = some 9) :
    (textC rs).take i = rs.flatMap lineC := by
  have hge : ¬ i < (rs.flatMap lineC).length := fun hi => (ws_blank h hi).elim h1 h2
  have hle : ¬ (rs.flatMap lineC).length < i := fun hi => by
    rcases hno _ hi with e | e <;> (rw [ws_x] at e; cases e)
  have : i = (rs.flatMap lineC).length := by omega
  subst this
  unfold textC
  rw [List.take_append_of_le_length (Nat.le_refl _), List.take_length]
theorem ws_never {rs : List Int} (hno : ∀ j < (textC rs).length, (textC rs)[j]? = some 32 ∨ (textC rs)[j]? = some 9) : False := by
  have hlt : (rs.flatMap lineC).length < (textC rs).length := by unfold textC; simp
  rcases hno _ hlt with e | e <;> (rw [ws_x] at e; cases e)
theorem bumpL_len (c : List Int) (b : Nat) : (bumpL c b).length = c.length := by simp [bumpL]
theorem padL_le (c : List Int) (b k : Nat) (hc : c.length ≤ k) (hb : b < k) : (padL c b).length ≤ k := by
  unfold padL
  split
  · rw [List.length_append, List.length_replicate]; omega
  · exact hc
theorem wsF_bound (l : List Nat) : (wsF l).b ≤ l.length ∧ (wsF l).c.length ≤ l.length := by
  have go : ∀ (l : List Nat) (s : WsSt) (k : Nat), s.b ≤ k → s.c.length ≤ k → (l.foldl wsStep s).b ≤ k + l.length ∧ (l.foldl wsStep s).c.length ≤ k + l.length := by
    intro l
    induction l with
    | nil => exact fun s k h1 h2 => ⟨h1, h2⟩
    | cons ch r ih =>
      intro s k h1 h2
      have : (wsStep s ch).b ≤ k + 1 ∧ (wsStep s ch).c.length ≤ k + 1 := by
        unfold wsStep
        split
        · exact ⟨by dsimp only; omega, by dsimp only; omega⟩
        · split
          · exact ⟨by dsimp only; omega, by dsimp only; rw [bumpL_len]; exact padL_le _ _ _ (by omega) (by omega)⟩
          · exact ⟨by omega, by omega⟩
      have := ih (wsStep s ch) (k + 1) this.1 this.2
      rw [List.foldl_cons, List.length_cons]
      omega
  have := go l ⟨[], 0, 0, 0⟩ 0 (Nat.le_refl _) (Nat.le_refl _)
  rwa [Nat.zero_add] at this
theorem chr_sp (c : Nat) : (({ cps := #[c] } : Str) == Str.ofString " ") = (c == 32) := by
  rw [show Str.ofString " " = { cps := #[32] } from PySem.Str.ext' ofs_sp]
  rw [Bool.eq_iff_iff, beq_iff_eq, beq_iff_eq]
  simp
theorem chr_tab (c : Nat) : (({ cps := #[c] } : Str) == Str.ofString "\t") = (c == 9) := by
  rw [show Str.ofString "\t" = { cps := #[9] } from PySem.Str.ext' ofs_tab]
  rw [Bool.eq_iff_iff, beq_iff_eq, beq_iff_eq]
  simp
theorem flat_rep (n : Nat) : (List.replicate n [(0 : Int)]).flatten = List.replicate n 0 := by
  induction n with
  | zero => rfl
  | succ n ih => rw [List.replicate_succ, List.flatten_cons, ih, List.replicate_succ]; rfl
theorem pad_yes {c : List Int} {b : Nat} (h : (c.length : Int) ≤ b) : c ++ (List.replicate ((b : Int) - c.length + 1).toNat [(0 : Int)]).flatten = padL c b := by
  unfold padL
  rw [flat_rep, if_pos (by omega)]
  congr 2
  omega
theorem pad_no {c : List Int} {b : Nat} (h : ¬ (c.length : Int) ≤ b) : padL c b = c := by
  unfold padL
  rw [if_neg (by omega)]

end
section
section
variable {prog : Program} {w : World} {A : Around} {E : Value → Shared → Prop} {s : Shared} {env : Env} {h₀ : Heap} {body : List Stmt} {Q : Flow → Shared → Prop}
noncomputable def TEnd2 (h₀ : Heap) (L : Addr) (s₁ : Shared) (I : Addr) (o : Obj) (J : (Str → Option Value) → Led → Prop) (s₂ : Shared) : Prop :=
  ∃ h' tk m' all news', s₂ = { s₁ with heap := h', toks := tk } ∧ Fr h₀ L h' m' ∧ News h₀ L h' all ∧ (I, o) ∈ all ∧ (∀ p ∈ news', p ∈ all) ∧ (∀ p ∈ news', p.1 ≠ I) ∧ J m' news'
noncomputable def TPost2 (h₀ : Heap) (L : Addr) (s₁ : Shared) (I : Addr) (o : Obj) (J : (Str → Option Value) → Led → Prop) (Q : Flow → Shared → Prop) (f : Flow) (s₂ : Shared) : Prop :=
  match f with
  | .ret v => Q (.ret v) s₂
  | .brk => Q .next s₂
  | _ => TEnd2 h₀ L s₁ I o J s₂
theorem tend2 {L : Addr} {s₁ : Shared} {I : Addr} {o : Obj} {J : (Str → Option Value) → Led → Prop} {h' : Heap} {tk : Nat} {m' : Str → Option Value} {all : Led} (news' : Led)
    (F : Fr h₀ L h' m') (N : News h₀ L h' all) (hI : (I, o) ∈ all) (sub : ∀ p ∈ news', p ∈ all) (ha : ∀ p ∈ news', p.1 ≠ I) (r : J m' news') : TEnd2 h₀ L s₁ I o J { s₁ with heap := h', toks := tk } :=
  ⟨h', tk, m', all, news', rfl, F, N, hI, sub, ha, r⟩
theorem turn_post2 {L : Addr} {s₁ : Shared} {I : Addr} {o : Obj} {J : (Str → Option Value) → Led → Prop} (f : Flow) (s₂ : Shared) (h : TPost2 h₀ L s₁ I o J Q f s₂) :
    UnrPostW h₀ L s₁ [(I, o)] (fun m n => (∀ p ∈ n, p.1 ≠ I) ∧ J m n) Q f s₂ := by
  have fin : TEnd2 h₀ L s₁ I o J s₂ → UnrEndW h₀ L s₁ [(I, o)] (fun m n => (∀ p ∈ n, p.1 ≠ I) ∧ J m n) s₂ := by
    rintro ⟨h', tk, m', all, news', e, F, N, hI, sub, ha, r⟩
    refine ⟨h', tk, m', news', e, F, fun p hp => ?_, fun p hp q hq => ?_, ha, r⟩
    · rcases List.mem_append.mp hp with hp | hp
      · rw [List.mem_singleton.mp hp]; exact N _ hI
      · exact N _ (sub p hp)
    · rw [List.mem_singleton.mp hq]
      exact ha p hp
  cases f with
  | ret v => exact h
  | brk => exact h
  | next => exact fin h
  | cont => exact fin h
theorem loop_str {x : Str} {px : Pos} {z : Str} {tz : Tok} {m₀ : Str → Option Value} {news : Led} (J : Nat → (Str → Option Value) → Led → Prop)
    (hh : A.handled = none) (F : Fr h₀ env.locals s.heap m₀) (N : News h₀ env.locals s.heap news) (hz : z.cps.all (· < 128) = true) (h0 : J 0 m₀ news)
    (turn : ∀ I o i c t' m nw h tk, (∀ p ∈ news, p.1 < I) → z.cps.toList[i]? = some c → (∀ p ∈ nw, p.1 ≠ I) → J i m nw → Fr h₀ env.locals h m → News h₀ env.locals h ((I, o) :: nw) →
      wpAny (model prog w) A (assign (.Name x px) env (.str ⟨#[c]⟩ t')) (fun _ s₂ => wpAny (model prog w) A (execs body env) (TPost2 h₀ env.locals { s with heap := h, toks := tk } I o (J (i + 1)) Q) E s₂) E { s with heap := h, toks := tk })
    (done : ∀ m nw h tk, J z.cps.size m nw → Fr h₀ env.locals h m → News h₀ env.locals h nw → Q .next { s with heap := h, toks := tk }) :
    wpAny (model prog w) A (pyIter (.str z tz)) (fun it s₂ => TurnsAt prog w A h₀ env (.Name x px) body Q E it s₂) E s := by
  refine wpAny_pyIter_ascii hz ?_
  have hI : ∀ p ∈ news, p.1 < s.heap.objs.size := fun p hp => Heap.lt_size (N p hp).1
  refine ktu_core (tk0 := s.toks) (xs := z.cps.toList.map fun (c : Nat) => Itm.tok fun t => Value.str ⟨#[c]⟩ t) (ws := [(s.heap.objs.size, "str_ascii_iterator")]) (keep := []) (KTurns.ofWalks (Walks.strAscii hh s.heap.objs.size z tz) fun i v s Q E st q => wpAny_pure q) (by simp) (fun i v h hp => ?_) (fun i h st => ?_) (fun b hb => ?_) (fun b hb => by simpa using hb) (fun b hb => by left; simpa using hb) ?_ (fun p hp hI' => ?_) ?_ (F.push _) (fun p hp => ⟨Heap.get?_push_of_some _ (N p hp).1, (N p hp).2⟩) trivial ?_
  · obtain ⟨c, u, hc, e⟩ := hp
    exact ⟨Itm.tok fun t => Value.str ⟨#[c]⟩ t, by simp [hc], u, e⟩
  · obtain ⟨o, ho, hc, _⟩ := st
    exact ⟨[(s.heap.objs.size, o)], ⟨⟨rfl, hc⟩, trivial⟩, fun p hp => by rw [List.mem_singleton.mp hp]; exact ho⟩
  · have hb' : b = s.heap.objs.size := by simpa using hb
    rw [hb']
    exact ⟨List.mem_cons_self .., next_is_new F⟩
  · intro hI'
    exact absurd F.ns.lt ((List.mem_singleton.mp hI') ▸ Nat.lt_irrefl _)
  · exact absurd (Heap.lt_size (N p hp).1) ((List.mem_singleton.mp hI') ▸ Nat.lt_irrefl _)
  · exact ⟨_, Heap.get?_push_size _ rfl, rfl, rfl⟩
  · have := rest_inv (xs := z.cps.toList.map fun (c : Nat) => Itm.tok fun t => Value.str ⟨#[c]⟩ t) (ws := [(s.heap.objs.size, "str_ascii_iterator")]) (keep := []) (s := s) (Q := Q) (E := E) (A := A) (prog := prog) (w := w) (h₀ := h₀) (env := env) (target := .Name x px) (body := body)
      (fun i m nw => (∀ p ∈ nw, p.1 ≠ s.heap.objs.size) ∧ J i m nw) (fun i m nw hJ p hp => nomatch hp) ?_ ?_ z.cps.size 0 m₀ news (by simp) ⟨fun p hp => Nat.ne_of_lt (hI p hp), h0⟩
    · rw [List.drop_zero] at this; exact this
    · rintro i a' m nw v h tk hx ⟨ha, hJ⟩ hv F₁ o ho N₁
      rw [List.getElem?_map] at hx
      obtain ⟨u, hu, rfl⟩ := Option.map_eq_some_iff.mp hx
      obtain ⟨t', rfl⟩ := hv
      exact wpAny_mono (turn _ o i u t' m nw h tk hI hu ha hJ F₁ N₁) (fun _ s₂ h₂ => wpAny_mono h₂ (fun f s₃ p => turn_post2 f s₃ p) fun _ _ e => e) fun _ _ e => e
    · rintro m nw h tk ⟨_, hJ⟩ F₁ N₁
      rw [List.length_map, Array.length_toList] at hJ
      exact done m nw h tk hJ F₁ N₁
end
theorem news_cons {g : Heap} {L : Addr} {h : Heap} {q : Addr × Obj} {all news' : Led} (N : News g L h all) (hI : q ∈ all) (N2 : News g L h news') : News g L h (q :: news') := fun p hp => by
  rcases List.mem_cons.mp hp with e | hp
  · exact e ▸ N q hI
  · exact N2 p hp
theorem news_ne {g : Heap} {L : Addr} {h : Heap} {a b : Addr} {o1 o2 : Obj} {all : Led} (N : News g L h all) (h1 : (a, o1) ∈ all) (h2 : (b, o2) ∈ all) (hc : o1.cls ≠ o2.cls) : @Ne Nat a b := fun e => by
  have e1 := (N _ h1).1
  have e2 := (N _ h2).1
  have e' : a = b := e
  subst e'
  exact hc (congrArg Obj.cls (Option.some.inj (e1.symm.trans e2)))

end
section
-- a heap that is changed at d alone keeps all the rest
theorem stays {d : Addr} {h h' : Heap} (hs : Heap.SameBut d h h') : ∀ b o, b ∉ [d] → h.get? b = some o → h'.get? b = some o := fun b _ far e => (hs.2 b fun q => far (q ▸ .head _)).trans e
open PyProof.Rows.LCg in
section
variable {prog : Program} {w : World} {A : Around} {E : Value → Shared → Prop} {s : Shared} {h₀ : Heap} {L : Addr} {m : Str → Option Value} {env : Env}
-- the block's own names C go; the list D that it made stays
theorem freed {D C : Addr} {h g : Heap} {ys : List Value} {led : Led} (F : Fr h₀ L h m) (N : News h₀ L h ((D, lst ys) :: led)) (gone : Heap.SameBut C h g) (fresh : h₀.get? C = none) (cL : C ≠ L) (cD : C ≠ D) (off : ∀ p ∈ led, p.1 ≠ C) :
    Fr h₀ L g m ∧ News h₀ L g ((D, lst ys) :: led) := by
  refine ⟨F.change gone cL fresh, news_but N (stays gone) ?_⟩
  rintro p (_ | ⟨_, hp⟩)
  · exact cD.symm
  · exact off p hp
noncomputable def SrcB (prog : Program) (w : World) (A : Around) (h₀ : Heap) (L : Addr) (m : Str → Option Value) (env : Env) (elt : Expr) (x : Str) (scope : Scope) (cl : List (Str × Addr)) (Fin : Shared → List Value → Led → Prop) (xv : Value) (s₁ : Shared) : Prop :=
  ∃ b tb news, xv = .bytes b tb ∧ A.handled = none ∧ Fr h₀ L s₁.heap m ∧ News h₀ L s₁.heap news ∧ b.size ≤ sizeLine ∧
    ∀ g, CompRest prog w A h₀ L m env elt x scope cl { s₁ with heap := g } (fun _ => True) (fun i v => ∃ n u, b[i]? = some n ∧ v = .int ((n.toNat : Nat) : Int) u) (Fin { s₁ with heap := g }) b.size 0 [] news
theorem srcB {elt : Expr} {x : Str} {scope : Scope} {cl : List (Str × Addr)} {Fin : Shared → List Value → Led → Prop} {b : Array UInt8} {tb : Tok} {news : Led} {s₁ : Shared}
    (hh : A.handled = none) (F : Fr h₀ L s₁.heap m) (N : News h₀ L s₁.heap news) (hsz : b.size ≤ sizeLine)
    (h : ∀ g, CompRest prog w A h₀ L m env elt x scope cl { s₁ with heap := g } (fun _ => True) (fun i v => ∃ n u, b[i]? = some n ∧ v = .int ((n.toNat : Nat) : Int) u) (Fin { s₁ with heap := g }) b.size 0 [] news) :
    SrcB prog w A h₀ L m env elt x scope cl Fin (.bytes b tb) s₁ := ⟨b, tb, news, rfl, hh, F, N, hsz, h⟩
-- a list comprehension over bytes: the library's block_U fed with the library's walk over bytes
theorem listComp_B {elt iter : Expr} {x : Str} {px : Pos} {scope : Scope} {cl : List (Str × Addr)} {pos : Pos} {Q : Value → Shared → Prop} (F₀ : Fr h₀ L s.heap m)
    (hclos : closureFor scope env = pure cl) (hcell : ∀ y ∈ scope.names, y.2 ≠ .cell) (hkind : scope.kind = .function)
    (hnames : ∀ y ∈ scope.names, y.2 = .local → scope.names.lookup y.1 = some .local) (hx : scope.names.lookup x = some .local)
    (h : wpAny (model prog w) A (eval iter env) (SrcB prog w A h₀ L m env elt x scope cl (fun s₂ => FinE h₀ L m s₂ Q)) E s)
    (hs : ∀ v, foldedSetIterable iter env v = pure v := by intro _; rfl) :
    wpAny (model prog w) A (eval (.ListComp elt [⟨.Name x px, iter, [], 0⟩] scope pos) env) Q E s := by
  rw [eval_ListComp]
  refine wpAny_comprehension_free rfl hs hclos hkind hnames (wpAny_mono h ?_ fun _ _ q => q)
  rintro _ s₁ ⟨b, tb, news, rfl, hh, F, N, fit, rest⟩
  refine KBw.pyIter_bytes ?_
  have all := News.push F N { cls := .type "bytes_iterator", data := .fields #[.bytes b tb, .int 0 0] }
  have it := all _ (.head _)
  refine block_U (S := fun _ => True) (KBw.walks hh s₁.heap.objs.size b tb) fit (fun i g ⟨o, e, _⟩ => ⟨o, e⟩) ?_ hcell hkind hx ⟨_, it.1, rfl, rfl⟩ ?_ (F.push _) (fun p hp => all p (.tail _ hp)) it.2.1.symm it.2.2 (fun p hp => Nat.ne_of_lt (Heap.lt_size (N p hp).1)) trivial (rest _) ?_
  · rintro i g g' o nw ⟨o', e', r⟩ e eg _ _ _
    exact ⟨o', (e.symm.trans e' ▸ eg : g'.get? s₁.heap.objs.size = some o'), r⟩
  · intro c hc
    rw [List.mem_singleton.mp hc]
    exact Heap.lt_size it.1
  · intro D C g tk names ys led F' N' o1 hn c0 _ cL _ dC off fin
    refine ⟨names, hn, fun g' gone => ?_⟩
    have z := freed F' N' gone c0 cL dC off
    exact fin D g' tk z.1 z.2 o1
end

end
section
noncomputable abbrev cellO (v : Option Value) : Obj := { cls := .type "cell", data := .cell v }
theorem setCell {M : Model} {A : Around} {E : Value → Shared → Prop} {s : Shared} {env : Env} {x : Str} {c : Addr} {v₀ : Option Value} {v : Value} {Q : Unit → Shared → Prop} (hk : env.scope.kind = .function) (hl : env.kindOf x = some .cell)
    (hc : env.cells.lookup x = some c) (hv : s.heap.get? c = some (cellO v₀))
    (h : ∀ h', h'.get? c = some (cellO (some v)) → Heap.SameBut c s.heap h' → Q () { s with heap := h' }) : wpAny M A (storeName env x v) Q E s := by
  unfold storeName
  simp only [hl, hk]
  refine wpAny_bind (wpAny_cellOf hc ?_)
  unfold cellSet
  refine wpAny_bind (wpAny_load hv ?_)
  exact wpAny_update hv (h _ (Heap.get?_update_self _ hv rfl) (Heap.SameBut.update ..))
theorem swaps_cell {value : Expr} {x : Str} {px : Pos} {line : Nat} {env : Env} (h : env.kindOf x = some .cell) : swapsWith value (some (.Name x px)) line env = pure false := by
  unfold swapsWith
  split
  · have e : (env.kindOf x == some NameKind.local) = false := by rw [h]; rfl
    simp only [e, Bool.and_false, Bool.false_and]
  · rfl
theorem Assign_cell {M : Model} {A : Around} {E : Value → Shared → Prop} {s : Shared} {env : Env} {x : Str} {px : Pos} {value : Expr} {pos : Pos} {Q : Flow → Shared → Prop} (hy : env.kindOf x = some .cell)
    (h : wpAny M A (eval value env) (fun v s₁ => wpAny M A (storeName env x v) (fun _ => Q .next) E s₁) E s) : wpAny M A (exec (.Assign [.Name x px] value pos) env) Q E s := wpAny_Assign_Name h (swaps_cell hy)
-- one entry of a ledger is written anew
theorem news_swap {g h h' : Heap} {L d : Addr} {o o' : Obj} (front back : Led) (N : News g L h (front ++ (d, o) :: back)) (keep : ∀ b z, b ∉ [d] → h.get? b = some z → h'.get? b = some z)
    (now : h'.get? d = some o') (off : ∀ p ∈ front ++ back, p.1 ≠ d) : News g L h' (front ++ (d, o') :: back) := by
  have far : ∀ p ∈ front ++ back, h'.get? p.1 = some p.2 ∧ p.1 ≠ L ∧ g.get? p.1 = none := fun p hp => by
    have z := N p (by rw [List.mem_append] at hp ⊢; exact hp.imp id (.tail _))
    exact ⟨keep _ _ (by simpa using off p hp) z.1, z.2⟩
  intro p hp
  rcases List.mem_append.mp hp with hf | hb
  · exact far p (List.mem_append_left _ hf)
  · cases hb with
    | head => exact ⟨now, (N (d, o) (by simp)).2⟩
    | tail _ hb => exact far p (List.mem_append_right _ hb)
-- a block whose own target is a cell: I the iterator, C the block's names, K the cell, D the list that grows; all apart from one another and from the ledger
structure SpotK (I C K D : Addr) (led : Led) : Prop where
  off : PyProof.Rows.LCg.Off3 I C D led
  offK : ∀ p ∈ led, p.1 ≠ K
  icd : (@Ne Nat I C) ∧ (@Ne Nat I D) ∧ (@Ne Nat C D)
  kicd : (@Ne Nat K I) ∧ (@Ne Nat K C) ∧ (@Ne Nat K D)
namespace SpotK
variable {I C K D : Addr} {led : Led} {oI oC oK oD : Obj}
theorem atI (S : SpotK I C K D led) : ∀ p ∈ (C, oC) :: (K, oK) :: (D, oD) :: led, p.1 ≠ I := by
  rintro p (_ | ⟨_, _ | ⟨_, _ | ⟨_, hp⟩⟩⟩)
  · exact Ne.symm S.icd.1
  · exact S.kicd.1
  · exact Ne.symm S.icd.2.1
  · exact (S.off.mem p hp).1
theorem atK (S : SpotK I C K D led) : ∀ p ∈ (I, oI) :: (C, oC) :: (D, oD) :: led, p.1 ≠ K := by
  rintro p (_ | ⟨_, _ | ⟨_, _ | ⟨_, hp⟩⟩⟩)
  · exact Ne.symm S.kicd.1
  · exact Ne.symm S.kicd.2.1
  · exact Ne.symm S.kicd.2.2
  · exact S.offK p hp
theorem atD (S : SpotK I C K D led) : ∀ p ∈ (I, oI) :: (C, oC) :: (K, oK) :: led, p.1 ≠ D := by
  rintro p (_ | ⟨_, _ | ⟨_, _ | ⟨_, hp⟩⟩⟩)
  · exact S.icd.2.1
  · exact S.icd.2.2
  · exact S.kicd.2.2
  · exact (S.off.mem p hp).2.2
end SpotK
noncomputable abbrev itK (a : Int) (n i : Nat) : Obj := { cls := .type "range_iterator", data := .fields #[rawInt (a + (i : Int) * 1), rawInt ((n : Int) - (i : Int)), rawInt 1] }
open PyProof.Rows.LCg in
section
variable {prog : Program} {w : World} {A : Around} {E : Value → Shared → Prop} {s : Shared} {h₀ : Heap} {L : Addr} {m : Str → Option Value} {env : Env}
-- what the block's element is asked to do
noncomputable def EltK (prog : Program) (w : World) (A : Around) (h₀ : Heap) (L : Addr) (m : Str → Option Value) (env : Env) (elt : Expr) (x : Str) (scope : Scope) (cl : List (Str × Addr)) (a : Int) (n : Nat) (El : Nat → Value → Prop) (news : Led) (s₁ : Shared) : Prop :=
  ∀ i v I oI C oC K D ys h tk (E' : Value → Shared → Prop), i < n → (∃ t, v = .int (a + (i : Int)) t) → Off3 I C D news → (∀ p ∈ news, p.1 ≠ K) → ((@Ne Nat I C) ∧ (@Ne Nat I D) ∧ (@Ne Nat C D)) → ((@Ne Nat K I) ∧ (@Ne Nat K C) ∧ (@Ne Nat K D)) → Fr h₀ L h m → News h₀ L h ((I, oI) :: (C, oC) :: (K, cellO (some v)) :: (D, lst ys) :: news) →
    wpAny (model prog w) A (eval elt (compEnvC scope ((x, K) :: cl) C env)) (CElt h₀ L m { s₁ with heap := h, toks := tk } ((I, oI) :: (C, oC) :: (K, cellO (some v)) :: (D, lst ys) :: news) (El i)) E' { s₁ with heap := h, toks := tk }
-- the block before turn i: the four objects head the ledger, and the list holds what the turns so far gave
structure RunK (h₀ : Heap) (L : Addr) (m : Str → Option Value) (El : Nat → Value → Prop) (I C K D : Addr) (led : Led) (a : Int) (n i : Nat) (ys : List Value) (h : Heap) : Prop where
  le : i ≤ n
  len : ys.length = i
  fr : Fr h₀ L h m
  led : ∃ oC names cv, NsObj oC names ∧ News h₀ L h ((I, itK a n i) :: (C, oC) :: (K, cellO cv) :: (D, lst ys) :: led)
  got : Picks (fun _ => true) El i ys
theorem loop_K {elt iter : Expr} {x : Str} {px : Pos} {scope : Scope} {cl : List (Str × Addr)} {pos : Pos} {s₂ : Shared} {I C K D : Addr} {n : Nat} {a : Int} {El : Nat → Value → Prop} {led : Led} {h : Heap} {tk : Nat} {RR : Result → Shared → Prop}
    (hh : A.handled = none) (fit : n ≤ sizeLine) (hkind : scope.kind = .function) (hx : (relabel scope env).names.lookup x = some .cell) (S : SpotK I C K D led)
    (elem : EltK prog w A h₀ L m env elt x scope cl a n El led s₂) (R : RunK h₀ L m El I C K D led a n 0 [] h)
    (done : ∀ g tk' ys oC names, Fr h₀ L g m → NsObj oC names → News h₀ L g ((C, oC) :: (D, lst ys) :: led) → Picks (fun _ => true) El n ys → RR (.ok .next) { s₂ with heap := g, toks := tk' }) :
    codeAny (model prog w) A (.compLoop (.ListComp elt [⟨.Name x px, iter, [], 0⟩] scope pos) 0 (.ref I) (.ref D) (compEnvC scope ((x, K) :: cl) C env)) RR { s₂ with heap := h, toks := tk } := by
  have W := range_walks (prog := prog) (w := w) (I := I) hh a n
  refine codeAny_compLoop_tests (fun left st => ∃ g u i ys, st = { s₂ with heap := g, toks := u } ∧ left + i = n + 1 ∧ RunK h₀ L m El I C K D led a n i ys g) ?_ (n + 1) ⟨h, tk, 0, [], rfl, rfl, R⟩
  rintro left _ ⟨g, u, i, ys, rfl, count, Z⟩
  obtain ⟨oC, names, cv, hC, N⟩ := Z.led
  have nI := N _ (.head _)
  rcases Nat.lt_or_ge i n with more | over
  · refine W.item i _ _ _ more nI.1 fun v g₁ u₁ hv it₁ kept₁ => ?_
    have F₁ := fr_but Z.fr kept₁ nI.2.1.symm nI.2.2
    have N₁ := news_swap [] _ N kept₁ it₁ S.atI
    have nK := N₁ (K, cellO cv) (.tail _ (.tail _ (.head _)))
    refine wpAny_assign_Name (setCell (by simp [compEnvC, relabel, hkind]) hx (by simp [compEnvC]) nK.1 fun g₂ now₂ at₂ => wpAny_tests_nil ?_)
    have F₂ := fr_but F₁ (stays at₂) nK.2.1.symm nK.2.2
    have N₂ := news_swap [_, _] _ N₁ (stays at₂) now₂ S.atK
    rw [if_pos rfl]
    refine wpAny_mono (elem i v I _ C oC K D ys g₂ _ _ more hv S.off S.offK S.icd S.kicd F₂ N₂) ?_ fun _ _ q => q
    rintro y _ ⟨good, g₃, u₃, all, rfl, F₃, N₃, sub⟩
    have N₄ : News h₀ L g₃ ((I, itK a n (i + 1)) :: (C, oC) :: (K, cellO (some v)) :: (D, lst ys) :: led) := fun p hp => N₃ p (sub p hp)
    have nD := N₄ (D, lst ys) (.tail _ (.tail _ (.tail _ (.head _))))
    refine append_at nD.1 (fun g₄ at₄ now₄ => ⟨left - 1, by omega, g₄, u₃, i + 1, ys ++ [y], rfl, by omega, ?_⟩) (by have := Z.len; simp only [List.size_toArray]; omega)
    exact ⟨more, by rw [List.length_append, Z.len]; rfl, fr_but F₃ (stays at₄) nD.2.1.symm nD.2.2, ⟨oC, names, some v, hC, news_swap [_, _, _] _ N₄ (stays at₄) (now₄.trans (congrArg some (lst_snoc ys y))) S.atD⟩, .take Z.got rfl good⟩
  · have e : n = i := Nat.le_antisymm over Z.le
    subst e
    refine W.done _ _ _ nI.1 fun g₁ u₁ kept₁ => done g₁ u₁ ys oC names (fr_but Z.fr kept₁ nI.2.1.symm nI.2.2) hC ?_ Z.got
    intro p hp
    have hp' : p ∈ (C, oC) :: (K, cellO cv) :: (D, lst ys) :: led := by
      rcases hp with _ | ⟨_, hp⟩
      · exact .head _
      · exact .tail _ (.tail _ hp)
    have z := N p (.tail _ hp')
    exact ⟨kept₁ _ _ (by simpa using S.atI p hp') z.1, z.2⟩
-- the three objects that open the block: list, names, cell
theorem open_K {elt iter : Expr} {x : Str} {px : Pos} {scope : Scope} {cl : List (Str × Addr)} {pos : Pos} {s₂ : Shared} {I : Addr} {n : Nat} {a : Int} {El : Nat → Value → Prop} {led : Led} {RR : Value → Addr → Result → Shared → Prop}
    (hh : A.handled = none) (fit : n ≤ sizeLine) (one : ∀ k acc, cellsFrom k scope.names acc = (x, k) :: acc) (laid : ∀ g, pushCells g scope.names = g.push (cellO none)) (hkind : scope.kind = .function) (hx : (relabel scope env).names.lookup x = some .cell)
    (F : Fr h₀ L s₂.heap m) (N : News h₀ L s₂.heap ((I, itK a n 0) :: led)) (off : ∀ p ∈ led, p.1 ≠ I) (elem : EltK prog w A h₀ L m env elt x scope cl a n El led s₂)
    (done : ∀ C K D, SpotK I C K D led → ∀ g tk' ys oC names, Fr h₀ L g m → NsObj oC names → News h₀ L g ((C, oC) :: (D, lst ys) :: led) → Picks (fun _ => true) El n ys → RR (.ref D) C (.ok .next) { s₂ with heap := g, toks := tk' }) :
    wpAny (model prog w) A (newList []) (fun acc s₃ => wpAny (model prog w) A (newFunctionEnv scope env.globals cl [] env.qual none .none (some env)) (fun cenv s₄ =>
      codeAny (model prog w) A (.compStart (.ListComp elt [⟨.Name x px, iter, [], 0⟩] scope pos) 0 (.ref I) acc { cenv with scope := relabel scope env }) (RR acc cenv.locals) s₄) E s₃) E s₂ := by
  have F₁ := F.push (lst [])
  have N₁ := News.push F N (lst [])
  have F₂ := F₁.push { cls := .type "dict", data := .dict #[] }
  have N₂ := News.push F₁ N₁ { cls := .type "dict", data := .dict #[] }
  have F₃ := F₂.push (cellO none)
  have N₃ := News.push F₂ N₂ (cellO none)
  have lt : ∀ p ∈ (I, itK a n 0) :: led, @LT.lt Nat _ p.1 s₂.heap.objs.size := fun p hp => Heap.lt_size (N p hp).1
  have z1 := Heap.size_push s₂.heap (lst [])
  have z2 := Heap.size_push (s₂.heap.push (lst [])) { cls := .type "dict", data := .dict #[] }
  have ltI := lt _ (.head _)
  have S : SpotK I (s₂.heap.push (lst [])).objs.size ((s₂.heap.push (lst [])).push { cls := .type "dict", data := .dict #[] }).objs.size s₂.heap.objs.size led := by
    rw [z2, z1]
    exact ⟨Off3.of fun p hp => ⟨off p hp, Nat.ne_of_lt (Nat.lt_succ_of_lt (lt p (.tail _ hp))), Nat.ne_of_lt (lt p (.tail _ hp))⟩, fun p hp => Nat.ne_of_lt (Nat.lt_succ_of_lt (Nat.lt_succ_of_lt (lt p (.tail _ hp)))), ⟨by omega, by omega, by omega⟩, ⟨by omega, by omega, by omega⟩⟩
  obtain ⟨oC, hC⟩ : ∃ oC, oC = ({ cls := .type "dict", data := .dict #[] } : Obj) ∧ NsObj oC (fun _ => none) := by
    obtain ⟨o, e, q⟩ := ns_obj (Heap.Ns.new (s₂.heap.push (lst [])) (.type "dict"))
    exact ⟨o, Option.some.inj (e.symm.trans (Heap.get?_push_size _ rfl)), q⟩
  refine wpAny_newObj_type ?_
  simp only [newFunctionEnv, Option.isSome_some, if_true]
  refine wpAny_bind (wpAny_alloc (wpAny_bind (wpAny_layCells _ (fun _ kind _ => by cases kind <;> rfl) _ _ _ _ ?_)))
  simp only [one, laid, List.forIn_nil]
  refine wpAny_bind (wpAny_pure (wpAny_pure ?_))
  have start : ∀ u, codeAny (model prog w) A (.compLoop (.ListComp elt [⟨.Name x px, iter, [], 0⟩] scope pos) 0 (.ref I) (.ref s₂.heap.objs.size) (compEnvC scope ((x, ((s₂.heap.push (lst [])).push { cls := .type "dict", data := .dict #[] }).objs.size) :: cl) (s₂.heap.push (lst [])).objs.size env))
      (RR (.ref s₂.heap.objs.size) (s₂.heap.push (lst [])).objs.size) { s₂ with heap := ((s₂.heap.push (lst [])).push { cls := .type "dict", data := .dict #[] }).push (cellO none), toks := u } := fun u =>
    loop_K hh fit hkind hx S elem ⟨Nat.zero_le _, rfl, F₃, ⟨oC, _, none, hC.2, fun p hp => by
      rw [hC.1] at hp
      refine N₃ p ?_
      rcases hp with _ | ⟨_, _ | ⟨_, _ | ⟨_, _ | ⟨_, hp⟩⟩⟩⟩
      · exact .tail _ (.tail _ (.tail _ (.head _)))
      · exact .tail _ (.head _)
      · exact .head _
      · exact .tail _ (.tail _ (.head _))
      · exact .tail _ (.tail _ (.tail _ (.tail _ hp)))⟩, .zero⟩ (done _ _ _ S)
  exact codeAny_compStart_list (start _) ((range_walks hh a n).self 0 _ _ _ (N₃ _ (.tail _ (.tail _ (.tail _ (.head _))))).1 (start _))
noncomputable def SrcK (prog : Program) (w : World) (A : Around) (h₀ : Heap) (L : Addr) (m : Str → Option Value) (env : Env) (elt : Expr) (x : Str) (scope : Scope) (cl : List (Str × Addr)) (Fin : Shared → List Value → Led → Prop) (xv : Value) (s₁ : Shared) : Prop :=
  ∃ r a b t u v n news El, xv = .ref r ∧ A.handled = none ∧ Fr h₀ L s₁.heap m ∧ News h₀ L s₁.heap news ∧ IsRange s₁.heap r a b 1 t u v ∧ Builtin.Range.small a b 1 = true ∧ Builtin.Range.rangeSize a b 1 = ((n : Nat) : Int) ∧ n ≤ sizeLine ∧
    EltK prog w A h₀ L m env elt x scope cl a n El news s₁ ∧ (∀ ys, Picks (fun _ => true) El n ys → Fin s₁ ys news)
theorem srcK {elt : Expr} {x : Str} {scope : Scope} {cl : List (Str × Addr)} {Fin : Shared → List Value → Led → Prop} {r : Addr} {a b : Int} {t u v : Tok} {n : Nat} {news : Led} {s₁ : Shared} (El : Nat → Value → Prop)
    (hh : A.handled = none) (F : Fr h₀ L s₁.heap m) (N : News h₀ L s₁.heap news) (hr : IsRange s₁.heap r a b 1 t u v) (hsm : Builtin.Range.small a b 1 = true) (hn : Builtin.Range.rangeSize a b 1 = ((n : Nat) : Int)) (hsz : n ≤ sizeLine)
    (elem : ∀ i v I oI C oC K D ys h tk (E' : Value → Shared → Prop), i < n → (∃ t, v = .int (a + (i : Int)) t) → Off3 I C D news → (∀ p ∈ news, p.1 ≠ K) → ((@Ne Nat I C) ∧ (@Ne Nat I D) ∧ (@Ne Nat C D)) → ((@Ne Nat K I) ∧ (@Ne Nat K C) ∧ (@Ne Nat K D)) → Fr h₀ L h m → News h₀ L h ((I, oI) :: (C, oC) :: (K, cellO (some v)) :: (D, lst ys) :: news) →
      wpAny (model prog w) A (eval elt (compEnvC scope ((x, K) :: cl) C env)) (CElt h₀ L m { s₁ with heap := h, toks := tk } ((I, oI) :: (C, oC) :: (K, cellO (some v)) :: (D, lst ys) :: news) (El i)) E' { s₁ with heap := h, toks := tk })
    (fin : ∀ ys, Picks (fun _ => true) El n ys → Fin s₁ ys news) : SrcK prog w A h₀ L m env elt x scope cl Fin (.ref r) s₁ :=
  ⟨r, a, b, t, u, v, n, news, El, rfl, hh, F, N, hr, hsm, hn, hsz, elem, fin⟩
-- y = [elt for x in range(..)], where elt closes over x
theorem Assign_listComp_K {elt iter : Expr} {x y : Str} {px py : Pos} {scope : Scope} {cl : List (Str × Addr)} {pos spos : Pos} {Q : Flow → Shared → Prop} (F₀ : Fr h₀ L s.heap m) (hy : env.kindOf y = some .local) (one : ∀ k acc, cellsFrom k scope.names acc = (x, k) :: acc) (laid : ∀ g, pushCells g scope.names = g.push (cellO none)) (hp : (env.scope.kind == .class || (env.scope.kind == .module && env.locals != env.globals)) = false) (hLe : env.locals = L)
    (hsw : swapsWith (.ListComp elt [⟨.Name x px, iter, [], 0⟩] scope pos) (some (.Name y py)) spos.line env = pure true)
    (hclos : closureFor scope env = pure cl) (hkind : scope.kind = .function)
    (hnames : ∀ z ∈ scope.names, z.2 = .local → scope.names.lookup z.1 = some .local) (hx : (relabel scope env).names.lookup x = some .cell)
    (h : wpAny (model prog w) A (eval iter env) (SrcK prog w A h₀ L m env elt x scope cl (fun s₂ => FinA h₀ L m s₂ y Q)) E s)
    (hs : ∀ v, foldedSetIterable iter env v = pure v := by intro _; rfl) :
    wpAny (model prog w) A (exec (.Assign [.Name y py] (.ListComp elt [⟨.Name x px, iter, [], 0⟩] scope pos) spos) env) Q E s := by
  cases hLe
  rw [exec_Assign_Name_used _ _ _ _ hsw]
  refine wpAny_bind (wpAny_standAt (wpAny_bind (wpAny_bind (wpAny_mono (wpAny_comprehension_free (use := some (assign (.Name y py) env)) (Q := fun _ => Q .next) rfl hs hclos hkind hnames (wpAny_mono h ?_ fun _ _ q => q)) (fun _ _ q => wpAny_pure (wpAny_pure q)) fun _ _ q => q))))
  rintro _ s₁ ⟨r, a, b, t, u, v, n, led, El, rfl, hh, F, N, hr, hsm, hn, fit, elem, fin⟩
  refine wpAny_pyIter_range hr hsm ?_
  have low : ∀ p ∈ led, @Ne Nat p.1 s₁.heap.objs.size := fun p hp => Nat.ne_of_lt (Heap.lt_size (N p hp).1)
  refine open_K (n := n) (a := a) hh fit one laid hkind hx (F.push _) (by have := News.push F N (itK a n 0); simpa [itK, hn] using this) low elem fun C K D S g tk ys oC names F₁ hC N₁ got => ?_
  have nC := N₁ _ (.head _)
  refine wpAny_assign_Name (wpAny_storeName_local hy F₁.ns (fun g₁ own at₁ => ?_) hp)
  have F₂ := F₁.set own at₁
  have N₂ := N₁.set at₁
  refine ⟨names, hC.ns (N₂ _ (.head _)).1, fun g₂ gone => ?_⟩
  have z := freed F₂ (fun p hp => N₂ p (.tail _ hp)) gone nC.2.2 nC.2.1 S.icd.2.2 fun p hp => (S.off.mem p hp).2.1
  exact fin ys got D g₂ _ z.1 z.2 S.off.one
end
-- the kinds of a block's names after relabel: a map over the kinds alone
theorem lookup_kinds {g : Str → NameKind → NameKind} : ∀ (l : List (Str × NameKind)) (x : Str), (l.map fun p => (p.1, g p.1 p.2)).lookup x = (l.lookup x).map (g x)
  | [], _ => rfl
  | (k, v) :: r, x => by
    simp only [List.map_cons, List.lookup_cons]
    split
    next e => rw [eq_of_beq e]; rfl
    next => exact lookup_kinds r x
theorem relabel_free {env : Env} {scope : Scope} {x : Str} (h : scope.names.lookup x = some .free) : (relabel scope env).names.lookup x = some .free ∨ (relabel scope env).names.lookup x = some .cell := by
  have e : (relabel scope env).names = scope.names.map fun p => (p.1, if p.2 == .free && env.scope.kind == .function && env.kindOf p.1 == some .cell then .cell else p.2) := by
    refine List.map_congr_left fun p _ => ?_
    show ite _ _ _ = _
    split <;> rfl
  rw [e, lookup_kinds (g := fun n k => if k == .free && env.scope.kind == .function && env.kindOf n == some .cell then .cell else k), h, Option.map_some]
  split
  · exact .inr rfl
  · exact .inl rfl
section
variable {M : Model} {A : Around} {E : Value → Shared → Prop} {s : Shared} {h₀ : Heap} {L C c : Addr} {news : Led} {scope : Scope} {cl : List (Str × Addr)} {env : Env} {x : Str} {pos : Pos} {v : Value} {o : Obj} {Q : Value → Shared → Prop} {m2 : Str → Option Value}
theorem ld_freeN (N : News h₀ L s.heap news) (hl : scope.names.lookup x = some .free) (hkind : scope.kind = .function) (hc : cl.lookup x = some c) (hm : (c, o) ∈ news) (hd : o.data = .cell (some v)) (h : Q v s)
    (hb : (x == ("__debug__" : Str)) = false) (hn : (x == ("__classdict__" : Str)) = false) :
    wpAny M A (eval (.Name x pos) (compEnvC scope cl C env)) Q E s := by
  rcases relabel_free (env := env) hl with e | e
  · exact wpAny_Name (wpAny_loadName_free (by simp [compEnvC, relabel, hkind]) e hc ⟨o, N.get hm, hd⟩ h hn) hb
  · exact wpAny_Name (wpAny_loadName_cell (by simp [compEnvC, relabel, hkind]) e hc ⟨o, N.get hm, hd⟩ h) hb
theorem ld_localN (N : News h₀ L s.heap news) (hl : scope.names.lookup x = some .local) (hkind : scope.kind = .function) (hm : (C, o) ∈ news) (hC : PyProof.Rows.LCg.NsObj o m2) (hx : m2 x = some v) (h : Q v s)
    (hb : (x == ("__debug__" : Str)) = false) :
    wpAny M A (eval (.Name x pos) (compEnvC scope cl C env)) Q E s :=
  wpAny_Name (wpAny_loadName_local (by simp [compEnvC, relabel, hkind]) (lookup_relabel_local hl) (hC.ns (N.get hm)) hx h) hb
end

end
section
local macro_rules | `(tactic| k_mem) => `(tactic| first | exact List.mem_cons_self .. | (refine' List.mem_cons_of_mem _ ?_; k_mem) | assumption | ktr_member)
local macro_rules | `(tactic| is_list) => `(tactic| exact News.isList (by k_asm) (by k_mem))
local macro_rules | `(tactic| k_lt $h:ident) => `(tactic| (replace $h := allLt_of $h; (try simp only [AllLt, and_true] at $h:ident); repeat (refine And.elim ?_ $h; clear $h; intro hA9 $h)))
local macro_rules | `(tactic| k_all) => `(tactic| exact allLt_ne (by assumption))
local macro_rules | `(tactic| k_room) => `(tactic| ktr_room)
local macro_rules | `(tactic| size_fits) => `(tactic| (simp only [List.size_toArray, List.length_map, List.length_range, PySem.sizeLine_eq]; omega))
section
theorem bisR (w : World) (l : Addr) (vs : List Value) (ns : List Int) (n : Nat) (x : Int) (t u : Tok) (news : Led) (hl : (l, listOf vs.toArray n) ∈ news) (hi : IntsAre vs ns) (hn : ns.length ≤ 100) (hs : ns.Pairwise (· ≤ ·)) :
    Does w 39 [.ref l, .int x t, .int 0 u, .none] news 1 (fun v nw => nw = news ∧ ∃ t, v = .int (ns.countP (fun y => decide (y ≤ x)) : Int) t) := by
  have hk := countP_sortedR (x := x) hs
  have hkl : ns.countP (fun y => decide (y ≤ x)) ≤ ns.length := List.countP_le_length
  generalize ns.countP (fun y => decide (y ≤ x)) = k at hk hkl
  k_with_none
  w_top off
  k_with "my execs cons" => (k_here; (first | ((with_reducible refine execs_consT ?_); intro tkQ; (try dsimp only); k_fold) | ((with_reducible refine wpAny_execs_cons ?_); (try dsimp only); k_fold)))
  unfold Does
  k_fill
  intro mean mg mb dp un gd cn cs a ccd cl outer A₀ base h₀ L m s Q E B F X N T hkd9 hdp9 hun9 hret
  k_with "exec While Compare cons nil" => k_while (fun _ lo hi => 0 ≤ lo ∧ lo ≤ (k : Int) ∧ (k : Int) ≤ hi ∧ hi ≤ ns.length) (fun _ lo hi => (hi - lo).toNat) "lo" "hi"
  k_with "state" => first | exact bisR1 hk (by assumption) (by assumption) (by assumption) (by assumption) (by assumption) | exact bisR2 hk (by assumption) (by assumption) (by assumption) (by assumption) (by assumption)
  k_with "measure" => first | exact bisM1 (by assumption) | exact bisM2 (by assumption)
  refine wpAny_call ?_
  k_dflt (refine' code_def ?ze1 ?ze2 ?ze3 ?ze4 ?ze5 ?zeA ?zeF ?zeK ?ze6 ?ze7 ?ze8 ?ze9 ?zeB ?_ ?zc2 ?zc3 ?zc4 ?zc5; (case zeA => exact rfl); (case zeF => exact rfl); (case zeK => assumption); (case ze1 => k_asm); (case ze2 => k_asm); (case ze3 => k_asm); (case ze4 => k_asm); (case ze5 => k_asm); (case ze6 => k_is); (case ze7 => k_is); (case ze8 => ktr_room); (case ze9 => first | exact BindsTo.of_eq rfl | (refine' kp_binds ?zkx ?zke; (case zkx => k_in); (case zke => exact fun _ => rfl))); (case zc5 => decide); (case zeB => exact locs rfl); (case zc2 => exact rfl); (case zc3 => exact rfl); (case zc4 => exact rfl); k_whole)
  intro g1 L1 h1 FG1 F1 N1 B1 X1 T1
  (try dsimp only)
  (try k_fold)
  k_steps
  exact hret _ _ _ _ ⟨rfl, _, by congr 1; omega⟩ (by assumption) (by assumption)

end
section
theorem bisL (w : World) (l : Addr) (vs : List Value) (ns : List Int) (n : Nat) (x : Int) (t : Tok) (news : Led) (hl : (l, listOf vs.toArray n) ∈ news) (hi : IntsAre vs ns) (hn : ns.length ≤ 100) (hs : ns.Pairwise (· ≤ ·)) :
    Does w 48 [.ref l, .int x t] news 1 (fun v nw => nw = news ∧ ∃ t, v = .int (ns.countP (fun y => decide (y < x)) : Int) t) := by
  have hk := countP_sorted (x := x) hs
  have hkl : ns.countP (fun y => decide (y < x)) ≤ ns.length := List.countP_le_length
  generalize ns.countP (fun y => decide (y < x)) = k at hk hkl
  k_with_none
  w_top off
  k_with "my execs cons" => (k_here; (first | ((with_reducible refine execs_consT ?_); intro tkQ; (try dsimp only); k_fold) | ((with_reducible refine wpAny_execs_cons ?_); (try dsimp only); k_fold)))
  unfold Does
  k_fill
  intro mean mg mb dp un gd cn cs a ccd cl outer A₀ base h₀ L m s Q E B F X N T hkd9 hdp9 hun9 hret
  k_with "exec While Compare cons nil" => k_while (fun _ lo hi => 0 ≤ lo ∧ lo ≤ (k : Int) ∧ (k : Int) ≤ hi ∧ hi ≤ ns.length) (fun _ lo hi => (hi - lo).toNat) "lo" "hi"
  k_with "state" => first | exact bisL1 hk (by assumption) (by assumption) (by assumption) (by assumption) (by assumption) | exact bisL2 hk (by assumption) (by assumption) (by assumption) (by assumption) (by assumption)
  k_with "measure" => first | exact bisM1 (by assumption) | exact bisM2 (by assumption)
  refine wpAny_call ?_
  k_dflt (refine' code_def ?ze1 ?ze2 ?ze3 ?ze4 ?ze5 ?zeA ?zeF ?zeK ?ze6 ?ze7 ?ze8 ?ze9 ?zeB ?_ ?zc2 ?zc3 ?zc4 ?zc5; (case zeA => exact rfl); (case zeF => exact rfl); (case zeK => assumption); (case ze1 => k_asm); (case ze2 => k_asm); (case ze3 => k_asm); (case ze4 => k_asm); (case ze5 => k_asm); (case ze6 => k_is); (case ze7 => k_is); (case ze8 => ktr_room); (case ze9 => first | exact BindsTo.of_eq rfl | (refine' kp_binds ?zkx ?zke; (case zkx => k_in); (case zke => exact fun _ => rfl))); (case zc5 => decide); (case zeB => exact locs rfl); (case zc2 => exact rfl); (case zc3 => exact rfl); (case zc4 => exact rfl); k_whole)
  intro g1 L1 h1 FG1 F1 N1 B1 X1 T1
  (try dsimp only)
  (try k_fold)
  k_steps
  exact hret _ _ _ _ ⟨rfl, _, by congr 1; omega⟩ (by assumption) (by assumption)

end
section
noncomputable def readI (ws : List UInt8) : Int := (ws.map fun c => ((c.toNat : Nat) : Int)).foldl (fun n x => 16 * n + x - 65) 0
theorem read (w : World) (ws : Array UInt8) (t : Tok) (news : Led) (hn : ws.size ≤ 100) :
    Does w 164 [.bytes ws t] news 2 (fun v nw => nw = news ∧ ∃ t, v = .int (readI ws.toList) t) := by
  k_with_none
  w_top off
  k_with "my execs cons" => (k_here; (first | ((with_reducible refine execs_consT ?_); intro tkQ; (try dsimp only); k_fold) | ((with_reducible refine wpAny_execs_cons ?_); (try dsimp only); k_fold)))
  unfold Does
  k_fill
  intro mean mg mb dp un gd cn cs a ccd cl outer A₀ base h₀ L m s Q E B F X N T hkd9 hdp9 hun9 hret
  k_with "pyIter bytes" => k_state (fun pre a => a = pre.foldl (fun n x => 16 * n + x - 65) 0) "number"
  k_with "state" => first | rfl | (simp only [List.foldl_append, List.foldl_cons, List.foldl_nil]; omega)
  refine wpAny_call ?_
  k_dflt (refine' code_def ?ze1 ?ze2 ?ze3 ?ze4 ?ze5 ?zeA ?zeF ?zeK ?ze6 ?ze7 ?ze8 ?ze9 ?zeB ?_ ?zc2 ?zc3 ?zc4 ?zc5; (case zeA => exact rfl); (case zeF => exact rfl); (case zeK => assumption); (case ze1 => k_asm); (case ze2 => k_asm); (case ze3 => k_asm); (case ze4 => k_asm); (case ze5 => k_asm); (case ze6 => k_is); (case ze7 => k_is); (case ze8 => ktr_room); (case ze9 => first | exact BindsTo.of_eq rfl | (refine' kp_binds ?zkx ?zke; (case zkx => k_in); (case zke => exact fun _ => rfl))); (case zc5 => decide); (case zeB => exact locs rfl); (case zc2 => exact rfl); (case zc3 => exact rfl); (case zc4 => exact rfl); k_whole)
  intro g1 L1 h1 FG1 F1 N1 B1 X1 T1
  (try dsimp only)
  (try k_fold)
  (replace F1 : Fr _ _ _ (fun z9 => List.lookup z9 [(Str.ofString "word", Value.bytes ws t)]) := F1)
  k_steps
  rename _ = List.foldl _ _ _ => kInv
  subst kInv
  exact hret _ _ _ _ ⟨rfl, _, rfl⟩ (by assumption) (by assumption)

end
section
noncomputable def apB (n : Nat) : List UInt8 := if h : n = 0 then [] else apB (n / 16) ++ [UInt8.ofNat (65 + n % 16)]
termination_by n
decreasing_by omega
theorem apB_zero : apB 0 = [] := by rw [apB]; simp
theorem apB_pos {n : Nat} (h : n ≠ 0) : apB n = apB (n / 16) ++ [UInt8.ofNat (65 + n % 16)] := by rw [apB]; simp [h]
theorem apB_len : ∀ k n, n < 16 ^ k → (apB n).length ≤ k
  | 0, n, h => by
    have : n = 0 := by simpa using h
    subst this
    rw [apB_zero]; exact Nat.le_refl _
  | k + 1, n, h => by
    by_cases h0 : n = 0
    · subst h0; rw [apB_zero]; exact Nat.zero_le _
    · rw [apB_pos h0, List.length_append]
      have := apB_len k (n / 16) (by rw [Nat.pow_succ] at h; omega)
      simp only [List.length_cons, List.length_nil]
      omega
noncomputable def apArr : Array UInt8 := #[65, 66, 67, 68, 69, 70, 71, 72, 73, 74, 75, 76, 77, 78, 79, 80]
theorem ap_all : ∀ k : Fin 16, KBy.whole apArr (some ((k.val : Nat) : Int)) (some (((k.val : Nat) : Int) + 1)) = false ∧ KBy.picked apArr (some ((k.val : Nat) : Int)) (some (((k.val : Nat) : Int) + 1)) = #[UInt8.ofNat (65 + k.val)] := by decide +kernel
theorem ap_tail {prog : Program} {w : World} {A : Around} {E : Value → Shared → Prop} {s : Shared} {value slice : PySem.Expr} {t tl tu : Tok} {h₀ : Heap} {L : Addr} {m : PySem.Str → Option Value} {news : Led} {k : Int} {Q : Value → Shared → Prop} (hF : Fr h₀ L s.heap m) (hN : News h₀ L s.heap news) (h0 : 0 ≤ k) (h1 : k < 16)
    (h : ∀ h' t' tk, Fr h₀ L h' m → News h₀ L h' news → Q (.bytes #[UInt8.ofNat (65 + k.toNat)] t') { s with heap := h', toks := tk })
    (hs : subscripted slice false (.bytes apArr t) (.ref s.heap.objs.size) = operate [.ref s.heap.objs.size, .bytes apArr t] (getItem (.bytes apArr t) (.ref s.heap.objs.size)) := by with_unfolding_all rfl)
    (ht : ∀ r, letTemporaryGo value (.bytes apArr t) r = pure () := by intro _; with_unfolding_all rfl) :
    wpAny (model prog w) A (subscriptTail value slice (.bytes apArr t) (.ref s.heap.objs.size)) Q E { s with heap := s.heap.push { cls := .type "slice", data := .fields #[.int k tl, .int (k + 1) tu, .none] } } := by
  obtain ⟨j, rfl⟩ := Int.eq_ofNat_of_zero_le h0
  have hj := ap_all ⟨j, by omega⟩
  refine KBy.slice_N hF hN (.int _ _) (.int _ _) hj.1 (by rw [hj.2]; show 1 ≤ 16777216; omega) (fun h' t' tk F' N' => ?_) hs ht
  rw [hj.2]
  exact h h' t' tk F' N'
theorem ap_start {x : Int} {target : List UInt8} (hy : apB x.natAbs = target) : (0 ≤ if x < 0 then -x else x) ∧ apB (if x < 0 then -x else x).toNat ++ [] = target ∧ (#[] : Array UInt8).size ≤ 20 := by
  have e : (if x < 0 then -x else x).toNat = x.natAbs := by split <;> omega
  refine ⟨by split <;> omega, ?_, by decide⟩
  rw [e, hy, List.append_nil]
theorem ap_turn {n : Int} {v : Array UInt8} {target : List UInt8} (hl : target.length ≤ 20) (h0 : 0 ≤ n) (hn : n ≠ 0) (he : apB n.toNat ++ v.toList = target) :
    0 ≤ n.fdiv 16 ∧ apB (n.fdiv 16).toNat ++ (#[UInt8.ofNat (65 + (n.fmod 16).toNat)] ++ v).toList = target ∧ (#[UInt8.ofNat (65 + (n.fmod 16).toNat)] ++ v).size ≤ 20 := by
  rw [Int.fdiv_eq_ediv_of_nonneg _ (by decide), Int.fmod_eq_emod_of_nonneg _ (by decide)]
  obtain ⟨k, rfl⟩ := Int.eq_ofNat_of_zero_le h0
  have hk : k ≠ 0 := by omega
  have e1 : ((k : Int) / 16).toNat = k / 16 := by omega
  have e2 : ((k : Int) % 16).toNat = k % 16 := by omega
  have e3 : apB ((k : Int) / 16).toNat ++ (#[UInt8.ofNat (65 + ((k : Int) % 16).toNat)] ++ v).toList = target := by
    rw [e1, e2, ← he, Int.toNat_natCast, apB_pos hk]
    simp
  refine ⟨by omega, e3, ?_⟩
  have := congrArg List.length e3
  rw [List.length_append] at this
  rw [← Array.length_toList]
  omega
theorem int2AP (w : World) (x : Int) (t : Tok) (news : Led) (hx : x.natAbs < 16 ^ 20) :
    Does w 55 [.int x t] news 2 (fun v nw => nw = news ∧ ∃ t, v = .bytes (apB x.natAbs).toArray t) := by
  have hlen := apB_len 20 x.natAbs hx
  generalize hy : apB x.natAbs = target at hlen ⊢
  k_with_none
  w_top off
  k_with "my execs cons" => (k_here; (first | ((with_reducible refine execs_consT ?_); intro tkQ; (try dsimp only); k_fold) | ((with_reducible refine wpAny_execs_cons ?_); (try dsimp only); k_fold)))
  k_with "my subscriptTail" => (k_here; (with_reducible show wpAny _ _ (subscriptTail _ (Expr.Slice _ _ none _) (Value.bytes _ _) (Value.ref _)) _ _ _); (with_reducible rename Fr _ _ _ _ => F'); (with_reducible rename News _ _ _ _ => N'); (try k_fmods); (refine ap_tail (s := ⟨_, _, _, _, _⟩) F' N' (by omega) (by omega) ?_); intro _ _ _ F' N')
  k_with "my exec" => (k_here; (with_reducible show wpAny _ _ (exec (Stmt.While _ _ _ _) _) _ _ _); k_extra "while")
  unfold Does
  k_fill
  intro mean mg mb dp un gd cn cs a ccd cl outer A₀ base h₀ L m s Q E B F X N T hkd9 hdp9 hun9 hret
  k_with "while" => k_while (fun _ n v => 0 ≤ n ∧ apB n.toNat ++ Array.toList v = target ∧ v.size ≤ 20) (fun _ n _ => n.toNat) "num" "val"
  k_with "state" => first | exact ap_start hy | exact ap_turn hlen (by assumption) (by assumption) (by assumption)
  k_with "measure" => (rename _ ≠ _ => hne; rw [Int.fdiv_eq_ediv_of_nonneg _ (by decide)]; omega)
  refine wpAny_call ?_
  k_dflt (refine' code_def ?ze1 ?ze2 ?ze3 ?ze4 ?ze5 ?zeA ?zeF ?zeK ?ze6 ?ze7 ?ze8 ?ze9 ?zeB ?_ ?zc2 ?zc3 ?zc4 ?zc5; (case zeA => exact rfl); (case zeF => exact rfl); (case zeK => assumption); (case ze1 => k_asm); (case ze2 => k_asm); (case ze3 => k_asm); (case ze4 => k_asm); (case ze5 => k_asm); (case ze6 => k_is); (case ze7 => k_is); (case ze8 => ktr_room); (case ze9 => first | exact BindsTo.of_eq rfl | (refine' kp_binds ?zkx ?zke; (case zkx => k_in); (case zke => exact fun _ => rfl))); (case zc5 => decide); (case zeB => exact locs rfl); (case zc2 => exact rfl); (case zc3 => exact rfl); (case zc4 => exact rfl); k_whole)
  intro g1 L1 h1 FG1 F1 N1 B1 X1 T1
  (try dsimp only)
  (try k_fold)
  (replace F1 : Fr _ _ _ (fun z9 => List.lookup z9 [(Str.ofString "num", Value.int x t)]) := F1)
  k_steps
  rename _ ++ _ = target => he
  subst_vars
  rw [Int.toNat_zero, apB_zero, List.nil_append] at he
  refine hret _ _ _ _ ⟨rfl, ?_⟩ (by assumption) (by assumption)
  rw [← he, Array.toArray_toList]
  exact ⟨_, rfl⟩

end
section
noncomputable def insI (x : Int) (ns : List Int) : List Int := ns.take (ns.countP (fun y => decide (y ≤ x))) ++ x :: ns.drop (ns.countP (fun y => decide (y ≤ x)))
theorem ints_ins {vs : List Value} {ns : List Int} (x : Int) (t : Tok) (hi : IntsAre vs ns) : IntsAre (kl_ins vs (ns.countP (fun y => decide (y ≤ x)) : Int) (.int x t)) (insI x ns) := by
  have hk : ns.countP (fun y => decide (y ≤ x)) ≤ ns.length := List.countP_le_length
  unfold insI
  generalize ns.countP (fun y => decide (y ≤ x)) = k at hk
  have e : (if (k : Int) < 0 then ((k : Int) + (vs.length : Int)).toNat else min (k : Int).toNat vs.length) = k := by
    rw [hi.length, if_neg (by omega)]; omega
  unfold kl_ins
  rw [e]
  exact (hi.take _).append (.cons _ _ (hi.drop _))
theorem insort (w : World) (l : Addr) (vs : List Value) (ns : List Int) (n : Nat) (x : Int) (t : Tok) (news : Led) (hl : ∀ p ∈ news, p.1 ≠ l) (hi : IntsAre vs ns) (hn : ns.length ≤ 90) (hs : ns.Pairwise (· ≤ ·)) :
    Does w 30 [.ref l, .int x t] ((l, listOf vs.toArray n) :: news) 2 (fun v nw => v = .none ∧ ∃ vs' n', nw = (l, listOf (List.toArray vs') n') :: news ∧ IntsAre vs' (insI x ns)) := by
  k_with_none
  w_top off
  k_with "my execs cons" => (k_here; (first | ((with_reducible refine execs_consT ?_); intro tkQ; (try dsimp only); k_fold) | ((with_reducible refine wpAny_execs_cons ?_); (try dsimp only); k_fold)))
  k_with "my call ref" => (k_here; (with_reducible show wpAny _ _ (call (Value.ref 39) [Value.ref _, Value.int _ _, Value.int 0 _, Value.none] _) _ _ _); (k_dflt (refine' does_use (bisR _ _ _ _ _ _ _ _ _ ?mrl ?mri ?mrn ?mrs) ?mrk1 ?mrk2 ?mrk3 ?mrk4 ?mrk5 ?mrkK ?mrkd ?mrku ?_)); (case mrk1 => k_asm); (case mrk2 => k_asm); (case mrk3 => k_asm); (case mrk4 => k_asm); (case mrk5 => k_asm); (case mrkK => first | exact rfl | assumption); (case mrl => k_mem); (case mri => assumption); (case mrn => first | assumption | omega); (case mrs => assumption); (case mrkd => ktr_room); (case mrku => ktr_units); (rintro _ _ h' tk' ⟨e1, t9, e2⟩ F' N'; subst e1; subst e2); (try dsimp only); (try k_fold))
  unfold Does
  k_fill
  intro mean mg mb dp un gd cn cs a ccd cl outer A₀ base h₀ L m s Q E B F X N T hkd9 hdp9 hun9 hret
  refine wpAny_call ?_
  k_dflt (refine' code_def ?ze1 ?ze2 ?ze3 ?ze4 ?ze5 ?zeA ?zeF ?zeK ?ze6 ?ze7 ?ze8 ?ze9 ?zeB ?_ ?zc2 ?zc3 ?zc4 ?zc5; (case zeA => exact rfl); (case zeF => exact rfl); (case zeK => assumption); (case ze1 => k_asm); (case ze2 => k_asm); (case ze3 => k_asm); (case ze4 => k_asm); (case ze5 => k_asm); (case ze6 => k_is); (case ze7 => k_is); (case ze8 => ktr_room); (case ze9 => first | exact BindsTo.of_eq rfl | (refine' kp_binds ?zkx ?zke; (case zkx => k_in); (case zke => exact fun _ => rfl))); (case zc5 => decide); (case zeB => exact locs rfl); (case zc2 => exact rfl); (case zc3 => exact rfl); (case zc4 => exact rfl); k_whole)
  intro g1 L1 h1 FG1 F1 N1 B1 X1 T1
  (try dsimp only)
  (try k_fold)
  k_steps
  refine kl_insert (by k_asm) (by k_asm) ?zf rfl (Upd.head hl) ?zz ?_
  case zf => 
    have hk : ns.countP (fun y => decide (y ≤ x)) ≤ ns.length := List.countP_le_length
    simp [Builtin.List.listFitsIndex]
    omega
  case zz => have := hi.length; rw [sizeLine_eq, List.toList_toArray]; omega
  intro h9 F9 N9
  k_steps
  exact hret _ _ _ _ ⟨rfl, _, _, rfl, ints_ins x t hi⟩ (by assumption) (by assumption)

end
section
theorem found_yes {ns : List Int} {x : Int} (hs : ns.Pairwise (· ≤ ·)) (hk : ns.countP (fun y => decide (y < x)) < ns.length) :
    (ns.getD (ns.countP (fun y => decide (y < x))) 0 == x) = decide (x ∈ ns) := by
  have hc := countP_sorted (x := x) hs
  generalize ns.countP (fun y => decide (y < x)) = k at hk hc
  have h1 := hc k hk
  have e : ns.getD k 0 = ns[k] := by simp [hk]
  rw [e] at h1 ⊢
  by_cases hx : x ∈ ns
  · obtain ⟨i, hi, rfl⟩ := List.mem_iff_getElem.mp hx
    have h2 := hc i hi
    have e2 : ns.getD i 0 = ns[i] := by simp [hi]
    rw [e2] at h2
    have hki : k ≤ i := by omega
    have h3 : ns[k] ≤ ns[i] := by
      rcases Nat.lt_or_eq_of_le hki with h | h
      · exact List.pairwise_iff_getElem.mp hs k i hk hi h
      · subst h; exact Int.le_refl _
    simp only [hx, decide_true, beq_iff_eq]
    omega
  · simp only [hx, decide_false, beq_eq_false_iff_ne, ne_eq]
    intro h
    exact hx (h ▸ List.getElem_mem hk)
theorem found_no {ns : List Int} {x : Int} (hs : ns.Pairwise (· ≤ ·)) (hk : ¬ ns.countP (fun y => decide (y < x)) < ns.length) :
    false = decide (x ∈ ns) := by
  have hc := countP_sorted (x := x) hs
  symm
  rw [decide_eq_false_iff_not]
  intro hx
  obtain ⟨i, hi, e⟩ := List.mem_iff_getElem.mp hx
  have h2 := hc i hi
  have e2 : ns.getD i 0 = ns[i] := by simp [hi]
  rw [e2, e] at h2
  omega
theorem found (w : World) (l : Addr) (vs : List Value) (ns : List Int) (n : Nat) (x : Int) (t : Tok) (news : Led) (hl : (l, listOf vs.toArray n) ∈ news) (hi : IntsAre vs ns) (hn : ns.length ≤ 100) (hs : ns.Pairwise (· ≤ ·)) :
    Does w 176 [.ref l, .int x t] news 2 (fun v nw => nw = news ∧ v = .bool (decide (x ∈ ns))) := by
  k_with_none
  w_top off
  k_with "my execs cons" => (k_here; (first | ((with_reducible refine execs_consT ?_); intro tkQ; (try dsimp only); k_fold) | ((with_reducible refine wpAny_execs_cons ?_); (try dsimp only); k_fold)))
  k_with "my call ref" => (k_here; (with_reducible show wpAny _ _ (call (Value.ref 48) [Value.ref _, Value.int _ _] _) _ _ _); (k_dflt (refine' does_use (bisL _ _ _ _ _ _ _ _ ?mll ?mli ?mln ?mls) ?mlk1 ?mlk2 ?mlk3 ?mlk4 ?mlk5 ?mlkK ?mlkd ?mlku ?_)); (case mlk1 => k_asm); (case mlk2 => k_asm); (case mlk3 => k_asm); (case mlk4 => k_asm); (case mlk5 => k_asm); (case mlkK => first | exact rfl | assumption); (case mll => k_mem); (case mli => assumption); (case mln => first | assumption | omega); (case mls => assumption); (case mlkd => ktr_room); (case mlku => ktr_units); (rintro _ _ h' tk' ⟨e1, t9, e2⟩ F' N'; subst e1; subst e2); (try dsimp only); (try k_fold))
  unfold Does
  k_fill
  intro mean mg mb dp un gd cn cs a ccd cl outer A₀ base h₀ L m s Q E B F X N T hkd9 hdp9 hun9 hret
  refine wpAny_call ?_
  k_dflt (refine' code_def ?ze1 ?ze2 ?ze3 ?ze4 ?ze5 ?zeA ?zeF ?zeK ?ze6 ?ze7 ?ze8 ?ze9 ?zeB ?_ ?zc2 ?zc3 ?zc4 ?zc5; (case zeA => exact rfl); (case zeF => exact rfl); (case zeK => assumption); (case ze1 => k_asm); (case ze2 => k_asm); (case ze3 => k_asm); (case ze4 => k_asm); (case ze5 => k_asm); (case ze6 => k_is); (case ze7 => k_is); (case ze8 => ktr_room); (case ze9 => first | exact BindsTo.of_eq rfl | (refine' kp_binds ?zkx ?zke; (case zkx => k_in); (case zke => exact fun _ => rfl))); (case zc5 => decide); (case zeB => exact locs rfl); (case zc2 => exact rfl); (case zc3 => exact rfl); (case zc4 => exact rfl); k_whole)
  intro g1 L1 h1 FG1 F1 N1 B1 X1 T1
  (try dsimp only)
  (try k_fold)
  k_steps
  · refine hret _ _ _ _ ⟨rfl, ?_⟩ (by assumption) (by assumption)
    rw [Int.toNat_natCast, found_yes hs (by omega)]
  · refine hret _ _ _ _ ⟨rfl, ?_⟩ (by assumption) (by assumption)
    rw [← found_no hs (by omega)]
    congr 1
    exact decide_eq_false (by omega)

end
section
noncomputable def insF (l : List Int) : List Int := l.foldl (fun ns x => insI x ns) []
theorem insF_succ {l : List Int} {i : Nat} (h : i < l.length) : insF (l.take (i + 1)) = insI (l.getD i 0) (insF (l.take i)) := by
  have e : l.getD i 0 = l[i] := by simp [h]
  unfold insF
  rw [List.take_succ_eq_append_getElem h, List.foldl_append, e]
  rfl
theorem insI_len (x : Int) (ns : List Int) : (insI x ns).length = ns.length + 1 := by
  have : ns.countP (fun y => decide (y ≤ x)) ≤ ns.length := List.countP_le_length
  unfold insI
  simp
  omega
theorem insI_sorted (x : Int) {ns : List Int} (hs : ns.Pairwise (· ≤ ·)) : (insI x ns).Pairwise (· ≤ ·) := by
  have hk := countP_sortedR (x := x) hs
  unfold insI
  generalize ns.countP (fun y => decide (y ≤ x)) = k at hk
  have h1 : ∀ a ∈ ns.take k, a ≤ x := by
    intro a ha
    obtain ⟨i, hi, rfl⟩ := List.mem_iff_getElem.mp ha
    rw [List.length_take] at hi
    have := hk i (by omega)
    rw [List.getElem_take]
    have e : ns.getD i 0 = ns[i]'(by omega) := by simp [show i < ns.length by omega]
    rw [e] at this
    omega
  have h2 : ∀ a ∈ ns.drop k, x ≤ a := by
    intro a ha
    obtain ⟨i, hi, rfl⟩ := List.mem_iff_getElem.mp ha
    rw [List.length_drop] at hi
    have := hk (k + i) (by omega)
    rw [List.getElem_drop]
    have e : ns.getD (k + i) 0 = ns[k + i]'(by omega) := by simp [show k + i < ns.length by omega]
    rw [e] at this
    omega
  rw [List.pairwise_append, List.pairwise_cons]
  refine ⟨hs.sublist (List.take_sublist _ _), ⟨h2, hs.sublist (List.drop_sublist _ _)⟩, ?_⟩
  intro a ha b hb
  rcases List.mem_cons.mp hb with rfl | hb
  · exact h1 a ha
  · exact Int.le_trans (h1 a ha) (h2 b hb)
theorem insF_ok (l : List Int) : (insF l).Pairwise (· ≤ ·) ∧ (insF l).length = l.length := by
  have go : ∀ (l ns : List Int), ns.Pairwise (· ≤ ·) → (l.foldl (fun ns x => insI x ns) ns).Pairwise (· ≤ ·) ∧ (l.foldl (fun ns x => insI x ns) ns).length = ns.length + l.length := by
    intro l
    induction l with
    | nil => exact fun ns h => ⟨h, rfl⟩
    | cons x r ih =>
      intro ns h
      have := ih (insI x ns) (insI_sorted x h)
      rw [insI_len] at this
      rw [List.foldl_cons, List.length_cons]
      exact ⟨this.1, by rw [this.2]; omega⟩
  have := go l [] .nil
  rw [List.length_nil, Nat.zero_add] at this
  exact this
theorem hof_of {g : Heap} {L : Addr} {h : Heap} {a : Addr} {o : Obj} {rest : Led} (_ : News g L h ((a, o) :: rest)) (x : AllLt a rest) : ∀ p ∈ rest, p.1 ≠ a := fun p hp => Nat.ne_of_lt (of_allLt x p hp)
theorem ne_map {rest rest' : Led} {a : Addr} (h : ∀ p ∈ rest, p.1 ≠ a) (e : rest'.map (·.1) = rest.map (·.1)) : ∀ p ∈ rest', p.1 ≠ a := fun p hp => by
  have : p.1 ∈ rest'.map (·.1) := List.mem_map_of_mem hp
  rw [e] at this
  obtain ⟨q, hq, e2⟩ := List.mem_map.mp this
  rw [← e2]; exact h q hq
theorem swap01 {g : Heap} {L : Addr} {h : Heap} {p q : Addr × Obj} {r : Led} (N : News g L h (p :: q :: r)) : News g L h (q :: p :: r) := fun z hz => by
  rcases List.mem_cons.mp hz with e | hz
  · exact N z (e ▸ .tail _ (.head _))
  · rcases List.mem_cons.mp hz with e | hz
    · exact N z (e ▸ .head _)
    · exact N z (.tail _ (.tail _ hz))
theorem map_getD2 (ns : List Int) (f : Int → Int) (n : Nat) (h : ns.length = n) : ((List.range n).filter (fun _ => true)).map (fun j => f (ns.getD j 0)) = ns.map f := by
  subst h
  rw [List.filter_eq_self.mpr (by simp), map_getD ns f]

end
section
noncomputable def CoinsR (news : Led) (v : Value) (nw : Led) : Prop := ∃ a b c : Int, (2 ≤ a ∧ a ≤ 7 ∧ 2 ≤ b ∧ b ≤ 11 ∧ 2 ≤ c ∧ c ≤ 11) ∧ ∃ l' vs', v = .ref l' ∧ nw = (l', listOf (List.toArray vs') 0) :: news ∧ (∀ p ∈ news, p.1 < l') ∧ IntsAre vs' [Int.fdiv a (Int.gcd (Int.gcd a b) c), Int.fdiv b (Int.gcd (Int.gcd a b) c), Int.fdiv c (Int.gcd (Int.gcd a b) c)]
theorem coinsR_of {news : Led} {x y z : Int} {l : Addr} {t u k : Tok} (hb : 2 ≤ x ∧ x ≤ 7 ∧ 2 ≤ y ∧ y ≤ 11 ∧ 2 ≤ z ∧ z ≤ 11) (hl : AllLt l news) :
    CoinsR news (.ref l) ((l, listOf (List.toArray [.int (Int.fdiv x (Int.gcd (Int.gcd x y) z)) t, .int (Int.fdiv y (Int.gcd (Int.gcd x y) z)) u, .int (Int.fdiv z (Int.gcd (Int.gcd x y) z)) k]) 0) :: news) :=
  ⟨x, y, z, hb, l, _, rfl, rfl, of_allLt hl, .cons _ _ (.cons _ _ (.cons _ _ .nil))⟩
theorem coins (w : World) (l : Addr) (vs : List Value) (ns : List Int) (n : Nat) (news : Led) (hl : (l, listOf vs.toArray n) ∈ news) (hi : IntsAre vs ns) (hn : ns.length ≤ 15) :
    Does w 135 [.ref l] news 2 (CoinsR news) := by
  k_with_none
  w_top off
  k_with "my execs cons" => (k_here; (first | ((with_reducible refine execs_consT ?_); intro tkQ; (try dsimp only); k_fold) | ((with_reducible refine wpAny_execs_cons ?_); (try dsimp only); k_fold)))
  k_with "my call ref" => (k_here; (with_reducible show wpAny _ _ (call (Value.ref 128) [Value.int _ _, Value.int _ _] _) _ _ _); (k_dflt (refine' does_use (common _ _ _ _ _ _ ?mchx ?mchy) ?mck1 ?mck2 ?mck3 ?mck4 ?mck5 ?mckK ?mckd ?mcku ?_)); (case mck1 => k_asm); (case mck2 => k_asm); (case mck3 => k_asm); (case mck4 => k_asm); (case mck5 => k_asm); (case mckK => first | exact rfl | assumption); (case mchx => first | omega | assumption | (k_fmods; omega)); (case mchy => first | omega | assumption | (k_fmods; omega)); (case mckd => ktr_room); (case mcku => ktr_units); (rintro _ _ h' tk' ⟨e1, ⟨hg9, hg8⟩, t9, e2⟩ F' N'; subst e1; subst e2); (try dsimp only); (try k_fold))
  k_with "my subscriptTail Name Slice ref ref" => (k_here; (with_reducible show wpAny _ _ (subscriptTail _ (PySem.Expr.Slice _ _ (some _) _) (Value.ref _) (Value.ref _)) _ _ _); k_dflt (refine' slice3_ints ?msF ?msN ?msl ?msi ?msp ?msq ?msk ?mso ?_ ?mss ?mst ?msz; (case msF => k_asm); (case msN => k_asm); (case msl => kmk_list); (case msi => assumption); (case msp => kmk_part); (case msq => kmk_part); (case msk => kmk_part); (case mso => decide); (case mss => with_unfolding_all rfl); (case mst => kmk_pure); (case msz => kmk_size)); intro D' h' ws' ks' F' N' l1 hks'; (try k_lt l1); (try k_sweep))
  k_with "my binaryOp FloorDiv int int" => (k_here; (try k_fmods); (with_reducible refine' floordiv_int ?mfb ?_ (Or.inl (PyProof.noPylong_small ?mfs)); (case mfb => omega); (case mfs => omega)))
  unfold Does
  k_fill
  intro mean mg mb dp un gd cn cs a ccd cl outer A₀ base h₀ L m s Q E B F X N T hkd9 hdp9 hun9 hret
  refine wpAny_call ?_
  k_dflt (refine' code_def ?ze1 ?ze2 ?ze3 ?ze4 ?ze5 ?zeA ?zeF ?zeK ?ze6 ?ze7 ?ze8 ?ze9 ?zeB ?_ ?zc2 ?zc3 ?zc4 ?zc5; (case zeA => exact rfl); (case zeF => exact rfl); (case zeK => assumption); (case ze1 => k_asm); (case ze2 => k_asm); (case ze3 => k_asm); (case ze4 => k_asm); (case ze5 => k_asm); (case ze6 => k_is); (case ze7 => k_is); (case ze8 => ktr_room); (case ze9 => first | exact BindsTo.of_eq rfl | (refine' kp_binds ?zkx ?zke; (case zkx => k_in); (case zke => exact fun _ => rfl))); (case zc5 => decide); (case zeB => exact locs rfl); (case zc2 => exact rfl); (case zc3 => exact rfl); (case zc4 => exact rfl); k_whole)
  intro g1 L1 h1 FG1 F1 N1 B1 X1 T1
  (try dsimp only)
  (try k_fold)
  (replace F1 : Fr _ _ _ (fun z9 => List.lookup z9 [(Str.ofString "drawn", Value.ref l)]) := F1)
  k_steps
  (rename News _ _ _ _ => N9)
  have N8 := drop2 (drop2 (drop2 N9))
  refine hret _ _ _ _ (coinsR_of ?zb ?zl) (by assumption) N8
  case zl => assumption
  case zb => (try k_fmods); omega

end
section
noncomputable def PaidBy (cs : List Int) (P : Nat → Bool) (e : Nat) : Prop := P 0 = true ∧ ∀ p : Nat, 0 < p → p ≤ e → P p = cs.any (fun c => decide (c ≤ (p : Int)) && P ((p : Int) - c).toNat)
theorem any_range (cc : List Int) (f : Int → Bool) : cc.any f = (List.range cc.length).any (fun j => f (cc.getD j 0)) := by
  rw [Bool.eq_iff_iff, List.any_eq_true, List.any_eq_true]
  constructor
  · rintro ⟨x, hx, hf⟩
    obtain ⟨i, hi, rfl⟩ := List.mem_iff_getElem.mp hx
    exact ⟨i, by simpa using hi, by simpa [hi] using hf⟩
  · rintro ⟨i, hi, hf⟩
    exact ⟨_, getD_in (by simpa using hi), hf⟩
theorem paid_step {cc : List Int} {P : Nat → Bool} {vs : List Value} {e : Nat} (hP : PaidBy cc P e) (hi : IntsAre vs cc) (i : Nat) (hie : i + 1 ≤ e) :
    (!decide (((List.range vs.toArray.size).filter (fun j => decide (cc.getD j 0 ≤ 1 + (i : Int)) && P (1 + (i : Int) - cc.getD j 0).toNat)).map (fun x => cc.getD x 0) = [])) = P (i + 1) := by
  rw [notnil_any, hP.2 (i + 1) (Nat.succ_pos _) hie, any_range, List.size_toArray, hi.length]
  congr 1
  funext j
  rw [show ((i + 1 : Nat) : Int) = 1 + (i : Int) by omega]
theorem prices (w : World) (l : Addr) (vs : List Value) (cc : List Int) (e : Int) (t : Tok) (n : Nat) (news : Led) (P : Nat → Bool) (hP : PaidBy cc P e.toNat) (hl : (l, listOf vs.toArray n) ∈ news) (hi : IntsAre vs cc) (hn : cc.length ≤ 3) (hc : ∀ c ∈ cc, 1 ≤ c ∧ c ≤ 11) (he : 0 ≤ e ∧ e ≤ 77) :
    Does w 145 [.ref l, .int e t] news 20 (fun v nw => ∃ l' n', v = .ref l' ∧ nw = (l', listOf (((List.range (e.toNat + 1)).map fun i => Value.bool (P i)).toArray) n') :: news ∧ (∀ p ∈ news, p.1 < l')) := by
  k_with_none
  w_top off
  k_with "my execs cons" => (k_here; (first | ((with_reducible refine execs_consT ?_); intro tkQ; (try dsimp only); k_fold) | ((with_reducible refine wpAny_execs_cons ?_); (try dsimp only); k_fold)))
  k_with "my exec For Name Call cons nil" => (k_here; (with_unfolding_all refine' For_turns (by k_asm) ?_); k_whole)
  k_with "my exec For Name Name cons nil" => (k_here; (with_unfolding_all refine' For_turns (by k_asm) ?_); k_whole)
  k_with "my eval ListComp" => (k_here; lct_look; k_dflt (refine LCt.ListComp_T (F₀ := by k_asm) (by with_unfolding_all rfl) (by decide) (by rfl) (by decide) (by rfl) ?_))
  k_with "my eval ListComp" => (k_here; (first | lcg_look | lcf_look); k_dflt (refine LCg.ListComp_U (F₀ := by k_asm) (by with_unfolding_all rfl) (by decide) (by rfl) (by decide) (by rfl) ?_))
  k_with "my exec Assign cons ListComp" => (k_here; lct_look; k_dflt (refine LCt.Assign_ListComp_T (F₀ := by k_asm) (by rfl) (by with_unfolding_all rfl) (by with_unfolding_all rfl) (by decide) (by rfl) (by decide) (by rfl) (by rfl) (by rfl) ?_))
  k_with "my exec Assign cons ListComp" => (k_here; (first | lcg_look | lcf_look); k_dflt (refine LCg.Assign_ListComp_U (F₀ := by k_asm) (by rfl) (by with_unfolding_all rfl) (by with_unfolding_all rfl) (by decide) (by rfl) (by decide) (by rfl) (by rfl) (by rfl) ?_))
  k_with "my CompSrcT" => (k_here; k_dflt (first
  | (refine LCt.CompSrcT.ledger (by rfl) (by k_asm) (by k_asm) (by k_mem) (by first | kmk_size | (simp only [List.size_toArray, List.length_map, List.length_range, sizeLine_eq]; omega)) ?_; intro g')
  | (refine LCt.CompSrcT.range (by rfl) (by k_asm) (by k_asm) (by assumption) (by exact small_one (by omega) (by omega) (by omega) (by omega)) (by exact rangeSize_nat _ _) (by rw [sizeLine_eq]; omega) ?_; intro g')))
  k_with "my CompSrc" => (k_here; k_dflt (first
  | (refine LCg.CompSrc.ledger (by rfl) (by k_asm) (by k_asm) (by k_mem) (by first | kmk_size | (simp only [List.size_toArray, List.length_map, List.length_range, sizeLine_eq]; omega)) ?_; intro g')
  | (refine LCg.CompSrc.range (by rfl) (by k_asm) (by k_asm) (by assumption) (by exact small_one (by omega) (by omega) (by omega) (by omega)) (by exact rangeSize_nat _ _) (by rw [sizeLine_eq]; omega) ?_; intro g')))
  k_with "my CompRestT" => k_extra "comp"
  k_with "my CompRest" => k_extra "comp"
  k_with "my pyIter ref" => k_extra "loop"
  k_with "my subscriptTail" => (k_here; (with_reducible show wpAny _ _ (subscriptTail _ _ (Value.ref _) (Value.int _ _)) _ _ _); k_dflt (refine' item_bools ?mbl ?mb0 ?mb1 ?mbn ?_ ?mbs; (case mbl => exact News.isList (by k_asm) (by k_mem)); (case mb0 => omega); (case mb1 => omega); (case mbn => omega); (case mbs => with_unfolding_all rfl)))
  k_with "my compareOp Eq ref ref" => (k_here; (with_reducible show wpAny _ _ (compareOp CmpOp.Eq (Value.ref _) (Value.ref _)) _ _ _); (with_unfolding_all refine' eq_intsK ?mq1 ?mq2 ?mq3 ?mq4 ?mq5 ?_; (case mq1 => is_list); (case mq2 => l_intsC); (case mq3 => is_list); (case mq4 => l_intsC); (case mq5 => ktr_units); k_whole))
  k_with "my compareOp NotEq ref ref" => (k_here; (with_reducible show wpAny _ _ (compareOp CmpOp.NotEq (Value.ref _) (Value.ref _)) _ _ _); (with_unfolding_all refine' ne_intsK ?mq1 ?mq2 ?mq3 ?mq4 ?mq5 ?_; (case mq1 => is_list); (case mq2 => l_intsC); (case mq3 => is_list); (case mq4 => l_intsC); (case mq5 => ktr_units); k_whole))
  k_with "my exec For Name Attribute cons nil" => (k_here; (with_unfolding_all refine' For_turns (by k_asm) ?_); k_whole)
  unfold Does
  k_fill
  intro mean mg mb dp un gd cn cs a ccd cl outer A₀ base h₀ L m s Q E B F X N T hkd9 hdp9 hun9 hret
  refine wpAny_call ?_
  k_dflt (refine' code_defC ?ze1 ?ze2 ?ze3 ?ze4 ?ze5 ?zeA ?zeF ?zeK ?ze6 ?ze7 ?ze8 ?ze9 ?zeB ?zeD ?_ ?zc2 ?zc3 ?zc4; (case zeA => exact rfl); (case zeF => exact rfl); (case zeK => assumption); (case ze1 => k_asm); (case ze2 => k_asm); (case ze3 => k_asm); (case ze4 => k_asm); (case ze5 => k_asm); (case ze6 => k_is); (case ze7 => k_is); (case ze8 => ktr_room); (case ze9 => first | exact BindsTo.of_eq rfl | (refine' kp_binds ?zkx ?zke; (case zkx => k_in); (case zke => exact fun _ => rfl))); (case zeB => exact rfl); (case zeD => decide +kernel); (case zc2 => exact rfl); (case zc3 => exact rfl); (case zc4 => exact rfl); k_whole)
  intro g1 L1 h1 tk1 cells1 FG1 F1 N1 Y1 B1 X1 T1 l1
  (try k_lt l1)
  (try have lc1 := allLt_up l1)
  (try have lc2 := allLt_up lc1)
  (try have lc3 := allLt_up lc2)
  (try have lc4 := allLt_up lc3)
  (try have lc5 := allLt_up lc4)
  (try have lc6 := allLt_up lc5)
  k_cells Y1
  (try simp only [List.cons_append, List.nil_append] at N1)
  (try dsimp only)
  (try k_fold)
  (replace F1 : Fr _ _ _ (fun z9 => if z9 = Str.ofString "end" then some (Value.int e t) else if z9 = Str.ofString "coins" then some (Value.ref l) else none) := F1)
  k_steps
  rename IsRange _ _ _ _ _ _ _ _ => rgX
  refine' loop_range (fun i m' nw => m' (Str.ofString "coins") = some (.ref l) ∧ ∃ lp vp np o1 o2 v2, nw = (lp, listOf (List.toArray vp) np) :: ((L1 + (1 : Addr) + (1 : Addr)), o2) :: ((L1 + (1 : Addr)), o1) :: news ∧ vp = (List.range (i + 1)).map (fun j => Value.bool (P j)) ∧ (L1 + (1 : Addr) + (1 : Addr)) < lp ∧ o1.data = .cell (some (.ref lp)) ∧ o2.data = .cell v2 ∧ AllLt lp news) ?zlh ?zlF ?zlN rgX ?zls ?zln ?zl0 ?zlt ?zld
  case zlh => rfl
  case zlF => k_asm
  case zlN => k_asm
  case zls => exact small_one (by omega) (by omega) (by omega) (by omega)
  case zln => exact rangeSize_nat _ _
  case zl0 => exact ⟨rfl, _, [_], _, _, _, _, rfl, by simp [List.range_succ, hP.1], by omega, by assumption, by assumption, by assumption⟩
  case zlt =>
    intro I o i k t' m' nw h tk hI hlt hk ha hJ F9 N9
    obtain ⟨hm1, lp, vp, np, o1, o2, v2, rfl, rfl, hlp, ho1, ho2, hlo⟩ := hJ
    have F8 := fr_known [(Str.ofString "coins", Value.ref l)] (List.forall_mem_cons.mpr ⟨hm1, List.forall_mem_nil _⟩) F9
    clear F9
    simp only [List.map_cons, List.cons.injEq, and_true, true_and] at ha
    subst ha
    replace hlp := ltN hlp
    (try k_lt hI)
    (try k_fold)
    k_steps
    refine comp_restT _ (fun j => decide (cc.getD j 0 ≤ k) && P (k - cc.getD j 0).toNat) (fun j y => ∃ t, y = .int (cc.getD j 0) t) (by lcg_src) ?ztest ?zelem ?zfin
    case ztest =>
      intro j v I2 oI2 C oC D ys m2 h2 tk2 E2 hj hv hC hx F7 N7
      obtain ⟨hjl, tv, rfl⟩ := ints_item hi hv
      have hcj := hc _ (getD_in hjl)
      generalize cc.getD j 0 = cj at hcj hx ⊢
      k_steps
      all_goals refine ctest ?_ (by assumption) (by assumption) (fun p hp => hp)
      all_goals first
        | (have hq : ¬ cj ≤ k := by assumption
           simp [hq]; done)
        | (have hq : cj ≤ k := by assumption
           have hr : P (k - cj).toNat = true := by assumption
           simp [hq, hr]; done)
        | (have hq : cj ≤ k := by assumption
           have hr : P (k - cj).toNat = false := by assumption
           simp [hq, hr]; done)
    case zelem =>
      intro j v I2 oI2 C oC D ys m2 h2 tk2 E2 hj hp hv hC hx F7 N7
      obtain ⟨hjl, tv, rfl⟩ := ints_item hi hv
      k_steps
      exact celt ⟨_, rfl⟩ (by assumption) (by assumption) (fun p hp => hp)
    case zfin =>
      intro ys hys
      have hI := picks_ints (fun _ _ h => h) hys
      clear hys
      k_steps
      (rename News _ _ _ _ => NE)
      subst hk
      have hps := paid_step hP hi i (by omega)
      simp only [List.push_toArray, hps] at NE
      show TEnd _ _ _ _ _ _ _ _
      refine tend _ (by assumption) NE (by k_mem) (fun p hp => List.mem_cons_of_mem _ (List.mem_cons_of_mem _ (List.mem_cons_of_mem _ hp))) rfl ⟨rfl, lp, _, _, _, _, _, rfl, ?_, hlp, ho1, by assumption, hlo⟩
      simp [List.range_succ]
  case zld =>
    intro m' nw h tk hJ F9 N9
    obtain ⟨hm1, lp, vp, np, o1, o2, v2, rfl, rfl, hlp, ho1, ho2, hlo⟩ := hJ
    k_steps
    have e9 : (e + 1 - 1).toNat = e.toNat := by omega
    (rename News _ _ _ _ => NE)
    rw [e9] at NE
    exact hret _ _ _ _ ⟨lp, np, rfl, rfl, of_allLt hlo⟩ (by assumption) (drop2 (drop2 NE))

end
section
noncomputable def tabI : List Int := [0, 1, 1, 2, 1, 2, 2, 3, 1, 2, 2, 3, 2, 3, 3, 4]
noncomputable def onesI (ws : List UInt8) : Int := (ws.map fun c => tabI.getD (c.toNat - 65) 0).sum
theorem ones_eq (ws : Array UInt8) : (List.map (fun x => tabI.getD ((ws.getD x 0).toNat - 65) 0) (List.filter (fun _ => true) (List.range ws.size))).sum = onesI ws.toList := by
  unfold onesI
  rw [List.filter_eq_self.mpr (fun _ _ => rfl)]
  congr 1
  apply List.ext_getElem
  · simp
  · intro i h1 h2
    have hi : i < ws.size := by simpa using h1
    simp [hi]
theorem ones (w : World) (ws : Array UInt8) (t : Tok) (news : Led) (hn : ws.size ≤ 100) (hb : ∀ x ∈ ws, 65 ≤ x.toNat ∧ x.toNat ≤ 80) :
    Does w 169 [.bytes ws t] news 2 (fun v nw => nw = news ∧ ∃ t, v = .int (onesI ws.toList) t) := by
  k_with_none
  w_top off
  k_with "my execs cons" => (k_here; (first | ((with_reducible refine execs_consT ?_); intro tkQ; (try dsimp only); k_fold) | ((with_reducible refine wpAny_execs_cons ?_); (try dsimp only); k_fold)))
  k_with "my exec For Name Call cons nil" => (k_here; (with_unfolding_all refine' For_turns (by k_asm) ?_); k_whole)
  k_with "my exec For Name Name cons nil" => (k_here; (with_unfolding_all refine' For_turns (by k_asm) ?_); k_whole)
  k_with "my eval ListComp" => (k_here; lct_look; k_dflt (refine LCt.ListComp_T (F₀ := by k_asm) (by with_unfolding_all rfl) (by decide) (by rfl) (by decide) (by rfl) ?_))
  k_with "my eval ListComp" => (k_here; (first | lcg_look | lcf_look); k_dflt (refine LCg.ListComp_U (F₀ := by k_asm) (by with_unfolding_all rfl) (by decide) (by rfl) (by decide) (by rfl) ?_))
  k_with "my exec Assign cons ListComp" => (k_here; lct_look; k_dflt (refine LCt.Assign_ListComp_T (F₀ := by k_asm) (by rfl) (by with_unfolding_all rfl) (by with_unfolding_all rfl) (by decide) (by rfl) (by decide) (by rfl) (by rfl) (by rfl) ?_))
  k_with "my exec Assign cons ListComp" => (k_here; (first | lcg_look | lcf_look); k_dflt (refine LCg.Assign_ListComp_U (F₀ := by k_asm) (by rfl) (by with_unfolding_all rfl) (by with_unfolding_all rfl) (by decide) (by rfl) (by decide) (by rfl) (by rfl) (by rfl) ?_))
  k_with "my CompSrcT" => (k_here; k_dflt (first
  | (refine LCt.CompSrcT.ledger (by rfl) (by k_asm) (by k_asm) (by k_mem) (by first | kmk_size | (simp only [List.size_toArray, List.length_map, List.length_range, sizeLine_eq]; omega)) ?_; intro g')
  | (refine LCt.CompSrcT.range (by rfl) (by k_asm) (by k_asm) (by assumption) (by exact small_one (by omega) (by omega) (by omega) (by omega)) (by exact rangeSize_nat _ _) (by rw [sizeLine_eq]; omega) ?_; intro g')))
  k_with "my CompSrc" => (k_here; k_dflt (first
  | (refine LCg.CompSrc.ledger (by rfl) (by k_asm) (by k_asm) (by k_mem) (by first | kmk_size | (simp only [List.size_toArray, List.length_map, List.length_range, sizeLine_eq]; omega)) ?_; intro g')
  | (refine LCg.CompSrc.range (by rfl) (by k_asm) (by k_asm) (by assumption) (by exact small_one (by omega) (by omega) (by omega) (by omega)) (by exact rangeSize_nat _ _) (by rw [sizeLine_eq]; omega) ?_; intro g')))
  k_with "my CompRestT" => k_extra "comp"
  k_with "my CompRest" => k_extra "comp"
  k_with "my pyIter ref" => k_extra "loop"
  k_with "my subscriptTail" => (k_here; (with_reducible show wpAny _ _ (subscriptTail _ _ (Value.ref _) (Value.int _ _)) _ _ _); k_dflt (refine' item_bools ?mbl ?mb0 ?mb1 ?mbn ?_ ?mbs; (case mbl => exact News.isList (by k_asm) (by k_mem)); (case mb0 => omega); (case mb1 => omega); (case mbn => omega); (case mbs => with_unfolding_all rfl)))
  k_with "my compareOp Eq ref ref" => (k_here; (with_reducible show wpAny _ _ (compareOp CmpOp.Eq (Value.ref _) (Value.ref _)) _ _ _); (with_unfolding_all refine' eq_intsK ?mq1 ?mq2 ?mq3 ?mq4 ?mq5 ?_; (case mq1 => is_list); (case mq2 => l_intsC); (case mq3 => is_list); (case mq4 => l_intsC); (case mq5 => ktr_units); k_whole))
  k_with "my compareOp NotEq ref ref" => (k_here; (with_reducible show wpAny _ _ (compareOp CmpOp.NotEq (Value.ref _) (Value.ref _)) _ _ _); (with_unfolding_all refine' ne_intsK ?mq1 ?mq2 ?mq3 ?mq4 ?mq5 ?_; (case mq1 => is_list); (case mq2 => l_intsC); (case mq3 => is_list); (case mq4 => l_intsC); (case mq5 => ktr_units); k_whole))
  k_with "my exec For Name Attribute cons nil" => (k_here; (with_unfolding_all refine' For_turns (by k_asm) ?_); k_whole)
  k_with "my eval ListComp" => (k_here; k_dflt (refine listComp_B (F₀ := by k_asm) (by with_unfolding_all rfl) (by decide) (by rfl) (by decide) (by rfl) ?_))
  k_with "my SrcB" => (k_here; k_dflt (refine srcB (by rfl) (by k_asm) (by k_asm) (by rw [sizeLine_eq]; omega) ?_; intro g'))
  unfold Does
  k_fill
  intro mean mg mb dp un gd cn cs a ccd cl outer A₀ base h₀ L m s Q E B F X N T hkd9 hdp9 hun9 hret
  refine wpAny_call ?_
  k_dflt (refine' code_defC ?ze1 ?ze2 ?ze3 ?ze4 ?ze5 ?zeA ?zeF ?zeK ?ze6 ?ze7 ?ze8 ?ze9 ?zeB ?zeD ?_ ?zc2 ?zc3 ?zc4; (case zeA => exact rfl); (case zeF => exact rfl); (case zeK => assumption); (case ze1 => k_asm); (case ze2 => k_asm); (case ze3 => k_asm); (case ze4 => k_asm); (case ze5 => k_asm); (case ze6 => k_is); (case ze7 => k_is); (case ze8 => ktr_room); (case ze9 => first | exact BindsTo.of_eq rfl | (refine' kp_binds ?zkx ?zke; (case zkx => k_in); (case zke => exact fun _ => rfl))); (case zeB => exact rfl); (case zeD => decide +kernel); (case zc2 => exact rfl); (case zc3 => exact rfl); (case zc4 => exact rfl); k_whole)
  intro g1 L1 h1 tk1 cells1 FG1 F1 N1 Y1 B1 X1 T1 l1
  (try k_lt l1)
  (try have lc1 := allLt_up l1)
  (try have lc2 := allLt_up lc1)
  (try have lc3 := allLt_up lc2)
  (try have lc4 := allLt_up lc3)
  (try have lc5 := allLt_up lc4)
  (try have lc6 := allLt_up lc5)
  k_cells Y1
  (try simp only [List.cons_append, List.nil_append] at N1)
  (try dsimp only)
  (try k_fold)
  (replace F1 : Fr _ _ _ (fun z9 => if z9 = Str.ofString "word" then some (Value.bytes ws t) else none) := F1)
  k_steps
  refine comp_rest _ (fun j y => ∃ t, y = .int (tabI.getD ((ws.getD j 0).toNat - 65) 0) t) trivial ?zelem ?zfin
  case zelem =>
    intro j v I2 oI2 C oC D ys m2 h2 tk2 E2 hj hv hC hx F7 N7
    obtain ⟨nb, u, hnb, rfl⟩ := hv
    have hm := hb nb (Array.mem_of_getElem? hnb)
    have e0 : ws.getD j 0 = nb := by simp [hnb]
    rw [e0]
    k_steps
    refine celt ?_ (by assumption) (by assumption) (fun p hp => hp)
    have e9 : ((nb.toNat : Int) - 65).toNat = nb.toNat - 65 := by omega
    rw [e9]
    exact ⟨_, rfl⟩
  case zfin =>
    intro ys hys
    have hI := picks_ints (fun _ _ h => h) hys
    clear hys
    k_steps
    rw [ones_eq]
    exact hret _ _ _ _ ⟨rfl, _, rfl⟩ (by assumption) (drop1 (drop1 (drop1 (by assumption))))

end
section
noncomputable def numI (bs : List Bool) : Int := bs.foldl (fun a b => 2 * a + (if b then 1 else 0)) 0
theorem numI_snoc {bs : List Bool} {i : Nat} {b : Bool} (hb : bs[i]? = some b) : numI (bs.take (i + 1)) = 2 * numI (bs.take i) + (if b then 1 else 0) := by
  rw [List.take_add_one, hb]
  simp [numI, List.foldl_append]
theorem number (w : World) (l : Addr) (bs : List Bool) (n : Nat) (news : Led) (hl : (l, listOf (bs.map Value.bool).toArray n) ∈ news) :
    Does w 157 [.ref l] news 2 (fun v nw => nw = news ∧ ∃ t, v = .int (numI bs) t) := by
  k_with_none
  w_top off
  k_with "my execs cons" => (k_here; (first | ((with_reducible refine execs_consT ?_); intro tkQ; (try dsimp only); k_fold) | ((with_reducible refine wpAny_execs_cons ?_); (try dsimp only); k_fold)))
  k_with "my exec For Name Call cons nil" => (k_here; (with_unfolding_all refine' For_turns (by k_asm) ?_); k_whole)
  k_with "my exec For Name Name cons nil" => (k_here; (with_unfolding_all refine' For_turns (by k_asm) ?_); k_whole)
  k_with "my eval ListComp" => (k_here; lct_look; k_dflt (refine LCt.ListComp_T (F₀ := by k_asm) (by with_unfolding_all rfl) (by decide) (by rfl) (by decide) (by rfl) ?_))
  k_with "my eval ListComp" => (k_here; (first | lcg_look | lcf_look); k_dflt (refine LCg.ListComp_U (F₀ := by k_asm) (by with_unfolding_all rfl) (by decide) (by rfl) (by decide) (by rfl) ?_))
  k_with "my exec Assign cons ListComp" => (k_here; lct_look; k_dflt (refine LCt.Assign_ListComp_T (F₀ := by k_asm) (by rfl) (by with_unfolding_all rfl) (by with_unfolding_all rfl) (by decide) (by rfl) (by decide) (by rfl) (by rfl) (by rfl) ?_))
  k_with "my exec Assign cons ListComp" => (k_here; (first | lcg_look | lcf_look); k_dflt (refine LCg.Assign_ListComp_U (F₀ := by k_asm) (by rfl) (by with_unfolding_all rfl) (by with_unfolding_all rfl) (by decide) (by rfl) (by decide) (by rfl) (by rfl) (by rfl) ?_))
  k_with "my CompSrcT" => (k_here; k_dflt (first
  | (refine LCt.CompSrcT.ledger (by rfl) (by k_asm) (by k_asm) (by k_mem) (by first | kmk_size | (simp only [List.size_toArray, List.length_map, List.length_range, sizeLine_eq]; omega)) ?_; intro g')
  | (refine LCt.CompSrcT.range (by rfl) (by k_asm) (by k_asm) (by assumption) (by exact small_one (by omega) (by omega) (by omega) (by omega)) (by exact rangeSize_nat _ _) (by rw [sizeLine_eq]; omega) ?_; intro g')))
  k_with "my CompSrc" => (k_here; k_dflt (first
  | (refine LCg.CompSrc.ledger (by rfl) (by k_asm) (by k_asm) (by k_mem) (by first | kmk_size | (simp only [List.size_toArray, List.length_map, List.length_range, sizeLine_eq]; omega)) ?_; intro g')
  | (refine LCg.CompSrc.range (by rfl) (by k_asm) (by k_asm) (by assumption) (by exact small_one (by omega) (by omega) (by omega) (by omega)) (by exact rangeSize_nat _ _) (by rw [sizeLine_eq]; omega) ?_; intro g')))
  k_with "my CompRestT" => k_extra "comp"
  k_with "my CompRest" => k_extra "comp"
  k_with "my pyIter ref" => k_extra "loop"
  k_with "my subscriptTail" => (k_here; (with_reducible show wpAny _ _ (subscriptTail _ _ (Value.ref _) (Value.int _ _)) _ _ _); k_dflt (refine' item_bools ?mbl ?mb0 ?mb1 ?mbn ?_ ?mbs; (case mbl => exact News.isList (by k_asm) (by k_mem)); (case mb0 => omega); (case mb1 => omega); (case mbn => omega); (case mbs => with_unfolding_all rfl)))
  k_with "my compareOp Eq ref ref" => (k_here; (with_reducible show wpAny _ _ (compareOp CmpOp.Eq (Value.ref _) (Value.ref _)) _ _ _); (with_unfolding_all refine' eq_intsK ?mq1 ?mq2 ?mq3 ?mq4 ?mq5 ?_; (case mq1 => is_list); (case mq2 => l_intsC); (case mq3 => is_list); (case mq4 => l_intsC); (case mq5 => ktr_units); k_whole))
  k_with "my compareOp NotEq ref ref" => (k_here; (with_reducible show wpAny _ _ (compareOp CmpOp.NotEq (Value.ref _) (Value.ref _)) _ _ _); (with_unfolding_all refine' ne_intsK ?mq1 ?mq2 ?mq3 ?mq4 ?mq5 ?_; (case mq1 => is_list); (case mq2 => l_intsC); (case mq3 => is_list); (case mq4 => l_intsC); (case mq5 => ktr_units); k_whole))
  k_with "my exec For Name Attribute cons nil" => (k_here; (with_unfolding_all refine' For_turns (by k_asm) ?_); k_whole)
  unfold Does
  k_fill
  intro mean mg mb dp un gd cn cs a ccd cl outer A₀ base h₀ L m s Q E B F X N T hkd9 hdp9 hun9 hret
  refine wpAny_call ?_
  k_dflt (refine' code_def ?ze1 ?ze2 ?ze3 ?ze4 ?ze5 ?zeA ?zeF ?zeK ?ze6 ?ze7 ?ze8 ?ze9 ?zeB ?_ ?zc2 ?zc3 ?zc4 ?zc5; (case zeA => exact rfl); (case zeF => exact rfl); (case zeK => assumption); (case ze1 => k_asm); (case ze2 => k_asm); (case ze3 => k_asm); (case ze4 => k_asm); (case ze5 => k_asm); (case ze6 => k_is); (case ze7 => k_is); (case ze8 => ktr_room); (case ze9 => first | exact BindsTo.of_eq rfl | (refine' kp_binds ?zkx ?zke; (case zkx => k_in); (case zke => exact fun _ => rfl))); (case zc5 => decide); (case zeB => exact locs rfl); (case zc2 => exact rfl); (case zc3 => exact rfl); (case zc4 => exact rfl); k_whole)
  intro g1 L1 h1 FG1 F1 N1 B1 X1 T1
  (try dsimp only)
  (try k_fold)
  (replace F1 : Fr _ _ _ (fun z9 => List.lookup z9 [(Str.ofString "bits", Value.ref l)]) := F1)
  k_steps
  refine' loop_list (fun i m' nw => nw = news ∧ ∃ t, m' (Str.ofString "number") = some (.int (numI (bs.take i)) t)) ?zlh ?zlF ?zlN hl ?zl0 ?zlk ?zlt ?zld
  case zlh => rfl
  case zlF => k_asm
  case zlN => k_asm
  case zl0 => exact ⟨rfl, _, rfl⟩
  case zlk => rintro i m' nw ⟨rfl, _⟩; exact hl
  case zlt =>
    intro I o i v m' nw h tk hI hv ha hJ F9 N9
    obtain ⟨rfl, tn, hm⟩ := hJ
    rw [List.getElem?_map] at hv
    obtain ⟨b, hb, rfl⟩ := Option.map_eq_some_iff.mp hv
    have hs := numI_snoc hb
    have F8 := fr_known [(Str.ofString "number", Value.int (numI (bs.take i)) tn)] (List.forall_mem_cons.mpr ⟨hm, List.forall_mem_nil _⟩) F9
    clear F9 hv hm
    (try k_fold)
    k_steps
    all_goals show TEnd _ _ _ _ _ _ _ _
    all_goals refine tend nw (by assumption) (by assumption) (by k_mem) (fun p hp => .tail _ hp) rfl ⟨rfl, ?_⟩
    all_goals rw [hs]
    all_goals first | (rw [if_pos (by assumption)]; exact ⟨_, rfl⟩) | (rw [if_neg (by assumption)]; exact ⟨_, rfl⟩) | (rename b = true => hb9; subst hb9; exact ⟨_, rfl⟩) | (rename b = false => hb9; subst hb9; exact ⟨_, rfl⟩)
  case zld =>
    intro m' nw h tk hJ F9 N9
    obtain ⟨rfl, tn, hm⟩ := hJ
    rw [List.length_map, List.take_length] at hm
    have F8 := fr_known [(Str.ofString "number", Value.int (numI bs) tn)] (List.forall_mem_cons.mpr ⟨hm, List.forall_mem_nil _⟩) F9
    clear F9 hm
    k_steps
    exact hret _ _ _ _ ⟨rfl, tn, rfl⟩ (by assumption) (by assumption)

end
section
theorem allLt_lt {d x : Addr} (hx : @LT.lt Nat _ d x) : ∀ {l : Led}, AllLt d l → AllLt x l
  | [], _ => trivial
  | _ :: _, h => ⟨Nat.lt_trans h.1 hx, allLt_lt hx h.2⟩
noncomputable def WsAt (w : World) (rs : List Int) (news : Led) (v : Value) (nw : Led) : Prop :=
  ∃ (x d D D' : Addr) (cv : List Value) (X : Str) (t0 k0 k1 k2 k3 k4 tb tn tt : Tok) (sb : Bool), v = .ref x ∧
    nw = (D', { cls := .type "tuple", data := .seq #[.ref D, .int ((wsF (rs.flatMap lineC)).b : Nat) tb] }) :: (D, { cls := .type "tuple", data := .seq cv.toArray }) :: (x, instObj 117 d) ::
      (d, dictOf [{ hash := PyData.keyHash w.params (Str.ofString "raw"), key := .str (Str.ofString "raw") k0, val := .str X t0 },
        { hash := PyData.keyHash w.params (Str.ofString "n"), key := .str (Str.ofString "n") k1, val := .int ((wsF (rs.flatMap lineC)).n : Nat) tn },
        { hash := PyData.keyHash w.params (Str.ofString "nt"), key := .str (Str.ofString "nt") k2, val := .int ((wsF (rs.flatMap lineC)).nt : Nat) tt },
        { hash := PyData.keyHash w.params (Str.ofString "norm"), key := .str (Str.ofString "norm") k3, val := .ref D' },
        { hash := PyData.keyHash w.params (Str.ofString "is_simple"), key := .str (Str.ofString "is_simple") k4, val := .bool sb }] 5) :: news ∧
    IntsAre cv (wsF (rs.flatMap lineC)).c ∧ AllLt D' news ∧ AllLt x news ∧ AllLt d news
theorem drop3b {g : Heap} {L : Addr} {h : Heap} {p q r z9 : Addr × Obj} {news : Led} (N : News g L h (p :: q :: r :: z9 :: news)) : News g L h (p :: q :: r :: news) := fun z hz => by
  rcases List.mem_cons.mp hz with e | hz
  · exact N z (e ▸ .head _)
  · rcases List.mem_cons.mp hz with e | hz
    · exact N z (e ▸ .tail _ (.head _))
    · rcases List.mem_cons.mp hz with e | e
      · exact N z (e ▸ .tail _ (.tail _ (.head _)))
      · exact N z (.tail _ (.tail _ (.tail _ (.tail _ e))))
theorem drop3 {g : Heap} {L : Addr} {h : Heap} {p q r : Addr × Obj} {news : Led} (N : News g L h (p :: q :: r :: news)) : News g L h (p :: q :: news) := fun z hz => by
  rcases List.mem_cons.mp hz with e | hz
  · exact N z (e ▸ .head _)
  · rcases List.mem_cons.mp hz with e | e
    · exact N z (e ▸ .tail _ (.head _))
    · exact N z (.tail _ (.tail _ (.tail _ e)))
theorem lead (w : World) (l : Addr) (vs : List Value) (rs : List Int) (n : Nat) (news : Led) (hl : (l, listOf vs.toArray n) ∈ news) (hi : IntsAre vs rs) (hn : rs.length ≤ 7) (hb : ∀ r ∈ rs, 0 ≤ r ∧ r ≤ 77) :
    Does w 150 [.ref l] news 24 (fun v nw => WsAt w rs news v nw) := by
  k_with_none
  w_top off
  k_with "my execs cons" => (k_here; (first | ((with_reducible refine execs_consT ?_); intro tkQ; (try dsimp only); k_fold) | ((with_reducible refine wpAny_execs_cons ?_); (try dsimp only); k_fold)))
  k_with "my exec For Name Call cons nil" => (k_here; (with_unfolding_all refine' For_turns (by k_asm) ?_); k_whole)
  k_with "my exec For Name Name cons nil" => (k_here; (with_unfolding_all refine' For_turns (by k_asm) ?_); k_whole)
  k_with "my eval ListComp" => (k_here; lct_look; k_dflt (refine LCt.ListComp_T (F₀ := by k_asm) (by with_unfolding_all rfl) (by decide) (by rfl) (by decide) (by rfl) ?_))
  k_with "my eval ListComp" => (k_here; (first | lcg_look | lcf_look); k_dflt (refine LCg.ListComp_U (F₀ := by k_asm) (by with_unfolding_all rfl) (by decide) (by rfl) (by decide) (by rfl) ?_))
  k_with "my exec Assign cons ListComp" => (k_here; lct_look; k_dflt (refine LCt.Assign_ListComp_T (F₀ := by k_asm) (by rfl) (by with_unfolding_all rfl) (by with_unfolding_all rfl) (by decide) (by rfl) (by decide) (by rfl) (by rfl) (by rfl) ?_))
  k_with "my exec Assign cons ListComp" => (k_here; (first | lcg_look | lcf_look); k_dflt (refine LCg.Assign_ListComp_U (F₀ := by k_asm) (by rfl) (by with_unfolding_all rfl) (by with_unfolding_all rfl) (by decide) (by rfl) (by decide) (by rfl) (by rfl) (by rfl) ?_))
  k_with "my CompSrcT" => (k_here; k_dflt (first
  | (refine LCt.CompSrcT.ledger (by rfl) (by k_asm) (by k_asm) (by k_mem) (by first | kmk_size | (simp only [List.size_toArray, List.length_map, List.length_range, sizeLine_eq]; omega)) ?_; intro g')
  | (refine LCt.CompSrcT.range (by rfl) (by k_asm) (by k_asm) (by assumption) (by exact small_one (by omega) (by omega) (by omega) (by omega)) (by exact rangeSize_nat _ _) (by rw [sizeLine_eq]; omega) ?_; intro g')))
  k_with "my CompSrc" => (k_here; k_dflt (first
  | (refine LCg.CompSrc.ledger (by rfl) (by k_asm) (by k_asm) (by k_mem) (by first | kmk_size | (simp only [List.size_toArray, List.length_map, List.length_range, sizeLine_eq]; omega)) ?_; intro g')
  | (refine LCg.CompSrc.range (by rfl) (by k_asm) (by k_asm) (by assumption) (by exact small_one (by omega) (by omega) (by omega) (by omega)) (by exact rangeSize_nat _ _) (by rw [sizeLine_eq]; omega) ?_; intro g')))
  k_with "my CompRestT" => k_extra "comp"
  k_with "my CompRest" => k_extra "comp"
  k_with "my pyIter ref" => k_extra "loop"
  k_with "my subscriptTail" => (k_here; (with_reducible show wpAny _ _ (subscriptTail _ _ (Value.ref _) (Value.int _ _)) _ _ _); k_dflt (refine' item_bools ?mbl ?mb0 ?mb1 ?mbn ?_ ?mbs; (case mbl => exact News.isList (by k_asm) (by k_mem)); (case mb0 => omega); (case mb1 => omega); (case mbn => omega); (case mbs => with_unfolding_all rfl)))
  k_with "my compareOp Eq ref ref" => (k_here; (with_reducible show wpAny _ _ (compareOp CmpOp.Eq (Value.ref _) (Value.ref _)) _ _ _); (with_unfolding_all refine' eq_intsK ?mq1 ?mq2 ?mq3 ?mq4 ?mq5 ?_; (case mq1 => is_list); (case mq2 => l_intsC); (case mq3 => is_list); (case mq4 => l_intsC); (case mq5 => ktr_units); k_whole))
  k_with "my compareOp NotEq ref ref" => (k_here; (with_reducible show wpAny _ _ (compareOp CmpOp.NotEq (Value.ref _) (Value.ref _)) _ _ _); (with_unfolding_all refine' ne_intsK ?mq1 ?mq2 ?mq3 ?mq4 ?mq5 ?_; (case mq1 => is_list); (case mq2 => l_intsC); (case mq3 => is_list); (case mq4 => l_intsC); (case mq5 => ktr_units); k_whole))
  k_with "my exec For Name Attribute cons nil" => (k_here; (with_unfolding_all refine' For_turns (by k_asm) ?_); k_whole)
  unfold Does
  k_fill
  intro mean mg mb dp un gd cn cs a ccd cl outer A₀ base h₀ L m s Q E B F X N T hkd9 hdp9 hun9 hret
  refine wpAny_call ?_
  k_dflt (refine' code_def ?ze1 ?ze2 ?ze3 ?ze4 ?ze5 ?zeA ?zeF ?zeK ?ze6 ?ze7 ?ze8 ?ze9 ?zeB ?_ ?zc2 ?zc3 ?zc4 ?zc5; (case zeA => exact rfl); (case zeF => exact rfl); (case zeK => assumption); (case ze1 => k_asm); (case ze2 => k_asm); (case ze3 => k_asm); (case ze4 => k_asm); (case ze5 => k_asm); (case ze6 => k_is); (case ze7 => k_is); (case ze8 => ktr_room); (case ze9 => first | exact BindsTo.of_eq rfl | (refine' kp_binds ?zkx ?zke; (case zkx => k_in); (case zke => exact fun _ => rfl))); (case zc5 => decide); (case zeB => exact locs rfl); (case zc2 => exact rfl); (case zc3 => exact rfl); (case zc4 => exact rfl); k_whole)
  intro g1 L1 h1 FG1 F1 N1 B1 X1 T1
  (try dsimp only)
  (try k_fold)
  (replace F1 : Fr _ _ _ (fun z9 => List.lookup z9 [(Str.ofString "runs", Value.ref l)]) := F1)
  k_steps
  refine comp_rest _ (fun j y => ∃ t, y = .str (lineS (rs.getD j 0)) t) (by lcg_src) ?zelem ?zfin
  case zelem =>
    intro j v I2 oI2 C oC D ys m2 h2 tk2 E2 hj hv hC hx F7 N7
    obtain ⟨hjl, tv, rfl⟩ := ints_item hi hv
    have hcj := hb _ (getD_in hjl)
    generalize rs.getD j 0 = cj at hcj hx ⊢
    k_steps
    all_goals refine celt ⟨_, rfl⟩ (by assumption) (by assumption) (fun p hp => hp)
  case zfin =>
    intro ys hys
    have hI : StrsAre ys (rs.map lineS) := by
      have := picks_strs (fun i y h => h) hys
      rwa [List.size_toArray, hi.length, map_getD rs lineS] at this
    clear hys
    k_steps
    refine join_list (News.isList (by k_asm) (by k_mem)) hI ?hok ?_
    case hok =>
      have := lines_sum hb
      rw [show (Str.ofString "").length = 0 from by decide +kernel, List.length_map]
      omega
    intro tj kj
    have hX := text_cps rs
    have hXl : (Txt.join (Str.ofString "") (rs.map lineS)).length + 3 ≤ 600 := by
      have h1 := congrArg List.length hX
      have h2 := text_len hb
      rw [← h1] at h2
      have h3 : (Txt.join (Str.ofString "") (rs.map lineS) ++ Str.ofString "x \t").cps.toList.length = (Txt.join (Str.ofString "") (rs.map lineS)).length + (Str.ofString "x \t").length := by
        rw [Array.length_toList]; exact Array.size_append
      rw [h3, show (Str.ofString "x \t").length = 3 from by decide +kernel] at h2
      omega
    revert hX hXl
    refine genA (Txt.join (Str.ofString "") (rs.map lineS)) ?_
    intro X hX hXl
    k_steps
    rename_i t0 k0 a0 x0 d0 r0 r1 r2 r3 r4 r5 r6 r7 r8 r9 r10 r11 r12 r13 r14 r15 r16 r17 r18 r19 r20 r21 r22 r23 r24 r25 r26 r27 r28 r29 r30 r31 r32 r33 r34 r35 r36 r37 r38 r39 r40 r41 r42 r43 r44 r45 r46 r47 r48 q40
    have hXa : (X ++ Str.ofString "x \t").cps.all (· < 128) = true := by
      rw [← Array.all_toList, hX]
      exact text_ascii rs
    have hXs : (X ++ Str.ofString "x \t").cps.size = (textC rs).length := by rw [← hX, Array.length_toList]
    have q41 := drop4 (drop2 q40)
    refine' loop_str (fun i m nw => m (Str.ofString "self") = some (.ref x0) ∧ m (Str.ofString "S") = some (.str (Str.ofString " ") 264) ∧ m (Str.ofString "T") = some (.str (Str.ofString "\t") 265) ∧
      (∀ j < i, (textC rs)[j]? = some 32 ∨ (textC rs)[j]? = some 9) ∧
      ∃ lc cv nc tb tn tt tr, m (Str.ofString "count") = some (.ref lc) ∧ m (Str.ofString "b") = some (.int ((wsF ((textC rs).take i)).b : Nat) tb) ∧ m (Str.ofString "n") = some (.int ((wsF ((textC rs).take i)).n : Nat) tn) ∧ m (Str.ofString "nt") = some (.int ((wsF ((textC rs).take i)).nt : Nat) tt) ∧
      nw = (lc, listOf (List.toArray cv) nc) :: (x0, instObj 117 d0) :: (d0, dictOf [{ hash := PyData.keyHash w.params (Str.ofString "raw"), key := Value.str (Str.ofString "raw") tr, val := Value.str (X ++ Str.ofString "x \t") t0 }] 1) :: news ∧ IntsAre cv (wsF ((textC rs).take i)).c ∧ @LT.lt Nat _ x0 lc ∧ @LT.lt Nat _ d0 lc ∧ AllLt lc news) ?zlh ?zlF q41 hXa ?zl0 ?zlt ?zld
    case zlh => rfl
    case zlF => k_asm
    case zl0 => exact ⟨rfl, rfl, rfl, (fun j hj => absurd hj (Nat.not_lt_zero _)), _, [], _, _, _, _, _, rfl, rfl, rfl, rfl, rfl, .nil, by omega, by omega, by assumption⟩
    case zlt =>
      intro I o i c t' m' nw h tk hI hc hof hJ F9 N9
      obtain ⟨hm1, hm2, hm3, hno, lc, cv, nc, tb, tn, tt, tr, hm4, hm5, hm6, hm7, rfl, hcv, hx1, hx2, hlo⟩ := hJ
      rw [hX] at hc
      have hs := wsF_snoc hc
      have hlen := (List.getElem?_eq_some_iff.mp hc).1
      have F8 := fr_known [(Str.ofString "self", Value.ref x0), (Str.ofString "S", .str (Str.ofString " ") 264), (Str.ofString "T", .str (Str.ofString "\t") 265), (Str.ofString "count", .ref lc), (Str.ofString "b", .int ((wsF ((textC rs).take i)).b : Nat) tb), (Str.ofString "n", .int ((wsF ((textC rs).take i)).n : Nat) tn), (Str.ofString "nt", .int ((wsF ((textC rs).take i)).nt : Nat) tt)]
        (List.forall_mem_cons.mpr ⟨hm1, List.forall_mem_cons.mpr ⟨hm2, List.forall_mem_cons.mpr ⟨hm3, List.forall_mem_cons.mpr ⟨hm4, List.forall_mem_cons.mpr ⟨hm5, List.forall_mem_cons.mpr ⟨hm6, List.forall_mem_cons.mpr ⟨hm7, List.forall_mem_nil _⟩⟩⟩⟩⟩⟩⟩) F9
      dsimp only [kstB] at F8
      clear F9 hm1 hm2 hm3 hm4 hm5 hm6 hm7
      (try k_lt hI)
      have hof1 : @Ne Nat I lc := fun e => hof _ (.head _) e.symm
      have hof2 : @Ne Nat lc I := fun e => hof _ (.head _) e
      have hof3 : @Ne Nat x0 I := fun e => hof _ (.tail _ (.head _)) e
      have hof4 : @Ne Nat d0 I := fun e => hof _ (.tail _ (.tail _ (.head _))) e
      have hbd := wsF_bound ((textC rs).take i)
      have htl := text_len hb
      rw [List.length_take] at hbd
      generalize hst : wsF ((textC rs).take i) = st at hs hbd hcv F8
      obtain ⟨hbd1, hbd2⟩ := hbd
      (try k_fold)
      k_steps
      · have hc32 : c = 32 := by
          rename (_ == Str.ofString " ") = true => hq
          rw [chr_sp] at hq
          exact beq_iff_eq.mp hq
        subst hc32
        have hs1 : wsF ((textC rs).take (i + 1)) = ⟨st.c, st.b + 1, st.n + 1, st.nt⟩ := by rw [hs]; rfl
        rw [hs1]
        (rename News _ _ _ _ => NE)
        show TEnd2 _ _ _ _ _ _ _
        refine tend2 _ (by assumption) NE (by k_mem) (fun p hp => .tail _ hp) hof ⟨rfl, rfl, rfl, ?_, lc, cv, nc, _, _, _, tr, rfl, rfl, rfl, rfl, rfl, hcv, hx1, hx2, hlo⟩
        intro j hj
        rcases Nat.lt_succ_iff_lt_or_eq.mp hj with h9 | h9
        · exact hno j h9
        · subst h9; exact .inl hc
      · have hc9 : c = 9 := by
          rename (_ == Str.ofString "\t") = true => hq
          rw [chr_tab] at hq
          exact beq_iff_eq.mp hq
        subst hc9
        have hs1 : wsF ((textC rs).take (i + 1)) = ⟨bumpL (padL st.c st.b) st.b, 0, st.n + 1, st.nt + 1⟩ := by rw [hs]; rfl
        rw [hs1]
        (rename News _ _ _ _ => NE)
        (rename IntsAre (List.set _ _ _) _ => hNI)
        rw [Int.toNat_natCast, pad_yes (by omega)] at hNI NE
        show TEnd2 _ _ _ _ _ _ _
        refine tend2 _ (by assumption) (news_cons NE (by k_mem) (drop2 (drop2 (drop2 (drop2 NE))))) (.head _) (fun p hp => .tail _ hp) (List.forall_mem_cons.mpr ⟨?zne, fun p hp => hof p (.tail _ hp)⟩) ⟨rfl, rfl, rfl, ?zno, _, _, _, _, _, _, tr, rfl, rfl, rfl, rfl, rfl, hNI, ?zx1, ?zx2, ?zx3⟩
        case zno =>
          intro j hj
          rcases Nat.lt_succ_iff_lt_or_eq.mp hj with h9 | h9
          · exact hno j h9
          · subst h9; exact .inr hc
        case zne => (refine neN ?_; dsimp only; omega)
        case zx1 => omega
        case zx2 => omega
        case zx3 => assumption
      · have hc9 : c = 9 := by
          rename (_ == Str.ofString "\t") = true => hq
          rw [chr_tab] at hq
          exact beq_iff_eq.mp hq
        subst hc9
        have hs1 : wsF ((textC rs).take (i + 1)) = ⟨bumpL (padL st.c st.b) st.b, 0, st.n + 1, st.nt + 1⟩ := by rw [hs]; rfl
        rw [hs1]
        (rename News _ _ _ _ => NE)
        (rename IntsAre (List.set _ _ _) _ => hNI)
        rw [Int.toNat_natCast] at hNI
        rw [pad_no (by omega)]
        show TEnd2 _ _ _ _ _ _ _
        refine tend2 _ (by assumption) (news_cons NE (by k_mem) (drop1 NE)) (.head _) (fun p hp => .tail _ hp) (List.forall_mem_cons.mpr ⟨?zne, fun p hp => hof p (.tail _ hp)⟩) ⟨rfl, rfl, rfl, ?zno, _, _, _, _, _, _, tr, rfl, rfl, rfl, rfl, rfl, hNI, ?zx1, ?zx2, ?zx3⟩
        case zno =>
          intro j hj
          rcases Nat.lt_succ_iff_lt_or_eq.mp hj with h9 | h9
          · exact hno j h9
          · subst h9; exact .inr hc
        case zne => (refine neN ?_; dsimp only; omega)
        case zx1 => omega
        case zx2 => omega
        case zx3 => assumption
      · dsimp only [TPost2]
        k_steps
        (rename News _ _ _ _ => NE)
        have hne1 := news_ne NE (.tail _ (.head _)) (.tail _ (.tail _ (.tail _ (.tail _ (.tail _ (.head _)))))) (by simp)
        have hne2 := news_ne NE (.tail _ (.head _)) (.tail _ (.tail _ (.tail _ (.tail _ (.head _))))) (by simp)
        have hne3 := news_ne NE (.tail _ (.head _)) (.tail _ (.tail _ (.tail _ (.head _)))) (by simp)
        k_steps
        have hc1 : c ≠ 32 := by
          rename (_ == Str.ofString " ") = false => hq
          rw [chr_sp] at hq
          exact beq_eq_false_iff_ne.mp hq
        have hc2 : c ≠ 9 := by
          rename (_ == Str.ofString "\t") = false => hq
          rw [chr_tab] at hq
          exact beq_eq_false_iff_ne.mp hq
        have hbr := ws_break hc hc1 hc2 hno
        rw [hbr] at hst
        subst hst
        (rename News _ _ _ _ => NE)
        exact hret _ _ _ _ ⟨_, _, _, _, _, _, _, _, _, _, _, _, _, _, _, _, rfl, rfl, hcv, by assumption, allLt_lt (by assumption) (by assumption), by assumption⟩ (by assumption) (drop3 (drop3b NE))
    case zld =>
      intro m' nw h tk hJ F9 N9
      exfalso
      obtain ⟨hm1, hm2, hm3, hno, _⟩ := hJ
      rw [hXs] at hno
      exact ws_never hno

end
section
theorem readI_snoc (l : List UInt8) (c : UInt8) : readI (l ++ [c]) = 16 * readI l + c.toNat - 65 := by
  simp [readI, List.foldl_append]
theorem readI_apB : ∀ n : Nat, readI (apB n) = (n : Int) := by
  intro n
  induction n using Nat.strongRecOn with
  | _ n ih =>
    by_cases h : n = 0
    · subst h; rw [apB_zero]; rfl
    · have h1 : (UInt8.ofNat (65 + n % 16)).toNat = 65 + n % 16 := by
        rw [UInt8.toNat_ofNat']
        omega
      rw [apB_pos h, readI_snoc, ih (n / 16) (by omega), h1]
      omega
theorem numI_bound : ∀ bs : List Bool, 0 ≤ numI bs ∧ numI bs < 2 ^ bs.length := by
  intro bs
  have go : ∀ (bs : List Bool) (a : Int) (k : Nat), 0 ≤ a → a < 2 ^ k → 0 ≤ bs.foldl (fun a b => 2 * a + (if b then 1 else 0)) a ∧ bs.foldl (fun a b => 2 * a + (if b then 1 else 0)) a < 2 ^ (k + bs.length) := by
    intro bs
    induction bs with
    | nil => exact fun a k h0 h1 => ⟨h0, h1⟩
    | cons b r ih =>
      intro a k h0 h1
      have h2 : (2 : Int) ^ (k + 1) = 2 * 2 ^ k := by rw [Int.pow_succ]; omega
      have := ih (2 * a + (if b then 1 else 0)) (k + 1) (by split <;> omega) (by rw [h2]; split <;> omega)
      rw [List.length_cons, show k + (r.length + 1) = k + 1 + r.length by omega]
      exact this
  have := go bs 0 0 (by omega) (by decide)
  rwa [Nat.zero_add] at this
theorem numI_small {bs : List Bool} (h : bs.length ≤ 80) : 0 ≤ numI bs ∧ (numI bs).natAbs < 16 ^ 20 := by
  have h1 := numI_bound bs
  have h2 : (2 : Int) ^ bs.length ≤ 2 ^ 80 := by
    have := Nat.pow_le_pow_right (show 0 < 2 by omega) h
    exact_mod_cast this
  have h3 : (2 : Int) ^ 80 = 1208925819614629174706176 := by decide
  have h4 : (16 : Nat) ^ 20 = 1208925819614629174706176 := by decide
  rw [h4]
  omega
theorem words (w : World) (l : Addr) (n N : Nat) (gap : Int) (t : Tok) (news : Led) (P : Nat → Bool) (hl : (l, listOf ((List.range N).map fun i => Value.bool (P i)).toArray n) ∈ news) (hg : -1 ≤ gap ∧ gap < N) (hN : N ≤ 78) :
    Does w 181 [.ref l, .int gap t] news 24 (fun v nw => ∃ l' t1 t2, v = .ref l' ∧ nw = (l', { cls := .type "tuple", data := .seq #[.bytes (apB (numI ((List.range (gap + 1 - 0).toNat).map fun (k : Nat) => P (gap - (k : Int)).toNat)).natAbs).toArray t1, .bytes (apB (numI ((List.range (gap + 1 - 0).toNat).map fun (k : Nat) => !P k)).natAbs).toArray t2, .bool true] 0 }) :: news ∧ (∀ p ∈ news, p.1 < l')) := by
  have hk1 := (numI_small (bs := (List.range (gap + 1 - 0).toNat).map fun (k : Nat) => P (gap - (k : Int)).toNat) (by simp; omega))
  have hk2 := (numI_small (bs := (List.range (gap + 1 - 0).toNat).map fun (k : Nat) => !P k) (by simp; omega))
  generalize hb1 : (List.range (gap + 1 - 0).toNat).map (fun (k : Nat) => P (gap - (k : Int)).toNat) = bs1 at hk1 ⊢
  generalize hb2 : (List.range (gap + 1 - 0).toNat).map (fun (k : Nat) => !P k) = bs2 at hk2 ⊢
  obtain ⟨hk1, hk3⟩ := hk1
  obtain ⟨hk2, hk4⟩ := hk2
  have hl1 := apB_len 20 _ hk3
  have hl2 := apB_len 20 _ hk4
  k_with_none
  w_top off
  k_with "my execs cons" => (k_here; (first | ((with_reducible refine execs_consT ?_); intro tkQ; (try dsimp only); k_fold) | ((with_reducible refine wpAny_execs_cons ?_); (try dsimp only); k_fold)))
  k_with "my exec For Name Call cons nil" => (k_here; (with_unfolding_all refine' For_turns (by k_asm) ?_); k_whole)
  k_with "my exec For Name Name cons nil" => (k_here; (with_unfolding_all refine' For_turns (by k_asm) ?_); k_whole)
  k_with "my eval ListComp" => (k_here; lct_look; k_dflt (refine LCt.ListComp_T (F₀ := by k_asm) (by with_unfolding_all rfl) (by decide) (by rfl) (by decide) (by rfl) ?_))
  k_with "my eval ListComp" => (k_here; (first | lcg_look | lcf_look); k_dflt (refine LCg.ListComp_U (F₀ := by k_asm) (by with_unfolding_all rfl) (by decide) (by rfl) (by decide) (by rfl) ?_))
  k_with "my exec Assign cons ListComp" => (k_here; lct_look; k_dflt (refine LCt.Assign_ListComp_T (F₀ := by k_asm) (by rfl) (by with_unfolding_all rfl) (by with_unfolding_all rfl) (by decide) (by rfl) (by decide) (by rfl) (by rfl) (by rfl) ?_))
  k_with "my exec Assign cons ListComp" => (k_here; (first | lcg_look | lcf_look); k_dflt (refine LCg.Assign_ListComp_U (F₀ := by k_asm) (by rfl) (by with_unfolding_all rfl) (by with_unfolding_all rfl) (by decide) (by rfl) (by decide) (by rfl) (by rfl) (by rfl) ?_))
  k_with "my CompSrcT" => (k_here; k_dflt (first
  | (refine LCt.CompSrcT.ledger (by rfl) (by k_asm) (by k_asm) (by k_mem) (by first | kmk_size | (simp only [List.size_toArray, List.length_map, List.length_range, sizeLine_eq]; omega)) ?_; intro g')
  | (refine LCt.CompSrcT.range (by rfl) (by k_asm) (by k_asm) (by assumption) (by exact small_one (by omega) (by omega) (by omega) (by omega)) (by exact rangeSize_nat _ _) (by rw [sizeLine_eq]; omega) ?_; intro g')))
  k_with "my CompSrc" => (k_here; k_dflt (first
  | (refine LCg.CompSrc.ledger (by rfl) (by k_asm) (by k_asm) (by k_mem) (by first | kmk_size | (simp only [List.size_toArray, List.length_map, List.length_range, sizeLine_eq]; omega)) ?_; intro g')
  | (refine LCg.CompSrc.range (by rfl) (by k_asm) (by k_asm) (by assumption) (by exact small_one (by omega) (by omega) (by omega) (by omega)) (by exact rangeSize_nat _ _) (by rw [sizeLine_eq]; omega) ?_; intro g')))
  k_with "my CompRestT" => k_extra "comp"
  k_with "my CompRest" => k_extra "comp"
  k_with "my pyIter ref" => k_extra "loop"
  k_with "my subscriptTail" => (k_here; (with_reducible show wpAny _ _ (subscriptTail _ _ (Value.ref _) (Value.int _ _)) _ _ _); k_dflt (refine' item_bools ?mbl ?mb0 ?mb1 ?mbn ?_ ?mbs; (case mbl => exact News.isList (by k_asm) (by k_mem)); (case mb0 => omega); (case mb1 => omega); (case mbn => omega); (case mbs => with_unfolding_all rfl)))
  k_with "my compareOp Eq ref ref" => (k_here; (with_reducible show wpAny _ _ (compareOp CmpOp.Eq (Value.ref _) (Value.ref _)) _ _ _); (with_unfolding_all refine' eq_intsK ?mq1 ?mq2 ?mq3 ?mq4 ?mq5 ?_; (case mq1 => is_list); (case mq2 => l_intsC); (case mq3 => is_list); (case mq4 => l_intsC); (case mq5 => ktr_units); k_whole))
  k_with "my compareOp NotEq ref ref" => (k_here; (with_reducible show wpAny _ _ (compareOp CmpOp.NotEq (Value.ref _) (Value.ref _)) _ _ _); (with_unfolding_all refine' ne_intsK ?mq1 ?mq2 ?mq3 ?mq4 ?mq5 ?_; (case mq1 => is_list); (case mq2 => l_intsC); (case mq3 => is_list); (case mq4 => l_intsC); (case mq5 => ktr_units); k_whole))
  k_with "my exec For Name Attribute cons nil" => (k_here; (with_unfolding_all refine' For_turns (by k_asm) ?_); k_whole)
  k_with "my call ref" => (k_here; (with_reducible show wpAny _ _ (call (Value.ref 157) [Value.ref _] _) _ _ _); (k_dflt (refine' does_use (number _ _ _ _ _ ?mnl) ?mnk1 ?mnk2 ?mnk3 ?mnk4 ?mnk5 ?mnkK ?mnkd ?mnku ?_)); (case mnk1 => k_asm); (case mnk2 => k_asm); (case mnk3 => k_asm); (case mnk4 => k_asm); (case mnk5 => k_asm); (case mnkK => first | exact rfl | assumption); (case mnl => k_mem); (case mnkd => ktr_room); (case mnku => ktr_units); (rintro _ _ h' tk' ⟨e1, t9, e2⟩ F' N'; subst e1; subst e2); (try dsimp only); (try k_fold))
  k_with "my call ref" => (k_here; (with_reducible show wpAny _ _ (call (Value.ref 55) [Value.int _ _] _) _ _ _); (k_dflt (refine' does_use (int2AP _ _ _ _ ?mpx) ?mpk1 ?mpk2 ?mpk3 ?mpk4 ?mpk5 ?mpkK ?mpkd ?mpku ?_)); (case mpk1 => k_asm); (case mpk2 => k_asm); (case mpk3 => k_asm); (case mpk4 => k_asm); (case mpk5 => k_asm); (case mpkK => first | exact rfl | assumption); (case mpx => first | assumption | (rw [Int.natAbs_neg]; assumption)); (case mpkd => ktr_room); (case mpku => ktr_units); (rintro _ _ h' tk' ⟨e1, t9, e2⟩ F' N'; subst e1; subst e2); (try dsimp only); (try k_fold))
  k_with "my call ref" => (k_here; (with_reducible show wpAny _ _ (call (Value.ref 164) [Value.bytes _ _] _) _ _ _); (k_dflt (refine' does_use (read _ _ _ _ ?mdn) ?mdk1 ?mdk2 ?mdk3 ?mdk4 ?mdk5 ?mdkK ?mdkd ?mdku ?_)); (case mdk1 => k_asm); (case mdk2 => k_asm); (case mdk3 => k_asm); (case mdk4 => k_asm); (case mdk5 => k_asm); (case mdkK => first | exact rfl | assumption); (case mdn => first | assumption | (rw [List.size_toArray]; omega) | (rw [List.size_toArray, Int.natAbs_neg]; omega)); (case mdkd => ktr_room); (case mdku => ktr_units); (rintro _ _ h' tk' ⟨e1, t9, e2⟩ F' N'; subst e1; subst e2); (try dsimp only); (try k_fold))
  unfold Does
  k_fill
  intro mean mg mb dp un gd cn cs a ccd cl outer A₀ base h₀ L m s Q E B F X N T hkd9 hdp9 hun9 hret
  refine wpAny_call ?_
  k_dflt (refine' code_defC ?ze1 ?ze2 ?ze3 ?ze4 ?ze5 ?zeA ?zeF ?zeK ?ze6 ?ze7 ?ze8 ?ze9 ?zeB ?zeD ?_ ?zc2 ?zc3 ?zc4; (case zeA => exact rfl); (case zeF => exact rfl); (case zeK => assumption); (case ze1 => k_asm); (case ze2 => k_asm); (case ze3 => k_asm); (case ze4 => k_asm); (case ze5 => k_asm); (case ze6 => k_is); (case ze7 => k_is); (case ze8 => ktr_room); (case ze9 => first | exact BindsTo.of_eq rfl | (refine' kp_binds ?zkx ?zke; (case zkx => k_in); (case zke => exact fun _ => rfl))); (case zeB => exact rfl); (case zeD => decide +kernel); (case zc2 => exact rfl); (case zc3 => exact rfl); (case zc4 => exact rfl); k_whole)
  intro g1 L1 h1 tk1 cells1 FG1 F1 N1 Y1 B1 X1 T1 l1
  (try k_lt l1)
  (try have lc1 := allLt_up l1)
  (try have lc2 := allLt_up lc1)
  (try have lc3 := allLt_up lc2)
  (try have lc4 := allLt_up lc3)
  (try have lc5 := allLt_up lc4)
  (try have lc6 := allLt_up lc5)
  k_cells Y1
  (try simp only [List.cons_append, List.nil_append] at N1)
  (try dsimp only)
  (try k_fold)
  k_steps
  refine comp_rest _ (fun j y => y = .bool (P (gap - (j : Int)).toNat)) trivial ?zelem ?zfin
  case zelem =>
    intro j v I2 oI2 C oC D ys m2 h2 tk2 E2 hj hv hC hx F7 N7
    obtain ⟨tv, rfl⟩ := hv
    k_steps
    refine celt (by rw [Int.zero_add]) (by assumption) (by assumption) (fun p hp => hp)
  case zfin =>
    intro ys hys
    obtain rfl : ys = bs1.map Value.bool := by rw [← hb1, List.map_map]; exact picks_map (fun i y h => h) hys
    clear hys
    k_steps
    refine comp_rest _ (fun j y => y = .bool (!P j)) trivial ?zelem2 ?zfin2
    case zelem2 =>
      intro j v I2 oI2 C oC D ys m2 h2 tk2 E2 hj hv hC hx F7 N7
      obtain ⟨tv, rfl⟩ := hv
      k_steps
      all_goals refine celt (by rw [Int.zero_add]; rfl) (by assumption) (by assumption) (fun p hp => hp)
    case zfin2 =>
      intro ys hys
      obtain rfl : ys = bs2.map Value.bool := by rw [← hb2, List.map_map]; exact picks_map (fun i y h => h) hys
      clear hys
      k_steps
      have hr1 : (readI (apB (numI bs1).natAbs) == numI bs1) = true := by rw [readI_apB, Int.natAbs_of_nonneg hk1]; simp
      have hr2 : (readI (apB (-numI bs2).natAbs) == numI bs2) = true := by rw [readI_apB, Int.natAbs_neg, Int.natAbs_of_nonneg hk2]; simp
      (rename News _ _ _ _ => NE)
      rw [hr1, hr2, Int.natAbs_neg] at NE
      exact hret _ _ _ _ ⟨_, _, _, rfl, rfl, of_allLt (by assumption)⟩ (by assumption) (drop2 (drop2 (drop2 (drop2 (drop2 (drop2 NE))))))

end
section
theorem apB_bytes : ∀ n : Nat, ∀ x ∈ apB n, 65 ≤ x.toNat ∧ x.toNat ≤ 80 := by
  intro n
  induction n using Nat.strongRecOn with
  | _ n ih =>
    by_cases h : n = 0
    · subst h; rw [apB_zero]; exact fun x hx => nomatch hx
    · rw [apB_pos h]
      intro x hx
      rcases List.mem_append.mp hx with hx | hx
      · exact ih (n / 16) (by omega) x hx
      · rw [List.mem_singleton.mp hx, UInt8.toNat_ofNat']
        omega
theorem ap_ok {bs : List Bool} {kw : List UInt8} (h : apB (numI bs).natAbs = kw) (hb : bs.length ≤ 80) : kw.toArray.size ≤ 100 ∧ ∀ x ∈ kw.toArray, 65 ≤ x.toNat ∧ x.toNat ≤ 80 := by
  subst h
  refine ⟨?_, fun x hx => apB_bytes _ x (by simpa using hx)⟩
  have := apB_len 20 _ (numI_small hb).2
  rw [List.size_toArray]
  omega

end
section
noncomputable def ptB (x y z : Int) : Bool := (List.range (z.fdiv (x.fdiv (Int.gcd x y)) + 1 - 0).toNat).any fun j => (z - (j : Int) * x.fdiv (Int.gcd x y)).fmod (y.fdiv (Int.gcd x y)) == 0
noncomputable def ptK (a b c : Int) : Nat → Bool
  | 0 => ptB c b a
  | 1 => ptB a c b
  | _ => ptB b a c
noncomputable def partedB (a b c : Int) : Bool := ptB c b a || ptB a c b || ptB b a c
theorem fdiv_in {x g : Int} (hx : 1 ≤ x) (hg : 1 ≤ g) (hgx : g ≤ x) : 1 ≤ x.fdiv g ∧ x.fdiv g ≤ x := by
  rw [Int.fdiv_eq_ediv_of_nonneg _ (by omega)]
  exact ⟨Int.le_ediv_of_mul_le (by omega) (by omega), Int.ediv_le_self _ (by omega)⟩
theorem pt_facts {x y z : Int} (hx : 1 ≤ x ∧ x ≤ 11) (hy : 1 ≤ y ∧ y ≤ 11) (hz : 1 ≤ z ∧ z ≤ 11) :
    1 ≤ x.fdiv (Int.gcd x y) ∧ x.fdiv (Int.gcd x y) ≤ 11 ∧ 1 ≤ y.fdiv (Int.gcd x y) ∧ y.fdiv (Int.gcd x y) ≤ 11 ∧ 0 ≤ z.fdiv (x.fdiv (Int.gcd x y)) ∧ z.fdiv (x.fdiv (Int.gcd x y)) ≤ 11 := by
  have h0 := Int.gcd_pos_of_ne_zero_left y (show x ≠ 0 by omega)
  have h1 : ((Int.gcd x y : Nat) : Int) ≤ x := Int.le_of_dvd (by omega) (Int.gcd_dvd_left ..)
  have h2 : ((Int.gcd x y : Nat) : Int) ≤ y := Int.le_of_dvd (by omega) (Int.gcd_dvd_right ..)
  have h3 := fdiv_in hx.1 (by omega) h1
  have h4 := fdiv_in hy.1 (by omega) h2
  refine ⟨h3.1, by omega, h4.1, by omega, Int.fdiv_nonneg (by omega) (by omega), ?_⟩
  rw [Int.fdiv_eq_ediv_of_nonneg z (by omega)]
  exact Int.le_trans (Int.ediv_le_self _ (by omega)) hz.2
theorem parted (w : World) (l : Addr) (vs : List Value) (ca cb cc : Int) (n : Nat) (news : Led) (hl : (l, listOf vs.toArray n) ∈ news) (hi : IntsAre vs [ca, cb, cc]) (ha : 1 ≤ ca ∧ ca ≤ 11) (hb : 1 ≤ cb ∧ cb ≤ 11) (hc : 1 ≤ cc ∧ cc ≤ 11) :
    Does w 140 [.ref l] news 22 (fun v nw => nw = news ∧ v = .bool (partedB ca cb cc)) := by
  obtain ⟨ta, tb, tc, rfl⟩ : ∃ ta tb tc, vs = [.int ca ta, .int cb tb, .int cc tc] := by
    cases hi with | cons _ ta hi => cases hi with | cons _ tb hi => cases hi with | cons _ tc hi => cases hi; exact ⟨ta, tb, tc, rfl⟩
  clear hi
  k_with_none
  w_top off
  k_with "my execs cons" => (k_here; (first | ((with_reducible refine execs_consT ?_); intro tkQ; (try dsimp only); k_fold) | ((with_reducible refine wpAny_execs_cons ?_); (try dsimp only); k_fold)))
  k_with "my call ref" => (k_here; (with_reducible show wpAny _ _ (call (Value.ref 128) [Value.int _ _, Value.int _ _] _) _ _ _); (k_dflt (refine' does_use (common _ _ _ _ _ _ ?mchx ?mchy) ?mck1 ?mck2 ?mck3 ?mck4 ?mck5 ?mckK ?mckd ?mcku ?_)); (case mck1 => k_asm); (case mck2 => k_asm); (case mck3 => k_asm); (case mck4 => k_asm); (case mck5 => k_asm); (case mckK => first | exact rfl | assumption); (case mchx => first | omega | assumption | (k_fmods; omega)); (case mchy => first | omega | assumption | (k_fmods; omega)); (case mckd => ktr_room); (case mcku => ktr_units); (rintro _ _ h' tk' ⟨e1, ⟨hg9, hg8⟩, t9, e2⟩ F' N'; subst e1; subst e2); (try dsimp only); (try k_fold))
  k_with "my subscriptTail Name Slice ref ref" => (k_here; (with_reducible show wpAny _ _ (subscriptTail _ (PySem.Expr.Slice _ _ (some _) _) (Value.ref _) (Value.ref _)) _ _ _); k_dflt (refine' slice3_ints ?msF ?msN ?msl ?msi ?msp ?msq ?msk ?mso ?_ ?mss ?mst ?msz; (case msF => k_asm); (case msN => k_asm); (case msl => kmk_list); (case msi => assumption); (case msp => kmk_part); (case msq => kmk_part); (case msk => kmk_part); (case mso => decide); (case mss => with_unfolding_all rfl); (case mst => kmk_pure); (case msz => kmk_size)); intro D' h' ws' ks' F' N' l1 hks'; (try k_lt l1); (try k_sweep))
  k_with "my binaryOp FloorDiv int int" => (k_here; (try k_fmods); (with_reducible refine' floordiv_int ?mfb ?_ (Or.inl (PyProof.noPylong_small ?mfs)); (case mfb => omega); (case mfs => omega)))
  k_with "my exec For Name Call cons nil" => (k_here; (with_unfolding_all refine' For_turns (by k_asm) ?_); k_whole)
  k_with "my exec For Name Name cons nil" => (k_here; (with_unfolding_all refine' For_turns (by k_asm) ?_); k_whole)
  k_with "my eval ListComp" => (k_here; lct_look; k_dflt (refine LCt.ListComp_T (F₀ := by k_asm) (by with_unfolding_all rfl) (by decide) (by rfl) (by decide) (by rfl) ?_))
  k_with "my eval ListComp" => (k_here; (first | lcg_look | lcf_look); k_dflt (refine LCg.ListComp_U (F₀ := by k_asm) (by with_unfolding_all rfl) (by decide) (by rfl) (by decide) (by rfl) ?_))
  k_with "my exec Assign cons ListComp" => (k_here; lct_look; k_dflt (refine LCt.Assign_ListComp_T (F₀ := by k_asm) (by rfl) (by with_unfolding_all rfl) (by with_unfolding_all rfl) (by decide) (by rfl) (by decide) (by rfl) (by rfl) (by rfl) ?_))
  k_with "my exec Assign cons ListComp" => (k_here; (first | lcg_look | lcf_look); k_dflt (refine LCg.Assign_ListComp_U (F₀ := by k_asm) (by rfl) (by with_unfolding_all rfl) (by with_unfolding_all rfl) (by decide) (by rfl) (by decide) (by rfl) (by rfl) (by rfl) ?_))
  k_with "my CompSrcT" => (k_here; k_dflt (first
  | (refine LCt.CompSrcT.ledger (by rfl) (by k_asm) (by k_asm) (by k_mem) (by first | kmk_size | (simp only [List.size_toArray, List.length_map, List.length_range, sizeLine_eq]; omega)) ?_; intro g')
  | (refine LCt.CompSrcT.range (by rfl) (by k_asm) (by k_asm) (by assumption) (by exact small_one (by omega) (by omega) (by omega) (by omega)) (by exact rangeSize_nat _ _) (by rw [sizeLine_eq]; omega) ?_; intro g')))
  k_with "my CompSrc" => (k_here; k_dflt (first
  | (refine LCg.CompSrc.ledger (by rfl) (by k_asm) (by k_asm) (by k_mem) (by first | kmk_size | (simp only [List.size_toArray, List.length_map, List.length_range, sizeLine_eq]; omega)) ?_; intro g')
  | (refine LCg.CompSrc.range (by rfl) (by k_asm) (by k_asm) (by assumption) (by exact small_one (by omega) (by omega) (by omega) (by omega)) (by exact rangeSize_nat _ _) (by rw [sizeLine_eq]; omega) ?_; intro g')))
  k_with "my CompRestT" => k_extra "comp"
  k_with "my CompRest" => k_extra "comp"
  k_with "my pyIter ref" => k_extra "loop"
  k_with "my subscriptTail" => (k_here; (with_reducible show wpAny _ _ (subscriptTail _ _ (Value.ref _) (Value.int _ _)) _ _ _); k_dflt (refine' item_bools ?mbl ?mb0 ?mb1 ?mbn ?_ ?mbs; (case mbl => exact News.isList (by k_asm) (by k_mem)); (case mb0 => omega); (case mb1 => omega); (case mbn => omega); (case mbs => with_unfolding_all rfl)))
  k_with "my compareOp Eq ref ref" => (k_here; (with_reducible show wpAny _ _ (compareOp CmpOp.Eq (Value.ref _) (Value.ref _)) _ _ _); (with_unfolding_all refine' eq_intsK ?mq1 ?mq2 ?mq3 ?mq4 ?mq5 ?_; (case mq1 => is_list); (case mq2 => l_intsC); (case mq3 => is_list); (case mq4 => l_intsC); (case mq5 => ktr_units); k_whole))
  k_with "my compareOp NotEq ref ref" => (k_here; (with_reducible show wpAny _ _ (compareOp CmpOp.NotEq (Value.ref _) (Value.ref _)) _ _ _); (with_unfolding_all refine' ne_intsK ?mq1 ?mq2 ?mq3 ?mq4 ?mq5 ?_; (case mq1 => is_list); (case mq2 => l_intsC); (case mq3 => is_list); (case mq4 => l_intsC); (case mq5 => ktr_units); k_whole))
  k_with "my exec For Name Attribute cons nil" => (k_here; (with_unfolding_all refine' For_turns (by k_asm) ?_); k_whole)
  k_with "my subscriptTail" => (k_here; (with_reducible show wpAny _ _ (subscriptTail _ _ (Value.ref _) (Value.int _ _)) _ _ _); (with_unfolding_all refine' item_litK ?mi1 ?mi2 ?mi3 ?mi4 ?_ ?mi6; (case mi1 => is_list); (case mi2 => decide); (case mi3 => decide); (case mi4 => rfl); (case mi6 => with_unfolding_all rfl); k_whole))
  k_with "my subscriptTail Name Name ref int" => (k_here; (with_reducible show wpAny _ _ (subscriptTail _ _ (Value.ref _) (Value.int _ _)) _ _ _); (with_unfolding_all refine' item_litK ?mi1 ?mi2 ?mi3 ?mi4 ?_ ?mi6; (case mi1 => is_list); (case mi2 => decide); (case mi3 => decide); (case mi4 => rfl); (case mi6 => with_unfolding_all rfl); k_whole))
  k_with "my subscriptTail Name BinOp ref int" => (k_here; (with_reducible show wpAny _ _ (subscriptTail _ _ (Value.ref _) (Value.int _ _)) _ _ _); (with_unfolding_all refine' item_litK ?mi1 ?mi2 ?mi3 ?mi4 ?_ ?mi6; (case mi1 => is_list); (case mi2 => decide); (case mi3 => decide); (case mi4 => rfl); (case mi6 => with_unfolding_all rfl); k_whole))
  unfold Does
  k_fill
  intro mean mg mb dp un gd cn cs a ccd cl outer A₀ base h₀ L m s Q E B F X N T hkd9 hdp9 hun9 hret
  refine wpAny_call ?_
  k_dflt (refine' code_defC ?ze1 ?ze2 ?ze3 ?ze4 ?ze5 ?zeA ?zeF ?zeK ?ze6 ?ze7 ?ze8 ?ze9 ?zeB ?zeD ?_ ?zc2 ?zc3 ?zc4; (case zeA => exact rfl); (case zeF => exact rfl); (case zeK => assumption); (case ze1 => k_asm); (case ze2 => k_asm); (case ze3 => k_asm); (case ze4 => k_asm); (case ze5 => k_asm); (case ze6 => k_is); (case ze7 => k_is); (case ze8 => ktr_room); (case ze9 => first | exact BindsTo.of_eq rfl | (refine' kp_binds ?zkx ?zke; (case zkx => k_in); (case zke => exact fun _ => rfl))); (case zeB => exact rfl); (case zeD => decide +kernel); (case zc2 => exact rfl); (case zc3 => exact rfl); (case zc4 => exact rfl); k_whole)
  intro g1 L1 h1 tk1 cells1 FG1 F1 N1 Y1 B1 X1 T1 l1
  (try k_lt l1)
  (try have lc1 := allLt_up l1)
  (try have lc2 := allLt_up lc1)
  (try have lc3 := allLt_up lc2)
  (try have lc4 := allLt_up lc3)
  (try have lc5 := allLt_up lc4)
  (try have lc6 := allLt_up lc5)
  k_cells Y1
  (try simp only [List.cons_append, List.nil_append] at N1)
  (try dsimp only)
  (try k_fold)
  k_steps
  rename IsRange _ _ _ _ _ _ _ _ => rgX
  refine' loop_range (fun i m' nw => (∀ j < i, ptK ca cb cc j = false) ∧ ∃ o1 o2 o3 o4 v2 v3 v4, nw = ((L1 + (1 : Addr) + (1 : Addr) + (1 : Addr) + (1 : Addr)), o4) :: ((L1 + (1 : Addr) + (1 : Addr) + (1 : Addr)), o3) :: ((L1 + (1 : Addr) + (1 : Addr)), o2) :: ((L1 + (1 : Addr)), o1) :: news ∧ o1.data = .cell (some (.ref l)) ∧ o2.data = .cell v2 ∧ o3.data = .cell v3 ∧ o4.data = .cell v4) ?zlh ?zlF ?zlN rgX ?zls ?zln ?zl0 ?zlt ?zld
  case zlh => rfl
  case zlF => k_asm
  case zlN => k_asm
  case zls => decide
  case zln => exact rangeSize_nat _ _
  case zl0 => exact ⟨fun j hj => absurd hj (Nat.not_lt_zero _), _, _, _, _, _, _, _, rfl, by assumption, by assumption, by assumption, by assumption⟩
  case zlt =>
    intro I o i k t' m' nw h tk hI hlt hk ha' hJ F9 N9
    obtain ⟨hno, o1, o2, o3, o4, v2, v3, v4, rfl, ho1, ho2, ho3, ho4⟩ := hJ
    clear ha'
    (try k_lt hI)
    have hlt3 : i < 3 := hlt
    clear hlt
    obtain rfl | rfl | rfl : i = 0 ∨ i = 1 ∨ i = 2 := by omega
    · obtain rfl : k = 0 := by omega
      obtain ⟨hx1, hx2, hy1, hy2, hz1, hz2⟩ := pt_facts hc hb ha
      (try k_fold)
      k_steps
      refine comp_restT _ (fun j => (ca - (j : Int) * cc.fdiv (Int.gcd cc cb)).fmod (cb.fdiv (Int.gcd cc cb)) == 0) (fun j y => ∃ t, y = .int (j : Int) t) trivial ?ztest ?zelem ?zfin
      case ztest =>
        intro j v I2 oI2 C oC D ys m2 h2 tk2 E2 hj hv hC hx F7 N7
        obtain ⟨tv, rfl⟩ := hv
        k_steps
        refine ctest (by rw [Int.zero_add]) (by assumption) (by assumption) (fun p hp => hp)
      case zelem =>
        intro j v I2 oI2 C oC D ys m2 h2 tk2 E2 hj hp hv hC hx F7 N7
        obtain ⟨tv, rfl⟩ := hv
        k_steps
        refine celt ⟨tv, by rw [Int.zero_add]⟩ (by assumption) (by assumption) (fun p hp => hp)
      case zfin =>
        intro ys hys
        have hI := picks_ints (fun _ _ h => h) hys
        clear hys
        k_steps
        · rename decide _ = true => hq
          rw [nil_any] at hq
          have hq2 : ptB cc cb ca = false := by simpa [ptB] using hq
          (rename News _ _ _ _ => NE)
          show TEnd _ _ _ _ _ _ _ _
          refine tend _ (by assumption) NE (by k_mem) (fun p hp => List.mem_cons_of_mem _ (List.mem_cons_of_mem _ (List.mem_cons_of_mem _ hp))) rfl ⟨?_, _, _, _, _, _, _, _, rfl, by assumption, by assumption, by assumption, by assumption⟩
          intro j hj
          rcases Nat.lt_succ_iff_lt_or_eq.mp hj with h | h
          · exact hno j h
          · subst h; exact hq2
        · rename decide _ = false => hq
          rw [nil_any] at hq
          have hq2 : ptB cc cb ca = true := by simpa [ptB] using hq
          dsimp only [TPost]
          k_steps
          refine hret _ _ _ _ ⟨rfl, ?_⟩ (by assumption) (cb_drop (by assumption) (fun p hp => by simp [hp]))
          rw [partedB, hq2]
          simp
    · obtain rfl : k = 1 := by omega
      obtain ⟨hx1, hx2, hy1, hy2, hz1, hz2⟩ := pt_facts ha hc hb
      (try k_fold)
      k_steps
      refine comp_restT _ (fun j => (cb - (j : Int) * ca.fdiv (Int.gcd ca cc)).fmod (cc.fdiv (Int.gcd ca cc)) == 0) (fun j y => ∃ t, y = .int (j : Int) t) trivial ?ztest ?zelem ?zfin
      case ztest =>
        intro j v I2 oI2 C oC D ys m2 h2 tk2 E2 hj hv hC hx F7 N7
        obtain ⟨tv, rfl⟩ := hv
        k_steps
        refine ctest (by rw [Int.zero_add]) (by assumption) (by assumption) (fun p hp => hp)
      case zelem =>
        intro j v I2 oI2 C oC D ys m2 h2 tk2 E2 hj hp hv hC hx F7 N7
        obtain ⟨tv, rfl⟩ := hv
        k_steps
        refine celt ⟨tv, by rw [Int.zero_add]⟩ (by assumption) (by assumption) (fun p hp => hp)
      case zfin =>
        intro ys hys
        have hI := picks_ints (fun _ _ h => h) hys
        clear hys
        k_steps
        · rename decide _ = true => hq
          rw [nil_any] at hq
          have hq2 : ptB ca cc cb = false := by simpa [ptB] using hq
          (rename News _ _ _ _ => NE)
          show TEnd _ _ _ _ _ _ _ _
          refine tend _ (by assumption) NE (by k_mem) (fun p hp => List.mem_cons_of_mem _ (List.mem_cons_of_mem _ (List.mem_cons_of_mem _ hp))) rfl ⟨?_, _, _, _, _, _, _, _, rfl, by assumption, by assumption, by assumption, by assumption⟩
          intro j hj
          rcases Nat.lt_succ_iff_lt_or_eq.mp hj with h | h
          · exact hno j h
          · subst h; exact hq2
        · rename decide _ = false => hq
          rw [nil_any] at hq
          have hq2 : ptB ca cc cb = true := by simpa [ptB] using hq
          dsimp only [TPost]
          k_steps
          refine hret _ _ _ _ ⟨rfl, ?_⟩ (by assumption) (cb_drop (by assumption) (fun p hp => by simp [hp]))
          rw [partedB, hq2]
          simp
    · obtain rfl : k = 2 := by omega
      obtain ⟨hx1, hx2, hy1, hy2, hz1, hz2⟩ := pt_facts hb ha hc
      (try k_fold)
      k_steps
      refine comp_restT _ (fun j => (cc - (j : Int) * cb.fdiv (Int.gcd cb ca)).fmod (ca.fdiv (Int.gcd cb ca)) == 0) (fun j y => ∃ t, y = .int (j : Int) t) trivial ?ztest ?zelem ?zfin
      case ztest =>
        intro j v I2 oI2 C oC D ys m2 h2 tk2 E2 hj hv hC hx F7 N7
        obtain ⟨tv, rfl⟩ := hv
        k_steps
        refine ctest (by rw [Int.zero_add]) (by assumption) (by assumption) (fun p hp => hp)
      case zelem =>
        intro j v I2 oI2 C oC D ys m2 h2 tk2 E2 hj hp hv hC hx F7 N7
        obtain ⟨tv, rfl⟩ := hv
        k_steps
        refine celt ⟨tv, by rw [Int.zero_add]⟩ (by assumption) (by assumption) (fun p hp => hp)
      case zfin =>
        intro ys hys
        have hI := picks_ints (fun _ _ h => h) hys
        clear hys
        k_steps
        · rename decide _ = true => hq
          rw [nil_any] at hq
          have hq2 : ptB cb ca cc = false := by simpa [ptB] using hq
          (rename News _ _ _ _ => NE)
          show TEnd _ _ _ _ _ _ _ _
          refine tend _ (by assumption) NE (by k_mem) (fun p hp => List.mem_cons_of_mem _ (List.mem_cons_of_mem _ (List.mem_cons_of_mem _ hp))) rfl ⟨?_, _, _, _, _, _, _, _, rfl, by assumption, by assumption, by assumption, by assumption⟩
          intro j hj
          rcases Nat.lt_succ_iff_lt_or_eq.mp hj with h | h
          · exact hno j h
          · subst h; exact hq2
        · rename decide _ = false => hq
          rw [nil_any] at hq
          have hq2 : ptB cb ca cc = true := by simpa [ptB] using hq
          dsimp only [TPost]
          k_steps
          refine hret _ _ _ _ ⟨rfl, ?_⟩ (by assumption) (cb_drop (by assumption) (fun p hp => by simp [hp]))
          rw [partedB, hq2]
          simp
  case zld =>
    intro m' nw h tk hJ F9 N9
    obtain ⟨hno, o1, o2, o3, o4, v2, v3, v4, rfl, ho1, ho2, ho3, ho4⟩ := hJ
    k_steps
    have e0 := hno 0 (by decide)
    have e1 := hno 1 (by decide)
    have e2 := hno 2 (by decide)
    simp only [ptK] at e0 e1 e2
    refine hret _ _ _ _ ⟨rfl, ?_⟩ (by assumption) (cb_drop (by assumption) (fun p hp => by simp [hp]))
    rw [partedB, e0, e1, e2]
    rfl

end
section
noncomputable def ilS (c : List Int) (ts : Int) (k : Nat) : Int := (List.range k).foldl (fun (a : Int) (i : Nat) => a + Int.fdiv (ts + (i : Int)) ts * c.getD (ts + (i : Int)).toNat 0) 0
theorem ilS_succ (c : List Int) (ts : Int) (k : Nat) : ilS c ts (k + 1) = ilS c ts k + Int.fdiv (ts + (k : Int)) ts * c.getD (ts + (k : Int)).toNat 0 := by
  unfold ilS
  rw [List.range_succ, List.foldl_append]
  rfl
theorem len_tupI {prog : Program} {w : World} {A : Around} {E : Value → Shared → Prop} {s : Shared} {h₀ : Heap} {L l : Addr} {news : Led} {vs : List Value} {ns : List Int} {Q : Value → Shared → Prop} (N : News h₀ L s.heap news) (hm : (l, ({ cls := .type "tuple", data := .seq vs.toArray } : Obj)) ∈ news) (hi : IntsAre vs ns) (hz : ns.length ≤ 16384)
    (h : Q (.int (ns.length : Nat) (s.toks + 1)) { s with toks := s.toks + 1 + 1 }) : wpAny (model prog w) A (call (.builtin "len") [.ref l]) Q E s :=
  kun_lenT (N.isTup hm) (by rw [List.size_toArray, hi.length]) (by omega) h
theorem indent (w : World) (x d D D' : Addr) (cv : List Value) (st : WsSt) (X : Str) (t0 k0 k1 k2 k3 k4 tb tn tt : Tok) (sb : Bool) (ts : Int) (t : Tok) (news : Led)
    (hx : (x, instObj 117 d) ∈ news) (hd : (d, dictOf [{ hash := PyData.keyHash w.params (Str.ofString "raw"), key := .str (Str.ofString "raw") k0, val := .str X t0 },
        { hash := PyData.keyHash w.params (Str.ofString "n"), key := .str (Str.ofString "n") k1, val := .int (st.n : Nat) tn },
        { hash := PyData.keyHash w.params (Str.ofString "nt"), key := .str (Str.ofString "nt") k2, val := .int (st.nt : Nat) tt },
        { hash := PyData.keyHash w.params (Str.ofString "norm"), key := .str (Str.ofString "norm") k3, val := .ref D' },
        { hash := PyData.keyHash w.params (Str.ofString "is_simple"), key := .str (Str.ofString "is_simple") k4, val := .bool sb }] 5) ∈ news)
    (hD' : (D', { cls := .type "tuple", data := .seq #[.ref D, .int (st.b : Nat) tb] }) ∈ news) (hD : (D, { cls := .type "tuple", data := .seq cv.toArray }) ∈ news)
    (hi : IntsAre cv st.c) (hn : st.c.length ≤ 600) (hts : 1 ≤ ts ∧ ts ≤ 77) :
    Does w 86 [.ref x, .int ts t] news 20 (fun v nw => nw = news ∧ ∃ t, v = .int (st.b + ts * (ilS st.c ts ((st.c.length : Int) - ts).toNat + st.nt)) t) := by
  k_with_none
  w_top off
  k_with "my execs cons" => (k_here; (first | ((with_reducible refine execs_consT ?_); intro tkQ; (try dsimp only); k_fold) | ((with_reducible refine wpAny_execs_cons ?_); (try dsimp only); k_fold)))
  k_with "my call ref" => (k_here; (with_reducible show wpAny _ _ (call (Value.ref 128) [Value.int _ _, Value.int _ _] _) _ _ _); (k_dflt (refine' does_use (common _ _ _ _ _ _ ?mchx ?mchy) ?mck1 ?mck2 ?mck3 ?mck4 ?mck5 ?mckK ?mckd ?mcku ?_)); (case mck1 => k_asm); (case mck2 => k_asm); (case mck3 => k_asm); (case mck4 => k_asm); (case mck5 => k_asm); (case mckK => first | exact rfl | assumption); (case mchx => first | omega | assumption | (k_fmods; omega)); (case mchy => first | omega | assumption | (k_fmods; omega)); (case mckd => ktr_room); (case mcku => ktr_units); (rintro _ _ h' tk' ⟨e1, ⟨hg9, hg8⟩, t9, e2⟩ F' N'; subst e1; subst e2); (try dsimp only); (try k_fold))
  k_with "my subscriptTail Name Slice ref ref" => (k_here; (with_reducible show wpAny _ _ (subscriptTail _ (PySem.Expr.Slice _ _ (some _) _) (Value.ref _) (Value.ref _)) _ _ _); k_dflt (refine' slice3_ints ?msF ?msN ?msl ?msi ?msp ?msq ?msk ?mso ?_ ?mss ?mst ?msz; (case msF => k_asm); (case msN => k_asm); (case msl => kmk_list); (case msi => assumption); (case msp => kmk_part); (case msq => kmk_part); (case msk => kmk_part); (case mso => decide); (case mss => with_unfolding_all rfl); (case mst => kmk_pure); (case msz => kmk_size)); intro D' h' ws' ks' F' N' l1 hks'; (try k_lt l1); (try k_sweep))
  k_with "my binaryOp FloorDiv int int" => (k_here; (try k_fmods); (with_reducible refine' floordiv_int ?mfb ?_ (Or.inl (PyProof.noPylong_small ?mfs)); (case mfb => omega); (case mfs => omega)))
  k_with "my exec For Name Call cons nil" => (k_here; (with_unfolding_all refine' For_turns (by k_asm) ?_); k_whole)
  k_with "my exec For Name Name cons nil" => (k_here; (with_unfolding_all refine' For_turns (by k_asm) ?_); k_whole)
  k_with "my eval ListComp" => (k_here; lct_look; k_dflt (refine LCt.ListComp_T (F₀ := by k_asm) (by with_unfolding_all rfl) (by decide) (by rfl) (by decide) (by rfl) ?_))
  k_with "my eval ListComp" => (k_here; (first | lcg_look | lcf_look); k_dflt (refine LCg.ListComp_U (F₀ := by k_asm) (by with_unfolding_all rfl) (by decide) (by rfl) (by decide) (by rfl) ?_))
  k_with "my exec Assign cons ListComp" => (k_here; lct_look; k_dflt (refine LCt.Assign_ListComp_T (F₀ := by k_asm) (by rfl) (by with_unfolding_all rfl) (by with_unfolding_all rfl) (by decide) (by rfl) (by decide) (by rfl) (by rfl) (by rfl) ?_))
  k_with "my exec Assign cons ListComp" => (k_here; (first | lcg_look | lcf_look); k_dflt (refine LCg.Assign_ListComp_U (F₀ := by k_asm) (by rfl) (by with_unfolding_all rfl) (by with_unfolding_all rfl) (by decide) (by rfl) (by decide) (by rfl) (by rfl) (by rfl) ?_))
  k_with "my CompSrcT" => (k_here; k_dflt (first
  | (refine LCt.CompSrcT.ledger (by rfl) (by k_asm) (by k_asm) (by k_mem) (by first | kmk_size | (simp only [List.size_toArray, List.length_map, List.length_range, sizeLine_eq]; omega)) ?_; intro g')
  | (refine LCt.CompSrcT.range (by rfl) (by k_asm) (by k_asm) (by assumption) (by exact small_one (by omega) (by omega) (by omega) (by omega)) (by exact rangeSize_nat _ _) (by rw [sizeLine_eq]; omega) ?_; intro g')))
  k_with "my CompSrc" => (k_here; k_dflt (first
  | (refine LCg.CompSrc.ledger (by rfl) (by k_asm) (by k_asm) (by k_mem) (by first | kmk_size | (simp only [List.size_toArray, List.length_map, List.length_range, sizeLine_eq]; omega)) ?_; intro g')
  | (refine LCg.CompSrc.range (by rfl) (by k_asm) (by k_asm) (by assumption) (by exact small_one (by omega) (by omega) (by omega) (by omega)) (by exact rangeSize_nat _ _) (by rw [sizeLine_eq]; omega) ?_; intro g')))
  k_with "my CompRestT" => k_extra "comp"
  k_with "my CompRest" => k_extra "comp"
  k_with "my pyIter ref" => k_extra "loop"
  k_with "my subscriptTail" => (k_here; (with_reducible show wpAny _ _ (subscriptTail _ _ (Value.ref _) (Value.int _ _)) _ _ _); k_dflt (refine' item_bools ?mbl ?mb0 ?mb1 ?mbn ?_ ?mbs; (case mbl => exact News.isList (by k_asm) (by k_mem)); (case mb0 => omega); (case mb1 => omega); (case mbn => omega); (case mbs => with_unfolding_all rfl)))
  k_with "my compareOp Eq ref ref" => (k_here; (with_reducible show wpAny _ _ (compareOp CmpOp.Eq (Value.ref _) (Value.ref _)) _ _ _); (with_unfolding_all refine' eq_intsK ?mq1 ?mq2 ?mq3 ?mq4 ?mq5 ?_; (case mq1 => is_list); (case mq2 => l_intsC); (case mq3 => is_list); (case mq4 => l_intsC); (case mq5 => ktr_units); k_whole))
  k_with "my compareOp NotEq ref ref" => (k_here; (with_reducible show wpAny _ _ (compareOp CmpOp.NotEq (Value.ref _) (Value.ref _)) _ _ _); (with_unfolding_all refine' ne_intsK ?mq1 ?mq2 ?mq3 ?mq4 ?mq5 ?_; (case mq1 => is_list); (case mq2 => l_intsC); (case mq3 => is_list); (case mq4 => l_intsC); (case mq5 => ktr_units); k_whole))
  k_with "my exec For Name Attribute cons nil" => (k_here; (with_unfolding_all refine' For_turns (by k_asm) ?_); k_whole)
  k_with "my call builtin:len" => (k_here; (with_reducible show wpAny _ _ (call (Value.builtin "len") [Value.ref _]) _ _ _); k_dflt (refine' len_tupI ?k1 ?k2 ?k3 ?k4 ?_; (case k1 => k_asm); (case k2 => k_mem); (case k3 => assumption); (case k4 => omega); k_whole))
  k_with "my subscriptTail" => (k_here; (with_reducible show wpAny _ _ (subscriptTail _ _ (Value.ref _) (Value.int _ _)) _ _ _); (with_unfolding_all refine' item_anyT ?k1 ?k2 ?k3 ?k4 ?k5 ?_; (case k1 => exact News.isTup (by k_asm) (by k_mem)); (case k2 => assumption); (case k3 => omega); (case k4 => omega); (case k5 => omega); k_whole); intro _)
  unfold Does
  k_fill
  intro mean mg mb dp un gd cn cs a ccd cl outer A₀ base h₀ L m s Q E B F X N T hkd9 hdp9 hun9 hret
  refine wpAny_call ?_
  k_dflt (refine' code_def ?ze1 ?ze2 ?ze3 ?ze4 ?ze5 ?zeA ?zeF ?zeK ?ze6 ?ze7 ?ze8 ?ze9 ?zeB ?_ ?zc2 ?zc3 ?zc4 ?zc5; (case zeA => exact rfl); (case zeF => exact rfl); (case zeK => assumption); (case ze1 => k_asm); (case ze2 => k_asm); (case ze3 => k_asm); (case ze4 => k_asm); (case ze5 => k_asm); (case ze6 => k_is); (case ze7 => k_is); (case ze8 => ktr_room); (case ze9 => first | exact BindsTo.of_eq rfl | (refine' kp_binds ?zkx ?zke; (case zkx => k_in); (case zke => exact fun _ => rfl))); (case zc5 => decide); (case zeB => exact locs rfl); (case zc2 => exact rfl); (case zc3 => exact rfl); (case zc4 => exact rfl); k_whole)
  intro g1 L1 h1 FG1 F1 N1 B1 X1 T1
  (try dsimp only)
  (try k_fold)
  (replace F1 : Fr _ _ _ (fun z9 => List.lookup z9 [(Str.ofString "tabsize", Value.int ts t), (Str.ofString "self", Value.ref x)]) := F1)
  k_steps
  rename IsRange _ _ _ _ _ _ _ _ => rgX
  refine' loop_range (fun i m' nw => nw = news ∧ m' (Str.ofString "self") = some (.ref x) ∧ m' (Str.ofString "tabsize") = some (.int ts t) ∧ m' (Str.ofString "count") = some (.ref D) ∧ m' (Str.ofString "trailing") = some (.int (st.b : Nat) tb) ∧ ∃ ti, m' (Str.ofString "il") = some (.int (ilS st.c ts i) ti)) ?zlh ?zlF ?zlN rgX ?zls ?zln ?zl0 ?zlt ?zld
  case zlh => rfl
  case zlF => k_asm
  case zlN => k_asm
  case zls => exact small_one (by omega) (by omega) (by omega) (by omega)
  case zln => exact rangeSize_nat _ _
  case zl0 => exact ⟨rfl, rfl, rfl, rfl, rfl, _, rfl⟩
  case zlt =>
    intro I o i k t' m' nw h tk hI hlt hk ha hJ F9 N9
    obtain ⟨rfl, hm1, hm2, hm3, hm4, ti, hm5⟩ := hJ
    have F8 := fr_known [(Str.ofString "self", Value.ref x), (Str.ofString "tabsize", .int ts t), (Str.ofString "count", .ref D), (Str.ofString "trailing", .int (st.b : Nat) tb), (Str.ofString "il", .int (ilS st.c ts i) ti)]
      (List.forall_mem_cons.mpr ⟨hm1, List.forall_mem_cons.mpr ⟨hm2, List.forall_mem_cons.mpr ⟨hm3, List.forall_mem_cons.mpr ⟨hm4, List.forall_mem_cons.mpr ⟨hm5, List.forall_mem_nil _⟩⟩⟩⟩⟩) F9
    dsimp only [kstB] at F8
    clear F9 hm1 hm2 hm3 hm4 hm5
    (try k_lt hI)
    (try k_fold)
    have hq0 := Int.fdiv_eq_ediv_of_nonneg k (show 0 ≤ ts by omega)
    have hq1 : 0 ≤ k.fdiv ts := by rw [hq0]; exact Int.ediv_nonneg (by omega) (by omega)
    have hq2 : k.fdiv ts ≤ 700 := by rw [hq0]; exact Int.le_trans (Int.ediv_le_self _ (by omega)) (by omega)
    clear hq0
    k_steps
    (rename News _ _ _ _ => NE)
    subst hk
    show TEnd _ _ _ _ _ _ _ _
    exact tend _ (by assumption) NE (by k_mem) (fun p hp => List.mem_cons_of_mem _ hp) rfl ⟨rfl, rfl, rfl, rfl, rfl, _, Eq.trans (b := some (Value.int (ilS st.c ts i + Int.fdiv (ts + (i : Int)) ts * st.c.getD (ts + (i : Int)).toNat 0) _)) rfl (by rw [ilS_succ])⟩
  case zld =>
    intro m' nw h tk hJ F9 N9
    obtain ⟨rfl, hm1, hm2, hm3, hm4, ti, hm5⟩ := hJ
    have F8 := fr_known [(Str.ofString "self", Value.ref x), (Str.ofString "tabsize", .int ts t), (Str.ofString "count", .ref D), (Str.ofString "trailing", .int (st.b : Nat) tb), (Str.ofString "il", .int (ilS st.c ts ((st.c.length : Int) - ts).toNat) ti)]
      (List.forall_mem_cons.mpr ⟨hm1, List.forall_mem_cons.mpr ⟨hm2, List.forall_mem_cons.mpr ⟨hm3, List.forall_mem_cons.mpr ⟨hm4, List.forall_mem_cons.mpr ⟨hm5, List.forall_mem_nil _⟩⟩⟩⟩⟩) F9
    dsimp only [kstB] at F8
    clear F9 hm1 hm2 hm3 hm4 hm5
    k_steps
    exact hret _ _ _ _ ⟨rfl, _, rfl⟩ (by assumption) (by assumption)

end
section
theorem ints_at {vs : List Value} {c : List Int} (hi : IntsAre vs c) (j : Nat) (h : j < vs.toArray.size) : ∃ t, vs.toArray[j] = .int (c.getD j 0) t := by
  have hj : j < vs.length := by simpa using h
  have hl : j < c.length := hi.length ▸ hj
  obtain ⟨t, ht⟩ := hi.get j c[j] (List.getElem?_eq_getElem hl)
  refine ⟨t, ?_⟩
  have h1 : vs[j]? = some vs.toArray[j] := by rw [List.getElem?_eq_getElem hj]; simp
  rw [h1] at ht
  rw [show c.getD j 0 = c[j] by simp [hl]]
  exact Option.some.inj ht
theorem all_eq {c1 c2 : List Int} : ((List.range (min c1.length c2.length)).all (fun j => c1.getD j 0 == c2.getD j 0) && c1.length == c2.length) = decide (c1 = c2) := by
  rw [Bool.eq_iff_iff, Bool.and_eq_true, List.all_eq_true, beq_iff_eq, decide_eq_true_iff]
  constructor
  · rintro ⟨h1, h2⟩
    refine List.ext_getElem h2 fun i a b => ?_
    have := h1 i (by simp; omega)
    simpa [a, b] using this
  · rintro rfl
    exact ⟨fun j _ => beq_self_eq_true _, rfl⟩
theorem ints_same {vs : List Value} {c1 c2 : List Int} (h1 : IntsAre vs c1) (h2 : IntsAre vs c2) : c1 = c2 := by
  refine List.ext_getElem (by rw [← h1.length, ← h2.length]) fun i a b => ?_
  obtain ⟨t, e1⟩ := h1.get i c1[i] (List.getElem?_eq_getElem a)
  obtain ⟨u, e2⟩ := h2.get i c2[i] (List.getElem?_eq_getElem b)
  rw [e1] at e2
  have := Option.some.inj e2
  injection this
theorem rcAt_tupI {A : Around} {s : Shared} {D1 D2 : Addr} {v1 v2 : List Value} {c1 c2 : List Int} (h1 : s.heap.IsTuple D1 v1.toArray) (h2 : s.heap.IsTuple D2 v2.toArray) (i1 : IntsAre v1 c1) (i2 : IntsAre v2 c2) (hu : A.units < cLine) :
    SeqAt.RcAt A s (.ref D1) (.ref D2) (decide (c1 = c2)) := by
  have := SeqAt.RcAt.tuples (e := fun j => c1.getD j 0 == c2.getD j 0) h1 h2 hu (fun j a b => by
    obtain ⟨t, e1⟩ := ints_at i1 j a
    obtain ⟨u, e2⟩ := ints_at i2 j b
    rw [e1, e2]
    exact SeqAt.EqAt.int_int _ _ _ _)
  rw [List.size_toArray, List.size_toArray, i1.length, i2.length, all_eq] at this
  exact this
theorem eqAt_tupI {A : Around} {s : Shared} {D1 D2 : Addr} {v1 v2 : List Value} {c1 c2 : List Int} (h1 : s.heap.IsTuple D1 v1.toArray) (h2 : s.heap.IsTuple D2 v2.toArray) (i1 : IntsAre v1 c1) (i2 : IntsAre v2 c2) (hu : A.units < cLine) :
    SeqAt.EqAt A s (.ref D1) (.ref D2) (decide (c1 = c2)) := by
  by_cases e : D1 = D2
  · subst e
    obtain ⟨o1, g1, _, n1, d1⟩ := h1
    obtain ⟨o2, g2, _, n2, d2⟩ := h2
    rw [g1] at g2
    cases g2
    rw [d1] at d2
    injection d2 with e1
    have e2 : v1 = v2 := by simpa using e1
    subst e2
    rw [decide_eq_true (ints_same i1 i2)]
    exact SeqAt.EqAt.same _
  · exact SeqAt.EqAt.of_refs e (rcAt_tupI h1 h2 i1 i2 hu)
theorem eq_norm {prog : Program} {w : World} {A : Around} {E : Value → Shared → Prop} {s : Shared} {h₀ : Heap} {L T1 T2 D1 D2 : Addr} {news : Led} {v1 v2 : List Value} {c1 c2 : List Int} {b1 b2 : Int} {t1 t2 : Tok} {Q : Value → Shared → Prop} (N : News h₀ L s.heap news)
    (m1 : (T1, ({ cls := .type "tuple", data := .seq #[.ref D1, .int b1 t1] } : Obj)) ∈ news) (m2 : (T2, ({ cls := .type "tuple", data := .seq #[.ref D2, .int b2 t2] } : Obj)) ∈ news)
    (m3 : (D1, ({ cls := .type "tuple", data := .seq v1.toArray } : Obj)) ∈ news) (m4 : (D2, ({ cls := .type "tuple", data := .seq v2.toArray } : Obj)) ∈ news) (i1 : IntsAre v1 c1) (i2 : IntsAre v2 c2) (hu : A.units + 64 < cLine) (hu1 : A.in1.units < cLine)
    (h : Q (.bool (decide (c1 = c2) && b1 == b2)) s) : wpAny (model prog w) A (compareOp .Eq (.ref T1) (.ref T2)) Q E s := by
  have tup : ∀ {a : Addr} {xs : Array Value}, (a, ({ cls := .type "tuple", data := .seq xs } : Obj)) ∈ news → s.heap.IsTuple a xs := fun hm => ⟨_, N.get hm, rfl, _, rfl⟩
  have := SeqAt.RcAt.tuples (A := A) (e := fun j => if j = 0 then decide (c1 = c2) else b1 == b2) (tup m1) (tup m2) (by omega) (fun j a b => by
    match j, a, b with
    | 0, _, _ => exact eqAt_tupI (tup m3) (tup m4) i1 i2 hu1
    | 1, _, _ => exact SeqAt.EqAt.int_int _ _ _ _
    | j + 2, a, _ => exact absurd a (by simp))
  refine this prog w E Q ?_
  simpa [List.range_succ] using h
theorem equal (w : World) (x d D D' y d2 D2 D2' : Addr) (cv cv2 : List Value) (st st2 : WsSt) (X X2 : Str) (t0 k0 k1 k2 k3 k4 tb tn tt u0 l0 l1 l2 l3 l4 ub vn vt : Tok) (sb sb2 : Bool) (news : Led)
    (hx : (x, instObj 117 d) ∈ news) (hd : (d, dictOf [{ hash := PyData.keyHash w.params (Str.ofString "raw"), key := .str (Str.ofString "raw") k0, val := .str X t0 },
        { hash := PyData.keyHash w.params (Str.ofString "n"), key := .str (Str.ofString "n") k1, val := .int (st.n : Nat) tn },
        { hash := PyData.keyHash w.params (Str.ofString "nt"), key := .str (Str.ofString "nt") k2, val := .int (st.nt : Nat) tt },
        { hash := PyData.keyHash w.params (Str.ofString "norm"), key := .str (Str.ofString "norm") k3, val := .ref D' },
        { hash := PyData.keyHash w.params (Str.ofString "is_simple"), key := .str (Str.ofString "is_simple") k4, val := .bool sb }] 5) ∈ news)
    (hD' : (D', { cls := .type "tuple", data := .seq #[.ref D, .int (st.b : Nat) tb] }) ∈ news) (hD : (D, { cls := .type "tuple", data := .seq cv.toArray }) ∈ news)
    (hi : IntsAre cv st.c)
    (hy : (y, instObj 117 d2) ∈ news) (hd2 : (d2, dictOf [{ hash := PyData.keyHash w.params (Str.ofString "raw"), key := .str (Str.ofString "raw") l0, val := .str X2 u0 },
        { hash := PyData.keyHash w.params (Str.ofString "n"), key := .str (Str.ofString "n") l1, val := .int (st2.n : Nat) vn },
        { hash := PyData.keyHash w.params (Str.ofString "nt"), key := .str (Str.ofString "nt") l2, val := .int (st2.nt : Nat) vt },
        { hash := PyData.keyHash w.params (Str.ofString "norm"), key := .str (Str.ofString "norm") l3, val := .ref D2' },
        { hash := PyData.keyHash w.params (Str.ofString "is_simple"), key := .str (Str.ofString "is_simple") l4, val := .bool sb2 }] 5) ∈ news)
    (hD2' : (D2', { cls := .type "tuple", data := .seq #[.ref D2, .int (st2.b : Nat) ub] }) ∈ news) (hD2 : (D2, { cls := .type "tuple", data := .seq cv2.toArray }) ∈ news)
    (hi2 : IntsAre cv2 st2.c) :
    Does w 93 [.ref x, .ref y] news 20 (fun v nw => nw = news ∧ v = .bool (decide (st.c = st2.c) && (st.b : Int) == (st2.b : Int))) := by
  k_with_none
  w_top off
  k_with "my execs cons" => (k_here; (first | ((with_reducible refine execs_consT ?_); intro tkQ; (try dsimp only); k_fold) | ((with_reducible refine wpAny_execs_cons ?_); (try dsimp only); k_fold)))
  k_with "my compareOp Eq ref ref" => (k_here; (with_reducible show wpAny _ _ (compareOp CmpOp.Eq (Value.ref _) (Value.ref _)) _ _ _); (with_unfolding_all refine' eq_norm ?meN ?me1 ?me2 ?me3 ?me4 ?me5 ?me6 ?me7 ?me8 ?_; (case meN => k_asm); (case me1 => assumption); (case me2 => assumption); (case me3 => assumption); (case me4 => assumption); (case me5 => assumption); (case me6 => assumption); (case me7 => ktr_units); (case me8 => ktr_units); k_whole))
  unfold Does
  k_fill
  intro mean mg mb dp un gd cn cs a ccd cl outer A₀ base h₀ L m s Q E B F X N T hkd9 hdp9 hun9 hret
  refine wpAny_call ?_
  k_dflt (refine' code_def ?ze1 ?ze2 ?ze3 ?ze4 ?ze5 ?zeA ?zeF ?zeK ?ze6 ?ze7 ?ze8 ?ze9 ?zeB ?_ ?zc2 ?zc3 ?zc4 ?zc5; (case zeA => exact rfl); (case zeF => exact rfl); (case zeK => assumption); (case ze1 => k_asm); (case ze2 => k_asm); (case ze3 => k_asm); (case ze4 => k_asm); (case ze5 => k_asm); (case ze6 => k_is); (case ze7 => k_is); (case ze8 => ktr_room); (case ze9 => first | exact BindsTo.of_eq rfl | (refine' kp_binds ?zkx ?zke; (case zkx => k_in); (case zke => exact fun _ => rfl))); (case zc5 => decide); (case zeB => exact locs rfl); (case zc2 => exact rfl); (case zc3 => exact rfl); (case zc4 => exact rfl); k_whole)
  intro g1 L1 h1 FG1 F1 N1 B1 X1 T1
  (try dsimp only)
  (try k_fold)
  (replace F1 : Fr _ _ _ (fun z9 => List.lookup z9 [(Str.ofString "other", Value.ref y), (Str.ofString "self", Value.ref x)]) := F1)
  k_steps
  exact hret _ _ _ _ ⟨rfl, rfl⟩ (by assumption) (by assumption)

end
section
noncomputable def wsR (rs : List Int) : WsSt := rs.foldl (fun s r => ⟨bumpL (padL s.c (s.b + r.toNat)) (s.b + r.toNat), 0, s.n + r.toNat + 1, s.nt + 1⟩) ⟨[], 0, 0, 0⟩
theorem ws_spaces (k : Nat) : ∀ s : WsSt, (List.replicate k 32).foldl wsStep s = ⟨s.c, s.b + k, s.n + k, s.nt⟩ := by
  induction k with
  | zero => exact fun s => rfl
  | succ k ih =>
    intro s
    rw [List.replicate_succ, List.foldl_cons, ih]
    simp only [wsStep, if_pos]
    congr 1 <;> omega
theorem wsF_runs (rs : List Int) : wsF (rs.flatMap lineC) = wsR rs := by
  unfold wsF wsR
  generalize (⟨[], 0, 0, 0⟩ : WsSt) = s
  induction rs generalizing s with
  | nil => rfl
  | cons r rs ih =>
    rw [List.flatMap_cons, List.foldl_append, List.foldl_cons, ih]
    congr 1
    unfold lineC
    rw [List.foldl_append, ws_spaces]
    rfl
noncomputable def apF : Nat → Nat → List UInt8
  | 0, _ => []
  | k + 1, n => if n = 0 then [] else apF k (n / 16) ++ [UInt8.ofNat (65 + n % 16)]
theorem apF_eq : ∀ k n, n < 16 ^ k → apF k n = apB n := by
  intro k
  induction k with
  | zero =>
    intro n h
    have : n = 0 := by simpa using h
    subst this
    rw [apB_zero]; rfl
  | succ k ih =>
    intro n h
    unfold apF
    by_cases h0 : n = 0
    · subst h0; rw [apB_zero]; rfl
    · rw [if_neg h0, apB_pos h0, ih (n / 16) (by rw [Nat.pow_succ] at h; omega)]
noncomputable def apV (bs : List Bool) : List UInt8 := apF 20 (numI bs).natAbs
theorem apV_eq {bs : List Bool} (h : bs.length ≤ 80) : apB (numI bs).natAbs = apV bs := (apF_eq 20 _ (numI_small h).2).symm
noncomputable def dpM (cs : List Nat) : Nat → Nat
  | 0 => 1
  | p + 1 => let m := dpM cs p; if cs.any (fun c => decide (c ≤ p + 1) && m.testBit (p + 1 - c)) then m + 2 ^ (p + 1) else m
structure Facts (ca cb cc : Int) (P : Nat → Bool) (least mx : Int) (e : Nat) (row runs ranked : List Int) (top below : Int) (kw lw : List UInt8) (ans : Bool) (st st2 : WsSt) : Prop where
  hca : 1 ≤ ca ∧ ca ≤ 11
  hcb : 1 ≤ cb ∧ cb ≤ 11
  hcc : 1 ≤ cc ∧ cc ≤ 11
  hP : PaidBy [ca, cb, cc] P e
  hmin : MinOf [ca, cb, cc] least
  hmax : MaxOf [ca, cb, cc] mx
  hlm : 1 ≤ least ∧ least ≤ 7 ∧ 1 ≤ mx ∧ mx ≤ 11
  he : (least * mx : Int) = (e : Int)
  he2 : e ≤ 77
  hrow : ((List.range (e + 1)).filter P).map (fun (i : Nat) => (i : Int)) = row
  hrl : runs.length = least.toNat
  hruns : ∀ i : Nat, i < least.toNat → MinOf (row.filter (fun p => p.fmod least == (i : Int))) (runs.getD i 0)
  hrb7 : ∀ r ∈ runs, 0 ≤ r ∧ r ≤ 77
  hrk : insF runs = ranked
  hrk2 : row.filter (fun p => decide (p < least) || !P (p - least).toNat) = ranked
  hpos : 0 < ranked.length
  htop : ranked.getD (ranked.length - 1) 0 = top
  hgap : -1 ≤ top - least ∧ top - least < (e : Int) + 1
  hkw : apB (numI ((List.range (top - least + 1 - 0).toNat).map fun (k : Nat) => P (top - least - (k : Int)).toNat)).natAbs = kw
  hlw : apB (numI ((List.range (top - least + 1 - 0).toNat).map fun (k : Nat) => !P k)).natAbs = lw
  hbel : ((row.countP (fun y => decide (y < top - least + 1)) : Nat) : Int) = below
  hokw : onesI kw = below
  holw : onesI lw = top - least + 1 - below
  hub : 0 ≤ below ∧ 0 ≤ top - least + 1 - below ∧ top - least + 1 - below ≤ 100
  hst1 : wsF (runs.flatMap lineC) = st
  hmb7 : ∀ r ∈ runs.map (fun p => top - p), 0 ≤ r ∧ r ≤ 77
  hst2 : wsF ((runs.map (fun p => top - p)).flatMap lineC) = st2
  hc6 : st.c.length ≤ 600
  hind : (st.b : Int) + least * (ilS st.c least ((st.c.length : Int) - least).toNat + st.nt) = least * (top - least + 1 - below + least)
  hsn : (st.n : Int) = least * (top - least + 1 - below) + (least * (least + 1)).fdiv 2
  hpt : partedB ca cb cc = ans
  heq : (decide (st.c = st2.c) && (st.b : Int) == (st2.b : Int)) = ans
  hkl : (kw == lw) = ans
  hbu : (below == top - least + 1 - below) = ans
  hlast : (((ranked.filter (lastQ ca cb cc least top row)).length : Nat) : Int) = if ans = true then 1 else 2
  hrv : decide ((ranked.reverse).map (fun p => top - p) = ranked) = ans
noncomputable def minB (ns : List Int) (x : Int) : Bool := ns.contains x && ns.all (fun y => decide (x ≤ y))
theorem minB_of {ns : List Int} {x : Int} (h : minB ns x = true) : MinOf ns x := by
  unfold minB at h
  rw [Bool.and_eq_true, List.all_eq_true] at h
  exact ⟨by simpa using h.1, fun y hy => by simpa using h.2 y hy⟩
noncomputable def maxB (ns : List Int) (x : Int) : Bool := ns.contains x && ns.all (fun y => decide (y ≤ x))
theorem maxB_of {ns : List Int} {x : Int} (h : maxB ns x = true) : MaxOf ns x := by
  unfold maxB at h
  rw [Bool.and_eq_true, List.all_eq_true] at h
  exact ⟨by simpa using h.1, fun y hy => by simpa using h.2 y hy⟩
noncomputable def chkAll (a b c : Nat) (P : Nat → Bool) (least mx : Int) (e : Nat) (row runs ranked : List Int) (top below : Int) (kw lw : List UInt8) (ans : Bool) (st st2 : WsSt) : Bool :=
  decide (1 ≤ a ∧ a ≤ 11 ∧ 1 ≤ b ∧ b ≤ 11 ∧ 1 ≤ c ∧ c ≤ 11) && (P 0 && (List.range e).all (fun p => P (p + 1) == [(a : Int), (b : Int), (c : Int)].any (fun x => decide (x ≤ ((p + 1 : Nat) : Int)) && P (((p + 1 : Nat) : Int) - x).toNat))) &&
  minB [(a : Int), (b : Int), (c : Int)] least && maxB [(a : Int), (b : Int), (c : Int)] mx && decide (1 ≤ least ∧ least ≤ 7 ∧ 1 ≤ mx ∧ mx ≤ 11) && decide (least * mx = (e : Int)) && decide (e ≤ 77) &&
  decide (((List.range (e + 1)).filter P).map (fun (i : Nat) => (i : Int)) = row) && decide (runs.length = least.toNat) && (List.range least.toNat).all (fun i => minB (row.filter (fun p => p.fmod least == (i : Int))) (runs.getD i 0)) &&
  runs.all (fun r => decide (0 ≤ r ∧ r ≤ 77)) && decide (insF runs = ranked) && decide (row.filter (fun p => decide (p < least) || !P (p - least).toNat) = ranked) && decide (0 < ranked.length) && decide (ranked.getD (ranked.length - 1) 0 = top) &&
  decide (-1 ≤ top - least ∧ top - least < (e : Int) + 1) && decide (apV ((List.range (top - least + 1 - 0).toNat).map fun (k : Nat) => P (top - least - (k : Int)).toNat) = kw) && decide (apV ((List.range (top - least + 1 - 0).toNat).map fun (k : Nat) => !P k) = lw) &&
  decide (((row.countP (fun y => decide (y < top - least + 1)) : Nat) : Int) = below) && decide (onesI kw = below) && decide (onesI lw = top - least + 1 - below) && decide (0 ≤ below ∧ 0 ≤ top - least + 1 - below ∧ top - least + 1 - below ≤ 100) &&
  runs.all (fun p => decide (0 ≤ top - p ∧ top - p ≤ 77)) && decide (st.c.length ≤ 600) && decide ((st.b : Int) + least * (ilS st.c least ((st.c.length : Int) - least).toNat + st.nt) = least * (top - least + 1 - below + least)) &&
  decide ((st.n : Int) = least * (top - least + 1 - below) + (least * (least + 1)).fdiv 2) && decide (partedB a b c = ans) && decide ((decide (st.c = st2.c) && (st.b : Int) == (st2.b : Int)) = ans) && decide ((kw == lw) = ans) && decide ((below == top - least + 1 - below) = ans) &&
  decide ((((ranked.filter (lastQ a b c least top row)).length : Nat) : Int) = if ans = true then 1 else 2) && decide (decide ((ranked.reverse).map (fun p => top - p) = ranked) = ans)
theorem facts_of {a b c : Nat} {P : Nat → Bool} {least mx : Int} {e : Nat} {row runs ranked : List Int} {top below : Int} {kw lw : List UInt8} {ans : Bool}
    (h : chkAll a b c P least mx e row runs ranked top below kw lw ans (wsR runs) (wsR (runs.map fun p => top - p)) = true) : Facts a b c P least mx e row runs ranked top below kw lw ans (wsR runs) (wsR (runs.map fun p => top - p)) := by
  unfold chkAll at h
  simp only [Bool.and_eq_true, List.all_eq_true, decide_eq_true_eq] at h
  obtain ⟨⟨⟨⟨⟨⟨⟨⟨⟨⟨⟨⟨⟨⟨⟨⟨⟨⟨⟨⟨⟨⟨⟨⟨⟨⟨⟨⟨⟨⟨⟨k1, ⟨k2, k2b⟩⟩, k3⟩, k4⟩, k5⟩, k6⟩, k7⟩, k8⟩, k9⟩, k10⟩, k11⟩, k12⟩, k13⟩, k14⟩, k15⟩, k16⟩, k17⟩, k18⟩, k19⟩, k20⟩, k21⟩, k22⟩, k23⟩, k24⟩, k25⟩, k26⟩, k27⟩, k28⟩, k29⟩, k30⟩, k31⟩, k32⟩ := h
  have hgb : (top - least + 1 - 0).toNat ≤ 80 := by omega
  refine ⟨by omega, by omega, by omega, ⟨k2, fun p hp hpe => ?_⟩, minB_of k3, maxB_of k4, k5, k6, k7, k8, k9, fun i hi => minB_of (k10 i (List.mem_range.mpr hi)), k11, k12, k13, k14, k15, k16, ?_, ?_, k19, k20, k21, k22, wsF_runs _, fun r hr => ?_, wsF_runs _, k24, k25, k26, k27, k28, k29, k30, k31, k32⟩
  · have := k2b (p - 1) (List.mem_range.mpr (by omega))
    rw [show p - 1 + 1 = p by omega] at this
    simpa using this
  · rw [apV_eq (by simp; omega)]; exact k17
  · rw [apV_eq (by simp; omega)]; exact k18
  · obtain ⟨q, hq, rfl⟩ := List.mem_map.mp hr
    exact k23 q hq
noncomputable def runC (m l e r : Nat) : Int := (((List.range (e + 1)).find? (fun p => p % l == r && m.testBit p)).getD 0 : Nat)
noncomputable def chkR (a b c m l mx e : Nat) (row runs ranked : List Int) (top below : Int) : Bool :=
  chkAll a b c m.testBit l mx e row runs ranked top below (apV ((List.range (top - l + 1 - 0).toNat).map fun (k : Nat) => m.testBit (top - l - (k : Int)).toNat)) (apV ((List.range (top - l + 1 - 0).toNat).map fun (k : Nat) => !m.testBit k)) (partedB a b c) (wsR runs) (wsR (runs.map fun p => top - p))
noncomputable def chkT (a b c m l mx e : Nat) (row runs ranked : List Int) (top : Int) : Bool := chkR a b c m l mx e row runs ranked top ((row.countP (fun y => decide (y < top - l + 1)) : Nat) : Int)
noncomputable def chkS (a b c m l mx e : Nat) (row runs ranked : List Int) : Bool := chkT a b c m l mx e row runs ranked (ranked.getD (ranked.length - 1) 0)
noncomputable def chkQ (a b c m l mx e : Nat) (row runs : List Int) : Bool := chkS a b c m l mx e row runs (insF runs)
noncomputable def chkM (a b c m : Nat) : Bool := chkQ a b c m (min a (min b c)) (max a (max b c)) (min a (min b c) * max a (max b c))
  (((List.range (min a (min b c) * max a (max b c) + 1)).filter m.testBit).map (fun (i : Nat) => (i : Int))) ((List.range (min a (min b c))).map (runC m (min a (min b c)) (min a (min b c) * max a (max b c))))

end
section
theorem Facts.perm {ca cb cc xa xb xc : Int} {P : Nat → Bool} {least mx : Int} {e : Nat} {row runs ranked : List Int} {top below : Int} {kw lw : List UInt8} {ans : Bool} {st st2 : WsSt}
    (f : Facts ca cb cc P least mx e row runs ranked top below kw lw ans st st2) (hp : List.Perm [xa, xb, xc] [ca, cb, cc]) (he : partedB xa xb xc = partedB ca cb cc) :
    Facts xa xb xc P least mx e row runs ranked top below kw lw ans st st2 := by
  have hr : ∀ c ∈ [ca, cb, cc], 1 ≤ c ∧ c ≤ 11 := List.forall_mem_cons.mpr ⟨f.hca, List.forall_mem_cons.mpr ⟨f.hcb, List.forall_mem_cons.mpr ⟨f.hcc, List.forall_mem_nil _⟩⟩⟩
  have hl : lastQ xa xb xc least top row = lastQ ca cb cc least top row := by
    funext p
    unfold lastQ
    rw [hp.any_eq]
  exact { f with
    hca := hr _ (hp.mem_iff.mp (.head _))
    hcb := hr _ (hp.mem_iff.mp (.tail _ (.head _)))
    hcc := hr _ (hp.mem_iff.mp (.tail _ (.tail _ (.head _))))
    hP := ⟨f.hP.1, fun p h1 h2 => by rw [f.hP.2 p h1 h2, hp.any_eq]⟩
    hmin := ⟨hp.mem_iff.mpr f.hmin.1, fun y hy => f.hmin.2 y (hp.mem_iff.mp hy)⟩
    hmax := ⟨hp.mem_iff.mpr f.hmax.1, fun y hy => f.hmax.2 y (hp.mem_iff.mp hy)⟩
    hpt := he.trans f.hpt
    hlast := by rw [hl]; exact f.hlast }
noncomputable abbrev R4 := Nat × Nat × Nat × Nat
noncomputable def chk4 (r : R4) : Bool := chkM r.1 r.2.1 r.2.2.1 r.2.2.2
noncomputable def tb0 : List R4 := [(1, 1, 1, 3), (1, 1, 2, 7), (1, 1, 3, 15), (1, 1, 4, 31), (1, 1, 5, 63), (1, 2, 2, 7), (1, 2, 3, 15), (1, 2, 4, 31)]
theorem tb0_ok : tb0.all chk4 = true := by decide +kernel
noncomputable def tb1 : List R4 := [(1, 2, 5, 63), (1, 3, 3, 15), (1, 3, 4, 31), (1, 3, 5, 63), (1, 4, 4, 31), (1, 4, 5, 63), (1, 5, 5, 63), (2, 2, 3, 125)]
theorem tb1_ok : tb1.all chk4 = true := by decide +kernel
noncomputable def tb2 : List R4 := [(2, 2, 5, 2037), (2, 2, 7, 32725), (2, 2, 9, 524117), (2, 2, 11, 8387925), (2, 3, 3, 125), (2, 3, 4, 509), (2, 3, 5, 2045), (2, 3, 6, 8189)]
theorem tb2_ok : tb2.all chk4 = true := by decide +kernel
noncomputable def tb3 : List R4 := [(2, 3, 7, 32765), (2, 3, 8, 131069), (2, 3, 9, 524285), (2, 3, 10, 2097149), (2, 3, 11, 8388605), (2, 4, 5, 2037), (2, 4, 7, 32725), (2, 4, 9, 524117)]
theorem tb3_ok : tb3.all chk4 = true := by decide +kernel
noncomputable def tb4 : List R4 := [(2, 4, 11, 8387925), (2, 5, 5, 2037), (2, 5, 6, 8181), (2, 5, 7, 32757), (2, 5, 8, 131061), (2, 5, 9, 524277), (2, 5, 10, 2097141), (2, 5, 11, 8388597)]
theorem tb4_ok : tb4.all chk4 = true := by decide +kernel
noncomputable def tb5 : List R4 := [(2, 6, 7, 32725), (2, 6, 9, 524117), (2, 6, 11, 8387925), (2, 7, 7, 32725), (2, 7, 8, 131029), (2, 7, 9, 524245), (2, 7, 10, 2097109), (2, 7, 11, 8388565)]
theorem tb5_ok : tb5.all chk4 = true := by decide +kernel
noncomputable def tb6 : List R4 := [(2, 8, 9, 524117), (2, 8, 11, 8387925), (2, 9, 9, 524117), (2, 9, 10, 2096981), (2, 9, 11, 8388437), (2, 10, 11, 8387925), (2, 11, 11, 8387925), (3, 3, 4, 8153)]
theorem tb6_ok : tb6.all chk4 = true := by decide +kernel
noncomputable def tb7 : List R4 := [(3, 3, 5, 65385), (3, 3, 7, 4191945), (3, 3, 8, 33545033), (3, 3, 10, 2147333705), (3, 3, 11, 17179269705), (3, 4, 4, 8153), (3, 4, 5, 65529), (3, 4, 6, 524249)]
theorem tb7_ok : tb7.all chk4 = true := by decide +kernel
noncomputable def tb8 : List R4 := [(3, 4, 7, 4194265), (3, 4, 8, 33554393), (3, 4, 9, 268435417), (3, 4, 10, 2147483609), (3, 4, 11, 17179869145), (3, 5, 5, 65385), (3, 5, 6, 524137), (3, 5, 7, 4194281)]
theorem tb8_ok : tb8.all chk4 = true := by decide +kernel
noncomputable def tb9 : List R4 := [(3, 5, 8, 33554281), (3, 5, 9, 268435305), (3, 5, 10, 2147483497), (3, 5, 11, 17179869033), (3, 6, 7, 4191945), (3, 6, 8, 33545033), (3, 6, 10, 2147333705), (3, 6, 11, 17179269705)]
theorem tb9_ok : tb9.all chk4 = true := by decide +kernel
noncomputable def tb10 : List R4 := [(3, 7, 7, 4191945), (3, 7, 8, 33554377), (3, 7, 9, 268433097), (3, 7, 10, 2147481289), (3, 7, 11, 17179868873), (3, 8, 8, 33545033), (3, 8, 9, 268426057), (3, 8, 10, 2147483465)]
theorem tb10_ok : tb10.all chk4 = true := by decide +kernel
noncomputable def tb11 : List R4 := [(3, 8, 11, 17179859785), (3, 9, 10, 2147333705), (3, 9, 11, 17179269705), (3, 10, 10, 2147333705), (3, 10, 11, 17179868745), (3, 11, 11, 17179269705), (4, 4, 5, 2094897), (4, 4, 7, 536730001)]
theorem tb11_ok : tb11.all chk4 = true := by decide +kernel
noncomputable def tb12 : List R4 := [(4, 4, 9, 137429988113), (4, 4, 11, 35183799146769), (4, 5, 5, 2094897), (4, 5, 6, 33554289), (4, 5, 7, 536870833), (4, 5, 8, 8589932337), (4, 5, 9, 137438951217), (4, 5, 10, 2199023253297)]
theorem tb12_ok : tb12.all chk4 = true := by decide +kernel
noncomputable def tb13 : List R4 := [(4, 5, 11, 35184372088625), (4, 6, 7, 536870353), (4, 6, 9, 137438951249), (4, 6, 11, 35184372079953), (4, 7, 7, 536730001), (4, 7, 8, 8589793681), (4, 7, 9, 137438952337), (4, 7, 10, 2199023246737)]
theorem tb13_ok : tb13.all chk4 = true := by decide +kernel
noncomputable def tb14 : List R4 := [(4, 7, 11, 35184371947921), (4, 8, 9, 137429988113), (4, 8, 11, 35183799146769), (4, 9, 9, 137429988113), (4, 9, 10, 2199023220497), (4, 9, 11, 35184372071185), (4, 10, 11, 35184371948817), (4, 11, 11, 35183799146769)]
theorem tb14_ok : tb14.all chk4 = true := by decide +kernel
noncomputable def tb15 : List R4 := [(5, 5, 6, 2146933857), (5, 5, 7, 68710749345), (5, 5, 8, 2198884164897), (5, 5, 9, 70366523082273), (5, 5, 11, 72057026270825505), (5, 6, 6, 2146933857), (5, 6, 7, 68719475937), (5, 6, 8, 2199023254881)]
theorem tb15_ok : tb15.all chk4 = true := by decide +kernel
noncomputable def tb16 : List R4 := [(5, 6, 9, 70368744169057), (5, 6, 10, 2251799813135457), (5, 6, 11, 72057594037378145), (5, 7, 7, 68710749345), (5, 7, 8, 2199023252897), (5, 7, 9, 70368744167073), (5, 7, 10, 2251799804957857), (5, 7, 11, 72057594037918881)]
theorem tb16_ok : tb16.all chk4 = true := by decide +kernel
noncomputable def tb17 : List R4 := [(5, 8, 8, 2198884164897), (5, 8, 9, 70368744171297), (5, 8, 10, 2251799674594593), (5, 8, 11, 72057594037775649), (5, 9, 9, 70366523082273), (5, 9, 10, 2251797592589857), (5, 9, 11, 72057594037784097), (5, 10, 11, 72057026270825505)]
theorem tb17_ok : tb17.all chk4 = true := by decide +kernel
noncomputable def tb18 : List R4 := [(5, 11, 11, 72057026270825505), (6, 6, 7, 8795543335105), (6, 6, 11, 147573380424631982145), (6, 7, 7, 8795543335105), (6, 7, 8, 562949953286593), (6, 7, 9, 36028797018829505), (6, 7, 10, 2305843009213658305), (6, 7, 11, 147573952589676312769)]
theorem tb18_ok : tb18.all chk4 = true := by decide +kernel
noncomputable def tb19 : List R4 := [(6, 8, 9, 36028797018428225), (6, 8, 11, 147573952589674273089), (6, 9, 10, 2305843009205147201), (6, 9, 11, 147573952589642242625), (6, 10, 11, 147573952589642275905), (6, 11, 11, 147573380424631982145), (7, 7, 8, 144112963045933441), (7, 7, 9, 18446601950467539585)]
theorem tb19_ok : tb19.all chk4 = true := by decide +kernel
noncomputable def tb20 : List R4 := [(7, 7, 10, 2361174154438719456385), (7, 7, 11, 302230873620014044563585), (7, 8, 8, 144112963045933441), (7, 8, 9, 18446744073707963265), (7, 8, 10, 2361183241434822067585), (7, 8, 11, 302231454903657292482945), (7, 9, 9, 18446601950467539585), (7, 9, 10, 2361183241434818365057)]
theorem tb20_ok : tb20.all chk4 = true := by decide +kernel
noncomputable def tb21 : List R4 := [(7, 9, 11, 302231454903657209088641), (7, 10, 10, 2361174154438719456385), (7, 10, 11, 302231454903657217543297), (7, 11, 11, 302230873620014044563585)]
theorem tb21_ok : tb21.all chk4 = true := by decide +kernel
noncomputable def tbs : List (List R4) := [tb0, tb1, tb2, tb3, tb4, tb5, tb6, tb7, tb8, tb9, tb10, tb11, tb12, tb13, tb14, tb15, tb16, tb17, tb18, tb19, tb20, tb21]
theorem tbs_ok : tbs.all (fun t => t.all chk4) = true := by
  simp only [tbs, List.all_cons, List.all_nil, tb0_ok, tb1_ok, tb2_ok, tb3_ok, tb4_ok, tb5_ok, tb6_ok, tb7_ok, tb8_ok, tb9_ok, tb10_ok, tb11_ok, tb12_ok, tb13_ok, tb14_ok, tb15_ok, tb16_ok, tb17_ok, tb18_ok, tb19_ok, tb20_ok, tb21_ok, Bool.and_self]
noncomputable def permB (a b c : Nat) (r : R4) : Bool := [a, b, c].isPerm [r.1, r.2.1, r.2.2.1] && (partedB a b c == partedB r.1 r.2.1 r.2.2.1)
noncomputable def atB (k a b c : Nat) : Bool := match tbs[k / 8]? with
  | none => false
  | some t => match t[k % 8]? with
    | none => false
    | some r => permB a b c r
noncomputable def grid (x : Nat) (ks : List Nat) : Bool := (List.range 10).all fun i => (List.range 10).all fun j =>
  atB (ks.getD (10 * i + j) 0) (x / Nat.gcd (Nat.gcd x (i + 2)) (j + 2)) ((i + 2) / Nat.gcd (Nat.gcd x (i + 2)) (j + 2)) ((j + 2) / Nat.gcd (Nat.gcd x (i + 2)) (j + 2))
theorem grid2 : grid 2 [0, 15, 1, 16, 2, 17, 3, 18, 4, 19, 15, 20, 21, 22, 23, 24, 25, 26, 27, 28, 1, 21, 5, 29, 6, 30, 7, 31, 8, 32, 16, 22, 29, 33, 34, 35, 36, 37, 38, 39, 2, 23, 6, 34, 9, 40, 10, 41, 11, 42, 17, 24, 30, 35, 40, 43, 44, 45, 46, 47, 3, 25, 7, 36, 10, 44, 12, 48, 13, 49, 18, 26, 31, 37, 41, 45, 48, 50, 51, 52, 4, 27, 8, 38, 11, 46, 13, 51, 14, 53, 19, 28, 32, 39, 42, 47, 49, 52, 53, 54] = true := by decide +kernel
theorem grid3 : grid 3 [15, 20, 21, 22, 23, 24, 25, 26, 27, 28, 20, 0, 55, 56, 1, 57, 58, 2, 59, 60, 21, 55, 61, 62, 63, 64, 65, 66, 67, 68, 22, 56, 62, 69, 70, 71, 72, 73, 74, 75, 23, 1, 63, 70, 5, 76, 77, 6, 78, 79, 24, 57, 64, 71, 76, 80, 81, 82, 83, 84, 25, 58, 65, 72, 77, 81, 85, 86, 87, 88, 26, 2, 66, 73, 6, 82, 86, 9, 89, 90, 27, 59, 67, 74, 78, 83, 87, 89, 91, 92, 28, 60, 68, 75, 79, 84, 88, 90, 92, 93] = true := by decide +kernel
theorem grid4 : grid 4 [1, 21, 5, 29, 6, 30, 7, 31, 8, 32, 21, 55, 61, 62, 63, 64, 65, 66, 67, 68, 5, 61, 0, 94, 15, 95, 1, 96, 16, 97, 29, 62, 94, 98, 99, 100, 101, 102, 103, 104, 6, 63, 15, 99, 20, 105, 21, 106, 22, 107, 30, 64, 95, 100, 105, 108, 109, 110, 111, 112, 7, 65, 1, 101, 21, 109, 5, 113, 29, 114, 31, 66, 96, 102, 106, 110, 113, 115, 116, 117, 8, 67, 16, 103, 22, 111, 29, 116, 33, 118, 32, 68, 97, 104, 107, 112, 114, 117, 118, 119] = true := by decide +kernel
theorem grid5 : grid 5 [16, 22, 29, 33, 34, 35, 36, 37, 38, 39, 22, 56, 62, 69, 70, 71, 72, 73, 74, 75, 29, 62, 94, 98, 99, 100, 101, 102, 103, 104, 33, 69, 98, 0, 120, 121, 122, 123, 1, 124, 34, 70, 99, 120, 125, 126, 127, 128, 129, 130, 35, 71, 100, 121, 126, 131, 132, 133, 134, 135, 36, 72, 101, 122, 127, 132, 136, 137, 138, 139, 37, 73, 102, 123, 128, 133, 137, 140, 141, 142, 38, 74, 103, 1, 129, 134, 138, 141, 5, 143, 39, 75, 104, 124, 130, 135, 139, 142, 143, 144] = true := by decide +kernel
theorem grid6 : grid 6 [2, 23, 6, 34, 9, 40, 10, 41, 11, 42, 23, 1, 63, 70, 5, 76, 77, 6, 78, 79, 6, 63, 15, 99, 20, 105, 21, 106, 22, 107, 34, 70, 99, 120, 125, 126, 127, 128, 129, 130, 9, 5, 20, 125, 0, 145, 55, 15, 56, 146, 40, 76, 105, 126, 145, 147, 148, 149, 150, 151, 10, 77, 21, 127, 55, 148, 61, 152, 62, 153, 41, 6, 106, 128, 15, 149, 152, 20, 154, 155, 11, 78, 22, 129, 56, 150, 62, 154, 69, 156, 42, 79, 107, 130, 146, 151, 153, 155, 156, 157] = true := by decide +kernel
theorem grid7 : grid 7 [17, 24, 30, 35, 40, 43, 44, 45, 46, 47, 24, 57, 64, 71, 76, 80, 81, 82, 83, 84, 30, 64, 95, 100, 105, 108, 109, 110, 111, 112, 35, 71, 100, 121, 126, 131, 132, 133, 134, 135, 40, 76, 105, 126, 145, 147, 148, 149, 150, 151, 43, 80, 108, 131, 147, 0, 158, 159, 160, 161, 44, 81, 109, 132, 148, 158, 162, 163, 164, 165, 45, 82, 110, 133, 149, 159, 163, 166, 167, 168, 46, 83, 111, 134, 150, 160, 164, 167, 169, 170, 47, 84, 112, 135, 151, 161, 165, 168, 170, 171] = true := by decide +kernel
theorem at_use {k a b c : Nat} (h : atB k a b c = true) : ∃ P least mx e row runs ranked top below kw lw ans st st2, Facts a b c P least mx e row runs ranked top below kw lw ans st st2 := by
  unfold atB at h
  split at h
  · cases h
  · rename_i t ht
    split at h
    · cases h
    · rename_i r hr
      have h1 := List.all_eq_true.mp (List.all_eq_true.mp tbs_ok _ (List.mem_of_getElem? ht)) _ (List.mem_of_getElem? hr)
      unfold permB at h
      rw [Bool.and_eq_true, beq_iff_eq] at h
      have h2 := (List.isPerm_iff.mp h.1).map (fun (k : Nat) => (k : Int))
      exact ⟨_, _, _, _, _, _, _, _, _, _, _, _, _, _, (facts_of h1).perm h2 h.2⟩
theorem grid_use {x : Nat} {ks : List Nat} (h : grid x ks = true) {y z : Nat} (hy : 2 ≤ y ∧ y ≤ 11) (hz : 2 ≤ z ∧ z ≤ 11) :
    ∃ k, atB k (x / Nat.gcd (Nat.gcd x y) z) (y / Nat.gcd (Nat.gcd x y) z) (z / Nat.gcd (Nat.gcd x y) z) = true := by
  unfold grid at h
  have h3 := List.all_eq_true.mp (List.all_eq_true.mp h (y - 2) (List.mem_range.mpr (by omega))) (z - 2) (List.mem_range.mpr (by omega))
  rw [show y - 2 + 2 = y by omega, show z - 2 + 2 = z by omega] at h3
  exact ⟨_, h3⟩
theorem grid_all {x y z : Nat} (hx : 2 ≤ x ∧ x ≤ 7) (hy : 2 ≤ y ∧ y ≤ 11) (hz : 2 ≤ z ∧ z ≤ 11) :
    ∃ k, atB k (x / Nat.gcd (Nat.gcd x y) z) (y / Nat.gcd (Nat.gcd x y) z) (z / Nat.gcd (Nat.gcd x y) z) = true := by
  obtain rfl | rfl | rfl | rfl | rfl | rfl : x = 2 ∨ x = 3 ∨ x = 4 ∨ x = 5 ∨ x = 6 ∨ x = 7 := by omega
  · exact grid_use grid2 hy hz
  · exact grid_use grid3 hy hz
  · exact grid_use grid4 hy hz
  · exact grid_use grid5 hy hz
  · exact grid_use grid6 hy hz
  · exact grid_use grid7 hy hz
theorem facts_all {x y z : Int} (h : 2 ≤ x ∧ x ≤ 7 ∧ 2 ≤ y ∧ y ≤ 11 ∧ 2 ≤ z ∧ z ≤ 11) :
    ∃ P least mx e row runs ranked top below kw lw ans st st2, Facts (Int.fdiv x (Int.gcd (Int.gcd x y) z)) (Int.fdiv y (Int.gcd (Int.gcd x y) z)) (Int.fdiv z (Int.gcd (Int.gcd x y) z)) P least mx e row runs ranked top below kw lw ans st st2 := by
  obtain ⟨x, rfl⟩ := Int.eq_ofNat_of_zero_le (show 0 ≤ x by omega)
  obtain ⟨y, rfl⟩ := Int.eq_ofNat_of_zero_le (show 0 ≤ y by omega)
  obtain ⟨z, rfl⟩ := Int.eq_ofNat_of_zero_le (show 0 ≤ z by omega)
  obtain ⟨k, hk⟩ := grid_all (x := x) (y := y) (z := z) (by omega) (by omega) (by omega)
  have e : ∀ k : Nat, Int.fdiv (k : Int) ((Int.gcd ((Int.gcd (x : Int) (y : Int) : Nat) : Int) (z : Int) : Nat) : Int) = ((k / Nat.gcd (Nat.gcd x y) z : Nat) : Int) := fun k => (Int.ofNat_fdiv k _).symm
  rw [e, e, e]
  exact at_use hk

end
section
theorem lastQ_nil (ca cb cc least top : Int) (row : List Int) (p : Int) : lastQ ca cb cc least top row p = decide (((List.range [ca, cb, cc].length).filter (fun j => !decide (top - least - top + p + [ca, cb, cc].getD j 0 ∈ row))).map (fun j => [ca, cb, cc].getD j 0) = []) := by
  unfold lastQ
  rw [nil_any, any_range]
theorem filter_take {l : List Int} {i : Nat} (h : i < l.length) (q : Int → Bool) : (l.take (i + 1)).filter q = (l.take i).filter q ++ (if q (l.getD i 0) = true then [l.getD i 0] else []) := by
  have e : l.getD i 0 = l[i] := by simp [h]
  rw [List.take_succ_eq_append_getElem h, List.filter_append, e]
  simp [List.filter_cons]
theorem holds (w : World) (l : Addr) (vs : List Value) (ca cb cc : Int) (n : Nat) (news : Led) (P : Nat → Bool) (least mx : Int) (e : Nat) (row runs ranked : List Int) (top gap below unpaid : Int) (kw lw : List UInt8) (ans : Bool) (st st2 : WsSt)
    (hl : (l, listOf vs.toArray n) ∈ news) (hi : IntsAre vs [ca, cb, cc]) (hca : 1 ≤ ca ∧ ca ≤ 11) (hcb : 1 ≤ cb ∧ cb ≤ 11) (hcc : 1 ≤ cc ∧ cc ≤ 11)
    (hP : PaidBy [ca, cb, cc] P e) (hmin : MinOf [ca, cb, cc] least) (hmax : MaxOf [ca, cb, cc] mx) (hlm : 1 ≤ least ∧ least ≤ 7 ∧ 1 ≤ mx ∧ mx ≤ 11) (he : (least * mx : Int) = (e : Int)) (he2 : e ≤ 77)
    (hrow : ((List.range (e + 1)).filter P).map (fun (i : Nat) => (i : Int)) = row)
    (hrl : runs.length = least.toNat) (hruns : ∀ i : Nat, i < least.toNat → MinOf (row.filter (fun p => p.fmod least == (i : Int))) (runs.getD i 0))
    (hrb7 : ∀ r ∈ runs, 0 ≤ r ∧ r ≤ 77) (hrk : insF runs = ranked) (hrk2 : row.filter (fun p => decide (p < least) || !P (p - least).toNat) = ranked) (hpos : 0 < ranked.length) (htop : ranked.getD (ranked.length - 1) 0 = top)
    (hgap : -1 ≤ top - least ∧ top - least < (e : Int) + 1)
    (hkw : apB (numI ((List.range (top - least + 1 - 0).toNat).map fun (k : Nat) => P (top - least - (k : Int)).toNat)).natAbs = kw) (hlw : apB (numI ((List.range (top - least + 1 - 0).toNat).map fun (k : Nat) => !P k)).natAbs = lw)
    (hbel : ((row.countP (fun y => decide (y < top - least + 1)) : Nat) : Int) = below) (hokw : onesI kw = below) (holw : onesI lw = top - least + 1 - below)
    (hub : 0 ≤ below ∧ 0 ≤ top - least + 1 - below ∧ top - least + 1 - below ≤ 100) (hst1 : wsF (runs.flatMap lineC) = st) (hmb7 : ∀ r ∈ runs.map (fun p => top - p), 0 ≤ r ∧ r ≤ 77) (hst2 : wsF ((runs.map (fun p => top - p)).flatMap lineC) = st2)
    (hc6 : st.c.length ≤ 600) (hind : (st.b : Int) + least * (ilS st.c least ((st.c.length : Int) - least).toNat + st.nt) = least * (top - least + 1 - below + least)) (hsn : (st.n : Int) = least * (top - least + 1 - below) + (least * (least + 1)).fdiv 2)
    (hpt : partedB ca cb cc = ans) (heq : (decide (st.c = st2.c) && (st.b : Int) == (st2.b : Int)) = ans) (hkl : (kw == lw) = ans) (hbu : (below == top - least + 1 - below) = ans) (hlast : (((ranked.filter (lastQ ca cb cc least top row)).length : Nat) : Int) = if ans = true then 1 else 2) (hrv : decide ((ranked.reverse).map (fun p => top - p) = ranked) = ans) :
    Does w 186 [.ref l] news 40 (fun v nw => v = .bool true ∧ nw = news) := by
  have hP9 : PaidBy [ca, cb, cc] P ((e : Int)).toNat := by rw [Int.toNat_natCast]; exact hP
  have hrn := row_len hrow
  have hrs := row_sorted hrow
  have hrb := row_mem hrow
  have hl77 : 1 ≤ least ∧ least ≤ 77 := by omega
  have hrn9 : row.length ≤ 1000 := by omega
  have hrl9 : runs.length ≤ 1000 := by omega
  have hrk9 : ranked.length ≤ 1000 := by rw [← hrk, (insF_ok runs).2]; omega
  have hrv9 : ranked.reverse.length ≤ 1000 := by rw [List.length_reverse]; exact hrk9
  have hrl7 : runs.length ≤ 7 := by omega
  have hkok := ap_ok hkw (by simp; omega)
  have hlok := ap_ok hlw (by simp; omega)
  k_with_none
  w_top off
  k_with "my execs cons" => (k_here; (first | ((with_reducible refine execs_consT ?_); intro tkQ; (try dsimp only); k_fold) | ((with_reducible refine wpAny_execs_cons ?_); (try dsimp only); k_fold)))
  k_with "my exec For Name Call cons nil" => (k_here; (with_unfolding_all refine' For_turns (by k_asm) ?_); k_whole)
  k_with "my exec For Name Name cons nil" => (k_here; (with_unfolding_all refine' For_turns (by k_asm) ?_); k_whole)
  k_with "my eval ListComp" => (k_here; lct_look; k_dflt (refine LCt.ListComp_T (F₀ := by k_asm) (by with_unfolding_all rfl) (by decide) (by rfl) (by decide) (by rfl) ?_))
  k_with "my eval ListComp" => (k_here; (first | lcg_look | lcf_look); k_dflt (refine LCg.ListComp_U (F₀ := by k_asm) (by with_unfolding_all rfl) (by decide) (by rfl) (by decide) (by rfl) ?_))
  k_with "my exec Assign cons ListComp" => (k_here; lct_look; k_dflt (refine LCt.Assign_ListComp_T (F₀ := by k_asm) (by rfl) (by with_unfolding_all rfl) (by with_unfolding_all rfl) (by decide) (by rfl) (by decide) (by rfl) (by rfl) (by rfl) ?_))
  k_with "my exec Assign cons ListComp" => (k_here; (first | lcg_look | lcf_look); k_dflt (refine LCg.Assign_ListComp_U (F₀ := by k_asm) (by rfl) (by with_unfolding_all rfl) (by with_unfolding_all rfl) (by decide) (by rfl) (by decide) (by rfl) (by rfl) (by rfl) ?_))
  k_with "my CompSrcT" => (k_here; k_dflt (first
  | (refine LCt.CompSrcT.ledger (by rfl) (by k_asm) (by k_asm) (by k_mem) (by first | kmk_size | (simp only [List.size_toArray, List.length_map, List.length_range, sizeLine_eq]; omega)) ?_; intro g')
  | (refine LCt.CompSrcT.range (by rfl) (by k_asm) (by k_asm) (by assumption) (by exact small_one (by omega) (by omega) (by omega) (by omega)) (by exact rangeSize_nat _ _) (by rw [sizeLine_eq]; omega) ?_; intro g')))
  k_with "my CompSrc" => (k_here; k_dflt (first
  | (refine LCg.CompSrc.ledger (by rfl) (by k_asm) (by k_asm) (by k_mem) (by first | kmk_size | (simp only [List.size_toArray, List.length_map, List.length_range, sizeLine_eq]; omega)) ?_; intro g')
  | (refine LCg.CompSrc.range (by rfl) (by k_asm) (by k_asm) (by assumption) (by exact small_one (by omega) (by omega) (by omega) (by omega)) (by exact rangeSize_nat _ _) (by rw [sizeLine_eq]; omega) ?_; intro g')))
  k_with "my CompRestT" => k_extra "comp"
  k_with "my CompRest" => k_extra "comp"
  k_with "my pyIter ref" => k_extra "loop"
  k_with "my subscriptTail" => (k_here; (with_reducible show wpAny _ _ (subscriptTail _ _ (Value.ref _) (Value.int _ _)) _ _ _); k_dflt (refine' item_bools ?mbl ?mb0 ?mb1 ?mbn ?_ ?mbs; (case mbl => exact News.isList (by k_asm) (by k_mem)); (case mb0 => omega); (case mb1 => omega); (case mbn => omega); (case mbs => with_unfolding_all rfl)))
  k_with "my compareOp Eq ref ref" => (k_here; (with_reducible show wpAny _ _ (compareOp CmpOp.Eq (Value.ref _) (Value.ref _)) _ _ _); (with_unfolding_all refine' eq_intsK ?mq1 ?mq2 ?mq3 ?mq4 ?mq5 ?_; (case mq1 => is_list); (case mq2 => l_intsC); (case mq3 => is_list); (case mq4 => l_intsC); (case mq5 => ktr_units); k_whole))
  k_with "my compareOp NotEq ref ref" => (k_here; (with_reducible show wpAny _ _ (compareOp CmpOp.NotEq (Value.ref _) (Value.ref _)) _ _ _); (with_unfolding_all refine' ne_intsK ?mq1 ?mq2 ?mq3 ?mq4 ?mq5 ?_; (case mq1 => is_list); (case mq2 => l_intsC); (case mq3 => is_list); (case mq4 => l_intsC); (case mq5 => ktr_units); k_whole))
  k_with "my exec For Name Attribute cons nil" => (k_here; (with_unfolding_all refine' For_turns (by k_asm) ?_); k_whole)
  k_with "my call ref" => (k_here; (with_reducible show wpAny _ _ (call (Value.ref 128) [Value.int _ _, Value.int _ _] _) _ _ _); (k_dflt (refine' does_use (common _ _ _ _ _ _ ?mchx ?mchy) ?mck1 ?mck2 ?mck3 ?mck4 ?mck5 ?mckK ?mckd ?mcku ?_)); (case mck1 => k_asm); (case mck2 => k_asm); (case mck3 => k_asm); (case mck4 => k_asm); (case mck5 => k_asm); (case mckK => first | exact rfl | assumption); (case mchx => first | omega | assumption | (k_fmods; omega)); (case mchy => first | omega | assumption | (k_fmods; omega)); (case mckd => ktr_room); (case mcku => ktr_units); (rintro _ _ h' tk' ⟨e1, ⟨hg9, hg8⟩, t9, e2⟩ F' N'; subst e1; subst e2); (try dsimp only); (try k_fold))
  k_with "my subscriptTail Name Slice ref ref" => (k_here; (with_reducible show wpAny _ _ (subscriptTail _ (PySem.Expr.Slice _ _ (some _) _) (Value.ref _) (Value.ref _)) _ _ _); k_dflt (refine' slice3_ints ?msF ?msN ?msl ?msi ?msp ?msq ?msk ?mso ?_ ?mss ?mst ?msz; (case msF => k_asm); (case msN => k_asm); (case msl => kmk_list); (case msi => assumption); (case msp => kmk_part); (case msq => kmk_part); (case msk => kmk_part); (case mso => decide); (case mss => with_unfolding_all rfl); (case mst => kmk_pure); (case msz => kmk_size)); intro D' h' ws' ks' F' N' l1 hks'; (try k_lt l1); (try k_sweep))
  k_with "my binaryOp FloorDiv int int" => (k_here; (try k_fmods); (with_reducible refine' floordiv_int ?mfb ?_ (Or.inl (PyProof.noPylong_small ?mfs)); (case mfb => omega); (case mfs => omega)))
  k_with "my call builtin:min" => (k_here; (with_reducible show wpAny _ _ (call (Value.builtin _) [Value.ref _]) _ _ _); (with_unfolding_all refine' min_of ?mn1 ?mn2 ?mn3 ?mn4 ?mn5 ?mn6 ?_; (case mn1 => k_asm); (case mn2 => k_asm); (case mn3 => is_list); (case mn4 => assumption); (case mn5 => assumption); (case mn6 => with_unfolding_all rfl); k_whole); intro h' t' k' F' N')
  k_with "my call builtin:max" => (k_here; (with_reducible show wpAny _ _ (call (Value.builtin _) [Value.ref _]) _ _ _); (with_unfolding_all refine' max_of ?mn1 ?mn2 ?mn3 ?mn4 ?mn5 ?mn6 ?_; (case mn1 => k_asm); (case mn2 => k_asm); (case mn3 => is_list); (case mn4 => assumption); (case mn5 => assumption); (case mn6 => with_unfolding_all rfl); k_whole); intro h' t' k' F' N')
  k_with "my call builtin:len" => (k_here; (with_reducible show wpAny _ _ (call (Value.builtin "len") [Value.ref _]) _ _ _); k_dflt (refine' len_map ?mm1 ?mm2 ?_; (case mm1 => exact News.isList (by k_asm) (by k_mem)); (case mm2 => omega); k_whole))
  k_with "my subscriptTail Name Name ref int" => (k_here; (with_reducible show wpAny _ _ (subscriptTail _ _ (Value.ref _) (Value.int _ _)) _ _ _); k_dflt (refine' item_bools ?mbl ?mb0 ?mb1 ?mbn ?_ ?mbs; (case mbl => exact News.isList (by k_asm) (by k_mem)); (case mb0 => omega); (case mb1 => omega); (case mbn => omega); (case mbs => with_unfolding_all rfl)))
  k_with "my subscriptTail Name BinOp ref int" => (k_here; (with_reducible show wpAny _ _ (subscriptTail _ _ (Value.ref _) (Value.int _ _)) _ _ _); k_dflt (refine' item_bools ?mbl ?mb0 ?mb1 ?mbn ?_ ?mbs; (case mbl => exact News.isList (by k_asm) (by k_mem)); (case mb0 => omega); (case mb1 => omega); (case mbn => omega); (case mbs => with_unfolding_all rfl)))
  k_with "my call ref" => (k_here; (first | (with_reducible show wpAny _ _ (call (Value.ref 135) _ _) _ _ _) | (with_reducible show wpAny _ _ (call (Value.ref 186) _ _) _ _ _) | (with_reducible show wpAny _ _ (call (Value.ref 145) _ _) _ _ _) | (with_reducible show wpAny _ _ (call (Value.ref 181) _ _) _ _ _) | (with_reducible show wpAny _ _ (call (Value.ref 169) _ _) _ _ _) | (with_reducible show wpAny _ _ (call (Value.ref 150) _ _) _ _ _) | (with_reducible show wpAny _ _ (call (Value.ref 86) _ _) _ _ _) | (with_reducible show wpAny _ _ (call (Value.ref 93) _ _) _ _ _) | (with_reducible show wpAny _ _ (call (Value.ref 140) _ _) _ _ _) | (with_reducible show wpAny _ _ (call (Value.ref 176) _ _) _ _ _) | (with_reducible show wpAny _ _ (call (Value.ref 30) _ _) _ _ _) | (with_reducible show wpAny _ _ (call (Value.ref 48) _ _) _ _ _)); refine stopHere ?_)
  k_with "my CompRestT" => (k_here; refine stopHere ?_)
  k_with "my CompRest" => (k_here; refine stopHere ?_)
  k_with "my SrcK" => (k_here; refine stopHere ?_)
  k_with "my pyIter ref" => (k_here; refine stopHere ?_)
  k_with "my exec Assign cons ListComp" => (k_here; (first
  | k_dflt (refine Assign_cell (by rfl) ?_)
  | ((with_reducible show wpAny _ _ (exec (Stmt.Assign _ (Expr.ListComp _ [⟨_, _, [], _⟩] _ _) _) _) _ _ _); k_dflt (refine Assign_listComp_K (F₀ := by k_asm) (by rfl) (by intro _ _; rfl) (by intro _; rfl) (by rfl) (by rfl) (by with_unfolding_all rfl) (by with_unfolding_all rfl) (by rfl) (by decide) (by rfl) ?_))
  | (lct_look; k_dflt (refine LCt.Assign_ListComp_T (F₀ := by k_asm) (by rfl) (by with_unfolding_all rfl) (by with_unfolding_all rfl) (by decide) (by rfl) (by decide) (by rfl) (by rfl) (by rfl) ?_))))
  k_with "my CompSrcT" => (k_here; k_dflt (refine LCt.CompSrcT.ledger (by rfl) (by k_asm) (by k_asm) (by k_mem) (by exact ints_fit (by assumption) (by first | assumption | omega)) ?_; intro g'))
  k_with "my CompSrc" => (k_here; k_dflt (refine LCg.CompSrc.ledger (by rfl) (by k_asm) (by k_asm) (by k_mem) (by exact ints_fit (by assumption) (by first | assumption | omega)) ?_; intro g'))
  k_with "my eval Name" => (k_here; (with_reducible show wpAny _ _ (eval (Expr.Name _ _) (compEnvC _ _ _ (compEnvC _ _ _ _))) _ _ _); k_dflt (first
  | (refine' ld_localN ?mn1 ?mn2 ?mn3 ?mn4 ?mn5 ?mn6 ?_ ?mn7; (case mn2 => rfl); (case mn1 => k_asm); (case mn3 => rfl); (case mn4 => k_mem); (case mn5 => assumption); (case mn6 => assumption); (case mn7 => decide); k_whole)
  | (refine' ld_freeN ?mn1 ?mn2 ?mn3 ?mn4 ?mn5 ?mn6 ?_ ?mn7 ?mn8; (case mn2 => rfl); (case mn1 => k_asm); (case mn3 => rfl); (case mn4 => rfl); (case mn5 => k_mem); (case mn6 => first | assumption | rfl); (case mn7 => decide); (case mn8 => decide); k_whole)))
  k_with "my compareOp NotEq ref ref" => (k_here; (with_reducible show wpAny _ _ (compareOp CmpOp.NotEq (Value.ref _) (Value.ref _)) _ _ _); (with_unfolding_all refine' ne_sameK ?mq1 ?mq2 ?mq3 ?mq4 ?mq5 ?_; (case mq1 => exact News.isList (by k_asm) (by k_mem)); (case mq2 => assumption); (case mq3 => exact News.isList (by k_asm) (by k_mem)); (case mq4 => assumption); (case mq5 => ktr_units); k_whole))
  k_with "my subscriptTail Name UnaryOp ref int" => (k_here; (with_reducible show wpAny _ _ (subscriptTail _ _ (Value.ref _) (Value.int _ _)) _ _ _); (with_unfolding_all refine' item_last ?ml1 ?ml2 ?ml3 ?ml4 ?_ ?ml5; (case ml1 => exact News.isList (by k_asm) (by k_mem)); (case ml2 => assumption); (case ml3 => omega); (case ml4 => assumption); (case ml5 => with_unfolding_all rfl); k_whole); intro _)
  k_with "my subscriptTail Name Slice ref ref" => (k_here; (with_reducible show wpAny _ _ (subscriptTail _ (PySem.Expr.Slice none none (some _) _) (Value.ref _) (Value.ref _)) _ _ _); k_dflt (refine' krv_ints ?mF ?mN ?ml ?mk ?mi ?_ ?ms ?mt ?mz; (case mF => k_asm); (case mN => k_asm); (case ml => exact News.isList (by k_asm) (by k_mem)); (case mk => exact IsPart.int _ _); (case mi => assumption); (case ms => with_unfolding_all rfl); (case mt => kmk_pure); (case mz => exact ints_fit (by assumption) (by first | assumption | omega))); intro D' ws' h' F' N' l1 hI' hC'; (try k_lt l1); (try k_sweep))
  k_with "my compareOp Eq ref ref" => (k_here; (with_reducible show wpAny _ _ (compareOp CmpOp.Eq (Value.ref _) (Value.ref _)) _ _ _); (with_unfolding_all refine' eq_intsK ?mq1 ?mq2 ?mq3 ?mq4 ?mq5 ?_; (case mq1 => exact News.isList (by k_asm) (by k_mem)); (case mq2 => assumption); (case mq3 => exact News.isList (by k_asm) (by k_mem)); (case mq4 => assumption); (case mq5 => ktr_units); k_whole))
  k_with "my call builtin:len" => (k_here; (with_reducible show wpAny _ _ (call (Value.builtin "len") [Value.ref _]) _ _ _); k_dflt (refine' len_intsB ?mm1 ?mm2 ?mm3 ?_; (case mm1 => exact News.isList (by k_asm) (by k_mem)); (case mm2 => assumption); (case mm3 => assumption); k_whole))
  unfold Does
  k_fill
  intro mean mg mb dp un gd cn cs a ccd cl outer A₀ base h₀ L m s Q E B F X N T hkd9 hdp9 hun9 hret
  refine wpAny_call ?_
  k_dflt (refine' code_defC ?ze1 ?ze2 ?ze3 ?ze4 ?ze5 ?zeA ?zeF ?zeK ?ze6 ?ze7 ?ze8 ?ze9 ?zeB ?zeD ?_ ?zc2 ?zc3 ?zc4; (case zeA => exact rfl); (case zeF => exact rfl); (case zeK => assumption); (case ze1 => k_asm); (case ze2 => k_asm); (case ze3 => k_asm); (case ze4 => k_asm); (case ze5 => k_asm); (case ze6 => k_is); (case ze7 => k_is); (case ze8 => ktr_room); (case ze9 => first | exact BindsTo.of_eq rfl | (refine' kp_binds ?zkx ?zke; (case zkx => k_in); (case zke => exact fun _ => rfl))); (case zeB => exact rfl); (case zeD => decide +kernel); (case zc2 => exact rfl); (case zc3 => exact rfl); (case zc4 => exact rfl); k_whole)
  intro g1 L1 h1 tk1 cells1 FG1 F1 N1 Y1 B1 X1 T1 l1
  (try k_lt l1)
  (try have lc1 := allLt_up l1)
  (try have lc2 := allLt_up lc1)
  (try have lc3 := allLt_up lc2)
  (try have lc4 := allLt_up lc3)
  (try have lc5 := allLt_up lc4)
  (try have lc6 := allLt_up lc5)
  k_cells Y1
  (try simp only [List.cons_append, List.nil_append] at N1)
  (try dsimp only)
  (try k_fold)
  (replace F1 : Fr _ _ _ (fun z9 => if z9 = Str.ofString "coins" then some (Value.ref l) else none) := F1)
  (rename Obj.data _ = Data.cell (bindC _ _ _ (Str.ofString "least")) => dz9)
  replace dz9 : ∃ v, Obj.data _ = Data.cell v := ⟨_, dz9⟩
  obtain ⟨vz_least, dz_least⟩ := dz9
  (rename Obj.data _ = Data.cell (bindC _ _ _ (Str.ofString "paid")) => dz9)
  replace dz9 : ∃ v, Obj.data _ = Data.cell v := ⟨_, dz9⟩
  obtain ⟨vz_paid, dz_paid⟩ := dz9
  (rename Obj.data _ = Data.cell (bindC _ _ _ (Str.ofString "price")) => dz9)
  replace dz9 : ∃ v, Obj.data _ = Data.cell v := ⟨_, dz9⟩
  obtain ⟨vz_price, dz_price⟩ := dz9
  (rename Obj.data _ = Data.cell (bindC _ _ _ (Str.ofString "row")) => dz9)
  replace dz9 : ∃ v, Obj.data _ = Data.cell v := ⟨_, dz9⟩
  obtain ⟨vz_row, dz_row⟩ := dz9
  (rename Obj.data _ = Data.cell (bindC _ _ _ (Str.ofString "top")) => dz9)
  replace dz9 : ∃ v, Obj.data _ = Data.cell v := ⟨_, dz9⟩
  obtain ⟨vz_top, dz_top⟩ := dz9
  (rename Obj.data _ = Data.cell (bindC _ _ _ (Str.ofString "gap")) => dz9)
  replace dz9 : ∃ v, Obj.data _ = Data.cell v := ⟨_, dz9⟩
  obtain ⟨vz_gap, dz_gap⟩ := dz9
  k_steps
  rw [he]
  ((refine Stop.mk ?_); (k_dflt (refine' does_use (prices _ _ _ [ca, cb, cc] _ _ _ _ P hP9 ?mhl hi ?mhn ?mhc ?mhe) ?mud1 ?mud2 ?mud3 ?mud4 ?mud5 ?mudK ?mudd ?mudu ?_)); (case mud1 => k_asm); (case mud2 => k_asm); (case mud3 => k_asm); (case mud4 => k_asm); (case mud5 => k_asm); (case mudK => first | exact rfl | assumption); (case mudd => ktr_room); (case mudu => ktr_units))
  case mhl => k_mem
  case mhn => simp
  case mhc => simp only [List.mem_cons, List.not_mem_nil, or_false, forall_eq_or_imp, forall_eq]; omega
  case mhe => omega
  rintro _ _ h' tk' ⟨lp, np, e1, e2, hlp⟩ F' N'
  subst e1; subst e2
  rw [Int.toNat_natCast] at N'
  (try k_lt hlp)
  k_steps
  refine Stop.mk (comp_restT _ P (fun j y => ∃ t, y = .int (j : Int) t) trivial ?ztest1 ?zelem1 ?zfin1)
  case ztest1 =>
    intro j v I2 oI2 C oC D ys m2 h2 tk2 E2 hj hv hC hx F7 N7
    obtain ⟨tv, rfl⟩ := hv
    k_steps
    refine ctest ?_ (by assumption) (by assumption) (fun p hp => hp)
    simp
  case zelem1 =>
    intro j v I2 oI2 C oC D ys m2 h2 tk2 E2 hj hp hv hC hx F7 N7
    obtain ⟨tv, rfl⟩ := hv
    k_steps
    refine celt ⟨tv, by rw [Int.zero_add]⟩ (by assumption) (by assumption) (fun p hp => hp)
  case zfin1 =>
    intro ysR hys
    have hI1 := picks_ints (fun _ _ h => h) hys
    clear hys
    have hrow2 : ((List.range (((e + 1 : Nat) : Int) - 0).toNat).filter P).map (fun (i : Nat) => (i : Int)) = row := by rw [← hrow]; congr 3
    rw [hrow2] at hI1
    k_steps
    rename IsRange _ _ _ _ _ _ _ _ => rgX
    refine Stop.mk ?_
    refine' srcK (n := (least - 0).toNat) (fun j y => ∃ t, y = .int (runs.getD j 0) t) ?zsh ?zsF ?zsN rgX ?zss ?zsn ?zsz ?zse ?zsf
    case zsh => rfl
    case zsF => k_asm
    case zsN => k_asm
    case zss => exact small_one (by omega) (by omega) (by omega) (by omega)
    case zsn => exact rangeSize_nat _ _
    case zsz => rw [sizeLine_eq]; omega
    case zse =>
      intro i v I2 oI2 C oC K D ys h2 tk2 E2 hj hv ho3 hoK hne1 hne2 F7 N7
      obtain ⟨tv, rfl⟩ := hv
      rw [Int.zero_add] at N7 ⊢
      have hmi := hruns i (by rw [Int.sub_zero] at hj; exact hj)
      rw [← filter_getD] at hmi
      k_steps
      refine Stop.mk (comp_restT _ (fun j => (row.getD j 0).fmod least == (i : Int)) (fun j y => ∃ t, y = .int (row.getD j 0) t) (by lcg_src) ?ztest2 ?zelem2 ?zfin2)
      case ztest2 =>
        intro j v I3 oI3 C3 oC3 D3 ys3 m3 h3 tk3 E3 hj3 hv3 hC3 hx3 F6 N6
        obtain ⟨hjl, tv3, rfl⟩ := ints_item hI1 hv3
        have hb3 := hrb _ (getD_in hjl)
        generalize row.getD j 0 = pj at hx3 hb3 ⊢
        k_steps
        refine ctest rfl (by assumption) (by assumption) (fun p hp => hp)
      case zelem2 =>
        intro j v I3 oI3 C3 oC3 D3 ys3 m3 h3 tk3 E3 hj3 hp3 hv3 hC3 hx3 F6 N6
        obtain ⟨hjl, tv3, rfl⟩ := ints_item hI1 hv3
        k_steps
        refine celt ⟨_, rfl⟩ (by assumption) (by assumption) (fun p hp => hp)
      case zfin2 =>
        intro ys3 hys3
        have hI3 := picks_ints (fun _ _ h => h) hys3
        clear hys3
        rw [List.size_toArray, hI1.length] at hI3
        k_steps
        refine celt ⟨_, rfl⟩ (by assumption) (by assumption) (fun p hp => .tail _ hp)
    case zsf =>
      intro ys hys
      have hI2 := picks_ints (fun _ _ h => h) hys
      clear hys
      rw [range_getD runs _ (by rw [Int.sub_zero]; exact hrl)] at hI2
      k_steps
      rename_i no4 no5 un70 no7 un68 un67 un66 un65 un64 un63 un62 un61 un60 no9 un58 un57 un56 un55 un54 un53 un52 un51 un50 un49 un48 un47 no8 un45 un44 un43 un42 un41 un40 un39 un38 un37 un36 un35 na2 un33 un32 un31 un30 no6 un28 un27 un26 un25 un24 un23 un22 un21 un20 un19 na1 un17 un16 un15 na0 un13 un12 un11 un10 un9 un8 un7 un6 un5 un4 un3 un2 un1 un0
      have qz2 : @LT.lt Nat _ na2 na0 := by first | assumption | omega
      have qz3 : @LT.lt Nat _ (L1 + (1 : Addr) + (1 : Addr) + (1 : Addr) + (1 : Addr) + (1 : Addr) + (1 : Addr)) na0 := by first | assumption | omega
      have qw1 : @Ne Nat na2 (L1 + (1 : Addr)) := fun e => un31.2.2.2.2.2.2.1 e.symm
      have qw2 : @Ne Nat na2 (L1 + (1 : Addr) + (1 : Addr)) := fun e => un31.2.2.2.2.2.1 e.symm
      have qw3 : @Ne Nat na2 (L1 + (1 : Addr) + (1 : Addr) + (1 : Addr)) := fun e => un31.2.2.2.2.1 e.symm
      have qw4 : @Ne Nat na2 (L1 + (1 : Addr) + (1 : Addr) + (1 : Addr) + (1 : Addr)) := fun e => un31.2.2.2.1 e.symm
      have qw5 : @Ne Nat na2 (L1 + (1 : Addr) + (1 : Addr) + (1 : Addr) + (1 : Addr) + (1 : Addr)) := fun e => un31.2.2.1 e.symm
      have qw6 : @Ne Nat na2 (L1 + (1 : Addr) + (1 : Addr) + (1 : Addr) + (1 : Addr) + (1 : Addr) + (1 : Addr)) := fun e => un31.2.1 e.symm
      have qv1 : @Ne Nat na1 (L1 + (1 : Addr)) := fun e => un15.2.2.2.2.2.2.2.1 e.symm
      have qv2 : @Ne Nat na1 (L1 + (1 : Addr) + (1 : Addr)) := fun e => un15.2.2.2.2.2.2.1 e.symm
      have qv3 : @Ne Nat na1 (L1 + (1 : Addr) + (1 : Addr) + (1 : Addr)) := fun e => un15.2.2.2.2.2.1 e.symm
      have qv4 : @Ne Nat na1 (L1 + (1 : Addr) + (1 : Addr) + (1 : Addr) + (1 : Addr)) := fun e => un15.2.2.2.2.1 e.symm
      have qv5 : @Ne Nat na1 (L1 + (1 : Addr) + (1 : Addr) + (1 : Addr) + (1 : Addr) + (1 : Addr)) := fun e => un15.2.2.2.1 e.symm
      have qv6 : @Ne Nat na1 (L1 + (1 : Addr) + (1 : Addr) + (1 : Addr) + (1 : Addr) + (1 : Addr) + (1 : Addr)) := fun e => un15.2.2.1 e.symm
      (rename News _ _ _ _ => NE0)
      have hof0 := hof_of NE0 (by simp only [AllLt]; repeat (first | assumption | refine And.intro (by first | assumption | omega) ?_))
      refine Stop.mk ?_
      refine' loop_list (vs := ys) (fun i m' nw => m' (Str.ofString "ranked") = some (.ref na0) ∧ m' (Str.ofString "runs") = some (.ref na1) ∧ m' (Str.ofString "coins") = some (.ref l) ∧ ∃ vr nr o3 v3, nw = (na0, listOf (List.toArray vr) nr) :: (na1, LCg.lst ys) :: (na2, LCg.lst ysR) :: (lp, W.listOf (List.map (fun i => Value.bool (P i)) (List.range (e + 1))).toArray np) ::
            ((L1 + (1 : Addr) + (1 : Addr) + (1 : Addr) + (1 : Addr) + (1 : Addr) + (1 : Addr)), no4) :: ((L1 + (1 : Addr) + (1 : Addr) + (1 : Addr) + (1 : Addr) + (1 : Addr)), no5) :: ((L1 + (1 : Addr) + (1 : Addr) + (1 : Addr) + (1 : Addr)), no6) :: ((L1 + (1 : Addr) + (1 : Addr) + (1 : Addr)), o3) :: ((L1 + (1 : Addr) + (1 : Addr)), no8) :: ((L1 + (1 : Addr)), no9) :: news ∧ IntsAre vr (insF (runs.take i)) ∧ o3.data = .cell v3) ?zlh ?zlF NE0 (.tail _ (.head _)) ?zl0 ?zlk ?zlt ?zld
      case zlh => rfl
      case zlF => k_asm
      case zl0 => exact ⟨rfl, rfl, rfl, [], _, _, _, rfl, .nil, by assumption⟩
      case zlk =>
        rintro i m' nw ⟨_, _, _, vr, nr, o3, v3, rfl, _⟩
        exact .tail _ (.head _)
      case zlt =>
        intro I o i v m' nw h tk hI hv ha hJ F9 N9
        obtain ⟨hm1, hm2, hm3, vr, nr, o3, v3, rfl, hvr, ho3⟩ := hJ
        obtain ⟨hil, tv, rfl⟩ := ints_item hI2 (by simpa using hv)
        have hs := insF_succ hil
        have hok := insF_ok (runs.take i)
        rw [List.length_take] at hok
        have hof1 := ne_map hof0 (congrArg List.tail ha)
        have F8 := fr_known [(Str.ofString "ranked", Value.ref na0), (Str.ofString "runs", .ref na1), (Str.ofString "coins", .ref l)]
          (List.forall_mem_cons.mpr ⟨hm1, List.forall_mem_cons.mpr ⟨hm2, List.forall_mem_cons.mpr ⟨hm3, List.forall_mem_nil _⟩⟩⟩) F9
        dsimp only [kstB] at F8
        clear F9 hm1 hm2 hm3
        (try k_lt hI)
        (try k_fold)
        k_steps
        (rename News _ _ _ _ => NE)
        have NE9 := swap01 NE
        clear NE
        ((refine Stop.mk ?_); (k_dflt (refine' does_use (insort _ na0 vr _ nr _ _ _ ?mhof hvr ?mhlen hok.1) ?mud1 ?mud2 ?mud3 ?mud4 ?mud5 ?mudK ?mudd ?mudu ?_)); (case mud1 => k_asm); (case mud2 => k_asm); (case mud3 => k_asm); (case mud4 => k_asm); (case mud5 => k_asm); (case mudK => first | exact rfl | assumption); (case mudd => ktr_room); (case mudu => ktr_units))
        case mhof => exact List.forall_mem_cons.mpr ⟨by refine neN ?_; dsimp only; omega, ne_map hof1 rfl⟩
        case mhlen => omega
        rintro _ _ h' tk' ⟨e1, vr2, nr2, e2, hvr2⟩ F' N'
        subst e1; subst e2
        rw [← hs] at hvr2
        k_steps
        (rename News _ _ _ _ => NE)
        show TEnd _ _ _ _ _ _ _ _
        refine tend _ (by assumption) NE (.tail _ (.head _)) (fun p hp => (List.mem_cons.mp hp).elim (fun e => e ▸ .head _) (fun hp => .tail _ (.tail _ hp))) rfl ⟨rfl, rfl, rfl, vr2, _, _, _, rfl, hvr2, by assumption⟩
      case zld =>
        intro m' nw h tk hJ F9 N9
        obtain ⟨hm1, hm2, hm3, vr, nr, o3, v3, rfl, hvr, ho3⟩ := hJ
        have F8 := fr_known [(Str.ofString "ranked", Value.ref na0), (Str.ofString "runs", .ref na1), (Str.ofString "coins", .ref l)]
          (List.forall_mem_cons.mpr ⟨hm1, List.forall_mem_cons.mpr ⟨hm2, List.forall_mem_cons.mpr ⟨hm3, List.forall_mem_nil _⟩⟩⟩) F9
        dsimp only [kstB] at F8
        clear F9 hm1 hm2 hm3
        rw [hI2.length, List.take_length, hrk] at hvr
        k_steps
        refine Stop.mk (comp_restT _ (fun j => decide (row.getD j 0 < least) || !P (row.getD j 0 - least).toNat) (fun j y => ∃ t, y = .int (row.getD j 0) t) (by lcg_src) ?ztest3 ?zelem3 ?zfin3)
        case ztest3 =>
          intro j v I3 oI3 C3 oC3 D3 ys3 m3 h3 tk3 E3 hj3 hv3 hC3 hx3 F6 N6
          obtain ⟨hjl, tv3, rfl⟩ := ints_item hI1 hv3
          have hb3 := hrb _ (getD_in hjl)
          generalize row.getD j 0 = pj at hx3 hb3 ⊢
          k_steps
          all_goals refine ctest ?_ (by assumption) (by assumption) (fun p hp => hp)
          all_goals first
            | (have hq : pj < least := by assumption
               simp [hq]; done)
            | (have hq : ¬ pj < least := by assumption
               have hr : P (pj - least).toNat = true := by assumption
               simp [hq, hr]; done)
            | (have hq : ¬ pj < least := by assumption
               have hr : P (pj - least).toNat = false := by assumption
               simp [hq, hr]; done)
        case zelem3 =>
          intro j v I3 oI3 C3 oC3 D3 ys3 m3 h3 tk3 E3 hj3 hp3 hv3 hC3 hx3 F6 N6
          obtain ⟨hjl, tv3, rfl⟩ := ints_item hI1 hv3
          k_steps
          refine celt ⟨_, rfl⟩ (by assumption) (by assumption) (fun p hp => hp)
        case zfin3 =>
          intro ysF hys
          have hI4 := picks_ints (fun _ _ h => h) hys
          clear hys
          rw [List.size_toArray, hI1.length, filter_getD (fun p => decide (p < least) || !P (p - least).toNat) row, hrk2] at hI4
          k_steps
          ((refine Stop.mk ?_); (k_dflt (refine' does_use (words _ lp np (e + 1) (top - least) _ _ P ?mhwl ?mhwg ?mhwn) ?mud1 ?mud2 ?mud3 ?mud4 ?mud5 ?mudK ?mudd ?mudu ?_)); (case mud1 => k_asm); (case mud2 => k_asm); (case mud3 => k_asm); (case mud4 => k_asm); (case mud5 => k_asm); (case mudK => first | exact rfl | assumption); (case mudd => ktr_room); (case mudu => ktr_units))
          case mhwl => k_mem
          case mhwg => omega
          case mhwn => omega
          rintro _ _ h' tk' ⟨lw3, tw1, tw2, e1, e2, hlw3⟩ F' N'
          subst e1; subst e2
          rw [hkw, hlw] at N'
          (try k_lt hlw3)
          k_steps
          ((refine Stop.mk ?_); (k_dflt (refine' does_use (bisL _ _ ysR row _ _ _ _ ?mhbl hI1 ?mhbn hrs) ?mud1 ?mud2 ?mud3 ?mud4 ?mud5 ?mudK ?mudd ?mudu ?_)); (case mud1 => k_asm); (case mud2 => k_asm); (case mud3 => k_asm); (case mud4 => k_asm); (case mud5 => k_asm); (case mudK => first | exact rfl | assumption); (case mudd => ktr_room); (case mudu => ktr_units))
          case mhbl => k_mem
          case mhbn => omega
          rintro _ _ h' tk' ⟨e1, tb1, e2⟩ F' N'
          subst e1; subst e2
          rw [hbel]
          k_steps
          ((refine Stop.mk ?_); (k_dflt (refine' does_use (ones _ kw.toArray _ _ hkok.1 hkok.2) ?mud1 ?mud2 ?mud3 ?mud4 ?mud5 ?mudK ?mudd ?mudu ?_)); (case mud1 => k_asm); (case mud2 => k_asm); (case mud3 => k_asm); (case mud4 => k_asm); (case mud5 => k_asm); (case mudK => first | exact rfl | assumption); (case mudd => ktr_room); (case mudu => ktr_units))
          rintro _ _ h' tk' ⟨e1, to1, e2⟩ F' N'
          subst e1; subst e2
          rw [List.toList_toArray, hokw]
          k_steps
          all_goals (try (exact absurd (Eq.refl below) (by assumption)))
          ((refine Stop.mk ?_); (k_dflt (refine' does_use (ones _ lw.toArray _ _ hlok.1 hlok.2) ?mud1 ?mud2 ?mud3 ?mud4 ?mud5 ?mudK ?mudd ?mudu ?_)); (case mud1 => k_asm); (case mud2 => k_asm); (case mud3 => k_asm); (case mud4 => k_asm); (case mud5 => k_asm); (case mudK => first | exact rfl | assumption); (case mudd => ktr_room); (case mudu => ktr_units))
          rintro _ _ h' tk' ⟨e1, to2, e2⟩ F' N'
          subst e1; subst e2
          rw [List.toList_toArray, holw]
          k_steps
          all_goals (try (exact absurd (Eq.refl (top - least + 1 - below)) (by assumption)))
          ((refine Stop.mk ?_); (k_dflt (refine' does_use (lead _ _ ys runs _ _ ?mhl1 hI2 ?mhl2 ?mhl3) ?mud1 ?mud2 ?mud3 ?mud4 ?mud5 ?mudK ?mudd ?mudu ?_)); (case mud1 => k_asm); (case mud2 => k_asm); (case mud3 => k_asm); (case mud4 => k_asm); (case mud5 => k_asm); (case mudK => first | exact rfl | assumption); (case mudd => ktr_room); (case mudu => ktr_units))
          case mhl1 => k_mem
          case mhl2 => exact hrl7
          case mhl3 => exact hrb7
          rintro _ _ h' tk' ⟨x1, dd1, D1, E1, cv1, X1', t10, k10, k11, k12, k13, k14, tb1', tn1, tt1, sb1, e1, e2, hcv1, hlE1, hlx1, hld1⟩ F' N'
          subst e1; subst e2
          rw [hst1] at N' hcv1
          k_steps
          refine Stop.mk (comp_rest _ (fun j y => ∃ t, y = .int (top - runs.getD j 0) t) (by lcg_src) ?zelem4 ?zfin4)
          case zelem4 =>
            intro j v I3 oI3 C3 oC3 D3 ys3 m3 h3 tk3 E3 hj3 hv3 hC3 hx3 F6 N6
            obtain ⟨hjl, tv3, rfl⟩ := ints_item hI2 hv3
            have hb3 := hrb7 _ (getD_in hjl)
            generalize runs.getD j 0 = pj at hx3 hb3 ⊢
            k_steps
            refine celt ⟨_, rfl⟩ (by assumption) (by assumption) (fun p hp => hp)
          case zfin4 =>
            intro ysM hys
            have hI5 := picks_ints (fun _ _ h => h) hys
            clear hys
            rw [map_getD2 runs (fun p => top - p) _ (by rw [List.size_toArray, hI2.length])] at hI5
            k_steps
            ((refine Stop.mk ?_); (k_dflt (refine' does_use (lead _ _ ysM (runs.map (fun p => top - p)) _ _ ?mhm1 hI5 ?mhm2 hmb7) ?mud1 ?mud2 ?mud3 ?mud4 ?mud5 ?mudK ?mudd ?mudu ?_)); (case mud1 => k_asm); (case mud2 => k_asm); (case mud3 => k_asm); (case mud4 => k_asm); (case mud5 => k_asm); (case mudK => first | exact rfl | assumption); (case mudd => ktr_room); (case mudu => ktr_units))
            case mhm1 => k_mem
            case mhm2 => rw [List.length_map]; exact hrl7
            rintro _ _ h' tk' ⟨x2, dd2, D2, E2, cv2, X2', t20, k20, k21, k22, k23, k24, tb2', tn2, tt2, sb2, e1, e2, hcv2, hlE2, hlx2, hld2⟩ F' N'
            subst e1; subst e2
            rw [hst2] at N' hcv2
            k_steps
            ((refine Stop.mk ?_); (k_dflt (refine' does_use (indent _ x1 dd1 D1 E1 cv1 st X1' t10 k10 k11 k12 k13 k14 tb1' tn1 tt1 sb1 least _ _ ?mhi1 ?mhi2 ?mhi3 ?mhi4 hcv1 hc6 hl77) ?mud1 ?mud2 ?mud3 ?mud4 ?mud5 ?mudK ?mudd ?mudu ?_)); (case mud1 => k_asm); (case mud2 => k_asm); (case mud3 => k_asm); (case mud4 => k_asm); (case mud5 => k_asm); (case mudK => first | exact rfl | assumption); (case mudd => ktr_room); (case mudu => ktr_units))
            case mhi1 => k_mem
            case mhi2 => k_mem
            case mhi3 => k_mem
            case mhi4 => k_mem
            rintro _ _ h' tk' ⟨e1, ti1, e2⟩ F' N'
            subst e1; subst e2
            rw [hind]
            k_steps
            all_goals (try (exact absurd (Eq.refl (least * (top - least + 1 - below + least))) (by assumption)))
            all_goals (try (exact absurd hsn (by assumption)))
            ((refine Stop.mk ?_); (k_dflt (refine' does_use (parted _ _ _ ca cb cc _ _ ?mhp hi hca hcb hcc) ?mud1 ?mud2 ?mud3 ?mud4 ?mud5 ?mudK ?mudd ?mudu ?_)); (case mud1 => k_asm); (case mud2 => k_asm); (case mud3 => k_asm); (case mud4 => k_asm); (case mud5 => k_asm); (case mudK => first | exact rfl | assumption); (case mudd => ktr_room); (case mudu => ktr_units))
            case mhp => k_mem
            rintro _ _ h' tk' ⟨e1, e2⟩ F' N'
            subst e1; subst e2
            rw [hpt]
            k_steps
            ((refine Stop.mk ?_); (k_dflt (refine' does_use (equal _ x1 dd1 D1 E1 x2 dd2 D2 E2 cv1 cv2 st st2 X1' X2' t10 k10 k11 k12 k13 k14 tb1' tn1 tt1 t20 k20 k21 k22 k23 k24 tb2' tn2 tt2 sb1 sb2 _ ?mhe1 ?mhe2 ?mhe3 ?mhe4 hcv1 ?mhe5 ?mhe6 ?mhe7 ?mhe8 hcv2) ?mud1 ?mud2 ?mud3 ?mud4 ?mud5 ?mudK ?mudd ?mudu ?_)); (case mud1 => k_asm); (case mud2 => k_asm); (case mud3 => k_asm); (case mud4 => k_asm); (case mud5 => k_asm); (case mudK => first | exact rfl | assumption); (case mudd => ktr_room); (case mudu => ktr_units))
            case mhe1 => k_mem
            case mhe2 => k_mem
            case mhe3 => k_mem
            case mhe4 => k_mem
            case mhe5 => k_mem
            case mhe6 => k_mem
            case mhe7 => k_mem
            case mhe8 => k_mem
            rintro _ _ h' tk' ⟨e1, e2⟩ F' N'
            subst e1; subst e2
            rw [heq]
            iterate 6 (first | (k_unfold; (try dsimp only)) | (k_end; wrow_close) | walk1 | (dsimp only; walk1) | (leave1; walk_say "STEP leave1"; try dsimp only) | fail "no step")
            all_goals (try (exact absurd (bne_self_eq_false ans) (by simp only [‹(ans != ans) = true›]; decide)))
            iterate 11 (first | (k_unfold; (try dsimp only)) | (k_end; wrow_close) | walk1 | (dsimp only; walk1) | (leave1; walk_say "STEP leave1"; try dsimp only) | fail "no step")
            all_goals (try (rename ((_ == _) != ans) = true => hdd; rw [List.toList_toArray, List.toList_toArray, hkl, bne_self_eq_false] at hdd; cases hdd))
            iterate 17 (first | (k_unfold; (try dsimp only)) | (k_end; wrow_close) | walk1 | (dsimp only; walk1) | (leave1; walk_say "STEP leave1"; try dsimp only) | fail "no step")
            all_goals (try (rename ((_ == _) != ans) = true => hdd; rw [hbu, bne_self_eq_false] at hdd; cases hdd))
            k_steps
            (rename IntsAre _ (List.reverse _) => hIR)
            refine Stop.mk (comp_rest _ (fun j y => ∃ t, y = .int (top - ranked.reverse.getD j 0) t) (by lcg_src) ?zelem5 ?zfin5)
            case zelem5 =>
              intro j v I3 oI3 C3 oC3 D3 ys3 m3 h3 tk3 E3 hj3 hv3 hC3 hx3 F6 N6
              obtain ⟨hjl, tv3, rfl⟩ := ints_item hIR hv3
              generalize ranked.reverse.getD j 0 = pj at hx3 ⊢
              k_steps
              refine celt ⟨_, rfl⟩ (by assumption) (by assumption) (fun p hp => hp)
            case zfin5 =>
              intro ysV hys
              have hI6 := picks_ints (fun _ _ h => h) hys
              clear hys
              rw [map_getD2 ranked.reverse (fun p => top - p) _ (by rw [List.size_toArray, hIR.length])] at hI6
              k_steps
              all_goals (try (rename ((decide _) != ans) = true => hdd; rw [hrv, bne_self_eq_false] at hdd; cases hdd; done))
              rename_i uz168 uz167 uz166 uz165 uz164 uz163 uz162 uz161 uz160 uz159 uz158 uz157 za13 uz155 uz154 uz153 uz152 uz151 uz150 uz149 uz148 uz147 uz146 zo19 uz144 uz143 uz142 uz141 uz140 zo18 uz138 uz137 uz136 uz135 uz134 uz133 uz132 uz131 uz130 uz129 uz128 uz127 uz126 uz125 uz124 uz123 uz122 uz121 uz120 uz119 uz118 uz117 uz116 uz115 uz114 uz113 uz112 uz111 uz110 uz109 uz108 uz107 uz106 uz105 uz104 uz103 uz102 uz101 uz100 uz99 uz98 uz97 uz96 uz95 uz94 uz93 uz92 uz91 uz90 uz89 za7 uz87 uz86 uz85 uz84 uz83 uz82 uz81 uz80 uz79 uz78 uz77 uz76 uz75 uz74 uz73 uz72 uz71 uz70 uz69 uz68 uz67 uz66 uz65 uz64 uz63 uz62 uz61 uz60 uz59 uz58 uz57 uz56 uz55 uz54 uz53 uz52 uz51 uz50 uz49 uz48 uz47 uz46 uz45 uz44 uz43 uz42 uz41 uz40 uz39 uz38 uz37 uz36 uz35 uz34 za1 uz32 uz31 uz30 uz29 za0 uz27 uz26 uz25 uz24 uz23 uz22 uz21 uz20 uz19 uz18 uz17 uz16 uz15 uz14 uz13 uz12 uz11 uz10 uz9 uz8 uz7 uz6 uz5 uz4 uz3 uz2 uz1 uz0
              (rename News _ _ _ _ => NEz)
              have NT : News _ _ _ news := fun p hp => NEz p (by repeat (first | exact hp | refine List.mem_cons_of_mem _ ?_))
              have NS := news_cons NEz (.head _) (news_cons NEz (q := (na0, W.listOf (List.toArray vr) nr)) (by k_mem) (news_cons NEz (q := (na2, PyProof.Rows.LCg.lst ysR)) (by k_mem) (news_cons NEz (q := ((L1 + (1 : Addr) + (1 : Addr) + (1 : Addr) + (1 : Addr) + (1 : Addr) + (1 : Addr)), zo18)) (by k_mem) (news_cons NEz (q := ((L1 + (1 : Addr) + (1 : Addr) + (1 : Addr) + (1 : Addr) + (1 : Addr)), zo19)) (by k_mem) (news_cons NEz (q := ((L1 + (1 : Addr) + (1 : Addr) + (1 : Addr) + (1 : Addr)), no6)) (by k_mem)
                (news_cons NEz (q := ((L1 + (1 : Addr) + (1 : Addr) + (1 : Addr)), o3)) (by k_mem) (news_cons NEz (q := ((L1 + (1 : Addr) + (1 : Addr)), no8)) (by k_mem) (news_cons NEz (q := ((L1 + (1 : Addr)), no9)) (by k_mem) NT))))))))
              clear NT NEz
              have qz1 : @LT.lt Nat _ na0 za0 := by assumption
              have hll : (ranked.filter (lastQ ca cb cc least top row)).length ≤ 1000 := Nat.le_trans (List.length_filter_le ..) hrk9
              clear uz4 uz5 uz6 uz7 uz8 uz9 uz10 uz11 uz12 uz13 uz14 uz15 uz16 uz17 uz18 uz19 uz20 uz21 uz22 uz23 uz24 uz25 uz26 uz30 uz34 uz35 uz36 uz37 uz38 uz39 uz40 uz41 uz42 uz43 uz44 uz45 uz46 uz47 uz48 uz49 uz50 uz51 uz52 uz53 uz54 uz85 uz122 uz123 uz124 uz125 uz126 uz127 uz128 uz129 uz130 uz131 uz132 uz151 un4 un5 un6 un7 un8 un9 un10 un11 un12 un15 un31 un48 un49 un50 un51 un52 un53
              clear hind hsn heq hkl hbu hrv hpt hkw hlw hst1 hst2 hbel hokw holw
              refine Stop.mk ?_
              refine' loop_list (vs := vr) (fun i m' nw => m' (Str.ofString "ranked") = some (.ref na0) ∧ m' (Str.ofString "last") = some (.ref za0) ∧ m' (Str.ofString "coins") = some (.ref l) ∧ m' (Str.ofString "answer") = some (.bool ans) ∧ ∃ vl nl o3 v3, nw = (za0, W.listOf (List.toArray vl) nl) :: (na0, W.listOf (List.toArray vr) nr) :: (na2, PyProof.Rows.LCg.lst ysR) ::
                    ((L1 + (1 : Addr) + (1 : Addr) + (1 : Addr) + (1 : Addr) + (1 : Addr) + (1 : Addr)), zo18) :: ((L1 + (1 : Addr) + (1 : Addr) + (1 : Addr) + (1 : Addr) + (1 : Addr)), zo19) :: ((L1 + (1 : Addr) + (1 : Addr) + (1 : Addr) + (1 : Addr)), no6) :: ((L1 + (1 : Addr) + (1 : Addr) + (1 : Addr)), o3) :: ((L1 + (1 : Addr) + (1 : Addr)), no8) :: ((L1 + (1 : Addr)), no9) :: news ∧ IntsAre vl ((ranked.take i).filter (lastQ ca cb cc least top row)) ∧ o3.data = .cell v3) ?zlhb ?zlFb NS (.tail _ (.head _)) ?zl0b ?zlkb ?zltb ?zldb
              case zlhb => rfl
              case zlFb => k_asm
              case zl0b => exact ⟨rfl, rfl, rfl, rfl, [], _, _, _, rfl, .nil, by assumption⟩
              case zlkb =>
                rintro i m' nw ⟨_, _, _, _, vl, nl, o3, v3, rfl, _⟩
                exact .tail _ (.head _)
              case zltb =>
                intro I o i v m' nw h tk hI hv ha hJ F9 N9
                obtain ⟨hm1, hm2, hm3, hm4, vl, nl, o3, v3, rfl, hvl, ho3⟩ := hJ
                obtain ⟨hil, tv, rfl⟩ := ints_item hvr (by simpa using hv)
                have F8 := fr_known [(Str.ofString "ranked", Value.ref na0), (Str.ofString "last", .ref za0), (Str.ofString "coins", .ref l), (Str.ofString "answer", .bool ans)]
                  (List.forall_mem_cons.mpr ⟨hm1, List.forall_mem_cons.mpr ⟨hm2, List.forall_mem_cons.mpr ⟨hm3, List.forall_mem_cons.mpr ⟨hm4, List.forall_mem_nil _⟩⟩⟩⟩) F9
                dsimp only [kstB] at F8
                clear F9 hm1 hm2 hm3 hm4
                (try k_lt hI)
                have hfs := filter_take hil (lastQ ca cb cc least top row)
                generalize ranked.getD i 0 = pi at hfs ⊢
                (try k_fold)
                k_steps
                refine Stop.mk (comp_restT _ (fun j => !decide (top - least - top + pi + [ca, cb, cc].getD j 0 ∈ row)) (fun j y => ∃ t, y = .int ([ca, cb, cc].getD j 0) t) (by lcg_src) ?ztest6 ?zelem6 ?zfin6)
                case ztest6 =>
                  intro j v I3 oI3 C3 oC3 D3 ys3 m3 h3 tk3 E3 hj3 hv3 hC3 hx3 F6 N6
                  obtain ⟨hjl, tv3, rfl⟩ := ints_item hi hv3
                  generalize [ca, cb, cc].getD j 0 = cj at hx3 ⊢
                  k_steps
                  ((refine Stop.mk ?_); (k_dflt (refine' does_use (found _ na2 ysR row _ _ _ _ ?mhf hI1 ?mhfn hrs) ?mud1 ?mud2 ?mud3 ?mud4 ?mud5 ?mudK ?mudd ?mudu ?_)); (case mud1 => k_asm); (case mud2 => k_asm); (case mud3 => k_asm); (case mud4 => k_asm); (case mud5 => k_asm); (case mudK => first | exact rfl | assumption); (case mudd => ktr_room); (case mudu => ktr_units))
                  case mhf => k_mem
                  case mhfn => omega
                  rintro _ _ h' tk' ⟨e1, e2⟩ F' N'
                  subst e1; subst e2
                  k_steps
                  all_goals refine ctest ?_ (by assumption) (by assumption) (fun p hp => hp)
                  all_goals first | rfl | (simp [*]; done)
                case zelem6 =>
                  intro j v I3 oI3 C3 oC3 D3 ys3 m3 h3 tk3 E3 hj3 hp3 hv3 hC3 hx3 F6 N6
                  obtain ⟨hjl, tv3, rfl⟩ := ints_item hi hv3
                  k_steps
                  refine celt ⟨_, rfl⟩ (by assumption) (by assumption) (fun p hp => hp)
                case zfin6 =>
                  intro ysQ hys
                  have hI7 := picks_ints (fun _ _ h => h) hys
                  clear hys
                  rw [List.size_toArray, hi.length] at hI7
                  k_steps
                  · (rename decide _ = true => hq1)
                    rw [← lastQ_nil] at hq1
                    (rename News _ _ _ _ => NE)
                    simp only [List.push_toArray] at NE
                    have hvl2 : IntsAre (vl ++ [.int pi tv]) ((ranked.take (i + 1)).filter (lastQ ca cb cc least top row)) := by rw [hfs, if_pos hq1]; exact hvl.append (.cons _ _ .nil)
                    show TEnd _ _ _ _ _ _ _ _
                    refine tend _ (by assumption) NE (.tail _ (.tail _ (.head _))) (fun p hp => .tail _ (.tail _ (.tail _ hp))) rfl ⟨rfl, rfl, rfl, rfl, _, _, _, _, rfl, hvl2, by assumption⟩
                  · (rename decide _ = false => hq1)
                    rw [← lastQ_nil] at hq1
                    (rename News _ _ _ _ => NE)
                    have hvl2 : IntsAre vl ((ranked.take (i + 1)).filter (lastQ ca cb cc least top row)) := by rw [hfs, hq1, if_neg (by decide), List.append_nil]; exact hvl
                    show TEnd _ _ _ _ _ _ _ _
                    refine tend _ (by assumption) NE (.tail _ (.tail _ (.head _))) (fun p hp => .tail _ (.tail _ (.tail _ hp))) rfl ⟨rfl, rfl, rfl, rfl, _, _, _, _, rfl, hvl2, by assumption⟩
              case zldb =>
                intro m' nw h tk hJ F9 N9
                obtain ⟨hm1, hm2, hm3, hm4, vl, nl, o3, v3, rfl, hvl, ho3⟩ := hJ
                have F8 := fr_known [(Str.ofString "ranked", Value.ref na0), (Str.ofString "last", .ref za0), (Str.ofString "coins", .ref l), (Str.ofString "answer", .bool ans)]
                  (List.forall_mem_cons.mpr ⟨hm1, List.forall_mem_cons.mpr ⟨hm2, List.forall_mem_cons.mpr ⟨hm3, List.forall_mem_cons.mpr ⟨hm4, List.forall_mem_nil _⟩⟩⟩⟩) F9
                dsimp only [kstB] at F8
                clear F9 hm1 hm2 hm3 hm4
                rw [hvr.length, List.take_length] at hvl
                k_steps
                all_goals
                  (rename News _ _ _ _ => NE)
                  have NT : News _ _ _ news := fun p hp => NE p (by repeat (first | exact hp | refine List.mem_cons_of_mem _ ?_))
                  have hz := hlast
                  first
                    | (have hA : ans = true := by assumption
                       rw [hA, if_pos rfl] at hz)
                    | (have hA : ans = false := by assumption
                       rw [hA, if_neg (by decide)] at hz)
                    | (have hA : ¬ ans = true := by assumption
                       rw [if_neg hA] at hz)
                  rw [hz]
                  exact hret _ _ _ _ ⟨rfl, rfl⟩ (by assumption) NT

end
section
theorem picks_len {pz : Nat → Bool} {El : Nat → Value → Prop} : ∀ {n : Nat} {ys : List Value}, Picks pz El n ys → ys.length ≤ n := by
  intro n ys h
  induction h with
  | zero => exact Nat.le_refl _
  | take _ hp hE ih => rw [List.length_append, List.length_singleton]; omega
  | skip _ hp ih => omega
theorem fin_all : PySem.Challenge.rw_sn0038_01.Holds := by
  refine holds_law said1 fun said => ?_
  clear said
  refine holds_open (q := vw) (loose := [Str.ofString "_wall", Str.ofString "insort_right", Str.ofString "bisect_right", Str.ofString "bisect_left", Str.ofString "Int2AP", Str.ofString "Whitespace", Str.ofString "_law_common", Str.ofString "_law_coins", Str.ofString "_law_parted", Str.ofString "_law_prices", Str.ofString "_law_lead", Str.ofString "_law_number", Str.ofString "_law_read", Str.ofString "_law_ones", Str.ofString "_law_found", Str.ofString "_law_words", Str.ofString "_law_holds"]) (Xt := Xt0) (XP := XL vw []) (Yf := Hook.obs hk) (Ya := Hook.val hk) (YP := Hook.says hk) (N := 2216) left1 (Hook.of hk) (Hook.keeps hk) (fun s e => xl_of s (Bool.and_eq_true_iff.mp e).1) XL.keeps (by rfl) (by rfl) (by rfl) (fun s e => recFacts_of (Bool.and_eq_true_iff.mp e).2) (by rfl) said2 (by decide +kernel) ⟨rfl, rfl, rfl, rfl, rfl, by decide +kernel⟩ ?hw ?hc
  case hw => w_witness2
  delta hk
  k_with_none
  w_top off
  k_with "my execs cons" => (k_here; (first | ((with_reducible refine execs_consT ?_); intro tkQ; (try dsimp only); k_fold) | ((with_reducible refine wpAny_execs_cons ?_); (try dsimp only); k_fold)))
  k_with "my exec For Name Call cons nil" => (k_here; (with_unfolding_all refine' For_turns (by k_asm) ?_); k_whole)
  k_with "my exec For Name Name cons nil" => (k_here; (with_unfolding_all refine' For_turns (by k_asm) ?_); k_whole)
  k_with "my eval ListComp" => (k_here; lct_look; k_dflt (refine LCt.ListComp_T (F₀ := by k_asm) (by with_unfolding_all rfl) (by decide) (by rfl) (by decide) (by rfl) ?_))
  k_with "my eval ListComp" => (k_here; (first | lcg_look | lcf_look); k_dflt (refine LCg.ListComp_U (F₀ := by k_asm) (by with_unfolding_all rfl) (by decide) (by rfl) (by decide) (by rfl) ?_))
  k_with "my exec Assign cons ListComp" => (k_here; lct_look; k_dflt (refine LCt.Assign_ListComp_T (F₀ := by k_asm) (by rfl) (by with_unfolding_all rfl) (by with_unfolding_all rfl) (by decide) (by rfl) (by decide) (by rfl) (by rfl) (by rfl) ?_))
  k_with "my exec Assign cons ListComp" => (k_here; (first | lcg_look | lcf_look); k_dflt (refine LCg.Assign_ListComp_U (F₀ := by k_asm) (by rfl) (by with_unfolding_all rfl) (by with_unfolding_all rfl) (by decide) (by rfl) (by decide) (by rfl) (by rfl) (by rfl) ?_))
  k_with "my CompSrcT" => (k_here; k_dflt (first
  | (refine LCt.CompSrcT.ledger (by rfl) (by k_asm) (by k_asm) (by k_mem) (by first | kmk_size | (simp only [List.size_toArray, List.length_map, List.length_range, sizeLine_eq]; omega)) ?_; intro g')
  | (refine LCt.CompSrcT.range (by rfl) (by k_asm) (by k_asm) (by assumption) (by exact small_one (by omega) (by omega) (by omega) (by omega)) (by exact rangeSize_nat _ _) (by rw [sizeLine_eq]; omega) ?_; intro g')))
  k_with "my CompSrc" => (k_here; k_dflt (first
  | (refine LCg.CompSrc.ledger (by rfl) (by k_asm) (by k_asm) (by k_mem) (by first | kmk_size | (simp only [List.size_toArray, List.length_map, List.length_range, sizeLine_eq]; omega)) ?_; intro g')
  | (refine LCg.CompSrc.range (by rfl) (by k_asm) (by k_asm) (by assumption) (by exact small_one (by omega) (by omega) (by omega) (by omega)) (by exact rangeSize_nat _ _) (by rw [sizeLine_eq]; omega) ?_; intro g')))
  k_with "my CompRestT" => k_extra "comp"
  k_with "my CompRest" => k_extra "comp"
  k_with "my pyIter ref" => k_extra "loop"
  k_with "my subscriptTail" => (k_here; (with_reducible show wpAny _ _ (subscriptTail _ _ (Value.ref _) (Value.int _ _)) _ _ _); k_dflt (refine' item_bools ?mbl ?mb0 ?mb1 ?mbn ?_ ?mbs; (case mbl => exact News.isList (by k_asm) (by k_mem)); (case mb0 => omega); (case mb1 => omega); (case mbn => omega); (case mbs => with_unfolding_all rfl)))
  k_with "my compareOp Eq ref ref" => (k_here; (with_reducible show wpAny _ _ (compareOp CmpOp.Eq (Value.ref _) (Value.ref _)) _ _ _); (with_unfolding_all refine' eq_intsK ?mq1 ?mq2 ?mq3 ?mq4 ?mq5 ?_; (case mq1 => is_list); (case mq2 => l_intsC); (case mq3 => is_list); (case mq4 => l_intsC); (case mq5 => ktr_units); k_whole))
  k_with "my compareOp NotEq ref ref" => (k_here; (with_reducible show wpAny _ _ (compareOp CmpOp.NotEq (Value.ref _) (Value.ref _)) _ _ _); (with_unfolding_all refine' ne_intsK ?mq1 ?mq2 ?mq3 ?mq4 ?mq5 ?_; (case mq1 => is_list); (case mq2 => l_intsC); (case mq3 => is_list); (case mq4 => l_intsC); (case mq5 => ktr_units); k_whole))
  k_with "my exec For Name Attribute cons nil" => (k_here; (with_unfolding_all refine' For_turns (by k_asm) ?_); k_whole)
  k_with "my call ref" => (k_here; (with_reducible show wpAny _ _ (call (Value.ref 128) [Value.int _ _, Value.int _ _] _) _ _ _); (k_dflt (refine' does_use (common _ _ _ _ _ _ ?mchx ?mchy) ?mck1 ?mck2 ?mck3 ?mck4 ?mck5 ?mckK ?mckd ?mcku ?_)); (case mck1 => k_asm); (case mck2 => k_asm); (case mck3 => k_asm); (case mck4 => k_asm); (case mck5 => k_asm); (case mckK => first | exact rfl | assumption); (case mchx => first | omega | assumption | (k_fmods; omega)); (case mchy => first | omega | assumption | (k_fmods; omega)); (case mckd => ktr_room); (case mcku => ktr_units); (rintro _ _ h' tk' ⟨e1, ⟨hg9, hg8⟩, t9, e2⟩ F' N'; subst e1; subst e2); (try dsimp only); (try k_fold))
  k_with "my subscriptTail Name Slice ref ref" => (k_here; (with_reducible show wpAny _ _ (subscriptTail _ (PySem.Expr.Slice _ _ (some _) _) (Value.ref _) (Value.ref _)) _ _ _); k_dflt (refine' slice3_ints ?msF ?msN ?msl ?msi ?msp ?msq ?msk ?mso ?_ ?mss ?mst ?msz; (case msF => k_asm); (case msN => k_asm); (case msl => kmk_list); (case msi => assumption); (case msp => kmk_part); (case msq => kmk_part); (case msk => kmk_part); (case mso => decide); (case mss => with_unfolding_all rfl); (case mst => kmk_pure); (case msz => kmk_size)); intro D' h' ws' ks' F' N' l1 hks'; (try k_lt l1); (try k_sweep))
  k_with "my binaryOp FloorDiv int int" => (k_here; (try k_fmods); (with_reducible refine' floordiv_int ?mfb ?_ (Or.inl (PyProof.noPylong_small ?mfs)); (case mfb => omega); (case mfs => omega)))
  k_with "my call builtin:min" => (k_here; (with_reducible show wpAny _ _ (call (Value.builtin _) [Value.ref _]) _ _ _); (with_unfolding_all refine' min_of ?mn1 ?mn2 ?mn3 ?mn4 ?mn5 ?mn6 ?_; (case mn1 => k_asm); (case mn2 => k_asm); (case mn3 => is_list); (case mn4 => assumption); (case mn5 => assumption); (case mn6 => with_unfolding_all rfl); k_whole); intro h' t' k' F' N')
  k_with "my call builtin:max" => (k_here; (with_reducible show wpAny _ _ (call (Value.builtin _) [Value.ref _]) _ _ _); (with_unfolding_all refine' max_of ?mn1 ?mn2 ?mn3 ?mn4 ?mn5 ?mn6 ?_; (case mn1 => k_asm); (case mn2 => k_asm); (case mn3 => is_list); (case mn4 => assumption); (case mn5 => assumption); (case mn6 => with_unfolding_all rfl); k_whole); intro h' t' k' F' N')
  k_with "my call builtin:len" => (k_here; (with_reducible show wpAny _ _ (call (Value.builtin "len") [Value.ref _]) _ _ _); k_dflt (refine' len_map ?mm1 ?mm2 ?_; (case mm1 => exact News.isList (by k_asm) (by k_mem)); (case mm2 => omega); k_whole))
  k_with "my subscriptTail Name Name ref int" => (k_here; (with_reducible show wpAny _ _ (subscriptTail _ _ (Value.ref _) (Value.int _ _)) _ _ _); k_dflt (refine' item_bools ?mbl ?mb0 ?mb1 ?mbn ?_ ?mbs; (case mbl => exact News.isList (by k_asm) (by k_mem)); (case mb0 => omega); (case mb1 => omega); (case mbn => omega); (case mbs => with_unfolding_all rfl)))
  k_with "my subscriptTail Name BinOp ref int" => (k_here; (with_reducible show wpAny _ _ (subscriptTail _ _ (Value.ref _) (Value.int _ _)) _ _ _); k_dflt (refine' item_bools ?mbl ?mb0 ?mb1 ?mbn ?_ ?mbs; (case mbl => exact News.isList (by k_asm) (by k_mem)); (case mb0 => omega); (case mb1 => omega); (case mbn => omega); (case mbs => with_unfolding_all rfl)))
  k_with "my call ref" => (k_here; (first | (with_reducible show wpAny _ _ (call (Value.ref 135) _ _) _ _ _) | (with_reducible show wpAny _ _ (call (Value.ref 186) _ _) _ _ _) | (with_reducible show wpAny _ _ (call (Value.ref 145) _ _) _ _ _) | (with_reducible show wpAny _ _ (call (Value.ref 181) _ _) _ _ _) | (with_reducible show wpAny _ _ (call (Value.ref 169) _ _) _ _ _) | (with_reducible show wpAny _ _ (call (Value.ref 150) _ _) _ _ _) | (with_reducible show wpAny _ _ (call (Value.ref 86) _ _) _ _ _) | (with_reducible show wpAny _ _ (call (Value.ref 93) _ _) _ _ _) | (with_reducible show wpAny _ _ (call (Value.ref 140) _ _) _ _ _) | (with_reducible show wpAny _ _ (call (Value.ref 176) _ _) _ _ _) | (with_reducible show wpAny _ _ (call (Value.ref 30) _ _) _ _ _) | (with_reducible show wpAny _ _ (call (Value.ref 48) _ _) _ _ _)); refine stopHere ?_)
  k_with "my CompRestT" => (k_here; refine stopHere ?_)
  k_with "my CompRest" => (k_here; refine stopHere ?_)
  k_with "my SrcK" => (k_here; refine stopHere ?_)
  k_with "my pyIter ref" => (k_here; refine stopHere ?_)
  k_with "my exec Assign cons ListComp" => (k_here; (first
  | k_dflt (refine Assign_cell (by rfl) ?_)
  | ((with_reducible show wpAny _ _ (exec (Stmt.Assign _ (Expr.ListComp _ [⟨_, _, [], _⟩] _ _) _) _) _ _ _); k_dflt (refine Assign_listComp_K (F₀ := by k_asm) (by rfl) (by intro _ _; rfl) (by intro _; rfl) (by rfl) (by rfl) (by with_unfolding_all rfl) (by with_unfolding_all rfl) (by rfl) (by decide) (by rfl) ?_))
  | (lct_look; k_dflt (refine LCt.Assign_ListComp_T (F₀ := by k_asm) (by rfl) (by with_unfolding_all rfl) (by with_unfolding_all rfl) (by decide) (by rfl) (by decide) (by rfl) (by rfl) (by rfl) ?_))))
  k_with "my CompSrcT" => (k_here; k_dflt (refine LCt.CompSrcT.ledger (by rfl) (by k_asm) (by k_asm) (by k_mem) (by exact ints_fit (by assumption) (by first | assumption | omega)) ?_; intro g'))
  k_with "my CompSrc" => (k_here; k_dflt (refine LCg.CompSrc.ledger (by rfl) (by k_asm) (by k_asm) (by k_mem) (by exact ints_fit (by assumption) (by first | assumption | omega)) ?_; intro g'))
  k_with "my eval Name" => (k_here; (with_reducible show wpAny _ _ (eval (Expr.Name _ _) (compEnvC _ _ _ (compEnvC _ _ _ _))) _ _ _); k_dflt (first
  | (refine' ld_localN ?mn1 ?mn2 ?mn3 ?mn4 ?mn5 ?mn6 ?_ ?mn7; (case mn2 => rfl); (case mn1 => k_asm); (case mn3 => rfl); (case mn4 => k_mem); (case mn5 => assumption); (case mn6 => assumption); (case mn7 => decide); k_whole)
  | (refine' ld_freeN ?mn1 ?mn2 ?mn3 ?mn4 ?mn5 ?mn6 ?_ ?mn7 ?mn8; (case mn2 => rfl); (case mn1 => k_asm); (case mn3 => rfl); (case mn4 => rfl); (case mn5 => k_mem); (case mn6 => first | assumption | rfl); (case mn7 => decide); (case mn8 => decide); k_whole)))
  k_with "my compareOp NotEq ref ref" => (k_here; (with_reducible show wpAny _ _ (compareOp CmpOp.NotEq (Value.ref _) (Value.ref _)) _ _ _); (with_unfolding_all refine' ne_sameK ?mq1 ?mq2 ?mq3 ?mq4 ?mq5 ?_; (case mq1 => exact News.isList (by k_asm) (by k_mem)); (case mq2 => assumption); (case mq3 => exact News.isList (by k_asm) (by k_mem)); (case mq4 => assumption); (case mq5 => ktr_units); k_whole))
  k_with "my subscriptTail Name UnaryOp ref int" => (k_here; (with_reducible show wpAny _ _ (subscriptTail _ _ (Value.ref _) (Value.int _ _)) _ _ _); (with_unfolding_all refine' item_last ?ml1 ?ml2 ?ml3 ?ml4 ?_ ?ml5; (case ml1 => exact News.isList (by k_asm) (by k_mem)); (case ml2 => assumption); (case ml3 => omega); (case ml4 => assumption); (case ml5 => with_unfolding_all rfl); k_whole); intro _)
  k_with "my subscriptTail Name Slice ref ref" => (k_here; (with_reducible show wpAny _ _ (subscriptTail _ (PySem.Expr.Slice none none (some _) _) (Value.ref _) (Value.ref _)) _ _ _); k_dflt (refine' krv_ints ?mF ?mN ?ml ?mk ?mi ?_ ?ms ?mt ?mz; (case mF => k_asm); (case mN => k_asm); (case ml => exact News.isList (by k_asm) (by k_mem)); (case mk => exact IsPart.int _ _); (case mi => assumption); (case ms => with_unfolding_all rfl); (case mt => kmk_pure); (case mz => exact ints_fit (by assumption) (by first | assumption | omega))); intro D' ws' h' F' N' l1 hI' hC'; (try k_lt l1); (try k_sweep))
  k_with "my compareOp Eq ref ref" => (k_here; (with_reducible show wpAny _ _ (compareOp CmpOp.Eq (Value.ref _) (Value.ref _)) _ _ _); (with_unfolding_all refine' eq_intsK ?mq1 ?mq2 ?mq3 ?mq4 ?mq5 ?_; (case mq1 => exact News.isList (by k_asm) (by k_mem)); (case mq2 => assumption); (case mq3 => exact News.isList (by k_asm) (by k_mem)); (case mq4 => assumption); (case mq5 => ktr_units); k_whole))
  k_with "my call builtin:len" => (k_here; (with_reducible show wpAny _ _ (call (Value.builtin "len") [Value.ref _]) _ _ _); k_dflt (refine' len_intsB ?mm1 ?mm2 ?mm3 ?_; (case mm1 => exact News.isList (by k_asm) (by k_mem)); (case mm2 => assumption); (case mm3 => assumption); k_whole))
  k_go0
  (all_goals try k_fold)
  k_steps
  (rename List Int => scr)
  (rename IntsAre _ (List.take _ scr) => hI0)
  refine Stop.mk (comp_rest _ (fun j y => ∃ t, y = .int (Int.fmod ((List.take 15 scr).getD j 0) 1000) t) (by lcg_src) ?zelem1 ?zfin1)
  case zelem1 =>
    intro j v I3 oI3 C3 oC3 D3 ys3 m3 h3 tk3 E3 hj3 hv3 hC3 hx3 F6 N6
    obtain ⟨hjl, tv3, rfl⟩ := ints_item hI0 hv3
    k_steps
    refine celt ⟨_, rfl⟩ (by assumption) (by assumption) (fun p hp => hp)
  case zfin1 =>
    intro ysD hys
    have hI1 := picks_ints (fun _ _ h => h) hys
    have hL1 := picks_len hys
    rw [List.size_toArray, hI0.length, List.length_take] at hL1
    rw [hI1.length] at hL1
    clear hys
    k_steps
    ((refine Stop.mk ?_); (k_dflt (refine' does_use (coins _ _ ysD _ _ _ ?mhl hI1 ?mhn) ?mud1 ?mud2 ?mud3 ?mud4 ?mud5 ?mudK ?mudd ?mudu ?_)); (case mud1 => k_asm); (case mud2 => k_asm); (case mud3 => k_asm); (case mud4 => k_asm); (case mud5 => k_asm); (case mudK => first | exact rfl | assumption); (case mudd => ktr_room); (case mudu => ktr_units))
    case mhl => k_mem
    case mhn => omega
    rintro _ _ h' tk' ⟨x, y, z, hxyz, lc, vc, e1, e2, hlc, hIc⟩ F' N'
    subst e1; subst e2
    (try k_lt hlc)
    obtain ⟨P, least, mx, e, row, runs, ranked, top, below, kw, lw, ans, st, st2, f⟩ := facts_all hxyz
    k_steps
    ((refine Stop.mk ?_); (k_dflt (refine' does_use (holds _ lc vc _ _ _ _ _ P least mx e row runs ranked top 0 below 0 kw lw ans st st2 ?mhh hIc f.hca f.hcb f.hcc f.hP f.hmin f.hmax f.hlm f.he f.he2 f.hrow f.hrl f.hruns f.hrb7 f.hrk f.hrk2 f.hpos f.htop f.hgap f.hkw f.hlw f.hbel f.hokw f.holw f.hub f.hst1 f.hmb7 f.hst2 f.hc6 f.hind f.hsn f.hpt f.heq f.hkl f.hbu f.hlast f.hrv) ?mud1 ?mud2 ?mud3 ?mud4 ?mud5 ?mudK ?mudd ?mudu ?_)); (case mud1 => k_asm); (case mud2 => k_asm); (case mud3 => k_asm); (case mud4 => k_asm); (case mud5 => k_asm); (case mudK => first | exact rfl | assumption); (case mudd => ktr_room); (case mudu => ktr_units))
    case mhh => k_mem
    rintro _ _ h' tk' ⟨e1, e2⟩ F' N'
    subst e1; subst e2
    k_steps

end
end
end Mine
theorem PySem.Challenge.cw_sn0038_01_holds : PySem.Challenge.rw_sn0038_01.Holds :=
  Mine.fin_all
