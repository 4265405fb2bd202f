import PyProof.Rows.All
import Wide.All
import OpenK.AllK
import Wide.FinOn
import PySem.Challenge.RW_oh0011_01
open PySem PySem.W PyProof.Rows
set_option Elab.async false

section
set_option Elab.async false
set_option maxRecDepth 100000
namespace Mine
open PySem PySem.W PyProof.Rows
abbrev pw : Program := PySem.Challenge.pw_oh0011_01
def stmtAt (i : Nat) : Stmt := (pw.main.body[i]?).getD (.Pass ⟨0, 0, 0, 0⟩)
def defBody : Stmt → List Stmt
  | .FunctionDef _ _ b _ _ _ _ _ _ _ => b
  | _ => []
def defParams : Stmt → Arguments
  | .FunctionDef _ a _ _ _ _ _ _ _ _ => a
  | _ => { posonlyargs := [], args := [], vararg := none, kwonlyargs := [], kw_defaults := [], kwarg := none, defaults := [] }
def defScope : Stmt → Scope
  | .FunctionDef _ _ _ _ _ _ sc _ _ _ => sc
  | _ => { kind := .function, names := [], isGenerator := false, isCoroutine := false, more := [] }
def fnBody (i : Nat) : List Stmt := defBody (stmtAt i)
def fnParams (i : Nat) : Arguments := defParams (stmtAt i)
def fnScope (i : Nat) : Scope := defScope (stmtAt i)
set_option linter.unusedVariables false
noncomputable abbrev o2 (P : Params) : Obj := { cls := Value.none, data := Data.dict #[] }
noncomputable abbrev o3 (P : Params) : Obj := { cls := Value.type "dict", data := Data.dict #[{ hash := PyData.keyHash P (Str.ofString "__name__"), key := Value.str (Str.ofString "__name__") 165, val := Value.str (Str.ofString "law_oh0011_01") 439 }, { hash := PyData.keyHash P (Str.ofString "__doc__"), key := Value.str (Str.ofString "__doc__") 166, val := Value.none }, { hash := PyData.keyHash P (Str.ofString "__package__"), key := Value.str (Str.ofString "__package__") 167, val := Value.none }, { hash := PyData.keyHash P (Str.ofString "__loader__"), key := Value.str (Str.ofString "__loader__") 168, val := Value.builtin "__main__.__loader__#opaque" }, { hash := PyData.keyHash P (Str.ofString "__spec__"), key := Value.str (Str.ofString "__spec__") 169, val := Value.none }, { hash := PyData.keyHash P (Str.ofString "__annotations__"), key := Value.str (Str.ofString "__annotations__") 170, val := Value.ref 6 }, { hash := PyData.keyHash P (Str.ofString "__builtins__"), key := Value.str (Str.ofString "__builtins__") 171, val := Value.ref 4 }, { hash := PyData.keyHash P (Str.ofString "__file__"), key := Value.str (Str.ofString "__file__") 173, val := Value.str (Str.ofString "/claim/cut.py") 172 }, { hash := PyData.keyHash P (Str.ofString "__cached__"), key := Value.str (Str.ofString "__cached__") 174, val := Value.none }, { hash := PyData.keyHash P (Str.ofString "COMPILER_FLAG_NAMES"), key := Value.str (Str.ofString "COMPILER_FLAG_NAMES") 219, val := Value.ref 15 }, { hash := PyData.keyHash P (Str.ofString "pretty_flags"), key := Value.str (Str.ofString "pretty_flags") 229, val := Value.ref 22 }, { hash := PyData.keyHash P (Str.ofString "ASCII_CTRL"), key := Value.str (Str.ofString "ASCII_CTRL") 375, val := Value.ref 39 }, { hash := PyData.keyHash P (Str.ofString "ILLEGAL_BASIC_STR_CHARS"), key := Value.str (Str.ofString "ILLEGAL_BASIC_STR_CHARS") 379, val := Value.ref 44 }, { hash := PyData.keyHash P (Str.ofString "ILLEGAL_COMMENT_CHARS"), key := Value.str (Str.ofString "ILLEGAL_COMMENT_CHARS") 380, val := Value.ref 44 }, { hash := PyData.keyHash P (Str.ofString "TOMLDecodeError"), key := Value.str (Str.ofString "TOMLDecodeError") 398, val := Value.ref 54 }, { hash := PyData.keyHash P (Str.ofString "skip_chars"), key := Value.str (Str.ofString "skip_chars") 407, val := Value.ref 64 }, { hash := PyData.keyHash P (Str.ofString "skip_until"), key := Value.str (Str.ofString "skip_until") 419, val := Value.ref 71 }, { hash := PyData.keyHash P (Str.ofString "skip_comment"), key := Value.str (Str.ofString "skip_comment") 428, val := Value.ref 78 }, { hash := PyData.keyHash P (Str.ofString "suffixed_err"), key := Value.str (Str.ofString "suffixed_err") 438, val := Value.ref 85 }, { hash := PyData.keyHash P (Str.ofString "_law_flags"), key := Value.str (Str.ofString "_law_flags") 447, val := Value.ref 92 }, { hash := PyData.keyHash P (Str.ofString "_law_head"), key := Value.str (Str.ofString "_law_head") 454, val := Value.ref 99 }, { hash := PyData.keyHash P (Str.ofString "_law_wide"), key := Value.str (Str.ofString "_law_wide") 460, val := Value.ref 104 }, { hash := PyData.keyHash P (Str.ofString "_law_due"), key := Value.str (Str.ofString "_law_due") 466, val := Value.ref 109 }, { hash := PyData.keyHash P (Str.ofString "_law_read"), key := Value.str (Str.ofString "_law_read") 481, val := Value.ref 116 }, { hash := PyData.keyHash P (Str.ofString "_law_told"), key := Value.str (Str.ofString "_law_told") 490, val := Value.ref 123 }, { hash := PyData.keyHash P (Str.ofString "law"), key := Value.str (Str.ofString "law") 496, val := Value.ref 128 }] 26 }
noncomputable abbrev o15 (P : Params) : Obj := { cls := Value.type "dict", data := Data.dict #[{ hash := 1, key := Value.int 1 189, val := Value.str (Str.ofString "OPTIMIZED") 190 }, { hash := 2, key := Value.int 2 191, val := Value.str (Str.ofString "NEWLOCALS") 192 }, { hash := 4, key := Value.int 4 193, val := Value.str (Str.ofString "VARARGS") 194 }, { hash := 8, key := Value.int 8 195, val := Value.str (Str.ofString "VARKEYWORDS") 196 }, { hash := 16, key := Value.int 16 197, val := Value.str (Str.ofString "NESTED") 198 }, { hash := 32, key := Value.int 32 199, val := Value.str (Str.ofString "GENERATOR") 200 }, { hash := 64, key := Value.int 64 201, val := Value.str (Str.ofString "NOFREE") 202 }, { hash := 128, key := Value.int 128 203, val := Value.str (Str.ofString "COROUTINE") 204 }, { hash := 256, key := Value.int 256 205, val := Value.str (Str.ofString "ITERABLE_COROUTINE") 206 }, { hash := 512, key := Value.int 512 207, val := Value.str (Str.ofString "ASYNC_GENERATOR") 208 }] 10 }
noncomputable abbrev o21 (P : Params) : Obj := { cls := Value.type "code", data := Data.fields #[Value.str (Str.ofString "pretty_flags") 220, Value.str (Str.ofString "pretty_flags") 221, Value.str (Str.ofString "/claim/cut.py") 222, Value.int 3 0, Value.int 1 0, Value.int 0 0, Value.int 0 0, Value.int 3 0, Value.ref 16, Value.bool true, Value.int 181 0, Value.ref 17, Value.none, Value.ref 18, Value.ref 19, Value.ref 20, Value.int 227 0, Value.int 3 0, Value.str (Str.ofString "/claim/cut.py") 228] }
noncomputable abbrev o22 (P : Params) : Obj := { cls := Value.type "function", data := Data.func { name := Str.ofString "pretty_flags", qualname := Str.ofString "pretty_flags", params := fnParams 2, body := FuncBody.stmts (fnBody 2), scope := fnScope 2, globals := 3, closure := [], defaults := Value.none, kwdefaults := Value.none, pyModule := Value.str (Str.ofString "cpy313.dis") 187, code := Value.ref 21 } }
noncomputable abbrev o45 (P : Params) : Obj := { cls := Value.type "tuple", data := Data.seq #[Value.type "ValueError"] }
noncomputable abbrev o52 (P : Params) : Obj := { cls := Value.type "tuple", data := Data.seq #[] }
noncomputable abbrev o53 (P : Params) : Obj := { cls := Value.type "dict", data := Data.dict #[{ hash := PyData.keyHash P (Str.ofString "__module__"), key := Value.str (Str.ofString "__module__") 388, val := Value.str (Str.ofString "cpy313.tomllib._parser") 230 }, { hash := PyData.keyHash P (Str.ofString "__firstlineno__"), key := Value.str (Str.ofString "__firstlineno__") 392, val := Value.int 19 391 }, { hash := PyData.keyHash P (Str.ofString "__static_attributes__"), key := Value.str (Str.ofString "__static_attributes__") 393, val := Value.ref 52 }, { hash := PyData.keyHash P (Str.ofString "__weakref__"), key := Value.str (Str.ofString "__weakref__") 395, val := Value.ref 55 }, { hash := PyData.keyHash P (Str.ofString "__doc__"), key := Value.str (Str.ofString "__doc__") 396, val := Value.none }] 3 }
noncomputable abbrev o54 (P : Params) : Obj := { cls := Value.type "type", data := Data.cls { name := Str.ofString "TOMLDecodeError", bases := [Value.type "ValueError"], mro := [Value.ref 54, Value.type "ValueError", Value.type "Exception", Value.type "BaseException", Value.type "object"], ns := 53, qualname := Str.ofString "TOMLDecodeError" }, slots := #[some (Value.ref 45), none, some (Value.str (Str.ofString "TOMLDecodeError") 381), some (Value.str (Str.ofString "TOMLDecodeError") 389), some (Value.builtin "ValueError.__new__"), some (Value.bool true)] }
noncomputable abbrev o55 (P : Params) : Obj := { cls := Value.type "getset_descriptor", data := Data.fields #[Value.str (Str.ofString "__weakref__") 394, Value.ref 54, Value.builtin "ExceptionGroup.__weakref__", Value.none] }
noncomputable abbrev o63 (P : Params) : Obj := { cls := Value.type "code", data := Data.fields #[Value.str (Str.ofString "skip_chars") 399, Value.str (Str.ofString "skip_chars") 400, Value.str (Str.ofString "/claim/cut.py") 401, Value.int 21 0, Value.int 3 0, Value.int 0 0, Value.int 0 0, Value.int 3 0, Value.ref 58, Value.bool true, Value.int 181 0, Value.ref 59, Value.none, Value.ref 60, Value.ref 61, Value.ref 62, Value.int 405 0, Value.int 21 0, Value.str (Str.ofString "/claim/cut.py") 406] }
noncomputable abbrev o64 (P : Params) : Obj := { cls := Value.type "function", data := Data.func { name := Str.ofString "skip_chars", qualname := Str.ofString "skip_chars", params := fnParams 8, body := FuncBody.stmts (fnBody 8), scope := fnScope 8, globals := 3, closure := [], defaults := Value.none, kwdefaults := Value.none, pyModule := Value.str (Str.ofString "cpy313.tomllib._parser") 230, code := Value.ref 63 } }
noncomputable abbrev o70 (P : Params) : Obj := { cls := Value.type "code", data := Data.fields #[Value.str (Str.ofString "skip_until") 408, Value.str (Str.ofString "skip_until") 409, Value.str (Str.ofString "/claim/cut.py") 410, Value.int 28 0, Value.int 3 0, Value.int 0 0, Value.int 2 0, Value.int 3 0, Value.ref 65, Value.bool true, Value.int 181 0, Value.ref 66, Value.none, Value.ref 67, Value.ref 68, Value.ref 69, Value.int 417 0, Value.int 28 0, Value.str (Str.ofString "/claim/cut.py") 418] }
noncomputable abbrev o71 (P : Params) : Obj := { cls := Value.type "function", data := Data.func { name := Str.ofString "skip_until", qualname := Str.ofString "skip_until", params := fnParams 9, body := FuncBody.stmts (fnBody 9), scope := fnScope 9, globals := 3, closure := [], defaults := Value.none, kwdefaults := Value.none, pyModule := Value.str (Str.ofString "cpy313.tomllib._parser") 230, code := Value.ref 70 } }
noncomputable abbrev o77 (P : Params) : Obj := { cls := Value.type "code", data := Data.fields #[Value.str (Str.ofString "skip_comment") 420, Value.str (Str.ofString "skip_comment") 421, Value.str (Str.ofString "/claim/cut.py") 422, Value.int 40 0, Value.int 2 0, Value.int 0 0, Value.int 0 0, Value.int 3 0, Value.ref 72, Value.bool true, Value.int 181 0, Value.ref 73, Value.none, Value.ref 74, Value.ref 75, Value.ref 76, Value.int 426 0, Value.int 40 0, Value.str (Str.ofString "/claim/cut.py") 427] }
noncomputable abbrev o78 (P : Params) : Obj := { cls := Value.type "function", data := Data.func { name := Str.ofString "skip_comment", qualname := Str.ofString "skip_comment", params := fnParams 10, body := FuncBody.stmts (fnBody 10), scope := fnScope 10, globals := 3, closure := [], defaults := Value.none, kwdefaults := Value.none, pyModule := Value.str (Str.ofString "cpy313.tomllib._parser") 230, code := Value.ref 77 } }
noncomputable abbrev o84 (P : Params) : Obj := { cls := Value.type "code", data := Data.fields #[Value.str (Str.ofString "suffixed_err") 429, Value.str (Str.ofString "suffixed_err") 430, Value.str (Str.ofString "/claim/cut.py") 431, Value.int 48 0, Value.int 3 0, Value.int 0 0, Value.int 0 0, Value.int 3 0, Value.ref 79, Value.bool true, Value.int 181 0, Value.ref 80, Value.none, Value.ref 81, Value.ref 82, Value.ref 83, Value.int 436 0, Value.int 48 0, Value.str (Str.ofString "/claim/cut.py") 437] }
noncomputable abbrev o85 (P : Params) : Obj := { cls := Value.type "function", data := Data.func { name := Str.ofString "suffixed_err", qualname := Str.ofString "suffixed_err", params := fnParams 11, body := FuncBody.stmts (fnBody 11), scope := fnScope 11, globals := 3, closure := [], defaults := Value.none, kwdefaults := Value.none, pyModule := Value.str (Str.ofString "cpy313.tomllib._parser") 230, code := Value.ref 84 } }
noncomputable abbrev o91 (P : Params) : Obj := { cls := Value.type "code", data := Data.fields #[Value.str (Str.ofString "_law_flags") 441, Value.str (Str.ofString "_law_flags") 442, Value.str (Str.ofString "/claim/cut.py") 443, Value.int 61 0, Value.int 1 0, Value.int 0 0, Value.int 0 0, Value.int 3 0, Value.ref 86, Value.bool true, Value.int 181 0, Value.ref 87, Value.none, Value.ref 88, Value.ref 89, Value.ref 90, Value.int 445 0, Value.int 61 0, Value.str (Str.ofString "/claim/cut.py") 446] }
noncomputable abbrev o92 (P : Params) : Obj := { cls := Value.type "function", data := Data.func { name := Str.ofString "_law_flags", qualname := Str.ofString "_law_flags", params := fnParams 13, body := FuncBody.stmts (fnBody 13), scope := fnScope 13, globals := 3, closure := [], defaults := Value.none, kwdefaults := Value.none, pyModule := Value.str (Str.ofString "law_oh0011_01") 439, code := Value.ref 91 } }
noncomputable abbrev o98 (P : Params) : Obj := { cls := Value.type "code", data := Data.fields #[Value.str (Str.ofString "_law_head") 448, Value.str (Str.ofString "_law_head") 449, Value.str (Str.ofString "/claim/cut.py") 450, Value.int 63 0, Value.int 1 0, Value.int 0 0, Value.int 0 0, Value.int 3 0, Value.ref 93, Value.bool true, Value.int 181 0, Value.ref 94, Value.none, Value.ref 95, Value.ref 96, Value.ref 97, Value.int 452 0, Value.int 63 0, Value.str (Str.ofString "/claim/cut.py") 453] }
noncomputable abbrev o99 (P : Params) : Obj := { cls := Value.type "function", data := Data.func { name := Str.ofString "_law_head", qualname := Str.ofString "_law_head", params := fnParams 14, body := FuncBody.stmts (fnBody 14), scope := fnScope 14, globals := 3, closure := [], defaults := Value.none, kwdefaults := Value.none, pyModule := Value.str (Str.ofString "law_oh0011_01") 439, code := Value.ref 98 } }
noncomputable abbrev o103 (P : Params) : Obj := { cls := Value.type "code", data := Data.fields #[Value.str (Str.ofString "_law_wide") 455, Value.str (Str.ofString "_law_wide") 456, Value.str (Str.ofString "/claim/cut.py") 457, Value.int 65 0, Value.int 1 0, Value.int 0 0, Value.int 0 0, Value.int 3 0, Value.ref 100, Value.bool true, Value.int 181 0, Value.ref 101, Value.none, Value.none, Value.none, Value.ref 102, Value.int 458 0, Value.int 65 0, Value.str (Str.ofString "/claim/cut.py") 459] }
noncomputable abbrev o104 (P : Params) : Obj := { cls := Value.type "function", data := Data.func { name := Str.ofString "_law_wide", qualname := Str.ofString "_law_wide", params := fnParams 15, body := FuncBody.stmts (fnBody 15), scope := fnScope 15, globals := 3, closure := [], defaults := Value.none, kwdefaults := Value.none, pyModule := Value.str (Str.ofString "law_oh0011_01") 439, code := Value.ref 103 } }
noncomputable abbrev o108 (P : Params) : Obj := { cls := Value.type "code", data := Data.fields #[Value.str (Str.ofString "_law_due") 461, Value.str (Str.ofString "_law_due") 462, Value.str (Str.ofString "/claim/cut.py") 463, Value.int 75 0, Value.int 1 0, Value.int 0 0, Value.int 0 0, Value.int 3 0, Value.ref 105, Value.bool true, Value.int 181 0, Value.ref 106, Value.none, Value.none, Value.none, Value.ref 107, Value.int 464 0, Value.int 75 0, Value.str (Str.ofString "/claim/cut.py") 465] }
noncomputable abbrev o109 (P : Params) : Obj := { cls := Value.type "function", data := Data.func { name := Str.ofString "_law_due", qualname := Str.ofString "_law_due", params := fnParams 16, body := FuncBody.stmts (fnBody 16), scope := fnScope 16, globals := 3, closure := [], defaults := Value.none, kwdefaults := Value.none, pyModule := Value.str (Str.ofString "law_oh0011_01") 439, code := Value.ref 108 } }
noncomputable abbrev o115 (P : Params) : Obj := { cls := Value.type "code", data := Data.fields #[Value.str (Str.ofString "_law_read") 467, Value.str (Str.ofString "_law_read") 468, Value.str (Str.ofString "/claim/cut.py") 469, Value.int 81 0, Value.int 2 0, Value.int 0 0, Value.int 0 0, Value.int 3 0, Value.ref 110, Value.bool true, Value.int 181 0, Value.ref 111, Value.none, Value.ref 112, Value.ref 113, Value.ref 114, Value.int 479 0, Value.int 81 0, Value.str (Str.ofString "/claim/cut.py") 480] }
noncomputable abbrev o116 (P : Params) : Obj := { cls := Value.type "function", data := Data.func { name := Str.ofString "_law_read", qualname := Str.ofString "_law_read", params := fnParams 17, body := FuncBody.stmts (fnBody 17), scope := fnScope 17, globals := 3, closure := [], defaults := Value.none, kwdefaults := Value.none, pyModule := Value.str (Str.ofString "law_oh0011_01") 439, code := Value.ref 115 } }
noncomputable abbrev o122 (P : Params) : Obj := { cls := Value.type "code", data := Data.fields #[Value.str (Str.ofString "_law_told") 482, Value.str (Str.ofString "_law_told") 483, Value.str (Str.ofString "/claim/cut.py") 484, Value.int 96 0, Value.int 1 0, Value.int 0 0, Value.int 0 0, Value.int 3 0, Value.ref 117, Value.bool true, Value.int 181 0, Value.ref 118, Value.none, Value.ref 119, Value.ref 120, Value.ref 121, Value.int 488 0, Value.int 96 0, Value.str (Str.ofString "/claim/cut.py") 489] }
noncomputable abbrev o123 (P : Params) : Obj := { cls := Value.type "function", data := Data.func { name := Str.ofString "_law_told", qualname := Str.ofString "_law_told", params := fnParams 18, body := FuncBody.stmts (fnBody 18), scope := fnScope 18, globals := 3, closure := [], defaults := Value.none, kwdefaults := Value.none, pyModule := Value.str (Str.ofString "law_oh0011_01") 439, code := Value.ref 122 } }
noncomputable abbrev o127 (P : Params) : Obj := { cls := Value.type "code", data := Data.fields #[Value.str (Str.ofString "law") 491, Value.str (Str.ofString "law") 492, Value.str (Str.ofString "/claim/cut.py") 493, Value.int 103 0, Value.int 1 0, Value.int 0 0, Value.int 0 0, Value.int 3 0, Value.ref 124, Value.bool true, Value.int 181 0, Value.ref 125, Value.none, Value.none, Value.none, Value.ref 126, Value.int 494 0, Value.int 103 0, Value.str (Str.ofString "/claim/cut.py") 495] }
noncomputable abbrev o128 (P : Params) : Obj := { cls := Value.type "function", data := Data.func { name := Str.ofString "law", qualname := Str.ofString "law", params := fnParams 19, body := FuncBody.stmts (fnBody 19), scope := fnScope 19, globals := 3, closure := [], defaults := Value.none, kwdefaults := Value.none, pyModule := Value.str (Str.ofString "law_oh0011_01") 439, code := Value.ref 127 } }
noncomputable def K (P : Params) : Frag := [(nat_lit 2, o2 P), (nat_lit 3, o3 P), (nat_lit 15, o15 P), (nat_lit 21, o21 P), (nat_lit 22, o22 P), (nat_lit 45, o45 P), (nat_lit 52, o52 P), (nat_lit 53, o53 P), (nat_lit 54, o54 P), (nat_lit 55, o55 P), (nat_lit 63, o63 P), (nat_lit 64, o64 P), (nat_lit 70, o70 P), (nat_lit 71, o71 P), (nat_lit 77, o77 P), (nat_lit 78, o78 P), (nat_lit 84, o84 P), (nat_lit 85, o85 P), (nat_lit 91, o91 P), (nat_lit 92, o92 P), (nat_lit 98, o98 P), (nat_lit 99, o99 P), (nat_lit 103, o103 P), (nat_lit 104, o104 P), (nat_lit 108, o108 P), (nat_lit 109, o109 P), (nat_lit 115, o115 P), (nat_lit 116, o116 P), (nat_lit 122, o122 P), (nat_lit 123, o123 P), (nat_lit 127, o127 P), (nat_lit 128, o128 P)]

def keepL : List Nat := [1, 2, 4, 5, 6, 7, 8, 9, 10, 11, 13, 14, 15, 16, 17, 18, 19]
def q : Program := view pw keepL
abbrev loose : List Str := [Str.ofString "COMPILER_FLAG_NAMES", Str.ofString "ASCII_CTRL", Str.ofString "ILLEGAL_BASIC_STR_CHARS", Str.ofString "ILLEGAL_COMMENT_CHARS"]
def addrs : List Addr := [2, 3, 15, 21, 22, 45, 52, 53, 54, 55, 63, 64, 70, 71, 77, 78, 84, 85, 91, 92, 98, 99, 103, 104, 108, 109, 115, 116, 122, 123, 127, 128]
end Mine
end

section
set_option Elab.async false
set_option maxRecDepth 100000
namespace Mine
open PySem PySem.W PyProof.Rows
/-- the signs that a remark may not bear -/
def illegal (c : Nat) : Bool := (c < 32 && c != 9) || c == 127
def SetFact (h : Heap) : Prop := ∃ es ep t, h.get? 44 = some ⟨.type "frozenset", none, .set es ep t, #[]⟩ ∧
  (∀ e ∈ es.toList, ∃ c k, e.2 = .str ⟨#[c]⟩ k ∧ illegal c = true) ∧ (∀ c, illegal c = true → ∃ e ∈ es.toList, ∃ k, e.2 = .str ⟨#[c]⟩ k) ∧ t.fits es.size = true ∧ es.size = 32
theorem SetFact.keeps {h h' : Heap} (x : SetFact h) (k : ∀ b o, h.get? b = some o → h'.get? b = some o) : SetFact h' :=
  let ⟨es, ep, t, a, r⟩ := x
  ⟨es, ep, t, k _ _ a, r⟩
theorem K_addrs (P : Params) : addrs = (K P).map (·.1) := rfl
noncomputable def H : Hook :=
  ⟨List (Option Obj) × Prop, fun s => (addrs.map s.heap.get?, SetFact s.heap), fun w => ((K w.params).map fun p => some p.2, True), fun w h => InK K w h ∧ SetFact h,
   fun w s e => ⟨InK.of K_addrs w s (congrArg Prod.fst e), of_eq_true (congrArg Prod.snd e)⟩,
   fun w h h' x k => ⟨InK.keeps w h h' x.1 k, x.2.keeps k⟩⟩
abbrev rowW : RowW := PySem.Challenge.rw_oh0011_01.row.toRowW
noncomputable abbrev Xt : Shared → Bool := fun s => xlAt q [] s && recOk (RowW.records rowW) s
noncomputable def dLaw : DefRec := ⟨PySem.Str.ofString "law", fnParams 19, fnBody 19, fnScope 19, (stmtAt 19).pos⟩
theorem said : PySem.Challenge.rw_oh0011_01.wellSaid = true ∧ PySem.Challenge.rw_oh0011_01.row.wellSaid = true := by
  have h : PySem.Challenge.rw_oh0011_01.wellSaid = true := by decide +kernel
  exact ⟨h, row_said h⟩
theorem hdef : defOf q rowW.name = some (dLaw, []) := by kernel_rfl
theorem hp : rowW.prog.theDef rowW.name = some (dLaw.params, dLaw.body, dLaw.scope) := by kernel_rfl
theorem hk : kwWritten? dLaw.params.kwonlyargs dLaw.params.kw_defaults = some [] := by kernel_rfl
theorem hok : (chainsOk q && opensWell rowW.prog && (frees rowW && rowW.within.isEmpty)) = true := by decide +kernel
theorem hbare : rowW.prog.bare := ⟨rfl, rfl, rfl, rfl, rfl, by decide +kernel⟩
theorem hprom : rowW.promised := by w_witness2
theorem top_hd {N : Nat} (left : LeftO rowW.prog q loose Xt H.obs H.val N false) (call : WalkN q loose (XL q []) H.says rowW dLaw [] fun f vs => PySem.call f vs) : PySem.Challenge.rw_oh0011_01.Holds :=
  ⟨said.1, holds_openN (r := PySem.Challenge.rw_oh0011_01.row) (XP := XL q []) (YP := H.says) left H.of H.keeps (fun s e => xl_of s (Bool.and_eq_true_iff.mp e).1) XL.keeps hdef hp hk (fun s e => recFacts_of (Bool.and_eq_true_iff.mp e).2) rfl said.2 hok hbare hprom call⟩
end Mine
end

section
set_option Elab.async false
set_option maxRecDepth 100000
set_option linter.unusedVariables false
namespace Mine
open PySem PySem.W PyProof.Rows
noncomputable def b11_0 (P : Params) : Obj := { cls := Value.type "tuple", data := Data.seq #[] }
noncomputable def b12_0 (P : Params) : Obj := { cls := Value.none, data := Data.fields #[] }
noncomputable def b13_0 (P : Params) : Obj := { cls := Value.type "code", data := Data.fields #[Value.str (Str.ofString "<module>") 182, Value.str (Str.ofString "<module>") 183, Value.str (Str.ofString "/claim/cut.py") 184, Value.int 1 0, Value.int 0 0, Value.int 0 0, Value.int 0 0, Value.int 0 0, Value.ref 11, Value.bool false, Value.int 181 0, Value.ref 12, Value.none, Value.none, Value.none, Value.none, Value.int 185 0, Value.int 1 0, Value.str (Str.ofString "/claim/cut.py") 186] }
noncomputable def b14_0 (P : Params) : Obj := { cls := Value.type "frame", slots := #[some (Value.ref 13), some (Value.ref 3), some (Value.ref 3), none, some (Value.str (Str.ofString "__main__") 164), none, some (Value.ref 0)] }
noncomputable def b3_0 (P : Params) : Obj := { cls := Value.type "dict", data := Data.dict #[{ hash := PyData.keyHash P (Str.ofString "__name__"), key := Value.str (Str.ofString "__name__") 165, val := Value.str (Str.ofString "cpy313.tomllib._parser") 230 }, { hash := PyData.keyHash P (Str.ofString "__doc__"), key := Value.str (Str.ofString "__doc__") 166, val := Value.none }, { hash := PyData.keyHash P (Str.ofString "__package__"), key := Value.str (Str.ofString "__package__") 167, val := Value.none }, { hash := PyData.keyHash P (Str.ofString "__loader__"), key := Value.str (Str.ofString "__loader__") 168, val := Value.builtin "__main__.__loader__#opaque" }, { hash := PyData.keyHash P (Str.ofString "__spec__"), key := Value.str (Str.ofString "__spec__") 169, val := Value.none }, { hash := PyData.keyHash P (Str.ofString "__annotations__"), key := Value.str (Str.ofString "__annotations__") 170, val := Value.ref 6 }, { hash := PyData.keyHash P (Str.ofString "__builtins__"), key := Value.str (Str.ofString "__builtins__") 171, val := Value.ref 4 }, { hash := PyData.keyHash P (Str.ofString "__file__"), key := Value.str (Str.ofString "__file__") 173, val := Value.str (Str.ofString "/claim/cut.py") 172 }, { hash := PyData.keyHash P (Str.ofString "__cached__"), key := Value.str (Str.ofString "__cached__") 174, val := Value.none }, { hash := PyData.keyHash P (Str.ofString "COMPILER_FLAG_NAMES"), key := Value.str (Str.ofString "COMPILER_FLAG_NAMES") 219, val := Value.ref 15 }, { hash := PyData.keyHash P (Str.ofString "pretty_flags"), key := Value.str (Str.ofString "pretty_flags") 229, val := Value.ref 22 }] 11 }
noncomputable def b12_1 (P : Params) : Obj := { cls := Value.none, data := Data.fields #[Value.int 3 0, Value.int 0 0, Value.ref 21] }
noncomputable def b15_0 (P : Params) : Obj := { cls := Value.type "dict", data := Data.dict #[{ hash := 1, key := Value.int 1 189, val := Value.str (Str.ofString "OPTIMIZED") 190 }, { hash := 2, key := Value.int 2 191, val := Value.str (Str.ofString "NEWLOCALS") 192 }, { hash := 4, key := Value.int 4 193, val := Value.str (Str.ofString "VARARGS") 194 }, { hash := 8, key := Value.int 8 195, val := Value.str (Str.ofString "VARKEYWORDS") 196 }, { hash := 16, key := Value.int 16 197, val := Value.str (Str.ofString "NESTED") 198 }, { hash := 32, key := Value.int 32 199, val := Value.str (Str.ofString "GENERATOR") 200 }, { hash := 64, key := Value.int 64 201, val := Value.str (Str.ofString "NOFREE") 202 }, { hash := 128, key := Value.int 128 203, val := Value.str (Str.ofString "COROUTINE") 204 }, { hash := 256, key := Value.int 256 205, val := Value.str (Str.ofString "ITERABLE_COROUTINE") 206 }, { hash := 512, key := Value.int 512 207, val := Value.str (Str.ofString "ASYNC_GENERATOR") 208 }] 10 }
noncomputable def b16_0 (P : Params) : Obj := { cls := Value.type "tuple", data := Data.seq #[] }
noncomputable def b17_0 (P : Params) : Obj := { cls := Value.none, data := Data.fields #[] }
noncomputable def b18_0 (P : Params) : Obj := { cls := Value.type "tuple", data := Data.seq #[Value.str (Str.ofString "flags") 223, Value.str (Str.ofString "names") 224, Value.str (Str.ofString "i") 225, Value.str (Str.ofString "flag") 226] }
noncomputable def b19_0 (P : Params) : Obj := { cls := Value.type "tuple", data := Data.seq #[] }
noncomputable def b20_0 (P : Params) : Obj := { cls := Value.none, data := Data.func { name := Str.ofString "pretty_flags", qualname := Str.ofString "pretty_flags", params := Mine.fnParams 2, body := FuncBody.stmts (Mine.fnBody 2), scope := Mine.fnScope 2, globals := 0, closure := [], defaults := Value.none, kwdefaults := Value.none } }
noncomputable def b21_0 (P : Params) : Obj := { cls := Value.type "code", data := Data.fields #[Value.str (Str.ofString "pretty_flags") 220, Value.str (Str.ofString "pretty_flags") 221, Value.str (Str.ofString "/claim/cut.py") 222, Value.int 3 0, Value.int 1 0, Value.int 0 0, Value.int 0 0, Value.int 3 0, Value.ref 16, Value.bool true, Value.int 181 0, Value.ref 17, Value.none, Value.ref 18, Value.ref 19, Value.ref 20, Value.int 227 0, Value.int 3 0, Value.str (Str.ofString "/claim/cut.py") 228] }
noncomputable def b22_0 (P : Params) : Obj := { cls := Value.type "function", data := Data.func { name := Str.ofString "pretty_flags", qualname := Str.ofString "pretty_flags", params := Mine.fnParams 2, body := FuncBody.stmts (Mine.fnBody 2), scope := Mine.fnScope 2, globals := 3, closure := [], defaults := Value.none, kwdefaults := Value.none, pyModule := Value.str (Str.ofString "cpy313.dis") 187, code := Value.ref 21 } }
noncomputable def b12_2 (P : Params) : Obj := { cls := Value.none, data := Data.fields #[Value.int 3 0, Value.int 0 0, Value.ref 21, Value.int 16 0, Value.int 23 0, Value.ref 27] }
noncomputable def b23_0 (P : Params) : Obj := { cls := Value.type "range", data := Data.fields #[Value.int 0 233, Value.int 32 232, Value.int 1 234] }
noncomputable def b24_0 (P : Params) : Obj := { cls := Value.type "range_iterator", data := Data.fields #[Value.int 0 0, Value.int 32 0, Value.int 1 0] }
noncomputable def b25_0 (P : Params) : Obj := { cls := Value.type "tuple", data := Data.seq #[] }
noncomputable def b26_0 (P : Params) : Obj := { cls := Value.none, data := Data.fields #[] }
noncomputable def b27_0 (P : Params) : Obj := { cls := Value.type "code", data := Data.fields #[Value.str (Str.ofString "<genexpr>") 235, Value.str (Str.ofString "<genexpr>") 236, Value.str (Str.ofString "/claim/cut.py") 237, Value.int 16 0, Value.int 1 0, Value.int 0 0, Value.int 0 0, Value.int 35 0, Value.ref 25, Value.bool true, Value.int 181 0, Value.ref 26, Value.none, Value.none, Value.none, Value.none, Value.int 238 0, Value.int 16 0, Value.str (Str.ofString "/claim/cut.py") 239] }
noncomputable def b28_0 (P : Params) : Obj := { cls := Value.type "frame", data := Data.dict #[{ hash := PyData.keyHash P (Str.ofString ".0"), key := Value.str (Str.ofString ".0") 240, val := Value.ref 24 }] 1 }
noncomputable def b29_0 (P : Params) : Obj := { cls := Value.type "generator", data := Data.fields #[Value.int 0 0, Value.str (Str.ofString "<genexpr>") 241, Value.str (Str.ofString "<genexpr>") 242] }
noncomputable def b24_1 (P : Params) : Obj := { cls := Value.type "range_iterator", data := Data.fields #[Value.int 32 0, Value.int 0 0, Value.int 1 0] }
noncomputable def b28_1 (P : Params) : Obj := { cls := Value.type "frame", data := Data.dict #[{ hash := PyData.keyHash P (Str.ofString ".0"), key := Value.str (Str.ofString ".0") 240, val := Value.ref 24 }, { hash := PyData.keyHash P (Str.ofString "i"), key := Value.str (Str.ofString "i") 244, val := Value.int 31 367 }] 2 }
noncomputable def b31_0 (P : Params) : Obj := { cls := Value.type "tuple", data := Data.seq #[] }
noncomputable def b32_0 (P : Params) : Obj := { cls := Value.type "StopIteration", data := Data.fields #[Value.ref 31, Value.none, Value.none, Value.none, Value.bool false, Value.none] }
noncomputable def b33_0 (P : Params) : Obj := { cls := Value.type "tuple", data := Data.seq #[] }
noncomputable def b34_0 (P : Params) : Obj := { cls := Value.type "StopIteration", data := Data.fields #[Value.ref 33, Value.none, Value.none, Value.none, Value.bool false, Value.none] }
noncomputable def b36_0 (P : Params) : Obj := { cls := Value.type "str_ascii_iterator", data := Data.fields #[Value.none, Value.int 1 0] }
noncomputable def b37_0 (P : Params) : Obj := { cls := Value.type "tuple", data := Data.seq #[] }
noncomputable def b38_0 (P : Params) : Obj := { cls := Value.type "StopIteration", data := Data.fields #[Value.ref 37, Value.none, Value.none, Value.none, Value.bool false, Value.none] }
noncomputable def b3_1 (P : Params) : Obj := { cls := Value.type "dict", data := Data.dict #[{ hash := PyData.keyHash P (Str.ofString "__name__"), key := Value.str (Str.ofString "__name__") 165, val := Value.str (Str.ofString "cpy313.tomllib._parser") 230 }, { hash := PyData.keyHash P (Str.ofString "__doc__"), key := Value.str (Str.ofString "__doc__") 166, val := Value.none }, { hash := PyData.keyHash P (Str.ofString "__package__"), key := Value.str (Str.ofString "__package__") 167, val := Value.none }, { hash := PyData.keyHash P (Str.ofString "__loader__"), key := Value.str (Str.ofString "__loader__") 168, val := Value.builtin "__main__.__loader__#opaque" }, { hash := PyData.keyHash P (Str.ofString "__spec__"), key := Value.str (Str.ofString "__spec__") 169, val := Value.none }, { hash := PyData.keyHash P (Str.ofString "__annotations__"), key := Value.str (Str.ofString "__annotations__") 170, val := Value.ref 6 }, { hash := PyData.keyHash P (Str.ofString "__builtins__"), key := Value.str (Str.ofString "__builtins__") 171, val := Value.ref 4 }, { hash := PyData.keyHash P (Str.ofString "__file__"), key := Value.str (Str.ofString "__file__") 173, val := Value.str (Str.ofString "/claim/cut.py") 172 }, { hash := PyData.keyHash P (Str.ofString "__cached__"), key := Value.str (Str.ofString "__cached__") 174, val := Value.none }, { hash := PyData.keyHash P (Str.ofString "COMPILER_FLAG_NAMES"), key := Value.str (Str.ofString "COMPILER_FLAG_NAMES") 219, val := Value.ref 15 }, { hash := PyData.keyHash P (Str.ofString "pretty_flags"), key := Value.str (Str.ofString "pretty_flags") 229, val := Value.ref 22 }, { hash := PyData.keyHash P (Str.ofString "ASCII_CTRL"), key := Value.str (Str.ofString "ASCII_CTRL") 375, val := Value.ref 39 }] 12 }
noncomputable def b41_0 (P : Params) : Obj := { cls := Value.type "str_ascii_iterator", data := Data.fields #[Value.none, Value.int 1 0] }
noncomputable def b42_0 (P : Params) : Obj := { cls := Value.type "tuple", data := Data.seq #[] }
noncomputable def b43_0 (P : Params) : Obj := { cls := Value.type "StopIteration", data := Data.fields #[Value.ref 42, Value.none, Value.none, Value.none, Value.bool false, Value.none] }
noncomputable def b3_2 (P : Params) : Obj := { cls := Value.type "dict", data := Data.dict #[{ hash := PyData.keyHash P (Str.ofString "__name__"), key := Value.str (Str.ofString "__name__") 165, val := Value.str (Str.ofString "cpy313.tomllib._parser") 230 }, { hash := PyData.keyHash P (Str.ofString "__doc__"), key := Value.str (Str.ofString "__doc__") 166, val := Value.none }, { hash := PyData.keyHash P (Str.ofString "__package__"), key := Value.str (Str.ofString "__package__") 167, val := Value.none }, { hash := PyData.keyHash P (Str.ofString "__loader__"), key := Value.str (Str.ofString "__loader__") 168, val := Value.builtin "__main__.__loader__#opaque" }, { hash := PyData.keyHash P (Str.ofString "__spec__"), key := Value.str (Str.ofString "__spec__") 169, val := Value.none }, { hash := PyData.keyHash P (Str.ofString "__annotations__"), key := Value.str (Str.ofString "__annotations__") 170, val := Value.ref 6 }, { hash := PyData.keyHash P (Str.ofString "__builtins__"), key := Value.str (Str.ofString "__builtins__") 171, val := Value.ref 4 }, { hash := PyData.keyHash P (Str.ofString "__file__"), key := Value.str (Str.ofString "__file__") 173, val := Value.str (Str.ofString "/claim/cut.py") 172 }, { hash := PyData.keyHash P (Str.ofString "__cached__"), key := Value.str (Str.ofString "__cached__") 174, val := Value.none }, { hash := PyData.keyHash P (Str.ofString "COMPILER_FLAG_NAMES"), key := Value.str (Str.ofString "COMPILER_FLAG_NAMES") 219, val := Value.ref 15 }, { hash := PyData.keyHash P (Str.ofString "pretty_flags"), key := Value.str (Str.ofString "pretty_flags") 229, val := Value.ref 22 }, { hash := PyData.keyHash P (Str.ofString "ASCII_CTRL"), key := Value.str (Str.ofString "ASCII_CTRL") 375, val := Value.ref 39 }, { hash := PyData.keyHash P (Str.ofString "ILLEGAL_BASIC_STR_CHARS"), key := Value.str (Str.ofString "ILLEGAL_BASIC_STR_CHARS") 379, val := Value.ref 44 }] 13 }
noncomputable def b3_3 (P : Params) : Obj := { cls := Value.type "dict", data := Data.dict #[{ hash := PyData.keyHash P (Str.ofString "__name__"), key := Value.str (Str.ofString "__name__") 165, val := Value.str (Str.ofString "cpy313.tomllib._parser") 230 }, { hash := PyData.keyHash P (Str.ofString "__doc__"), key := Value.str (Str.ofString "__doc__") 166, val := Value.none }, { hash := PyData.keyHash P (Str.ofString "__package__"), key := Value.str (Str.ofString "__package__") 167, val := Value.none }, { hash := PyData.keyHash P (Str.ofString "__loader__"), key := Value.str (Str.ofString "__loader__") 168, val := Value.builtin "__main__.__loader__#opaque" }, { hash := PyData.keyHash P (Str.ofString "__spec__"), key := Value.str (Str.ofString "__spec__") 169, val := Value.none }, { hash := PyData.keyHash P (Str.ofString "__annotations__"), key := Value.str (Str.ofString "__annotations__") 170, val := Value.ref 6 }, { hash := PyData.keyHash P (Str.ofString "__builtins__"), key := Value.str (Str.ofString "__builtins__") 171, val := Value.ref 4 }, { hash := PyData.keyHash P (Str.ofString "__file__"), key := Value.str (Str.ofString "__file__") 173, val := Value.str (Str.ofString "/claim/cut.py") 172 }, { hash := PyData.keyHash P (Str.ofString "__cached__"), key := Value.str (Str.ofString "__cached__") 174, val := Value.none }, { hash := PyData.keyHash P (Str.ofString "COMPILER_FLAG_NAMES"), key := Value.str (Str.ofString "COMPILER_FLAG_NAMES") 219, val := Value.ref 15 }, { hash := PyData.keyHash P (Str.ofString "pretty_flags"), key := Value.str (Str.ofString "pretty_flags") 229, val := Value.ref 22 }, { hash := PyData.keyHash P (Str.ofString "ASCII_CTRL"), key := Value.str (Str.ofString "ASCII_CTRL") 375, val := Value.ref 39 }, { hash := PyData.keyHash P (Str.ofString "ILLEGAL_BASIC_STR_CHARS"), key := Value.str (Str.ofString "ILLEGAL_BASIC_STR_CHARS") 379, val := Value.ref 44 }, { hash := PyData.keyHash P (Str.ofString "ILLEGAL_COMMENT_CHARS"), key := Value.str (Str.ofString "ILLEGAL_COMMENT_CHARS") 380, val := Value.ref 44 }] 14 }
noncomputable def b3_4 (P : Params) : Obj := { cls := Value.type "dict", data := Data.dict #[{ hash := PyData.keyHash P (Str.ofString "__name__"), key := Value.str (Str.ofString "__name__") 165, val := Value.str (Str.ofString "law_oh0011_01") 439 }, { hash := PyData.keyHash P (Str.ofString "__doc__"), key := Value.str (Str.ofString "__doc__") 166, val := Value.none }, { hash := PyData.keyHash P (Str.ofString "__package__"), key := Value.str (Str.ofString "__package__") 167, val := Value.none }, { hash := PyData.keyHash P (Str.ofString "__loader__"), key := Value.str (Str.ofString "__loader__") 168, val := Value.builtin "__main__.__loader__#opaque" }, { hash := PyData.keyHash P (Str.ofString "__spec__"), key := Value.str (Str.ofString "__spec__") 169, val := Value.none }, { hash := PyData.keyHash P (Str.ofString "__annotations__"), key := Value.str (Str.ofString "__annotations__") 170, val := Value.ref 6 }, { hash := PyData.keyHash P (Str.ofString "__builtins__"), key := Value.str (Str.ofString "__builtins__") 171, val := Value.ref 4 }, { hash := PyData.keyHash P (Str.ofString "__file__"), key := Value.str (Str.ofString "__file__") 173, val := Value.str (Str.ofString "/claim/cut.py") 172 }, { hash := PyData.keyHash P (Str.ofString "__cached__"), key := Value.str (Str.ofString "__cached__") 174, val := Value.none }, { hash := PyData.keyHash P (Str.ofString "COMPILER_FLAG_NAMES"), key := Value.str (Str.ofString "COMPILER_FLAG_NAMES") 219, val := Value.ref 15 }, { hash := PyData.keyHash P (Str.ofString "pretty_flags"), key := Value.str (Str.ofString "pretty_flags") 229, val := Value.ref 22 }, { hash := PyData.keyHash P (Str.ofString "ASCII_CTRL"), key := Value.str (Str.ofString "ASCII_CTRL") 375, val := Value.ref 39 }, { hash := PyData.keyHash P (Str.ofString "ILLEGAL_BASIC_STR_CHARS"), key := Value.str (Str.ofString "ILLEGAL_BASIC_STR_CHARS") 379, val := Value.ref 44 }, { hash := PyData.keyHash P (Str.ofString "ILLEGAL_COMMENT_CHARS"), key := Value.str (Str.ofString "ILLEGAL_COMMENT_CHARS") 380, val := Value.ref 44 }, { hash := PyData.keyHash P (Str.ofString "TOMLDecodeError"), key := Value.str (Str.ofString "TOMLDecodeError") 398, val := Value.ref 54 }, { hash := PyData.keyHash P (Str.ofString "skip_chars"), key := Value.str (Str.ofString "skip_chars") 407, val := Value.ref 64 }, { hash := PyData.keyHash P (Str.ofString "skip_until"), key := Value.str (Str.ofString "skip_until") 419, val := Value.ref 71 }, { hash := PyData.keyHash P (Str.ofString "skip_comment"), key := Value.str (Str.ofString "skip_comment") 428, val := Value.ref 78 }, { hash := PyData.keyHash P (Str.ofString "suffixed_err"), key := Value.str (Str.ofString "suffixed_err") 438, val := Value.ref 85 }, { hash := PyData.keyHash P (Str.ofString "_law_flags"), key := Value.str (Str.ofString "_law_flags") 447, val := Value.ref 92 }, { hash := PyData.keyHash P (Str.ofString "_law_head"), key := Value.str (Str.ofString "_law_head") 454, val := Value.ref 99 }, { hash := PyData.keyHash P (Str.ofString "_law_wide"), key := Value.str (Str.ofString "_law_wide") 460, val := Value.ref 104 }, { hash := PyData.keyHash P (Str.ofString "_law_due"), key := Value.str (Str.ofString "_law_due") 466, val := Value.ref 109 }, { hash := PyData.keyHash P (Str.ofString "_law_read"), key := Value.str (Str.ofString "_law_read") 481, val := Value.ref 116 }, { hash := PyData.keyHash P (Str.ofString "_law_told"), key := Value.str (Str.ofString "_law_told") 490, val := Value.ref 123 }, { hash := PyData.keyHash P (Str.ofString "law"), key := Value.str (Str.ofString "law") 496, val := Value.ref 128 }] 26 }
noncomputable def b12_3 (P : Params) : Obj := { cls := Value.none, data := Data.fields #[Value.int 3 0, Value.int 0 0, Value.ref 21, Value.int 16 0, Value.int 23 0, Value.ref 27, Value.int 19 0, Value.int 0 0, Value.ref 50, Value.int 21 0, Value.int 0 0, Value.ref 63, Value.int 28 0, Value.int 0 0, Value.ref 70, Value.int 40 0, Value.int 0 0, Value.ref 77, Value.int 48 0, Value.int 0 0, Value.ref 84, Value.int 61 0, Value.int 0 0, Value.ref 91, Value.int 63 0, Value.int 0 0, Value.ref 98, Value.int 65 0, Value.int 0 0, Value.ref 103, Value.int 75 0, Value.int 0 0, Value.ref 108, Value.int 81 0, Value.int 0 0, Value.ref 115, Value.int 96 0, Value.int 0 0, Value.ref 122, Value.int 103 0, Value.int 0 0, Value.ref 127] }
noncomputable def b45_0 (P : Params) : Obj := { cls := Value.type "tuple", data := Data.seq #[Value.type "ValueError"] }
noncomputable def b46_0 (P : Params) : Obj := { cls := Value.type "builtin_function_or_method", data := Data.fields #[Value.builtin "type.__prepare__", Value.type "type"] }
noncomputable def b47_0 (P : Params) : Obj := { cls := Value.type "dict", data := Data.dict #[{ hash := PyData.keyHash P (Str.ofString "__module__"), key := Value.str (Str.ofString "__module__") 388, val := Value.str (Str.ofString "cpy313.tomllib._parser") 230 }, { hash := PyData.keyHash P (Str.ofString "__qualname__"), key := Value.str (Str.ofString "__qualname__") 390, val := Value.str (Str.ofString "TOMLDecodeError") 389 }, { hash := PyData.keyHash P (Str.ofString "__firstlineno__"), key := Value.str (Str.ofString "__firstlineno__") 392, val := Value.int 19 391 }, { hash := PyData.keyHash P (Str.ofString "__static_attributes__"), key := Value.str (Str.ofString "__static_attributes__") 393, val := Value.ref 52 }] 4 }
noncomputable def b48_0 (P : Params) : Obj := { cls := Value.type "tuple", data := Data.seq #[] }
noncomputable def b49_0 (P : Params) : Obj := { cls := Value.none, data := Data.fields #[] }
noncomputable def b50_0 (P : Params) : Obj := { cls := Value.type "code", data := Data.fields #[Value.str (Str.ofString "TOMLDecodeError") 383, Value.str (Str.ofString "TOMLDecodeError") 384, Value.str (Str.ofString "/claim/cut.py") 385, Value.int 19 0, Value.int 0 0, Value.int 0 0, Value.int 0 0, Value.int 0 0, Value.ref 48, Value.bool false, Value.int 181 0, Value.ref 49, Value.none, Value.none, Value.none, Value.none, Value.int 386 0, Value.int 19 0, Value.str (Str.ofString "/claim/cut.py") 387] }
noncomputable def b51_0 (P : Params) : Obj := { cls := Value.type "frame", slots := #[some (Value.ref 50), some (Value.ref 3), some (Value.ref 47), none, some (Value.str (Str.ofString "cpy313.tomllib._parser") 230), none, some (Value.ref 0)] }
noncomputable def b52_0 (P : Params) : Obj := { cls := Value.type "tuple", data := Data.seq #[] }
noncomputable def b53_0 (P : Params) : Obj := { cls := Value.type "dict", data := Data.dict #[{ hash := PyData.keyHash P (Str.ofString "__module__"), key := Value.str (Str.ofString "__module__") 388, val := Value.str (Str.ofString "cpy313.tomllib._parser") 230 }, { hash := PyData.keyHash P (Str.ofString "__firstlineno__"), key := Value.str (Str.ofString "__firstlineno__") 392, val := Value.int 19 391 }, { hash := PyData.keyHash P (Str.ofString "__static_attributes__"), key := Value.str (Str.ofString "__static_attributes__") 393, val := Value.ref 52 }, { hash := PyData.keyHash P (Str.ofString "__weakref__"), key := Value.str (Str.ofString "__weakref__") 395, val := Value.ref 55 }, { hash := PyData.keyHash P (Str.ofString "__doc__"), key := Value.str (Str.ofString "__doc__") 396, val := Value.none }] 3 }
noncomputable def b54_0 (P : Params) : Obj := { cls := Value.type "type", data := Data.cls { name := Str.ofString "TOMLDecodeError", bases := [Value.type "ValueError"], mro := [Value.ref 54, Value.type "ValueError", Value.type "Exception", Value.type "BaseException", Value.type "object"], ns := 53, qualname := Str.ofString "TOMLDecodeError" }, slots := #[some (Value.ref 45), none, some (Value.str (Str.ofString "TOMLDecodeError") 381), some (Value.str (Str.ofString "TOMLDecodeError") 389), some (Value.builtin "ValueError.__new__"), some (Value.bool true)] }
noncomputable def b55_0 (P : Params) : Obj := { cls := Value.type "getset_descriptor", data := Data.fields #[Value.str (Str.ofString "__weakref__") 394, Value.ref 54, Value.builtin "ExceptionGroup.__weakref__", Value.none] }
noncomputable def b56_0 (P : Params) : Obj := { cls := Value.type "super", data := Data.fields #[Value.ref 54, Value.ref 54, Value.ref 54] }
noncomputable def b57_0 (P : Params) : Obj := { cls := Value.type "builtin_function_or_method", data := Data.fields #[Value.builtin "object.__init_subclass__", Value.ref 54] }
noncomputable def b58_0 (P : Params) : Obj := { cls := Value.type "tuple", data := Data.seq #[] }
noncomputable def b59_0 (P : Params) : Obj := { cls := Value.none, data := Data.fields #[] }
noncomputable def b60_0 (P : Params) : Obj := { cls := Value.type "tuple", data := Data.seq #[Value.str (Str.ofString "src") 402, Value.str (Str.ofString "pos") 403, Value.str (Str.ofString "chars") 404] }
noncomputable def b61_0 (P : Params) : Obj := { cls := Value.type "tuple", data := Data.seq #[] }
noncomputable def b62_0 (P : Params) : Obj := { cls := Value.none, data := Data.func { name := Str.ofString "skip_chars", qualname := Str.ofString "skip_chars", params := Mine.fnParams 8, body := FuncBody.stmts (Mine.fnBody 8), scope := Mine.fnScope 8, globals := 0, closure := [], defaults := Value.none, kwdefaults := Value.none } }
noncomputable def b63_0 (P : Params) : Obj := { cls := Value.type "code", data := Data.fields #[Value.str (Str.ofString "skip_chars") 399, Value.str (Str.ofString "skip_chars") 400, Value.str (Str.ofString "/claim/cut.py") 401, Value.int 21 0, Value.int 3 0, Value.int 0 0, Value.int 0 0, Value.int 3 0, Value.ref 58, Value.bool true, Value.int 181 0, Value.ref 59, Value.none, Value.ref 60, Value.ref 61, Value.ref 62, Value.int 405 0, Value.int 21 0, Value.str (Str.ofString "/claim/cut.py") 406] }
noncomputable def b64_0 (P : Params) : Obj := { cls := Value.type "function", data := Data.func { name := Str.ofString "skip_chars", qualname := Str.ofString "skip_chars", params := Mine.fnParams 8, body := FuncBody.stmts (Mine.fnBody 8), scope := Mine.fnScope 8, globals := 3, closure := [], defaults := Value.none, kwdefaults := Value.none, pyModule := Value.str (Str.ofString "cpy313.tomllib._parser") 230, code := Value.ref 63 } }
noncomputable def b65_0 (P : Params) : Obj := { cls := Value.type "tuple", data := Data.seq #[] }
noncomputable def b66_0 (P : Params) : Obj := { cls := Value.none, data := Data.fields #[] }
noncomputable def b67_0 (P : Params) : Obj := { cls := Value.type "tuple", data := Data.seq #[Value.str (Str.ofString "src") 411, Value.str (Str.ofString "pos") 412, Value.str (Str.ofString "expect") 413, Value.str (Str.ofString "error_on") 414, Value.str (Str.ofString "error_on_eof") 415, Value.str (Str.ofString "new_pos") 416] }
noncomputable def b68_0 (P : Params) : Obj := { cls := Value.type "tuple", data := Data.seq #[] }
noncomputable def b69_0 (P : Params) : Obj := { cls := Value.none, data := Data.func { name := Str.ofString "skip_until", qualname := Str.ofString "skip_until", params := Mine.fnParams 9, body := FuncBody.stmts (Mine.fnBody 9), scope := Mine.fnScope 9, globals := 0, closure := [], defaults := Value.none, kwdefaults := Value.none } }
noncomputable def b70_0 (P : Params) : Obj := { cls := Value.type "code", data := Data.fields #[Value.str (Str.ofString "skip_until") 408, Value.str (Str.ofString "skip_until") 409, Value.str (Str.ofString "/claim/cut.py") 410, Value.int 28 0, Value.int 3 0, Value.int 0 0, Value.int 2 0, Value.int 3 0, Value.ref 65, Value.bool true, Value.int 181 0, Value.ref 66, Value.none, Value.ref 67, Value.ref 68, Value.ref 69, Value.int 417 0, Value.int 28 0, Value.str (Str.ofString "/claim/cut.py") 418] }
noncomputable def b71_0 (P : Params) : Obj := { cls := Value.type "function", data := Data.func { name := Str.ofString "skip_until", qualname := Str.ofString "skip_until", params := Mine.fnParams 9, body := FuncBody.stmts (Mine.fnBody 9), scope := Mine.fnScope 9, globals := 3, closure := [], defaults := Value.none, kwdefaults := Value.none, pyModule := Value.str (Str.ofString "cpy313.tomllib._parser") 230, code := Value.ref 70 } }
noncomputable def b72_0 (P : Params) : Obj := { cls := Value.type "tuple", data := Data.seq #[] }
noncomputable def b73_0 (P : Params) : Obj := { cls := Value.none, data := Data.fields #[] }
noncomputable def b74_0 (P : Params) : Obj := { cls := Value.type "tuple", data := Data.seq #[Value.str (Str.ofString "src") 423, Value.str (Str.ofString "pos") 424, Value.str (Str.ofString "char") 425] }
noncomputable def b75_0 (P : Params) : Obj := { cls := Value.type "tuple", data := Data.seq #[] }
noncomputable def b76_0 (P : Params) : Obj := { cls := Value.none, data := Data.func { name := Str.ofString "skip_comment", qualname := Str.ofString "skip_comment", params := Mine.fnParams 10, body := FuncBody.stmts (Mine.fnBody 10), scope := Mine.fnScope 10, globals := 0, closure := [], defaults := Value.none, kwdefaults := Value.none } }
noncomputable def b77_0 (P : Params) : Obj := { cls := Value.type "code", data := Data.fields #[Value.str (Str.ofString "skip_comment") 420, Value.str (Str.ofString "skip_comment") 421, Value.str (Str.ofString "/claim/cut.py") 422, Value.int 40 0, Value.int 2 0, Value.int 0 0, Value.int 0 0, Value.int 3 0, Value.ref 72, Value.bool true, Value.int 181 0, Value.ref 73, Value.none, Value.ref 74, Value.ref 75, Value.ref 76, Value.int 426 0, Value.int 40 0, Value.str (Str.ofString "/claim/cut.py") 427] }
noncomputable def b78_0 (P : Params) : Obj := { cls := Value.type "function", data := Data.func { name := Str.ofString "skip_comment", qualname := Str.ofString "skip_comment", params := Mine.fnParams 10, body := FuncBody.stmts (Mine.fnBody 10), scope := Mine.fnScope 10, globals := 3, closure := [], defaults := Value.none, kwdefaults := Value.none, pyModule := Value.str (Str.ofString "cpy313.tomllib._parser") 230, code := Value.ref 77 } }
noncomputable def b79_0 (P : Params) : Obj := { cls := Value.type "tuple", data := Data.seq #[] }
noncomputable def b80_0 (P : Params) : Obj := { cls := Value.none, data := Data.fields #[] }
noncomputable def b81_0 (P : Params) : Obj := { cls := Value.type "tuple", data := Data.seq #[Value.str (Str.ofString "src") 432, Value.str (Str.ofString "pos") 433, Value.str (Str.ofString "msg") 434, Value.str (Str.ofString "coord_repr") 435] }
noncomputable def b82_0 (P : Params) : Obj := { cls := Value.type "tuple", data := Data.seq #[] }
noncomputable def b83_0 (P : Params) : Obj := { cls := Value.none, data := Data.func { name := Str.ofString "suffixed_err", qualname := Str.ofString "suffixed_err", params := Mine.fnParams 11, body := FuncBody.stmts (Mine.fnBody 11), scope := Mine.fnScope 11, globals := 0, closure := [], defaults := Value.none, kwdefaults := Value.none } }
noncomputable def b84_0 (P : Params) : Obj := { cls := Value.type "code", data := Data.fields #[Value.str (Str.ofString "suffixed_err") 429, Value.str (Str.ofString "suffixed_err") 430, Value.str (Str.ofString "/claim/cut.py") 431, Value.int 48 0, Value.int 3 0, Value.int 0 0, Value.int 0 0, Value.int 3 0, Value.ref 79, Value.bool true, Value.int 181 0, Value.ref 80, Value.none, Value.ref 81, Value.ref 82, Value.ref 83, Value.int 436 0, Value.int 48 0, Value.str (Str.ofString "/claim/cut.py") 437] }
noncomputable def b85_0 (P : Params) : Obj := { cls := Value.type "function", data := Data.func { name := Str.ofString "suffixed_err", qualname := Str.ofString "suffixed_err", params := Mine.fnParams 11, body := FuncBody.stmts (Mine.fnBody 11), scope := Mine.fnScope 11, globals := 3, closure := [], defaults := Value.none, kwdefaults := Value.none, pyModule := Value.str (Str.ofString "cpy313.tomllib._parser") 230, code := Value.ref 84 } }
noncomputable def b86_0 (P : Params) : Obj := { cls := Value.type "tuple", data := Data.seq #[] }
noncomputable def b87_0 (P : Params) : Obj := { cls := Value.none, data := Data.fields #[] }
noncomputable def b88_0 (P : Params) : Obj := { cls := Value.type "tuple", data := Data.seq #[Value.str (Str.ofString "x") 444] }
noncomputable def b89_0 (P : Params) : Obj := { cls := Value.type "tuple", data := Data.seq #[] }
noncomputable def b90_0 (P : Params) : Obj := { cls := Value.none, data := Data.func { name := Str.ofString "_law_flags", qualname := Str.ofString "_law_flags", params := Mine.fnParams 13, body := FuncBody.stmts (Mine.fnBody 13), scope := Mine.fnScope 13, globals := 0, closure := [], defaults := Value.none, kwdefaults := Value.none } }
noncomputable def b91_0 (P : Params) : Obj := { cls := Value.type "code", data := Data.fields #[Value.str (Str.ofString "_law_flags") 441, Value.str (Str.ofString "_law_flags") 442, Value.str (Str.ofString "/claim/cut.py") 443, Value.int 61 0, Value.int 1 0, Value.int 0 0, Value.int 0 0, Value.int 3 0, Value.ref 86, Value.bool true, Value.int 181 0, Value.ref 87, Value.none, Value.ref 88, Value.ref 89, Value.ref 90, Value.int 445 0, Value.int 61 0, Value.str (Str.ofString "/claim/cut.py") 446] }
noncomputable def b92_0 (P : Params) : Obj := { cls := Value.type "function", data := Data.func { name := Str.ofString "_law_flags", qualname := Str.ofString "_law_flags", params := Mine.fnParams 13, body := FuncBody.stmts (Mine.fnBody 13), scope := Mine.fnScope 13, globals := 3, closure := [], defaults := Value.none, kwdefaults := Value.none, pyModule := Value.str (Str.ofString "law_oh0011_01") 439, code := Value.ref 91 } }
noncomputable def b93_0 (P : Params) : Obj := { cls := Value.type "tuple", data := Data.seq #[] }
noncomputable def b94_0 (P : Params) : Obj := { cls := Value.none, data := Data.fields #[] }
noncomputable def b95_0 (P : Params) : Obj := { cls := Value.type "tuple", data := Data.seq #[Value.str (Str.ofString "x") 451] }
noncomputable def b96_0 (P : Params) : Obj := { cls := Value.type "tuple", data := Data.seq #[] }
noncomputable def b97_0 (P : Params) : Obj := { cls := Value.none, data := Data.func { name := Str.ofString "_law_head", qualname := Str.ofString "_law_head", params := Mine.fnParams 14, body := FuncBody.stmts (Mine.fnBody 14), scope := Mine.fnScope 14, globals := 0, closure := [], defaults := Value.none, kwdefaults := Value.none } }
noncomputable def b98_0 (P : Params) : Obj := { cls := Value.type "code", data := Data.fields #[Value.str (Str.ofString "_law_head") 448, Value.str (Str.ofString "_law_head") 449, Value.str (Str.ofString "/claim/cut.py") 450, Value.int 63 0, Value.int 1 0, Value.int 0 0, Value.int 0 0, Value.int 3 0, Value.ref 93, Value.bool true, Value.int 181 0, Value.ref 94, Value.none, Value.ref 95, Value.ref 96, Value.ref 97, Value.int 452 0, Value.int 63 0, Value.str (Str.ofString "/claim/cut.py") 453] }
noncomputable def b99_0 (P : Params) : Obj := { cls := Value.type "function", data := Data.func { name := Str.ofString "_law_head", qualname := Str.ofString "_law_head", params := Mine.fnParams 14, body := FuncBody.stmts (Mine.fnBody 14), scope := Mine.fnScope 14, globals := 3, closure := [], defaults := Value.none, kwdefaults := Value.none, pyModule := Value.str (Str.ofString "law_oh0011_01") 439, code := Value.ref 98 } }
noncomputable def b100_0 (P : Params) : Obj := { cls := Value.type "tuple", data := Data.seq #[] }
noncomputable def b101_0 (P : Params) : Obj := { cls := Value.none, data := Data.fields #[] }
noncomputable def b102_0 (P : Params) : Obj := { cls := Value.none, data := Data.func { name := Str.ofString "_law_wide", qualname := Str.ofString "_law_wide", params := Mine.fnParams 15, body := FuncBody.stmts (Mine.fnBody 15), scope := Mine.fnScope 15, globals := 0, closure := [], defaults := Value.none, kwdefaults := Value.none } }
noncomputable def b103_0 (P : Params) : Obj := { cls := Value.type "code", data := Data.fields #[Value.str (Str.ofString "_law_wide") 455, Value.str (Str.ofString "_law_wide") 456, Value.str (Str.ofString "/claim/cut.py") 457, Value.int 65 0, Value.int 1 0, Value.int 0 0, Value.int 0 0, Value.int 3 0, Value.ref 100, Value.bool true, Value.int 181 0, Value.ref 101, Value.none, Value.none, Value.none, Value.ref 102, Value.int 458 0, Value.int 65 0, Value.str (Str.ofString "/claim/cut.py") 459] }
noncomputable def b104_0 (P : Params) : Obj := { cls := Value.type "function", data := Data.func { name := Str.ofString "_law_wide", qualname := Str.ofString "_law_wide", params := Mine.fnParams 15, body := FuncBody.stmts (Mine.fnBody 15), scope := Mine.fnScope 15, globals := 3, closure := [], defaults := Value.none, kwdefaults := Value.none, pyModule := Value.str (Str.ofString "law_oh0011_01") 439, code := Value.ref 103 } }
noncomputable def b105_0 (P : Params) : Obj := { cls := Value.type "tuple", data := Data.seq #[] }
noncomputable def b106_0 (P : Params) : Obj := { cls := Value.none, data := Data.fields #[] }
noncomputable def b107_0 (P : Params) : Obj := { cls := Value.none, data := Data.func { name := Str.ofString "_law_due", qualname := Str.ofString "_law_due", params := Mine.fnParams 16, body := FuncBody.stmts (Mine.fnBody 16), scope := Mine.fnScope 16, globals := 0, closure := [], defaults := Value.none, kwdefaults := Value.none } }
noncomputable def b108_0 (P : Params) : Obj := { cls := Value.type "code", data := Data.fields #[Value.str (Str.ofString "_law_due") 461, Value.str (Str.ofString "_law_due") 462, Value.str (Str.ofString "/claim/cut.py") 463, Value.int 75 0, Value.int 1 0, Value.int 0 0, Value.int 0 0, Value.int 3 0, Value.ref 105, Value.bool true, Value.int 181 0, Value.ref 106, Value.none, Value.none, Value.none, Value.ref 107, Value.int 464 0, Value.int 75 0, Value.str (Str.ofString "/claim/cut.py") 465] }
noncomputable def b109_0 (P : Params) : Obj := { cls := Value.type "function", data := Data.func { name := Str.ofString "_law_due", qualname := Str.ofString "_law_due", params := Mine.fnParams 16, body := FuncBody.stmts (Mine.fnBody 16), scope := Mine.fnScope 16, globals := 3, closure := [], defaults := Value.none, kwdefaults := Value.none, pyModule := Value.str (Str.ofString "law_oh0011_01") 439, code := Value.ref 108 } }
noncomputable def b110_0 (P : Params) : Obj := { cls := Value.type "tuple", data := Data.seq #[] }
noncomputable def b111_0 (P : Params) : Obj := { cls := Value.none, data := Data.fields #[] }
noncomputable def b112_0 (P : Params) : Obj := { cls := Value.type "tuple", data := Data.seq #[Value.str (Str.ofString "src") 470, Value.str (Str.ofString "lines") 471, Value.str (Str.ofString "names") 472, Value.str (Str.ofString "signs") 473, Value.str (Str.ofString "pos") 474, Value.str (Str.ofString "words") 475, Value.str (Str.ofString "last") 476, Value.str (Str.ofString "end") 477, Value.str (Str.ofString "word") 478] }
noncomputable def b113_0 (P : Params) : Obj := { cls := Value.type "tuple", data := Data.seq #[] }
noncomputable def b114_0 (P : Params) : Obj := { cls := Value.none, data := Data.func { name := Str.ofString "_law_read", qualname := Str.ofString "_law_read", params := Mine.fnParams 17, body := FuncBody.stmts (Mine.fnBody 17), scope := Mine.fnScope 17, globals := 0, closure := [], defaults := Value.none, kwdefaults := Value.none } }
noncomputable def b115_0 (P : Params) : Obj := { cls := Value.type "code", data := Data.fields #[Value.str (Str.ofString "_law_read") 467, Value.str (Str.ofString "_law_read") 468, Value.str (Str.ofString "/claim/cut.py") 469, Value.int 81 0, Value.int 2 0, Value.int 0 0, Value.int 0 0, Value.int 3 0, Value.ref 110, Value.bool true, Value.int 181 0, Value.ref 111, Value.none, Value.ref 112, Value.ref 113, Value.ref 114, Value.int 479 0, Value.int 81 0, Value.str (Str.ofString "/claim/cut.py") 480] }
noncomputable def b116_0 (P : Params) : Obj := { cls := Value.type "function", data := Data.func { name := Str.ofString "_law_read", qualname := Str.ofString "_law_read", params := Mine.fnParams 17, body := FuncBody.stmts (Mine.fnBody 17), scope := Mine.fnScope 17, globals := 3, closure := [], defaults := Value.none, kwdefaults := Value.none, pyModule := Value.str (Str.ofString "law_oh0011_01") 439, code := Value.ref 115 } }
noncomputable def b117_0 (P : Params) : Obj := { cls := Value.type "tuple", data := Data.seq #[] }
noncomputable def b118_0 (P : Params) : Obj := { cls := Value.none, data := Data.fields #[] }
noncomputable def b119_0 (P : Params) : Obj := { cls := Value.type "tuple", data := Data.seq #[Value.str (Str.ofString "src") 485, Value.str (Str.ofString "lines") 486, Value.str (Str.ofString "error") 487] }
noncomputable def b120_0 (P : Params) : Obj := { cls := Value.type "tuple", data := Data.seq #[] }
noncomputable def b121_0 (P : Params) : Obj := { cls := Value.none, data := Data.func { name := Str.ofString "_law_told", qualname := Str.ofString "_law_told", params := Mine.fnParams 18, body := FuncBody.stmts (Mine.fnBody 18), scope := Mine.fnScope 18, globals := 0, closure := [], defaults := Value.none, kwdefaults := Value.none } }
noncomputable def b122_0 (P : Params) : Obj := { cls := Value.type "code", data := Data.fields #[Value.str (Str.ofString "_law_told") 482, Value.str (Str.ofString "_law_told") 483, Value.str (Str.ofString "/claim/cut.py") 484, Value.int 96 0, Value.int 1 0, Value.int 0 0, Value.int 0 0, Value.int 3 0, Value.ref 117, Value.bool true, Value.int 181 0, Value.ref 118, Value.none, Value.ref 119, Value.ref 120, Value.ref 121, Value.int 488 0, Value.int 96 0, Value.str (Str.ofString "/claim/cut.py") 489] }
noncomputable def b123_0 (P : Params) : Obj := { cls := Value.type "function", data := Data.func { name := Str.ofString "_law_told", qualname := Str.ofString "_law_told", params := Mine.fnParams 18, body := FuncBody.stmts (Mine.fnBody 18), scope := Mine.fnScope 18, globals := 3, closure := [], defaults := Value.none, kwdefaults := Value.none, pyModule := Value.str (Str.ofString "law_oh0011_01") 439, code := Value.ref 122 } }
noncomputable def b124_0 (P : Params) : Obj := { cls := Value.type "tuple", data := Data.seq #[] }
noncomputable def b125_0 (P : Params) : Obj := { cls := Value.none, data := Data.fields #[] }
noncomputable def b126_0 (P : Params) : Obj := { cls := Value.none, data := Data.func { name := Str.ofString "law", qualname := Str.ofString "law", params := Mine.fnParams 19, body := FuncBody.stmts (Mine.fnBody 19), scope := Mine.fnScope 19, globals := 0, closure := [], defaults := Value.none, kwdefaults := Value.none } }
noncomputable def b127_0 (P : Params) : Obj := { cls := Value.type "code", data := Data.fields #[Value.str (Str.ofString "law") 491, Value.str (Str.ofString "law") 492, Value.str (Str.ofString "/claim/cut.py") 493, Value.int 103 0, Value.int 1 0, Value.int 0 0, Value.int 0 0, Value.int 3 0, Value.ref 124, Value.bool true, Value.int 181 0, Value.ref 125, Value.none, Value.none, Value.none, Value.ref 126, Value.int 494 0, Value.int 103 0, Value.str (Str.ofString "/claim/cut.py") 495] }
noncomputable def b128_0 (P : Params) : Obj := { cls := Value.type "function", data := Data.func { name := Str.ofString "law", qualname := Str.ofString "law", params := Mine.fnParams 19, body := FuncBody.stmts (Mine.fnBody 19), scope := Mine.fnScope 19, globals := 3, closure := [], defaults := Value.none, kwdefaults := Value.none, pyModule := Value.str (Str.ofString "law_oh0011_01") 439, code := Value.ref 127 } }
noncomputable def t_pre (P : Params) : BT := (.node (boot_o_0 P) (.node (boot_o_1 P) (.node (boot_o_3 P) (.node (boot_o_7 P) .nil .nil) (.node (b11_0 P) .nil .nil)) (.node (boot_o_5 P) (.node (boot_o_9 P) .nil .nil) (.node (b13_0 P) .nil .nil))) (.node (boot_o_2 P) (.node (boot_o_4 P) (.node (boot_o_8 P) .nil .nil) (.node (b12_0 P) .nil .nil)) (.node (boot_o_6 P) (.node (boot_o_10 P) .nil .nil) (.node (b14_0 P) .nil .nil))))
noncomputable def pos_pre : Pos := { line := 0, col := 0, endLine := 0, endCol := 0 }
noncomputable def t_p3 (P : Params) : BT := (.node (boot_o_0 P) (.node (boot_o_1 P) (.node (b3_0 P) (.node (boot_o_7 P) (.node (b15_0 P) .nil .nil) .nil) (.node (b11_0 P) (.node (b19_0 P) .nil .nil) .nil)) (.node (boot_o_5 P) (.node (boot_o_9 P) (.node (b17_0 P) .nil .nil) .nil) (.node (b13_0 P) (.node (b21_0 P) .nil .nil) .nil))) (.node (boot_o_2 P) (.node (boot_o_4 P) (.node (boot_o_8 P) (.node (b16_0 P) .nil .nil) .nil) (.node (b12_1 P) (.node (b20_0 P) .nil .nil) .nil)) (.node (boot_o_6 P) (.node (boot_o_10 P) (.node (b18_0 P) .nil .nil) .nil) (.node (b14_0 P) (.node (b22_0 P) .nil .nil) .nil))))
noncomputable def pos_p3 : Pos := { line := 15, col := 0, endLine := 15, endCol := 8 }
noncomputable def t_q86 (P : Params) (x30 : Obj) : BT := (.node (boot_o_0 P) (.node (boot_o_1 P) (.node (b3_0 P) (.node (boot_o_7 P) (.node (b15_0 P) .nil .nil) (.node (b23_0 P) .nil .nil)) (.node (b11_0 P) (.node (b19_0 P) .nil .nil) (.node (b27_0 P) .nil .nil))) (.node (boot_o_5 P) (.node (boot_o_9 P) (.node (b17_0 P) .nil .nil) (.node (b25_0 P) .nil .nil)) (.node (b13_0 P) (.node (b21_0 P) .nil .nil) (.node (b29_0 P) .nil .nil)))) (.node (boot_o_2 P) (.node (boot_o_4 P) (.node (boot_o_8 P) (.node (b16_0 P) .nil .nil) (.node (b24_0 P) .nil .nil)) (.node (b12_2 P) (.node (b20_0 P) .nil .nil) (.node (b28_0 P) .nil .nil))) (.node (boot_o_6 P) (.node (boot_o_10 P) (.node (b18_0 P) .nil .nil) (.node (b26_0 P) .nil .nil)) (.node (b14_0 P) (.node (b22_0 P) .nil .nil) (.node x30 .nil .nil)))))
noncomputable def pos_q86 : Pos := { line := 16, col := 13, endLine := 16, endCol := 51 }
noncomputable def t_q144 (P : Params) (x24 x28 x30 : Obj) : BT := (.node (boot_o_0 P) (.node (boot_o_1 P) (.node (b3_0 P) (.node (boot_o_7 P) (.node (b15_0 P) .nil .nil) (.node (b23_0 P) .nil .nil)) (.node (b11_0 P) (.node (b19_0 P) .nil .nil) (.node (b27_0 P) .nil .nil))) (.node (boot_o_5 P) (.node (boot_o_9 P) (.node (b17_0 P) .nil .nil) (.node (b25_0 P) .nil .nil)) (.node (b13_0 P) (.node (b21_0 P) .nil .nil) (.node (b29_0 P) .nil .nil)))) (.node (boot_o_2 P) (.node (boot_o_4 P) (.node (boot_o_8 P) (.node (b16_0 P) .nil .nil) (.node x24 .nil .nil)) (.node (b12_2 P) (.node (b20_0 P) .nil .nil) (.node x28 .nil .nil))) (.node (boot_o_6 P) (.node (boot_o_10 P) (.node (b18_0 P) .nil .nil) (.node (b26_0 P) .nil .nil)) (.node (b14_0 P) (.node (b22_0 P) .nil .nil) (.node x30 .nil .nil)))))
noncomputable def pos_q144 : Pos := { line := 16, col := 13, endLine := 16, endCol := 51 }
noncomputable def t_q2038 (P : Params) (x30 x35 : Obj) : BT := (.node (boot_o_0 P) (.node (boot_o_1 P) (.node (b3_0 P) (.node (boot_o_7 P) (.node (b15_0 P) (.node (b31_0 P) .nil .nil) .nil) (.node (b23_0 P) .nil .nil)) (.node (b11_0 P) (.node (b19_0 P) (.node x35 .nil .nil) .nil) (.node (b27_0 P) .nil .nil))) (.node (boot_o_5 P) (.node (boot_o_9 P) (.node (b17_0 P) (.node (b33_0 P) .nil .nil) .nil) (.node (b25_0 P) .nil .nil)) (.node (b13_0 P) (.node (b21_0 P) (.node (b37_0 P) .nil .nil) .nil) (.node (b29_0 P) .nil .nil)))) (.node (boot_o_2 P) (.node (boot_o_4 P) (.node (boot_o_8 P) (.node (b16_0 P) (.node (b32_0 P) .nil .nil) .nil) (.node (b24_1 P) .nil .nil)) (.node (b12_2 P) (.node (b20_0 P) (.node (b36_0 P) .nil .nil) .nil) (.node (b28_1 P) .nil .nil))) (.node (boot_o_6 P) (.node (boot_o_10 P) (.node (b18_0 P) (.node (b34_0 P) .nil .nil) .nil) (.node (b26_0 P) .nil .nil)) (.node (b14_0 P) (.node (b22_0 P) (.node (b38_0 P) .nil .nil) .nil) (.node x30 .nil .nil)))))
noncomputable def pos_q2038 : Pos := { line := 16, col := 13, endLine := 16, endCol := 73 }
noncomputable def t_q2045 (P : Params) (x30 x35 x39 : Obj) : BT := (.node (boot_o_0 P) (.node (boot_o_1 P) (.node (b3_0 P) (.node (boot_o_7 P) (.node (b15_0 P) (.node (b31_0 P) .nil .nil) .nil) (.node (b23_0 P) (.node x39 .nil .nil) .nil)) (.node (b11_0 P) (.node (b19_0 P) (.node x35 .nil .nil) .nil) (.node (b27_0 P) .nil .nil))) (.node (boot_o_5 P) (.node (boot_o_9 P) (.node (b17_0 P) (.node (b33_0 P) .nil .nil) .nil) (.node (b25_0 P) .nil .nil)) (.node (b13_0 P) (.node (b21_0 P) (.node (b37_0 P) .nil .nil) .nil) (.node (b29_0 P) .nil .nil)))) (.node (boot_o_2 P) (.node (boot_o_4 P) (.node (boot_o_8 P) (.node (b16_0 P) (.node (b32_0 P) .nil .nil) .nil) (.node (b24_1 P) .nil .nil)) (.node (b12_2 P) (.node (b20_0 P) (.node (b36_0 P) .nil .nil) .nil) (.node (b28_1 P) .nil .nil))) (.node (boot_o_6 P) (.node (boot_o_10 P) (.node (b18_0 P) (.node (b34_0 P) .nil .nil) .nil) (.node (b26_0 P) .nil .nil)) (.node (b14_0 P) (.node (b22_0 P) (.node (b38_0 P) .nil .nil) .nil) (.node x30 .nil .nil)))))
noncomputable def pos_q2045 : Pos := { line := 16, col := 13, endLine := 16, endCol := 73 }
noncomputable def t_p4 (P : Params) (x30 x35 x39 : Obj) : BT := (.node (boot_o_0 P) (.node (boot_o_1 P) (.node (b3_1 P) (.node (boot_o_7 P) (.node (b15_0 P) (.node (b31_0 P) .nil .nil) .nil) (.node (b23_0 P) (.node x39 .nil .nil) .nil)) (.node (b11_0 P) (.node (b19_0 P) (.node x35 .nil .nil) .nil) (.node (b27_0 P) .nil .nil))) (.node (boot_o_5 P) (.node (boot_o_9 P) (.node (b17_0 P) (.node (b33_0 P) .nil .nil) .nil) (.node (b25_0 P) .nil .nil)) (.node (b13_0 P) (.node (b21_0 P) (.node (b37_0 P) .nil .nil) .nil) (.node (b29_0 P) .nil .nil)))) (.node (boot_o_2 P) (.node (boot_o_4 P) (.node (boot_o_8 P) (.node (b16_0 P) (.node (b32_0 P) .nil .nil) .nil) (.node (b24_1 P) .nil .nil)) (.node (b12_2 P) (.node (b20_0 P) (.node (b36_0 P) .nil .nil) .nil) (.node (b28_1 P) .nil .nil))) (.node (boot_o_6 P) (.node (boot_o_10 P) (.node (b18_0 P) (.node (b34_0 P) .nil .nil) .nil) (.node (b26_0 P) .nil .nil)) (.node (b14_0 P) (.node (b22_0 P) (.node (b38_0 P) .nil .nil) .nil) (.node x30 .nil .nil)))))
noncomputable def pos_p4 : Pos := { line := 16, col := 0, endLine := 16, endCol := 10 }
noncomputable def t_r76 (P : Params) (x30 x35 x39 x40 : Obj) : BT := (.node (boot_o_0 P) (.node (boot_o_1 P) (.node (b3_1 P) (.node (boot_o_7 P) (.node (b15_0 P) (.node (b31_0 P) .nil .nil) .nil) (.node (b23_0 P) (.node x39 .nil .nil) .nil)) (.node (b11_0 P) (.node (b19_0 P) (.node x35 .nil .nil) .nil) (.node (b27_0 P) (.node (b43_0 P) .nil .nil) .nil))) (.node (boot_o_5 P) (.node (boot_o_9 P) (.node (b17_0 P) (.node (b33_0 P) .nil .nil) .nil) (.node (b25_0 P) (.node (b41_0 P) .nil .nil) .nil)) (.node (b13_0 P) (.node (b21_0 P) (.node (b37_0 P) .nil .nil) .nil) (.node (b29_0 P) .nil .nil)))) (.node (boot_o_2 P) (.node (boot_o_4 P) (.node (boot_o_8 P) (.node (b16_0 P) (.node (b32_0 P) .nil .nil) .nil) (.node (b24_1 P) (.node x40 .nil .nil) .nil)) (.node (b12_2 P) (.node (b20_0 P) (.node (b36_0 P) .nil .nil) .nil) (.node (b28_1 P) .nil .nil))) (.node (boot_o_6 P) (.node (boot_o_10 P) (.node (b18_0 P) (.node (b34_0 P) .nil .nil) .nil) (.node (b26_0 P) (.node (b42_0 P) .nil .nil) .nil)) (.node (b14_0 P) (.node (b22_0 P) (.node (b38_0 P) .nil .nil) .nil) (.node x30 .nil .nil)))))
noncomputable def pos_r76 : Pos := { line := 17, col := 26, endLine := 17, endCol := 54 }
noncomputable def t_r88 (P : Params) (x30 x35 x39 x40 x44 : Obj) : BT := (.node (boot_o_0 P) (.node (boot_o_1 P) (.node (b3_1 P) (.node (boot_o_7 P) (.node (b15_0 P) (.node (b31_0 P) .nil .nil) .nil) (.node (b23_0 P) (.node x39 .nil .nil) .nil)) (.node (b11_0 P) (.node (b19_0 P) (.node x35 .nil .nil) .nil) (.node (b27_0 P) (.node (b43_0 P) .nil .nil) .nil))) (.node (boot_o_5 P) (.node (boot_o_9 P) (.node (b17_0 P) (.node (b33_0 P) .nil .nil) .nil) (.node (b25_0 P) (.node (b41_0 P) .nil .nil) .nil)) (.node (b13_0 P) (.node (b21_0 P) (.node (b37_0 P) .nil .nil) .nil) (.node (b29_0 P) .nil .nil)))) (.node (boot_o_2 P) (.node (boot_o_4 P) (.node (boot_o_8 P) (.node (b16_0 P) (.node (b32_0 P) .nil .nil) .nil) (.node (b24_1 P) (.node x40 .nil .nil) .nil)) (.node (b12_2 P) (.node (b20_0 P) (.node (b36_0 P) .nil .nil) .nil) (.node (b28_1 P) (.node x44 .nil .nil) .nil))) (.node (boot_o_6 P) (.node (boot_o_10 P) (.node (b18_0 P) (.node (b34_0 P) .nil .nil) .nil) (.node (b26_0 P) (.node (b42_0 P) .nil .nil) .nil)) (.node (b14_0 P) (.node (b22_0 P) (.node (b38_0 P) .nil .nil) .nil) (.node x30 .nil .nil)))))
noncomputable def pos_r88 : Pos := { line := 17, col := 26, endLine := 17, endCol := 54 }
noncomputable def t_p5 (P : Params) (x30 x35 x39 x40 x44 : Obj) : BT := (.node (boot_o_0 P) (.node (boot_o_1 P) (.node (b3_2 P) (.node (boot_o_7 P) (.node (b15_0 P) (.node (b31_0 P) .nil .nil) .nil) (.node (b23_0 P) (.node x39 .nil .nil) .nil)) (.node (b11_0 P) (.node (b19_0 P) (.node x35 .nil .nil) .nil) (.node (b27_0 P) (.node (b43_0 P) .nil .nil) .nil))) (.node (boot_o_5 P) (.node (boot_o_9 P) (.node (b17_0 P) (.node (b33_0 P) .nil .nil) .nil) (.node (b25_0 P) (.node (b41_0 P) .nil .nil) .nil)) (.node (b13_0 P) (.node (b21_0 P) (.node (b37_0 P) .nil .nil) .nil) (.node (b29_0 P) .nil .nil)))) (.node (boot_o_2 P) (.node (boot_o_4 P) (.node (boot_o_8 P) (.node (b16_0 P) (.node (b32_0 P) .nil .nil) .nil) (.node (b24_1 P) (.node x40 .nil .nil) .nil)) (.node (b12_2 P) (.node (b20_0 P) (.node (b36_0 P) .nil .nil) .nil) (.node (b28_1 P) (.node x44 .nil .nil) .nil))) (.node (boot_o_6 P) (.node (boot_o_10 P) (.node (b18_0 P) (.node (b34_0 P) .nil .nil) .nil) (.node (b26_0 P) (.node (b42_0 P) .nil .nil) .nil)) (.node (b14_0 P) (.node (b22_0 P) (.node (b38_0 P) .nil .nil) .nil) (.node x30 .nil .nil)))))
noncomputable def pos_p5 : Pos := { line := 17, col := 0, endLine := 17, endCol := 23 }
noncomputable def t_p6 (P : Params) (x30 x35 x39 x40 x44 : Obj) : BT := (.node (boot_o_0 P) (.node (boot_o_1 P) (.node (b3_3 P) (.node (boot_o_7 P) (.node (b15_0 P) (.node (b31_0 P) .nil .nil) .nil) (.node (b23_0 P) (.node x39 .nil .nil) .nil)) (.node (b11_0 P) (.node (b19_0 P) (.node x35 .nil .nil) .nil) (.node (b27_0 P) (.node (b43_0 P) .nil .nil) .nil))) (.node (boot_o_5 P) (.node (boot_o_9 P) (.node (b17_0 P) (.node (b33_0 P) .nil .nil) .nil) (.node (b25_0 P) (.node (b41_0 P) .nil .nil) .nil)) (.node (b13_0 P) (.node (b21_0 P) (.node (b37_0 P) .nil .nil) .nil) (.node (b29_0 P) .nil .nil)))) (.node (boot_o_2 P) (.node (boot_o_4 P) (.node (boot_o_8 P) (.node (b16_0 P) (.node (b32_0 P) .nil .nil) .nil) (.node (b24_1 P) (.node x40 .nil .nil) .nil)) (.node (b12_2 P) (.node (b20_0 P) (.node (b36_0 P) .nil .nil) .nil) (.node (b28_1 P) (.node x44 .nil .nil) .nil))) (.node (boot_o_6 P) (.node (boot_o_10 P) (.node (b18_0 P) (.node (b34_0 P) .nil .nil) .nil) (.node (b26_0 P) (.node (b42_0 P) .nil .nil) .nil)) (.node (b14_0 P) (.node (b22_0 P) (.node (b38_0 P) .nil .nil) .nil) (.node x30 .nil .nil)))))
noncomputable def pos_p6 : Pos := { line := 18, col := 0, endLine := 18, endCol := 21 }
noncomputable def t_p19 (P : Params) (x30 x35 x39 x40 x44 : Obj) : BT := (.node (boot_o_0 P) (.node (boot_o_1 P) (.node (b3_4 P) (.node (boot_o_7 P) (.node (b15_0 P) (.node (b31_0 P) (.node (b63_0 P) (.node (b127_0 P) .nil .nil) .nil) (.node (b95_0 P) .nil .nil)) (.node (b47_0 P) (.node (b79_0 P) .nil .nil) (.node (b111_0 P) .nil .nil))) (.node (b23_0 P) (.node x39 (.node (b71_0 P) .nil .nil) (.node (b103_0 P) .nil .nil)) (.node (b55_0 P) (.node (b87_0 P) .nil .nil) (.node (b119_0 P) .nil .nil)))) (.node (b11_0 P) (.node (b19_0 P) (.node x35 (.node (b67_0 P) .nil .nil) (.node (b99_0 P) .nil .nil)) (.node (b51_0 P) (.node (b83_0 P) .nil .nil) (.node (b115_0 P) .nil .nil))) (.node (b27_0 P) (.node (b43_0 P) (.node (b75_0 P) .nil .nil) (.node (b107_0 P) .nil .nil)) (.node (b59_0 P) (.node (b91_0 P) .nil .nil) (.node (b123_0 P) .nil .nil))))) (.node (boot_o_5 P) (.node (boot_o_9 P) (.node (b17_0 P) (.node (b33_0 P) (.node (b65_0 P) .nil .nil) (.node (b97_0 P) .nil .nil)) (.node (b49_0 P) (.node (b81_0 P) .nil .nil) (.node (b113_0 P) .nil .nil))) (.node (b25_0 P) (.node (b41_0 P) (.node (b73_0 P) .nil .nil) (.node (b105_0 P) .nil .nil)) (.node (b57_0 P) (.node (b89_0 P) .nil .nil) (.node (b121_0 P) .nil .nil)))) (.node (b13_0 P) (.node (b21_0 P) (.node (b37_0 P) (.node (b69_0 P) .nil .nil) (.node (b101_0 P) .nil .nil)) (.node (b53_0 P) (.node (b85_0 P) .nil .nil) (.node (b117_0 P) .nil .nil))) (.node (b29_0 P) (.node (b45_0 P) (.node (b77_0 P) .nil .nil) (.node (b109_0 P) .nil .nil)) (.node (b61_0 P) (.node (b93_0 P) .nil .nil) (.node (b125_0 P) .nil .nil)))))) (.node (boot_o_2 P) (.node (boot_o_4 P) (.node (boot_o_8 P) (.node (b16_0 P) (.node (b32_0 P) (.node (b64_0 P) (.node (b128_0 P) .nil .nil) .nil) (.node (b96_0 P) .nil .nil)) (.node (b48_0 P) (.node (b80_0 P) .nil .nil) (.node (b112_0 P) .nil .nil))) (.node (b24_1 P) (.node x40 (.node (b72_0 P) .nil .nil) (.node (b104_0 P) .nil .nil)) (.node (b56_0 P) (.node (b88_0 P) .nil .nil) (.node (b120_0 P) .nil .nil)))) (.node (b12_3 P) (.node (b20_0 P) (.node (b36_0 P) (.node (b68_0 P) .nil .nil) (.node (b100_0 P) .nil .nil)) (.node (b52_0 P) (.node (b84_0 P) .nil .nil) (.node (b116_0 P) .nil .nil))) (.node (b28_1 P) (.node x44 (.node (b76_0 P) .nil .nil) (.node (b108_0 P) .nil .nil)) (.node (b60_0 P) (.node (b92_0 P) .nil .nil) (.node (b124_0 P) .nil .nil))))) (.node (boot_o_6 P) (.node (boot_o_10 P) (.node (b18_0 P) (.node (b34_0 P) (.node (b66_0 P) .nil .nil) (.node (b98_0 P) .nil .nil)) (.node (b50_0 P) (.node (b82_0 P) .nil .nil) (.node (b114_0 P) .nil .nil))) (.node (b26_0 P) (.node (b42_0 P) (.node (b74_0 P) .nil .nil) (.node (b106_0 P) .nil .nil)) (.node (b58_0 P) (.node (b90_0 P) .nil .nil) (.node (b122_0 P) .nil .nil)))) (.node (b14_0 P) (.node (b22_0 P) (.node (b38_0 P) (.node (b70_0 P) .nil .nil) (.node (b102_0 P) .nil .nil)) (.node (b54_0 P) (.node (b86_0 P) .nil .nil) (.node (b118_0 P) .nil .nil))) (.node x30 (.node (b46_0 P) (.node (b78_0 P) .nil .nil) (.node (b110_0 P) .nil .nil)) (.node (b62_0 P) (.node (b94_0 P) .nil .nil) (.node (b126_0 P) .nil .nil)))))))
noncomputable def pos_p19 : Pos := { line := 103, col := 0, endLine := 113, endCol := 41 }
noncomputable def gann : Option Value := some (.ref 6)
noncomputable def pos0 : Pos := { line := 0, col := 0, endLine := 0, endCol := 0 }
noncomputable def genv : Env := { scope := pw.main.scope, locals := mainNs, globals := mainNs, cells := [], code := .ref 13, frame := some 14 }
noncomputable def gcode : Code := .body (behindTheImports pw) genv
noncomputable def gB : List Frame := [topFrame pos0]
noncomputable def gst (t : BT) (n toks : Nat) (gens : Array GenState) (os : OsState) : SharedT := ⟨t, n, {}, gens, {}, toks, os⟩
end Mine
end

section
set_option Elab.async false
set_option maxRecDepth 100000
set_option linter.unusedVariables false
namespace Mine
open PySem PySem.W PyProof.Rows
noncomputable abbrev goT (w : World) (n : Nat) (s : SharedT) (t : Thread) : Option (SharedT × Thread) := segGoT treeTable pw w 11 gann 1 n s t
theorem go_trans {w : World} : ∀ {n m : Nat} {s s1 : SharedT} {t t1 : Thread} {r : SharedT × Thread}, goT w n s t = some (s1, t1) → goT w m s1 t1 = some r → goT w (n + m) s t = some r
  | 0, m, s, s1, t, t1, r, h, k => by
    obtain ⟨rfl, rfl⟩ : s = s1 ∧ t = t1 := by simpa [goT, segGoT] using h
    rw [Nat.zero_add]; exact k
  | n + 1, m, s, s1, t, t1, r, h, k => by
    rw [show n + 1 + m = n + m + 1 by omega]
    unfold goT segGoT at h ⊢
    cases he : endAt 1 t with
    | some f => rw [he] at h; cases h
    | none =>
      rw [he] at h
      cases hk : stepOk 11 gann t with
      | false => rw [hk] at h; cases h
      | true =>
        rw [hk] at h
        cases hs : stepT (denote treeTable) pw w s t with
        | none => rw [hs] at h; cases h
        | some q => obtain ⟨s₂, t₂⟩ := q; rw [hs] at h; exact go_trans h k
noncomputable def Ev (w : World) {α : Type} (n : Nat) (x : Sem α) (s : SharedT) (a : α) (s' : SharedT) : Prop :=
  ∀ (K : α → Sem Fin) (H : Value → Sem Fin) (gd : Bool → Bool) (lv : List Value → List Value) (code : Code) (pos : Pos) (stk : List Frame), 2 ≤ stk.length →
    goT w n s ⟨x.wrap K H gd lv, code, pos, stk⟩ = some (s', ⟨K a, code, pos, stk⟩)
section
variable {w : World} {α β : Type} {s s' s1 : SharedT}
theorem Ev.pure {a : α} : Ev w 0 (Pure.pure a) s a s := fun K H gd lv code pos stk _ => rfl
theorem Ev.bind {n m : Nat} {x : Sem α} {f : α → Sem β} {a : α} {b : β} (hx : Ev w n x s a s1) (hf : Ev w m (f a) s1 b s') : Ev w (n + m) (x >>= f) s b s' := fun K H gd lv code pos stk hs => by
  rw [Sem.bind_eq_wrap', Sem.wrap_wrap]
  exact go_trans (hx _ _ _ _ code pos stk hs) (hf K H gd lv code pos stk hs)
theorem Ev.keep {n : Nat} {x : Sem α} {a : α} (vs : List Value) (hx : Ev w n x s a s1) : Ev w n (x.keep vs) s a s1 := fun K H gd lv code pos stk hs => by
  rw [Sem.keep_eq_wrap, Sem.wrap_wrap]
  exact hx _ _ _ _ code pos stk hs
theorem Ev.holding {n : Nat} {x : Sem α} {a : α} (vs : List Value) (hx : Ev w n x s a s1) : Ev w n (PySem.holding vs x) s a s1 := by
  unfold PySem.holding
  split
  · exact hx
  · exact hx.keep _
theorem go_one {t t' : Thread} (he : endAt 1 t = none) (hk : stepOk 11 gann t = true) (hs : stepT (denote treeTable) pw w s t = some (s', t')) : goT w 1 s t = some (s', t') := by
  unfold goT segGoT
  rw [he, hk, hs]
  rfl
theorem Ev.rule {tag : String} : Ev w 1 (PySem.rule tag) s () s := fun K H gd lv code pos stk hs => by
  obtain ⟨T, n, life, gens, drawn, toks, os⟩ := s
  exact go_one (by show endAt 1 ⟨.rule tag fun o => K o, code, pos, stk⟩ = none; unfold endAt; dsimp only; cases (stk.length == 1) <;> rfl) rfl rfl
theorem Ev.point : Ev w 1 PySem.point s () s := fun K H gd lv code pos stk hs => by
  obtain ⟨T, n, life, gens, drawn, toks, os⟩ := s
  exact go_one (by show endAt 1 ⟨.point (lv []) fun o => K o, code, pos, stk⟩ = none; unfold endAt; dsimp only; cases (stk.length == 1) <;> rfl) rfl rfl
theorem Ev.ask : Ev w 1 PySem.ask s ⟨pw, w.params⟩ s := fun K H gd lv code pos stk hs => by
  obtain ⟨T, n, life, gens, drawn, toks, os⟩ := s
  exact go_one (by show endAt 1 ⟨.ask fun o => K o, code, pos, stk⟩ = none; unfold endAt; dsimp only; cases (stk.length == 1) <;> rfl) rfl rfl
theorem Ev.ite {n : Nat} {c : Prop} [Decidable c] {x y : Sem α} {a : α} (h : c → Ev w n x s a s') (h' : ¬ c → Ev w n y s a s') : Ev w n (if c then x else y) s a s' := by
  split
  · exact h ‹_›
  · exact h' ‹_›
end
/-- the states that bear x at a -/
structure At (S : Obj → SharedT) (a : Addr) : Prop where
  lt : ∀ x, Nat.blt a (S x).n = true
  get : ∀ x, (S x).tree.get a = some x
  set : ∀ x f, { S x with tree := (S x).tree.set a f } = S (f x)
  big : Nat.ble 11 a = true
section
variable {w : World} {S : Obj → SharedT} {a : Addr} {x : Obj}
theorem Ev.load (A : At S a) (hx : alive x = some x) : Ev w 1 (PySem.load a) (S x) x (S x) := fun K H gd lv code pos stk hs => by
  refine go_one (by show endAt 1 ⟨.load a none fun o => K o, code, pos, stk⟩ = none; unfold endAt; dsimp only; cases (stk.length == 1) <;> rfl) rfl ?_
  show stepT (denote treeTable) pw w (S x) ⟨.load a none fun o => K o, code, pos, stk⟩ = _
  have h1 := A.lt x
  have h2 := A.get x
  revert h1 h2
  generalize S x = s
  obtain ⟨T, n, life, gens, drawn, toks, os⟩ := s
  intro h1 h2
  simp only at h1 h2
  simp only [stepT, h1, h2, hx]
theorem Ev.update (A : At S a) (hx : alive x = some x) (f : Obj → Obj) : Ev w 1 (PySem.update a f) (S x) () (S (f x)) := fun K H gd lv code pos stk hs => by
  have hk : stepOk 11 gann ⟨.update a none f fun o => K o, code, pos, stk⟩ = true := by
    show ((_ && _ && _) && (Nat.ble 11 a || _ || _ || _)) = true
    rw [A.big]; rfl
  refine go_one (by show endAt 1 ⟨.update a none f fun o => K o, code, pos, stk⟩ = none; unfold endAt; dsimp only; cases (stk.length == 1) <;> rfl) hk ?_
  show stepT (denote treeTable) pw w (S x) ⟨.update a none f fun o => K o, code, pos, stk⟩ = _
  have h1 := A.lt x
  have h2 := A.get x
  have h3 := A.set x f
  revert h1 h2 h3
  generalize S (f x) = s'
  generalize S x = s
  obtain ⟨T, n, life, gens, drawn, toks, os⟩ := s
  intro h1 h2 h3
  simp only at h1 h2 h3
  simp only [stepT, h1, h2, hx, h3]
end
end Mine
end

section
set_option Elab.async false
set_option maxRecDepth 100000
set_option linter.unusedVariables false
namespace Mine
open PySem PySem.W PyProof.Rows
noncomputable def setO (es : Array (Int × Value)) (ep : Nat) (t : SetTable) : Obj := { cls := .type "frozenset", data := .set es ep t }
section
variable {w : World} {S : Obj → SharedT} {a : Addr} {es es' : Array (Int × Value)} {ep : Nat} {t t' : SetTable}
theorem fits_two (hf : t.fits es.size = true) : t.place.size = es.size ∧ t.fill ≤ t.mask := by
  unfold SetTable.fits at hf
  simpa using hf
theorem ev_state (A : At S a) (hf : t.fits es.size = true) : Ev w 1 (setState a) (S (setO es ep t)) (es, ep, t) (S (setO es ep t)) := by
  obtain ⟨h1, h2⟩ := fits_two hf
  unfold setState
  refine Ev.bind (n := 1) (m := 0) (Ev.load A rfl) ?_
  show Ev w 0 (if (t.place.size != es.size || decide (t.fill > t.mask)) = true then _ else _) _ _ _
  rw [if_neg (by simp [h1]; omega)]
  exact Ev.pure
theorem ev_store (A : At S a) (hs : es'.size ≤ sizeLine) : Ev w 2 (storeSet a es' t') (S (setO es ep t)) () (S (setO es' (ep + 1) t')) := by
  unfold storeSet
  refine Ev.bind (n := 1) (m := 1) (Ev.load A rfl) ?_
  show Ev w 1 (if es'.size > sizeLine then _ else _) _ _ _
  rw [if_neg (by omega)]
  exact Ev.update A rfl _
theorem ev_entries (A : At S a) (hf : t.fits es.size = true) : Ev w 1 (setEntries a) (S (setO es ep t)) es (S (setO es ep t)) := Ev.bind (n := 1) (m := 0) (ev_state A hf) Ev.pure
theorem ev_epoch (A : At S a) (hf : t.fits es.size = true) : Ev w 1 (setEpoch a) (S (setO es ep t)) ep (S (setO es ep t)) := Ev.bind (n := 1) (m := 0) (ev_state A hf) Ev.pure
end
noncomputable def OneStr (e : Int × Value) : Prop := ∃ c k, e.2 = .str ⟨#[c]⟩ k
noncomputable def cp (e : Int × Value) : Nat := match e.2 with
  | .str s _ => s.cps.toList.headD 0
  | _ => 0
structure Inv (es : Array (Int × Value)) (t : SetTable) (cs : List Nat) : Prop where
  fits : t.fits es.size = true
  one : ∀ e ∈ es.toList, OneStr e
  perm : (es.toList.map cp).Perm cs
theorem insertAt_perm {α : Type} (xs : Array α) (p : Nat) (x : α) : (SetTable.insertAt xs p x).toList.Perm (x :: xs.toList) := by
  unfold SetTable.insertAt
  simp only [Array.toList_append, Array.toList_push, Array.toList_extract, List.extract_eq_take_drop, List.drop_zero, Nat.sub_zero]
  have e : (xs.toList.drop p).take (xs.size - p) = xs.toList.drop p := List.take_of_length_le (by simp)
  rw [e, List.append_assoc]
  refine List.perm_middle.trans (List.Perm.cons x ?_)
  show (List.take p xs.toList ++ List.drop p xs.toList).Perm _
  rw [List.take_append_drop]
theorem insertAt_size {α : Type} (xs : Array α) (p : Nat) (x : α) : (SetTable.insertAt xs p x).size = xs.size + 1 := by
  have := (insertAt_perm xs p x).length_eq
  simpa using this
theorem standIn_fits (t : SetTable) (n : Nat) : (t.standIn n).fits n = true := by
  unfold SetTable.fits SetTable.standIn SetTable.fill
  simp
  omega
theorem orStandIn_fits (t : SetTable) (n : Nat) : (t.orStandIn n).fits n = true := by
  unfold SetTable.orStandIn
  split
  · assumption
  · exact standIn_fits t n
theorem layNew_ok (t : SetTable) (es : Array (Int × Value)) (h : Int) (x : Value) : (layNew t es h x).1.toList.Perm ((h, x) :: es.toList) ∧ (layNew t es h x).2.1.fits (layNew t es h x).1.size = true := by
  unfold layNew
  split
  · rename_i slot wd hs
    exact ⟨insertAt_perm _ _ _, orStandIn_fits _ _⟩
  · refine ⟨?_, ?_⟩
    · rw [Array.toList_push]
      exact List.perm_append_singleton _ _
    · rw [Array.size_push]; exact standIn_fits _ _
theorem relayAll_ok (t : SetTable) (es : Array (Int × Value)) (n : Nat) : (relayAll t es n).1.toList.Perm es.toList ∧ (relayAll t es n).2.1.fits (relayAll t es n).1.size = true := by
  unfold relayAll
  split
  · rename_i t' order hr
    dsimp only
    split
    · rename_i hc
      rw [Bool.and_eq_true] at hc
      refine ⟨?_, hc.2⟩
      have hp : order.toList.Perm (List.range es.size) := by
        have := hc.1
        unfold coversAll at this
        exact List.isPerm_iff.mp this
      dsimp only
      rw [Array.toList_filterMap]
      refine (hp.filterMap _).trans ?_
      have : (List.range es.size).filterMap (fun i => es[i]?) = es.toList := by
        apply List.ext_getElem?
        intro i
        have h2 : ∀ n, n ≤ es.size → (List.range n).filterMap (fun i => es[i]?) = es.toList.take n := by
          intro n
          induction n with
          | zero => simp
          | succ n ih =>
            intro hn
            rw [List.range_succ, List.filterMap_append, ih (by omega), List.take_add_one]
            congr 1
            have hlt : n < es.size := by omega
            simp [hlt]
        rw [h2 _ (Nat.le_refl _), List.take_of_length_le (by simp)]
      rw [this]
    · exact ⟨.refl _, standIn_fits _ _⟩
  · exact ⟨.refl _, standIn_fits _ _⟩
theorem fits_plain {t : SetTable} {n : Nat} (b : Bool) (h : t.fits n = true) : (if b = true then t else { t with plain := false }).fits n = true := by
  split
  · exact h
  · exact h
theorem isStr_ne {e : Int × Value} (h : OneStr e) {c : Nat} : e.2.isStr ⟨#[c]⟩ = decide (c = cp e) := by
  obtain ⟨h1, v⟩ := e
  obtain ⟨d, k, rfl⟩ := h
  show ((⟨#[d]⟩ : Str) == ⟨#[c]⟩) = decide (c = d)
  by_cases q : c = d
  · subst q; simp
  · rw [decide_eq_false q]
    refine beq_eq_false_iff_ne.mpr fun z => q ?_
    have := congrArg Str.cps z
    simpa using this.symm
theorem one_scan {es : Array (Int × Value)} (h : ∀ e ∈ es.toList, OneStr e) {c : Nat} {k : Tok} (hs : es.size < 1000) : byScan (.str ⟨#[c]⟩ k) es = true := by
  unfold byScan
  simp only [Value.scannable, Bool.true_and, Bool.and_eq_true, decide_eq_true_eq]
  refine ⟨by unfold scanBound; omega, ?_⟩
  rw [← Array.all_toList, List.all_eq_true]
  intro e he
  obtain ⟨d, kk, e2⟩ := h e he
  simp only [e2]
theorem one_exact {es : Array (Int × Value)} (h : ∀ e ∈ es.toList, OneStr e) : (es.all fun e => isExactStrKey e.2) = true := by
  rw [← Array.all_toList, List.all_eq_true]
  intro e he
  obtain ⟨d, kk, e2⟩ := h e he
  simp only [e2, isExactStrKey]
theorem Inv.size {es : Array (Int × Value)} {t : SetTable} {cs : List Nat} (I : Inv es t cs) : es.size = cs.length := by
  have := I.perm.length_eq
  simpa using this
section
variable {w : World} {S : Obj → SharedT} {a : Addr} {es : Array (Int × Value)} {ep : Nat} {t : SetTable} {cs : List Nat}
theorem find_none (I : Inv es t cs) {c : Nat} (hc : c ∉ cs) : es.findIdx? (fun e => e.2.isStr ⟨#[c]⟩) = none := by
  rw [show es.findIdx? (fun e => e.2.isStr ⟨#[c]⟩) = es.toList.findIdx? (fun e => e.2.isStr ⟨#[c]⟩) from by cases es; simp]
  rw [List.findIdx?_eq_none_iff]
  intro e he
  rw [isStr_ne (I.one e he)]
  refine decide_eq_false fun q => hc ?_
  rw [q]
  exact I.perm.mem_iff.mp (List.mem_map_of_mem he)
theorem Inv.of_perm {es' : Array (Int × Value)} {t' : SetTable} {x : Int × Value} {c : Nat} (I : Inv es t cs) (hx : OneStr x) (hcx : cp x = c) (hp : es'.toList.Perm (x :: es.toList)) (hf : t'.fits es'.size = true) : Inv es' t' (c :: cs) := by
  refine ⟨hf, fun e he => ?_, ?_⟩
  · rcases List.mem_cons.mp (hp.mem_iff.mp he) with rfl | h
    · exact hx
    · exact I.one e h
  · refine (hp.map cp).trans ?_
    rw [List.map_cons, hcx]
    exact I.perm.cons c
theorem Inv.re {es' : Array (Int × Value)} {t' : SetTable} (I : Inv es t cs) (hp : es'.toList.Perm es.toList) (hf : t'.fits es'.size = true) : Inv es' t' cs :=
  ⟨hf, fun e he => I.one e (hp.mem_iff.mp he), (hp.map cp).trans I.perm⟩
end
noncomputable def EvB (w : World) {α : Type} (n : Nat) (x : Sem α) (s : SharedT) (a : α) (s' : SharedT) : Prop := ∃ m, m ≤ n ∧ Ev w m x s a s'
section
variable {w : World} {α β : Type} {s s' s1 : SharedT}
theorem Ev.b {n : Nat} {x : Sem α} {a : α} (h : Ev w n x s a s') : EvB w n x s a s' := ⟨n, Nat.le_refl _, h⟩
theorem EvB.le {n m : Nat} {x : Sem α} {a : α} (h : EvB w n x s a s') (hn : n ≤ m) : EvB w m x s a s' := let ⟨k, hk, e⟩ := h; ⟨k, Nat.le_trans hk hn, e⟩
theorem EvB.pure {a : α} {n : Nat} : EvB w n (Pure.pure a) s a s := ⟨0, Nat.zero_le _, Ev.pure⟩
theorem EvB.bind {n m : Nat} {x : Sem α} {f : α → Sem β} {a : α} {b : β} (hx : EvB w n x s a s1) (hf : EvB w m (f a) s1 b s') : EvB w (n + m) (x >>= f) s b s' :=
  let ⟨i, hi, e⟩ := hx
  let ⟨j, hj, e'⟩ := hf
  ⟨i + j, Nat.add_le_add hi hj, e.bind e'⟩
theorem EvB.bd {n m N : Nat} (hN : n + m ≤ N) {x : Sem α} {f : α → Sem β} {a : α} {b : β} (hx : EvB w n x s a s1) (hf : EvB w m (f a) s1 b s') : EvB w N (x >>= f) s b s' := (EvB.bind hx hf).le hN
theorem EvB.rule1 {tag : String} : EvB w 1 (PySem.rule tag) s () s := ⟨1, Nat.le_refl _, Ev.rule⟩
theorem EvB.holding {n : Nat} {x : Sem α} {a : α} (vs : List Value) (hx : EvB w n x s a s1) : EvB w n (PySem.holding vs x) s a s1 := let ⟨i, hi, e⟩ := hx; ⟨i, hi, e.holding vs⟩
theorem EvB.rule {tag : String} {n : Nat} (hn : 1 ≤ n) : EvB w n (PySem.rule tag) s () s := ⟨1, hn, Ev.rule⟩
end
section
variable {w : World} {S : Obj → SharedT} {a : Addr} {es : Array (Int × Value)} {ep : Nat} {t : SetTable} {cs : List Nat}
theorem ev_add (A : At S a) (I : Inv es t cs) {c : Nat} {k : Tok} {h : Int} (hc : c ∉ cs) (hsz : cs.length < 500) :
    ∃ es' ep' t', Inv es' t' (c :: cs) ∧ EvB w 20 (setAddHashed a (.str ⟨#[c]⟩ k) h) (S (setO es ep t)) true (S (setO es' ep' t')) := by
  have hes : es.size < 500 := by rw [I.size]; exact hsz
  obtain ⟨hp1, hf1⟩ := layNew_ok t es h (.str ⟨#[c]⟩ k)
  have hx : OneStr (h, .str ⟨#[c]⟩ k) := ⟨c, k, rfl⟩
  have hcx : cp (h, .str ⟨#[c]⟩ k) = c := rfl
  generalize hL : layNew t es h (.str ⟨#[c]⟩ k) = L at hp1 hf1
  obtain ⟨es1, t1, wd, gv⟩ := L
  dsimp only at hp1 hf1
  have I1 : ∀ b : Bool, Inv es1 (if b = true then t1 else { t1 with plain := false }) (c :: cs) := fun b => I.of_perm hx hcx hp1 (fits_plain _ hf1)
  have hs1 : es1.size < 501 := by
    have := (I1 true).size
    simp only [List.length_cons] at this
    omega
  have hsl : 600 ≤ sizeLine := by decide
  have main : ∀ b : Bool, ∃ es' ep' t', Inv es' t' (c :: cs) ∧ ∀ (g : Bool → Sem Unit), (∀ b s, EvB w 1 (g b) s () s) → EvB w 5 (do
        storeSet a es1 (if b = true then t1 else { t1 with plain := false })
        if (!wd && (if b = true then t1 else { t1 with plain := false }).tooFull) = true then do
          g (relayAll (if b = true then t1 else { t1 with plain := false }) es1 (SetTable.grown es1.size)).2.2
          storeSet a (relayAll (if b = true then t1 else { t1 with plain := false }) es1 (SetTable.grown es1.size)).1 (relayAll (if b = true then t1 else { t1 with plain := false }) es1 (SetTable.grown es1.size)).2.1
          Pure.pure (some true)
        else Pure.pure (some true)) (S (setO es ep t)) (some true) (S (setO es' ep' t')) := by
    intro b
    have Ib := I1 b
    generalize (if b = true then t1 else { t1 with plain := false }) = t2 at Ib ⊢
    cases hfull : (!wd && t2.tooFull) with
    | false =>
      refine ⟨es1, ep + 1, t2, Ib, fun g hg => ?_⟩
      refine EvB.bd (n := 2) (m := 0) (by decide) (ev_store A (by omega)).b ?_
      rw [if_neg (by decide)]
      exact EvB.pure
    | true =>
      obtain ⟨hp2, hf2⟩ := relayAll_ok t2 es1 (SetTable.grown es1.size)
      have I2 := Ib.re hp2 hf2
      have hs2 := I2.size
      simp only [List.length_cons] at hs2
      refine ⟨_, ep + 1 + 1, _, I2, fun g hg => ?_⟩
      refine EvB.bd (n := 2) (m := 3) (by decide) (ev_store A (by omega)).b ?_
      rw [if_pos rfl]
      refine EvB.bd (n := 1) (m := 2) (by decide) (hg _ _) ?_
      exact EvB.bd (n := 2) (m := 0) (by decide) (ev_store A (by omega)).b EvB.pure
  obtain ⟨es', ep', t', I', hE⟩ := main (if t1.plain = true then false else true)
  refine ⟨es', ep', t', I', ?_⟩
  unfold setAddHashed
  refine EvB.holding _ ?_
  unfold setAddHashedIn
  refine EvB.bd (n := 1) (m := 12) (by decide) (ev_state A I.fits).b ?_
  dsimp only
  rw [one_scan I.one (by omega)]
  refine EvB.bd (n := 12) (m := 0) (by decide) (a := some true) ?_ EvB.pure
  unfold setAddByScan
  refine EvB.bd (n := 1) (m := 10) (by decide) EvB.rule1 ?_
  unfold setScan
  dsimp only
  rw [one_exact I.one]
  refine EvB.bd (n := 0) (m := 9) (s1 := S (setO es ep t)) (by decide) (a := ScanMet.absent) ?_ ?_
  · show EvB w 0 (setScanStrs a (.str ⟨#[c]⟩ k) ⟨#[c]⟩ true es) _ _ _
    unfold setScanStrs
    rw [find_none I hc]
    exact EvB.pure
  dsimp only
  rw [hL]
  dsimp only
  refine EvB.bd (n := 1) (m := 6) (s1 := S (setO es ep t)) (a := ()) (by decide) ?_ ?_
  · cases gv
    · exact EvB.pure
    · exact EvB.rule1
  cases hpl : t1.plain with
  | true =>
    rw [hpl] at hE
    rw [if_pos rfl]
    refine EvB.bd (n := 0) (m := 6) (by decide) (a := false) EvB.pure ?_
    exact (hE _ fun b s => by cases b; exact EvB.pure; exact EvB.rule1).le (by decide)
  | false =>
    rw [hpl] at hE
    rw [if_neg (by decide)]
    refine EvB.bd (n := 0) (m := 6) (by decide) (a := true) EvB.pure ?_
    exact (hE _ fun b s => by cases b; exact EvB.pure; exact EvB.rule1).le (by decide)
end
end Mine
end

section
set_option Elab.async false
set_option maxRecDepth 100000
set_option linter.unusedVariables false
namespace Mine
open PySem PySem.W PyProof.Rows
noncomputable def nx (i : Nat) : Nat := (i * 5 + 1) % 128
noncomputable def it : Nat → Nat → Nat
  | 0, i => i
  | m + 1, i => it m (nx i)
theorem it_add : ∀ (a b i : Nat), it (a + b) i = it b (it a i)
  | 0, b, i => by rw [Nat.zero_add]; rfl
  | a + 1, b, i => by rw [show a + 1 + b = (a + b) + 1 by omega]; exact it_add a b (nx i)
theorem reach0 : ∀ j, j < 128 → ∃ m, m < 128 ∧ it m 0 = j := by
  have h : (List.range 128).all (fun j => (List.range 128).any fun m => it m 0 == j) = true := by decide +kernel
  intro j hj
  have := List.all_eq_true.mp h j (List.mem_range.mpr hj)
  obtain ⟨m, hm, e⟩ := List.any_eq_true.mp this
  exact ⟨m, List.mem_range.mp hm, beq_iff_eq.mp e⟩
theorem reach {i j : Nat} (hi : i < 128) (hj : j < 128) : ∃ m, m < 128 ∧ it m i = j := by
  obtain ⟨p, hp, ep⟩ := reach0 i hi
  obtain ⟨q, hq, eq⟩ := reach0 j hj
  by_cases h : p ≤ q
  · refine ⟨q - p, by omega, ?_⟩
    rw [← ep, ← it_add, show p + (q - p) = q by omega, eq]
  · refine ⟨q + 128 - p, by omega, ?_⟩
    rw [← ep, ← it_add, show p + (q + 128 - p) = 128 + q by omega, it_add, show it 128 0 = 0 by decide +kernel, eq]
noncomputable def Free (owner : Array (Option Nat)) (r : Nat) : Prop := owner.getD r (some 0) = none
theorem free_step (owner : Array (Option Nat)) (fuel i p : Nat) : (∃ r, SetTable.layClean.free 127 owner (fuel + 1) i p = some r ∧ Free owner r) ∨
    (¬ Free owner i ∧ SetTable.layClean.free 127 owner (fuel + 1) i p = SetTable.layClean.free 127 owner fuel ((i * 5 + 1 + p / 32) % 128) (p / 32)) := by
  have e0 : SetTable.layClean.free 127 owner (fuel + 1) i p = (match (List.range (SetTable.runEnd 127 i + 1 - i)).find? fun k => (owner.getD (i + k) (some 0)).isNone with
    | some k => some (i + k)
    | none => SetTable.layClean.free 127 owner fuel ((i * 5 + 1 + p / 32) % 128) (p / 32)) := rfl
  rw [e0]
  split
  · rename_i k hk
    have := List.find?_some hk
    exact .inl ⟨_, rfl, Option.isNone_iff_eq_none.mp this⟩
  · rename_i hn
    refine .inr ⟨fun hf => ?_, rfl⟩
    have := List.find?_eq_none.mp hn 0 (by
      rw [List.mem_range]
      unfold SetTable.runEnd
      split <;> omega)
    apply this
    rw [Nat.add_zero]
    exact Option.isNone_iff_eq_none.mpr hf
theorem free0 (owner : Array (Option Nat)) {j : Nat} (hj : Free owner j) : ∀ (m fuel i : Nat), it m i = j → m < fuel → ∃ r, SetTable.layClean.free 127 owner fuel i 0 = some r ∧ Free owner r
  | m, 0, i, e, h => absurd h (Nat.not_lt_zero _)
  | m, fuel + 1, i, e, h => by
    rcases free_step owner fuel i 0 with h1 | ⟨h1, h2⟩
    · exact h1
    · cases m with
      | zero => exact absurd (by rw [show i = j from e]; exact hj) h1
      | succ m =>
        rw [h2]
        exact free0 owner hj m fuel _ e (by omega)
theorem free1 (owner : Array (Option Nat)) {j : Nat} (hj : Free owner j) (hlt : j < 128) : ∀ (r fuel i p : Nat), i < 128 → p < 32 ^ r → 128 ≤ fuel → ∃ q, SetTable.layClean.free 127 owner (fuel + r) i p = some q ∧ Free owner q
  | 0, fuel, i, p, hi, hp, hf => by
    obtain rfl : p = 0 := by simpa using hp
    obtain ⟨m, hm, e⟩ := reach hi hlt
    exact free0 owner hj m fuel i e (by omega)
  | r + 1, fuel, i, p, hi, hp, hf => by
    rcases free_step owner (fuel + r) i p with h1 | ⟨_, h2⟩
    · exact h1
    · rw [show fuel + (r + 1) = fuel + r + 1 by omega, h2]
      exact free1 owner hj hlt r fuel _ _ (Nat.mod_lt _ (by decide)) (by rw [Nat.pow_succ] at hp; exact Nat.div_lt_of_lt_mul (by omega)) hf
theorem free_ok (owner : Array (Option Nat)) {j : Nat} (hj : Free owner j) (hlt : j < 128) (h : Int) : ∃ q, SetTable.layClean.free 127 owner (SetTable.turns 127) (SetTable.bits h % 128) (SetTable.bits h) = some q ∧ Free owner q := by
  refine free1 owner hj hlt 13 129 _ _ (Nat.mod_lt _ (by decide)) ?_ (by decide)
  have : SetTable.bits h < 2 ^ 64 := by
    unfold SetTable.bits
    omega
  exact Nat.lt_trans this (by decide)
structure Own (owner : Array (Option Nat)) (k : Nat) : Prop where
  size : owner.size = 128
  perm : (owner.toList.filterMap id).Perm (List.range k)
theorem own_free {owner : Array (Option Nat)} {k : Nat} (o : Own owner k) (hk : k < 128) : ∃ j, j < 128 ∧ Free owner j := by
  by_cases hall : ∀ x ∈ owner.toList, x.isSome = true
  · exfalso
    have h1 : ∀ l : List (Option Nat), (∀ x ∈ l, x.isSome = true) → (l.filterMap id).length = l.length := by
      intro l
      induction l with
      | nil => intro _; rfl
      | cons x r ih =>
        intro h
        obtain ⟨y, rfl⟩ := Option.isSome_iff_exists.mp (h x (.head _))
        simp [ih fun z hz => h z (.tail _ hz)]
    have := o.perm.length_eq
    rw [h1 _ hall, List.length_range, Array.length_toList, o.size] at this
    omega
  · have : ∃ x ∈ owner.toList, x.isSome ≠ true := by
      apply Classical.byContradiction
      intro hn
      exact hall fun x hx => Classical.byContradiction fun hq => hn ⟨x, hx, hq⟩
    obtain ⟨x, hx, hq⟩ := this
    have hx0 : x = none := by cases x with | none => rfl | some y => exact absurd rfl hq
    subst hx0
    obtain ⟨j, hj, e⟩ := List.getElem_of_mem hx
    rw [Array.length_toList] at hj
    refine ⟨j, by rw [← o.size]; exact hj, ?_⟩
    unfold Free
    rw [Array.getD_eq_getD_getElem?, ← Array.getElem?_toList, List.getElem?_eq_getElem (by rw [Array.length_toList]; exact hj), e]
    rfl
theorem perm_set {l : List (Option Nat)} {q k : Nat} (h : l[q]? = some none) : ((l.set q (some k)).filterMap id).Perm (k :: l.filterMap id) := by
  induction l generalizing q with
  | nil => simp at h
  | cons x r ih =>
    cases q with
    | zero =>
      simp only [List.getElem?_cons_zero, Option.some.injEq] at h
      subst h
      simp
    | succ q =>
      rw [List.getElem?_cons_succ] at h
      rw [List.set_cons_succ]
      cases x with
      | none => simpa using ih h
      | some y =>
        simp only [List.filterMap_cons, id]
        exact ((ih h).cons y).trans (List.Perm.swap _ _ _)
theorem own_put {owner : Array (Option Nat)} {k q : Nat} (o : Own owner k) (hq : Free owner q) : Own (owner.setIfInBounds q (some k)) (k + 1) := by
  have hl : owner.toList[q]? = some none := by
    unfold Free at hq
    rw [Array.getD_eq_getD_getElem?] at hq
    rw [Array.getElem?_toList]
    cases h : owner[q]? with
    | none => rw [h] at hq; simp at hq
    | some x => rw [h] at hq; simp at hq; rw [hq]
  refine ⟨by rw [Array.size_setIfInBounds, o.size], ?_⟩
  rw [Array.toList_setIfInBounds, List.range_succ]
  refine (perm_set hl).trans ((o.perm.cons k).trans ?_)
  exact (List.perm_append_singleton _ _).symm
theorem own_fold (hs : List Int) : ∀ {owner : Array (Option Nat)} {k : Nat}, Own owner k → k + hs.length ≤ 128 →
    ∃ owner', hs.foldl (init := some (owner, k)) (fun acc h => do
      let (owner, k) ← acc
      let j ← SetTable.layClean.free 127 owner (SetTable.turns 127) (SetTable.bits h % (127 + 1)) (SetTable.bits h)
      Pure.pure (owner.setIfInBounds j (some k), k + 1)) = some (owner', k + hs.length) ∧ Own owner' (k + hs.length) := by
  induction hs with
  | nil => intro owner k o _; exact ⟨owner, rfl, o⟩
  | cons h r ih =>
    intro owner k o hk
    simp only [List.length_cons] at hk
    obtain ⟨j, hj, hf⟩ := own_free o (by omega)
    obtain ⟨q, e, hq⟩ := free_ok owner hf hj h
    obtain ⟨owner', e', o'⟩ := ih (own_put o hq) (by omega)
    refine ⟨owner', ?_, by rw [List.length_cons, show k + (r.length + 1) = k + 1 + r.length by omega]; exact o'⟩
    rw [List.foldl_cons, List.length_cons, show k + (r.length + 1) = k + 1 + r.length by omega, ← e']
    congr 1
    show (do let j ← SetTable.layClean.free 127 owner (SetTable.turns 127) (SetTable.bits h % (127 + 1)) (SetTable.bits h); Pure.pure (owner.setIfInBounds j (some k), k + 1)) = _
    rw [show (127 + 1 : Nat) = 128 from rfl, e]
    rfl
theorem laid_ok (hs : Array Int) (f m : Nat) (l p : Bool) (hn : hs.size ≤ 128) : ∃ t order, SetTable.laid 127 f m l p hs = some (t, order) ∧ t.mask = 127 ∧ t.dummies = #[] ∧ t.place.size = hs.size ∧ order.toList.Perm (List.range hs.size) := by
  obtain ⟨owner, e, o⟩ := own_fold hs.toList (owner := Array.replicate 128 none) (k := 0) ⟨by simp, by simp [List.filterMap_replicate]⟩ (by simpa using hn)
  rw [Nat.zero_add, Array.length_toList] at e o
  have e' : SetTable.layClean 127 hs = some owner := by
    unfold SetTable.layClean
    rw [← Array.foldl_toList]
    rw [e]
    rfl
  unfold SetTable.laid
  rw [e']
  have hl : ∀ n, n ≤ 128 → ((List.range n).filterMap fun j => (owner.getD j none).map (j, ·)).map (·.2) = (owner.toList.take n).filterMap id := by
    intro n
    induction n with
    | zero => intro _; rfl
    | succ n ih =>
      intro hn
      have hlt : n < owner.size := by rw [o.size]; omega
      rw [List.range_succ, List.filterMap_append, List.map_append, ih (by omega), List.take_add_one, List.filterMap_append]
      congr 1
      simp only [List.filterMap_cons, List.filterMap_nil, Array.getD_eq_getD_getElem?]
      rw [Array.getElem?_toList, Array.getElem?_eq_getElem hlt]
      cases h : owner[n] <;> simp [h]
  have hl' := hl 128 (Nat.le_refl _)
  rw [List.take_of_length_le (by rw [Array.length_toList, o.size]; exact Nat.le_refl _)] at hl'
  refine ⟨_, _, rfl, rfl, rfl, ?_, ?_⟩
  · have := congrArg List.length hl'
    rw [List.length_map, o.perm.length_eq, List.length_range] at this
    simpa using this
  · show (List.map (fun x : Nat × Nat => x.2) ((List.range 128).filterMap fun j => (owner.getD j none).map (j, ·))).Perm _
    rw [hl']
    exact o.perm
end Mine
end

section
set_option Elab.async false
set_option maxRecDepth 100000
set_option linter.unusedVariables false
namespace Mine
open PySem PySem.W PyProof.Rows
/-- the states that bear y at b, whatever lies at the first place -/
structure Rd (S : Obj → SharedT) (b : Addr) (y : Obj) : Prop where
  lt : ∀ x, Nat.blt b (S x).n = true
  get : ∀ x, (S x).tree.get b = some y
section
variable {w : World} {S : Obj → SharedT} {a b : Addr} {x y : Obj}
theorem Ev.loadR (A : Rd S b y) (hy : alive y = some y) : Ev w 1 (PySem.load b) (S x) y (S x) := fun K H gd lv code pos stk hs => by
  refine go_one (by show endAt 1 ⟨.load b none fun o => K o, code, pos, stk⟩ = none; unfold endAt; dsimp only; cases (stk.length == 1) <;> rfl) rfl ?_
  show stepT (denote treeTable) pw w (S x) ⟨.load b none fun o => K o, code, pos, stk⟩ = _
  have h1 := A.lt x
  have h2 := A.get x
  revert h1 h2
  generalize S x = s
  obtain ⟨T, n, life, gens, drawn, toks, os⟩ := s
  intro h1 h2
  simp only at h1 h2
  simp only [stepT, h1, h2, hy]
end
section
variable {w : World} {S : Obj → SharedT} {a b : Addr} {es eo : Array (Int × Value)} {ep epo : Nat} {t to : SetTable} {cs : List Nat} {x : Obj}
theorem ev_stateR (A : Rd S b (setO eo epo to)) (hf : to.fits eo.size = true) : Ev w 1 (setState b) (S x) (eo, epo, to) (S x) := by
  obtain ⟨h1, h2⟩ := fits_two hf
  unfold setState
  refine Ev.bind (n := 1) (m := 0) (Ev.loadR A rfl) ?_
  show Ev w 0 (if (to.place.size != eo.size || decide (to.fill > to.mask)) = true then _ else _) _ _ _
  rw [if_neg (by simp [h1]; omega)]
  exact Ev.pure
theorem perm_pick (es : Array (Int × Value)) (order : Array Nat) (hp : order.toList.Perm (List.range es.size)) : (order.filterMap (es[·]?)).toList.Perm es.toList := by
  rw [Array.toList_filterMap]
  refine (hp.filterMap _).trans ?_
  have h2 : ∀ n, n ≤ es.size → (List.range n).filterMap (fun i => es[i]?) = es.toList.take n := by
    intro n
    induction n with
    | zero => simp
    | succ n ih =>
      intro hn
      rw [List.range_succ, List.filterMap_append, ih (by omega), List.take_add_one]
      congr 1
      have hlt : n < es.size := by omega
      simp [hlt]
  rw [h2 _ (Nat.le_refl _), List.take_of_length_le (by simp)]
theorem ev_re {s : SharedT} (es : Array (Int × Value)) (order : Array Nat) (t : SetTable) (hp : order.toList.Perm (List.range es.size)) :
    EvB w 0 (do
      let es' := order.filterMap (es[·]?)
      if es'.size != es.size then unsupported "internal:set-table-lost-an-element"
      Pure.pure (es', t)) s (order.filterMap (es[·]?), t) s := by
  have := (perm_pick es order hp).length_eq
  simp only [Array.length_toList] at this
  dsimp only
  rw [if_neg (by simp [this])]
  exact EvB.pure
theorem small_ge (n : Nat) (h : 5 ≤ n) : (0 + n) * 5 ≥ 7 * 3 := by omega
theorem sizeAbove128 : ∀ n, 32 ≤ n → n < 40 → SetTable.sizeAbove (n * 2) = 128 := by
  intro n h1 h2
  rcases (by omega : n = 32 ∨ n = 33 ∨ n = 34 ∨ n = 35 ∨ n = 36 ∨ n = 37 ∨ n = 38 ∨ n = 39) with rfl | rfl | rfl | rfl | rfl | rfl | rfl | rfl <;> decide
theorem ev_copy (A : At S a) (R : Rd S b (setO eo epo to)) (I : Inv eo to cs) (hab : a ≠ b) (h1 : 32 ≤ cs.length) (h2 : cs.length < 40) {led : Bool} :
    ∃ es' ep' t', Inv es' t' cs ∧ t'.mask = 127 ∧ t'.dummies = #[] ∧ EvB w 20 (setMerge a b) (S (setO #[] 0 (SetTable.fresh 0 0 led))) () (S (setO es' ep' t')) := by
  have hn : eo.size = cs.length := I.size
  have hsl : 600 ≤ sizeLine := by decide
  obtain ⟨t1, o1, e1, m1, d1, p1, q1⟩ := laid_ok #[] 0 ((SetTable.fresh 0 0 led).movedTo 127) led true (by decide)
  have ho1 : o1 = #[] := by
    have := q1.length_eq
    simp at this
    exact this
  subst ho1
  have f1 : t1.fits (#[] : Array (Int × Value)).size = true := by
    unfold SetTable.fits SetTable.fill
    simp [p1, d1, m1]
  have hroom : EvB w 5 (setRoomFor a eo.size) (S (setO #[] 0 (SetTable.fresh 0 0 led))) () (S (setO #[] 1 t1)) := by
    unfold setRoomFor
    refine EvB.bd (n := 1) (m := 4) (by decide) (ev_state A rfl).b ?_
    have : (SetTable.fresh 0 0 led).roomFor eo.size = some (eo.size * 2) := by
      unfold SetTable.roomFor SetTable.fill SetTable.fresh
      simp only [Array.size_empty]
      rw [if_pos (by omega), Nat.zero_add]
    show EvB w 4 (match (SetTable.fresh 0 0 led).roomFor eo.size with | some wanted => setRelay a wanted | _ => Pure.pure ()) _ _ _
    rw [this]
    show EvB w 4 (setRelay a (eo.size * 2)) _ _ _
    unfold setRelay
    refine EvB.bd (n := 1) (m := 3) (by decide) (ev_state A rfl).b ?_
    dsimp only
    rw [hn, sizeAbove128 _ h1 h2, if_neg (by omega)]
    refine EvB.bd (n := 0) (m := 3) (s1 := S (setO #[] 0 (SetTable.fresh 0 0 led))) (a := (#[], t1)) (by decide) ?_ ?_
    · have e2 : (SetTable.fresh 0 0 led).relaid ((#[] : Array (Int × Value)).map (·.1)) (cs.length * 2) = some (t1, #[]) := by
        unfold SetTable.relaid
        rw [sizeAbove128 _ h1 h2, Array.map_empty]
        exact e1
      rw [e2]
      exact ev_re (w := w) (s := S (setO #[] 0 (SetTable.fresh 0 0 led))) #[] #[] t1 (by simp)
    · exact (ev_store A (by show 0 ≤ sizeLine; omega)).b.le (by decide)
  have fill1 : t1.fill = 0 := by
    unfold SetTable.fill
    rw [p1, d1]; rfl
  have body : ∃ es' ep' t', Inv es' t' cs ∧ t'.mask = 127 ∧ t'.dummies = #[] ∧ ∀ (z : Sem Unit), EvB w 5 (match t1.road to with
      | .slotForSlot => storeSet a eo { to with finger := t1.finger, led := t1.led && to.led, moves := t1.moves, plain := t1.plain && to.plain }
      | .clean => (do
        let (es, t) ← (do
          let some (t, order) := SetTable.laid t1.mask t1.finger t1.moves (t1.led && to.led) (t1.plain && to.plain) (eo.map (·.1)) | unsupported "internal:set-table-without-room"
          let es' := order.filterMap (eo[·]?)
          if es'.size != eo.size then unsupported "internal:set-table-lost-an-element"
          Pure.pure (es', t) : Sem (Array (Int × Value) × SetTable))
        storeSet a es t)
      | .oneByOne => z) (S (setO #[] 1 t1)) () (S (setO es' ep' t')) := by
    unfold SetTable.road
    rw [fill1]
    simp only [bne_self_eq_false, Bool.false_eq_true, if_false]
    by_cases hr : (t1.mask == to.mask && to.dummies.isEmpty) = true
    · rw [if_pos hr]
      rw [Bool.and_eq_true, beq_iff_eq] at hr
      have hd : to.dummies = #[] := by simpa using hr.2
      refine ⟨eo, 2, { to with finger := t1.finger, led := t1.led && to.led, moves := t1.moves, plain := t1.plain && to.plain }, ⟨I.fits, I.one, I.perm⟩, by rw [← m1]; exact hr.1.symm, hd, fun z => ?_⟩
      exact (ev_store A (by omega)).b.le (by decide)
    · rw [if_neg hr]
      obtain ⟨t2, o2, e2, m2, d2, p2, q2⟩ := laid_ok (eo.map (·.1)) t1.finger t1.moves (t1.led && to.led) (t1.plain && to.plain) (by rw [Array.size_map]; omega)
      rw [Array.size_map] at p2 q2
      have hp := perm_pick eo o2 q2
      have hsz := hp.length_eq
      simp only [Array.length_toList] at hsz
      have f2 : t2.fits (o2.filterMap (eo[·]?)).size = true := by
        unfold SetTable.fits SetTable.fill
        simp only [p2, d2, m2, hsz]
        simp
        omega
      refine ⟨o2.filterMap (eo[·]?), 2, t2, I.re hp f2, m2, d2, fun z => ?_⟩
      dsimp only
      rw [m1, e2]
      dsimp only
      refine EvB.bd (n := 0) (m := 5) (by decide) (ev_re (w := w) (s := S (setO #[] 1 t1)) eo o2 t2 q2) ?_
      exact (ev_store A (by show (Array.filterMap (fun x => eo[x]?) o2).size ≤ _; omega)).b.le (by decide)
  obtain ⟨es', ep', t', I', m', d', hE⟩ := body
  refine ⟨es', ep', t', I', m', d', ?_⟩
  unfold setMerge
  rw [show (a == b) = false from beq_eq_false_iff_ne.mpr hab]
  simp only [Bool.false_eq_true, if_false]
  refine EvB.bd (n := 1) (m := 12) (by decide) (ev_stateR R I.fits).b ?_
  dsimp only
  rw [show eo.isEmpty = false from by rw [Array.isEmpty_eq_false_iff]; intro q; rw [q] at hn; simp at hn; omega]
  simp only [Bool.false_eq_true, if_false]
  refine EvB.bd (n := 5) (m := 7) (by decide) hroom ?_
  refine EvB.bd (n := 1) (m := 5) (by decide) (ev_state A f1).b ?_
  exact hE _
end
end Mine
end

section
set_option Elab.async false
set_option maxRecDepth 100000
set_option linter.unusedVariables false
namespace Mine
open PySem PySem.W PyProof.Rows
noncomputable def outT (r : Option (SharedT × Thread)) : Thread := match r with
  | some (_, t) => t
  | none => ⟨.unsupported "", gcode, pos0, []⟩
noncomputable def outG (r : Option (SharedT × Thread)) : Array GenState := match r with
  | some (s, _) => s.gens
  | none => #[]
noncomputable abbrev goQ (w : World) (n : Nat) (s : SharedT) (t : Thread) : Option (SharedT × Thread) := PySem.W.Fast.tw10295753902157049106 PySem.W.Fast.tw14364793385576792824 pw w 11 gann 1 n s t
theorem goQ_eq (w : World) (n : Nat) (s : SharedT) (t : Thread) : goT w n s t = goQ w n s t := by
  unfold goT
  rw [PySem.W.Fast.te10295753902157049106, PySem.W.Fast.te14364793385576792824]
noncomputable def led0 (w : World) : Bool := !w.params.followText "set-order"
noncomputable def s3 (w : World) (os : OsState) : SharedT := gst (t_p3 w.params) 23 232 #[] os
noncomputable def th4 : Thread := piecesOf (((behindTheImports pw).drop 4).take 1) genv gcode pos_p3 gB
/-- the thread at the loop's head -/
noncomputable def thrA (w : World) (os : OsState) : Thread := outT (goQ w 86 (s3 w os) th4)
noncomputable def gA (w : World) (os : OsState) : Array GenState := outG (goQ w 86 (s3 w os) th4)
noncomputable def sA (w : World) (os : OsState) : SharedT := gst (t_q86 w.params (setO #[] 0 (SetTable.fresh 0 0 (led0 w)))) 31 243 (gA w os) os
noncomputable def loopC : Code := .builtin "set.update.loop" ⟨[.ref 30, .ref 29], []⟩
theorem segA (w : World) (os : OsState) : goT w 86 (s3 w os) th4 = some (sA w os, thrA w os) := by
  rw [goQ_eq]
  revert w
  refine byRow2 "special-get-raises" (P := fun w => goQ w 86 (s3 w os) th4 = some (sA w os, thrA w os)) ?_ ?_ <;> intro w <;> kernel_rfl
theorem thrA_cur (w : World) (os : OsState) : thrA w os = ⟨denote treeTable loopC, loopC, pos_q86, (thrA w os).stack⟩ := by
  rw [PySem.W.Fast.te11892475500146522536, PySem.W.Fast.te14364793385576792824]
  revert w
  refine byRow2 "special-get-raises" (P := fun w => thrA w os = ⟨PySem.W.Fast.tw11892475500146522536 PySem.W.Fast.tw14364793385576792824 loopC, loopC, pos_q86, (thrA w os).stack⟩) ?_ ?_ <;> intro w <;> kernel_rfl
end Mine
end

section
set_option Elab.async false
set_option maxRecDepth 100000
set_option linter.unusedVariables false
namespace Mine
open PySem PySem.W PyProof.Rows
noncomputable def ri (i : Nat) : Obj := { cls := Value.type "range_iterator", data := Data.fields #[Value.int i 0, Value.int (32 - (i : Int)) 0, Value.int 1 0] }
noncomputable def fi (P : Params) (i tk : Nat) : Obj := { cls := Value.type "frame", data := Data.dict #[{ hash := PyData.keyHash P (Str.ofString ".0"), key := Value.str (Str.ofString ".0") 240, val := Value.ref 24 }, { hash := PyData.keyHash P (Str.ofString "i"), key := Value.str (Str.ofString "i") 244, val := Value.int i tk }] 2 }
noncomputable def gexp : Expr := match stmtAt 4 with
  | .Assign _ (.BinOp (.Call _ (a :: _) _ _) _ _ _) _ => a
  | _ => default
noncomputable def gscope : Scope := match gexp with
  | .GeneratorExp _ _ s _ => s
  | _ => default
noncomputable def cenv : Env := { scope := gscope, locals := 28, globals := 3, cells := [], qual := Str.ofString "<genexpr>.", code := .ref 27, frame := some 28 }
noncomputable def cS : Code := .compStart gexp 0 (.ref 24) .none cenv
noncomputable def cL : Code := .compLoop gexp 0 (.ref 24) .none cenv
noncomputable def posY : Pos := { line := 16, col := 24, endLine := 16, endCol := 30 }
noncomputable def stk (k1 k2 k3 : Result → Sem Fin) : List Frame := [.ret k1 none false [.ref 30] (.builtin "frozenset.__new__" ⟨[.type "frozenset", .ref 29], []⟩) pos_q86 [.ref 30, .ref 29],
  .ret k2 none false [] (.builtin "type.__call__" ⟨[.type "frozenset", .ref 29], []⟩) pos_q86 [.builtin "frozenset.__new__", .type "frozenset", .ref 29, .builtin "frozenset.__new__", .type "frozenset", .ref 29],
  .ret k3 none false [] gcode pos_q86 [.type "frozenset", .ref 29], topFrame pos0]
noncomputable def outK (i : Nat) (t : Thread) : Result → Sem Fin := match t.stack[i]? with
  | some (.ret k _ _ _ _ _ _) => k
  | _ => fun _ => .unsupported ""
theorem gA_is (w : World) (os : OsState) : gA w os = #[.fresh cS] := by
  revert w
  refine byRow2 "special-get-raises" (P := fun w => gA w os = #[.fresh cS]) ?_ ?_ <;> intro w <;> kernel_rfl
theorem thrA_is (w : World) (os : OsState) : ∃ k1 k2 k3, thrA w os = ⟨denote treeTable loopC, loopC, pos_q86, stk k1 k2 k3⟩ := by
  refine ⟨outK 0 (thrA w os), outK 1 (thrA w os), outK 2 (thrA w os), ?_⟩
  rw [PySem.W.Fast.te11892475500146522536, PySem.W.Fast.te14364793385576792824]
  revert w
  refine byRow2 "special-get-raises" (P := fun w => thrA w os = ⟨PySem.W.Fast.tw11892475500146522536 PySem.W.Fast.tw14364793385576792824 loopC, loopC, pos_q86, stk (outK 0 (thrA w os)) (outK 1 (thrA w os)) (outK 2 (thrA w os))⟩) ?_ ?_ <;> intro w <;> kernel_rfl
end Mine
end

section
set_option Elab.async false
set_option maxRecDepth 100000
set_option linter.unusedVariables false
namespace Mine
open PySem PySem.W PyProof.Rows
noncomputable def outKG (r : Option (SharedT × Thread)) : Resume → Sem Fin := match r with
  | some (s, _) => (match s.gens.toList with
    | GenState.suspended k _ _ _ _ _ :: _ => k
    | _ => fun _ => .unsupported "")
  | none => fun _ => .unsupported ""
noncomputable def sK (P : Params) (os : OsState) (kk : Resume → Sem Fin) (i : Nat) (x : Obj) : SharedT := gst (t_q144 P (ri i) (fi P (i - 1) (239 + 4 * i)) x) 31 (243 + 4 * i) #[.suspended kk [] cL posY [] false] os
noncomputable def sR (P : Params) (os : OsState) (i : Nat) (x : Obj) : SharedT := gst (t_q144 P (ri i) (fi P (i - 1) (239 + 4 * i)) x) 31 (243 + 4 * i) #[.running] os
noncomputable def thrL (k1 k2 k3 : Result → Sem Fin) : Thread := ⟨denote treeTable loopC, loopC, pos_q86, stk k1 k2 k3⟩
noncomputable def thrLQ (k1 k2 k3 : Result → Sem Fin) : Thread := ⟨PySem.W.Fast.tw11892475500146522536 PySem.W.Fast.tw14364793385576792824 loopC, loopC, pos_q86, stk k1 k2 k3⟩
theorem thrL_eq (k1 k2 k3 : Result → Sem Fin) : thrL k1 k2 k3 = thrLQ k1 k2 k3 := by
  unfold thrL thrLQ
  rw [PySem.W.Fast.te11892475500146522536, PySem.W.Fast.te14364793385576792824]
noncomputable def cutT (w : World) (i tk : Nat) (k1 k2 k3 : Result → Sem Fin) : Thread := ⟨Sem.bind (setAddHashed 30 (.str ⟨#[i]⟩ tk) (PyData.keyHash w.params ⟨#[i]⟩)) (fun _ => PySem.again loopC), loopC, pos_q86, stk k1 k2 k3⟩
noncomputable def cutQ (w : World) (i tk : Nat) (k1 k2 k3 : Result → Sem Fin) : Thread := ⟨R.bindR (PySem.W.Fast.tw16065284519293194179 30 (.str ⟨#[i]⟩ tk) (PyData.keyHash w.params ⟨#[i]⟩)) (fun _ => PySem.W.Fast.tw12377390311714414960 loopC), loopC, pos_q86, stk k1 k2 k3⟩
theorem cut_eq (w : World) (i tk : Nat) (k1 k2 k3 : Result → Sem Fin) : cutT w i tk k1 k2 k3 = cutQ w i tk k1 k2 k3 := by
  unfold cutT cutQ
  rw [PySem.W.Fast.te16065284519293194179, R.bindR_eq, PySem.W.Fast.te12377390311714414960]
/-- the stack while the generator runs -/
noncomputable def stG (w : World) (k1 k2 k3 : Result → Sem Fin) : List Frame := (outT (goQ w 9 (gst (t_q144 w.params (ri 1) (fi w.params 0 0) (setO #[] 0 (SetTable.fresh 0 0 true))) 31 0 #[.suspended (fun _ => .unsupported "") [] cL posY [] false] {}) (thrLQ k1 k2 k3))).stack
noncomputable def gF (w : World) (k1 k2 k3 : Result → Sem Fin) : GenResult → Sem Fin := match stG w k1 k2 k3 with
  | Frame.gen _ k _ _ _ :: _ => k
  | _ => fun _ => .unsupported ""
noncomputable def lF : List Frame → List Value
  | .gen _ _ l _ _ :: _ => l
  | _ => []
noncomputable def cF : List Frame → Code
  | .gen _ _ _ c _ :: _ => c
  | _ => gcode
noncomputable def pF : List Frame → Pos
  | .gen _ _ _ _ p :: _ => p
  | _ => pos0
noncomputable def rest9 (w : World) (k1 k2 k3 : Result → Sem Fin) : List Frame := (stG w k1 k2 k3).tail
section
variable (w : World) (os : OsState) (x x24 x28 : Obj) (k1 k2 k3 : Result → Sem Fin) (kk : Resume → Sem Fin) (tk : Nat)
theorem head9 : goQ w 9 (gst (t_q144 w.params x24 x28 x) 31 tk #[.suspended kk [] cL posY [] false] os) (thrLQ k1 k2 k3) = some (gst (t_q144 w.params x24 x28 x) 31 tk #[.running] os, ⟨kk (.send .none), cL, posY, stG w k1 k2 k3⟩) := by
  kernel_rfl
theorem stG_cons : stG w k1 k2 k3 = .gen 0 (gF w k1 k2 k3) (lF (stG w k1 k2 k3)) (cF (stG w k1 k2 k3)) (pF (stG w k1 k2 k3)) :: rest9 w k1 k2 k3 := by
  kernel_rfl
end
end Mine
end

section
set_option Elab.async false
set_option maxRecDepth 100000
set_option linter.unusedVariables false
namespace Mine
open PySem PySem.W PyProof.Rows
section
variable (os : OsState) (T : BT) (G : Array GenState) (k1 k2 k3 : Result → Sem Fin) (tk c tok : Nat)
noncomputable abbrev HashQ (w : World) : Prop := goQ w 8 (gst T 31 tk G os) ⟨gF w k1 k2 k3 (.yielded (.str ⟨#[c]⟩ tok)), cF (stG w k1 k2 k3), pF (stG w k1 k2 k3), rest9 w k1 k2 k3⟩ = some (gst T 31 (tk + 1) G os, cutQ w c tok k1 k2 k3)
theorem hash8 : ∀ w, HashQ os T G k1 k2 k3 tk c tok w := by
  refine byRow2 "special-get-raises" (P := HashQ os T G k1 k2 k3 tk c tok) ?_ ?_ <;> intro w <;> kernel_rfl
end
noncomputable abbrev denQ (c : Code) : Sem Fin := PySem.W.Fast.tw11892475500146522536 PySem.W.Fast.tw14364793385576792824 c
section
variable (w : World) (os : OsState) (x : Obj) (kg : GenResult → Sem Fin) (l : List Value) (c : Code) (p p' : Pos) (fr : Frame) (rest : List Frame)
noncomputable def s0R (P : Params) (os : OsState) (x : Obj) : SharedT := gst (t_q86 P x) 31 243 #[.running] os
noncomputable def kkN (s : SharedT) : Resume → Sem Fin := outKG (goQ w 34 s ⟨denQ cL, cL, p', .gen 0 kg l c p :: fr :: rest⟩)
noncomputable abbrev MidQ (s : SharedT) (i : Nat) : Prop := goQ w 34 s ⟨denQ cL, cL, p', .gen 0 kg l c p :: fr :: rest⟩ = some (gst (t_q144 w.params (ri (i + 1)) (fi w.params i (243 + 4 * i)) x) 31 (246 + 4 * i) #[.suspended (kkN w kg l c p p' fr rest s) [] cL posY [] false] os, ⟨kg (.yielded (.str ⟨#[i]⟩ (245 + 4 * i))), c, p, fr :: rest⟩)
noncomputable abbrev KkQ (s : SharedT) : Prop := kkN w kg l c p p' fr rest s (.send .none) = .pure (.again cL)
theorem again1 (s : SharedT) (c0 : Code) : goQ w 1 s ⟨.pure (.again cL), c0, p', .gen 0 kg l c p :: fr :: rest⟩ = some (s, ⟨denQ cL, cL, p', .gen 0 kg l c p :: fr :: rest⟩) := by
  obtain ⟨T, n, life, gens, drawn, toks, os⟩ := s
  cases c0 <;> kernel_rfl
theorem mid0 : MidQ w os x kg l c p p' fr rest (s0R w.params os x) 0 ∧ KkQ w kg l c p p' fr rest (s0R w.params os x) := by
  constructor <;> kernel_rfl
theorem start0 : ∃ n p2, n ≤ 11 ∧ goQ w n (s0R w.params os x) ⟨denQ cS, cS, p', .gen 0 kg l c p :: fr :: rest⟩ = some (s0R w.params os x, ⟨.pure (.again cL), cS, p2, .gen 0 kg l c p :: fr :: rest⟩) := by
  revert w
  refine byRow2 "comprehension-iter-twice" (P := fun w => ∃ n p2, n ≤ 11 ∧ goQ w n (s0R w.params os x) ⟨denQ cS, cS, p', .gen 0 kg l c p :: fr :: rest⟩ = some (s0R w.params os x, ⟨.pure (.again cL), cS, p2, .gen 0 kg l c p :: fr :: rest⟩)) ?_ ?_
  · refine byRow2 "special-get-raises" (P := fun w => ∃ n p2, n ≤ 11 ∧ goQ (w.withFollow "comprehension-iter-twice" false) n (s0R (w.withFollow "comprehension-iter-twice" false).params os x) ⟨denQ cS, cS, p', .gen 0 kg l c p :: fr :: rest⟩ = some (s0R (w.withFollow "comprehension-iter-twice" false).params os x, ⟨.pure (.again cL), cS, p2, .gen 0 kg l c p :: fr :: rest⟩)) ?_ ?_
    · intro w; exact ⟨11, (outT (goQ ((w.withFollow "special-get-raises" false).withFollow "comprehension-iter-twice" false) 11 (s0R ((w.withFollow "special-get-raises" false).withFollow "comprehension-iter-twice" false).params os x) ⟨denQ cS, cS, p', .gen 0 kg l c p :: fr :: rest⟩)).pos, by decide, by kernel_rfl⟩
    · intro w; exact ⟨11, (outT (goQ ((w.withFollow "special-get-raises" true).withFollow "comprehension-iter-twice" false) 11 (s0R ((w.withFollow "special-get-raises" true).withFollow "comprehension-iter-twice" false).params os x) ⟨denQ cS, cS, p', .gen 0 kg l c p :: fr :: rest⟩)).pos, by decide, by kernel_rfl⟩
  · intro w; exact ⟨1, p', by decide, by kernel_rfl⟩
theorem head0 (k1 k2 k3 : Result → Sem Fin) : goQ w 9 (gst (t_q86 w.params x) 31 243 #[.fresh cS] os) (thrLQ k1 k2 k3) = some (s0R w.params os x, ⟨denQ cS, cS, pos_q86, stG w k1 k2 k3⟩) := by
  kernel_rfl
theorem rest9_cons (k1 k2 k3 : Result → Sem Fin) : ∃ fr rest, rest9 w k1 k2 k3 = fr :: rest := by
  refine ⟨(rest9 w k1 k2 k3).headD (topFrame pos0), (rest9 w k1 k2 k3).tail, ?_⟩
  kernel_rfl
theorem mid1 : MidQ w os x kg l c p p' fr rest (sR w.params os 1 x) 1 ∧ KkQ w kg l c p p' fr rest (sR w.params os 1 x) := by constructor <;> kernel_rfl
theorem mid2 : MidQ w os x kg l c p p' fr rest (sR w.params os 2 x) 2 ∧ KkQ w kg l c p p' fr rest (sR w.params os 2 x) := by constructor <;> kernel_rfl
theorem mid3 : MidQ w os x kg l c p p' fr rest (sR w.params os 3 x) 3 ∧ KkQ w kg l c p p' fr rest (sR w.params os 3 x) := by constructor <;> kernel_rfl
theorem mid4 : MidQ w os x kg l c p p' fr rest (sR w.params os 4 x) 4 ∧ KkQ w kg l c p p' fr rest (sR w.params os 4 x) := by constructor <;> kernel_rfl
theorem mid5 : MidQ w os x kg l c p p' fr rest (sR w.params os 5 x) 5 ∧ KkQ w kg l c p p' fr rest (sR w.params os 5 x) := by constructor <;> kernel_rfl
theorem mid6 : MidQ w os x kg l c p p' fr rest (sR w.params os 6 x) 6 ∧ KkQ w kg l c p p' fr rest (sR w.params os 6 x) := by constructor <;> kernel_rfl
theorem mid7 : MidQ w os x kg l c p p' fr rest (sR w.params os 7 x) 7 ∧ KkQ w kg l c p p' fr rest (sR w.params os 7 x) := by constructor <;> kernel_rfl
theorem mid8 : MidQ w os x kg l c p p' fr rest (sR w.params os 8 x) 8 ∧ KkQ w kg l c p p' fr rest (sR w.params os 8 x) := by constructor <;> kernel_rfl
theorem mid9 : MidQ w os x kg l c p p' fr rest (sR w.params os 9 x) 9 ∧ KkQ w kg l c p p' fr rest (sR w.params os 9 x) := by constructor <;> kernel_rfl
theorem mid10 : MidQ w os x kg l c p p' fr rest (sR w.params os 10 x) 10 ∧ KkQ w kg l c p p' fr rest (sR w.params os 10 x) := by constructor <;> kernel_rfl
theorem mid11 : MidQ w os x kg l c p p' fr rest (sR w.params os 11 x) 11 ∧ KkQ w kg l c p p' fr rest (sR w.params os 11 x) := by constructor <;> kernel_rfl
theorem mid12 : MidQ w os x kg l c p p' fr rest (sR w.params os 12 x) 12 ∧ KkQ w kg l c p p' fr rest (sR w.params os 12 x) := by constructor <;> kernel_rfl
theorem mid13 : MidQ w os x kg l c p p' fr rest (sR w.params os 13 x) 13 ∧ KkQ w kg l c p p' fr rest (sR w.params os 13 x) := by constructor <;> kernel_rfl
theorem mid14 : MidQ w os x kg l c p p' fr rest (sR w.params os 14 x) 14 ∧ KkQ w kg l c p p' fr rest (sR w.params os 14 x) := by constructor <;> kernel_rfl
theorem mid15 : MidQ w os x kg l c p p' fr rest (sR w.params os 15 x) 15 ∧ KkQ w kg l c p p' fr rest (sR w.params os 15 x) := by constructor <;> kernel_rfl
theorem mid16 : MidQ w os x kg l c p p' fr rest (sR w.params os 16 x) 16 ∧ KkQ w kg l c p p' fr rest (sR w.params os 16 x) := by constructor <;> kernel_rfl
theorem mid17 : MidQ w os x kg l c p p' fr rest (sR w.params os 17 x) 17 ∧ KkQ w kg l c p p' fr rest (sR w.params os 17 x) := by constructor <;> kernel_rfl
theorem mid18 : MidQ w os x kg l c p p' fr rest (sR w.params os 18 x) 18 ∧ KkQ w kg l c p p' fr rest (sR w.params os 18 x) := by constructor <;> kernel_rfl
theorem mid19 : MidQ w os x kg l c p p' fr rest (sR w.params os 19 x) 19 ∧ KkQ w kg l c p p' fr rest (sR w.params os 19 x) := by constructor <;> kernel_rfl
theorem mid20 : MidQ w os x kg l c p p' fr rest (sR w.params os 20 x) 20 ∧ KkQ w kg l c p p' fr rest (sR w.params os 20 x) := by constructor <;> kernel_rfl
theorem mid21 : MidQ w os x kg l c p p' fr rest (sR w.params os 21 x) 21 ∧ KkQ w kg l c p p' fr rest (sR w.params os 21 x) := by constructor <;> kernel_rfl
theorem mid22 : MidQ w os x kg l c p p' fr rest (sR w.params os 22 x) 22 ∧ KkQ w kg l c p p' fr rest (sR w.params os 22 x) := by constructor <;> kernel_rfl
theorem mid23 : MidQ w os x kg l c p p' fr rest (sR w.params os 23 x) 23 ∧ KkQ w kg l c p p' fr rest (sR w.params os 23 x) := by constructor <;> kernel_rfl
theorem mid24 : MidQ w os x kg l c p p' fr rest (sR w.params os 24 x) 24 ∧ KkQ w kg l c p p' fr rest (sR w.params os 24 x) := by constructor <;> kernel_rfl
theorem mid25 : MidQ w os x kg l c p p' fr rest (sR w.params os 25 x) 25 ∧ KkQ w kg l c p p' fr rest (sR w.params os 25 x) := by constructor <;> kernel_rfl
theorem mid26 : MidQ w os x kg l c p p' fr rest (sR w.params os 26 x) 26 ∧ KkQ w kg l c p p' fr rest (sR w.params os 26 x) := by constructor <;> kernel_rfl
theorem mid27 : MidQ w os x kg l c p p' fr rest (sR w.params os 27 x) 27 ∧ KkQ w kg l c p p' fr rest (sR w.params os 27 x) := by constructor <;> kernel_rfl
theorem mid28 : MidQ w os x kg l c p p' fr rest (sR w.params os 28 x) 28 ∧ KkQ w kg l c p p' fr rest (sR w.params os 28 x) := by constructor <;> kernel_rfl
theorem mid29 : MidQ w os x kg l c p p' fr rest (sR w.params os 29 x) 29 ∧ KkQ w kg l c p p' fr rest (sR w.params os 29 x) := by constructor <;> kernel_rfl
theorem mid30 : MidQ w os x kg l c p p' fr rest (sR w.params os 30 x) 30 ∧ KkQ w kg l c p p' fr rest (sR w.params os 30 x) := by constructor <;> kernel_rfl
theorem mid31 : MidQ w os x kg l c p p' fr rest (sR w.params os 31 x) 31 ∧ KkQ w kg l c p p' fr rest (sR w.params os 31 x) := by constructor <;> kernel_rfl
theorem mids : ∀ i, 1 ≤ i → i < 32 → MidQ w os x kg l c p p' fr rest (sR w.params os i x) i ∧ KkQ w kg l c p p' fr rest (sR w.params os i x) := by
  intro i h1 h2
  rcases ((by decide +kernel : ∀ i, i < 32 → (i = 0 ∨ i = 1 ∨ i = 2 ∨ i = 3 ∨ i = 4 ∨ i = 5 ∨ i = 6 ∨ i = 7 ∨ i = 8 ∨ i = 9 ∨ i = 10 ∨ i = 11 ∨ i = 12 ∨ i = 13 ∨ i = 14 ∨ i = 15 ∨ i = 16 ∨ i = 17 ∨ i = 18 ∨ i = 19 ∨ i = 20 ∨ i = 21 ∨ i = 22 ∨ i = 23 ∨ i = 24 ∨ i = 25 ∨ i = 26 ∨ i = 27 ∨ i = 28 ∨ i = 29 ∨ i = 30 ∨ i = 31)) i h2) with rfl | rfl | rfl | rfl | rfl | rfl | rfl | rfl | rfl | rfl | rfl | rfl | rfl | rfl | rfl | rfl | rfl | rfl | rfl | rfl | rfl | rfl | rfl | rfl | rfl | rfl | rfl | rfl | rfl | rfl | rfl | rfl
  · exact absurd h1 (by decide)
  · exact mid1 w os x kg l c p p' fr rest
  · exact mid2 w os x kg l c p p' fr rest
  · exact mid3 w os x kg l c p p' fr rest
  · exact mid4 w os x kg l c p p' fr rest
  · exact mid5 w os x kg l c p p' fr rest
  · exact mid6 w os x kg l c p p' fr rest
  · exact mid7 w os x kg l c p p' fr rest
  · exact mid8 w os x kg l c p p' fr rest
  · exact mid9 w os x kg l c p p' fr rest
  · exact mid10 w os x kg l c p p' fr rest
  · exact mid11 w os x kg l c p p' fr rest
  · exact mid12 w os x kg l c p p' fr rest
  · exact mid13 w os x kg l c p p' fr rest
  · exact mid14 w os x kg l c p p' fr rest
  · exact mid15 w os x kg l c p p' fr rest
  · exact mid16 w os x kg l c p p' fr rest
  · exact mid17 w os x kg l c p p' fr rest
  · exact mid18 w os x kg l c p p' fr rest
  · exact mid19 w os x kg l c p p' fr rest
  · exact mid20 w os x kg l c p p' fr rest
  · exact mid21 w os x kg l c p p' fr rest
  · exact mid22 w os x kg l c p p' fr rest
  · exact mid23 w os x kg l c p p' fr rest
  · exact mid24 w os x kg l c p p' fr rest
  · exact mid25 w os x kg l c p p' fr rest
  · exact mid26 w os x kg l c p p' fr rest
  · exact mid27 w os x kg l c p p' fr rest
  · exact mid28 w os x kg l c p p' fr rest
  · exact mid29 w os x kg l c p p' fr rest
  · exact mid30 w os x kg l c p p' fr rest
  · exact mid31 w os x kg l c p p' fr rest
end
end Mine
end

section
set_option Elab.async false
set_option maxRecDepth 100000
set_option linter.unusedVariables false
namespace Mine
open PySem PySem.W PyProof.Rows
theorem at30 (P : Params) (os : OsState) (a b : Obj) (tk : Nat) (G : Array GenState) : At (fun x => gst (t_q144 P a b x) 31 tk G os) 30 :=
  ⟨fun x => by kernel_rfl, fun x => by kernel_rfl, fun x f => by kernel_rfl, by decide⟩
theorem ev_go {w : World} {α : Type} {n : Nat} {x : Sem α} {s s' : SharedT} {a : α} (h : EvB w n x s a s') (f : α → Sem Fin) (code : Code) (pos : Pos) (stk : List Frame) (hs : 2 ≤ stk.length) :
    ∃ m, m ≤ n ∧ goT w m s ⟨Sem.bind x f, code, pos, stk⟩ = some (s', ⟨f a, code, pos, stk⟩) := by
  obtain ⟨m, hm, e⟩ := h
  exact ⟨m, hm, by rw [Sem.bind_eq_wrap]; exact e f .raise id id code pos stk hs⟩
theorem loop_again (w : World) (s : SharedT) (k1 k2 k3 : Result → Sem Fin) : goT w 1 s ⟨PySem.again loopC, loopC, pos_q86, stk k1 k2 k3⟩ = some (s, thrL k1 k2 k3) := by
  obtain ⟨T, n, life, gens, drawn, toks, os⟩ := s
  kernel_rfl
/-- what stands at the loop's head behind i turns -/
noncomputable def AtTurn (w : World) (os : OsState) (i : Nat) : Prop := ∃ n k1 k2 k3 kk es ep t, n ≤ 200 * i ∧ k1 = outK 0 (thrA w os) ∧ k2 = outK 1 (thrA w os) ∧ k3 = outK 2 (thrA w os) ∧ kk (.send .none) = .pure (.again cL) ∧ Inv es t (List.range i).reverse ∧
  goT w n (sA w os) (thrA w os) = some (sK w.params os kk i (setO es ep t), thrL k1 k2 k3)
theorem turn_end (w : World) (os : OsState) (i : Nat) (hi : i < 32) (k1 k2 k3 : Result → Sem Fin) (kk : Resume → Sem Fin) {es : Array (Int × Value)} {ep : Nat} {t : SetTable} (I : Inv es t (List.range i).reverse) :
    ∃ n es' ep' t', n ≤ 29 ∧ Inv es' t' (List.range (i + 1)).reverse ∧ goT w n (gst (t_q144 w.params (ri (i + 1)) (fi w.params i (243 + 4 * i)) (setO es ep t)) 31 (246 + 4 * i) #[.suspended kk [] cL posY [] false] os) ⟨gF w k1 k2 k3 (.yielded (.str ⟨#[i]⟩ (245 + 4 * i))), cF (stG w k1 k2 k3), pF (stG w k1 k2 k3), rest9 w k1 k2 k3⟩ =
      some (sK w.params os kk (i + 1) (setO es' ep' t'), thrL k1 k2 k3) := by
  have h1 := hash8 os (t_q144 w.params (ri (i + 1)) (fi w.params i (243 + 4 * i)) (setO es ep t)) #[.suspended kk [] cL posY [] false] k1 k2 k3 (246 + 4 * i) i (245 + 4 * i) w
  unfold HashQ at h1
  rw [← goQ_eq, ← cut_eq] at h1
  obtain ⟨es', ep', t', I', hE⟩ := ev_add (w := w) (at30 w.params os (ri (i + 1)) (fi w.params i (243 + 4 * i)) (246 + 4 * i + 1) #[.suspended kk [] cL posY [] false]) I (c := i) (k := 245 + 4 * i) (h := PyData.keyHash w.params ⟨#[i]⟩) (ep := ep) (by simp) (by simp; omega)
  obtain ⟨m, hm, h2⟩ := ev_go hE (fun _ => PySem.again loopC) loopC pos_q86 (stk k1 k2 k3) (by show 2 ≤ 4; decide)
  have h3 := loop_again w (gst (t_q144 w.params (ri (i + 1)) (fi w.params i (243 + 4 * i)) (setO es' ep' t')) 31 (246 + 4 * i + 1) #[.suspended kk [] cL posY [] false] os) k1 k2 k3
  refine ⟨8 + (m + 1), es', ep', t', by omega, by rw [List.range_succ, List.reverse_append]; exact I', ?_⟩
  refine go_trans h1 (go_trans h2 (h3.trans ?_))
  unfold sK
  rw [show 239 + 4 * (i + 1) = 243 + 4 * i by omega, show 243 + 4 * (i + 1) = 246 + 4 * i + 1 by omega]
  rfl
theorem thrA_k (w : World) (os : OsState) : thrA w os = thrL (outK 0 (thrA w os)) (outK 1 (thrA w os)) (outK 2 (thrA w os)) := by
  obtain ⟨k1, k2, k3, e⟩ := thrA_is w os
  rw [e]; rfl
theorem turn_first (w : World) (os : OsState) : AtTurn w os 1 := by
  have hA := thrA_k w os
  generalize hk1 : outK 0 (thrA w os) = k1 at hA
  generalize hk2 : outK 1 (thrA w os) = k2 at hA
  generalize hk3 : outK 2 (thrA w os) = k3 at hA
  have h1 := head0 w os (setO #[] 0 (SetTable.fresh 0 0 (led0 w))) k1 k2 k3
  obtain ⟨fr, rest, hr⟩ := rest9_cons w k1 k2 k3
  have hst := stG_cons w k1 k2 k3
  rw [hr] at hst
  generalize hl : lF (stG w k1 k2 k3) = l at hst
  generalize hc : cF (stG w k1 k2 k3) = c at hst
  generalize hp : pF (stG w k1 k2 k3) = p at hst
  generalize hg : gF w k1 k2 k3 = kg at hst
  rw [hst] at h1
  obtain ⟨n2, p2, hn2, h2⟩ := start0 w os (setO #[] 0 (SetTable.fresh 0 0 (led0 w))) kg l c p pos_q86 fr rest
  have h3 := again1 w kg l c p p2 fr rest (s0R w.params os (setO #[] 0 (SetTable.fresh 0 0 (led0 w)))) cS
  obtain ⟨h4, h5⟩ := mid0 w os (setO #[] 0 (SetTable.fresh 0 0 (led0 w))) kg l c p p2 fr rest
  obtain ⟨n6, es', ep', t', hn6, I', h6⟩ := turn_end w os 0 (by decide) k1 k2 k3 (kkN w kg l c p p2 fr rest (s0R w.params os (setO #[] 0 (SetTable.fresh 0 0 (led0 w))))) (es := #[]) (ep := 0) (t := SetTable.fresh 0 0 (led0 w)) ⟨rfl, (fun e he => by simp at he), .refl _⟩
  rw [hr, hg, hc, hp] at h6
  refine ⟨9 + (n2 + (1 + (34 + n6))), k1, k2, k3, _, es', ep', t', by omega, hk1.symm, hk2.symm, hk3.symm, h5, I', ?_⟩
  rw [hA, thrL_eq]
  unfold sA
  rw [gA_is]
  unfold MidQ at h4
  rw [← goQ_eq] at h1 h2 h3 h4
  rw [thrL_eq] at h6
  exact go_trans h1 (go_trans h2 (go_trans h3 (go_trans h4 h6)))
theorem turn_next (w : World) (os : OsState) (i : Nat) (h0 : 1 ≤ i) (h32 : i < 32) (T : AtTurn w os i) : AtTurn w os (i + 1) := by
  obtain ⟨n, k1, k2, k3, kk, es, ep, t, hn, e1, e2, e3, hkk, I, hgo⟩ := T
  obtain ⟨fr, rest, hr⟩ := rest9_cons w k1 k2 k3
  have hst := stG_cons w k1 k2 k3
  have h1 := head9 w os (setO es ep t) (ri i) (fi w.params (i - 1) (239 + 4 * i)) k1 k2 k3 kk (243 + 4 * i)
  rw [hkk] at h1
  rw [hr] at hst
  generalize hl : lF (stG w k1 k2 k3) = l at hst
  generalize hc : cF (stG w k1 k2 k3) = c at hst
  generalize hp : pF (stG w k1 k2 k3) = p at hst
  generalize hg : gF w k1 k2 k3 = kg at hst
  rw [hst] at h1
  have h3 := again1 w kg l c p posY fr rest (sR w.params os i (setO es ep t)) cL
  obtain ⟨h4, h5⟩ := mids w os (setO es ep t) kg l c p posY fr rest i h0 h32
  obtain ⟨n6, es', ep', t', hn6, I', h6⟩ := turn_end w os i h32 k1 k2 k3 (kkN w kg l c p posY fr rest (sR w.params os i (setO es ep t))) (ep := ep) I
  rw [hr, hg, hc, hp] at h6
  refine ⟨n + (9 + (1 + (34 + n6))), k1, k2, k3, _, es', ep', t', by omega, e1, e2, e3, h5, I', ?_⟩
  unfold MidQ at h4
  rw [← goQ_eq] at h1 h3 h4
  rw [thrL_eq] at h6 hgo ⊢
  exact go_trans hgo (go_trans h1 (go_trans h3 (go_trans h4 h6)))
theorem turns (w : World) (os : OsState) : AtTurn w os 32 := by
  have : ∀ i, 1 ≤ i → i ≤ 32 → AtTurn w os i := by
    intro i
    induction i with
    | zero => intro h; omega
    | succ i ih =>
      intro _ h
      by_cases hi : i = 0
      · subst hi; exact turn_first w os
      · exact turn_next w os i (by omega) (by omega) (ih (by omega) (by omega))
  exact this 32 (by decide) (by decide)
end Mine
end

section
set_option Elab.async false
set_option maxRecDepth 100000
set_option linter.unusedVariables false
namespace Mine
open PySem PySem.W PyProof.Rows
noncomputable def oneO (P : Params) (led : Bool) (c tok : Nat) : Obj := setO #[(PyData.keyHash P ⟨#[c]⟩, .str ⟨#[c]⟩ tok)] 1 { mask := 7, place := #[SetTable.bits (PyData.keyHash P ⟨#[c]⟩) % 8], dummies := #[], finger := 0, led := led, moves := 0, plain := false }
noncomputable def orC : Code := .builtin "frozenset.__or__" ⟨[.ref 30, .ref 35], []⟩
noncomputable def th32 (w : World) (os : OsState) : Thread := ⟨denQ cL, cL, posY, stG w (outK 0 (thrA w os)) (outK 1 (thrA w os)) (outK 2 (thrA w os))⟩
noncomputable def s38 (w : World) (os : OsState) (x : Obj) : SharedT := gst (t_q2038 w.params x (oneO w.params (led0 w) 127 373)) 39 375 #[.finished] os
noncomputable def s40 (w : World) (os : OsState) (x y : Obj) : SharedT := gst (t_q2045 w.params x (oneO w.params (led0 w) 127 373) y) 40 375 #[.finished] os
section
variable (os : OsState) (es : Array (Int × Value)) (ep : Nat) (t : SetTable)
noncomputable def st38 (w : World) : List Frame := (outT (goQ w 113 (sR w.params os 32 (setO es ep t)) (th32 w os))).stack
noncomputable abbrev Z1Q (w : World) : Prop := goQ w 113 (sR w.params os 32 (setO es ep t)) (th32 w os) = some (s38 w os (setO es ep t), ⟨denQ orC, orC, pos_q2038, st38 os es ep t w⟩)
theorem z1 : ∀ w, Z1Q os es ep t w := by
  refine byRow2 "special-get-raises" (P := Z1Q os es ep t) ?_ ?_ <;> intro w <;> kernel_rfl
noncomputable abbrev Z3Q (es' : Array (Int × Value)) (ep' : Nat) (t' : SetTable) (w : World) : Prop := PySem.W.Fast.tw10110043849684766642 PySem.W.Fast.tw14364793385576792824 pw w 11 gann 1 10 (s40 w os (setO es ep t) (setO es' ep' t')) ⟨.pure (.done (.ret (.ref 39))), orC, pos_q2038, st38 os es ep t w⟩ =
  some (.next, gst (t_p4 w.params (setO es ep t) (oneO w.params (led0 w) 127 373) (setO es' ep' t')) 40 376 #[.finished] os, gcode, pos_p4)
theorem z3 (es' : Array (Int × Value)) (ep' : Nat) (t' : SetTable) : ∀ w, Z3Q os es ep t es' ep' t' w := by
  refine byRow2 "special-get-raises" (P := Z3Q os es ep t es' ep' t') ?_ ?_ <;> intro w <;> kernel_rfl
end
end Mine
end

section
set_option Elab.async false
set_option maxRecDepth 100000
set_option linter.unusedVariables false
namespace Mine
open PySem PySem.W PyProof.Rows
noncomputable def subC : Code := .builtin "frozenset.__sub__" ⟨[.ref 39, .ref 40], []⟩
noncomputable def th5 : Thread := piecesOf (((behindTheImports pw).drop 5).take 1) genv gcode pos_p4 gB
section
variable (os : OsState) (x30 x35 : Obj) (es : Array (Int × Value)) (ep : Nat) (t : SetTable)
noncomputable def sp4 (w : World) : SharedT := gst (t_p4 w.params x30 x35 (setO es ep t)) 40 376 #[.finished] os
noncomputable def s44 (w : World) : SharedT := gst (t_r76 w.params x30 x35 (setO es ep t) (oneO w.params (led0 w) 9 377)) 44 379 #[.finished] os
noncomputable def s45 (w : World) (y : Obj) : SharedT := gst (t_r88 w.params x30 x35 (setO es ep t) (oneO w.params (led0 w) 9 377) y) 45 379 #[.finished] os
noncomputable def st76 (w : World) : List Frame := (outT (goQ w 76 (sp4 os x30 x35 es ep t w) th5)).stack
noncomputable abbrev Y1Q (w : World) : Prop := goQ w 76 (sp4 os x30 x35 es ep t w) th5 = some (s44 os x30 x35 es ep t w, ⟨denQ subC, subC, pos_r76, st76 os x30 x35 es ep t w⟩)
theorem y1 : ∀ w, Y1Q os x30 x35 es ep t w := by
  refine byRow2 "special-get-raises" (P := Y1Q os x30 x35 es ep t) ?_ ?_ <;> intro w <;> kernel_rfl
noncomputable abbrev Y3Q (es' : Array (Int × Value)) (ep' : Nat) (t' : SetTable) (w : World) : Prop := PySem.W.Fast.tw10110043849684766642 PySem.W.Fast.tw14364793385576792824 pw w 11 gann 1 10 (s45 os x30 x35 es ep t w (setO es' ep' t')) ⟨.pure (.done (.ret (.ref 44))), subC, pos_r76, st76 os x30 x35 es ep t w⟩ =
  some (.next, gst (t_p5 w.params x30 x35 (setO es ep t) (oneO w.params (led0 w) 9 377) (setO es' ep' t')) 45 380 #[.finished] os, gcode, pos_p5)
theorem y3 (es' : Array (Int × Value)) (ep' : Nat) (t' : SetTable) : ∀ w, Y3Q os x30 x35 es ep t es' ep' t' w := by
  refine byRow2 "special-get-raises" (P := Y3Q os x30 x35 es ep t es' ep' t') ?_ ?_ <;> intro w <;> kernel_rfl
theorem st38_len (w : World) : 2 ≤ (st38 os es ep t w).length := by
  have h : (st38 os es ep t w).length = 2 := by
    revert w
    refine byRow2 "special-get-raises" (P := fun w => (st38 os es ep t w).length = 2) ?_ ?_ <;> intro w <;> kernel_rfl
  omega
theorem st76_len (w : World) : 2 ≤ (st76 os x30 x35 es ep t w).length := by
  have h : (st76 os x30 x35 es ep t w).length = 2 := by
    revert w
    refine byRow2 "special-get-raises" (P := fun w => (st76 os x30 x35 es ep t w).length = 2) ?_ ?_ <;> intro w <;> kernel_rfl
  omega
end
end Mine
end

section
set_option Elab.async false
set_option maxRecDepth 100000
set_option linter.unusedVariables false
namespace Mine
open PySem PySem.W PyProof.Rows PySem.Builtin PySem.Builtin.Frozenset
noncomputable abbrev EqQ (s : SharedT) (k1 k2 : Tok) (K : Bool → Sem Fin) (H : Value → Sem Fin) (gd : Bool → Bool) (lv : List Value → List Value) (code : Code) (pos : Pos) (f1 f2 : Frame) (stk : List Frame) (w : World) : Prop :=
  goT w 4 s ⟨(do truthOfDropped (← richCompare .Eq (.str ⟨#[9]⟩ k1) (.str ⟨#[9]⟩ k2)) : Sem Bool).wrap K H gd lv, code, pos, f1 :: f2 :: stk⟩ = some (s, ⟨K true, code, pos, f1 :: f2 :: stk⟩)
theorem eq_go (s : SharedT) (k1 k2 : Tok) (K : Bool → Sem Fin) (H : Value → Sem Fin) (gd : Bool → Bool) (lv : List Value → List Value) (code : Code) (pos : Pos) (f1 f2 : Frame) (stk : List Frame) : ∀ w, EqQ s k1 k2 K H gd lv code pos f1 f2 stk w := by
  obtain ⟨T, n, life, gens, drawn, toks, os⟩ := s
  refine byRow2 "special-get-raises" (P := EqQ ⟨T, n, life, gens, drawn, toks, os⟩ k1 k2 K H gd lv code pos f1 f2 stk) ?_ ?_ <;> intro w <;> kernel_rfl
theorem ev_eq {w : World} {s : SharedT} (k1 k2 : Tok) : EvB w 4 (eqBool (.str ⟨#[9]⟩ k1) (.str ⟨#[9]⟩ k2)) s true s := by
  unfold eqBool
  refine EvB.holding _ ?_
  cases h : ((Value.str ⟨#[9]⟩ k1) == (Value.str ⟨#[9]⟩ k2)) with
  | true =>
    rw [if_pos rfl]
    exact EvB.bd (n := 1) (m := 0) (by decide) EvB.rule1 EvB.pure
  | false =>
    rw [if_neg (by decide)]
    refine ⟨4, by decide, fun K H gd lv code pos stk hs => ?_⟩
    match stk, hs with
    | f1 :: f2 :: stk, _ => exact eq_go s k1 k2 K H gd lv code pos f1 f2 stk w
/-- the state bears y at b -/
structure RdS (s : SharedT) (b : Addr) (y : Obj) : Prop where
  lt : Nat.blt b s.n = true
  get : s.tree.get b = some y
theorem At.rd {S : Obj → SharedT} {a : Addr} (A : At S a) (x : Obj) : RdS (S x) a x := ⟨A.lt x, A.get x⟩
theorem Rd.rd {S : Obj → SharedT} {b : Addr} {y : Obj} (A : Rd S b y) (x : Obj) : RdS (S x) b y := ⟨A.lt x, A.get x⟩
section
variable {w : World} {s : SharedT} {b : Addr} {es : Array (Int × Value)} {ep : Nat} {t : SetTable}
theorem ev_loadS {y : Obj} (A : RdS s b y) (hy : alive y = some y) (p : Option Value) : Ev w 1 (PySem.loadPart b p) s y s := fun K H gd lv code pos stk hs => by
  refine go_one (by show endAt 1 ⟨.load b p fun o => K o, code, pos, stk⟩ = none; unfold endAt; dsimp only; cases (stk.length == 1) <;> rfl) rfl ?_
  show stepT (denote treeTable) pw w s ⟨.load b p fun o => K o, code, pos, stk⟩ = _
  obtain ⟨h1, h2⟩ := A
  obtain ⟨T, n, life, gens, drawn, toks, os⟩ := s
  simp only at h1 h2
  simp only [stepT, h1, h2, hy]
theorem ev_stateS (A : RdS s b (setO es ep t)) (hf : t.fits es.size = true) : EvB w 1 (setState b) s (es, ep, t) s := by
  obtain ⟨h1, h2⟩ := fits_two hf
  unfold setState
  refine EvB.bd (n := 1) (m := 0) (by decide) (ev_loadS A rfl none).b ?_
  show EvB w 0 (if (t.place.size != es.size || decide (t.fill > t.mask)) = true then _ else _) _ _ _
  rw [if_neg (by simp [h1]; omega)]
  exact EvB.pure
theorem ev_entriesS (A : RdS s b (setO es ep t)) (hf : t.fits es.size = true) : EvB w 1 (setEntries b) s es s := EvB.bd (n := 1) (m := 0) (by decide) (ev_stateS A hf) EvB.pure
theorem ev_epochS (A : RdS s b (setO es ep t)) (hf : t.fits es.size = true) : EvB w 1 (setEpoch b) s ep s := EvB.bd (n := 1) (m := 0) (by decide) (ev_stateS A hf) EvB.pure
theorem ev_sizeS (A : RdS s b (setO es ep t)) (hf : t.fits es.size = true) : EvB w 1 (sizeOf b) s es.size s := EvB.bd (n := 1) (m := 0) (by decide) (ev_entriesS A hf) EvB.pure
theorem sub_set : isSubtype (.type "frozenset") (.type "set") = pure false := by rw [isSubtype_type]; kernel_rfl
theorem sub_froz : isSubtype (.type "frozenset") (.type "frozenset") = pure true := by rw [isSubtype_type]; kernel_rfl
theorem ev_instSet (A : RdS s b (setO es ep t)) : EvB w 1 (isInstance (.ref b) (.type "set")) s false s := by
  unfold isInstance typeOf
  refine EvB.bd (n := 1) (m := 0) (by decide) (a := .type "frozenset") (EvB.bd (n := 1) (m := 0) (by decide) (ev_loadS A rfl _).b EvB.pure) ?_
  rw [sub_set]; exact EvB.pure
theorem ev_instFroz (A : RdS s b (setO es ep t)) : EvB w 1 (isInstance (.ref b) (.type "frozenset")) s true s := by
  unfold isInstance typeOf
  refine EvB.bd (n := 1) (m := 0) (by decide) (a := .type "frozenset") (EvB.bd (n := 1) (m := 0) (by decide) (ev_loadS A rfl _).b EvB.pure) ?_
  rw [sub_froz]; exact EvB.pure
theorem ev_anySet (A : RdS s b (setO es ep t)) : EvB w 2 (isAnySet (.ref b)) s true s := by
  unfold isAnySet
  exact EvB.bd (n := 1) (m := 1) (by decide) (ev_instSet A) (ev_instFroz A)
theorem ev_base (A : RdS s b (setO es ep t)) : EvB w 1 (baseOf b) s (.type "frozenset") s := by
  unfold baseOf
  exact EvB.bd (n := 1) (m := 0) (by decide) (ev_instSet A) EvB.pure
theorem ev_byText : EvB w 1 setsByText s (w.params.followText "set-order") s := EvB.bd (n := 1) (m := 0) (by decide) Ev.ask.b EvB.pure
theorem ev_new {s' : SharedT} {a : Addr} (h : ∀ o k code pos stk, o = setO #[] 0 (SetTable.fresh 0 0 (!w.params.followText "set-order")) → stepT (denote treeTable) pw w s ⟨.alloc o k, code, pos, stk⟩ = some (s', ⟨k a, code, pos, stk⟩)) :
    EvB w 2 (newSet (.type "frozenset")) s (.ref a) s' := by
  unfold newSet
  refine EvB.bd (n := 1) (m := 1) (by decide) ev_byText ?_
  dsimp only
  refine ⟨1, by decide, fun K H gd lv code pos stk hs => ?_⟩
  refine go_one (by show endAt 1 ⟨.alloc _ fun o => K (.ref o), code, pos, stk⟩ = none; unfold endAt; dsimp only; cases (stk.length == 1) <;> rfl) rfl ?_
  exact h _ (fun o => K (.ref o)) code pos stk rfl
theorem pick_one (f : Nat → Nat) (e : Int × Value) : pickOrder f #[e] = #[e] := by
  unfold pickOrder
  show pickOrder.go f 1 0 [e] #[] = _
  unfold pickOrder.go
  have : f 0 % [e].length = 0 := by show f 0 % 1 = 0; exact Nat.mod_one _
  rw [this]
  rfl
theorem ev_walk1 {e : Int × Value} (A : RdS s b (setO #[e] ep t)) (hf : t.fits 1 = true) (others : List Addr) (filled : Option Addr) : EvB w 8 (setWalkUnseen b others filled) s #[e] s := by
  have hw : EvB w 5 (setWalk b) s #[e] s := by
    unfold setWalk
    refine EvB.bd (n := 1) (m := 4) (by decide) (ev_stateS A hf) ?_
    dsimp only
    refine EvB.bd (n := 1) (m := 3) (by decide) ev_byText ?_
    cases w.params.followText "set-order" with
    | true =>
      rw [if_pos rfl]
      refine EvB.bd (n := 1) (m := 0) (by decide) Ev.ask.b ?_
      rw [pick_one]
      exact EvB.pure
    | false =>
      rw [if_neg (by decide)]
      show EvB w 3 (if ((!t.plain && decide ((#[e] : Array (Int × Value)).size > 1)) = true) then _ else _) _ _ _
      rw [if_neg (by simp)]
      refine EvB.bd (n := 0) (m := 0) (s1 := s) (a := ()) (by decide) ?_ EvB.pure
      show EvB w 0 (if ((!t.led && decide ((#[e] : Array (Int × Value)).size > 1)) = true) then _ else _) _ _ _
      rw [if_neg (by simp)]
      exact EvB.pure
  unfold setWalkUnseen
  refine EvB.bd (n := 1) (m := 7) (by decide) (ev_stateS A hf) ?_
  dsimp only
  refine EvB.bd (n := 1) (m := 6) (by decide) ev_byText ?_
  rw [if_pos (by simp)]
  exact hw.le (by decide)
end
section
variable {w : World} {S : Obj → SharedT} {a b : Addr} {es eo : Array (Int × Value)} {ep epo : Nat} {t to : SetTable} {cs : List Nat}
theorem ev_for1 {α β : Type} {s s' : SharedT} {n : Nat} {e : α} {x y : β} {f : α → β → Sem (ForInStep β)} (h : EvB w n (f e x) s (.yield y) s') : EvB w n (forIn #[e] x f) s y s' := by
  show EvB w n (forIn [e].toArray x f) s y s'
  rw [List.forIn_toArray, List.forIn_cons]
  refine EvB.bd (n := n) (m := 0) (Nat.le_refl _) h ?_
  dsimp only
  rw [List.forIn_nil]
  exact EvB.pure
theorem ev_unch {s : SharedT} (R : RdS s b (setO eo epo to)) (hf : to.fits eo.size = true) (id : String) : EvB w 1 (unchanged id b epo) s () s := by
  unfold unchanged
  refine EvB.bd (n := 1) (m := 0) (by decide) (ev_epochS R hf) ?_
  rw [if_neg (by simp)]
  exact EvB.pure
/-- a set of one sign is merged into a set that has room -/
theorem ev_merge1 (A : At S a) {c : Nat} {k : Tok} {h : Int} (R : Rd S b (setO #[(h, .str ⟨#[c]⟩ k)] epo to)) (hf : to.fits 1 = true) (I : Inv es t cs) (hab : a ≠ b) (hm : t.mask = 127) (hd : t.dummies = #[]) (hc : c ∉ cs) (h32 : cs.length = 32) (id : String) :
    ∃ es' ep' t', Inv es' t' (c :: cs) ∧ EvB w 60 (merge id a b) (S (setO es ep t)) () (S (setO es' ep' t')) := by
  obtain ⟨es', ep', t', I', hE⟩ := ev_add (w := w) A I (c := c) (k := k) (h := h) (ep := ep) hc (by omega)
  refine ⟨es', ep', t', I', ?_⟩
  have hp : t.place.size = 32 := by rw [(fits_two I.fits).1, I.size, h32]
  unfold merge
  refine EvB.bd (n := 1) (m := 50) (by decide) (ev_epochS (R.rd _) hf) ?_
  unfold setMerge
  rw [show (a == b) = false from beq_eq_false_iff_ne.mpr hab]
  simp only [Bool.false_eq_true, if_false]
  refine EvB.bd (n := 1) (m := 49) (by decide) (ev_stateS (R.rd _) hf) ?_
  dsimp only
  rw [if_neg (by simp)]
  refine EvB.bd (n := 1) (m := 45) (s1 := S (setO es ep t)) (a := ()) (by decide) ?_ ?_
  · unfold setRoomFor
    refine EvB.bd (n := 1) (m := 0) (by decide) (ev_state A I.fits).b ?_
    have : t.roomFor (#[(h, Value.str ⟨#[c]⟩ k)] : Array (Int × Value)).size = none := by
      unfold SetTable.roomFor SetTable.fill
      rw [hp, hd, hm]
      rfl
    dsimp only
    rw [this]
    exact EvB.pure
  refine EvB.bd (n := 1) (m := 44) (by decide) (ev_state A I.fits).b ?_
  dsimp only
  have hroad : t.road to = .oneByOne := by
    unfold SetTable.road SetTable.fill
    rw [hp, hd]
    rfl
  rw [hroad]
  dsimp only
  refine EvB.bd (n := 8) (m := 30) (by decide) (ev_walk1 (R.rd _) hf _ _) ?_
  refine EvB.bd (n := 22) (m := 0) (a := PUnit.unit) (by decide) (ev_for1 (y := PUnit.unit) ?_) EvB.pure
  dsimp only
  refine EvB.bd (n := 20) (m := 2) (by decide) (EvB.holding _ hE) ?_
  refine EvB.bd (n := 1) (m := 1) (by decide) (ev_unch (R.rd _) hf id) ?_
  refine EvB.bd (n := 1) (m := 0) (by decide) (ev_stateS (R.rd _) hf) ?_
  dsimp only
  rw [if_neg (by simp)]
  exact EvB.pure
theorem eraseAt_perm {α : Type} (xs : Array α) (i : Nat) (h : i < xs.size) : (xs[i] :: (SetTable.eraseAt xs i).toList).Perm xs.toList := by
  unfold SetTable.eraseAt
  simp only [Array.toList_append, Array.toList_extract, List.extract_eq_take_drop, List.drop_zero, Nat.sub_zero]
  have e : (xs.toList.drop (i + 1)).take (xs.size - (i + 1)) = xs.toList.drop (i + 1) := List.take_of_length_le (by simp)
  rw [e]
  have e2 : xs.toList = xs.toList.take i ++ xs[i] :: xs.toList.drop (i + 1) := by
    have h' : i < xs.toList.length := by simpa using h
    have := List.take_append_drop i xs.toList
    rw [List.drop_eq_getElem_cons h', Array.getElem_toList] at this
    exact this.symm
  conv => rhs; rw [e2]
  exact List.perm_middle.symm
theorem eraseAt_size {α : Type} (xs : Array α) (i : Nat) (h : i < xs.size) : (SetTable.eraseAt xs i).size + 1 = xs.size := by
  have := (eraseAt_perm xs i h).length_eq
  simpa using this
/-- the sign 9 is taken out of a set -/
theorem ev_discard (A : At S a) (I : Inv es t cs) (hc : 9 ∈ cs) (hn : cs.Nodup) (hsz : cs.length < 500) (hd : t.dummies = #[]) {k : Tok} {h : Int} :
    ∃ es' ep' t', Inv es' t' (cs.erase 9) ∧ t'.mask = t.mask ∧ t'.dummies.size = 1 ∧ EvB w 30 (setDiscardHashed a (.str ⟨#[9]⟩ k) h) (S (setO es ep t)) true (S (setO es' ep' t')) := by
  have hes : es.size < 500 := by rw [I.size]; exact hsz
  have hex : ∃ i, es.findIdx? (fun e => e.2.isStr ⟨#[9]⟩) = some i := by
    cases hf : es.findIdx? (fun e => e.2.isStr ⟨#[9]⟩) with
    | some i => exact ⟨i, rfl⟩
    | none =>
      exfalso
      rw [show es.findIdx? (fun e => e.2.isStr ⟨#[9]⟩) = es.toList.findIdx? (fun e => e.2.isStr ⟨#[9]⟩) from by cases es; simp, List.findIdx?_eq_none_iff] at hf
      obtain ⟨e, he, e9⟩ := List.mem_map.mp (I.perm.mem_iff.mpr hc)
      have := hf e he
      rw [isStr_ne (I.one e he), e9] at this
      simp at this
  obtain ⟨i, hi⟩ := hex
  have hi' : es.toList.findIdx? (fun e => e.2.isStr ⟨#[9]⟩) = some i := by
    rw [← hi]; cases es; simp
  obtain ⟨hlt, hp, _⟩ := List.findIdx?_eq_some_iff_getElem.mp hi'
  have hlt' : i < es.size := by simpa using hlt
  have hel : es.toList[i] = es[i] := by simp
  rw [hel] at hp
  have hone := I.one es[i] (by rw [← hel]; exact List.getElem_mem hlt)
  rw [isStr_ne hone, decide_eq_true_eq] at hp
  obtain ⟨d, kk, hd9⟩ := hone
  have hdc : d = 9 := by
    have : cp es[i] = d := by unfold cp; rw [hd9]; rfl
    omega
  subst hdc
  obtain ⟨f1, f2⟩ := fits_two I.fits
  have hpl : t.place[i]? = some t.place[i] := Array.getElem?_eq_getElem (by rw [f1]; exact hlt')
  have hdrop : t.drop i = { t with place := SetTable.eraseAt t.place i, dummies := SetTable.insertAt t.dummies (SetTable.below t.dummies t.place[i]) t.place[i] } := by
    unfold SetTable.drop
    rw [hpl]
  have hps := eraseAt_size t.place i (by rw [f1]; exact hlt')
  have hds : (SetTable.insertAt t.dummies (SetTable.below t.dummies t.place[i]) t.place[i]).size = 1 := by rw [insertAt_size, hd]; rfl
  have hes2 := eraseAt_size es i hlt'
  have hper := eraseAt_perm es i hlt'
  have I' : Inv (SetTable.eraseAt es i) (t.drop i) (cs.erase 9) := by
    refine ⟨?_, fun e he => I.one e (hper.mem_iff.mp (.tail _ he)), ?_⟩
    · rw [hdrop]
      unfold SetTable.fits SetTable.fill at *
      simp only [hds] at *
      have : t.dummies.size = 0 := by rw [hd]; rfl
      simp
      omega
    · have h1 : (9 :: (SetTable.eraseAt es i).toList.map cp).Perm cs := by
        have := (hper.map cp).trans I.perm
        rw [List.map_cons, show cp es[i] = 9 from by unfold cp; rw [hd9]; rfl] at this
        exact this
      have := h1.erase 9
      rwa [List.erase_cons_head] at this
  refine ⟨_, ep + 1, _, I', by rw [hdrop], by rw [hdrop]; exact hds, ?_⟩
  unfold setDiscardHashed
  refine EvB.bd (n := 12) (m := 8) (s1 := S (setO es ep t)) (a := some i) (by decide) ?_ ?_
  · unfold setFind setFindIn
    refine EvB.bd (n := 1) (m := 11) (by decide) (ev_state A I.fits).b ?_
    dsimp only
    rw [one_scan I.one (by omega), if_pos rfl]
    refine EvB.bd (n := 1) (m := 10) (by decide) EvB.rule1 ?_
    refine EvB.bd (n := 8) (m := 0) (s1 := S (setO es ep t)) (a := ScanMet.found i) (by decide) ?_ EvB.pure
    unfold setScan
    dsimp only
    rw [one_exact I.one, if_pos rfl]
    unfold setScanStrs
    rw [hi]
    dsimp only
    rw [Array.getElem?_eq_getElem hlt']
    have hpair : es[i] = (es[i].1, Value.str ⟨#[9]⟩ kk) := by rw [← hd9]
    rw [hpair]
    dsimp only
    refine EvB.bd (n := 1) (m := 7) (by decide) (ev_epoch A I.fits).b ?_
    refine EvB.bd (n := 4) (m := 3) (by decide) (ev_eq kk k) ?_
    rw [if_neg (by simp)]
    refine EvB.bd (n := 1) (m := 0) (by decide) (ev_epoch A I.fits).b ?_
    rw [if_neg (by simp), if_pos rfl]
    exact EvB.pure
  dsimp only
  refine EvB.bd (n := 1) (m := 7) (by decide) (ev_state A I.fits).b ?_
  dsimp only
  have hsl : 600 ≤ sizeLine := by decide
  refine EvB.bd (n := 2) (m := 2) (by decide) (ev_store A (by omega)).b ?_
  exact EvB.bd (n := 1) (m := 0) (by decide) Ev.point.b EvB.pure
end
end Mine
end

section
set_option Elab.async false
set_option maxRecDepth 100000
set_option linter.unusedVariables false
namespace Mine
open PySem PySem.W PyProof.Rows PySem.Builtin PySem.Builtin.Frozenset
noncomputable def unionB (id : String) (l : Addr) (r : Value) : Sem Value := do
  let result ← copyOf l
  if r != .ref l then holding [result] (updateFrom id (← addrOf result) r)
  return result
noncomputable def binB (name : String) (f : String → Addr → Value → Sem Value) (a b : Value) : Sem Fin := do
  let (self, other) ← slot1 name ⟨[a, b], []⟩
  let (l, r) := if false then (other, self) else (self, other)
  if !(← isAnySet l <&&> isAnySet r) then rule s!"frozenset.{name}.declined"; return ← ret .notImplemented
  ret (← f s!"frozenset.{name}" (← addrOf l) r)
theorem or_is (a b : Value) : denote treeTable (.builtin "frozenset.__or__" ⟨[a, b], []⟩) = binB "__or__" unionB a b := by
  have h : entryFor treeTable "frozenset.__or__" = some Builtin.«frozenset.__or__» := by kernel_rfl
  show (match entryFor treeTable "frozenset.__or__" with | some b' => b' ⟨[a, b], []⟩ | none => unsupported ((withoutEnding? "frozenset.__or__" "#data").getD "frozenset.__or__")) = _
  rw [h]
  rfl
theorem sub_is (a b : Value) : denote treeTable (.builtin "frozenset.__sub__" ⟨[a, b], []⟩) = binB "__sub__" difference a b := by
  have h : entryFor treeTable "frozenset.__sub__" = some Builtin.«frozenset.__sub__» := by kernel_rfl
  show (match entryFor treeTable "frozenset.__sub__" with | some b' => b' ⟨[a, b], []⟩ | none => unsupported ((withoutEnding? "frozenset.__sub__" "#data").getD "frozenset.__sub__")) = _
  rw [h]
  rfl
section
variable {w : World} {s s' : SharedT} {a b : Addr} {es eo : Array (Int × Value)} {ep epo : Nat} {t to : SetTable}
theorem ev_bin (name : String) (f : String → Addr → Value → Sem Value) {n : Nat} {v : Value} (A : RdS s a (setO es ep t)) (B : RdS s b (setO eo epo to)) (h : EvB w n (f s!"frozenset.{name}" a (.ref b)) s v s') : EvB w (4 + n) (binB name f (.ref a) (.ref b)) s (.done (.ret v)) s' := by
  unfold binB
  refine EvB.bd (n := 0) (m := 4 + n) (s1 := s) (a := (.ref a, .ref b)) (by omega) ?_ ?_
  · unfold slot1 slotArgs
    exact EvB.pure
  dsimp only
  refine EvB.bd (n := 4) (m := n) (s1 := s) (a := true) (Nat.le_refl _) ?_ ?_
  · exact EvB.bd (n := 2) (m := 2) (by decide) (ev_anySet A) (ev_anySet B)
  rw [if_neg (by decide)]
  refine EvB.bd (n := 0) (m := n) (s1 := s) (a := a) (by omega) EvB.pure ?_
  exact EvB.bd (n := n) (m := 0) (Nat.le_refl _) h EvB.pure
end
section
variable {w : World} {S : Obj → SharedT} {s : SharedT} {a b c : Addr} {es eo : Array (Int × Value)} {ep epo : Nat} {t to : SetTable} {cs : List Nat}
theorem ev_copyOf (hnew : ∀ o k code pos stk, o = setO #[] 0 (SetTable.fresh 0 0 (!w.params.followText "set-order")) → stepT (denote treeTable) pw w s ⟨.alloc o k, code, pos, stk⟩ = some (S o, ⟨k a, code, pos, stk⟩)) (B0 : RdS s b (setO eo epo to)) (A : At S a) (R : Rd S b (setO eo epo to)) (I : Inv eo to cs) (hab : a ≠ b) (h1 : 32 ≤ cs.length) (h2 : cs.length < 40) :
    ∃ es' ep' t', Inv es' t' cs ∧ t'.mask = 127 ∧ t'.dummies = #[] ∧ EvB w 30 (copyOf b) s (.ref a) (S (setO es' ep' t')) := by
  obtain ⟨es', ep', t', I', m', d', hE⟩ := ev_copy (w := w) A R I hab h1 h2 (led := !w.params.followText "set-order")
  refine ⟨es', ep', t', I', m', d', ?_⟩
  unfold copyOf
  refine EvB.bd (n := 1) (m := 22) (by decide) (ev_base B0) ?_
  refine EvB.bd (n := 2) (m := 20) (by decide) (ev_new (s' := S (setO #[] 0 (SetTable.fresh 0 0 (!w.params.followText "set-order")))) (a := a) fun o k code pos stk ho => by rw [hnew o k code pos stk ho, ho]) ?_
  refine EvB.bd (n := 0) (m := 20) (s1 := S (setO #[] 0 (SetTable.fresh 0 0 (!w.params.followText "set-order")))) (a := a) (by decide) EvB.pure ?_
  exact EvB.bd (n := 20) (m := 0) (by decide) hE EvB.pure
theorem ev_union (hnew : ∀ o k code pos stk, o = setO #[] 0 (SetTable.fresh 0 0 (!w.params.followText "set-order")) → stepT (denote treeTable) pw w s ⟨.alloc o k, code, pos, stk⟩ = some (S o, ⟨k a, code, pos, stk⟩)) (B0 : RdS s b (setO eo epo to)) (A : At S a) (R : Rd S b (setO eo epo to)) {ch : Nat} {k : Tok} {h : Int} {e1 : Nat} {t1 : SetTable} (R1 : Rd S c (setO #[(h, .str ⟨#[ch]⟩ k)] e1 t1)) (hf1 : t1.fits 1 = true) (I : Inv eo to cs) (hab : a ≠ b) (hac : a ≠ c) (hbc : c ≠ b) (h1 : cs.length = 32) (hc : ch ∉ cs) (id : String) :
    ∃ es' ep' t', Inv es' t' (ch :: cs) ∧ EvB w 120 (unionB id b (.ref c)) s (.ref a) (S (setO es' ep' t')) := by
  obtain ⟨es2, ep2, t2, I2, m2, d2, hE2⟩ := ev_copyOf hnew B0 A R I hab (by omega) (by omega)
  obtain ⟨es3, ep3, t3, I3, hE3⟩ := ev_merge1 (w := w) A R1 hf1 I2 (ep := ep2) hac m2 d2 hc h1 id
  refine ⟨es3, ep3, t3, I3, ?_⟩
  unfold unionB
  refine EvB.bd (n := 30) (m := 80) (by decide) hE2 ?_
  rw [if_pos (by simp; exact hbc)]
  refine EvB.bd (n := 0) (m := 80) (s1 := S (setO es2 ep2 t2)) (a := a) (by decide) EvB.pure ?_
  refine EvB.bd (n := 70) (m := 0) (a := ()) (by decide) (EvB.holding _ ?_) EvB.pure
  unfold updateFrom
  refine EvB.bd (n := 2) (m := 68) (by decide) (ev_anySet (R1.rd _)) ?_
  rw [if_pos rfl]
  refine EvB.bd (n := 0) (m := 60) (s1 := S (setO es2 ep2 t2)) (a := c) (by decide) EvB.pure ?_
  exact hE3
theorem ev_diff (hnew : ∀ o k code pos stk, o = setO #[] 0 (SetTable.fresh 0 0 (!w.params.followText "set-order")) → stepT (denote treeTable) pw w s ⟨.alloc o k, code, pos, stk⟩ = some (S o, ⟨k a, code, pos, stk⟩)) (B0 : RdS s b (setO eo epo to)) (A : At S a) (R : Rd S b (setO eo epo to)) {k : Tok} {h : Int} {e1 : Nat} {t1 : SetTable} (C0 : RdS s c (setO #[(h, .str ⟨#[9]⟩ k)] e1 t1)) (R1 : Rd S c (setO #[(h, .str ⟨#[9]⟩ k)] e1 t1)) (hf1 : t1.fits 1 = true) (I : Inv eo to cs) (hab : a ≠ b) (hac : a ≠ c) (hcs : c ≠ sysModules) (h1 : cs.length = 33) (hc : 9 ∈ cs) (hn : cs.Nodup) (id : String) :
    ∃ es' ep' t', Inv es' t' (cs.erase 9) ∧ EvB w 200 (difference id b (.ref c)) s (.ref a) (S (setO es' ep' t')) := by
  obtain ⟨es2, ep2, t2, I2, m2, d2, hE2⟩ := ev_copyOf hnew B0 A R I hab (by omega) (by omega)
  obtain ⟨es3, ep3, t3, I3, m3, d3, hE3⟩ := ev_discard (w := w) A I2 (ep := ep2) hc hn (by omega) d2 (k := k) (h := h)
  refine ⟨es3, ep3, t3, I3, ?_⟩
  unfold difference
  dsimp only
  refine EvB.bd (n := 2) (m := 180) (by decide) (ev_anySet C0) ?_
  rw [if_neg (by decide)]
  refine EvB.bd (n := 0) (m := 180) (s1 := s) (a := c) (by decide) EvB.pure ?_
  rw [if_neg (by simp)]
  rw [if_pos rfl]
  refine EvB.bd (n := 1) (m := 170) (by decide) (ev_sizeS C0 hf1) ?_
  refine EvB.bd (n := 1) (m := 160) (by decide) (ev_sizeS B0 I.fits) ?_
  rw [if_pos (by rw [I.size, h1]; show 33 / 4 > 1; decide)]
  refine EvB.bd (n := 1) (m := 150) (by decide) EvB.rule1 ?_
  refine EvB.bd (n := 30) (m := 100) (by decide) hE2 ?_
  refine EvB.bd (n := 0) (m := 100) (s1 := S (setO es2 ep2 t2)) (a := a) (by decide) EvB.pure ?_
  refine EvB.bd (n := 100) (m := 0) (a := ()) (by decide) (EvB.holding _ ?_) EvB.pure
  unfold differenceUpdate
  rw [if_neg (by simp; exact fun e => hac e.symm)]
  refine EvB.bd (n := 2) (m := 90) (by decide) (ev_anySet (R1.rd _)) ?_
  rw [if_pos rfl]
  refine EvB.bd (n := 0) (m := 90) (s1 := S (setO es2 ep2 t2)) (a := c) (by decide) EvB.pure ?_
  refine EvB.bd (n := 1) (m := 80) (by decide) (ev_sizeS (R1.rd _) hf1) ?_
  refine EvB.bd (n := 1) (m := 79) (by decide) (ev_sizeS (A.rd _) I2.fits) ?_
  rw [if_neg (by show ¬ (1 / 8 > _); omega)]
  refine EvB.bd (n := 1) (m := 70) (by decide) (ev_epochS (R1.rd _) hf1) ?_
  refine EvB.bd (n := 50) (m := 10) (a := ()) (s1 := S (setO es3 ep3 t3)) (by decide) (EvB.holding _ ?_) ?_
  · refine EvB.bd (n := 8) (m := 40) (by decide) (ev_walk1 (R1.rd _) hf1 _ _) ?_
    refine EvB.bd (n := 31) (m := 0) (a := PUnit.unit) (by decide) (ev_for1 (y := PUnit.unit) ?_) EvB.pure
    dsimp only
    refine EvB.bd (n := 30) (m := 1) (by decide) (EvB.holding _ hE3) ?_
    exact EvB.bd (n := 1) (m := 0) (by decide) (ev_unch (R1.rd _) hf1 id) EvB.pure
  unfold setTidy
  refine EvB.bd (n := 1) (m := 0) (by decide) (ev_stateS (A.rd _) I3.fits) ?_
  dsimp only
  rw [if_neg (by unfold SetTable.tooManyDummies; rw [d3, m3, m2]; decide)]
  exact EvB.pure
end
end Mine
end

section
set_option Elab.async false
set_option maxRecDepth 100000
set_option linter.unusedVariables false
namespace Mine
open PySem PySem.W PyProof.Rows
theorem wrap_id {α : Type} (x : Sem α) : x.wrap .pure .raise id id = x := by
  rw [← Sem.bind_eq_wrap]
  exact bind_pure x
theorem ev_run {w : World} {n : Nat} {x : Sem Fin} {s s' : SharedT} {f : Fin} (h : EvB w n x s f s') (code : Code) (pos : Pos) (stk : List Frame) (hs : 2 ≤ stk.length) :
    ∃ m, m ≤ n ∧ goT w m s ⟨x, code, pos, stk⟩ = some (s', ⟨.pure f, code, pos, stk⟩) := by
  obtain ⟨m, hm, e⟩ := h
  refine ⟨m, hm, ?_⟩
  have := e .pure .raise id id code pos stk hs
  rwa [wrap_id] at this
theorem seg_goT {w : World} : ∀ {n N : Nat} {s s' : SharedT} {t t' : Thread} {r : Flow × SharedT × Code × Pos}, goT w n s t = some (s', t') → segRunT treeTable pw w 11 gann 1 N s' t' = some r → segRunT treeTable pw w 11 gann 1 (n + N) s t = some r
  | 0, N, s, s', t, t', r, h, k => by
    obtain ⟨rfl, rfl⟩ : s = s' ∧ t = t' := by simpa [goT, segGoT] using h
    rw [Nat.zero_add]; exact k
  | n + 1, N, s, s', t, t', r, h, k => by
    rw [show n + 1 + N = n + N + 1 by omega]
    unfold goT segGoT at h
    unfold segRunT
    cases he : endAt 1 t with
    | some f => rw [he] at h; cases h
    | none =>
      rw [he] at h
      cases hk : stepOk 11 gann t with
      | false => rw [hk] at h; cases h
      | true =>
        rw [hk] at h
        cases hs : stepT (denote treeTable) pw w s t with
        | none => rw [hs] at h; cases h
        | some q => obtain ⟨s₂, t₂⟩ := q; rw [hs] at h; exact seg_goT h k
theorem denQ_eq (c : Code) : denote treeTable c = denQ c := by
  rw [PySem.W.Fast.te11892475500146522536, PySem.W.Fast.te14364793385576792824]
theorem runQ_eq (w : World) (n : Nat) (s : SharedT) (t : Thread) : segRunT treeTable pw w 11 gann 1 n s t = PySem.W.Fast.tw10110043849684766642 PySem.W.Fast.tw14364793385576792824 pw w 11 gann 1 n s t := by
  rw [PySem.W.Fast.te10110043849684766642, PySem.W.Fast.te14364793385576792824]
theorem oneO_fits (p : Nat) (led : Bool) : ({ mask := 7, place := #[p], dummies := #[], finger := 0, led := led, moves := 0, plain := false } : SetTable).fits 1 = true := by
  unfold SetTable.fits SetTable.fill
  simp
section
variable (w : World) (os : OsState)
theorem at39 (x : Obj) : At (s40 w os x) 39 := ⟨fun y => by kernel_rfl, fun y => by kernel_rfl, fun y f => by kernel_rfl, by decide⟩
theorem rd30 (x : Obj) : Rd (s40 w os x) 30 x := ⟨fun y => by kernel_rfl, fun y => by kernel_rfl⟩
theorem rd35 (x : Obj) : Rd (s40 w os x) 35 (oneO w.params (led0 w) 127 373) := ⟨fun y => by kernel_rfl, fun y => by kernel_rfl⟩
theorem rd30' (x : Obj) : RdS (s38 w os x) 30 x := ⟨by kernel_rfl, by kernel_rfl⟩
theorem rd35' (x : Obj) : RdS (s38 w os x) 35 (oneO w.params (led0 w) 127 373) := ⟨by kernel_rfl, by kernel_rfl⟩
theorem new39 (x o : Obj) (k : Addr → Sem Fin) (code : Code) (pos : Pos) (stk : List Frame) : stepT (denote treeTable) pw w (s38 w os x) ⟨.alloc o k, code, pos, stk⟩ = some (s40 w os x o, ⟨k 39, code, pos, stk⟩) := by kernel_rfl
theorem stmt4 : ∃ n, n ≤ 7000 ∧ ∃ x30 es ep t, Inv es t (127 :: (List.range 32).reverse) ∧ segRunT treeTable pw w 11 gann 1 n (s3 w os) th4 = some (.next, gst (t_p4 w.params x30 (oneO w.params (led0 w) 127 373) (setO es ep t)) 40 376 #[.finished] os, gcode, pos_p4) := by
  have h0 := segA w os
  obtain ⟨n1, k1, k2, k3, kk, es, ep, t, hn1, e1, e2, e3, hkk, I, h1⟩ := turns w os
  rw [e1, e2, e3] at h1
  clear e1 e2 e3
  have h2 := head9 w os (setO es ep t) (ri 32) (fi w.params 31 (239 + 4 * 32)) (outK 0 (thrA w os)) (outK 1 (thrA w os)) (outK 2 (thrA w os)) kk (243 + 4 * 32)
  rw [hkk] at h2
  have h3 : goQ w 1 (sR w.params os 32 (setO es ep t)) ⟨.pure (.again cL), cL, posY, stG w (outK 0 (thrA w os)) (outK 1 (thrA w os)) (outK 2 (thrA w os))⟩ = some (sR w.params os 32 (setO es ep t), th32 w os) := by
    obtain ⟨fr, rest, hr⟩ := rest9_cons w (outK 0 (thrA w os)) (outK 1 (thrA w os)) (outK 2 (thrA w os))
    have hst := stG_cons w (outK 0 (thrA w os)) (outK 1 (thrA w os)) (outK 2 (thrA w os))
    rw [hr] at hst
    unfold th32
    rw [hst]
    exact again1 w _ _ _ _ posY fr rest _ cL
  have h4 := z1 os es ep t w
  unfold Z1Q at h4
  obtain ⟨es', ep', t', I', hE⟩ := ev_union (w := w) (S := s40 w os (setO es ep t)) (s := s38 w os (setO es ep t)) (a := 39) (b := 30) (c := 35) (fun o k code pos stk _ => new39 w os (setO es ep t) o k code pos stk) (rd30' w os _) (at39 w os _) (rd30 w os _) (rd35 w os _) (oneO_fits _ _) I (by decide) (by decide) (by decide) (by simp) (by simp) s!"frozenset.{"__or__"}"
  have hB := ev_bin "__or__" unionB (rd30' w os (setO es ep t)) (rd35' w os (setO es ep t)) hE
  obtain ⟨m5, hm5, h5⟩ := ev_run hB orC pos_q2038 (st38 os es ep t w) (st38_len os es ep t w)
  rw [← or_is] at h5
  have h6 := z3 os es ep t es' ep' t' w
  unfold Z3Q at h6
  rw [← runQ_eq] at h6
  rw [← goQ_eq] at h2 h3 h4
  rw [← denQ_eq] at h4
  rw [thrL_eq] at h1
  refine ⟨86 + (n1 + (9 + (1 + (113 + (m5 + 10))))), by omega, setO es ep t, es', ep', t', I', ?_⟩
  exact seg_goT h0 (seg_goT h1 (seg_goT h2 (seg_goT h3 (seg_goT h4 (seg_goT h5 h6)))))
end
end Mine
end

section
set_option Elab.async false
set_option maxRecDepth 100000
set_option linter.unusedVariables false
namespace Mine
open PySem PySem.W PyProof.Rows PySem.Builtin PySem.Builtin.Frozenset
section
variable (w : World) (os : OsState) (x30 x35 : Obj) (es : Array (Int × Value)) (ep : Nat) (t : SetTable)
theorem at44 : At (s45 os x30 x35 es ep t w) 44 := ⟨fun y => by kernel_rfl, fun y => by kernel_rfl, fun y f => by kernel_rfl, by decide⟩
theorem rd39 : Rd (s45 os x30 x35 es ep t w) 39 (setO es ep t) := ⟨fun y => by kernel_rfl, fun y => by kernel_rfl⟩
theorem rd40 : Rd (s45 os x30 x35 es ep t w) 40 (oneO w.params (led0 w) 9 377) := ⟨fun y => by kernel_rfl, fun y => by kernel_rfl⟩
theorem rd39' : RdS (s44 os x30 x35 es ep t w) 39 (setO es ep t) := ⟨by kernel_rfl, by kernel_rfl⟩
theorem rd40' : RdS (s44 os x30 x35 es ep t w) 40 (oneO w.params (led0 w) 9 377) := ⟨by kernel_rfl, by kernel_rfl⟩
theorem new44 (o : Obj) (k : Addr → Sem Fin) (code : Code) (pos : Pos) (stk : List Frame) : stepT (denote treeTable) pw w (s44 os x30 x35 es ep t w) ⟨.alloc o k, code, pos, stk⟩ = some (s45 os x30 x35 es ep t w o, ⟨k 44, code, pos, stk⟩) := by kernel_rfl
noncomputable def signs33 : List Nat := 127 :: (List.range 32).reverse
theorem signs33_len : signs33.length = 33 := by decide
theorem signs33_mem : 9 ∈ signs33 := by decide
theorem signs33_nd : signs33.Nodup := by decide
theorem stmt5 (I : Inv es t signs33) : ∃ n, n ≤ 400 ∧ ∃ x40 es' ep' t', Inv es' t' (signs33.erase 9) ∧ segRunT treeTable pw w 11 gann 1 n (sp4 os x30 x35 es ep t w) th5 = some (.next, gst (t_p5 w.params x30 x35 (setO es ep t) x40 (setO es' ep' t')) 45 380 #[.finished] os, gcode, pos_p5) := by
  have h4 := y1 os x30 x35 es ep t w
  unfold Y1Q at h4
  obtain ⟨es', ep', t', I', hE⟩ := ev_diff (w := w) (S := s45 os x30 x35 es ep t w) (s := s44 os x30 x35 es ep t w) (a := 44) (b := 39) (c := 40) (fun o k code pos stk _ => new44 w os x30 x35 es ep t o k code pos stk) (rd39' w os x30 x35 es ep t) (at44 w os x30 x35 es ep t) (rd39 w os x30 x35 es ep t) (rd40' w os x30 x35 es ep t) (rd40 w os x30 x35 es ep t) (oneO_fits _ _) I (by decide) (by decide) (by decide) signs33_len signs33_mem signs33_nd s!"frozenset.{"__sub__"}"
  have hB := ev_bin "__sub__" difference (rd39' w os x30 x35 es ep t) (rd40' w os x30 x35 es ep t) hE
  obtain ⟨m5, hm5, h5⟩ := ev_run hB subC pos_r76 (st76 os x30 x35 es ep t w) (st76_len os x30 x35 es ep t w)
  rw [← sub_is] at h5
  have h6 := y3 os x30 x35 es ep t es' ep' t' w
  unfold Y3Q at h6
  rw [← runQ_eq] at h6
  rw [← goQ_eq, ← denQ_eq] at h4
  refine ⟨76 + (m5 + 10), by omega, oneO w.params (led0 w) 9 377, es', ep', t', I', ?_⟩
  exact seg_goT h4 (seg_goT h5 h6)
end
end Mine
end

section
set_option Elab.async false
set_option maxRecDepth 100000
set_option linter.unusedVariables false
namespace Mine
open PySem PySem.W PyProof.Rows
theorem hp_tail (w : World) (os : OsState) (x30 x35 x39 x40 x44 : Obj) : segRunT treeTable pw w 11 gann 1 528 (gst (t_p6 w.params x30 x35 x39 x40 x44) 45 381 #[.finished] os) (piecesOf ((behindTheImports pw).drop 7) genv gcode pos_p6 gB) =
    some (.next, gst (t_p19 w.params x30 x35 x39 x40 x44) 129 497 #[.finished] os, gcode, pos_p19) := by
  rw [PySem.W.Fast.te10110043849684766642, PySem.W.Fast.te14364793385576792824]
  kernel_rfl
theorem hp_pre (w : World) (os : OsState) : topGo treeTable pw w 11 gann 12 ⟨boot_heap w.params, #[], boot_drawn, boot_toks, os⟩ (topStub pw) = some ((gst (t_pre w.params) 15 187 #[] os).abs, ⟨denote treeTable gcode, gcode, pos0, gB⟩) := by
  kernel_rfl
theorem hp_block (w : World) (os : OsState) : segRun treeTable pw w 11 gann 1 1 (gst (t_pre w.params) 15 187 #[] os).abs (blockOf (behindTheImports pw) genv gcode pos0 gB) = some (.next, (gst (t_pre w.params) 15 187 #[] os).abs, gcode, pos0) := by
  kernel_rfl
theorem hp_03 (w : World) (os : OsState) : segRunT treeTable pw w 11 gann 1 191 (gst (t_pre w.params) 15 187 #[] os) (piecesOf ((behindTheImports pw).take 4) genv gcode pos0 gB) = some (.next, gst (t_p3 w.params) 23 232 #[] os, gcode, pos_p3) := by
  rw [PySem.W.Fast.te10110043849684766642, PySem.W.Fast.te14364793385576792824]
  revert w
  refine byRow2 "special-get-raises" (P := fun w => PySem.W.Fast.tw10110043849684766642 PySem.W.Fast.tw14364793385576792824 pw w 11 gann 1 191 (gst (t_pre w.params) 15 187 #[] os) (piecesOf ((behindTheImports pw).take 4) genv gcode pos0 gB) = some (.next, gst (t_p3 w.params) 23 232 #[] os, gcode, pos_p3)) ?_ ?_
  · intro w; kernel_rfl
  · intro w; kernel_rfl
theorem hp_6 (w : World) (os : OsState) (x30 x35 x39 x40 x44 : Obj) : segRunT treeTable pw w 11 gann 1 11 (gst (t_p5 w.params x30 x35 x39 x40 x44) 45 380 #[.finished] os) (piecesOf (((behindTheImports pw).drop 6).take 1) genv gcode pos_p5 gB) =
    some (.next, gst (t_p6 w.params x30 x35 x39 x40 x44) 45 381 #[.finished] os, gcode, pos_p6) := by
  rw [PySem.W.Fast.te10110043849684766642, PySem.W.Fast.te14364793385576792824]
  kernel_rfl
noncomputable def hFin (P : Params) (x30 x35 x39 x40 x44 : Obj) : Heap := absHeap (t_p19 P x30 x35 x39 x40 x44) 129 {}
theorem hp_fin (w : World) (os : OsState) (x30 x35 x39 x40 x44 : Obj) : topRun treeTable pw w 11 gann 2 (gst (t_p19 w.params x30 x35 x39 x40 x44) 129 497 #[.finished] os).abs ⟨doneF .next, gcode, pos_p19, gB⟩ = some ⟨hFin w.params x30 x35 x39 x40 x44, #[.finished], {}, 497, os⟩ := by
  kernel_rfl
end Mine
end

section
set_option Elab.async false
set_option maxRecDepth 100000
set_option linter.unusedVariables false
namespace Mine
open PySem PySem.W PyProof.Rows
theorem body_cut : behindTheImports pw = (behindTheImports pw).take 4 ++ ((((behindTheImports pw).drop 4).take 1) ++ ((((behindTheImports pw).drop 5).take 1) ++ ((((behindTheImports pw).drop 6).take 1) ++ ((behindTheImports pw).drop 7 ++ [])))) := by
  kernel_rfl
noncomputable def sFin (P : Params) (os : OsState) (x30 x35 x39 x40 x44 : Obj) : Shared := ⟨hFin P x30 x35 x39 x40 x44, #[.finished], {}, 497, os⟩
theorem top_run (w : World) (os : OsState) : ∃ M, M ≤ 12000 ∧ ∃ x30 x35 x39 x40 es ep t, Inv es t (signs33.erase 9) ∧ topRun treeTable pw w 11 gann M ⟨boot_heap w.params, #[], boot_drawn, boot_toks, os⟩ (topStub pw) = some (sFin w.params os x30 x35 x39 x40 (setO es ep t)) := by
  obtain ⟨n4, hn4, x30, es, ep, t, I, h4⟩ := stmt4 w os
  obtain ⟨n5, hn5, x40, es', ep', t', I', h5⟩ := stmt5 w os x30 (oneO w.params (led0 w) 127 373) es ep t I
  refine ⟨12 + (1 + (191 + (n4 + (n5 + (11 + (528 + 2)))))), by omega, x30, oneO w.params (led0 w) 127 373, setO es ep t, x40, es', ep', t', I', ?_⟩
  refine go_top (hp_pre w os) ?_
  refine piece_block (hp_block w os) ?_
  rw [body_cut]
  refine piece_app (segRun_of (hp_03 w os)) ?_
  refine piece_app (segRun_of h4) ?_
  refine piece_app (segRun_of h5) ?_
  refine piece_app (segRun_of (hp_6 w os _ _ _ _ _)) ?_
  refine piece_app (segRun_of (hp_tail w os _ _ _ _ _)) ?_
  exact piece_nil (hp_fin w os _ _ _ _ _)
section
variable (w : World) (os : OsState) (x30 x35 x39 x40 x44 : Obj)
theorem lk1 : staticsOk (importedModules pw.main.body) (boot_heap w.params) (sFin w.params os x30 x35 x39 x40 x44).heap = true := by kernel_rfl
theorem lk2 : namesBound pw (sFin w.params os x30 x35 x39 x40 x44).heap = true := by kernel_rfl
theorem lk3 : gensDone (sFin w.params os x30 x35 x39 x40 x44) = true := by kernel_rfl
theorem lk4 : laidKept (boot_heap w.params) (sFin w.params os x30 x35 x39 x40 x44).heap = true := by kernel_rfl
theorem lk5 : seen ((recsOf q).map (·.name)) (ownsOf q) [] { sFin w.params os x30 x35 x39 x40 x44 with gens := #[] } = expectedOf q := by kernel_rfl
theorem lk6 : (sFin w.params os x30 x35 x39 x40 x44).heap.bltView = bltViewBooted := by kernel_rfl
theorem lk7 : (sFin w.params os x30 x35 x39 x40 x44).heap.keysOk (looseW q loose) ((recsOf q).map (·.name)) ((litsOf q).map (·.1)) ((clssOf q (looseW q loose)).map (·.name)) = true := by kernel_rfl
theorem lk8 : (sFin w.params os x30 x35 x39 x40 x44).heap.accountedOkI (importedModules pw.main.body) = true := by kernel_rfl
theorem lk9 : (sFin w.params os x30 x35 x39 x40 x44).heap.isNs mainGlobals = true := by kernel_rfl
theorem lk10 : (sFin w.params os x30 x35 x39 x40 x44).heap.isNs builtinsNs = true := by kernel_rfl
theorem lk11 : tablesOk q (sFin w.params os x30 x35 x39 x40 x44).heap = true := by kernel_rfl
theorem lk12 : Xt (sFin w.params os x30 x35 x39 x40 x44) = true := by kernel_rfl
theorem lk13 : tabsOk q (sFin w.params os x30 x35 x39 x40 x44) = true := by kernel_rfl
theorem lk14 : pinSeenD q (drecsOf q) (sFin w.params os x30 x35 x39 x40 x44) = pinGoodD (drecsOf q) := by kernel_rfl
theorem lk15 : plainSeenE q (looseW q loose) (sFin w.params os x30 x35 x39 x40 x44) = plainGoodE q (looseW q loose) := by kernel_rfl
theorem lk16 : plainSeenD q loose (sFin w.params os x30 x35 x39 x40 x44) = plainGoodD q loose := by kernel_rfl
theorem lk17 : wideSeen q (sFin w.params os x30 x35 x39 x40 x44) = wideGood q := by kernel_rfl
theorem lk18 : clsSeenW q loose (sFin w.params os x30 x35 x39 x40 x44) = clsGoodW q loose := by kernel_rfl
theorem lk19 : addrs.map (sFin w.params os x30 x35 x39 x40 x44).heap.get? = (K w.params).map fun p => some p.2 := by kernel_rfl
theorem lk20 (es : Array (Int × Value)) (ep : Nat) (t : SetTable) : (sFin w.params os x30 x35 x39 x40 (setO es ep t)).heap.get? 44 = some (setO es ep t) := by kernel_rfl
theorem lk21 : leftWithCleanup (sFin w.params os x30 x35 x39 x40 x44).gens = false := by kernel_rfl
theorem seen_ok : openSeen q loose (importedModules pw.main.body) Xt false (sFin w.params os x30 x35 x39 x40 x44) = openGood q loose := by
  unfold openSeen openGood
  rw [lk5, lk6, lk7, lk8, lk9, lk10, lk11, lk12, lk13, lk14, lk15, lk16, lk17, lk18, lk21]
  rfl
end
theorem ill_iff (c : Nat) : illegal c = true ↔ c ∈ signs33.erase 9 := by
  by_cases hc : c < 128
  · exact (by decide +kernel : ∀ c, c < 128 → (illegal c = true ↔ c ∈ signs33.erase 9)) c hc
  · have h1 : illegal c = false := by unfold illegal; simp; omega
    have h2 : c ∉ signs33.erase 9 := fun hm => hc ((by decide +kernel : ∀ c ∈ signs33.erase 9, c < 128) c hm)
    simp [h1, h2]
theorem set_fact {h : Heap} {es : Array (Int × Value)} {ep : Nat} {t : SetTable} (g : h.get? 44 = some (setO es ep t)) (I : Inv es t (signs33.erase 9)) : SetFact h := by
  refine ⟨es, ep, t, g, fun e he => ?_, fun c hc => ?_, I.fits, by rw [I.size]; decide⟩
  · obtain ⟨c, k, e2⟩ := I.one e he
    refine ⟨c, k, e2, (ill_iff c).mpr (I.perm.mem_iff.mp ?_)⟩
    have : cp e = c := by unfold cp; rw [e2]; rfl
    rw [← this]
    exact List.mem_map_of_mem he
  · obtain ⟨e, he, ec⟩ := List.mem_map.mp (I.perm.mem_iff.mpr ((ill_iff c).mp hc))
    obtain ⟨d, k, e2⟩ := I.one e he
    have : cp e = d := by unfold cp; rw [e2]; rfl
    exact ⟨e, he, k, by rw [e2, ← ec, this]⟩
theorem boot_ok (w : World) : (boot_heap w.params).isNs mainGlobals = true ∧ (boot_heap w.params).objs.size = 11 ∧ (boot_heap w.params).nsMap mainGlobals "__annotations__" = gann := by
  refine ⟨by kernel_rfl, by kernel_rfl, by kernel_rfl⟩
theorem opening_ok : opening pw = plainProg pw.main.scope.names := by kernel_rfl
theorem fence_ok (s : Shared) : fenceModules? pw s = some s := by kernel_rfl
theorem left : LeftO pw q loose Xt H.obs H.val 12000 false := fun w => by
  obtain ⟨⟨h, gs, d, k, os⟩, e, e'⟩ := Option.map_eq_some_iff.mp (boot_open (p := pw) (N := 12000) opening_ok (by decide) fence_ok w)
  obtain ⟨rfl, rfl, rfl, rfl⟩ : h = boot_heap w.params ∧ gs = #[] ∧ d = boot_drawn ∧ k = boot_toks := by simpa using e'
  obtain ⟨M, hM, x30, x35, x39, x40, es, ep, t, I, run⟩ := top_run w os
  obtain ⟨z1, z2, z3⟩ := boot_ok w
  have r := topRun_mono (12000 - M) _ _ _ _ run
  rw [show M + (12000 - M) = 12000 by omega] at r
  have t' : topFrom treeTable pw w 12000 ⟨boot_heap w.params, #[], boot_drawn, boot_toks, os⟩ = some (sFin w.params os x30 x35 x39 x40 (setO es ep t)) := by
    unfold topFrom
    dsimp only
    rw [z1, z2, z3, r]
    show (match staticsOk (importedModules pw.main.body) (boot_heap w.params) (sFin w.params os x30 x35 x39 x40 (setO es ep t)).heap && namesBound pw (sFin w.params os x30 x35 x39 x40 (setO es ep t)).heap && gensDone (sFin w.params os x30 x35 x39 x40 (setO es ep t)) && laidKept (boot_heap w.params) (sFin w.params os x30 x35 x39 x40 (setO es ep t)).heap with | true => _ | false => _) = _
    rw [lk1, lk2, lk3, lk4]
    rfl
  unfold openEnds
  rw [e]
  show (topFrom treeTable pw w 12000 _).map _ = _
  rw [t']
  refine congrArg some (Prod.ext (seen_ok w os x30 x35 x39 x40 (setO es ep t)) (Prod.ext (lk19 w os x30 x35 x39 x40 (setO es ep t)) ?_))
  exact eq_true (set_fact (lk20 w os x30 x35 x39 x40 es ep t) I)
end Mine
end

section
set_option Elab.async false
set_option maxRecDepth 100000
set_option linter.unusedVariables false
namespace Mine
open PySem PySem.W PyProof.Rows PyProof.Rows.TI
noncomputable abbrev prg : Program := PySem.Challenge.rw_oh0011_01.row.prog
noncomputable def Apart (news : List (Addr × Obj)) (L : Addr) (frs : List (Addr × Obj)) : Prop := ∀ p ∈ news, p.1 ∉ L :: frs.map (·.1)
/-- the names of the text's top -/
noncomputable def loose2 : List Str := [Str.ofString "COMPILER_FLAG_NAMES", Str.ofString "ASCII_CTRL", Str.ofString "ILLEGAL_BASIC_STR_CHARS", Str.ofString "ILLEGAL_COMMENT_CHARS", Str.ofString "pretty_flags", Str.ofString "skip_chars", Str.ofString "skip_until", Str.ofString "skip_comment", Str.ofString "suffixed_err", Str.ofString "_law_flags", Str.ofString "_law_head", Str.ofString "_law_wide", Str.ofString "_law_due", Str.ofString "_law_read", Str.ofString "_law_told", Str.ofString "law", Str.ofString "TOMLDecodeError"]
structure Base (w : World) (mean : ExcName → Option Value) (mg mb : Str → Option Value) (h₀ : Heap) : Prop where
  k : (K w.params).In h₀
  s : SetFact h₀
  t : Top topProg loose2 mean mg mb h₀
/-- a call of f by vs from any frame: it ends in a value and a ledger of which Post speaks -/
noncomputable def Spec (w : World) (h₀ : Heap) (f : Addr) (vs : List Value) (kw : List (Str × Value)) (D U : Nat) (news : List (Addr × Obj)) (Post : Value → List (Addr × Obj) → Prop) : Prop :=
  ∀ (dp un : Nat) (gd : Option (List Code)) (cn : Str) (cs : Scope) (a : Addr) (ccd : Value) (cl : List (Str × Addr)) (outer : List Env) (L : Addr) (m : Str → Option Value) (s : Shared) (frs : List (Addr × Obj)) (Q E : Value → Shared → Prop),
    cs.kind = .function → Fr h₀ L s.heap m → News h₀ L s.heap (news ++ frs) → Frs outer frs → Apart news L frs → dp + D < recursionLimit → un + U < cLine →
    (∀ v h' tk' news' frs', SameUp frs frs' → Frs outer frs' → Fr h₀ L h' m → News h₀ L h' (news' ++ frs') → Apart news' L frs' → Post v news' → Q v { s with heap := h', toks := tk' }) →
    wpAny (model prg w) (ktrTop dp un gd cn cs L a ccd cl outer) (call (.ref f) vs kw) Q E s
theorem sameUp_keys : ∀ {a b : List (Addr × Obj)}, SameUp a b → b.map (·.1) = a.map (·.1)
  | [], [], _ => rfl
  | _ :: _, _ :: _, ⟨h1, _, h3⟩ => by rw [List.map_cons, List.map_cons, h1, sameUp_keys h3]
  | [], _ :: _, h => h.elim
  | _ :: _, [], h => h.elim
theorem Apart.up {news frs frs' : List (Addr × Obj)} {L : Addr} (x : Apart news L frs) (h : SameUp frs frs') : Apart news L frs' := fun p hp => by rw [sameUp_keys h]; exact x p hp
noncomputable def retV : Flow → Value
  | .ret v => v
  | _ => .none
section
variable {w : World} {mean : ExcName → Option Value} {mg mb : Str → Option Value} {h₀ : Heap} {f : Addr} {vs : List Value} {kw : List (Str × Value)} {D U : Nat} {news : List (Addr × Obj)} {Post : Value → List (Addr × Obj) → Prop}
  {name qual : Str} {params : Arguments} {body : List Stmt} {scope : Scope} {dV kV doc pm cdv ct oc : Value} {an od : Option Addr} {osl : Array (Option Value)} {binds : List (Str × Value)}
theorem enter (B : Base w mean mg mb h₀) (ho : (K w.params).lookup f = some ⟨oc, od, .func (fnOf name qual params body scope dV kV doc pm an cdv ct), osl⟩) (hcd : codeIn (K w.params) cdv qual = true)
    (hbind : bindArgs (fnOf name qual params body scope dV kV doc pm an cdv ct) ⟨vs, kw⟩ = pure binds) (hloc : (binds.all fun x => decide (scope.names.lookup x.1 = some .local)) = true)
    (h : ∀ (dp un : Nat) (gd : Option (List Code)) (cn : Str) (cs : Scope) (L a : Addr) (ccd : Value) (cl : List (Str × Addr)) (outer : List Env) (L' : Addr) (s : Shared) (frs : List (Addr × Obj)) (Q : Value → Shared → Prop),
      Fr h₀ L' s.heap (fun y => binds.reverse.lookup y) → News h₀ L' s.heap (news ++ frs) → Frs (envX cn cs L a ccd cl :: outer) frs → Apart news L' frs → dp + D < recursionLimit → un + U < cLine →
      (∀ v h' tk' m' news' frs', SameUp frs frs' → Fr h₀ L' h' m' → News h₀ L' h' (news' ++ frs') → Apart news' L' frs' → Post v news' → Q v { s with heap := h', toks := tk' }) →
      wpAny (model prg w) ((ktrTop dp un gd cn cs L a ccd cl outer).deeper (envOf qual scope L' f cdv)) (execs body (envOf qual scope L' f cdv)) (fun fl s' => Q (retV fl) s') (fun _ _ => False) s)
    (hco : scope.isCoroutine = false := by rfl) (hgen : scope.isGenerator = false := by rfl) (hk : scope.kind = .function := by rfl) (hcell : ∀ x ∈ scope.names, x.2 ≠ .cell := by decide) : Spec w h₀ f vs kw D U news Post := by
  intro dp un gd cn cs a ccd cl outer L m s frs Q E hcs F N Fs ap hD hU ret
  have X := B.k.keeps F.keep
  obtain ⟨oL, es, ep, hL, hLd, hLk, hLf⟩ := F.ns
  have hLt := Heap.lt_size hL
  have hkm : (envX cn cs L a ccd cl).scope.kind ≠ .module := by
    show cs.kind ≠ .module
    rw [hcs]; decide
  refine wpAny_call (codeAny_call_def (fd := fnOf name qual params body scope dV kV doc pm an cdv ct) (body := body) (binds := binds) (Nat.lt_of_le_of_lt (Nat.le_add_right dp D) hD) (X _ _ ho) rfl (B.t.nolimit.keeps F.keep) (codeRec_of X hcd) rfl (BindsTo.of_eq hbind) hcell (locs hloc) (fun h₁ hns hk₁ => ?_) hco hgen hk)
  have F' : Fr h₀ s.heap.objs.size h₁ (fun y => binds.reverse.lookup y) := ⟨hns, fun b o e => hk₁ b o (F.keep b o e), Nat.le_trans F.above (Nat.le_of_lt hLt)⟩
  have ap' : Apart news s.heap.objs.size ((L, oL) :: frs) := fun p hp => by
    intro hm
    rcases List.mem_cons.mp hm with e | hm
    · have := Heap.lt_size (N p (List.mem_append_left _ hp)).1
      rw [e] at this; exact Nat.lt_irrefl _ this
    · exact ap p hp hm
  have N' : News h₀ s.heap.objs.size h₁ (news ++ (L, oL) :: frs) := fun p hp => by
    have main : ∀ p ∈ news ++ frs, h₁.get? p.1 = some p.2 ∧ p.1 ≠ s.heap.objs.size ∧ h₀.get? p.1 = none := fun p hp => by
      obtain ⟨x1, _, x3⟩ := N p hp
      exact ⟨hk₁ _ _ x1, Nat.ne_of_lt (Heap.lt_size x1), x3⟩
    rcases List.mem_append.mp hp with hp | hp
    · exact main p (List.mem_append_left _ hp)
    · rcases List.mem_cons.mp hp with rfl | hp
      · exact ⟨hk₁ _ _ hL, Nat.ne_of_lt hLt, Heap.get?_none_of_le F.above⟩
      · exact main p (List.mem_append_right _ hp)
  have Fs' : Frs (envX cn cs L a ccd cl :: outer) ((L, oL) :: frs) := ⟨hkm, rfl, ⟨es, ep, hLd⟩, Fs⟩
  refine wpAny_mono (h dp un gd cn cs L a ccd cl outer s.heap.objs.size { s with heap := h₁, toks := s.toks + binds.length } ((L, oL) :: frs) Q F' N' Fs' ap' hD hU fun v h' tk' m' news' frs' SU F₂ N₂ ap₂ P => ?_) (fun fl s' x => ?_) fun _ _ x => x.elim
  · cases frs' with
    | nil => exact SU.elim
    | cons qf frs₂ =>
      obtain ⟨q1, q2⟩ := qf
      obtain ⟨e1, ⟨sl, e2⟩, SU₂⟩ := SU
      dsimp only at e1 e2
      subst e1 e2
      have hq : q1 ∉ news'.map (·.1) := fun hm => by
        obtain ⟨p, hp, e⟩ := List.mem_map.mp hm
        exact ap₂ p hp (by rw [e]; exact .tail _ (.head _))
      have NL := N₂ (q1, { oL with slots := sl }) (List.mem_append_right _ (.head _))
      refine ret v h' tk' news' frs₂ SU₂ (Fs.up SU₂) ⟨⟨_, es, ep, NL.1, hLd, hLk, hLf⟩, F₂.keep, F.above⟩ (fun p hp => ?_) (fun p hp hm => ap₂ p hp (.tail _ hm)) P
      rcases List.mem_append.mp hp with hp | hp
      · obtain ⟨x1, _, x3⟩ := N₂ p (List.mem_append_left _ hp)
        exact ⟨x1, (fun e => hq (by rw [← e]; exact List.mem_map_of_mem hp)), x3⟩
      · obtain ⟨x1, _, x3⟩ := N₂ p (List.mem_append_right _ (.tail _ hp))
        refine ⟨x1, fun e => ?_, x3⟩
        have hm : p.1 ∈ frs.map (·.1) := by rw [← sameUp_keys SU₂]; exact List.mem_map_of_mem hp
        obtain ⟨p', hp', e'⟩ := List.mem_map.mp hm
        exact (N p' (List.mem_append_right _ hp')).2.1 (e'.trans e)
  · cases fl <;> exact x
end
end Mine
end

section
set_option Elab.async false
set_option maxRecDepth 100000
set_option linter.unusedVariables false
namespace Mine
open PySem PySem.W PyProof.Rows PyProof.Rows.TI PySem.Calls
section
variable {w : World} {mean : ExcName → Option Value} {mg mb : Str → Option Value} {A₀ : Around} {E : Value → Shared → Prop} {s' : Shared} {h₀ h : Heap} {L a e : Addr} {m : Str → Option Value} {name : Str} {scope : Scope} {cd : Value}
  {l : List Env} {news frs : List (Addr × Obj)} {b₀ : Stmt} {suite : List Stmt} {pos np : Pos} {rest : List ExceptHandler} {Q : Flow → Shared → Prop} {X : String} {x : Str}
theorem caught (T : Top topProg loose2 mean mg mb h₀) (hfr : A₀.frames = some l) (Fs : Frs l frs) (hx : Heap.NewExc h s'.heap e X) (F : Fr h₀ L h m) (N : News h₀ L h (news ++ frs)) (ap : Apart news L frs)
    (k : ∀ h' frs', SameUp frs frs' → Fr h₀ L h' m → News h₀ L h' (news ++ frs') → wpAny (model prg w) ((A₀.deeper (envOf name scope L a cd)).mark (some (.ref e))) (execs (b₀ :: suite) (envOf name scope L a cd)) Q E { s' with heap := h' })
    (t1 : x ∉ startupNames := by decide +kernel) (t2 : x ∉ loose2 := by decide +kernel) (t3 : x ∉ (recsOf topProg).map (·.name) := by decide +kernel) (t4 : x ∉ (litsOf topProg).map (·.1) := by decide +kernel) (t5 : x ∉ (clssOf topProg loose2).map (·.name) := by decide +kernel)
    (h3 : subB X (.type x.toString) = some true := by decide +kernel) (hv : bootBuiltins x = some (.type x.toString) := by decide +kernel) (h1 : subB x.toString (.type "BaseException") = some true := by decide +kernel)
    (h2 : subB ((Manifest.find? x.toString).elim "type" fun y => y.metatype) (.type "tuple") = some false := by decide +kernel) (hn : x ≠ "__name__" := by decide)
    (hk : scope.kind = .function := by rfl) (hxk : (envOf name scope L a cd).kindOf x = some .globalImplicit := by rfl) (hdb : (x == ("__debug__" : Str)) = false := by decide)
    (hE : PassesOwnAt (model prg w) ((A₀.deeper (envOf name scope L a cd)).mark (some (.ref e))) (A₀.deeper (envOf name scope L a cd)) (envOf name scope L a cd) E := by passes_own) :
    wpAny (model prg w) (A₀.deeper (envOf name scope L a cd)) (noteFrame (.ref e) (envOf name scope L a cd))
      (fun _ s₂ => wpAny (model prg w) (A₀.deeper (envOf name scope L a cd)) (setFlight (.ref e) none) (fun _ s₃ =>
        wpAny (model prg w) (A₀.deeper (envOf name scope L a cd)) (handleBy (.ref e) (envOf name scope L a cd) (.ExceptHandler (some (.Name x np)) none (b₀ :: suite) pos :: rest)) Q E s₃) E s₂) E s' :=
  TLg.noted_newA hfr Fs hx F N ap (fun h₁ frs₁ SU Fs₁ H => H.land fun h₂ H₂ =>
    TT.clause_hitTN (s' := { s' with heap := h₂ }) H₂ T t1 t2 t3 t4 t5 (fun h₃ F₃ N₃ => k h₃ frs₁ SU F₃ N₃) h3 hv h1 h2 hn hk hxk hdb hE) hk
end
end Mine
end

section
set_option Elab.async false
set_option maxRecDepth 100000
set_option linter.unusedVariables false
set_option maxHeartbeats 4000000
namespace Mine
open PySem PySem.W PyProof.Rows PyProof.Rows.TI PySem.Calls
theorem isStr_one {e : Value} {c d : Nat} {k : Tok} (h : e = .str ⟨#[c]⟩ k) : e.isStr ⟨#[d]⟩ = decide (d = c) := by
  subst h
  show ((⟨#[c]⟩ : Str) == ⟨#[d]⟩) = decide (d = c)
  by_cases q : d = c
  · subst q; simp
  · rw [decide_eq_false q]
    refine beq_eq_false_iff_ne.mpr fun z => q ?_
    have := congrArg Str.cps z
    simpa using this.symm
section
variable {w : World} {A : Around} {E : Value → Shared → Prop} {s : Shared} {c : Nat} {k : Tok}
theorem setFind_ill (S : SetFact s.heap) {hh : Int} {Q : Option Nat → Shared → Prop} (h : ∀ r : Option Nat, r.isSome = illegal c → Q r s) : wpAny (model prg w) A (setFind 44 (.str ⟨#[c]⟩ k) hh) Q E s := by
  obtain ⟨es, ep, t, ho, hel, hil, hf, hn⟩ := S
  unfold setFind setFindIn
  refine wpAny_bind (wpAny_setState_of ho rfl hf ?_)
  dsimp only
  have hscan : byScan (.str ⟨#[c]⟩ k) es = true := by
    unfold byScan
    simp only [Value.scannable, Bool.true_and, Bool.and_eq_true, decide_eq_true_eq]
    refine ⟨by rw [hn]; decide, ?_⟩
    rw [← Array.all_toList, List.all_eq_true]
    intro e he
    obtain ⟨d, kk, e2, _⟩ := hel e he
    simp only [e2]
  rw [hscan]
  simp only [↓reduceIte]
  refine wpAny_bind (wpAny_rule ?_)
  unfold setScan
  dsimp only
  have hex : (es.all fun e => isExactStrKey e.2) = true := by
    rw [← Array.all_toList, List.all_eq_true]
    intro e he
    obtain ⟨d, kk, e2, _⟩ := hel e he
    simp only [e2, isExactStrKey]
  rw [hex]
  simp only [↓reduceIte]
  unfold setScanStrs
  have hidx : es.findIdx? (fun e => e.2.isStr ⟨#[c]⟩) = es.toList.findIdx? (fun e => e.2.isStr ⟨#[c]⟩) := by cases es; simp
  rw [hidx]
  cases hr : es.toList.findIdx? (fun e => e.2.isStr ⟨#[c]⟩) with
  | none =>
    refine wpAny_bind (wpAny_pure (wpAny_pure (h none ?_)))
    rw [Option.isSome_none, eq_comm, ← Bool.not_eq_true]
    intro hi
    obtain ⟨e, he, kk, e2⟩ := hil c hi
    have := List.findIdx?_eq_none_iff.mp hr e he
    rw [isStr_one e2, decide_eq_true rfl] at this
    cases this
  | some j =>
    obtain ⟨hj, hpj, _⟩ := List.findIdx?_eq_some_iff_getElem.mp hr
    obtain ⟨d, kk, e2, hd⟩ := hel _ (List.getElem_mem hj)
    rw [isStr_one e2, decide_eq_true_eq] at hpj
    subst hpj
    have he : es[j]? = some (es.toList[j].1, .str ⟨#[c]⟩ kk) := by
      rw [← Array.getElem?_toList, List.getElem?_eq_getElem hj, ← e2]
    dsimp only
    rw [he]
    dsimp only
    refine wpAny_bind (wpAny_bind (wpAny_setEpoch_of ho rfl hf (wpAny_bind (wpAny_eqBool_str ?_))))
    simp only [Bool.false_and, Bool.false_eq_true, ↓reduceIte, decide_true]
    refine wpAny_bind (wpAny_setEpoch_of ho rfl hf ?_)
    simp only [bne_self_eq_false, Bool.false_eq_true, ↓reduceIte]
    exact wpAny_pure (wpAny_pure (h (some j) (by rw [hd]; rfl)))
theorem setContains_ill (S : SetFact s.heap) {Q : Bool → Shared → Prop} (h : Q (illegal c) { s with toks := s.toks + 1 }) : wpAny (model prg w) A (setContains 44 (.str ⟨#[c]⟩ k)) Q E s := by
  unfold setContains
  refine wpAny_holding (wpAny_bind (wpAny_pyHash_str ?_))
  refine wpAny_bind (setFind_ill (s := { s with toks := s.toks + 1 }) S fun r hr => wpAny_pure ?_)
  rw [hr]; exact h
theorem fType (S : SetFact s.heap) : s.TypeIs (.ref 44) "frozenset" := let ⟨_, _, _, ho, _⟩ := S; ⟨_, ho, rfl⟩
theorem contains_ill (S : SetFact s.heap) {Q : Bool → Shared → Prop} (h : Q (illegal c) { s with toks := s.toks + 1 }) : wpAny (model prg w) A (contains (.ref 44) (.str ⟨#[c]⟩ k)) Q E s := by
  have hT := fType S
  unfold contains
  try with_reducible refine wpAny_holding ?_
  refine wpAny_bind (wpAny_specialOf hT FB.slot_frozenset_contains.lookup ?_)
  show wpAny _ _ (if (some (Value.builtin "frozenset.__contains__") == some Value.none) = true then _ else _) _ E s
  rw [if_neg (by rw [beq_builtin_none]; exact Bool.false_ne_true)]
  refine wpAny_bind (wpAny_callSpecialUnlessNone?_slot (name := Str.ofString "__contains__") hT FB.slot_frozenset_contains
    (wpAny_call_entry FB.slot_frozenset_contains hT FB.entry_frozenset_contains ?_ (FB.args_frozenset_contains_2 _ _)))
  unfold Builtin.«frozenset.__contains__» Builtin.Frozenset.oneOther
  simp only [List.isEmpty_nil, bind_assoc]
  unfold Builtin.Frozenset.addrOf Builtin.Frozenset.withSetAsKey
  refine wpAny_bind (wpAny_pure ?_)
  try dsimp only
  refine wpAny_bind (wpAny_pure ?_)
  try dsimp only
  refine wpAny_bind (wpAny_tryCatch ?_)
  refine setContains_ill S ?_
  exact wpAny_pure ⟨_, rfl, wpAny_truthy_bool h⟩
theorem notin_ill (S : SetFact s.heap) {Q : Value → Shared → Prop} (h : Q (.bool (!illegal c)) { s with toks := s.toks + 1 }) : wpAny (model prg w) A (compareOp .NotIn (.str ⟨#[c]⟩ k) (.ref 44)) Q E s := by
  show wpAny _ _ (do return .bool (!(← contains (.ref 44) (.str ⟨#[c]⟩ k)))) Q E s
  exact wpAny_bind (contains_ill S (wpAny_pure h))
end
theorem slot_frozenset_isdisjoint : Slot "frozenset" "isdisjoint" "frozenset.isdisjoint" :=
  .of (owner := "frozenset") (n := "isdisjoint") (by rw [typeLookup_type, builtinLookup_eq_fast]; kernel_rfl) (by decide +kernel) (by decide +kernel) (by decide +kernel)
    (by first | exact .inl (by decide +kernel) | exact .inr (by decide +kernel)) (by rw [isSubtype_type]; kernel_rfl)
theorem type_frozenset_isdisjoint : typeOf (.builtin "frozenset.isdisjoint") = pure (.type "method_descriptor") := by show builtinType _ = _; rw [builtinType_eq_fast]; kernel_rfl
theorem entry_frozenset_isdisjoint : entryFor table "frozenset.isdisjoint" = some Builtin.«frozenset.isdisjoint» := entryFor_of_tree (by kernel_rfl)
theorem entry_frozenset_isdisjoint_loop : entryFor table "frozenset.isdisjoint.loop" = some Builtin.«frozenset.isdisjoint.loop» := entryFor_of_tree (by kernel_rfl)
theorem args_frozenset_isdisjoint_2 (a b : Value) : argsOk "frozenset.isdisjoint" ⟨[a, b], []⟩ := by
  unfold argsOk; rw [signature?_of (id := "frozenset.isdisjoint") (n := ['t', 'n', 'i', 'o', 'j', 's', 'i', 'd', 's', 'i']) (o := ['t', 'e', 's', 'n', 'e', 'z', 'o', 'r', 'f']) (by kernel_rfl) FB.owner_frozenset]; kernel_rfl
theorem plainAttrs_frozenset : PlainAttrs "frozenset" :=
  ⟨⟨"object.__getattribute__", by rw [typeLookup_type, builtinLookup_eq_fast]; kernel_rfl, by decide +kernel⟩, by rw [typeLookup_type, builtinLookup_eq_fast]; kernel_rfl⟩
theorem grow_fr {h₀ h h' : Heap} {L : Addr} {m : Str → Option Value} (F : Fr h₀ L h m) (k : ∀ b o, h.get? b = some o → h'.get? b = some o) : Fr h₀ L h' m := by
  obtain ⟨oL, es, ep, hL, r⟩ := F.ns
  exact ⟨⟨oL, es, ep, k _ _ hL, r⟩, fun b o e => k _ _ (F.keep b o e), F.above⟩
theorem grow_nw {h₀ h h' : Heap} {L : Addr} {news : List (Addr × Obj)} (N : News h₀ L h news) (k : ∀ b o, h.get? b = some o → h'.get? b = some o) : News h₀ L h' news :=
  fun p hp => ⟨k _ _ (N p hp).1, (N p hp).2⟩
theorem den_builtin {id : String} {args : Args} {b : Builtin} (hb : entryFor table id = some b) : denote table (.builtin id args) = b args := by
  show (match entryFor table id with | some b => b args | none => unsupported ((withoutEnding? id "#data").getD id)) = _
  rw [hb]
theorem call_again {w : World} {A : Around} {E : Value → Shared → Prop} {s : Shared} {T : String} {name : Str} {id : String} {b : Builtin} {self : Value} {rest : List Value} {Q : Value → Shared → Prop} (h : Slot T name id) (hT : s.TypeIs self T)
    (hb : entryFor table id = some b)
    (hc : wpAny (model prg w) A.in1 (b ⟨self :: rest, []⟩) (fun fin s' => ∃ c, fin = .again c ∧ c.quiet = true ∧ codeAny (model prg w) A c (fun r s'' => match r with | .ok (.ret v) => Q v s'' | .ok _ => False | .error e => E e s'') s') E s)
    (ha : argsOk id ⟨self :: rest, []⟩) : wpAny (model prg w) A (call (.builtin id) (self :: rest)) Q E s := by
  refine wpAny_call (codeAny_call_builtin h.plain hb (h.check _ _ _ _ _ _ _ _ hT ha (wpAny_mono hc (fun fin s' h' => ?_) fun _ _ h' => h')))
  obtain ⟨c, rfl, hq, hv⟩ := h'
  exact ⟨hq, hv⟩
section
variable {w : World} {A : Around} {E : Value → Shared → Prop} {s : Shared} {y : Str} {k : Tok}
theorem getMethod_isdisjoint {pl : Sem Bool} {Q : Value × List Value → Shared → Prop} (S : SetFact s.heap) (h : Q (.builtin "frozenset.isdisjoint", [.ref 44]) s) : wpAny (model prg w) A (getMethod (.ref 44) (Str.ofString "isdisjoint") pl) Q E s :=
  getMethod_builtin (fType S) plainAttrs_frozenset slot_frozenset_isdisjoint type_frozenset_isdisjoint (fun b e => by injection e with e; subst e; exact let ⟨_, _, _, ho, _⟩ := S; ⟨_, ho, rfl⟩) h
theorem isdisjoint_ill (S : SetFact s.heap) (hh : A.handled = none) {Q : Value → Shared → Prop}
    (h : ∀ h' tk, (∀ b o, s.heap.get? b = some o → h'.get? b = some o) → Q (.bool (y.cps.toList.all fun c => !illegal c)) { s with heap := h', toks := tk }) :
    wpAny (model prg w) A (call (.builtin "frozenset.isdisjoint") [.ref 44, .str y k]) Q E s := by
  refine call_again slot_frozenset_isdisjoint (fType S) entry_frozenset_isdisjoint ?_ (args_frozenset_isdisjoint_2 _ _)
  unfold Builtin.«frozenset.isdisjoint» Builtin.Frozenset.oneOther
  simp only [List.isEmpty_nil, bind_assoc]
  unfold Builtin.Frozenset.addrOf
  refine wpAny_bind (wpAny_pure ?_)
  try dsimp only
  refine wpAny_bind (wpAny_pure ?_)
  show wpAny _ _ (if (Value.str y k == Value.ref 44) = true then _ else _) _ _ _
  rw [if_neg (show ¬ ((Value.str y k == Value.ref 44) = true) from by simp)]
  refine wpAny_bind (m := typeOf (.str y k)) (wpAny_of_eq (a := Value.type "str") rfl ?_)
  show wpAny _ _ (if (Value.type "str" == Value.type "set" || Value.type "str" == Value.type "frozenset") = true then _ else _) _ _ _
  rw [if_neg (by decide)]
  refine wpAny_bind (wpAny_pyIter_str fun o St W st0 => wpAny_pure ⟨_, rfl, plainId_quiet (by decide +kernel) _, ?_⟩)
  have keep0 : ∀ b o', s.heap.get? b = some o' → (s.heap.push o).get? b = some o' := fun b o' e => Heap.get?_push_of_some _ e
  refine codeAny_loop (plainId_quiet (by decide +kernel) _) (fun n s' => ∃ i h' tk, n + i = y.cps.size ∧ s' = { s with heap := h', toks := tk } ∧ St i h' ∧ (∀ b o, s.heap.get? b = some o → h'.get? b = some o) ∧ (∀ j < i, ∀ c, y.cps[j]? = some c → illegal c = false)) ?_ y.cps.size
    ⟨0, _, s.toks, rfl, rfl, st0, keep0, fun j hj => absurd hj (Nat.not_lt_zero _)⟩
  rintro n s' ⟨i, h', tk, hn, rfl, st, kp, hno⟩
  show wpAny _ _ (denote table (.builtin "frozenset.isdisjoint.loop" ⟨[.ref 44, .ref s.heap.objs.size], []⟩)) _ _ _
  rw [den_builtin entry_frozenset_isdisjoint_loop]
  unfold Builtin.«frozenset.isdisjoint.loop»
  dsimp only
  have hA : (A.under (.builtin "frozenset.isdisjoint.loop" ⟨[.ref 44, .ref s.heap.objs.size], []⟩)).handled = none := hh
  by_cases hi : i < y.cps.size
  · refine wpAny_bind ((W _ hA).item i { s with heap := h', toks := tk } _ _ hi st fun v h₂ tk₂ sg st₂ kp₂ => ?_)
    obtain ⟨c, u, hc, rfl⟩ := sg
    have kp' : ∀ b o', s.heap.get? b = some o' → h₂.get? b = some o' := fun b o' e => kp₂ b o' (fun hm => by
      rw [List.mem_singleton] at hm
      subst hm
      exact absurd (Heap.lt_size e) (Nat.lt_irrefl _)) (kp b o' e)
    refine wpAny_bind (wpAny_holding (setContains_ill (s := { s with heap := h₂, toks := tk₂ }) (S.keeps kp') ?_))
    cases hil : illegal c with
    | true =>
      rw [if_pos rfl]
      refine wpAny_pure ?_
      have e : (y.cps.toList.all fun c => !illegal c) = false := by
        rw [List.all_eq_false]
        exact ⟨c, List.mem_of_getElem? (by rw [Array.getElem?_toList]; exact hc), by rw [hil]; decide⟩
      have := h h₂ (tk₂ + 1) kp'
      rw [e] at this
      exact this
    | false =>
      rw [if_neg (by decide)]
      refine wpAny_pure ⟨rfl, n - 1, by omega, i + 1, h₂, tk₂ + 1, by omega, rfl, st₂, kp', fun j hj c' hc' => ?_⟩
      by_cases hji : j = i
      · subst hji; rw [hc] at hc'; cases hc'; exact hil
      · exact hno j (by omega) c' hc'
  · have hie : i = y.cps.size := by omega
    subst hie
    refine wpAny_bind ((W _ hA).done { s with heap := h', toks := tk } _ _ st fun h₂ tk₂ kp₂ => ?_)
    refine wpAny_pure ?_
    have e : (y.cps.toList.all fun c => !illegal c) = true := by
      rw [List.all_eq_true]
      intro c hc
      obtain ⟨j, hj⟩ := List.getElem?_of_mem hc
      rw [Array.getElem?_toList] at hj
      rw [hno j (Array.getElem?_eq_some_iff.mp hj).1 c hj]; rfl
    have := h h₂ tk₂ fun b o' e' => kp₂ b o' (fun hm => by
      rw [List.mem_singleton] at hm
      subst hm
      exact absurd (Heap.lt_size e') (Nat.lt_irrefl _)) (kp b o' e')
    rw [e] at this
    exact this
end
end Mine
end

section
set_option Elab.async false
set_option maxRecDepth 100000
set_option linter.unusedVariables false
namespace Mine
open PySem PySem.W PyProof.Rows PyProof.Rows.TI PySem.Calls PySem.Builtin PySem.Builtin.Str
theorem gives_index3 (x y : Str) (i : Int) (t u v : Tok) {k : Nat} {r : List Nat} (h : occurrences x y (fromIndex x.length i) x.length 1 = k :: r) : Gives («str.index» ⟨[.str x t, .str y u, .int i v], []⟩) (.int k) := by
  show Gives (match occurrences x y (fromIndex x.length i) (min x.length x.length) 1 with | k :: _ => retInt k | [] => (do rule "str.index.not-found"; raiseError "ValueError" "substring not found")) _
  rw [Nat.min_self, h]
  exact .of_eq rfl
theorem raises_index3 (x y : Str) (i : Int) (t u v : Tok) (h : occurrences x y (fromIndex x.length i) x.length 1 = []) : Meets («str.index» ⟨[.str x t, .str y u, .int i v], []⟩) (raisesNew "ValueError") := by
  intro prog w A R s hS
  show wpAny _ _ (match occurrences x y (fromIndex x.length i) (min x.length x.length) 1 with | i :: _ => retInt i | [] => _) _ _ s
  rw [Nat.min_self, h]
  first
    | exact wpAny_bind (wpAny_rule (by exact_raiseError plainExc_ValueError hS.1 hS.2))
    | exact wpAny_bind (wpAny_rule (wpAny_bind (by exact_raiseError plainExc_ValueError hS.1 hS.2)))
section
variable {w : World} {A : Around} {E : Value → Shared → Prop} {s : Shared} {x y : Str} {t u v v' : Tok} {i j : Int} {Q : Value → Shared → Prop}
theorem index3_or (hA : A.handled = none)
    (h0 : Txt.find3 x y i = -1 → ∀ h' tk e, Heap.NewExc s.heap h' e "ValueError" → E (.ref e) { s with heap := h', toks := tk })
    (h1 : 0 ≤ Txt.find3 x y i → Q (.int (Txt.find3 x y i) s.toks) { s with toks := s.toks + 1 }) :
    wpAny (model prg w) A (call (.builtin "str.index") [.str x t, .str y u, .int i v]) Q E s := by
  cases ho : occurrences x y (fromIndex x.length i) x.length 1 with
  | nil =>
    have e : Txt.find3 x y i = -1 := by simp [Txt.find3, ho]
    exact call_meets F.slot_str_index (typeIs_str _ _ _) F.entry_str_index (F.args_str_index_3 _ _ _) (raises_index3 x y i t u v ho) ⟨hA, h0 e⟩
  | cons k r =>
    have e : Txt.find3 x y i = (k : Int) := by simp [Txt.find3, ho]
    refine call_gives F.slot_str_index (typeIs_str _ _ _) F.entry_str_index (F.args_str_index_3 _ _ _) (gives_index3 x y i t u v ho) ?_
    have h := h1 (by rw [e]; exact Int.natCast_nonneg k)
    rw [e] at h
    exact h
end
end Mine
end

section
set_option Elab.async false
set_option maxRecDepth 100000
set_option linter.unusedVariables false
namespace Mine
open PySem PySem.W PyProof.Rows PyProof.Rows.TI PySem.Calls
noncomputable def Turned (s : Shared) (h₀ : Heap) (L I : Addr) (oI : Obj) (J : (Str → Option Value) → List (Addr × Obj) → Prop) (s₃ : Shared) : Prop :=
  ∃ h' tk m₂ nws₂, s₃ = { s with heap := h', toks := tk } ∧ Fr h₀ L h' m₂ ∧ News h₀ L h' ((I, oI) :: nws₂) ∧ (∀ p ∈ nws₂, p.1 ≠ I) ∧ J m₂ nws₂
section
variable {w : World} {A : Around} {E : Value → Shared → Prop} {s : Shared} {h₀ : Heap} {L a I : Addr} {m : Str → Option Value} {name : Str} {scope : Scope} {cd : Value} {nws : List (Addr × Obj)} {Q : Flow → Shared → Prop}
  {x : Str} {px : Pos} {body orelse : List Stmt} {n : Nat} {P : Nat → Value → Prop} {St : Nat → Heap → Prop}
theorem loop1 (W : Walks prg w A I [I] [I] n P St) (hSt : ∀ i h, St i h → ∃ o, h.get? I = some o) (J : Nat → (Str → Option Value) → List (Addr × Obj) → Prop)
    (F : Fr h₀ L s.heap m) (N : News h₀ L s.heap nws) (hIL : I ≠ L) (hI0 : h₀.get? I = none) (hIn : ∀ p ∈ nws, p.1 ≠ I) (st : St 0 s.heap) (hJ : J 0 m nws)
    (turn : ∀ i v m₁ nws₁ h₁ tk₁ oI, i < n → P i v → J i m₁ nws₁ → Fr h₀ L h₁ (fun y => if y = x then some v else m₁ y) → News h₀ L h₁ ((I, oI) :: nws₁) → (∀ p ∈ nws₁, p.1 ≠ I) →
      wpAny (model prg w) A (execs body (envOf name scope L a cd)) (fun f s₃ => match f with
        | .next | .cont => Turned s h₀ L I oI (J (i + 1)) s₃
        | .brk => Q .next s₃
        | .ret v => Q (.ret v) s₃) E { s with heap := h₁, toks := tk₁ })
    (els : ∀ m₁ nws₁ h₁ tk₁, J n m₁ nws₁ → Fr h₀ L h₁ m₁ → News h₀ L h₁ nws₁ → wpAny (model prg w) A (execs orelse (envOf name scope L a cd)) Q E { s with heap := h₁, toks := tk₁ })
    (hE : PassesOwn (model prg w) A (envOf name scope L a cd) E) (hk : scope.kind = .function := by rfl) (hl : (envOf name scope L a cd).kindOf x = some .local := by rfl) :
    codeAny (model prg w) A (.forLoop (.Name x px) (.ref I) body orelse (envOf name scope L a cd)) (fun r s' => match r with | .ok f => Q f s' | .error e => cameBackBy (model prg w) A (envOf name scope L a cd) E e s') s := by
  refine codeAny_forLoop (fun k s' => ∃ i h tk m₁ nws₁, k + i = n ∧ s' = { s with heap := h, toks := tk } ∧ Fr h₀ L h m₁ ∧ News h₀ L h nws₁ ∧ (∀ p ∈ nws₁, p.1 ≠ I) ∧ St i h ∧ J i m₁ nws₁) ?_ n ⟨0, s.heap, s.toks, m, nws, rfl, rfl, F, N, hIn, st, hJ⟩
  rintro k s' ⟨i, h, tk, m₁, nws₁, hk', rfl, F₁, N₁, hI₁, st₁, J₁⟩
  have move : ∀ {h'' : Heap}, (∀ b o, b ∉ [I] → h.get? b = some o → h''.get? b = some o) → Fr h₀ L h'' m₁ ∧ News h₀ L h'' nws₁ := fun {h''} kp => by
    obtain ⟨oL, es, ep, hL, r⟩ := F₁.ns
    refine ⟨⟨⟨oL, es, ep, kp _ _ (fun hm => hIL (List.mem_singleton.mp hm).symm) hL, r⟩, fun b o e => kp b o (fun hm => by rw [List.mem_singleton.mp hm, hI0] at e; cases e) (F₁.keep b o e), F₁.above⟩, fun p hp => ?_⟩
    exact ⟨kp _ _ (fun hm => hI₁ p hp (List.mem_singleton.mp hm)) (N₁ p hp).1, (N₁ p hp).2⟩
  by_cases hi : i < n
  · refine W.item i _ _ _ hi st₁ fun v h₂ tk₂ hv st₂ kp => ?_
    obtain ⟨F₂, N₂⟩ := move kp
    obtain ⟨oI, hoI⟩ := hSt _ _ st₂
    have N₃ : News h₀ L h₂ ((I, oI) :: nws₁) := fun p hp => by
      rcases List.mem_cons.mp hp with rfl | hp
      · exact ⟨hoI, hIL, hI0⟩
      · exact N₂ p hp
    refine wpAny_assign_Name (stN (s := { s with heap := h₂, toks := tk₂ }) F₂ N₃ (fun h₄ F₄ N₄ => ?_) hk hl)
    refine wpAny_passesOwn hE (wpAny_mono (turn i v m₁ nws₁ h₄ _ oI hi hv J₁ F₄ N₄ hI₁) (fun f s₃ h₃ => ?_) fun _ _ e => e)
    have fin : (∃ h' tk m₂ nws₂, s₃ = { s with heap := h', toks := tk } ∧ Fr h₀ L h' m₂ ∧ News h₀ L h' ((I, oI) :: nws₂) ∧ (∀ p ∈ nws₂, p.1 ≠ I) ∧ J (i + 1) m₂ nws₂) →
        ∃ m, m < k ∧ ∃ i h tk m₁ nws₁, m + i = n ∧ s₃ = { s with heap := h, toks := tk } ∧ Fr h₀ L h m₁ ∧ News h₀ L h nws₁ ∧ (∀ p ∈ nws₁, p.1 ≠ I) ∧ St i h ∧ J i m₁ nws₁ := by
      rintro ⟨h', tk', m₂, nws₂, e, F', N', hI', J'⟩
      refine ⟨k - 1, by omega, i + 1, h', tk', m₂, nws₂, by omega, e, F', fun p hp => N' p (.tail _ hp), hI', ?_, J'⟩
      refine W.frame _ _ _ st₂ fun b hb o ho => ?_
      rw [List.mem_singleton.mp hb, hoI] at ho
      cases ho
      rw [List.mem_singleton.mp hb]
      exact (N' (I, oI) (.head _)).1
    cases f with
    | next => exact fin h₃
    | cont => exact fin h₃
    | brk => exact h₃
    | ret v => exact h₃
  · obtain rfl : i = n := by omega
    refine W.done _ _ _ st₁ fun h₂ tk₂ kp => ?_
    obtain ⟨F₂, N₂⟩ := move kp
    exact wpAny_passesOwn hE (els m₁ nws₁ h₂ tk₂ J₁ F₂ N₂)
/-- a for over a range of the ledger, from nought on by ones -/
theorem for_range {r : Addr} {t u v : Tok} (J : Nat → (Str → Option Value) → List (Addr × Obj) → Prop) (hh : A.handled = none) (F : Fr h₀ L s.heap m) (N : News h₀ L s.heap nws)
    (hr : IsRange s.heap r 0 n 1 t u v) (hn : n < 2 ^ 30) (hJ : J 0 m nws)
    (turn : ∀ i t' m₁ nws₁ h₁ tk₁ I oI, i < n → J i m₁ nws₁ → Fr h₀ L h₁ (fun y => if y = x then some (.int i t') else m₁ y) → News h₀ L h₁ ((I, oI) :: nws₁) → (∀ p ∈ nws₁, p.1 ≠ I) →
      wpAny (model prg w) A (execs body (envOf name scope L a cd)) (fun f s₃ => match f with
        | .next | .cont => Turned s h₀ L I oI (J (i + 1)) s₃
        | .brk => Q .next s₃
        | .ret v => Q (.ret v) s₃) E { s with heap := h₁, toks := tk₁ })
    (els : ∀ m₁ nws₁ h₁ tk₁, J n m₁ nws₁ → Fr h₀ L h₁ m₁ → News h₀ L h₁ nws₁ → wpAny (model prg w) A (execs orelse (envOf name scope L a cd)) Q E { s with heap := h₁, toks := tk₁ })
    (hE : PassesOwn (model prg w) A (envOf name scope L a cd) E) (hk : scope.kind = .function := by rfl) (hl : (envOf name scope L a cd).kindOf x = some .local := by rfl) :
    wpAny (model prg w) A (pyIter (.ref r)) (fun it s₂ => codeAny (model prg w) A (.forLoop (.Name x px) it body orelse (envOf name scope L a cd)) (fun r s' => match r with | .ok f => Q f s' | .error e => cameBackBy (model prg w) A (envOf name scope L a cd) E e s') s₂) E s := by
  have e1 : Builtin.Range.rangeSize 0 n 1 = n := by
    unfold Builtin.Range.rangeSize
    simp
    omega
  have hsm : Builtin.Range.small 0 n 1 = true := by
    unfold Builtin.Range.small
    rw [e1]
    simp [Builtin.Range.rangeFitsLong]
    omega
  refine wpAny_pyIter_range hr hsm ?_
  rw [e1]
  have W := Walks.range (prog := prg) (w := w) hh s.heap.objs.size 0 1 n
  have fresh : ∀ {b : Addr} {o : Obj}, s.heap.get? b = some o → b ≠ s.heap.objs.size := fun h => Nat.ne_of_lt (Heap.lt_size h)
  obtain ⟨oL, es, ep, hL, rr⟩ := F.ns
  refine loop1 W (fun i h st => ⟨_, st⟩) J (F.push _) (fun p hp => ⟨Heap.get?_push_of_some _ (N p hp).1, (N p hp).2⟩) (fun e => fresh hL e.symm) ?_ (fun p hp => fresh (N p hp).1) ?_ hJ ?_ els hE hk hl
  · cases hq : h₀.get? s.heap.objs.size with
    | none => rfl
    | some o => exact absurd rfl (fresh (F.keep _ _ hq))
  · show IsRangeIter _ _ _ _ _
    simpa using (Heap.get?_push_size s.heap (o := { cls := .type "range_iterator", data := .fields #[rawInt 0, rawInt n, rawInt 1] }) rfl)
  · rintro i v m₁ nws₁ h₁ tk₁ oI hi ⟨t', rfl⟩ J₁ F₁ N₁ hI₁
    have := turn i t' m₁ nws₁ h₁ tk₁ _ oI hi J₁ (by simpa using F₁) N₁ hI₁
    exact this
end
end Mine
end

section
set_option Elab.async false
set_option maxRecDepth 100000
set_option linter.unusedVariables false
namespace Mine
open PySem PySem.W PyProof.Rows PyProof.Rows.TI
noncomputable def bit (f : Int) (k : Nat) : Bool := decide (f / 2 ^ k % 2 = 1)
noncomputable def cur (f : Int) (k : Nat) : Int := f / 2 ^ k * 2 ^ k
noncomputable def hexS (i : Int) : Str := PySem.baseText "0x" 16 i
noncomputable def nmS : List Str := [Str.ofString "OPTIMIZED", Str.ofString "NEWLOCALS", Str.ofString "VARARGS", Str.ofString "VARKEYWORDS", Str.ofString "NESTED", Str.ofString "GENERATOR", Str.ofString "NOFREE", Str.ofString "COROUTINE", Str.ofString "ITERABLE_COROUTINE", Str.ofString "ASYNC_GENERATOR"]
noncomputable def wd (k : Nat) : Str := (nmS[k]?).getD (hexS (2 ^ k))
noncomputable def wordsTo (f : Int) (n : Nat) : List Str := ((List.range n).filter (bit f)).map wd
noncomputable def words (f : Int) : List Str := wordsTo f 32 ++ if cur f 32 ≠ 0 ∨ f = 0 then [hexS (cur f 32)] else []
theorem cur0 (f : Int) : cur f 0 = f := by simp [cur]
theorem pw2 (k : Nat) : (0 : Int) < 2 ^ k := kbt_pos k
theorem cur_div (f : Int) (k : Nat) : cur f k / 2 ^ k = f / 2 ^ k := Int.mul_ediv_cancel _ (Int.ne_of_gt (pw2 k))
theorem cur_succ (f : Int) (k : Nat) : cur f (k + 1) = (f / 2 ^ k - f / 2 ^ k % 2) * 2 ^ k := by
  have e : f / 2 ^ (k + 1) = f / 2 ^ k / 2 := by rw [Int.pow_succ, ← Int.ediv_ediv_of_nonneg (Int.le_of_lt (pw2 k))]
  unfold cur
  rw [e, Int.pow_succ, Int.mul_comm (2 ^ k) 2, ← Int.mul_assoc]
  congr 1
  omega
theorem bit_mod {f : Int} {k : Nat} (h : bit f k = true) : f / 2 ^ k % 2 = 1 := of_decide_eq_true h
theorem bit_mod0 {f : Int} {k : Nat} (h : bit f k = false) : f / 2 ^ k % 2 = 0 := by
  have := of_decide_eq_false h
  omega
theorem cur_and (f : Int) (k : Nat) : Builtin.bitAnd (cur f k) (2 ^ k) = if bit f k then 2 ^ k else 0 := by
  rw [kbt_bit, cur_div]
  cases h : bit f k
  · rw [bit_mod0 h]; simp
  · rw [bit_mod h]; simp
theorem cur_xor {f : Int} {k : Nat} (h : bit f k = true) : Builtin.bitXor (cur f k) (2 ^ k) = cur f (k + 1) := by
  rw [bitXor_and, cur_and, h, cur_succ, bit_mod h, if_pos rfl, Int.sub_mul]
  unfold cur
  omega
theorem cur_keep {f : Int} {k : Nat} (h : bit f k = false) : cur f (k + 1) = cur f k := by
  rw [cur_succ, bit_mod0 h, Int.sub_zero]; rfl
theorem wordsTo_yes {f : Int} {k : Nat} (h : bit f k = true) : wordsTo f (k + 1) = wordsTo f k ++ [wd k] := by
  unfold wordsTo
  rw [List.range_succ, List.filter_append, List.map_append, List.filter_cons, h]; rfl
theorem wordsTo_no {f : Int} {k : Nat} (h : bit f k = false) : wordsTo f (k + 1) = wordsTo f k := by
  unfold wordsTo
  rw [List.range_succ, List.filter_append, List.filter_cons, h]; simp
theorem cur_zero {f : Int} {k : Nat} (h : cur f k = 0) : ∀ j, cur f (k + j) = 0 ∧ wordsTo f (k + j) = wordsTo f k
  | 0 => ⟨h, rfl⟩
  | j + 1 => by
    obtain ⟨h1, h2⟩ := cur_zero h j
    have hb : bit f (k + j) = false := by
      have h0 : f / 2 ^ (k + j) = 0 := by
        rcases Int.mul_eq_zero.mp h1 with h | h
        · exact h
        · exact absurd h (Int.ne_of_gt (pw2 _))
      unfold bit
      rw [h0]; rfl
    exact ⟨(cur_keep hb).trans h1, (wordsTo_no hb).trans h2⟩
theorem words_break {f : Int} {k : Nat} (hk : k ≤ 32) (h : cur f k = 0) (hf : f ≠ 0) : words f = wordsTo f k := by
  obtain ⟨h1, h2⟩ := cur_zero h (32 - k)
  rw [show k + (32 - k) = 32 by omega] at h1 h2
  unfold words
  rw [h2, if_neg (by rw [h1]; simp [hf]), List.append_nil]
theorem words_end {f : Int} (h : cur f 32 = 0 → f = 0) : words f = wordsTo f 32 ++ [hexS (cur f 32)] := by
  unfold words
  rw [if_pos]
  by_cases h0 : cur f 32 = 0
  · exact .inr (h h0)
  · exact .inl h0
theorem hexlen1 : ∀ i < 32, (hexS (2 ^ i)).length ≤ 18 := by decide +kernel
theorem hexlen2 : ∀ r : Nat, r < 33 → (hexS (((r : Int) - 16) * 2 ^ 32)).length ≤ 18 := by decide +kernel
theorem wdlen : ∀ i < 32, (wd i).length ≤ 18 := by decide +kernel
theorem rest_range {f : Int} (h1 : -2 ^ 36 < f) (h2 : f < 2 ^ 36) : -16 ≤ f / 2 ^ 32 ∧ f / 2 ^ 32 ≤ 15 := by omega
theorem hexlenR {f : Int} (h1 : -2 ^ 36 < f) (h2 : f < 2 ^ 36) : (hexS (cur f 32)).length ≤ 18 := by
  have h := rest_range h1 h2
  have := hexlen2 (f / 2 ^ 32 + 16).toNat (by omega)
  have e : (((f / 2 ^ 32 + 16).toNat : Nat) : Int) - 16 = f / 2 ^ 32 := by omega
  rw [e] at this
  exact this
theorem sum_le {l : List Str} (h : ∀ x ∈ l, x.length ≤ 18) : (l.map (·.length)).sum ≤ 18 * l.length := by
  induction l with
  | nil => exact Nat.le_refl _
  | cons a r ih =>
    have h1 := h a (.head _)
    have h2 := ih fun x hx => h x (.tail _ hx)
    simp only [List.map_cons, List.sum_cons, List.length_cons]
    omega
theorem words_small {f : Int} (h1 : -2 ^ 36 < f) (h2 : f < 2 ^ 36) : (∀ x ∈ words f, x.length ≤ 18) ∧ (words f).length ≤ 33 := by
  have hw : (wordsTo f 32).length ≤ 32 := by
    unfold wordsTo
    rw [List.length_map]
    exact Nat.le_trans (List.length_filter_le _ _) (by simp)
  refine ⟨fun x hx => ?_, ?_⟩
  · rcases List.mem_append.mp hx with hx | hx
    · obtain ⟨k, hk, rfl⟩ := List.mem_map.mp hx
      exact wdlen k (List.mem_range.mp (List.mem_filter.mp hk).1)
    · split at hx
      · rw [List.mem_singleton.mp hx]; exact hexlenR h1 h2
      · cases hx
  · unfold words
    rw [List.length_append]
    split <;> simp <;> omega
end Mine
end

section
set_option Elab.async false
set_option maxRecDepth 100000
set_option maxHeartbeats 1000000
set_option linter.unusedVariables false
namespace Mine
open PySem PySem.W PyProof.Rows PyProof.Rows.TI PyProof.V
theorem fillK4 : PySem.Challenge.rw_oh0011_01 = PySem.Challenge.rw_oh0011_01 ∧ K = K := by
  k_with_none
  k_fill
  exact ⟨rfl, rfl⟩
set_option pp.deepTerms false
set_option pp.maxSteps 600
theorem fr_pin {h₀ h : Heap} {L : Addr} {m : Str → Option Value} {x : Str} {v : Value} (F : Fr h₀ L h m) (e : m x = some v) : Fr h₀ L h (fun y => if y = x then some v else m y) := by
  have : (fun y => if y = x then some v else m y) = m := funext fun y => by
    by_cases h : y = x
    · rw [if_pos h, h, e]
    · rw [if_neg h]
  rw [this]; exact F
noncomputable def nmD : List (Int × PyData) := [(1, .str (Str.ofString "OPTIMIZED")), (2, .str (Str.ofString "NEWLOCALS")), (4, .str (Str.ofString "VARARGS")), (8, .str (Str.ofString "VARKEYWORDS")), (16, .str (Str.ofString "NESTED")), (32, .str (Str.ofString "GENERATOR")), (64, .str (Str.ofString "NOFREE")), (128, .str (Str.ofString "COROUTINE")), (256, .str (Str.ofString "ITERABLE_COROUTINE")), (512, .str (Str.ofString "ASYNC_GENERATOR"))]
theorem nmD_at : ∀ i, i < 32 → KTD.datumAt ((2 : Int) ^ i) nmD = (nmS[i]?).map PyData.str := by
  intro i hi
  rcases ((by decide +kernel : ∀ i, i < 32 → (i = 0 ∨ i = 1 ∨ i = 2 ∨ i = 3 ∨ i = 4 ∨ i = 5 ∨ i = 6 ∨ i = 7 ∨ i = 8 ∨ i = 9 ∨ i = 10 ∨ i = 11 ∨ i = 12 ∨ i = 13 ∨ i = 14 ∨ i = 15 ∨ i = 16 ∨ i = 17 ∨ i = 18 ∨ i = 19 ∨ i = 20 ∨ i = 21 ∨ i = 22 ∨ i = 23 ∨ i = 24 ∨ i = 25 ∨ i = 26 ∨ i = 27 ∨ i = 28 ∨ i = 29 ∨ i = 30 ∨ i = 31)) i hi) with rfl | rfl | rfl | rfl | rfl | rfl | rfl | rfl | rfl | rfl | rfl | rfl | rfl | rfl | rfl | rfl | rfl | rfl | rfl | rfl | rfl | rfl | rfl | rfl | rfl | rfl | rfl | rfl | rfl | rfl | rfl | rfl <;> rfl
theorem nm_keyed {w : World} {h₀ : Heap} (X : (K w.params).In h₀) : KTD.Keyed h₀ 15 nmD := kt_keyed_in X (by rfl)
section
variable {w : World} {A : Around} {E : Value → Shared → Prop} {s : Shared} {h₀ : Heap} {Q : Value → Shared → Prop}
theorem get_flag (X : (K w.params).In h₀) (hk : ∀ b o, h₀.get? b = some o → s.heap.get? b = some o) {i : Nat} (hi : i < 32) {t u : Tok} (h : ∀ t', Q (.str (wd i) t') { s with toks := s.toks + 1 }) :
    wpAny (model prg w) A (call (.builtin "dict.get") [.ref 15, .int (1 * 2 ^ (i : Int).toNat) t, .str (PySem.baseText "0x" 16 (1 * 2 ^ (i : Int).toNat)) u]) Q E s := by
  rw [Int.one_mul, Int.toNat_natCast]
  refine call_get2_intTab ((nm_keyed X).keep hk prg w) (Flat.str _ _) fun v hv => ?_
  rw [KTD.lookup_keyed, nmD_at i hi] at hv
  have : wd i = ((nmS[i]?).getD (PySem.baseText "0x" 16 (2 ^ i))) := rfl
  cases hn : nmS[i]? with
  | none =>
    rw [hn] at hv this
    obtain ⟨t', rfl⟩ := Flat.str_inv hv
    have := h t'
    rwa [show wd i = PySem.baseText "0x" 16 (2 ^ i) from by assumption] at this
  | some x =>
    rw [hn] at hv this
    obtain ⟨t', rfl⟩ := Flat.str_inv hv
    have := h t'
    rwa [show wd i = x from by assumption] at this
end
section
variable {w : World} {A : Around} {E : Value → Shared → Prop} {s : Shared} {Q : Value → Shared → Prop}
theorem jn (f : Int) (h1 : -2 ^ 36 < f) (h2 : f < 2 ^ 36) {l : Addr} {vs : Array Value} {c : Nat} {t : Tok} (hl : s.heap.get? l = some (W.listOf vs c)) (hW : StrsAre vs.toList (words f))
    (h : ∀ t' k, Q (.str (Txt.join (Str.ofString ", ") (words f)) t') { s with toks := k }) : wpAny (model prg w) A (call (.builtin "str.join") [.str (Str.ofString ", ") t, .ref l]) Q E s := by
  obtain ⟨a, b⟩ := words_small h1 h2
  have := sum_le a
  refine join_list ⟨_, hl, rfl, _, rfl⟩ hW ?_ h
  rw [show (Str.ofString ", ").length = 2 from by decide]
  omega
end
local macro_rules | `(tactic| walk_at "call builtin:dict.get") => `(tactic| k_extra "call builtin:dict.get")
local macro_rules | `(tactic| walk_at "call builtin:str.join") => `(tactic| k_extra "call builtin:str.join")
theorem pf_ct {w : World} {mean : ExcName → Option Value} {mg mb : Str → Option Value} {h₀ : Heap} (B : Base w mean mg mb h₀) (fl : Int) (t1 : Tok) (news : List (Addr × Obj)) (hf1 : -2 ^ 36 < fl) (hf2 : fl < 2 ^ 36) :
    Spec w h₀ 22 [.int fl t1] [] 1 16 news (fun v news' => news' = news ∧ ∃ t, v = .str (Txt.join (Str.ofString ", ") (words fl)) t) := by
  refine enter B (by k_is) (by k_is) (binds := [(Str.ofString "flags", Value.int fl t1)]) (by rfl) (by rfl) ?_
  intro dp un gd cn cs L a ccd cl outer L' s frs Q F N Fs ap hD hU ret
  have X := B.k
  have T := B.t
  w_on
  conv in (fnBody 2) => whnf
  show wpAny _ _ _ _ _ _
  k_fold
  k_with "exec For" => (refine wpAny_For ?_)
  k_with "call builtin:hex" => (refine PySem.P.hex_of_int ?_ (Nat.le_trans (by first | (rw [Int.one_mul, Int.toNat_natCast]; exact hexlen1 _ (by assumption)) | exact hexlenR hf1 hf2) (by decide)))
  k_with "call builtin:dict.get" => (refine get_flag X (Fr.keep (by assumption)) (by assumption) ?_; intro _)
  k_steps
  refine for_range (n := 32) (fun i m nws => ∃ l vs c t, m (Str.ofString "flags") = some (.int (cur fl i) t) ∧ m (Str.ofString "names") = some (.ref l) ∧ nws = (l, W.listOf vs c) :: (news ++ frs) ∧ (∀ p ∈ news ++ frs, p.1 ≠ l) ∧ StrsAre vs.toList (wordsTo fl i) ∧ (cur fl i = 0 → fl = 0)) rfl (by assumption) (by assumption) (by assumption) (by decide) ?J ?turn ?els ?hE
  case J =>
    rename_i hlt _ _ _ _ _ _ _ _ _ _ _ _ 
    exact ⟨_, _, _, t1, by rw [cur0]; rfl, rfl, rfl, fun p hp => Nat.ne_of_lt (hlt p hp), .nil, fun h => by rw [cur0] at h; exact h⟩
  case hE => passes_own
  case turn =>
    rintro i t' m₁ nws₁ h₁ tk₁ I oI hi ⟨l, vs, c, t, hm1, hm2, rfl, hoff, hT, hz⟩ F₁ N₁ hI
    replace F₁ := fr_pin F₁ (x := Str.ofString "flags") (v := .int (cur fl i) t) (by exact hm1)
    replace F₁ := fr_pin F₁ (x := Str.ofString "names") (v := .ref l) (by exact hm2)
    have hIl : I ≠ l := fun e => hI (l, W.listOf vs c) (.head _) e.symm
    have hsz : vs.size ≤ sizeLine := by
      have := hT.length
      have h2 : (wordsTo fl i).length ≤ i := by
        unfold wordsTo
        rw [List.length_map]
        exact Nat.le_trans (List.length_filter_le _ _) (by simp)
      rw [Array.length_toList] at this
      exact Nat.le_trans (by omega : vs.size ≤ 32) (by decide)
    k_with "call builtin:list.append" => (refine append_K (by assumption) (by assumption) (Upd.tail hIl (Upd.head hoff)) ?_ hsz; intro h' F' N')
    have hc : (2 : Int) ^ (i : Int).toNat = 2 ^ i := by rw [Int.toNat_natCast]
    k_steps
    · rename Builtin.bitAnd _ _ ≠ 0 => hb
      rename Builtin.bitXor _ _ ≠ 0 => hx
      rename Fr _ _ _ _ => F'
      rename News _ _ _ _ => N'
      rw [hc, Int.one_mul, cur_and] at hb
      have hbit : bit fl i = true := by
        cases h : bit fl i
        · rw [h] at hb; exact absurd rfl hb
        · rfl
      rw [hc, Int.one_mul, cur_xor hbit] at hx
      have hfl : ∀ tt, some (Value.int (Builtin.bitXor (cur fl i) (1 * 2 ^ (i : Int).toNat)) tt) = some (Value.int (cur fl (i + 1)) tt) := fun tt => by rw [hc, Int.one_mul, cur_xor hbit]
      refine ⟨_, _, _, _, rfl, F', N', ?_, l, _, _, _, hfl _, rfl, rfl, hoff, ?_, fun h => absurd h hx⟩
      · intro p hp
        rcases List.mem_cons.mp hp with rfl | hp
        · exact hIl.symm
        · exact hI p (.tail _ hp)
      · rw [wordsTo_yes hbit, Array.toList_push]
        exact hT.append' (.cons _ _ .nil)
    · rename Builtin.bitAnd _ _ ≠ 0 => hb
      rename Builtin.bitXor _ _ = 0 => hx
      rename Fr _ _ _ _ => F'
      rename News _ _ _ _ => N'
      rw [hc, Int.one_mul, cur_and] at hb
      have hbit : bit fl i = true := by
        cases h : bit fl i
        · rw [h] at hb; exact absurd rfl hb
        · rfl
      rw [hc, Int.one_mul, cur_xor hbit] at hx
      have hf : fl ≠ 0 := by
        rintro rfl
        have : bit 0 i = false := by unfold bit; simp
        rw [this] at hbit; cases hbit
      have e := words_break (by omega) hx hf
      have hW : ∀ tt, StrsAre (vs.push (.str (wd i) tt)).toList (words fl) := fun tt => by
        rw [e, wordsTo_yes hbit, Array.toList_push]
        exact hT.append' (.cons _ _ .nil)
      refine jn fl hf1 hf2 (N'.get (.tail _ (.head _))) (hW _) ?_
      intro t' k
      exact ret (.str _ t') _ _ _ news frs (SameUp.refl _) F' (fun p hp => N' p (.tail _ (.tail _ hp))) ap ⟨rfl, t', rfl⟩
    · rename Builtin.bitAnd _ _ = 0 => hb
      rename Fr _ _ _ _ => F'
      rename News _ _ _ _ => N'
      rw [hc, Int.one_mul, cur_and] at hb
      have hbit : bit fl i = false := by
        cases h : bit fl i
        · rfl
        · rw [h] at hb; exact absurd hb (Int.ne_of_gt (pw2 i))
      have hfl : ∀ tt, some (Value.int (cur fl i) tt) = some (Value.int (cur fl (i + 1)) tt) := fun tt => by rw [cur_keep hbit]
      refine ⟨_, _, _, _, rfl, F', N', hI, l, _, _, _, hfl _, rfl, rfl, hoff, ?_, ?_⟩
      · rw [wordsTo_no hbit]; exact hT
      · rw [cur_keep hbit]; exact hz
  case els =>
    rintro m₁ nws₁ h₁ tk₁ ⟨l, vs, c, t, hm1, hm2, rfl, hoff, hT, hz⟩ F₁ N₁
    replace F₁ := fr_pin F₁ (x := Str.ofString "flags") (v := .int (cur fl 32) t) (by exact hm1)
    replace F₁ := fr_pin F₁ (x := Str.ofString "names") (v := .ref l) (by exact hm2)
    have hsz : vs.size ≤ sizeLine := by
      have := hT.length
      have h2 : (wordsTo fl 32).length ≤ 32 := by
        unfold wordsTo
        rw [List.length_map]
        exact Nat.le_trans (List.length_filter_le _ _) (by simp)
      rw [Array.length_toList] at this
      exact Nat.le_trans (by omega : vs.size ≤ 32) (by decide)
    k_with "call builtin:list.append" => (refine append_K (by assumption) (by assumption) (Upd.head hoff) ?_ hsz; intro h' F' N')
    k_steps
    rename Fr _ _ _ _ => F'
    rename News _ _ _ _ => N'
    have hW : ∀ tt, StrsAre (vs.push (.str (PySem.baseText "0x" 16 (cur fl 32)) tt)).toList (words fl) := fun tt => by
      rw [words_end hz, Array.toList_push]
      exact hT.append' (.cons _ _ .nil)
    refine jn fl hf1 hf2 (N'.get (.head _)) (hW _) ?_
    intro t' k
    exact ret (.str _ t') _ _ _ news frs (SameUp.refl _) F' (fun p hp => N' p (.tail _ hp)) ap ⟨rfl, t', rfl⟩
end Mine
end

section
set_option Elab.async false
set_option maxRecDepth 100000
set_option maxHeartbeats 1000000
set_option linter.unusedVariables false
namespace Mine
open PySem PySem.W PyProof.Rows PyProof.Rows.TI PyProof.V
theorem fillK5 : PySem.Challenge.rw_oh0011_01 = PySem.Challenge.rw_oh0011_01 ∧ K = K := by
  k_with_none
  k_fill
  exact ⟨rfl, rfl⟩
set_option pp.deepTerms false
set_option pp.maxSteps 600
/-- the flags of x -/
noncomputable def lf (x : Int) : Int := if -2 ^ 36 < x ∧ x < 2 ^ 36 then x else x % 2 ^ 36
theorem lf_range (x : Int) : -2 ^ 36 < lf x ∧ lf x < 2 ^ 36 := by unfold lf; split <;> omega
theorem lf_ct {w : World} {mean : ExcName → Option Value} {mg mb : Str → Option Value} {h₀ : Heap} (B : Base w mean mg mb h₀) (x : Int) (t1 : Tok) (news : List (Addr × Obj)) :
    Spec w h₀ 92 [.int x t1] [] 1 16 news (fun v news' => news' = news ∧ ∃ t, v = .int (lf x) t) := by
  refine enter B (by k_is) (by k_is) (binds := [(Str.ofString "x", Value.int x t1)]) (by rfl) (by rfl) ?_
  intro dp un gd cn cs L a ccd cl outer L' s frs Q F N Fs ap hD hU ret
  have X := B.k
  have T := B.t
  w_on
  conv in (fnBody 13) => whnf
  show wpAny _ _ _ _ _ _
  k_fold
  k_steps
  · exact ret (.int x t1) _ _ _ news frs (SameUp.refl _) F N ap ⟨rfl, t1, by unfold lf; rw [if_pos ⟨by assumption, by assumption⟩]⟩
  · rename ¬ x < _ => h2
    exact ret (.int _ _) _ _ _ news frs (SameUp.refl _) F N ap ⟨rfl, _, by unfold lf; rw [if_neg (fun q => h2 q.2), Int.fmod_eq_emod_of_nonneg _ (by decide)]; rfl⟩
  · rename ¬ _ < x => h2
    exact ret (.int _ _) _ _ _ news frs (SameUp.refl _) F N ap ⟨rfl, _, by unfold lf; rw [if_neg (fun q => h2 q.1), Int.fmod_eq_emod_of_nonneg _ (by decide)]; rfl⟩
noncomputable def leadS (x : Int) : Str := [Str.ofString "", Str.ofString " ", Str.ofString "\t", Str.ofString "  "].getD (x.fmod 4).toNat Str.empty
theorem fm4 (x : Int) : 0 ≤ x.fmod 4 ∧ x.fmod 4 < 4 := by rw [Int.fmod_eq_emod_of_nonneg _ (by decide)]; omega
theorem leadS_len (x : Int) : (leadS x).length ≤ 2 := by
  have h := fm4 x
  unfold leadS
  rcases (by omega : (x.fmod 4).toNat = 0 ∨ (x.fmod 4).toNat = 1 ∨ (x.fmod 4).toNat = 2 ∨ (x.fmod 4).toNat = 3) with e | e | e | e <;> rw [e] <;> decide
theorem News.tail {h₀ h : Heap} {L : Addr} {p : Addr × Obj} {l : List (Addr × Obj)} (N : News h₀ L h (p :: l)) : News h₀ L h l := fun q hq => N q (.tail _ hq)
theorem Apart.cons {h₀ h : Heap} {L l : Addr} {o : Obj} {news frs X Y : List (Addr × Obj)} (ap : Apart news L frs) (N : News h₀ L h ((l, o) :: Y)) (hlt : ∀ p ∈ X, p.1 < l) (hs : ∀ p ∈ frs, p ∈ X) : Apart ((l, o) :: news) L frs := by
  intro p hp
  rcases List.mem_cons.mp hp with rfl | hp
  · intro hm
    rcases List.mem_cons.mp hm with e | hm
    · exact (N _ (.head _)).2.1 e
    · obtain ⟨q, hq, e⟩ := List.mem_map.mp hm
      have := hlt q (hs q hq)
      rw [e] at this
      exact Nat.lt_irrefl _ this
  · exact ap p hp
section
variable {w : World} {A : Around} {E : Value → Shared → Prop} {s : Shared} {Q : Value → Shared → Prop}
theorem lead_item {v sl : Expr} {l : Addr} {t1 t2 t3 t4 u : Tok} {n : Nat} {x : Int} (hl : s.heap.get? l = some (W.listOf #[.str (Str.ofString "") t1, .str (Str.ofString " ") t2, .str (Str.ofString "\t") t3, .str (Str.ofString "  ") t4] n)) (h : ∀ t, Q (.str (leadS x) t) s)
    (hs : subscripted sl false (.ref l) (.int (x.fmod 4) u) = operate [.ref l, .int (x.fmod 4) u] (getItem (.ref l) (.int (x.fmod 4) u)) := by with_unfolding_all rfl) :
    wpAny (model prg w) A (subscriptTail v sl (.ref l) (.int (x.fmod 4) u)) Q E s :=
  PyProof.Rows.item_strsR ⟨_, hl, rfl, _, rfl⟩ (.cons _ _ (.cons _ _ (.cons _ _ (.cons _ _ .nil)))) (fm4 x).1 (fm4 x).2 (Int.lt_trans (fm4 x).2 (by decide)) h hs
end
theorem joined_len {f : Int} (h1 : -2 ^ 36 < f) (h2 : f < 2 ^ 36) : (Txt.join (Str.ofString ", ") (words f)).length ≤ 660 := by
  obtain ⟨a, b⟩ := words_small h1 h2
  have hs := sum_le a
  show (Builtin.Str.glued (Str.ofString ", ") (words f)).length ≤ _
  rw [StrLaws.glued_eq_join]
  cases hw : words f with
  | nil => decide
  | cons x r =>
    rw [hw] at hs b
    rw [len_join_cons, show (Str.ofString ", ").length = 2 from by decide]
    simp only [List.length_cons] at b hs
    omega
theorem lineLen (x : Int) : (leadS x).length + (Txt.join (Str.ofString ", ") (words (lf x))).length ≤ sizeLine := by
  have h1 := leadS_len x
  have h2 := joined_len (lf_range x).1 (lf_range x).2
  exact Nat.le_trans (by omega : _ ≤ 700) (by decide)
local macro_rules | `(tactic| walk_at "subscriptTail") => `(tactic| k_extra "subscriptTail")
local macro_rules | `(tactic| walk_at "eval Call") => `(tactic| ((with_reducible show wpAny _ _ (eval (Expr.Call (Expr.Name _ _) _ [] _) _) _ _ _); with_unfolding_all refine Call_ ?_))
local macro_rules | `(tactic| walk_at "call ref") => `(tactic| k_extra "call ref")
/-- the text of a line ahead of its end -/
noncomputable def headS (x : Int) : Str := leadS x ++ Txt.join (Str.ofString ", ") (words (lf x))
theorem hd_ct {w : World} {mean : ExcName → Option Value} {mg mb : Str → Option Value} {h₀ : Heap} (B : Base w mean mg mb h₀) (x : Int) (t1 : Tok) (news : List (Addr × Obj)) :
    Spec w h₀ 99 [.int x t1] [] 2 32 news (fun v news' => news' = news ∧ ∃ t, v = .str (headS x) t) := by
  refine enter B (by k_is) (by k_is) (binds := [(Str.ofString "x", Value.int x t1)]) (by rfl) (by rfl) ?_
  intro dp un gd cn cs L a ccd cl outer L' s frs Q F N Fs ap hD hU ret
  have X := B.k
  have T := B.t
  w_on
  conv in (fnBody 14) => whnf
  show wpAny _ _ _ _ _ _
  k_fold
  k_with "subscriptTail" => (refine lead_item (News.get (by assumption) (.head _)) ?_; intro _)
  k_with "call ref" => (refine lf_ct B _ _ news _ _ _ _ _ _ _ _ _ _ _ _ _ _ _ rfl (by assumption) (News.tail (by assumption)) Fs ap (by show dp + 1 + 1 < recursionLimit; omega) (by show un + _ + 16 < cLine; omega) ?_; rintro v h₁ tk₁ news₁ frs₁ SU₁ Fs₁ F₁ N₁ ap₁ ⟨rfl, t, rfl⟩)
  k_with "call ref" => (refine pf_ct B _ _ news₁ (lf_range x).1 (lf_range x).2 _ _ _ _ _ _ _ _ _ _ _ _ _ _ _ rfl (by assumption) (by assumption) Fs₁ ap₁ (by show dp + 1 + 1 < recursionLimit; omega) (by show un + _ + 16 < cLine; omega) ?_; rintro v h₂ tk₂ news₂ frs₂ SU₂ Fs₂ F₂ N₂ ap₂ ⟨rfl, t, rfl⟩)
  k_steps
  refine PyProof.Rows.add_str (fun t' tk => ?_) (lineLen x)
  exact ret (.str _ t') _ _ _ news₂ frs₂ (SU₁.trans SU₂) F₂ N₂ ap₂ ⟨rfl, t', rfl⟩
end Mine
end

section
set_option Elab.async false
set_option maxRecDepth 100000
set_option linter.unusedVariables false
namespace Mine
open PySem PySem.W PyProof.Rows PyProof.Rows.TI PyProof.Rows.LCg PySem.Calls
section
variable {prog : Program} {w : World} {A : Around} {E : Value → Shared → Prop} {R : Result → Shared → Prop} {s : Shared}
theorem compLoop_gen {elt target iter : Expr} {ifs : List Expr} {scope : Scope} {pos : Pos} {it acc : Value} {env : Env} (I : Nat → Shared → Prop)
    (turn : ∀ n s, I n s → wpAny (model prog w) A (pyNext it) (fun r s₁ => match r with
      | none => R (.ok .next) s₁
      | some v => wpAny (model prog w) A (letOwnedTupleGo target it v) (fun _ s₁' => wpAny (model prog w) A (assign target env v) (fun _ s₂ =>
          wpAny (model prog w) A (forIn ifs true fun c r => if r = true then do let ok ← isTrue c env (eval c env); pure (ForInStep.yield ok) else pure (ForInStep.yield r)) (fun ok s₃ =>
            if ok = true then wpAny (model prog w) A (eval elt env) (fun x s₄ =>
              wpAny (model prog w) A (call (.builtin "list.append") [acc, x]) (fun _ s₅ => ∃ m, m < n ∧ I m s₅) (notedBy (model prog w) A env fun e s' => R (.error e) s') s₄) (notedBy (model prog w) A env fun e s' => R (.error e) s') s₃
            else ∃ m, m < n ∧ I m s₃) (notedBy (model prog w) A env fun e s' => R (.error e) s') s₂) (notedBy (model prog w) A env fun e s' => R (.error e) s') s₁') (notedBy (model prog w) A env fun e s' => R (.error e) s') s₁) (notedBy (model prog w) A env fun e s' => R (.error e) s') s)
    (n : Nat) (h : I n s) :
    codeAny (model prog w) A (.compLoop (.ListComp elt [⟨target, iter, ifs, 0⟩] scope pos) 0 it acc env) R s := by
  refine codeAny_loop rfl I (fun n s hI => ?_) n h
  show wpAny _ A ((compTurn (.ListComp elt [⟨target, iter, ifs, 0⟩] scope pos) 0 it acc env).onRaise (fun x => do noteFrame x env; theTreesLotGoes x)) _ _ s
  refine wpAny_noted ?_
  rw [compTurn_list]
  refine wpAny_bind (wpAny_standAt (wpAny_bind (wpAny_mono (turn n s hI) (fun r s₁ h₁ => ?_) fun _ _ h' => h')))
  cases r with
  | none => exact wpAny_pure h₁
  | some v =>
    refine wpAny_bind (wpAny_mono h₁ (fun _ s₁' h₁' => ?_) fun _ _ h' => h')
    refine wpAny_bind (wpAny_mono h₁' (fun _ s₂ h₂ => wpAny_bind (wpAny_mono h₂ (fun ok s₃ h₃ => ?_) fun _ _ h' => h')) fun _ _ h' => h')
    cases ok with
    | false => exact wpAny_pure ⟨rfl, h₃⟩
    | true =>
      exact wpAny_bind (wpAny_bind (wpAny_mono h₃ (fun x s₄ h₄ => wpAny_bind (wpAny_mono h₄ (fun _ s₅ h₅ => wpAny_pure (wpAny_pure ⟨rfl, h₅⟩)) fun _ _ h' => h')) fun _ _ h' => h'))
end
/-- one draw of a comprehension's source -/
noncomputable def DrawC (w : World) (A : Around) (env : Env) (scope : Scope) (cl : List (Str × Addr)) (target : Expr) (I : Addr) (fp wr : List Addr) (n : Nat) (Vars : Nat → (Str → Option Value) → Prop) (St : Nat → Heap → Prop) : Prop :=
  ∀ i C (s : Shared) m₀ (E : Value → Shared → Prop) (R N : Shared → Prop), i < n → St i s.heap → s.heap.Ns C m₀ → C ∉ fp →
    (∀ h' tk m', St (i + 1) h' → h'.Ns C m' → Vars i m' → (∀ b o, b ≠ C → b ∉ wr → s.heap.get? b = some o → h'.get? b = some o) → R { s with heap := h', toks := tk }) →
    wpAny (model prg w) A (pyNext (.ref I)) (fun r s₁ => match r with
      | none => N s₁
      | some v => wpAny (model prg w) A (letOwnedTupleGo target (.ref I) v) (fun _ s₁' => wpAny (model prg w) A (assign target (compEnvC scope cl C env) v) (fun _ s₂ => R s₂) E s₁') E s₁) E s
structure IterC (w : World) (A : Around) (env : Env) (scope : Scope) (cl : List (Str × Addr)) (target : Expr) (I : Addr) (fp wr : List Addr) (n : Nat) (Vars : Nat → (Str → Option Value) → Prop) (St : Nat → Heap → Prop) : Prop where
  sub : ∀ b ∈ wr, b ∈ fp
  frame : ∀ i h h', St i h → (∀ b ∈ fp, ∀ o, h.get? b = some o → h'.get? b = some o) → St i h'
  live : ∀ i h, St i h → ∀ b ∈ fp, ∃ o, h.get? b = some o
  draw : DrawC w A env scope cl target I fp wr n Vars St
  done : ∀ (s : Shared) (Q : Option Value → Shared → Prop) (E : Value → Shared → Prop), St n s.heap →
    (∀ h' tk, (∀ b o, b ∉ wr → s.heap.get? b = some o → h'.get? b = some o) → Q none { s with heap := h', toks := tk }) → wpAny (model prg w) A (pyNext (.ref I)) Q E s
  self : ∀ i (s : Shared) (Q : Value → Shared → Prop) (E : Value → Shared → Prop), St i s.heap → Q (.ref I) s → wpAny (model prg w) A (pyIter (.ref I)) Q E s
section
variable {w : World} {A : Around} {E : Value → Shared → Prop} {s : Shared} {h₀ : Heap} {L : Addr} {m : Str → Option Value} {env : Env} {scope : Scope} {cl : List (Str × Addr)} {I : Addr} {fp wr : List Addr} {n : Nat} {St : Nat → Heap → Prop} {x y : Str} {px py tp : Pos}
theorem iter_name {P : Nat → Value → Prop} (W : Walks prg w A I fp wr n P St) (live : ∀ i h, St i h → ∀ b ∈ fp, ∃ o, h.get? b = some o) (hkind : scope.kind = .function) (hx : scope.names.lookup x = some .local) :
    IterC w A env scope cl (.Name x px) I fp wr n (fun i m => ∃ v, P i v ∧ m x = some v) St where
  sub := W.sub
  frame := W.frame
  live := live
  done := W.done
  self := W.self
  draw := by
    intro i C s m₀ E R N hi hst hn hC h
    refine W.item i _ _ _ hi hst fun v h₂ tk₂ hP hst₂ hk₂ => ?_
    refine wpAny_of_eq (show letOwnedTupleGo (.Name x px) (.ref I) v = pure () from rfl) ?_
    have hCw : C ∉ wr := fun q => hC (W.sub C q)
    refine wpAny_assign_Name (wpAny_storeName_local (lookup_relabel_local hx) (hn.at' fun o e => hk₂ _ o hCw e) (fun h₃ hn₃ hs₃ => ?_) (by simp [compEnvC, relabel, hkind]))
    exact h h₃ _ _ (W.frame _ _ _ hst₂ fun b hb o e => hs₃.extBut b o (fun q => hC (by have q' : b = C := q; rw [← q']; exact hb)) e) hn₃ ⟨v, hP, by simp⟩ fun b o hb hb' e => hs₃.extBut b o hb (hk₂ b o hb' e)
theorem iter_pair {Pt : Nat → Array Value → Prop} {Mid : Nat → Addr → Heap → Prop} {k : Nat} (W : WalksT prg w A I fp wr n Pt St Mid) (hPt : ∀ i vals, Pt i vals → ∃ a b, vals = #[a, b]) (live : ∀ i h, St i h → ∀ b ∈ fp, ∃ o, h.get? b = some o) (hh : A.handled = none) (hkind : scope.kind = .function) (hx : scope.names.lookup x = some .local)
    (hy : scope.names.lookup y = some .local) (hxy : x ≠ y) :
    IterC w A env scope cl (.Tuple [.Name x px, .Name y py] k tp) I fp wr n (fun i m => ∃ a b, Pt i #[a, b] ∧ m x = some a ∧ m y = some b) St where
  sub := W.sub
  frame := W.frame
  live := live
  done := W.done
  self := W.self
  draw := by
    intro i C s m₀ E R N hi hst hn hC h
    have hCw : C ∉ wr := fun q => hC (W.sub C q)
    refine W.item i _ _ _ hi hst fun T vals h₁ tk₁ hP hT ht hM hk₁ => ?_
    obtain ⟨a, b, rfl⟩ := hPt i vals hP
    have hTw : T ∉ wr := W.apart _ _ _ hM
    refine W.go _ _ _ i T _ _ _ hM fun h₂ hst₂ hk₂ => ?_
    have ht₂ : IsTup h₂ T #[a, b] := by
      obtain ⟨o, ho, r⟩ := ht
      exact ⟨o, hk₂ _ _ hTw ho, r⟩
    refine assign_Tuple_tuple hh ht₂ rfl rfl fun h₅ he => ?_
    have he' : ∀ b o, h₂.get? b = some o → h₅.get? b = some o := fun b o e => he b o (Nat.ne_of_lt (Heap.lt_size e)) e
    refine assignInOrder_cons (wpAny_assign_Name (wpAny_storeName_local (lookup_relabel_local hx) (((hn.at' fun o e => hk₁ _ o hCw e).at' fun o e => hk₂ _ o hCw e).at' fun o e => he' _ o e) (fun h₆ hn₆ hs₆ => ?_) (by simp [compEnvC, relabel, hkind])))
    refine assignInOrder_cons (wpAny_assign_Name (wpAny_storeName_local (lookup_relabel_local hy) hn₆ (fun h₃ hn₃ hs₃ => ?_) (by simp [compEnvC, relabel, hkind])))
    refine assignInOrder_nil ?_
    have old3 : ∀ b o, b ≠ C → h₂.get? b = some o → h₃.get? b = some o := fun b o hb e => hs₃.extBut b o hb (hs₆.extBut b o hb (he' b o e))
    refine h h₃ _ _ (W.frame _ _ _ hst₂ fun b hb o e => old3 b o (fun q => hC (by rw [← q]; exact hb)) e) hn₃ ⟨a, b, hP, ?_, by simp⟩ fun b o hb hb' e => old3 b o hb (hk₂ b o hb' (hk₁ b o hb' e))
    simp [hxy]
/-- the end of a turn of a comprehension -/
noncomputable def CTurned (s : Shared) (h₀ : Heap) (L : Addr) (m : Str → Option Value) (C : Addr) (oC : Obj) (D : Addr) (ys : List Value) (own : List (Addr × Obj)) (wr : List Addr) (J : List (Addr × Obj) → Prop) (s' : Shared) : Prop :=
  ∃ h' tk nws', s' = { s with heap := h', toks := tk } ∧ Fr h₀ L h' m ∧ News h₀ L h' ((C, oC) :: (D, lst ys) :: (own ++ nws')) ∧ (∀ p ∈ nws', p.1 ≠ C ∧ p.1 ≠ D ∧ p.1 ∉ wr) ∧ J nws'
theorem comp_block {elt iter target : Expr} {ifs : List Expr} {pos : Pos} {s₂ : Shared} {Vars : Nat → (Str → Option Value) → Prop} {nws : List (Addr × Obj)} {RR : Value → Addr → Result → Shared → Prop}
    (W : IterC w A env scope cl target I fp wr n Vars St) (hsz : n ≤ sizeLine) (hcell : ∀ y ∈ scope.names, y.2 ≠ .cell) (hkind : scope.kind = .function) (hst : St 0 s₂.heap) (hfp : ∀ b ∈ fp, b < s₂.heap.objs.size ∧ b ≠ L ∧ h₀.get? b = none)
    (F : Fr h₀ L s₂.heap m) (N : News h₀ L s₂.heap nws) (hoff : ∀ p ∈ nws, p.1 ∉ wr) (J : Nat → List Value → List (Addr × Obj) → Prop) (hJ : J 0 [] nws)
    (turn : ∀ i ys nws₁ h tk C oC D m₂ own (E' : Value → Shared → Prop), i < n → Vars i m₂ → J i ys nws₁ → NsObj oC m₂ → Fr h₀ L h m → News h₀ L h ((C, oC) :: (D, lst ys) :: (own ++ nws₁)) → own.map (·.1) = fp → (∀ p ∈ own ++ nws₁, p.1 ≠ C ∧ p.1 ≠ D) → C ≠ D → (∀ p ∈ nws₁, p.1 ∉ wr) →
      wpAny (model prg w) A (forIn ifs true fun c r => if r = true then do let ok ← isTrue c (compEnvC scope cl C env) (eval c (compEnvC scope cl C env)); pure (ForInStep.yield ok) else pure (ForInStep.yield r)) (fun ok s₃ =>
        if ok = true then wpAny (model prg w) A (eval elt (compEnvC scope cl C env)) (fun y s₄ => CTurned s₂ h₀ L m C oC D ys own wr (J (i + 1) (ys ++ [y])) s₄) E' s₃
        else CTurned s₂ h₀ L m C oC D ys own wr (J (i + 1) ys) s₃) E' { s₂ with heap := h, toks := tk })
    (hRR : ∀ D C h tk m' ys nws', J n ys nws' → Fr h₀ L h m → News h₀ L h ((D, lst ys) :: nws') → (∀ p ∈ nws', p.1 ≠ D) → h.Ns C m' → h₀.get? C = none → C ≠ L → C ≠ D → (∀ p ∈ nws', p.1 ≠ C) → @LT.lt Nat _ L D → RR (.ref D) C (.ok .next) { s₂ with heap := h, toks := tk }) :
    wpAny (model prg w) A (newList []) (fun acc s₃ => wpAny (model prg w) A (newFunctionEnv scope env.globals cl [] env.qual none .none (some env)) (fun cenv s₄ =>
      codeAny (model prg w) A (.compStart (.ListComp elt [⟨target, iter, ifs, 0⟩] scope pos) 0 (.ref I) acc { cenv with scope := relabel scope env }) (RR acc cenv.locals) s₄) E s₃) E s₂ := by
  refine wpAny_newObj_type (wpAny_newFunctionEnv hcell (by intro y hy; simp at hy) (fun h₁ hns₁ hsb₁ => ?_) hkind)
  dsimp only at hns₁ hsb₁ ⊢
  generalize hH2 : s₂.heap.push { cls := .type "list", dict := none, data := .seq ([] : List Value).toArray } = H2 at hns₁ hsb₁ ⊢
  have hC : H2.objs.size = s₂.heap.objs.size + 1 := by rw [← hH2, Heap.size_push]
  have hDC : s₂.heap.objs.size ≠ H2.objs.size := by rw [hC]; exact Nat.ne_of_lt (Nat.lt_succ_self _)
  have below : ∀ b, b < s₂.heap.objs.size → b ≠ H2.objs.size ∧ b ≠ s₂.heap.objs.size := fun b hb => ⟨by rw [hC]; exact Nat.ne_of_lt (Nat.lt_succ_of_lt hb), Nat.ne_of_lt hb⟩
  have hDf : s₂.heap.objs.size ∉ fp := fun hm => Nat.lt_irrefl _ (hfp _ hm).1
  have hCf : H2.objs.size ∉ fp := fun hm => by have := (hfp _ hm).1; rw [hC] at this; exact Nat.lt_irrefl _ (Nat.lt_of_succ_lt this)
  have hDw : s₂.heap.objs.size ∉ wr := fun q => hDf (W.sub _ q)
  have hCw : H2.objs.size ∉ wr := fun q => hCf (W.sub _ q)
  have hLw : L ∉ wr := fun q => (hfp _ (W.sub _ q)).2.1 rfl
  have old : ∀ b o, s₂.heap.get? b = some o → h₁.get? b = some o := fun b o e => hsb₁.extBut b o (below b (Heap.lt_size e)).1 (Heap.get?_push_of_some _ (hH2 ▸ Heap.get?_push_of_some _ e))
  have hacc : h₁.get? s₂.heap.objs.size = some (lst []) := hsb₁.extBut _ _ hDC (Heap.get?_push_of_some _ (hH2 ▸ Heap.get?_push_size _ rfl))
  have hst₁ : St 0 h₁ := W.frame _ _ _ hst fun b _ o e => old b o e
  have fresh : ∀ a, s₂.heap.objs.size ≤ a → s₂.heap.get? a = none := fun a ha => by
    cases e : s₂.heap.get? a with
    | none => rfl
    | some o' => exact absurd (Heap.lt_size e) (Nat.not_lt.mpr ha)
  have fresh₀ : ∀ a, s₂.heap.objs.size ≤ a → h₀.get? a = none := fun a ha => by
    cases e : h₀.get? a with
    | none => rfl
    | some o' => have := F.keep a o' e; rw [fresh a ha] at this; cases this
  have hD₀ : h₀.get? s₂.heap.objs.size = none := fresh₀ _ (Nat.le_refl _)
  have hC₀ : h₀.get? H2.objs.size = none := fresh₀ _ (by rw [hC]; exact Nat.le_succ _)
  have hLlt : L < s₂.heap.objs.size := F.ns.lt
  have hDL : s₂.heap.objs.size ≠ L := Ne.symm (below L hLlt).2
  have hCL : H2.objs.size ≠ L := Ne.symm (below L hLlt).1
  have frB : ∀ {h h' : Heap}, Fr h₀ L h m → (∀ b o, b ≠ H2.objs.size → b ∉ wr → h.get? b = some o → h'.get? b = some o) → Fr h₀ L h' m := fun {h h'} F' hk =>
    ⟨F'.ns.at' fun o e => hk L o (Ne.symm hCL) hLw e, fun b o e => hk b o (fun q => by rw [q, hC₀] at e; cases e) (fun q => by rw [(hfp _ (W.sub _ q)).2.2] at e; cases e) (F'.keep b o e), F'.above⟩
  have loop : ∀ s₃ : Shared, s₃ = { s₂ with heap := h₁, toks := s₂.toks + ([] : List (Str × Value)).length } →
      codeAny (model prg w) A (.compLoop (.ListComp elt [⟨target, iter, ifs, 0⟩] scope pos) 0 (.ref I) (.ref s₂.heap.objs.size) (compEnvC scope cl H2.objs.size env))
        (RR (.ref s₂.heap.objs.size) H2.objs.size) s₃ := by
    rintro s₃ rfl
    refine compLoop_gen
      (fun k s' => ∃ h' tk i ys m' nws', s' = { s₂ with heap := h', toks := tk } ∧ i ≤ n ∧ k = n + 1 - i ∧ ys.length ≤ i ∧ St i h' ∧ Fr h₀ L h' m ∧ h'.Ns H2.objs.size m' ∧ News h₀ L h' ((s₂.heap.objs.size, lst ys) :: nws') ∧
        (∀ p ∈ nws', p.1 ≠ H2.objs.size ∧ p.1 ≠ s₂.heap.objs.size ∧ p.1 ∉ wr) ∧ J i ys nws') ?_ (n + 1)
      ⟨h₁, _, 0, [], _, nws, rfl, Nat.zero_le _, rfl, Nat.le_refl _, hst₁, F.keeps old, hns₁, fun p hp => ?_, fun p hp => ⟨(below _ (Heap.lt_size (N p hp).1)).1, (below _ (Heap.lt_size (N p hp).1)).2, hoff p hp⟩, hJ⟩
    · rintro k s' ⟨h', tk, i, ys, m', nws', rfl, hi, rfl, hyl, hst', F', hn', N', off', hJ'⟩
      by_cases hlt : i < n
      · refine W.draw i H2.objs.size _ m' _ _ _ hlt hst' hn' hCf fun h₃ tk₃ m₃ hst₃ hn₃ hv₃ hk₃ => ?_
        obtain ⟨oC, heC, hoC⟩ := ns_obj hn₃
        have F₃ := frB F' hk₃
        have N₂ : News h₀ L h₃ ((s₂.heap.objs.size, lst ys) :: nws') := fun p hp => by
          refine ⟨hk₃ _ _ ?_ ?_ (N' p hp).1, (N' p hp).2⟩
          · rcases List.mem_cons.mp hp with rfl | hp
            · exact hDC
            · exact (off' p hp).1
          · rcases List.mem_cons.mp hp with rfl | hp
            · exact hDw
            · exact (off' p hp).2.2
        obtain ⟨own, hown, hkeys⟩ : ∃ own : List (Addr × Obj), (∀ p ∈ own, h₃.get? p.1 = some p.2) ∧ own.map (·.1) = fp := by
          have : ∀ l : List Addr, (∀ b ∈ l, ∃ o, h₃.get? b = some o) → ∃ own : List (Addr × Obj), (∀ p ∈ own, h₃.get? p.1 = some p.2) ∧ own.map (·.1) = l := by
            intro l
            induction l with
            | nil => exact fun _ => ⟨[], (fun p hp => nomatch hp), rfl⟩
            | cons b r ih =>
              intro hb
              obtain ⟨o, ho⟩ := hb b (.head _)
              obtain ⟨own, h1, h2⟩ := ih fun b' hb' => hb b' (.tail _ hb')
              refine ⟨(b, o) :: own, fun p hp => ?_, by rw [List.map_cons, h2]⟩
              rcases List.mem_cons.mp hp with rfl | hp
              · exact ho
              · exact h1 p hp
          exact this fp (W.live _ _ hst₃)
        have ownfp : ∀ p ∈ own, p.1 ∈ fp := fun p hp => by rw [← hkeys]; exact List.mem_map_of_mem hp
        have N₃ : News h₀ L h₃ ((H2.objs.size, oC) :: (s₂.heap.objs.size, lst ys) :: (own ++ nws')) := fun p hp => by
          rcases List.mem_cons.mp hp with rfl | hp
          · exact ⟨heC, hCL, hC₀⟩
          · rcases List.mem_cons.mp hp with rfl | hp
            · exact N₂ _ (.head _)
            · rcases List.mem_append.mp hp with hp | hp
              · exact ⟨hown p hp, (hfp _ (ownfp p hp)).2.1, (hfp _ (ownfp p hp)).2.2⟩
              · exact N₂ p (.tail _ hp)
        have offA : ∀ p ∈ own ++ nws', p.1 ≠ H2.objs.size ∧ p.1 ≠ s₂.heap.objs.size := fun p hp => by
          rcases List.mem_append.mp hp with hp | hp
          · exact ⟨fun e => hCf (by rw [← e]; exact ownfp p hp), fun e => hDf (by rw [← e]; exact ownfp p hp)⟩
          · exact ⟨(off' p hp).1, (off' p hp).2.1⟩
        refine wpAny_mono (turn i ys nws' h₃ tk₃ H2.objs.size oC s₂.heap.objs.size m₃ own _ hlt hv₃ hJ' hoC F₃ N₃ hkeys offA (Ne.symm hDC) fun p hp => (off' p hp).2.2) (fun ok s₃ h₃' => ?_) fun _ _ e => e
        have back : ∀ {ys' : List Value} {h₅ : Heap} {tk₅ : Nat} {nws₅ : List (Addr × Obj)}, ys'.length ≤ i + 1 → (∀ p ∈ own, h₅.get? p.1 = some p.2) → h₅.get? H2.objs.size = some oC → Fr h₀ L h₅ m → News h₀ L h₅ ((s₂.heap.objs.size, lst ys') :: nws₅) → (∀ p ∈ nws₅, p.1 ≠ H2.objs.size ∧ p.1 ≠ s₂.heap.objs.size ∧ p.1 ∉ wr) → J (i + 1) ys' nws₅ →
            ∃ k', k' < n + 1 - i ∧ ∃ h' tk i ys m' nws', ({ s₂ with heap := h₅, toks := tk₅ } : Shared) = { s₂ with heap := h', toks := tk } ∧ i ≤ n ∧ k' = n + 1 - i ∧ ys.length ≤ i ∧ St i h' ∧ Fr h₀ L h' m ∧ h'.Ns H2.objs.size m' ∧ News h₀ L h' ((s₂.heap.objs.size, lst ys) :: nws') ∧
              (∀ p ∈ nws', p.1 ≠ H2.objs.size ∧ p.1 ≠ s₂.heap.objs.size ∧ p.1 ∉ wr) ∧ J i ys nws' := fun {ys' h₅ tk₅ nws₅} hl ho hc F₅ N₅ of₅ J₅ =>
          ⟨n + 1 - (i + 1), by omega, h₅, tk₅, i + 1, ys', m₃, nws₅, rfl, hlt, rfl, hl, W.frame _ _ _ hst₃ (fun b hb o e => by
            rw [← hkeys] at hb
            obtain ⟨p, hp, rfl⟩ := List.mem_map.mp hb
            rw [hown p hp] at e
            cases e
            exact ho p hp), F₅, hoC.ns hc, N₅, of₅, J₅⟩
        cases ok with
        | false =>
          obtain ⟨h₄, tk₄, nws₄, rfl, F₄, N₄, off₄, J₄⟩ := h₃'
          exact back (Nat.le_succ_of_le hyl) (fun p hp => (N₄ p (.tail _ (.tail _ (List.mem_append_left _ hp)))).1) (N₄ _ (.head _)).1 F₄ (fun p hp => by
            rcases List.mem_cons.mp hp with rfl | hp
            · exact N₄ _ (.tail _ (.head _))
            · exact N₄ p (.tail _ (.tail _ (List.mem_append_right _ hp)))) off₄ J₄
        | true =>
          refine wpAny_mono h₃' (fun y s₄ h₄ => ?_) fun _ _ e => e
          obtain ⟨h₄, tk₄, nws₄, rfl, F₄, N₄, off₄, J₄⟩ := h₄
          have zD := (N₄ (s₂.heap.objs.size, lst ys) (.tail _ (.head _))).1
          refine append_at (hsz := by show ys.toArray.size ≤ sizeLine; rw [List.size_toArray]; exact Nat.le_trans hyl (Nat.le_trans hi hsz)) zD fun h₅ hs₅ hD₅ => ?_
          refine back (by rw [List.length_append, List.length_singleton]; omega) (fun p hp => ?_) ?_ (F₄.change hs₅ hDL hD₀) (fun p hp => ?_) off₄ J₄
          · exact hs₅.extBut _ _ (fun e => hDf (by rw [← e]; exact ownfp p hp)) (N₄ p (.tail _ (.tail _ (List.mem_append_left _ hp)))).1
          · exact hs₅.extBut _ _ (Ne.symm hDC) (N₄ _ (.head _)).1
          · rcases List.mem_cons.mp hp with rfl | hp
            · exact ⟨hD₅.trans (congrArg some (lst_snoc ys y)), hDL, hD₀⟩
            · have z := N₄ p (.tail _ (.tail _ (List.mem_append_right _ hp)))
              exact ⟨hs₅.extBut _ _ (off₄ p hp).2.1 z.1, z.2⟩
      · obtain rfl : i = n := Nat.le_antisymm hi (Nat.not_lt.mp hlt)
        refine W.done _ _ _ hst' fun h₂ tk₂ hk₂ => ?_
        exact hRR _ _ h₂ tk₂ _ ys nws' hJ' (frB F' fun b o _ hb e => hk₂ b o hb e) (fun p hp => ⟨hk₂ _ _ (by
          rcases List.mem_cons.mp hp with rfl | hp
          · exact hDw
          · exact (off' p hp).2.2) (N' p hp).1, (N' p hp).2⟩) (fun p hp => (off' p hp).2.1) (hn'.at' fun o e => hk₂ _ o hCw e) hC₀ hCL (Ne.symm hDC) (fun p hp => (off' p hp).1) hLlt
    · rcases List.mem_cons.mp hp with rfl | hp
      · exact ⟨hacc, hDL, hD₀⟩
      · exact ⟨old _ _ (N p hp).1, (N p hp).2⟩
  exact codeAny_compStart_list (loop _ rfl) (W.self 0 _ _ _ hst₁ (loop _ rfl))
end
end Mine
end

section
set_option Elab.async false
set_option maxRecDepth 100000
set_option linter.unusedVariables false
namespace Mine
open PySem PySem.W PyProof.Rows PyProof.Rows.TI PyProof.Rows.LCg PySem.Calls
noncomputable def FinE' (h₀ : Heap) (L : Addr) (m : Str → Option Value) (Q : Value → Shared → Prop) (ys : List Value) (nws : List (Addr × Obj)) (s : Shared) : Prop :=
  ∀ D h tk, Fr h₀ L h m → News h₀ L h ((D, lst ys) :: nws) → (∀ p ∈ nws, p.1 ≠ D) → @LT.lt Nat _ L D → Q (.ref D) { s with heap := h, toks := tk }
noncomputable def FinA' (h₀ : Heap) (L : Addr) (m : Str → Option Value) (y : Str) (Q : Flow → Shared → Prop) (ys : List Value) (nws : List (Addr × Obj)) (s : Shared) : Prop :=
  ∀ D h tk, Fr h₀ L h (fun z => if z = y then some (.ref D) else m z) → News h₀ L h ((D, lst ys) :: nws) → (∀ p ∈ nws, p.1 ≠ D) → @LT.lt Nat _ L D → Q .next { s with heap := h, toks := tk }
/-- a comprehension's source, its turns and its end -/
noncomputable def SrcC (w : World) (A : Around) (h₀ : Heap) (L : Addr) (m : Str → Option Value) (env : Env) (elt target : Expr) (ifs : List Expr) (scope : Scope) (cl : List (Str × Addr)) (Fin : List Value → List (Addr × Obj) → Shared → Prop) (it : Value) (s₂ : Shared) : Prop :=
  ∃ (I : Addr) (fp wr : List Addr) (n : Nat) (Vars : Nat → (Str → Option Value) → Prop) (St : Nat → Heap → Prop) (nws : List (Addr × Obj)) (J : Nat → List Value → List (Addr × Obj) → Prop), it = .ref I ∧ IterC w A env scope cl target I fp wr n Vars St ∧ n ≤ sizeLine ∧ St 0 s₂.heap ∧ (∀ b ∈ fp, b < s₂.heap.objs.size ∧ b ≠ L ∧ h₀.get? b = none) ∧ Fr h₀ L s₂.heap m ∧ News h₀ L s₂.heap nws ∧ (∀ p ∈ nws, p.1 ∉ wr) ∧ J 0 [] nws ∧
    (∀ i ys nws₁ h tk C oC D m₂ own (E' : Value → Shared → Prop), i < n → Vars i m₂ → J i ys nws₁ → NsObj oC m₂ → Fr h₀ L h m → News h₀ L h ((C, oC) :: (D, lst ys) :: (own ++ nws₁)) → own.map (·.1) = fp → (∀ p ∈ own ++ nws₁, p.1 ≠ C ∧ p.1 ≠ D) → C ≠ D → (∀ p ∈ nws₁, p.1 ∉ wr) →
      wpAny (model prg w) A (forIn ifs true fun c r => if r = true then do let ok ← isTrue c (compEnvC scope cl C env) (eval c (compEnvC scope cl C env)); pure (ForInStep.yield ok) else pure (ForInStep.yield r)) (fun ok s₃ =>
        if ok = true then wpAny (model prg w) A (eval elt (compEnvC scope cl C env)) (fun y s₄ => CTurned s₂ h₀ L m C oC D ys own wr (J (i + 1) (ys ++ [y])) s₄) E' s₃
        else CTurned s₂ h₀ L m C oC D ys own wr (J (i + 1) ys) s₃) E' { s₂ with heap := h, toks := tk }) ∧
    ∀ ys nws', J n ys nws' → Fin ys nws' s₂
section
variable {w : World} {A : Around} {E : Value → Shared → Prop} {s : Shared} {h₀ : Heap} {L : Addr} {m : Str → Option Value} {env : Env} {scope : Scope} {cl : List (Str × Addr)} {elt iter target : Expr} {ifs : List Expr} {pos spos py : Pos} {y : Str}
theorem compE {Q : Value → Shared → Prop} (F₀ : Fr h₀ L s.heap m) (hclos : closureFor scope env = pure cl) (hcell : ∀ y ∈ scope.names, y.2 ≠ .cell) (hkind : scope.kind = .function)
    (hnames : ∀ y ∈ scope.names, y.2 = .local → scope.names.lookup y.1 = some .local)
    (h : wpAny (model prg w) A (eval iter env) (fun xv s₁ => wpAny (model prg w) A (pyIter xv) (fun it s₂ => SrcC w A h₀ L m env elt target ifs scope cl (FinE' h₀ L m Q) it s₂) E s₁) E s)
    (hs : ∀ x, foldedSetIterable iter env x = pure x := by intro _; rfl) :
    wpAny (model prg w) A (eval (.ListComp elt [⟨target, iter, ifs, 0⟩] scope pos) env) Q E s := by
  rw [eval_ListComp]
  refine wpAny_comprehension_free (use := none) rfl hs hclos hkind hnames (wpAny_mono h (fun xv s₁ h₁ => wpAny_mono h₁ (fun it s₂ h₂ => ?_) fun _ _ e => e) fun _ _ e => e)
  obtain ⟨I, fp, wr, n, Vars, St, nws, J, rfl, W, hsz, hst, hfp, F, N, hoff, hJ, turn, fin⟩ := h₂
  refine comp_block W hsz hcell hkind hst hfp F N hoff J hJ turn ?_
  intro D C h tk m' ys nws' J' F' N' o1 hn hC₀ hCL hCD offC hLD
  refine ⟨m', hn, fun h'' hs'' => fin ys nws' J' D h'' tk (F'.change hs'' hCL hC₀) (fun p hp => ?_) o1 hLD⟩
  refine ⟨hs''.extBut _ _ ?_ (N' p hp).1, (N' p hp).2⟩
  rcases List.mem_cons.mp hp with rfl | hp
  · exact Ne.symm hCD
  · exact offC p hp
theorem compA {Q : Flow → Shared → Prop} (F₀ : Fr h₀ L s.heap m) (hLe : env.locals = L) (hsw : swapsWith (.ListComp elt [⟨target, iter, ifs, 0⟩] scope pos) (some (.Name y py)) spos.line env = pure true)
    (hclos : closureFor scope env = pure cl) (hcell : ∀ z ∈ scope.names, z.2 ≠ .cell) (hkind : scope.kind = .function)
    (hnames : ∀ z ∈ scope.names, z.2 = .local → scope.names.lookup z.1 = some .local)
    (hy : env.kindOf y = some .local) (hp : (env.scope.kind == .class || (env.scope.kind == .module && env.locals != env.globals)) = false)
    (h : wpAny (model prg w) A (eval iter env) (fun xv s₁ => wpAny (model prg w) A (pyIter xv) (fun it s₂ => SrcC w A h₀ L m env elt target ifs scope cl (FinA' h₀ L m y Q) it s₂) E s₁) E s)
    (hs : ∀ x, foldedSetIterable iter env x = pure x := by intro _; rfl) :
    wpAny (model prg w) A (exec (.Assign [.Name y py] (.ListComp elt [⟨target, iter, ifs, 0⟩] scope pos) spos) env) Q E s := by
  subst hLe
  rw [exec_Assign_Name_used _ _ _ _ hsw]
  refine wpAny_bind (wpAny_standAt (wpAny_bind ?_))
  show wpAny _ A (do let _ ← comprehension (.ListComp elt [⟨target, iter, ifs, 0⟩] scope pos) scope env _ (newList []) false (eval iter env) (some (assign (.Name y py) env))) _ _ s
  refine wpAny_bind (wpAny_mono (wpAny_comprehension_free (use := some (assign (.Name y py) env)) (Q := fun _ s' => Q .next s') rfl hs hclos hkind hnames
    (wpAny_mono h (fun xv s₁ h₁ => wpAny_mono h₁ (fun it s₂ h₂ => ?_) fun _ _ e => e) fun _ _ e => e)) (fun _ s' hq => wpAny_pure (wpAny_pure hq)) fun _ _ e => e)
  obtain ⟨I, fp, wr, n, Vars, St, nws, J, rfl, W, hsz, hst, hfp, F, N, hoff, hJ, turn, fin⟩ := h₂
  refine comp_block W hsz hcell hkind hst hfp F N hoff J hJ turn ?_
  intro D C h' tk m' ys nws' J' F' N' o1 hn hC₀ hCL hCD offC hLD
  show wpAny _ A (assign (.Name y py) env (.ref D)) _ _ _
  refine wpAny_assign_Name (wpAny_storeName_local hy F'.ns (fun h₂ hn₂ hs₂ => ?_) hp)
  have hL₀ : h₀.get? env.locals = none := Heap.get?_none_of_le F'.above
  have F₂ : Fr h₀ env.locals h₂ (fun z => if z = y then some (.ref D) else m z) := ⟨hn₂, fun b o e => hs₂.extBut b o (fun q => by rw [q, hL₀] at e; cases e) (F'.keep b o e), F'.above⟩
  refine ⟨m', hn.sameBut hs₂ hCL, fun h'' hs'' => fin ys nws' J' D h'' _ (F₂.change hs'' hCL hC₀) (fun p hp => ?_) o1 hLD⟩
  have z : h₂.get? p.1 = some p.2 := hs₂.extBut _ _ (N' p hp).2.1 (N' p hp).1
  refine ⟨hs''.extBut _ _ ?_ z, (N' p hp).2⟩
  rcases List.mem_cons.mp hp with rfl | hp
  · exact Ne.symm hCD
  · exact offC p hp
/-- over a range by ones from a on -/
theorem src_range {r : Addr} {a b : Int} {t u v : Tok} {nws : List (Addr × Obj)} {x : Str} {px : Pos} {n : Nat} {Fin : List Value → List (Addr × Obj) → Shared → Prop} (J : Nat → List Value → List (Addr × Obj) → Prop)
    (hh : A.handled = none) (F : Fr h₀ L s.heap m) (N : News h₀ L s.heap nws) (hr : IsRange s.heap r a b 1 t u v) (hsm : Builtin.Range.small a b 1 = true) (hn : Builtin.Range.rangeSize a b 1 = ((n : Nat) : Int)) (hsz : n ≤ sizeLine)
    (hkind : scope.kind = .function) (hx : scope.names.lookup x = some .local) (hJ : J 0 [] nws)
    (turn : ∀ i tv ys nws₁ h tk I oI C oC D m₂ (E' : Value → Shared → Prop) (s₂ : Shared), i < n → J i ys nws₁ → NsObj oC m₂ → m₂ x = some (.int (a + (i : Int)) tv) → Fr h₀ L h m → News h₀ L h ((C, oC) :: (D, lst ys) :: (I, oI) :: nws₁) → (∀ p ∈ (I, oI) :: nws₁, p.1 ≠ C ∧ p.1 ≠ D) → C ≠ D → (∀ p ∈ nws₁, p.1 ≠ I) → (∃ h, s₂ = { s with heap := h }) →
      wpAny (model prg w) A (forIn ifs true fun c r => if r = true then do let ok ← isTrue c (compEnvC scope cl C env) (eval c (compEnvC scope cl C env)); pure (ForInStep.yield ok) else pure (ForInStep.yield r)) (fun ok s₃ =>
        if ok = true then wpAny (model prg w) A (eval elt (compEnvC scope cl C env)) (fun y s₄ => CTurned s₂ h₀ L m C oC D ys [(I, oI)] [I] (J (i + 1) (ys ++ [y])) s₄) E' s₃
        else CTurned s₂ h₀ L m C oC D ys [(I, oI)] [I] (J (i + 1) ys) s₃) E' { s with heap := h, toks := tk })
    (fin : ∀ ys nws' s₂, (∃ h, s₂ = { s with heap := h }) → J n ys nws' → Fin ys nws' s₂) :
    wpAny (model prg w) A (pyIter (.ref r)) (fun it s₂ => SrcC w A h₀ L m env elt (.Name x px) ifs scope cl Fin it s₂) E s := by
  refine wpAny_pyIter_range hr hsm ?_
  refine ⟨_, [_], [_], n, _, _, nws, J, rfl, iter_name (range_walks hh a n) (fun i h st b hb => by rw [List.mem_singleton.mp hb]; exact ⟨_, st⟩) hkind hx, hsz, ?_, ?_, F.keeps fun _ _ e => Heap.get?_push_of_some _ e, N.grown fun _ _ e => Heap.get?_push_of_some _ e, ?_, hJ, ?_, fun ys nws' => fin ys nws' _ ⟨_, rfl⟩⟩
  · show IsRangeIter _ _ _ _ _; rw [hn]; simpa using Heap.get?_push_size _ rfl
  · intro b hb
    rw [List.mem_singleton.mp hb]
    refine ⟨?_, Ne.symm (Nat.ne_of_lt F.ns.lt), next_is_new F⟩
    show s.heap.objs.size < (s.heap.push _).objs.size
    rw [Heap.size_push]; exact Nat.lt_succ_self _
  · intro p hp q
    rw [List.mem_singleton] at q
    have := Heap.lt_size (N p hp).1
    rw [q] at this
    exact Nat.lt_irrefl _ this
  · rintro i ys nws₁ h tk C oC D m₂ own E' hi ⟨v, ⟨tv, rfl⟩, hv⟩ hJ' hoC F' N' hk off hCD offw
    obtain ⟨oI, rfl⟩ : ∃ oI, own = [(s.heap.objs.size, oI)] := by
      rcases own with _ | ⟨⟨I, oI⟩, _ | ⟨p, r⟩⟩
      · cases hk
      · have hI : I = s.heap.objs.size := (List.cons.inj hk).1
        exact ⟨oI, by rw [hI]⟩
      · cases (List.cons.inj hk).2
    exact turn i tv ys nws₁ h tk _ oI C oC D m₂ E' { s with heap := _ } hi hJ' hoC hv F' N' off hCD (fun p hp e => offw p hp (by rw [e]; exact .head _)) ⟨_, rfl⟩
end
end Mine
end

section
set_option Elab.async false
set_option maxRecDepth 100000
set_option linter.unusedVariables false
namespace Mine
open PySem PySem.W PyProof.Rows PyProof.Rows.TI PySem.Calls
/-- as Spec; what is said of the end may speak of the size of the heap at the call -/
noncomputable def SpecZ (w : World) (h₀ : Heap) (f : Addr) (vs : List Value) (kw : List (Str × Value)) (D U : Nat) (news : List (Addr × Obj)) (Post : Nat → Value → List (Addr × Obj) → Prop) : Prop :=
  ∀ (dp un : Nat) (gd : Option (List Code)) (cn : Str) (cs : Scope) (a : Addr) (ccd : Value) (cl : List (Str × Addr)) (outer : List Env) (L : Addr) (m : Str → Option Value) (s : Shared) (frs : List (Addr × Obj)) (Q E : Value → Shared → Prop),
    cs.kind = .function → Fr h₀ L s.heap m → News h₀ L s.heap (news ++ frs) → Frs outer frs → Apart news L frs → dp + D < recursionLimit → un + U < cLine →
    (∀ v h' tk' news' frs', SameUp frs frs' → Frs outer frs' → Fr h₀ L h' m → News h₀ L h' (news' ++ frs') → Apart news' L frs' → Post s.heap.objs.size v news' → Q v { s with heap := h', toks := tk' }) →
    wpAny (model prg w) (ktrTop dp un gd cn cs L a ccd cl outer) (call (.ref f) vs kw) Q E s
section
variable {w : World} {mean : ExcName → Option Value} {mg mb : Str → Option Value} {h₀ : Heap} {f : Addr} {vs : List Value} {kw : List (Str × Value)} {D U : Nat} {news : List (Addr × Obj)} {Post : Nat → Value → List (Addr × Obj) → Prop}
  {name qual : Str} {params : Arguments} {body : List Stmt} {scope : Scope} {dV kV doc pm cdv ct oc : Value} {an od : Option Addr} {osl : Array (Option Value)} {binds : List (Str × Value)}
theorem enterZ (B : Base w mean mg mb h₀) (ho : (K w.params).lookup f = some ⟨oc, od, .func (fnOf name qual params body scope dV kV doc pm an cdv ct), osl⟩) (hcd : codeIn (K w.params) cdv qual = true)
    (hbind : bindArgs (fnOf name qual params body scope dV kV doc pm an cdv ct) ⟨vs, kw⟩ = pure binds) (hkind : (binds.all fun y => scope.names.lookup y.1 == some .local || scope.names.lookup y.1 == some .cell) = true)
    (hnd : ((cellsFrom 0 scope.names []).map (·.1)).Nodup)
    (h : ∀ (dp un : Nat) (gd : Option (List Code)) (cn : Str) (cs : Scope) (L a : Addr) (ccd : Value) (cl : List (Str × Addr)) (outer : List Env) (L' : Addr) (s : Shared) (frs cells : List (Addr × Obj)) (Q : Value → Shared → Prop),
      Fr h₀ L' s.heap (bindL (envOfC qual scope L' f cdv).kindOf binds fun _ => none) → News h₀ L' s.heap (cells ++ (news ++ frs)) →
      CellsAre (bindC (envOfC qual scope L' f cdv).kindOf binds fun _ => none) (cellsFrom (L' + 1) scope.names []) cells → (∀ p ∈ news ++ frs, p.1 < L') →
      Frs (envX cn cs L a ccd cl :: outer) frs → Apart news L' frs → dp + D < recursionLimit → un + U < cLine →
      (∀ v h' tk' m' news' frs', SameUp frs frs' → Fr h₀ L' h' m' → News h₀ L' h' (news' ++ frs') → Apart news' L' frs' → Post L' v news' → Q v { s with heap := h', toks := tk' }) →
      wpAny (model prg w) ((ktrTop dp un gd cn cs L a ccd cl outer).deeper (envOfC qual scope L' f cdv)) (execs body (envOfC qual scope L' f cdv)) (fun fl s' => Q (retV fl) s') (fun _ _ => False) s)
    (hco : scope.isCoroutine = false := by rfl) (hgen : scope.isGenerator = false := by rfl) (hk : scope.kind = .function := by rfl) : SpecZ w h₀ f vs kw D U news Post := by
  intro dp un gd cn cs a ccd cl outer L m s frs Q E hcs F N Fs ap hD hU ret
  have X := B.k.keeps F.keep
  obtain ⟨oL, es, ep, hL, hLd, hLk, hLf⟩ := F.ns
  have hLt := Heap.lt_size hL
  have hkm : (envX cn cs L a ccd cl).scope.kind ≠ .module := by
    show cs.kind ≠ .module
    rw [hcs]; decide
  refine wpAny_call (codeAny_call_function (Nat.lt_of_le_of_lt (Nat.le_add_right dp D) hD) (X _ _ ho) rfl hco hgen rfl (codeRec_of X hcd) (BindsTo.of_eq hbind _ _ _ _ ?_))
  refine wpAny_newFunctionEnv_cells hk (kindsX hkind _) fun env' he s' x => ?_
  subst he
  refine ⟨(B.t.nolimit.keeps F.keep).keeps x.toInCall.keep, codeAny_func ?_⟩
  obtain ⟨h₁, tk, rfl, _⟩ := x.done
  have hk₁ := x.toInCall.keep
  obtain ⟨cells, NC, Y⟩ := Cl.news (h₀ := s.heap) (Nat.le_refl _) fun n c hm => ⟨x.cell n c (lookup_of_mem_nodup (cellsFrom_names scope.names 0 (s.heap.objs.size + 1) [] [] rfl ▸ hnd) hm), x.above n c hm⟩
  have F' : Fr h₀ s.heap.objs.size h₁ (bindL (envOfC qual scope s.heap.objs.size f cdv).kindOf binds fun _ => none) := ⟨x.toInCall.ns, fun b o e => hk₁ b o (F.keep b o e), Nat.le_trans F.above (Nat.le_of_lt hLt)⟩
  have ap' : Apart news s.heap.objs.size ((L, oL) :: frs) := fun p hp => by
    intro hm
    rcases List.mem_cons.mp hm with e | hm
    · have := Heap.lt_size (N p (List.mem_append_left _ hp)).1
      rw [e] at this; exact Nat.lt_irrefl _ this
    · exact ap p hp hm
  have lt' : ∀ p ∈ news ++ (L, oL) :: frs, p.1 < s.heap.objs.size := fun p hp => by
    rcases List.mem_append.mp hp with hp | hp
    · exact Heap.lt_size (N p (List.mem_append_left _ hp)).1
    · rcases List.mem_cons.mp hp with rfl | hp
      · exact hLt
      · exact Heap.lt_size (N p (List.mem_append_right _ hp)).1
  have N' : News h₀ s.heap.objs.size h₁ (cells ++ (news ++ (L, oL) :: frs)) := fun p hp => by
    have main : ∀ p ∈ news ++ frs, h₁.get? p.1 = some p.2 ∧ p.1 ≠ s.heap.objs.size ∧ h₀.get? p.1 = none := fun p hp => by
      obtain ⟨x1, _, x3⟩ := N p hp
      exact ⟨hk₁ _ _ x1, Nat.ne_of_lt (Heap.lt_size x1), x3⟩
    rcases List.mem_append.mp hp with hp | hp
    · refine ⟨(NC p hp).1, (NC p hp).2.1, ?_⟩
      cases q : h₀.get? p.1 with
      | none => rfl
      | some o => have := F.keep _ _ q; rw [(NC p hp).2.2] at this; cases this
    · rcases List.mem_append.mp hp with hp | hp
      · exact main p (List.mem_append_left _ hp)
      · rcases List.mem_cons.mp hp with rfl | hp
        · exact ⟨hk₁ _ _ hL, Nat.ne_of_lt hLt, Heap.get?_none_of_le F.above⟩
        · exact main p (List.mem_append_right _ hp)
  have Fs' : Frs (envX cn cs L a ccd cl :: outer) ((L, oL) :: frs) := ⟨hkm, rfl, ⟨es, ep, hLd⟩, Fs⟩
  refine wpAny_mono (h dp un gd cn cs L a ccd cl outer s.heap.objs.size { s with heap := h₁, toks := tk } ((L, oL) :: frs) cells Q F' N' Y lt' Fs' ap' hD hU fun v h' tk' m' news' frs' SU F₂ N₂ ap₂ P => ?_) (fun fl s' x => ?_) fun _ _ x => x.elim
  · cases frs' with
    | nil => exact SU.elim
    | cons qf frs₂ =>
      obtain ⟨q1, q2⟩ := qf
      obtain ⟨e1, ⟨sl, e2⟩, SU₂⟩ := SU
      dsimp only at e1 e2
      subst e1 e2
      have hq : q1 ∉ news'.map (·.1) := fun hm => by
        obtain ⟨p, hp, e⟩ := List.mem_map.mp hm
        exact ap₂ p hp (by rw [e]; exact .tail _ (.head _))
      have NL := N₂ (q1, { oL with slots := sl }) (List.mem_append_right _ (.head _))
      refine ret v h' tk' news' frs₂ SU₂ (Fs.up SU₂) ⟨⟨_, es, ep, NL.1, hLd, hLk, hLf⟩, F₂.keep, F.above⟩ (fun p hp => ?_) (fun p hp hm => ap₂ p hp (.tail _ hm)) P
      rcases List.mem_append.mp hp with hp | hp
      · obtain ⟨x1, _, x3⟩ := N₂ p (List.mem_append_left _ hp)
        exact ⟨x1, (fun e => hq (by rw [← e]; exact List.mem_map_of_mem hp)), x3⟩
      · obtain ⟨x1, _, x3⟩ := N₂ p (List.mem_append_right _ (.tail _ hp))
        refine ⟨x1, fun e => ?_, x3⟩
        have hm : p.1 ∈ frs.map (·.1) := by rw [← sameUp_keys SU₂]; exact List.mem_map_of_mem hp
        obtain ⟨p', hp', e'⟩ := List.mem_map.mp hm
        exact (N p' (List.mem_append_right _ hp')).2.1 (e'.trans e)
  · cases fl <;> exact x
theorem enterC {Post : Value → List (Addr × Obj) → Prop} (B : Base w mean mg mb h₀) (ho : (K w.params).lookup f = some ⟨oc, od, .func (fnOf name qual params body scope dV kV doc pm an cdv ct), osl⟩) (hcd : codeIn (K w.params) cdv qual = true)
    (hbind : bindArgs (fnOf name qual params body scope dV kV doc pm an cdv ct) ⟨vs, kw⟩ = pure binds) (hkind : (binds.all fun y => scope.names.lookup y.1 == some .local || scope.names.lookup y.1 == some .cell) = true)
    (hnd : ((cellsFrom 0 scope.names []).map (·.1)).Nodup)
    (h : ∀ (dp un : Nat) (gd : Option (List Code)) (cn : Str) (cs : Scope) (L a : Addr) (ccd : Value) (cl : List (Str × Addr)) (outer : List Env) (L' : Addr) (s : Shared) (frs cells : List (Addr × Obj)) (Q : Value → Shared → Prop),
      Fr h₀ L' s.heap (bindL (envOfC qual scope L' f cdv).kindOf binds fun _ => none) → News h₀ L' s.heap (cells ++ (news ++ frs)) →
      CellsAre (bindC (envOfC qual scope L' f cdv).kindOf binds fun _ => none) (cellsFrom (L' + 1) scope.names []) cells → (∀ p ∈ news ++ frs, p.1 < L') →
      Frs (envX cn cs L a ccd cl :: outer) frs → Apart news L' frs → dp + D < recursionLimit → un + U < cLine →
      (∀ v h' tk' m' news' frs', SameUp frs frs' → Fr h₀ L' h' m' → News h₀ L' h' (news' ++ frs') → Apart news' L' frs' → Post v news' → Q v { s with heap := h', toks := tk' }) →
      wpAny (model prg w) ((ktrTop dp un gd cn cs L a ccd cl outer).deeper (envOfC qual scope L' f cdv)) (execs body (envOfC qual scope L' f cdv)) (fun fl s' => Q (retV fl) s') (fun _ _ => False) s)
    (hco : scope.isCoroutine = false := by rfl) (hgen : scope.isGenerator = false := by rfl) (hk : scope.kind = .function := by rfl) : Spec w h₀ f vs kw D U news Post :=
  enterZ (Post := fun _ => Post) B ho hcd hbind hkind hnd h hco hgen hk
end
end Mine
end

section
set_option Elab.async false
set_option maxRecDepth 100000
set_option linter.unusedVariables false
namespace Mine
open PySem PySem.W PyProof.Rows PyProof.Rows.TI PyProof.V PySem.Calls
theorem allNe_lt {X : List (Addr × Obj)} {L c : Nat} (lt : ∀ p ∈ X, @LT.lt Nat _ p.1 L) (h : L ≤ c) : ∀ p ∈ X, p.1 ≠ c := fun p hp => Nat.ne_of_lt (Nat.lt_of_lt_of_le (lt p hp) h)
theorem allNe_cons {q : Addr × Obj} {X : List (Addr × Obj)} {c : Addr} (h1 : q.1 ≠ c) (h2 : ∀ p ∈ X, p.1 ≠ c) : ∀ p ∈ q :: X, p.1 ≠ c := fun p hp => (List.mem_cons.mp hp).elim (fun e => e ▸ h1) (h2 p)
theorem ne_gt {a b : Nat} (h : b < a) : a ≠ b := Nat.ne_of_gt h
theorem ne_lt {a b : Nat} (h : a < b) : a ≠ b := Nat.ne_of_lt h
theorem bitF {f : Int} {i : Nat} : ((f.fdiv (2 ^ (0 + (i : Int)).toNat)).fmod 2 = 1) ↔ bit f i = true := by
  rw [show (0 + (i : Int)).toNat = i by omega, Int.fdiv_eq_ediv_of_nonneg _ (Int.le_of_lt (pw2 i)), Int.fmod_eq_emod_of_nonneg _ (by decide)]
  unfold bit
  exact decide_eq_true_iff.symm
theorem bitN {f : Int} {i : Nat} (h : (f.fdiv (2 ^ (0 + (i : Int)).toNat)).fmod 2 ≠ 1) : bit f i = false := by
  cases e : bit f i
  · rfl
  · exact absurd (bitF.mpr e) h
theorem ints_snoc {vs : List Value} {ns : List Int} {n : Int} {t : Tok} (h : IntsAre vs ns) : IntsAre (vs ++ [.int n t]) (ns ++ [n]) := by
  induction h with
  | nil => exact .cons _ _ .nil
  | cons a b _ ih => exact .cons _ _ ih
theorem Apart.consGt {L l : Addr} {o : Obj} {news frs : List (Addr × Obj)} (ap : Apart news L frs) (h1 : @LT.lt Nat _ L l) (h2 : ∀ p ∈ frs, @LT.lt Nat _ p.1 L) : Apart ((l, o) :: news) L frs := by
  intro p hp
  rcases List.mem_cons.mp hp with rfl | hp
  · intro hm
    rcases List.mem_cons.mp hm with e | hm
    · exact Nat.ne_of_gt h1 e
    · obtain ⟨q, hq, e⟩ := List.mem_map.mp hm
      have := h2 q hq
      rw [e] at this
      exact Nat.lt_asymm h1 this
  · exact ap p hp
theorem Apart.appGt {L : Addr} {objs news frs : List (Addr × Obj)} (ap : Apart news L frs) (h1 : ∀ p ∈ objs, @LT.lt Nat _ L p.1) (h2 : ∀ p ∈ frs, @LT.lt Nat _ p.1 L) : Apart (objs ++ news) L frs := by
  induction objs with
  | nil => exact ap
  | cons q r ih => exact Apart.consGt (o := q.2) (l := q.1) (ih fun p hp => h1 p (.tail _ hp)) (h1 q (.head _)) h2
theorem lt_up {L : Addr} {news frs frs' : List (Addr × Obj)} (SU : SameUp frs frs') (lt : ∀ p ∈ news ++ frs, @LT.lt Nat _ p.1 L) : ∀ p ∈ news ++ frs', @LT.lt Nat _ p.1 L := by
  intro p hp
  rcases List.mem_append.mp hp with hp | hp
  · exact lt p (List.mem_append_left _ hp)
  · have hm : p.1 ∈ frs.map (·.1) := by rw [← sameUp_keys SU]; exact List.mem_map_of_mem hp
    obtain ⟨q, hq, e⟩ := List.mem_map.mp hm
    rw [← e]
    exact lt q (List.mem_append_right _ hq)
theorem News.drop2 {h₀ h : Heap} {L : Addr} {a b : Addr × Obj} {l : List (Addr × Obj)} (N : News h₀ L h (a :: b :: l)) : News h₀ L h (a :: l) := fun p hp => by
  rcases List.mem_cons.mp hp with rfl | hp
  · exact N _ (.head _)
  · exact N _ (.tail _ (.tail _ hp))
theorem turn_add {s : Shared} {h₀ h' : Heap} {L l C D I : Addr} {m : Str → Option Value} {oC ol oI : Obj} {ys : List Value} {J : List (Addr × Obj) → Prop} {tk : Nat} (pre : List (Addr × Obj)) {objs rest : List (Addr × Obj)}
    (F' : Fr h₀ L h' m) (N' : News h₀ L h' ((l, ol) :: (C, oC) :: (D, LCg.lst ys) :: (I, oI) :: (pre ++ (objs ++ rest)))) (off : ∀ p ∈ (I, oI) :: (pre ++ (objs ++ rest)), p.1 ≠ C ∧ p.1 ≠ D) (hI : ∀ p ∈ pre ++ (objs ++ rest), p.1 ≠ I)
    (h1 : @LT.lt Nat _ C l) (h2 : @LT.lt Nat _ D l) (h3 : @LT.lt Nat _ I l) (hJ : J (pre ++ (((l, ol) :: objs) ++ rest))) : CTurned s h₀ L m C oC D ys [(I, oI)] [I] J { s with heap := h', toks := tk } := by
  have key : ∀ p ∈ pre ++ (((l, ol) :: objs) ++ rest), p = (l, ol) ∨ p ∈ pre ++ (objs ++ rest) := fun p hp => by
    rcases List.mem_append.mp hp with hp | hp
    · exact .inr (List.mem_append_left _ hp)
    · rcases List.mem_cons.mp hp with rfl | hp
      · exact .inl rfl
      · exact .inr (List.mem_append_right _ hp)
  refine ⟨h', tk, pre ++ (((l, ol) :: objs) ++ rest), rfl, F', fun p hp => N' p ?_, fun p hp => ?_, hJ⟩
  · rcases List.mem_cons.mp hp with rfl | hp
    · exact .tail _ (.head _)
    · rcases List.mem_cons.mp hp with rfl | hp
      · exact .tail _ (.tail _ (.head _))
      · rcases List.mem_cons.mp hp with rfl | hp
        · exact .tail _ (.tail _ (.tail _ (.head _)))
        · rcases key p hp with rfl | hp
          · exact .head _
          · exact .tail _ (.tail _ (.tail _ (.tail _ hp)))
  · rcases key p hp with rfl | hp
    · exact ⟨Nat.ne_of_gt h1, Nat.ne_of_gt h2, fun q => Nat.ne_of_gt h3 (List.mem_singleton.mp q)⟩
    · exact ⟨(off p (.tail _ hp)).1, (off p (.tail _ hp)).2, fun q => hI p hp (List.mem_singleton.mp q)⟩
theorem gt_cons {M : Nat} {l : Addr} {o : Obj} {objs : List (Addr × Obj)} (h : M < l) (hob : ∀ p ∈ objs, @LT.lt Nat _ M p.1) : ∀ p ∈ (l, o) :: objs, @LT.lt Nat _ M p.1 := fun p hp => (List.mem_cons.mp hp).elim (fun e => e ▸ h) (hob p)
theorem ne_two {M L c : Nat} {objs rest : List (Addr × Obj)} (h1 : ∀ p ∈ objs, @LT.lt Nat _ M p.1) (h2 : ∀ p ∈ rest, @LT.lt Nat _ p.1 L) (h3 : L ≤ c) (h4 : c ≤ M) : ∀ p ∈ objs ++ rest, p.1 ≠ c := fun p hp => by
  rcases List.mem_append.mp hp with hp | hp
  · exact Nat.ne_of_gt (Nat.lt_of_le_of_lt h4 (h1 p hp))
  · exact Nat.ne_of_lt (Nat.lt_of_lt_of_le (h2 p hp) h3)
section
variable {w : World} {A : Around} {E : Value → Shared → Prop} {s : Shared} {h₀ : Heap} {L : Addr} {m : Str → Option Value} {nws : List (Addr × Obj)}
theorem cat {l b : Addr} {vs ws : List Value} {c d : Nat} {Q : Value → Shared → Prop} (F : Fr h₀ L s.heap m) (N : News h₀ L s.heap nws) (hl : (l, W.listOf vs.toArray c) ∈ nws) (hb : (b, W.listOf ws.toArray d) ∈ nws) (hsz : vs.length + ws.length ≤ 100000)
    (h : ∀ l' h', Fr h₀ L h' m → News h₀ L h' ((l', W.listOf (vs ++ ws).toArray 0) :: nws) → (∀ p ∈ nws, @LT.lt Nat _ p.1 l') → Q (.ref l') { s with heap := h' }) : wpAny (model prg w) A (binaryOp .Add (.ref l) (.ref b)) Q E s :=
  PyProof.Rows.add_lists F N (News.isList N hl) (News.isList N hb) (fun h' F' N' => h _ h' F' N' fun p hp => Heap.lt_size (N p hp).1) (Nat.le_trans hsz (by decide))
end
theorem range_size {n : Nat} (hn : n < 2 ^ 30) : Builtin.Range.small 0 n 1 = true ∧ Builtin.Range.rangeSize 0 n 1 = ((n : Nat) : Int) := by
  have e1 : Builtin.Range.rangeSize 0 n 1 = n := by
    unfold Builtin.Range.rangeSize
    simp
    omega
  refine ⟨?_, e1⟩
  unfold Builtin.Range.small
  rw [e1]
  simp [Builtin.Range.rangeFitsLong]
  omega
noncomputable def Held (P : Prop) : Prop := P
theorem hold {P : Prop} (h : Held P) : P := h
theorem lt2 (n : Nat) : n < n + 1 + 1 := by omega
theorem lt3 (n : Nat) : n < n + 1 + 1 + 1 := by omega
end Mine
end

section
set_option Elab.async false
set_option maxRecDepth 100000
set_option linter.unusedVariables false
namespace Mine
open PySem PySem.W PyProof.Rows PyProof.Rows.TI PySem.Calls PySem.Builtin PySem.Builtin.Str
theorem gives_count4 (x y : Str) (i j : Int) (t u v v' : Tok) : Gives («str.count» ⟨[.str x t, .str y u, .int i v, .int j v'], []⟩) (.int (occurrences x y (fromIndex x.length i) (min (fromIndex x.length j) x.length) (x.length + 1)).length) := by
  show Gives (retInt (occurrences x y (fromIndex x.length i) (min (fromIndex x.length j) x.length) (x.length + 1)).length) _
  exact .of_eq rfl
theorem gives_rindex4 (x y : Str) (i j : Int) (t u v v' : Tok) {k : Nat} (h : lastOccurrence x y (fromIndex x.length i) (min (fromIndex x.length j) x.length) = some k) : Gives («str.rindex» ⟨[.str x t, .str y u, .int i v, .int j v'], []⟩) (.int k) := by
  show Gives (match lastOccurrence x y (fromIndex x.length i) (min (fromIndex x.length j) x.length) with | some k => retInt k | none => (do rule "str.rindex.not-found"; raiseError "ValueError" "substring not found")) _
  rw [h]
  exact .of_eq rfl
section
variable {w : World} {A : Around} {E : Value → Shared → Prop} {s : Shared} {x y : Str} {t u v v' : Tok} {i j : Int} {Q : Value → Shared → Prop}
theorem count4 (h : Q (.int (occurrences x y (fromIndex x.length i) (min (fromIndex x.length j) x.length) (x.length + 1)).length s.toks) { s with toks := s.toks + 1 }) :
    wpAny (model prg w) A (call (.builtin "str.count") [.str x t, .str y u, .int i v, .int j v']) Q E s :=
  call_gives PySem.F.slot_str_count (typeIs_str _ _ _) PySem.F.entry_str_count (PySem.F.args_str_count_4 _ _ _ _) (gives_count4 x y i j t u v v') h
theorem rindex4 {k : Nat} (hk : lastOccurrence x y (fromIndex x.length i) (min (fromIndex x.length j) x.length) = some k) (h : Q (.int k s.toks) { s with toks := s.toks + 1 }) :
    wpAny (model prg w) A (call (.builtin "str.rindex") [.str x t, .str y u, .int i v, .int j v']) Q E s :=
  call_gives PySem.F.slot_str_rindex (typeIs_str _ _ _) PySem.F.entry_str_rindex (PySem.F.args_str_rindex_4 _ _ _ _) (gives_rindex4 x y i j t u v v' hk) h
end
end Mine
end

section
set_option Elab.async false
set_option maxRecDepth 100000
set_option linter.unusedVariables false
namespace Mine
open PySem PySem.W PyProof.Rows PyProof.Rows.TI
section
variable {w : World} {mean : ExcName → Option Value} {mg mb : Str → Option Value} {h₀ : Heap} {f : Addr} {vs : List Value} {kw : List (Str × Value)} {D U : Nat} {news : List (Addr × Obj)} {Post : Value → List (Addr × Obj) → Prop}
  {name qual : Str} {params : Arguments} {body : List Stmt} {scope : Scope} {dV kV doc pm cdv ct : Value} {an : Option Addr} {binds : List (Str × Value)} {oF : Obj} {cF : List (Str × Addr)}
/-- a call of a def that lies in the ledger -/
theorem callL (B : Base w mean mg mb h₀) (dp un : Nat) (gd : Option (List Code)) (cn : Str) (cs : Scope) (a : Addr) (ccd : Value) (cl : List (Str × Addr)) (outer : List Env) (L : Addr) (m : Str → Option Value) (s : Shared) (frs : List (Addr × Obj)) (Q E : Value → Shared → Prop)
    (hcs : cs.kind = .function) (F : Fr h₀ L s.heap m) (N : News h₀ L s.heap (news ++ frs)) (Fs : Frs outer frs) (ap : Apart news L frs) (hD : dp < recursionLimit)
    (ho : s.heap.get? f = some oF) (hdF : oF.data = .func (fnX name qual params body scope cF dV kV doc pm an cdv ct)) (hcd : s.heap.CodeRec cdv qual)
    (hbind : bindArgs (fnX name qual params body scope cF dV kV doc pm an cdv ct) ⟨vs, kw⟩ = pure binds) (hloc : (binds.all fun x => decide (scope.names.lookup x.1 = some .local)) = true)
    (h : ∀ (L' : Addr) (s₁ : Shared) (frs₁ : List (Addr × Obj)), (∃ h' tk', s₁ = { s with heap := h', toks := tk' }) →
      Fr h₀ L' s₁.heap (fun y => binds.reverse.lookup y) → News h₀ L' s₁.heap (news ++ frs₁) → Frs (envX cn cs L a ccd cl :: outer) frs₁ → Apart news L' frs₁ → (∀ p ∈ news ++ frs₁, @LT.lt Nat _ p.1 L') →
      (∀ v h' tk' m' news' frs', SameUp frs₁ frs' → Fr h₀ L' h' m' → News h₀ L' h' (news' ++ frs') → Apart news' L' frs' → (∀ frs₂, SameUp frs frs₂ → Frs outer frs₂ → Fr h₀ L h' m → News h₀ L h' (news' ++ frs₂) → Apart news' L frs₂ → Q v { s with heap := h', toks := tk' }) → Q v { s with heap := h', toks := tk' }) →
      wpAny (model prg w) ((ktrTop dp un gd cn cs L a ccd cl outer).deeper (envX qual scope L' f cdv cF)) (execs body (envX qual scope L' f cdv cF)) (fun fl s' => Q (retV fl) s') (fun _ _ => False) s₁)
    (hco : scope.isCoroutine = false := by rfl) (hgen : scope.isGenerator = false := by rfl) (hk : scope.kind = .function := by rfl) (hcell : ∀ x ∈ scope.names, x.2 ≠ .cell := by decide) :
    wpAny (model prg w) (ktrTop dp un gd cn cs L a ccd cl outer) (call (.ref f) vs kw) Q E s := by
  obtain ⟨oL, es, ep, hL, hLd, hLk, hLf⟩ := F.ns
  have hLt := Heap.lt_size hL
  have hkm : (envX cn cs L a ccd cl).scope.kind ≠ .module := by
    show cs.kind ≠ .module
    rw [hcs]; decide
  refine wpAny_call (codeAny_call_def (fd := fnX name qual params body scope cF dV kV doc pm an cdv ct) (body := body) (binds := binds) hD ho hdF (B.t.nolimit.keeps F.keep) hcd rfl (BindsTo.of_eq hbind) hcell (locs hloc) (fun h₁ hns hk₁ => ?_) hco hgen hk)
  have F' : Fr h₀ s.heap.objs.size h₁ (fun y => binds.reverse.lookup y) := ⟨hns, fun b o e => hk₁ b o (F.keep b o e), Nat.le_trans F.above (Nat.le_of_lt hLt)⟩
  have ap' : Apart news s.heap.objs.size ((L, oL) :: frs) := fun p hp => by
    intro hm
    rcases List.mem_cons.mp hm with e | hm
    · have := Heap.lt_size (N p (List.mem_append_left _ hp)).1
      rw [e] at this; exact Nat.lt_irrefl _ this
    · exact ap p hp hm
  have N' : News h₀ s.heap.objs.size h₁ (news ++ (L, oL) :: frs) := fun p hp => by
    have main : ∀ p ∈ news ++ frs, h₁.get? p.1 = some p.2 ∧ p.1 ≠ s.heap.objs.size ∧ h₀.get? p.1 = none := fun p hp => by
      obtain ⟨x1, _, x3⟩ := N p hp
      exact ⟨hk₁ _ _ x1, Nat.ne_of_lt (Heap.lt_size x1), x3⟩
    rcases List.mem_append.mp hp with hp | hp
    · exact main p (List.mem_append_left _ hp)
    · rcases List.mem_cons.mp hp with rfl | hp
      · exact ⟨hk₁ _ _ hL, Nat.ne_of_lt hLt, Heap.get?_none_of_le F.above⟩
      · exact main p (List.mem_append_right _ hp)
  have Fs' : Frs (envX cn cs L a ccd cl :: outer) ((L, oL) :: frs) := ⟨hkm, rfl, ⟨es, ep, hLd⟩, Fs⟩
  have lt' : ∀ p ∈ news ++ (L, oL) :: frs, @LT.lt Nat _ p.1 s.heap.objs.size := fun p hp => by
    rcases List.mem_append.mp hp with hp | hp
    · exact Heap.lt_size (N p (List.mem_append_left _ hp)).1
    · rcases List.mem_cons.mp hp with rfl | hp
      · exact hLt
      · exact Heap.lt_size (N p (List.mem_append_right _ hp)).1
  refine wpAny_mono (h s.heap.objs.size { s with heap := h₁, toks := s.toks + binds.length } ((L, oL) :: frs) ⟨_, _, rfl⟩ F' N' Fs' ap' lt' fun v h' tk' m' news' frs' SU F₂ N₂ ap₂ fin => ?_) (fun fl s' x => ?_) fun _ _ x => x.elim
  · cases frs' with
    | nil => exact SU.elim
    | cons qf frs₂ =>
      obtain ⟨q1, q2⟩ := qf
      obtain ⟨e1, ⟨sl, e2⟩, SU₂⟩ := SU
      dsimp only at e1 e2
      subst e1 e2
      have hq : q1 ∉ news'.map (·.1) := fun hm => by
        obtain ⟨p, hp, e⟩ := List.mem_map.mp hm
        exact ap₂ p hp (by rw [e]; exact .tail _ (.head _))
      have NL := N₂ (q1, { oL with slots := sl }) (List.mem_append_right _ (.head _))
      refine fin frs₂ SU₂ (Fs.up SU₂) ⟨⟨_, es, ep, NL.1, hLd, hLk, hLf⟩, F₂.keep, F.above⟩ (fun p hp => ?_) (fun p hp hm => ap₂ p hp (.tail _ hm))
      rcases List.mem_append.mp hp with hp | hp
      · obtain ⟨x1, _, x3⟩ := N₂ p (List.mem_append_left _ hp)
        exact ⟨x1, (fun e => hq (by rw [← e]; exact List.mem_map_of_mem hp)), x3⟩
      · obtain ⟨x1, _, x3⟩ := N₂ p (List.mem_append_right _ (.tail _ hp))
        refine ⟨x1, fun e => ?_, x3⟩
        have hm : p.1 ∈ frs.map (·.1) := by rw [← sameUp_keys SU₂]; exact List.mem_map_of_mem hp
        obtain ⟨p', hp', e'⟩ := List.mem_map.mp hm
        exact (N p' (List.mem_append_right _ hp')).2.1 (e'.trans e)
  · cases fl <;> exact x
noncomputable def Gave (h₀ : Heap) (L : Addr) (m : Str → Option Value) (news frs : List (Addr × Obj)) (outer : List Env) (x : Str) (s : Shared) (v : Value) (s' : Shared) : Prop :=
  ∃ t h' tk' frs₂, v = .str x t ∧ s' = { s with heap := h', toks := tk' } ∧ SameUp frs frs₂ ∧ Frs outer frs₂ ∧ Fr h₀ L h' m ∧ News h₀ L h' (news ++ frs₂) ∧ Apart news L frs₂
theorem callG (x : Str) (B : Base w mean mg mb h₀) (dp un : Nat) (gd : Option (List Code)) (cn : Str) (cs : Scope) (a : Addr) (ccd : Value) (cl : List (Str × Addr)) (outer : List Env) (L : Addr) (m : Str → Option Value) (s : Shared) (frs : List (Addr × Obj)) (Q E : Value → Shared → Prop)
    (hcs : cs.kind = .function) (F : Fr h₀ L s.heap m) (N : News h₀ L s.heap (news ++ frs)) (Fs : Frs outer frs) (ap : Apart news L frs) (hD : dp < recursionLimit)
    (ho : s.heap.get? f = some oF) (hdF : oF.data = .func (fnX name qual params body scope cF dV kV doc pm an cdv ct)) (hcd : s.heap.CodeRec cdv qual)
    (hbind : bindArgs (fnX name qual params body scope cF dV kV doc pm an cdv ct) ⟨vs, kw⟩ = pure binds) (hloc : (binds.all fun x => decide (scope.names.lookup x.1 = some .local)) = true)
    (h : ∀ (L' : Addr) (s₁ : Shared) (frs₁ : List (Addr × Obj)) (G : Value → Shared → Prop), (∃ h' tk', s₁ = { s with heap := h', toks := tk' }) →
      Fr h₀ L' s₁.heap (fun y => binds.reverse.lookup y) → News h₀ L' s₁.heap (news ++ frs₁) → Frs (envX cn cs L a ccd cl :: outer) frs₁ → Apart news L' frs₁ → (∀ p ∈ news ++ frs₁, @LT.lt Nat _ p.1 L') →
      (∀ t h' tk' m' frs', SameUp frs₁ frs' → Fr h₀ L' h' m' → News h₀ L' h' (news ++ frs') → G (.str x t) { s with heap := h', toks := tk' }) →
      wpAny (model prg w) ((ktrTop dp un gd cn cs L a ccd cl outer).deeper (envX qual scope L' f cdv cF)) (execs body (envX qual scope L' f cdv cF)) (fun fl s' => G (retV fl) s') (fun _ _ => False) s₁)
    (cont : ∀ t h' tk' frs₂, SameUp frs frs₂ → Frs outer frs₂ → Fr h₀ L h' m → News h₀ L h' (news ++ frs₂) → Apart news L frs₂ → Q (.str x t) { s with heap := h', toks := tk' })
    (hco : scope.isCoroutine = false := by rfl) (hgen : scope.isGenerator = false := by rfl) (hk : scope.kind = .function := by rfl) (hcell : ∀ x ∈ scope.names, x.2 ≠ .cell := by decide) :
    wpAny (model prg w) (ktrTop dp un gd cn cs L a ccd cl outer) (call (.ref f) vs kw) Q E s := by
  refine wpAny_mono (callL B dp un gd cn cs a ccd cl outer L m s frs (Gave h₀ L m news frs outer x s) E hcs F N Fs ap hD ho hdF hcd hbind hloc ?_ hco hgen hk hcell) ?_ fun _ _ h => h
  · intro L' s₁ frs₁ e F₁ N₁ Fs₁ ap₁ lt₁ fin
    refine h L' s₁ frs₁ _ e F₁ N₁ Fs₁ ap₁ lt₁ fun t h' tk' m' frs' SU F₂ N₂ => ?_
    exact fin (.str x t) h' tk' m' news frs' SU F₂ N₂ (ap₁.up SU) fun frs₂ a1 a2 a3 a4 a5 => ⟨t, h', tk', frs₂, rfl, rfl, a1, a2, a3, a4, a5⟩
  · rintro v s' ⟨t, h', tk', frs₂, rfl, rfl, a1, a2, a3, a4, a5⟩
    exact cont t h' tk' frs₂ a1 a2 a3 a4 a5
end
end Mine
end

section
set_option Elab.async false
set_option maxRecDepth 100000
set_option maxHeartbeats 2000000
set_option linter.unusedVariables false
namespace Mine
open PySem PySem.W PyProof.Rows PyProof.Rows.TI PyProof.V PySem.Calls PySem.Builtin PySem.Builtin.Str
theorem fillK8 : PySem.Challenge.rw_oh0011_01 = PySem.Challenge.rw_oh0011_01 ∧ K = K := by
  k_with_none
  k_fill
  exact ⟨rfl, rfl⟩
set_option pp.deepTerms false
set_option pp.maxSteps 600
theorem allLt_mem {d : Nat} {l : List (Addr × Obj)} (h : AllLt d l) : ∀ p ∈ l, @LT.lt Nat _ p.1 d := by
  induction l with
  | nil => exact fun p hp => nomatch hp
  | cons q r ih =>
    intro p hp
    rcases List.mem_cons.mp hp with rfl | hp
    · exact h.1
    · exact ih h.2 p hp
/-- the line (from nought on) and the column (from one on) of a place -/
noncomputable def Coord (src : Str) (pos : Int) (ln : Nat) (col : Int) : Prop :=
  (Builtin.Str.occurrences src (Str.ofString "\n") (fromIndex src.length 0) (min (fromIndex src.length pos) src.length) (src.length + 1)).length = ln ∧
    ((ln = 0 ∧ col = pos + 1) ∨ (ln ≠ 0 ∧ ∃ k : Nat, Builtin.Str.lastOccurrence src (Str.ofString "\n") (fromIndex src.length 0) (min (fromIndex src.length pos) src.length) = some k ∧ col = pos - k))
theorem log2_small {n : Int} (h : n.natAbs < 2 ^ 60) : n.natAbs.log2 < 1920 := by
  by_cases h0 : n.natAbs = 0
  · rw [h0]; decide
  · have := (Nat.log2_lt h0).mpr h
    omega
local macro_rules | `(tactic| k_all) => `(tactic| first | exact allNe_lt (by assumption) (by omega) | assumption | (refine allNe_cons (by (first | exact ne_gt (by omega) | exact ne_lt (by omega) | assumption)) ?_; k_all))
local macro_rules | `(tactic| walk_at "call ref") => `(tactic| k_extra "call ref")
local macro_rules | `(tactic| walk_at "eval Call") => `(tactic| ((with_reducible show wpAny _ _ (eval (Expr.Call (Expr.Name _ _) _ [] _) _) _ _ _); with_unfolding_all refine Call_ ?_))
noncomputable def coordText (ln : Nat) (col : Int) : Str := Str.empty ++ Str.ofString "line " ++ Str.ofString (toString ((ln : Int) + 1)) ++ Str.ofString ", column " ++ Str.ofString (toString col)
theorem coordText_len {ln : Nat} {col : Int} (h1 : ln ≤ 1048576) (h2 : 0 ≤ col) (h3 : col < 2 ^ 40) : (coordText ln col).length ≤ 60 := by
  have e1 := toString_length_le (v := (ln : Int) + 1) (by omega) (k := 10) (by decide) (by omega)
  have e2 := toString_length_le (v := col) h2 (k := 20) (by decide) (by omega)
  have e3 : (Str.ofString "line ").length = 5 := by decide
  have e4 : (Str.ofString ", column ").length = 9 := by decide
  have e5 : Str.empty.length = 0 := by decide
  unfold coordText
  simp only [Str.length_append, e3, e4, e5]
  omega
local macro_rules | `(tactic| walk_at "le") => `(tactic| k_extra "le")
local macro_rules | `(tactic| walk_at "formatField int") => `(tactic| k_extra "formatField int")
noncomputable def excO (t : Addr) : Obj := { cls := .ref 54, data := .fields #[.ref t, .none, .none, .none, .bool false, .none] }
noncomputable def tupO (vs : List Value) : Obj := { cls := .type "tuple", data := .seq vs.toArray }
noncomputable def errText (msg : Str) (ln : Nat) (col : Int) : Str := Str.empty ++ msg ++ Str.ofString " (at " ++ coordText ln col ++ Str.ofString ")"
section
variable {w : World} {mean : ExcName → Option Value} {mg mb : Str → Option Value} {A : Around} {E : Value → Shared → Prop} {s : Shared} {h₀ : Heap} {L : Addr} {m : Str → Option Value} {Q : Value → Shared → Prop}
theorem own54 (B : Base w mean mg mb h₀) : OwnCls (Str.ofString "TOMLDecodeError") 54 [.type "ValueError", .type "Exception", .type "BaseException", .type "object"] "ValueError.__new__" mg h₀ :=
  own_of_in B.k (topRead_of B.t) (by kernel_rfl) (by kernel_rfl)
theorem mk_exc (B : Base w mean mg mb h₀) (F : Fr h₀ L s.heap m) {v : Value} (h : ∀ h' e, Heap.MadeExcOf s.heap h' e (.ref 54) [v] → Q (.ref e) { s with heap := h' }) : wpAny (model prg w) A (call (.ref 54) [v]) Q E s := by
  obtain ⟨tl, N, nm, q, bs, hdct, sn, sub, ab, col, dd, k0, k1, k2, k3, k5, mN, hC, hN, hni, T⟩ := (own54 B).obj
  obtain ⟨hp, g, d, tk, os⟩ := s
  exact wpAny_call_exc_subT PySem.F.excBase_ValueError (T.keeps F.keep) (F.keep _ _ hC) (hN.keeps F.keep) hni (fun h' e hm => h h' e hm) (Nat.le_of_ble_eq_true rfl)
end
theorem se_ct {w : World} {mean : ExcName → Option Value} {mg mb : Str → Option Value} {h₀ : Heap} (B : Base w mean mg mb h₀) (C : CodeHd h₀ 84 80) (src msg : Str) (pos : Int) (t1 t2 t3 : Tok) (news : List (Addr × Obj)) (h80 : ∀ p ∈ news, p.1 ≠ 80) (hm : msg.length ≤ 100) (ln : Nat) (col : Int) (hco : Coord src pos ln col) (hp0 : 0 ≤ pos) (hp1 : pos < src.length) (hs : src.length ≤ 1048576) (hcb : 0 ≤ col ∧ col < 2 ^ 40) (hln : ln ≤ 1048576) :
    Spec w h₀ 85 [.str src t1, .int pos t2, .str msg t3] [] 2 32 ((80, tabObj #[]) :: news) (fun v news' => ∃ e t tk ps, v = .ref e ∧ news' = (e, excO t) :: (t, tupO [.str (errText msg ln col) tk]) :: (80, tabObj ps) :: news ∧ ∀ p ∈ (80, tabObj ps) :: news, p.1 ≠ e ∧ p.1 ≠ t) := by
  k_with_none
  refine enter B (by k_is) (by k_is) (binds := [(Str.ofString "src", Value.str src t1), (Str.ofString "pos", Value.int pos t2), (Str.ofString "msg", Value.str msg t3)]) (by rfl) (by rfl) ?_
  intro dp un gd cn cs L a ccd cl outer L' s frs Q F N Fs ap hD hU ret
  have X := B.k
  have T := B.t
  have h80' : ∀ p ∈ news ++ frs, p.1 ≠ 80 := fun p hp => by
    rcases List.mem_append.mp hp with hp | hp
    · exact h80 p hp
    · exact fun e => ap (80, tabObj #[]) (.head _) (.tail _ (by show (80 : Addr) ∈ List.map (·.1) frs; rw [← e]; exact List.mem_map_of_mem hp))
  simp only [List.cons_append] at N
  w_on
  conv in (fnBody 11) => whnf
  show wpAny _ _ _ _ _ _
  k_fold
  k_with "formatField str" => (refine SB.field_str (fun _ _ => ?_) (Nat.le_trans hm (by decide)))
  k_with "call ref" => (refine hold ?_)
  k_steps
  rename Fr _ _ _ _ => F'
  rename News _ _ _ _ => N'
  rename 80 < _ ∧ _ => l1
  rename_i f' c' oc' vs' t' ct' dc' _ d1' d2' l2 h' _ _
  obtain ⟨lc, la⟩ := l1
  have la' := allLt_mem la
  show wpAny _ _ _ _ _ _
  refine callG (coordText ln col) (news := (_, _) :: (_, _) :: (_, _) :: news) B _ _ _ _ _ _ _ _ _ _ _ _ _ _ _ rfl F' N' Fs ?ap ?hD (N' _ (.head _)).1 rfl (codeRec_news N' (.tail _ (.head _)) d1' d2') (binds := [(Str.ofString "src", Value.str src t1), (Str.ofString "pos", Value.int pos t2)]) rfl rfl ?body ?cont
  case ap =>
    have ap80 : ∀ o, Apart ((80, o) :: news) L' frs := fun o p hp => by
      rcases List.mem_cons.mp hp with rfl | hp
      · exact ap (80, tabObj #[]) (.head _)
      · exact ap p (.tail _ hp)
    exact Apart.cons (Apart.cons (ap80 _) (News.tail N') la' (fun p hp => List.mem_append_right _ hp)) N' (fun p hp => Nat.lt_trans (la' p hp) l2) (fun p hp => List.mem_append_right _ hp)
  case hD => show dp + 1 < recursionLimit; omega
  case body =>
    rintro L₂ s₁ frs₁ G ⟨h₃, tk₃, rfl⟩ F₂ N₂ Fs₂ ap₂ lt₂ fin
    simp only [List.cons_append] at N₂
    obtain ⟨rfl, hcase⟩ := hco
    k_with_none
    k_with "call builtin:str.count" => (refine count4 ?_)
    k_with "formatField int" => (refine wpAny_formatField_int (log2_small (by omega)) ?_)
    show wpAny _ _ _ _ _ _
    k_fold
    rcases hcase with ⟨h0, rfl⟩ | ⟨h0, k, hk, rfl⟩
    · k_steps
      · rename Fr _ _ _ _ => F₃
        rename News _ _ _ _ => N₃
        exact fin _ _ _ _ frs₁ (SameUp.refl _) F₃ N₃
      · exfalso; omega
    · k_with "call builtin:str.rindex" => (refine rindex4 hk ?_)
      k_steps
      · exfalso; omega
      · rename Fr _ _ _ _ => F₃
        rename News _ _ _ _ => N₃
        exact fin _ _ _ _ frs₁ (SameUp.refl _) F₃ N₃
  case cont =>
    rintro tv h₅ tk₅ frs₂ SU₂ Fs₂ F₅ N₅ ap₅
    have hcl := coordText_len hln hcb.1 hcb.2
    generalize hct : coordText ln col = ct at hcl ⊢
    have hcl' : ct.length ≤ sizeLine := Nat.le_trans hcl (by decide)
    have z0 : Str.empty.length = 0 := rfl
    have z1 : (Str.ofString " (at ").length = 5 := by decide
    have z2 : (Str.ofString ")").length = 1 := by decide
    have z3 : 300 ≤ sizeLine := by decide
    have hL1 : (Str.empty ++ msg ++ Str.ofString " (at " ++ ct).length ≤ sizeLine := by
      simp only [Str.length_append, z0, z1]
      omega
    have hL2 : (Str.empty ++ msg ++ Str.ofString " (at " ++ ct ++ Str.ofString ")").length ≤ sizeLine := by
      simp only [Str.length_append, z0, z1, z2]
      omega
    simp only [List.cons_append] at N₅
    k_with_none
    k_with "formatField str" => (refine SB.field_str (fun _ _ => ?_) hcl')
    k_with "le" => (first | exact hL1 | exact hL2)
    k_with "call ref" => (refine hold ?_)
    show wpAny _ _ _ _ _ _
    k_fold
    k_steps
    show wpAny _ _ _ _ _ _
    refine mk_exc B F₅ ?_
    intro h₆ e hm₆
    obtain ⟨te, he, htn, ht⟩ := hm₆.there
    have nw : ∀ b, h₅.get? b = none → b ≠ L' ∧ h₀.get? b = none := fun b hb => by
      refine ⟨fun q => ?_, ?_⟩
      · obtain ⟨o, _, _, ho, _⟩ := F₅.ns
        rw [q, ho] at hb; cases hb
      · cases q : h₀.get? b with
        | none => rfl
        | some o => rw [F₅.keep _ _ q] at hb; cases hb
    have nf : ∀ b, h₅.get? b = none → b ∉ frs₂.map (·.1) := fun b hb hm => by
      obtain ⟨p, hp, rfl⟩ := List.mem_map.mp hm
      rw [(N₅ p (.tail _ (.tail _ (.tail _ (List.mem_append_right _ hp))))).1] at hb; cases hb
    refine' ret (.ref e) h₆ _ _ ((e, excO te) :: (te, tupO [.str (errText msg ln col) _]) :: (80, tabObj (#[] ++ #[rawInt ((50 : Nat) : Int), rawInt ((4 : Nat) : Int), Value.ref f'])) :: news) frs₂ SU₂ (F₅.keeps hm₆.keeps) (fun p hp => ?N) (fun p hp => ?A) ⟨e, te, _, _, rfl, rfl, fun p hp => ?P⟩
    case P =>
      have z := (N₅ p (.tail _ (.tail _ (List.mem_append_left (as := (80, _) :: news) _ hp)))).1
      refine ⟨fun q => ?_, fun q => ?_⟩
      · rw [q, hm₆.new] at z; cases z
      · rw [q, htn] at z; cases z
    case N =>
      rcases List.mem_cons.mp hp with rfl | hp
      · exact ⟨he, nw _ hm₆.new⟩
      · rcases List.mem_cons.mp hp with rfl | hp
        · refine ⟨?_, nw _ htn⟩
          unfold errText
          rw [hct]
          exact ht
        · have z := N₅ p (.tail _ (.tail _ hp))
          exact ⟨hm₆.keeps _ _ z.1, z.2⟩
    case A =>
      rcases List.mem_cons.mp hp with rfl | hp
      · exact fun hm => (List.mem_cons.mp hm).elim (nw _ hm₆.new).1 (nf _ hm₆.new)
      · rcases List.mem_cons.mp hp with rfl | hp
        · exact fun hm => (List.mem_cons.mp hm).elim (nw _ htn).1 (nf _ htn)
        · exact ap₅ p (.tail _ (.tail _ hp))
end Mine
end

section
set_option Elab.async false
set_option maxRecDepth 100000
set_option linter.unusedVariables false
namespace Mine
open PySem PySem.W PyProof.Rows PyProof.Rows.TI PySem.Calls
/-- an exception of class 54 with this text is on its way through these frames -/
noncomputable def Fly (h₀ : Heap) (l : List Env) (e : Addr) (txt : Str) (news : List (Addr × Obj)) (h : Heap) : Prop :=
  ∃ B t tk, h₀.StaysIn B ∧ (∀ p ∈ news, B.get? p.1 = some p.2) ∧ Heap.FlyingW B l e (.ref 54) (.ref t) h ∧ h.TupAt t [.str txt tk] ∧ B.get? t = none
/-- what is left behind a frame that an exception has left -/
noncomputable def Left (h₀ : Heap) (l : List Env) (e : Addr) (txt : Str) (news frs : List (Addr × Obj)) (Q : Unit → Shared → Prop) (s : Shared) : Prop :=
  ∀ h' frs', SameUp frs frs' → Frs l frs' → (∀ p ∈ news ++ frs', h'.get? p.1 = some p.2) → h₀.StaysIn h' → Fly h₀ l e txt news h' → Q () { s with heap := h' }
section
variable {w : World} {A : Around} {E : Value → Shared → Prop} {Q : Unit → Shared → Prop} {s : Shared} {h₀ : Heap} {L e t : Addr} {m : Str → Option Value} {l : List Env} {env : Env} {news frs : List (Addr × Obj)} {txt : Str} {tk : Tok}
theorem leave_new (hfr : A.frames = some (env :: l)) (hf : env.frame = some L) (hk : env.scope.kind = .function) (F : Fr h₀ L s.heap m) (N : News h₀ L s.heap (((e, excO t) :: (t, tupO [.str txt tk]) :: news) ++ frs)) (Fs : Frs l frs)
    (ap : Apart ((e, excO t) :: (t, tupO [.str txt tk]) :: news) L frs) (hn : ∀ p ∈ news, p.1 ≠ e ∧ p.1 ≠ t) (h : Left h₀ l e txt news frs Q s) : wpAny (model prg w) A (leaving env (.ref e)) Q E s := by
  have ne := N (e, excO t) (.head _)
  have nt := N (t, tupO [.str txt tk]) (.tail _ (.head _))
  have hL₀ : ∀ b ∈ e :: t :: L :: frs.map (·.1), h₀.get? b = none := fun b hb => by
    rcases List.mem_cons.mp hb with rfl | hb
    · exact ne.2.2
    · rcases List.mem_cons.mp hb with rfl | hb
      · exact nt.2.2
      · rcases List.mem_cons.mp hb with rfl | hb
        · exact Heap.get?_none_of_le F.above
        · obtain ⟨p, hp, rfl⟩ := List.mem_map.mp hb
          exact (N p (List.mem_append_right _ hp)).2.2
  have hB0 : ∀ b ∈ e :: t :: L :: frs.map (·.1), (gone s.heap (e :: t :: L :: frs.map (·.1))).get? b = none := fun b hb => gone_none hb
  have st : h₀.StaysIn (gone s.heap (e :: t :: L :: frs.map (·.1))) := fun b o eb => (gone_get fun hb => by rw [hL₀ b hb] at eb; cases eb).trans (F.keep b o eb)
  have hnews : ∀ p ∈ news, (gone s.heap (e :: t :: L :: frs.map (·.1))).get? p.1 = some p.2 := fun p hp => by
    refine (gone_get fun hb => ?_).trans (N p (.tail _ (.tail _ (List.mem_append_left _ hp)))).1
    rcases List.mem_cons.mp hb with q | hb
    · exact (hn p hp).1 q
    · rcases List.mem_cons.mp hb with q | hb
      · exact (hn p hp).2 q
      · exact ap p (.tail _ (.tail _ hp)) hb
  have hkm : env.scope.kind ≠ .module := by rw [hk]; decide
  have ff : s.heap.FunFrames (gone s.heap (e :: t :: L :: frs.map (·.1))) (env :: l) :=
    Heap.FunFrames.cons hkm hf F.ns (hB0 L (.tail _ (.tail _ (.head _)))) (Fs.fun fun p hp => ⟨(N p (List.mem_append_right _ hp)).1, hB0 p.1 (.tail _ (.tail _ (.tail _ (List.mem_map_of_mem hp))))⟩)
  refine wpAny_leaving_firstW (a0 := .ref t) (vs := #[.ref t, .none, .none, .none, .bool false, .none]) hfr ff hf ne.1 (fun b o eb => (gone_some eb).2) (hB0 e (.head _)) rfl rfl rfl fun h' hLf => ?_
  obtain ⟨k1, ⟨_, _, k2⟩, k3, k4⟩ := hLf
  obtain ⟨frs', SU, ht⟩ := sameUp_of (h' := h') fun p hp => k4 p.1 p.2 (N p (List.mem_append_right _ hp)).1 fun vs q => by
    obtain ⟨es, ep, hd⟩ := Fs.dict p hp
    rw [hd] at q; cases q
  refine h h' frs' SU (Fs.up SU) (fun p hp => ?_) (fun b o eb => k1 b o (st b o eb)) ⟨_, t, tk, st, hnews, ⟨k1, hB0 e (.head _), k2, k3⟩, ?_, hB0 t (.tail _ (.head _))⟩
  · rcases List.mem_append.mp hp with hp | hp
    · exact k1 _ _ (hnews p hp)
    · exact ht p hp
  · exact Heap.TupAt.of_slots (h := s.heap) ⟨_, _, nt.1, rfl, rfl⟩ k4
theorem leave_on (hfr : A.frames = some (env :: l)) (hf : env.frame = some L) (N : ∀ p ∈ frs, s.heap.get? p.1 = some p.2) (Fs : Frs l frs) (fl : Fly h₀ (env :: l) e txt news s.heap) (h : Left h₀ l e txt news frs Q s) : wpAny (model prg w) A (leaving env (.ref e)) Q E s := by
  obtain ⟨B, t, tk, st, hnews, hfl, htup, htn⟩ := fl
  refine wpAny_leaves_onW hfr hf hfl fun h' hfl' k4 => ?_
  obtain ⟨frs', SU, ht⟩ := sameUp_of (h' := h') fun p hp => k4 p.1 p.2 (N p hp) fun vs q => by
    obtain ⟨es, ep, hd⟩ := Fs.dict p hp
    rw [hd] at q; cases q
  refine h h' frs' SU (Fs.up SU) (fun p hp => ?_) (fun b o eb => hfl'.1 b o (st b o eb)) ⟨B, t, tk, st, hnews, hfl', htup.of_slots k4, htn⟩
  rcases List.mem_append.mp hp with hp | hp
  · exact hfl'.1 _ _ (hnews p hp)
  · exact ht p hp
end
end Mine
end

section
set_option Elab.async false
set_option maxRecDepth 100000
set_option linter.unusedVariables false
namespace Mine
open PySem PySem.W PyProof.Rows PyProof.Rows.TI PySem.Calls
/-- a call of f by vs from any frame: it raises class 54; Post speaks of the text and of the ledger -/
noncomputable def SpecR (w : World) (h₀ : Heap) (f : Addr) (vs : List Value) (kw : List (Str × Value)) (D U : Nat) (news : List (Addr × Obj)) (Post : Str → List (Addr × Obj) → Prop) : Prop :=
  ∀ (dp un : Nat) (gd : Option (List Code)) (cn : Str) (cs : Scope) (a : Addr) (ccd : Value) (cl : List (Str × Addr)) (outer : List Env) (L : Addr) (m : Str → Option Value) (s : Shared) (frs : List (Addr × Obj)) (Q E : Value → Shared → Prop),
    cs.kind = .function → Fr h₀ L s.heap m → News h₀ L s.heap (news ++ frs) → Frs outer frs → Apart news L frs → dp + D < recursionLimit → un + U < cLine →
    (∀ e txt h' tk' news' frs', SameUp frs frs' → Frs outer frs' → Fr h₀ L h' m → News h₀ L h' (news' ++ frs') → Apart news' L frs' → Fly h₀ (envX cn cs L a ccd cl :: outer) e txt news' h' → Post txt news' → E (.ref e) { s with heap := h', toks := tk' }) →
    wpAny (model prg w) (ktrTop dp un gd cn cs L a ccd cl outer) (call (.ref f) vs kw) Q E s
section
variable {w : World} {mean : ExcName → Option Value} {mg mb : Str → Option Value} {h₀ : Heap} {f : Addr} {vs : List Value} {kw : List (Str × Value)} {D U : Nat} {news : List (Addr × Obj)} {Post : Str → List (Addr × Obj) → Prop}
  {name qual : Str} {params : Arguments} {body : List Stmt} {scope : Scope} {dV kV doc pm cdv ct oc : Value} {an od : Option Addr} {osl : Array (Option Value)} {binds : List (Str × Value)}
theorem enterR (B : Base w mean mg mb h₀) (ho : (K w.params).lookup f = some ⟨oc, od, .func (fnOf name qual params body scope dV kV doc pm an cdv ct), osl⟩) (hcd : codeIn (K w.params) cdv qual = true)
    (hbind : bindArgs (fnOf name qual params body scope dV kV doc pm an cdv ct) ⟨vs, kw⟩ = pure binds) (hloc : (binds.all fun x => decide (scope.names.lookup x.1 = some .local)) = true)
    (h : ∀ (dp un : Nat) (gd : Option (List Code)) (cn : Str) (cs : Scope) (L a : Addr) (ccd : Value) (cl : List (Str × Addr)) (outer : List Env) (L' : Addr) (s : Shared) (frs : List (Addr × Obj)) (X : Value → Shared → Prop),
      Fr h₀ L' s.heap (fun y => binds.reverse.lookup y) → News h₀ L' s.heap (news ++ frs) → Frs (envX cn cs L a ccd cl :: outer) frs → Apart news L' frs → dp + D < recursionLimit → un + U < cLine →
      (∀ e t txt tk h' tk' m' news' frs', SameUp frs frs' → Fr h₀ L' h' m' → News h₀ L' h' (((e, excO t) :: (t, tupO [.str txt tk]) :: news') ++ frs') → Apart ((e, excO t) :: (t, tupO [.str txt tk]) :: news') L' frs' → (∀ p ∈ news', p.1 ≠ e ∧ p.1 ≠ t) → Post txt news' → X (.ref e) { s with heap := h', toks := tk' }) →
      (∀ e txt h' tk' m' news' frs', SameUp frs frs' → Fr h₀ L' h' m' → News h₀ L' h' (news' ++ frs') → Apart news' L' frs' → Fly h₀ (envOf qual scope L' f cdv :: envX cn cs L a ccd cl :: outer) e txt news' h' → Post txt news' → X (.ref e) { s with heap := h', toks := tk' }) →
      PassesOwn (model prg w) ((ktrTop dp un gd cn cs L a ccd cl outer).deeper (envOf qual scope L' f cdv)) (envOf qual scope L' f cdv) X →
      (∀ hd, PassesOwnAt (model prg w) (((ktrTop dp un gd cn cs L a ccd cl outer).deeper (envOf qual scope L' f cdv)).mark hd) ((ktrTop dp un gd cn cs L a ccd cl outer).deeper (envOf qual scope L' f cdv)) (envOf qual scope L' f cdv) X) →
      wpAny (model prg w) ((ktrTop dp un gd cn cs L a ccd cl outer).deeper (envOf qual scope L' f cdv)) (execs body (envOf qual scope L' f cdv)) (fun _ _ => False) X s)
    (hco : scope.isCoroutine = false := by rfl) (hgen : scope.isGenerator = false := by rfl) (hk : scope.kind = .function := by rfl) (hcell : ∀ x ∈ scope.names, x.2 ≠ .cell := by decide) : SpecR w h₀ f vs kw D U news Post := by
  intro dp un gd cn cs a ccd cl outer L m s frs Q E hcs F N Fs ap hD hU ret
  have X := B.k.keeps F.keep
  obtain ⟨oL, es, ep, hL, hLd, hLk, hLf⟩ := F.ns
  have hLt := Heap.lt_size hL
  have hkm : (envX cn cs L a ccd cl).scope.kind ≠ .module := by
    show cs.kind ≠ .module
    rw [hcs]; decide
  refine wpAny_call (codeAny_call_def (fd := fnOf name qual params body scope dV kV doc pm an cdv ct) (body := body) (binds := binds) (Nat.lt_of_le_of_lt (Nat.le_add_right dp D) hD) (X _ _ ho) rfl (B.t.nolimit.keeps F.keep) (codeRec_of X hcd) rfl (BindsTo.of_eq hbind) hcell (locs hloc) (fun h₁ hns hk₁ => ?_) hco hgen hk)
  have F' : Fr h₀ s.heap.objs.size h₁ (fun y => binds.reverse.lookup y) := ⟨hns, fun b o e => hk₁ b o (F.keep b o e), Nat.le_trans F.above (Nat.le_of_lt hLt)⟩
  have ap' : Apart news s.heap.objs.size ((L, oL) :: frs) := fun p hp => by
    intro hm
    rcases List.mem_cons.mp hm with e | hm
    · have := Heap.lt_size (N p (List.mem_append_left _ hp)).1
      rw [e] at this; exact Nat.lt_irrefl _ this
    · exact ap p hp hm
  have N' : News h₀ s.heap.objs.size h₁ (news ++ (L, oL) :: frs) := fun p hp => by
    have main : ∀ p ∈ news ++ frs, h₁.get? p.1 = some p.2 ∧ p.1 ≠ s.heap.objs.size ∧ h₀.get? p.1 = none := fun p hp => by
      obtain ⟨x1, _, x3⟩ := N p hp
      exact ⟨hk₁ _ _ x1, Nat.ne_of_lt (Heap.lt_size x1), x3⟩
    rcases List.mem_append.mp hp with hp | hp
    · exact main p (List.mem_append_left _ hp)
    · rcases List.mem_cons.mp hp with rfl | hp
      · exact ⟨hk₁ _ _ hL, Nat.ne_of_lt hLt, Heap.get?_none_of_le F.above⟩
      · exact main p (List.mem_append_right _ hp)
  have Fs' : Frs (envX cn cs L a ccd cl :: outer) ((L, oL) :: frs) := ⟨hkm, rfl, ⟨es, ep, hLd⟩, Fs⟩
  have hfr : ((ktrTop dp un gd cn cs L a ccd cl outer).deeper (envOf qual scope s.heap.objs.size f cdv)).frames = some (envOf qual scope s.heap.objs.size f cdv :: envX cn cs L a ccd cl :: outer) := Around.frames_deeper rfl
  -- behind the frame
  have out : ∀ (e : Addr) (txt : Str) (h' : Heap) (tk' : Nat) (news' frs' : List (Addr × Obj)), SameUp ((L, oL) :: frs) frs' → (∀ p ∈ news', h₀.get? p.1 = none) → Apart news' s.heap.objs.size frs' → Post txt news' →
      Left h₀ (envX cn cs L a ccd cl :: outer) e txt news' frs' (fun _ s'' => E (.ref e) s'') { s with heap := h', toks := tk' } := by
    intro e txt h' tk' news' frs' SU n0 ap₂ P h'' frs'' SU' Fs'' at'' st'' fly
    have SUU := SU.trans SU'
    cases frs'' with
    | nil => exact SUU.elim
    | cons qf frs₂ =>
      obtain ⟨q1, q2⟩ := qf
      obtain ⟨e1, ⟨sl, e2⟩, SU₂⟩ := SUU
      dsimp only at e1 e2
      subst e1 e2
      have keys := sameUp_keys SU'
      have ap₃ : ∀ p ∈ news', p.1 ∉ q1 :: frs₂.map (·.1) := fun p hp hm => ap₂ p hp (.tail _ (by rw [← keys]; exact hm))
      have NL := at'' (q1, { oL with slots := sl }) (List.mem_append_right _ (.head _))
      refine ret e txt h'' tk' news' frs₂ SU₂ (Fs.up SU₂) ⟨⟨_, es, ep, NL, hLd, hLk, hLf⟩, st'', F.above⟩ (fun p hp => ?_) ap₃ fly P
      rcases List.mem_append.mp hp with hp | hp
      · exact ⟨at'' p (List.mem_append_left _ hp), (fun q => ap₃ p hp (by rw [q]; exact .head _)), n0 p hp⟩
      · have hm : p.1 ∈ frs.map (·.1) := by rw [← sameUp_keys SU₂]; exact List.mem_map_of_mem hp
        obtain ⟨p', hp', e'⟩ := List.mem_map.mp hm
        have z := N p' (List.mem_append_right _ hp')
        exact ⟨at'' p (List.mem_append_right _ (.tail _ hp)), fun q => z.2.1 (e'.trans q), by rw [← e']; exact z.2.2⟩
  refine wpAny_mono (h dp un gd cn cs L a ccd cl outer s.heap.objs.size { s with heap := h₁, toks := s.toks + binds.length } ((L, oL) :: frs) _ F' N' Fs' ap' hD hU ?new ?on PassesOwn.leaving (fun _ => PassesOwnAt.leaving)) (fun fl s' x => x.elim) fun _ _ x => x
  case new =>
    intro e t txt tk h' tk' m' news' frs' SU F₂ N₂ ap₂ hn P
    refine leave_new hfr rfl hk F₂ N₂ (Fs'.up SU) ap₂ hn ?_
    exact out e txt h' tk' news' frs' SU (fun p hp => (N₂ p (.tail _ (.tail _ (List.mem_append_left _ hp)))).2.2) (fun p hp => ap₂ p (.tail _ (.tail _ hp))) P
  case on =>
    intro e txt h' tk' m' news' frs' SU F₂ N₂ ap₂ fly P
    refine leave_on hfr rfl (fun p hp => (N₂ p (List.mem_append_right _ hp)).1) (Fs'.up SU) fly ?_
    exact out e txt h' tk' news' frs' SU (fun p hp => (N₂ p (List.mem_append_left _ hp)).2.2) ap₂ P
end
end Mine
end

section
set_option Elab.async false
set_option maxRecDepth 100000
set_option maxHeartbeats 8000000
set_option linter.unusedVariables false
namespace Mine
open PySem PySem.W PyProof.Rows PyProof.Rows.TI
theorem fillK : PySem.Challenge.rw_oh0011_01 = PySem.Challenge.rw_oh0011_01 ∧ K = K := by
  k_with_none
  k_fill
  exact ⟨rfl, rfl⟩
noncomputable def skipTo (src chars : Str) (p : Int) : Int := p + ((src.cps.toList.drop p.toNat).takeWhile (fun c => decide (c ∈ chars.cps.toList))).length
theorem skipTo_out {src chars : Str} {p : Int} (h : (src.length : Int) ≤ p) : skipTo src chars p = p := by
  unfold skipTo
  rw [List.drop_eq_nil_of_le (by have : src.length = src.cps.toList.length := by simp [Str.length]
                                 omega)]
  simp
theorem item_cps {src : Str} {p : Int} (h0 : 0 ≤ p) (h1 : p < src.length) : ∃ c, src.cps.toList[p.toNat]? = some c ∧ Txt.item src p = ⟨#[c]⟩ := by
  have hlt : p.toNat < src.cps.size := by
    have : src.length = src.cps.size := rfl
    omega
  refine ⟨src.cps[p.toNat], by simp [hlt], item_meets h0 (by simp [hlt])⟩
theorem skipTo_no {src chars : Str} {p : Int} {c : Nat} (h0 : 0 ≤ p) (h : src.cps.toList[p.toNat]? = some c) (hc : c ∉ chars.cps.toList) : skipTo src chars p = p := by
  unfold skipTo
  obtain ⟨hl, he⟩ := List.getElem?_eq_some_iff.mp h
  rw [List.drop_eq_getElem_cons hl, he, List.takeWhile_cons]
  simp [hc]
theorem skipTo_yes {src chars : Str} {p : Int} {c : Nat} (h0 : 0 ≤ p) (h : src.cps.toList[p.toNat]? = some c) (hc : c ∈ chars.cps.toList) : skipTo src chars (p + 1) = skipTo src chars p := by
  unfold skipTo
  obtain ⟨hl, he⟩ := List.getElem?_eq_some_iff.mp h
  rw [List.drop_eq_getElem_cons hl, he, List.takeWhile_cons]
  simp only [hc, decide_true, if_true, List.length_cons]
  have e : (p + 1).toNat = p.toNat + 1 := by omega
  rw [e]
  omega
theorem skipTo_le {src chars : Str} {p : Int} (h0 : 0 ≤ p) : p ≤ skipTo src chars p ∧ (p ≤ src.length → skipTo src chars p ≤ src.length) := by
  unfold skipTo
  refine ⟨by omega, fun h => ?_⟩
  have h1 := (List.takeWhile_sublist (p := fun c => decide (c ∈ chars.cps.toList)) (l := src.cps.toList.drop p.toNat)).length_le
  have h2 : src.length = src.cps.toList.length := by simp [Str.length]
  rw [List.length_drop] at h1
  omega
noncomputable def mSC (src chars : Str) (t1 t3 : Tok) (p : Int) (t : Tok) : Str → Option Value := fun y =>
  [(Str.ofString "chars", Value.str chars t3), (Str.ofString "pos", Value.int p t), (Str.ofString "src", Value.str src t1)].lookup y
set_option pp.deepTerms false
set_option pp.maxSteps 400
theorem passF {M : Model} {A : Around} {env : Env} : PassesOwn M A env (fun _ _ => False) := fun _ _ h => h.elim
theorem sc_ct {w : World} {mean : ExcName → Option Value} {mg mb : Str → Option Value} {h₀ : Heap} (B : Base w mean mg mb h₀) (src chars : Str) (pos : Int) (t1 t2 t3 : Tok) (news : List (Addr × Obj)) (hp0 : 0 ≤ pos) (hp1 : pos < 2 ^ 62) (hs : src.length < 2 ^ 61) :
    Spec w h₀ 64 [.str src t1, .int pos t2, .str chars t3] [] 1 8 news (fun v news' => news' = news ∧ ∃ t, v = .int (skipTo src chars pos) t) := by
  refine enter B (by k_is) (by k_is) (binds := [(Str.ofString "src", Value.str src t1), (Str.ofString "pos", Value.int pos t2), (Str.ofString "chars", Value.str chars t3)]) (by rfl) (by rfl) ?_
  intro dp un gd cn cs L a ccd cl outer L' s frs Q F N Fs ap hD hU ret
  have X := B.k
  have T := B.t
  w_on
  conv in (fnBody 8) => whnf
  k_with "exec While Compare cons nil" => (refine' While_inv2 (fun n m₁ news₁ => news₁ = news ++ frs ∧ ∃ p t, m₁ = mSC src chars t1 t3 p t ∧ pos ≤ p ∧ p < 2 ^ 62 ∧ skipTo src chars p = skipTo src chars pos ∧ n = src.length + 1 - p.toNat) (n₀ := src.length + 1 - pos.toNat) ?F ?N ?J ?turn ?pass; (case F => k_asm); (case N => k_asm); (case J => exact ⟨rfl, pos, t2, rfl, Int.le_refl _, hp1, rfl, rfl⟩); (case pass => passes_own); rintro n m₁ news₁ h₁ tk₁ F₁ N₁ ⟨rfl, p, t, rfl, hq1, hq2, hq3, hq4⟩)
  show wpAny _ _ _ _ _ _
  k_fold
  k_steps
  · rename_i hout h₂ tk₂ e₂ hx₂
    refine caught T rfl Fs hx₂ F₁ N₁ ap ?_
    intro h₃ frs₃ SU₃ F₃ N₃
    k_steps
    exact ret (.int p t) _ _ _ news frs₃ SU₃ F₃ N₃ (ap.up SU₃) ⟨rfl, t, by rw [← hq3, skipTo_out (by omega)]⟩
  · rename_i h1 h2 h3
    obtain ⟨c, hc, hi⟩ := item_cps (by omega) h2
    have hn : c ∉ chars.cps.toList := by
      have := StrLaws.found_one chars c
      rw [← hi, h3] at this
      exact of_decide_eq_false this.symm
    exact ret (.int p t) _ _ _ news frs (SameUp.refl _) F₁ N₁ ap ⟨rfl, t, by rw [← hq3, skipTo_no (by omega) hc hn]⟩
  · rename_i h1 h2 h3 h' F' N'
    obtain ⟨c, hc, hi⟩ := item_cps (by omega) h2
    have hm : c ∈ chars.cps.toList := by
      have := StrLaws.found_one chars c
      rw [← hi, h3] at this
      exact of_decide_eq_true this.symm
    refine ⟨_, _, _, _, src.length + 1 - (p + 1).toNat, rfl, F', N', by omega, rfl, p + 1, tk + 1, funext fun y => ?_, by omega, by omega, (skipTo_yes (by omega) hc hm).trans hq3, rfl⟩
    by_cases hy : y = Str.ofString "pos"
    · subst hy; rfl
    · rw [if_neg hy]
      have hb : (y == Str.ofString "pos") = false := beq_eq_false_iff_ne.mpr hy
      unfold mSC
      simp only [List.lookup_cons, hb]
end Mine
end

section
set_option Elab.async false
set_option maxRecDepth 100000
set_option maxHeartbeats 8000000
set_option linter.unusedVariables false
namespace Mine
open PySem PySem.W PyProof.Rows PyProof.Rows.TI
theorem fillK3 : PySem.Challenge.rw_oh0011_01 = PySem.Challenge.rw_oh0011_01 ∧ K = K := by
  k_with_none
  k_fill
  exact ⟨rfl, rfl⟩
noncomputable def nlPos (src : Str) (p : Int) : Int := if Txt.find3 src (Str.ofString "\n") p = -1 then src.length else Txt.find3 src (Str.ofString "\n") p
theorem nlPos_no {src : Str} {p : Int} (h : Txt.find3 src (Str.ofString "\n") p = -1) : nlPos src p = src.length := by unfold nlPos; rw [if_pos h]
theorem nlPos_yes {src : Str} {p : Int} (h : 0 ≤ Txt.find3 src (Str.ofString "\n") p) : nlPos src p = Txt.find3 src (Str.ofString "\n") p := by unfold nlPos; rw [if_neg (by omega)]
section
variable {w : World} {A : Around} {E : Value → Shared → Prop} {s : Shared} {y : Str} {k : Tok}
theorem isdisjoint_is (S : SetFact s.heap) (hh : A.handled = none) {b : Bool} (hb : (y.cps.toList.all fun c => !illegal c) = b) {Q : Value → Shared → Prop}
    (h : ∀ h' tk, (∀ b o, s.heap.get? b = some o → h'.get? b = some o) → Q (.bool b) { s with heap := h', toks := tk }) :
    wpAny (model prg w) A (call (.builtin "frozenset.isdisjoint") [.ref 44, .str y k]) Q E s := isdisjoint_ill S hh (by rw [hb]; exact h)
end
/-- no sign from p to the line's end is an illegal one -/
noncomputable def legalTo (src : Str) (p : Int) : Bool := (Txt.slice src (some p) (some (nlPos src p))).cps.toList.all fun c => !illegal c
set_option pp.deepTerms false
set_option pp.maxSteps 300
theorem su_ct {w : World} {mean : ExcName → Option Value} {mg mb : Str → Option Value} {h₀ : Heap} (B : Base w mean mg mb h₀) (src : Str) (pos : Int) (t1 t2 t3 : Tok) (news : List (Addr × Obj)) (hp0 : 0 ≤ pos) (hp1 : pos ≤ 2097152) (hs : src.length ≤ 1048576) (hok : legalTo src pos = true) :
    Spec w h₀ 71 [.str src t1, .int pos t2, .str (Str.ofString "\n") t3] [(Str.ofString "error_on", .ref 44), (Str.ofString "error_on_eof", .bool false)] 1 8 news (fun v news' => news' = news ∧ ∃ t, v = .int (nlPos src pos) t) := by
  refine enter B (by k_is) (by k_is) (binds := [(Str.ofString "src", Value.str src t1), (Str.ofString "pos", Value.int pos t2), (Str.ofString "expect", Value.str (Str.ofString "\n") t3), (Str.ofString "error_on", .ref 44), (Str.ofString "error_on_eof", .bool false)]) (by rfl) (by rfl) ?_
  intro dp un gd cn cs L a ccd cl outer L' s frs Q F N Fs ap hD hU ret
  have X := B.k
  have T := B.t
  w_on
  conv in (fnBody 9) => whnf
  show wpAny _ _ _ _ _ _
  k_fold
  k_with "call builtin:str.index" => (refine index3_or rfl (fun hf h₂ tk₂ e₂ hx₂ => have hnl := nlPos_no hf; ?_) (fun hf => have hnl := nlPos_yes hf; ?_))
  k_with "noteFrame ref" => (refine caught T rfl Fs (by assumption) (by assumption) (by assumption) ap ?_; intro h₃ frs₃ SU₃ F₃ N₃)
  k_with "getMethod ref" => (refine getMethod_isdisjoint (B.s.keeps (Fr.keep (by assumption))) ?_)
  k_with "call builtin:frozenset.isdisjoint" => (refine isdisjoint_is (B.s.keeps (Fr.keep (by assumption))) rfl (show _ = true from by rw [legalTo, hnl] at hok; exact hok) ?_; intro h₄ tk₄ kp₄; have F₄ := grow_fr (by assumption) kp₄; have N₄ := grow_nw (by assumption) kp₄)
  k_steps
  · exact ret (.int _ _) _ _ _ news frs₃ SU₃ (by assumption) (by assumption) (ap.up SU₃) ⟨rfl, _, by rw [hnl]⟩
  · exact ret (.int _ _) _ _ _ news frs (SameUp.refl _) (by assumption) (by assumption) ap ⟨rfl, _, by rw [hnl]⟩
/-- what skip_comment gives back, where it gives back -/
noncomputable def comTo (src : Str) (p : Int) : Int := if src.cps.toList[p.toNat]? = some 35 then nlPos src (p + 1) else p
theorem com_ct {w : World} {mean : ExcName → Option Value} {mg mb : Str → Option Value} {h₀ : Heap} (B : Base w mean mg mb h₀) (src : Str) (pos : Int) (t1 t2 : Tok) (news : List (Addr × Obj)) (hp0 : 0 ≤ pos) (hp1 : pos ≤ 2097151) (hs : src.length ≤ 1048576)
    (hok : src.cps.toList[pos.toNat]? = some 35 → legalTo src (pos + 1) = true) :
    Spec w h₀ 78 [.str src t1, .int pos t2] [] 2 16 news (fun v news' => news' = news ∧ ∃ t, v = .int (comTo src pos) t) := by
  refine enter B (by k_is) (by k_is) (binds := [(Str.ofString "src", Value.str src t1), (Str.ofString "pos", Value.int pos t2)]) (by rfl) (by rfl) ?_
  intro dp un gd cn cs L a ccd cl outer L' s frs Q F N Fs ap hD hU ret
  have X := B.k
  have T := B.t
  w_on
  conv in (fnBody 10) => whnf
  show wpAny _ _ _ _ _ _
  k_fold
  k_with "noteFrame ref" => (refine caught T rfl Fs (by assumption) (by assumption) (by assumption) ap ?_; intro h₃ frs₃ SU₃ F₃ N₃)
  k_steps
  · rename_i hout _ _ _ _ _ _ F' N'
    have hno : src.cps.toList[pos.toNat]? = none := List.getElem?_eq_none_iff.mpr (by
      have : src.length = src.cps.toList.length := by simp [Str.length]
      omega)
    exact ret (.int pos t2) _ _ _ news frs₃ SU₃ F' N' (ap.up SU₃) ⟨rfl, t2, by unfold comTo; rw [hno]; rfl⟩
  · rename_i _ h2 _ F' N' hc
    obtain ⟨c, hcc, hi⟩ := item_cps hp0 h2
    have he : c = 35 := by
      rw [hi, beq_iff_eq, show Str.ofString "#" = ⟨#[35]⟩ from by decide +kernel] at hc
      have := congrArg Str.cps hc
      simpa using this
    subst he
    refine (su_ct B src (pos + 1) _ _ _ news (by omega) (by omega) hs (hok hcc)) _ _ _ _ _ _ _ _ _ _ _ _ _ _ _ rfl F' N' Fs ap (by show dp + 1 + 1 < recursionLimit; omega) (by show un + 3 + 8 < cLine; omega) ?_
    rintro v h₅ tk₅ news₅ frs₅ SU₅ Fs₅ F₅ N₅ ap₅ ⟨rfl, t₅, rfl⟩
    exact ret (.int (nlPos src (pos + 1)) t₅) _ _ _ news₅ frs₅ SU₅ F₅ N₅ ap₅ ⟨rfl, t₅, by unfold comTo; rw [if_pos hcc]⟩
  · rename_i _ h2 _ F' N' hc
    obtain ⟨c, hcc, hi⟩ := item_cps hp0 h2
    have he : c ≠ 35 := by
      rintro rfl
      rw [hi] at hc
      exact absurd hc (by decide)
    exact ret (.int pos t2) _ _ _ news frs (SameUp.refl _) F' N' ap ⟨rfl, t2, by unfold comTo; rw [if_neg (by rw [hcc]; intro q; exact he (Option.some.inj q))]⟩
end Mine
end

section
set_option Elab.async false
set_option maxRecDepth 100000
set_option linter.unusedVariables false
namespace Mine
open PySem PySem.W PyProof.Rows PyProof.Rows.TI
/-- the first illegal sign behind pos stands at p, within the line -/
structure BadAt (src : Str) (pos p : Int) (c : Nat) : Prop where
  le : pos ≤ p
  at' : src.cps.toList[p.toNat]? = some c
  ill : illegal c = true
  legal : ∀ j, pos ≤ j → j < p → ∀ d, src.cps.toList[j.toNat]? = some d → illegal d = false
  lt : p < nlPos src pos
  nl : nlPos src pos ≤ src.length
theorem BadAt.not {src : Str} {pos p : Int} {c : Nat} (b : BadAt src pos p c) (h0 : 0 ≤ pos) : legalTo src pos = false := by
  unfold legalTo
  have h1 := b.le
  have h2 := b.lt
  have h3 := b.nl
  have hl : src.length = src.cps.toList.length := by simp [Str.length]
  rw [beq_iff_eq.mp (slice_closes (x := src) (i := pos) (j := nlPos src pos) ⟨h0, by omega, by omega⟩)]
  rw [List.all_eq_false]
  refine ⟨c, ?_, by rw [b.ill]; decide⟩
  refine List.mem_of_getElem? (i := (p - pos).toNat) ?_
  rw [List.getElem?_take, if_pos (by omega), List.getElem?_drop, show pos.toNat + (p - pos).toNat = p.toNat by omega]
  exact b.at'
end Mine
end

section
open Mine
local macro_rules | `(tactic| walk_at "call ref") => `(tactic| k_extra "call ref")
local macro_rules | `(tactic| walk_at "eval Call") => `(tactic| ((with_reducible show wpAny _ _ (eval (Expr.Call (Expr.Name _ _) _ [] _) _) _ _ _); with_unfolding_all refine Call_ ?_))

section
set_option Elab.async false
set_option maxRecDepth 100000
set_option maxHeartbeats 8000000
set_option linter.unusedVariables false
namespace Mine
open PySem PySem.W PyProof.Rows PyProof.Rows.TI
theorem fillK9 : PySem.Challenge.rw_oh0011_01 = PySem.Challenge.rw_oh0011_01 ∧ K = K := by
  k_with_none
  k_fill
  exact ⟨rfl, rfl⟩
set_option pp.deepTerms false
set_option pp.maxSteps 400
theorem unhold {P : Prop} (h : P) : Held P := h
theorem notin_item {w : World} {A : Around} {E : Value → Shared → Prop} {s : Shared} {src : Str} {q : Int} {d : Nat} {k : Tok} (hi : Txt.item src q = ⟨#[d]⟩) (S : SetFact s.heap) {Q : Value → Shared → Prop} (h : Q (.bool (!illegal d)) { s with toks := s.toks + 1 }) : wpAny (model prg w) A (compareOp .NotIn (.str (Txt.item src q) k) (.ref 44)) Q E s := by
  rw [hi]; exact notin_ill S h
local macro_rules | `(tactic| walk_at "compareOp NotIn str ref") => `(tactic| k_extra "compareOp NotIn str ref")
theorem rep_len {d : Nat} (hi : illegal d = true) : (reprText ⟨#[d]⟩).length ≤ 8 := by
  have hk : ∀ d, d < 128 → illegal d = true → (reprText ⟨#[d]⟩).length ≤ 8 := by decide +kernel
  refine hk d ?_ hi
  unfold illegal at hi
  simp at hi
  omega
local macro_rules | `(tactic| walk_at "pyReprObj str") => `(tactic| k_extra "pyReprObj str")
noncomputable def badMsg (c : Nat) : Str := Str.empty ++ Str.ofString "Found invalid character " ++ reprText ⟨#[c]⟩
theorem msg_len {d : Nat} (hi : illegal d = true) : (badMsg d).length ≤ 100 := by
  have := rep_len hi
  unfold badMsg
  simp only [Str.length_append, show Str.empty.length = 0 from rfl, show (Str.ofString "Found invalid character ").length = 24 from by decide]
  omega
local macro_rules | `(tactic| walk_at "le") => `(tactic| k_extra "le")
local macro_rules | `(tactic| walk_at "formatField str") => `(tactic| k_extra "formatField str")
theorem raise_obj {w : World} {mean : ExcName → Option Value} {mg mb : Str → Option Value} {A : Around} {E : Value → Shared → Prop} {s : Shared} {h₀ : Heap} {Q : Flow → Shared → Prop} {x : Expr} {pos : Pos} {env : Env} (B : Base w mean mg mb h₀) (hh : A.handled = none)
    (h : wpAny (model prg w) A (eval x env) (fun v s₁ => ∃ e t, v = .ref e ∧ (∀ b o, h₀.get? b = some o → s₁.heap.get? b = some o) ∧ s₁.heap.get? e = some (excO t) ∧ E (.ref e) s₁) E s) : wpAny (model prg w) A (exec (.Raise (some x) none pos) env) Q E s := by
  obtain ⟨bm, N, nm, q, bs, hdct, sn, sub, ab, col, dd, k0, k1, k2, k3, k5, mN, hC, hN, hni, T⟩ := (own54 B).obj
  show wpAny _ A (do standAt pos; raiseStmt env (some (do let v ← eval x env; standAt pos; pure v)) none) Q E s
  refine wpAny_bind (wpAny_standAt (wpAny_raiseStmt_made_sub (C := 54) (nm := nm) (q := q) (N := N) (bs := bs) (bm := bm) (hdct := hdct) (sn := sn) (sub := sub) (ab := ab) (col := col) (dd := dd) (k0 := k0) (k1 := k1) (k2 := k2) (k3 := k3) (k5 := k5) (newId := "ValueError.__new__") (T.hasType (by rfl)) hh (wpAny_bind (wpAny_mono h (fun v s₁ h₁ => wpAny_bind (wpAny_standAt (wpAny_pure ?_))) fun _ _ x => x))))
  obtain ⟨e, t, rfl, hk, he, hE⟩ := h₁
  exact ⟨e, t, rfl, hk _ _ hC, he, hE⟩
theorem repr_gen {w : World} {A : Around} {E : Value → Shared → Prop} {s : Shared} {src : Str} {q : Int} {d : Nat} {u : Tok} (hi : Txt.item src q = ⟨#[d]⟩) (hl : illegal d = true) {Q : Value → Shared → Prop} (h : ∀ y t k, y.length ≤ 8 → y = reprText ⟨#[d]⟩ → Q (.str y t) { s with toks := k }) : wpAny (model prg w) A (pyReprObj (.str (Txt.item src q) u)) Q E s := by
  rw [hi]
  exact pyReprObj_str (h _ _ _ (rep_len hl) rfl) (Nat.le_trans (rep_len hl) (by decide))
theorem msg_fits {y : Str} (h : y.length ≤ 8) : (Str.empty ++ Str.ofString "Found invalid character " ++ y).length ≤ sizeLine := by
  simp only [Str.length_append, show Str.empty.length = 0 from rfl, show (Str.ofString "Found invalid character ").length = 24 from by decide]
  exact Nat.le_trans (by omega : _ ≤ 100) (by decide)
local macro_rules | `(tactic| walk_at "joinParts") => `(tactic| k_extra "joinParts")
noncomputable def suWh : Stmt := match fnBody 9 with
  | [_, .If _ (x :: _) _ _, _] => x
  | x :: _ => x
  | [] => .Pass default
noncomputable def suRaise : List Stmt := match fnBody 9 with
  | [_, .If _ (_ :: x) _ _, _] => x
  | _ => []
theorem su_loop {w : World} {mean : ExcName → Option Value} {mg mb : Str → Option Value} {h₀ : Heap} (B : Base w mean mg mb h₀) (C : CodeHd h₀ 84 80) (src : Str) (pos : Int) (t1 t2 : Tok) (news : List (Addr × Obj)) (h80 : ∀ p ∈ news, p.1 ≠ 80) (hp0 : 0 ≤ pos) (hp1 : pos ≤ 2097152) (hs : src.length ≤ 1048576) (p₁ : Int) (c₁ : Nat) (hB : BadAt src pos p₁ c₁) (ln : Nat) (col : Int) (hco : Coord src p₁ ln col) (hcb : 0 ≤ col ∧ col < 2 ^ 40) (hln : ln ≤ 1048576)
    (dp un : Nat) (gd : Option (List Code)) (cn : Str) (cs : Scope) (L a : Addr) (ccd : Value) (cl : List (Str × Addr)) (outer : List Env) (L' : Addr) (s : Shared) (frs₃ : List (Addr × Obj)) (E : Value → Shared → Prop) (Q : Flow → Shared → Prop) (m : Str → Option Value) (hD : dp + 3 < recursionLimit) (hU : un + 48 < cLine)
    (F₄ : Fr h₀ L' s.heap m) (N₄ : News h₀ L' s.heap ((80, tabObj #[]) :: news ++ frs₃)) (Fs : Frs (envX cn cs L a ccd cl :: outer) frs₃) (ap : Apart ((80, tabObj #[]) :: news) L' frs₃)
    (hm1 : m (Str.ofString "pos") = some (.int pos t2)) (hm2 : m (Str.ofString "src") = some (.str src t1)) (hm3 : m (Str.ofString "error_on") = some (.ref 44))
    (raiseNew : ∀ e t txt tk h' tk' m' news' frs', SameUp frs₃ frs' → Fr h₀ L' h' m' → News h₀ L' h' (((e, excO t) :: (t, tupO [.str txt tk]) :: news') ++ frs') → Apart ((e, excO t) :: (t, tupO [.str txt tk]) :: news') L' frs' → (∀ p ∈ news', p.1 ≠ e ∧ p.1 ≠ t) → (txt = errText (badMsg c₁) ln col ∧ ∃ ps, news' = (80, tabObj ps) :: news) → E (.ref e) { s with heap := h', toks := tk' })
    (pass : PassesOwn (model prg w) ((ktrTop dp un gd cn cs L a ccd cl outer).deeper (envOf (Str.ofString "skip_until") (fnScope 9) L' 71 (.ref 70))) (envOf (Str.ofString "skip_until") (fnScope 9) L' 71 (.ref 70)) E)
    (hQ : ∀ s', wpAny (model prg w) ((ktrTop dp un gd cn cs L a ccd cl outer).deeper (envOf (Str.ofString "skip_until") (fnScope 9) L' 71 (.ref 70))) (execs suRaise (envOf (Str.ofString "skip_until") (fnScope 9) L' 71 (.ref 70))) (fun _ _ => False) E s' → Q .next s') :
    wpAny (model prg w) ((ktrTop dp un gd cn cs L a ccd cl outer).deeper (envOf (Str.ofString "skip_until") (fnScope 9) L' 71 (.ref 70))) (exec suWh (envOf (Str.ofString "skip_until") (fnScope 9) L' 71 (.ref 70))) Q E s := by
  k_with_none
  have X := B.k
  have T := B.t
  have hlen : p₁ < src.length := by have := hB.lt; have := hB.nl; omega
  w_on
  conv in suWh => whnf
  refine While_inv2 (fun n m₁ news₁ => news₁ = (80, tabObj #[]) :: news ++ frs₃ ∧ ∃ q t, m₁ (Str.ofString "pos") = some (.int q t) ∧ m₁ (Str.ofString "src") = some (.str src t1) ∧ m₁ (Str.ofString "error_on") = some (.ref 44) ∧ pos ≤ q ∧ q ≤ p₁ ∧ n = (p₁ - q).toNat) (n₀ := (p₁ - pos).toNat) F₄ N₄ ⟨rfl, pos, t2, hm1, hm2, hm3, Int.le_refl _, hB.le, rfl⟩ ?turn pass
  rintro n m₁ news₁ h₁ tk₁ F₁ N₁ ⟨rfl, q, t, hm1, hm2, hm3, hq1, hq2, hq3⟩
  replace F₁ := fr_pin (fr_pin (fr_pin F₁ hm1) (x := Str.ofString "src") (v := .str src t1) (by exact hm2)) (x := Str.ofString "error_on") (v := .ref 44) (by exact hm3)
  obtain ⟨d, hd, hi⟩ := item_cps (src := src) (p := q) (by omega) (by omega)
  k_with "compareOp NotIn str ref" => (refine notin_item hi (B.s.keeps (Fr.keep (by assumption))) ?_)
  show wpAny _ _ _ _ _ _
  k_fold
  k_steps
  · have hld : illegal d = true := by assumption
    have hqp : q = p₁ := by
      by_cases e : q = p₁
      · exact e
      · have := hB.legal q hq1 (by omega) d hd
        rw [hld] at this; cases this
    subst hqp
    have hdc : d = c₁ := by
      have := hB.at'
      rw [hd] at this
      exact Option.some.inj this
    subst hdc
    refine hQ _ ?_
    conv in suRaise => whnf
    refine wpAny_execs_cons ?_
    refine raise_obj B rfl ?_
    k_with "pyReprObj str" => (refine repr_gen hi (by assumption) ?_; intro _ _ _ _ _)
    k_with "formatField str" => (refine SB.field_str (fun _ _ => ?_) (Nat.le_trans (by assumption : _ ≤ 8) (by decide)))
    k_with "joinParts" => ((with_reducible show wpAny _ _ (joinParts _ (evalEach [] _)) _ _ _); refine joinParts_nil ?_ (msg_fits (by assumption)))
    k_with "call ref" => (refine hold ?_)
    show wpAny _ _ _ _ _ _
    k_fold
    k_steps
    rename_i y _ _ hy8 hy _ _
    subst hy
    refine unhold ?_
    refine se_ct B C src (badMsg d) q t1 _ _ news h80 (msg_len hld) ln col hco (by omega) (by omega) hs hcb hln _ _ _ _ _ _ _ _ _ _ _ _ _ _ _ rfl F₁ N₁ Fs ap (by show dp + 1 + 2 < recursionLimit; omega) (by show un + _ + 32 < cLine; omega) ?_
    rintro v h₅ tk₅ news₅ frs₅ SU₅ Fs₅ F₅ N₅ ap₅ ⟨e, t', tk', ps, rfl, rfl, hne⟩
    exact ⟨e, t', rfl, F₅.keep, (N₅ _ (.head _)).1, raiseNew e t' _ tk' h₅ tk₅ _ ((80, tabObj ps) :: news) frs₅ SU₅ F₅ N₅ ap₅ hne ⟨rfl, ps, rfl⟩⟩
  · rename Fr _ _ _ _ => F'
    rename News _ _ _ _ => N'
    have hld : illegal d = false := by assumption
    have hne : q ≠ p₁ := by
      rintro rfl
      have := hB.at'
      rw [hd] at this
      cases this
      rw [hB.ill] at hld
      cases hld
    exact ⟨_, _, _, _, (p₁ - (q + 1)).toNat, rfl, F', N', by omega, rfl, q + 1, _, rfl, rfl, rfl, by omega, by omega, rfl⟩
theorem su_rt {w : World} {mean : ExcName → Option Value} {mg mb : Str → Option Value} {h₀ : Heap} (B : Base w mean mg mb h₀) (C : CodeHd h₀ 84 80) (src : Str) (pos : Int) (t1 t2 t3 : Tok) (news : List (Addr × Obj)) (h80 : ∀ p ∈ news, p.1 ≠ 80) (hp0 : 0 ≤ pos) (hp1 : pos ≤ 2097152) (hs : src.length ≤ 1048576) (p₁ : Int) (c₁ : Nat) (hB : BadAt src pos p₁ c₁) (ln : Nat) (col : Int) (hco : Coord src p₁ ln col) (hcb : 0 ≤ col ∧ col < 2 ^ 40) (hln : ln ≤ 1048576) :
    SpecR w h₀ 71 [.str src t1, .int pos t2, .str (Str.ofString "\n") t3] [(Str.ofString "error_on", .ref 44), (Str.ofString "error_on_eof", .bool false)] 3 48 ((80, tabObj #[]) :: news) (fun tx news' => tx = errText (badMsg c₁) ln col ∧ ∃ ps, news' = (80, tabObj ps) :: news) := by
  k_with_none
  refine enterR B (by k_is) (by k_is) (binds := [(Str.ofString "src", Value.str src t1), (Str.ofString "pos", Value.int pos t2), (Str.ofString "expect", Value.str (Str.ofString "\n") t3), (Str.ofString "error_on", .ref 44), (Str.ofString "error_on_eof", .bool false)]) (by rfl) (by rfl) ?_
  intro dp un gd cn cs L a ccd cl outer L' s frs E F N Fs ap hD hU raiseNew raiseOn pass passAt
  have X := B.k
  have T := B.t
  have hbad := hB.not hp0
  have hlen : p₁ < src.length := by have := hB.lt; have := hB.nl; omega
  w_on
  conv in (fnBody 9) => whnf
  show wpAny _ _ _ _ _ _
  k_fold
  k_with "call builtin:str.index" => (refine index3_or rfl (fun hf h₂ tk₂ e₂ hx₂ => have hnl := nlPos_no hf; ?_) (fun hf => have hnl := nlPos_yes hf; ?_))
  k_with "noteFrame ref" => (refine caught T rfl Fs (by assumption) (by assumption) (by assumption) ap ?_ (hE := passAt _); intro h₃ frs₃ SU₃ F₃ N₃)
  k_with "getMethod ref" => (refine getMethod_isdisjoint (B.s.keeps (Fr.keep (by assumption))) ?_)
  k_with "call builtin:frozenset.isdisjoint" => (refine isdisjoint_is (B.s.keeps (Fr.keep (by assumption))) rfl (show _ = false from by rw [legalTo, hnl] at hbad; exact hbad) ?_; intro h₄ tk₄ kp₄; have F₄ := grow_fr (by assumption) kp₄; have N₄ := grow_nw (by assumption) kp₄)
  k_with "exec While Compare cons nil" => (refine hold ?_)
  k_steps
  · refine unhold ?_
    exact su_loop B C src pos t1 t2 news h80 hp0 hp1 hs p₁ c₁ hB ln col hco hcb hln dp un gd cn cs L a ccd cl outer L' _ frs₃ E _ _ hD hU F₄ N₄ (Fs.up SU₃) (ap.up SU₃) rfl rfl rfl (fun e t txt tk h' tk' m' news' frs' z => raiseNew e t txt tk h' tk' m' news' frs' (SU₃.trans z)) pass fun s' h => wpAny_mono h (fun _ _ x => x.elim) fun _ _ x => x
  · refine unhold ?_
    exact su_loop B C src pos t1 t2 news h80 hp0 hp1 hs p₁ c₁ hB ln col hco hcb hln dp un gd cn cs L a ccd cl outer L' _ frs E _ _ hD hU F₄ N₄ Fs ap rfl rfl rfl raiseNew pass fun s' h => wpAny_mono h (fun _ _ x => x.elim) fun _ _ x => x
/-- skip_comment, raising -/
theorem com_rt {w : World} {mean : ExcName → Option Value} {mg mb : Str → Option Value} {h₀ : Heap} (B : Base w mean mg mb h₀) (C : CodeHd h₀ 84 80) (src : Str) (pos : Int) (t1 t2 : Tok) (news : List (Addr × Obj)) (h80 : ∀ p ∈ news, p.1 ≠ 80) (hp0 : 0 ≤ pos) (hp1 : pos ≤ 2097151) (hs : src.length ≤ 1048576) (h35 : src.cps.toList[pos.toNat]? = some 35) (p₁ : Int) (c₁ : Nat) (hB : BadAt src (pos + 1) p₁ c₁) (ln : Nat) (col : Int) (hco : Coord src p₁ ln col) (hcb : 0 ≤ col ∧ col < 2 ^ 40) (hln : ln ≤ 1048576) :
    SpecR w h₀ 78 [.str src t1, .int pos t2] [] 4 64 ((80, tabObj #[]) :: news) (fun tx news' => tx = errText (badMsg c₁) ln col ∧ ∃ ps, news' = (80, tabObj ps) :: news) := by
  k_with_none
  refine enterR B (by k_is) (by k_is) (binds := [(Str.ofString "src", Value.str src t1), (Str.ofString "pos", Value.int pos t2)]) (by rfl) (by rfl) ?_
  intro dp un gd cn cs L a ccd cl outer L' s frs E F N Fs ap hD hU raiseNew raiseOn pass passAt
  have X := B.k
  have T := B.t
  w_on
  conv in (fnBody 10) => whnf
  show wpAny _ _ _ _ _ _
  k_fold
  k_with "noteFrame ref" => (refine caught T rfl Fs (by assumption) (by assumption) (by assumption) ap ?_ (hE := passAt _); intro h₃ frs₃ SU₃ F₃ N₃)
  k_with "call ref" => (refine hold ?_)
  k_steps
  · exfalso
    have h1 := (List.getElem?_eq_some_iff.mp h35).1
    have h2 : src.length = src.cps.toList.length := by simp [Str.length]
    omega
  · rename_i _ h2 _ F' N' hc
    refine unhold ?_
    refine su_rt B C src (pos + 1) _ _ _ news h80 (by omega) (by omega) hs p₁ c₁ hB ln col hco hcb hln _ _ _ _ _ _ _ _ _ _ _ _ _ _ _ rfl F' N' Fs ap (by show dp + 1 + 3 < recursionLimit; omega) (by show un + _ + 48 < cLine; omega) ?_
    rintro e txt h₅ tk₅ news₅ frs₅ SU₅ Fs₅ F₅ N₅ ap₅ fly₅ ⟨rfl, ps, rfl⟩
    exact raiseOn e _ h₅ tk₅ _ ((80, tabObj ps) :: news) frs₅ SU₅ F₅ N₅ ap₅ fly₅ ⟨rfl, ps, rfl⟩
  · exfalso
    rename_i _ h2 _ F' N' hc
    obtain ⟨c, hcc, hi⟩ := item_cps hp0 h2
    rw [h35] at hcc
    cases hcc
    rw [hi] at hc
    exact absurd hc (by decide)
end Mine
end

section
set_option Elab.async false
set_option maxRecDepth 100000
set_option linter.unusedVariables false
namespace Mine
open PySem PySem.W PyProof.Rows PyProof.Rows.TI PySem.Calls
section
variable {w : World} {mean : ExcName → Option Value} {mg mb : Str → Option Value} {h₀ : Heap} {f : Addr} {vs : List Value} {kw : List (Str × Value)} {D U : Nat} {news : List (Addr × Obj)} {Post : Value → List (Addr × Obj) → Prop}
  {name qual : Str} {params : Arguments} {body : List Stmt} {scope : Scope} {dV kV doc pm cdv ct oc : Value} {an od : Option Addr} {osl : Array (Option Value)} {binds : List (Str × Value)}
theorem enterL (B : Base w mean mg mb h₀) (ho : (K w.params).lookup f = some ⟨oc, od, .func (fnOf name qual params body scope dV kV doc pm an cdv ct), osl⟩) (hcd : codeIn (K w.params) cdv qual = true)
    (hbind : bindArgs (fnOf name qual params body scope dV kV doc pm an cdv ct) ⟨vs, kw⟩ = pure binds) (hloc : (binds.all fun x => decide (scope.names.lookup x.1 = some .local)) = true)
    (h : ∀ (dp un : Nat) (gd : Option (List Code)) (cn : Str) (cs : Scope) (L a : Addr) (ccd : Value) (cl : List (Str × Addr)) (outer : List Env) (L' : Addr) (s : Shared) (frs : List (Addr × Obj)) (Q : Value → Shared → Prop),
      Fr h₀ L' s.heap (fun y => binds.reverse.lookup y) → News h₀ L' s.heap (news ++ frs) → Frs (envX cn cs L a ccd cl :: outer) frs → Apart news L' frs → dp + D < recursionLimit → un + U < cLine → (∀ p ∈ news ++ frs, @LT.lt Nat _ p.1 L') →
      (∀ v h' tk' m' news' frs', SameUp frs frs' → Fr h₀ L' h' m' → News h₀ L' h' (news' ++ frs') → Apart news' L' frs' → Post v news' → Q v { s with heap := h', toks := tk' }) →
      wpAny (model prg w) ((ktrTop dp un gd cn cs L a ccd cl outer).deeper (envOf qual scope L' f cdv)) (execs body (envOf qual scope L' f cdv)) (fun fl s' => Q (retV fl) s') (fun _ _ => False) s)
    (hco : scope.isCoroutine = false := by rfl) (hgen : scope.isGenerator = false := by rfl) (hk : scope.kind = .function := by rfl) (hcell : ∀ x ∈ scope.names, x.2 ≠ .cell := by decide) : Spec w h₀ f vs kw D U news Post := by
  intro dp un gd cn cs a ccd cl outer L m s frs Q E hcs F N Fs ap hD hU ret
  have X := B.k.keeps F.keep
  obtain ⟨oL, es, ep, hL, hLd, hLk, hLf⟩ := F.ns
  have hLt := Heap.lt_size hL
  have hkm : (envX cn cs L a ccd cl).scope.kind ≠ .module := by
    show cs.kind ≠ .module
    rw [hcs]; decide
  refine wpAny_call (codeAny_call_def (fd := fnOf name qual params body scope dV kV doc pm an cdv ct) (body := body) (binds := binds) (Nat.lt_of_le_of_lt (Nat.le_add_right dp D) hD) (X _ _ ho) rfl (B.t.nolimit.keeps F.keep) (codeRec_of X hcd) rfl (BindsTo.of_eq hbind) hcell (locs hloc) (fun h₁ hns hk₁ => ?_) hco hgen hk)
  have F' : Fr h₀ s.heap.objs.size h₁ (fun y => binds.reverse.lookup y) := ⟨hns, fun b o e => hk₁ b o (F.keep b o e), Nat.le_trans F.above (Nat.le_of_lt hLt)⟩
  have ap' : Apart news s.heap.objs.size ((L, oL) :: frs) := fun p hp => by
    intro hm
    rcases List.mem_cons.mp hm with e | hm
    · have := Heap.lt_size (N p (List.mem_append_left _ hp)).1
      rw [e] at this; exact Nat.lt_irrefl _ this
    · exact ap p hp hm
  have N' : News h₀ s.heap.objs.size h₁ (news ++ (L, oL) :: frs) := fun p hp => by
    have main : ∀ p ∈ news ++ frs, h₁.get? p.1 = some p.2 ∧ p.1 ≠ s.heap.objs.size ∧ h₀.get? p.1 = none := fun p hp => by
      obtain ⟨x1, _, x3⟩ := N p hp
      exact ⟨hk₁ _ _ x1, Nat.ne_of_lt (Heap.lt_size x1), x3⟩
    rcases List.mem_append.mp hp with hp | hp
    · exact main p (List.mem_append_left _ hp)
    · rcases List.mem_cons.mp hp with rfl | hp
      · exact ⟨hk₁ _ _ hL, Nat.ne_of_lt hLt, Heap.get?_none_of_le F.above⟩
      · exact main p (List.mem_append_right _ hp)
  have lt' : ∀ p ∈ news ++ (L, oL) :: frs, @LT.lt Nat _ p.1 s.heap.objs.size := fun p hp => by
    rcases List.mem_append.mp hp with hp | hp
    · exact Heap.lt_size (N p (List.mem_append_left _ hp)).1
    · rcases List.mem_cons.mp hp with rfl | hp
      · exact hLt
      · exact Heap.lt_size (N p (List.mem_append_right _ hp)).1
  have Fs' : Frs (envX cn cs L a ccd cl :: outer) ((L, oL) :: frs) := ⟨hkm, rfl, ⟨es, ep, hLd⟩, Fs⟩
  refine wpAny_mono (h dp un gd cn cs L a ccd cl outer s.heap.objs.size { s with heap := h₁, toks := s.toks + binds.length } ((L, oL) :: frs) Q F' N' Fs' ap' hD hU lt' fun v h' tk' m' news' frs' SU F₂ N₂ ap₂ P => ?_) (fun fl s' x => ?_) fun _ _ x => x.elim
  · cases frs' with
    | nil => exact SU.elim
    | cons qf frs₂ =>
      obtain ⟨q1, q2⟩ := qf
      obtain ⟨e1, ⟨sl, e2⟩, SU₂⟩ := SU
      dsimp only at e1 e2
      subst e1 e2
      have hq : q1 ∉ news'.map (·.1) := fun hm => by
        obtain ⟨p, hp, e⟩ := List.mem_map.mp hm
        exact ap₂ p hp (by rw [e]; exact .tail _ (.head _))
      have NL := N₂ (q1, { oL with slots := sl }) (List.mem_append_right _ (.head _))
      refine ret v h' tk' news' frs₂ SU₂ (Fs.up SU₂) ⟨⟨_, es, ep, NL.1, hLd, hLk, hLf⟩, F₂.keep, F.above⟩ (fun p hp => ?_) (fun p hp hm => ap₂ p hp (.tail _ hm)) P
      rcases List.mem_append.mp hp with hp | hp
      · obtain ⟨x1, _, x3⟩ := N₂ p (List.mem_append_left _ hp)
        exact ⟨x1, (fun e => hq (by rw [← e]; exact List.mem_map_of_mem hp)), x3⟩
      · obtain ⟨x1, _, x3⟩ := N₂ p (List.mem_append_right _ (.tail _ hp))
        refine ⟨x1, fun e => ?_, x3⟩
        have hm : p.1 ∈ frs.map (·.1) := by rw [← sameUp_keys SU₂]; exact List.mem_map_of_mem hp
        obtain ⟨p', hp', e'⟩ := List.mem_map.mp hm
        exact (N p' (List.mem_append_right _ hp')).2.1 (e'.trans e)
  · cases fl <;> exact x
end
section
variable {w : World} {mean : ExcName → Option Value} {mg mb : Str → Option Value} {h₀ : Heap} {f : Addr} {vs : List Value} {kw : List (Str × Value)} {D U : Nat} {news : List (Addr × Obj)} {Post : Str → List (Addr × Obj) → Prop}
  {name qual : Str} {params : Arguments} {body : List Stmt} {scope : Scope} {dV kV doc pm cdv ct oc : Value} {an od : Option Addr} {osl : Array (Option Value)} {binds : List (Str × Value)}
theorem enterRL (B : Base w mean mg mb h₀) (ho : (K w.params).lookup f = some ⟨oc, od, .func (fnOf name qual params body scope dV kV doc pm an cdv ct), osl⟩) (hcd : codeIn (K w.params) cdv qual = true)
    (hbind : bindArgs (fnOf name qual params body scope dV kV doc pm an cdv ct) ⟨vs, kw⟩ = pure binds) (hloc : (binds.all fun x => decide (scope.names.lookup x.1 = some .local)) = true)
    (h : ∀ (dp un : Nat) (gd : Option (List Code)) (cn : Str) (cs : Scope) (L a : Addr) (ccd : Value) (cl : List (Str × Addr)) (outer : List Env) (L' : Addr) (s : Shared) (frs : List (Addr × Obj)) (X : Value → Shared → Prop),
      Fr h₀ L' s.heap (fun y => binds.reverse.lookup y) → News h₀ L' s.heap (news ++ frs) → Frs (envX cn cs L a ccd cl :: outer) frs → Apart news L' frs → dp + D < recursionLimit → un + U < cLine → (∀ p ∈ news ++ frs, @LT.lt Nat _ p.1 L') →
      (∀ e t txt tk h' tk' m' news' frs', SameUp frs frs' → Fr h₀ L' h' m' → News h₀ L' h' (((e, excO t) :: (t, tupO [.str txt tk]) :: news') ++ frs') → Apart ((e, excO t) :: (t, tupO [.str txt tk]) :: news') L' frs' → (∀ p ∈ news', p.1 ≠ e ∧ p.1 ≠ t) → Post txt news' → X (.ref e) { s with heap := h', toks := tk' }) →
      (∀ e txt h' tk' m' news' frs', SameUp frs frs' → Fr h₀ L' h' m' → News h₀ L' h' (news' ++ frs') → Apart news' L' frs' → Fly h₀ (envOf qual scope L' f cdv :: envX cn cs L a ccd cl :: outer) e txt news' h' → Post txt news' → X (.ref e) { s with heap := h', toks := tk' }) →
      PassesOwn (model prg w) ((ktrTop dp un gd cn cs L a ccd cl outer).deeper (envOf qual scope L' f cdv)) (envOf qual scope L' f cdv) X →
      (∀ hd, PassesOwnAt (model prg w) (((ktrTop dp un gd cn cs L a ccd cl outer).deeper (envOf qual scope L' f cdv)).mark hd) ((ktrTop dp un gd cn cs L a ccd cl outer).deeper (envOf qual scope L' f cdv)) (envOf qual scope L' f cdv) X) →
      wpAny (model prg w) ((ktrTop dp un gd cn cs L a ccd cl outer).deeper (envOf qual scope L' f cdv)) (execs body (envOf qual scope L' f cdv)) (fun _ _ => False) X s)
    (hco : scope.isCoroutine = false := by rfl) (hgen : scope.isGenerator = false := by rfl) (hk : scope.kind = .function := by rfl) (hcell : ∀ x ∈ scope.names, x.2 ≠ .cell := by decide) : SpecR w h₀ f vs kw D U news Post := by
  intro dp un gd cn cs a ccd cl outer L m s frs Q E hcs F N Fs ap hD hU ret
  have X := B.k.keeps F.keep
  obtain ⟨oL, es, ep, hL, hLd, hLk, hLf⟩ := F.ns
  have hLt := Heap.lt_size hL
  have hkm : (envX cn cs L a ccd cl).scope.kind ≠ .module := by
    show cs.kind ≠ .module
    rw [hcs]; decide
  refine wpAny_call (codeAny_call_def (fd := fnOf name qual params body scope dV kV doc pm an cdv ct) (body := body) (binds := binds) (Nat.lt_of_le_of_lt (Nat.le_add_right dp D) hD) (X _ _ ho) rfl (B.t.nolimit.keeps F.keep) (codeRec_of X hcd) rfl (BindsTo.of_eq hbind) hcell (locs hloc) (fun h₁ hns hk₁ => ?_) hco hgen hk)
  have F' : Fr h₀ s.heap.objs.size h₁ (fun y => binds.reverse.lookup y) := ⟨hns, fun b o e => hk₁ b o (F.keep b o e), Nat.le_trans F.above (Nat.le_of_lt hLt)⟩
  have ap' : Apart news s.heap.objs.size ((L, oL) :: frs) := fun p hp => by
    intro hm
    rcases List.mem_cons.mp hm with e | hm
    · have := Heap.lt_size (N p (List.mem_append_left _ hp)).1
      rw [e] at this; exact Nat.lt_irrefl _ this
    · exact ap p hp hm
  have N' : News h₀ s.heap.objs.size h₁ (news ++ (L, oL) :: frs) := fun p hp => by
    have main : ∀ p ∈ news ++ frs, h₁.get? p.1 = some p.2 ∧ p.1 ≠ s.heap.objs.size ∧ h₀.get? p.1 = none := fun p hp => by
      obtain ⟨x1, _, x3⟩ := N p hp
      exact ⟨hk₁ _ _ x1, Nat.ne_of_lt (Heap.lt_size x1), x3⟩
    rcases List.mem_append.mp hp with hp | hp
    · exact main p (List.mem_append_left _ hp)
    · rcases List.mem_cons.mp hp with rfl | hp
      · exact ⟨hk₁ _ _ hL, Nat.ne_of_lt hLt, Heap.get?_none_of_le F.above⟩
      · exact main p (List.mem_append_right _ hp)
  have lt' : ∀ p ∈ news ++ (L, oL) :: frs, @LT.lt Nat _ p.1 s.heap.objs.size := fun p hp => by
    rcases List.mem_append.mp hp with hp | hp
    · exact Heap.lt_size (N p (List.mem_append_left _ hp)).1
    · rcases List.mem_cons.mp hp with rfl | hp
      · exact hLt
      · exact Heap.lt_size (N p (List.mem_append_right _ hp)).1
  have Fs' : Frs (envX cn cs L a ccd cl :: outer) ((L, oL) :: frs) := ⟨hkm, rfl, ⟨es, ep, hLd⟩, Fs⟩
  have hfr : ((ktrTop dp un gd cn cs L a ccd cl outer).deeper (envOf qual scope s.heap.objs.size f cdv)).frames = some (envOf qual scope s.heap.objs.size f cdv :: envX cn cs L a ccd cl :: outer) := Around.frames_deeper rfl
  -- behind the frame
  have out : ∀ (e : Addr) (txt : Str) (h' : Heap) (tk' : Nat) (news' frs' : List (Addr × Obj)), SameUp ((L, oL) :: frs) frs' → (∀ p ∈ news', h₀.get? p.1 = none) → Apart news' s.heap.objs.size frs' → Post txt news' →
      Left h₀ (envX cn cs L a ccd cl :: outer) e txt news' frs' (fun _ s'' => E (.ref e) s'') { s with heap := h', toks := tk' } := by
    intro e txt h' tk' news' frs' SU n0 ap₂ P h'' frs'' SU' Fs'' at'' st'' fly
    have SUU := SU.trans SU'
    cases frs'' with
    | nil => exact SUU.elim
    | cons qf frs₂ =>
      obtain ⟨q1, q2⟩ := qf
      obtain ⟨e1, ⟨sl, e2⟩, SU₂⟩ := SUU
      dsimp only at e1 e2
      subst e1 e2
      have keys := sameUp_keys SU'
      have ap₃ : ∀ p ∈ news', p.1 ∉ q1 :: frs₂.map (·.1) := fun p hp hm => ap₂ p hp (.tail _ (by rw [← keys]; exact hm))
      have NL := at'' (q1, { oL with slots := sl }) (List.mem_append_right _ (.head _))
      refine ret e txt h'' tk' news' frs₂ SU₂ (Fs.up SU₂) ⟨⟨_, es, ep, NL, hLd, hLk, hLf⟩, st'', F.above⟩ (fun p hp => ?_) ap₃ fly P
      rcases List.mem_append.mp hp with hp | hp
      · exact ⟨at'' p (List.mem_append_left _ hp), (fun q => ap₃ p hp (by rw [q]; exact .head _)), n0 p hp⟩
      · have hm : p.1 ∈ frs.map (·.1) := by rw [← sameUp_keys SU₂]; exact List.mem_map_of_mem hp
        obtain ⟨p', hp', e'⟩ := List.mem_map.mp hm
        have z := N p' (List.mem_append_right _ hp')
        exact ⟨at'' p (List.mem_append_right _ (.tail _ hp)), fun q => z.2.1 (e'.trans q), by rw [← e']; exact z.2.2⟩
  refine wpAny_mono (h dp un gd cn cs L a ccd cl outer s.heap.objs.size { s with heap := h₁, toks := s.toks + binds.length } ((L, oL) :: frs) _ F' N' Fs' ap' hD hU lt' ?new ?on PassesOwn.leaving (fun _ => PassesOwnAt.leaving)) (fun fl s' x => x.elim) fun _ _ x => x
  case new =>
    intro e t txt tk h' tk' m' news' frs' SU F₂ N₂ ap₂ hn P
    refine leave_new hfr rfl hk F₂ N₂ (Fs'.up SU) ap₂ hn ?_
    exact out e txt h' tk' news' frs' SU (fun p hp => (N₂ p (.tail _ (.tail _ (List.mem_append_left _ hp)))).2.2) (fun p hp => ap₂ p (.tail _ (.tail _ hp))) P
  case on =>
    intro e txt h' tk' m' news' frs' SU F₂ N₂ ap₂ fly P
    refine leave_on hfr rfl (fun p hp => (N₂ p (List.mem_append_right _ hp)).1) (Fs'.up SU) fly ?_
    exact out e txt h' tk' news' frs' SU (fun p hp => (N₂ p (List.mem_append_left _ hp)).2.2) ap₂ P
end
end Mine
end

section
set_option Elab.async false
set_option maxRecDepth 100000
set_option maxHeartbeats 1000000
set_option linter.unusedVariables false
namespace Mine
open PySem PySem.W PyProof.Rows PyProof.Rows.TI PyProof.V PySem.Calls
theorem fillK7 : PySem.Challenge.rw_oh0011_01 = PySem.Challenge.rw_oh0011_01 ∧ K = K := by
  k_with_none
  k_fill
  exact ⟨rfl, rfl⟩
set_option pp.deepTerms false
set_option pp.maxSteps 600
local macro_rules | `(tactic| k_all) => `(tactic| first | exact allNe_lt (by assumption) (by omega) | exact ne_two (by assumption) (by assumption) (by omega) (by omega) | assumption | (refine allNe_cons (by (first | exact ne_gt (by omega) | exact ne_lt (by omega) | assumption)) ?_; k_all))
local macro_rules | `(tactic| walk_at "eval ListComp") => `(tactic| (with_unfolding_all refine compE (by assumption) (by rfl) (by decide) (by rfl) (by decide) ?_))
local macro_rules | `(tactic| walk_at "exec Assign cons ListComp") => `(tactic| (with_unfolding_all refine compA (by assumption) (by rfl) (by rfl) (by rfl) (by decide) (by rfl) (by decide) (by rfl) (by rfl) ?_))
local macro_rules | `(tactic| walk_at "subscriptTail") => `(tactic| k_extra "subscriptTail")
local macro_rules | `(tactic| walk_at "subscriptTail Name Name ref int") => `(tactic| k_extra "subscriptTail")
local macro_rules | `(tactic| walk_at "execs cons Return nil") => `(tactic| k_extra "execs cons Return nil")
/-- the numbers due and whether each has a name -/
noncomputable def dueTo (f : Int) (n : Nat) : List (Int × Bool) := ((List.range n).filter (bit f)).map fun k => (2 ^ k, decide (k < 10))
theorem dueTo_yes {f : Int} {k : Nat} (h : bit f k = true) : dueTo f (k + 1) = dueTo f k ++ [(2 ^ k, decide (k < 10))] := by
  unfold dueTo
  rw [List.range_succ, List.filter_append, List.map_append, List.filter_cons, h]; rfl
theorem dueTo_no {f : Int} {k : Nat} (h : bit f k = false) : dueTo f (k + 1) = dueTo f k := by
  unfold dueTo
  rw [List.range_succ, List.filter_append, List.filter_cons, h]; simp
noncomputable def pairD (p : Int × Bool) : Dat := .list [.int p.1, .bool p.2]
noncomputable def leadOf (x : Int) (k : Nat) : Str := if k = 0 then leadS x else Str.ofString ", "
noncomputable def entryD (x : Int) (k : Nat) (p : Int × Bool) : Dat := .list [.str (leadOf x k), .int p.1, .bool p.2]
/-- what _law_due gives -/
noncomputable def resTo (x : Int) (ps : List (Int × Bool)) (i : Nat) : List Dat := (List.range i).map fun k => entryD x k (ps.getD k (0, false))
theorem resTo_succ (x : Int) (ps : List (Int × Bool)) (i : Nat) : resTo x ps (i + 1) = resTo x ps i ++ [entryD x i (ps.getD i (0, false))] := by
  unfold resTo
  rw [List.range_succ, List.map_append]; rfl
theorem pairD_inv {objs : List (Addr × Obj)} {v : Value} {p : Int × Bool} (h : DatIn objs v (pairD p)) : ∃ a t n, v = .ref a ∧ (a, W.listOf #[.int p.1 t, .bool p.2] n) ∈ objs := by
  unfold pairD at h
  cases h with
  | list hm hd =>
    rename_i a vs n
    cases hd with
    | cons h1 hr =>
      cases hr with
      | cons h2 hr2 =>
        cases hr2
        cases h1
        cases h2
        exact ⟨_, _, _, rfl, hm⟩
theorem due_tail {w : World} {mean : ExcName → Option Value} {mg mb : Str → Option Value} {h₀ : Heap} (B : Base w mean mg mb h₀) (x : Int) (t1 : Tok) (news frs objs : List (Addr × Obj)) (dp un : Nat) (gd : Option (List Code)) (cn : Str) (cs : Scope) (L a : Addr) (ccd : Value) (cl : List (Str × Addr)) (outer : List Env) (L' Dd : Addr) (s : Shared)
    (Q : Value → Shared → Prop) (m : Str → Option Value) (VS : List Value) (c : Nat) (o3 o2 o1 : Obj) (ps : List (Int × Bool)) (h3 : o3.data = .cell (some (.ref Dd))) (h1 : o1.data = .cell (some (.int x t1))) (F : Fr h₀ L' s.heap m)
    (N : News h₀ L' s.heap ((Dd, W.listOf VS.toArray c) :: (L' + 1 + 1 + 1, o3) :: (L' + 1 + 1, o2) :: (L' + 1, o1) :: (objs ++ (news ++ frs)))) (hob : ∀ p ∈ objs, @LT.lt Nat _ (L' + 1 + 1 + 1) p.1) (lt : ∀ p ∈ news ++ frs, @LT.lt Nat _ p.1 L') (ap : Apart news L' frs)
    (hVS : DatAll objs VS (ps.map pairD)) (hlen : ps.length ≤ 33)
    (ret : ∀ v h' tk' m' news', Fr h₀ L' h' m' → News h₀ L' h' (news' ++ frs) → Apart news' L' frs → (∃ ob, news' = ob ++ news ∧ (∀ p ∈ ob, @LT.lt Nat _ L' p.1) ∧ DatIn ob v (.list (resTo x ps ps.length))) → Q v { s with heap := h', toks := tk' }) :
    wpAny (model prg w) ((ktrTop dp un gd cn cs L a ccd cl outer).deeper (envOfC (Str.ofString "_law_due") (fnScope 16) L' 109 (.ref 108))) (execs ((fnBody 16).drop 4) (envOfC (Str.ofString "_law_due") (fnScope 16) L' 109 (.ref 108))) (fun fl s' => Q (retV fl) s') (fun _ _ => False) s := by
  k_with_none
  have X := B.k
  have T := B.t
  have hvl : VS.length = ps.length := by rw [hVS.length, List.length_map]
  w_on
  conv in ((fnBody 16).drop 4) => whnf
  show wpAny _ _ _ _ _ _
  k_fold
  k_with "call builtin:len" => (refine Calls.call_len_list (News.isList (by assumption) (by k_mem)) (by simp only [Array.size_push, List.size_toArray]; omega) ?_)
  k_steps
  refine src_range (n := VS.length) (fun i ys nws => ∃ ob, nws = _ :: _ :: _ :: _ :: (ob ++ (objs ++ (news ++ frs))) ∧ (∀ p ∈ ob, @LT.lt Nat _ (L' + 1 + 1 + 1) p.1) ∧ DatAll ob ys (resTo x ps i)) rfl (by assumption) (by assumption) (by assumption) (range_size (by omega)).1 (range_size (by omega)).2 (Nat.le_trans (by omega : VS.length ≤ 100) (by decide)) (by rfl) (by rfl) ⟨[], rfl, (fun _ hp => nomatch hp), .nil⟩ ?turn ?fin
  case turn =>
    rintro i tv ys nws₁ h tk I oI C oC D m₂ E' s₂ hi ⟨ob, rfl, hob₂, hys⟩ hoC hm F₂ N₂ off hCD hI ⟨_, rfl⟩
    obtain ⟨v, hv, hvd⟩ := hVS.get (k := i) (by rw [List.length_map]; omega)
    rw [List.getElem_map] at hvd
    obtain ⟨ai, ti, ni, rfl, hai⟩ := pairD_inv hvd
    have hv' : VS.toArray[(0 + (i : Int)).toNat]? = some (.ref ai) := by
      rw [show (0 + (i : Int)).toNat = i by omega]
      simpa using hv
    refine wpAny_tests_nil ((if_pos rfl).mpr ?_)
    k_fold
    k_with "subscriptTail" => (refine lead_item (News.get (by assumption) (.head _)) ?_; intro _)
    k_with "subscriptTail" => (refine PyProof.Rows.item_listR (News.isList (by assumption) (by k_mem)) (by omega) (by omega) hv' ?_)
    k_steps
    · rename Fr _ _ _ _ => F'
      rename News _ _ _ _ => N'
      have hz : 0 + (i : Int) = 0 := by assumption
      refine cat (vs := [_]) (ws := [_, _]) F' N' (by k_mem) (by repeat (first | exact List.mem_append_right _ (List.mem_append_left _ hai) | apply List.mem_cons_of_mem)) (Nat.le_of_ble_eq_true rfl) ?_
      intro l9 h9 F9 N9 lt9
      simp only [List.forall_mem_cons] at lt9
      obtain ⟨-, -, d1, d2, d3, -, d4, -⟩ := lt9
      refine turn_add [_, _, _, _] F9 (News.drop2 (News.drop2 N9)) off hI d1 d2 d3 ⟨_, rfl, gt_cons d4 hob₂, ?_⟩
      rw [resTo_succ]
      refine (hys.mono fun p hp => .tail _ hp).append (.one (.list (.head _) (.cons ?_ (.cons ?_ (.cons ?_ .nil)))))
      · have e : leadOf x i = leadS x := if_pos (by omega)
        rw [e]; exact .str _ _
      · have e : ps.getD i (0, false) = ps[i] := by simp [List.getD, show i < ps.length by omega]
        rw [e]; exact .int _ _
      · have e : ps.getD i (0, false) = ps[i] := by simp [List.getD, show i < ps.length by omega]
        rw [e]; exact .bool _
    · rename Fr _ _ _ _ => F'
      rename News _ _ _ _ => N'
      have hz : ¬ 0 + (i : Int) = 0 := by assumption
      refine cat (vs := [_]) (ws := [_, _]) F' N' (by k_mem) (by repeat (first | exact List.mem_append_right _ (List.mem_append_left _ hai) | apply List.mem_cons_of_mem)) (Nat.le_of_ble_eq_true rfl) ?_
      intro l9 h9 F9 N9 lt9
      simp only [List.forall_mem_cons] at lt9
      obtain ⟨-, d1, d2, d3, -, d4, -⟩ := lt9
      refine turn_add [_, _, _, _] F9 (News.drop2 N9) off hI d1 d2 d3 ⟨_, rfl, gt_cons d4 hob₂, ?_⟩
      rw [resTo_succ]
      refine (hys.mono fun p hp => .tail _ hp).append (.one (.list (.head _) (.cons ?_ (.cons ?_ (.cons ?_ .nil)))))
      · have e : leadOf x i = Str.ofString ", " := if_neg (by omega)
        rw [e]; exact .str _ _
      · have e : ps.getD i (0, false) = ps[i] := by simp [List.getD, show i < ps.length by omega]
        rw [e]; exact .int _ _
      · have e : ps.getD i (0, false) = ps[i] := by simp [List.getD, show i < ps.length by omega]
        rw [e]; exact .bool _
  case fin =>
    rintro ys nws' s₂ ⟨_, rfl⟩ ⟨ob, rfl, hob₂, hys⟩ D h tk F₂ N₂ off hLD
    k_steps
    have hb1 : ∀ p ∈ (D, LCg.lst ys) :: ob, @LT.lt Nat _ L' p.1 := gt_cons hLD fun p hp => Nat.lt_trans (lt3 L') (hob₂ p hp)
    refine ret (.ref D) h tk m (((D, LCg.lst ys) :: ob) ++ news) F₂ (fun p hp => N₂ p ?_) (ap.appGt hb1 fun p hp => lt p (List.mem_append_right _ hp)) ⟨_, rfl, hb1, ?_⟩
    · rw [List.append_assoc] at hp
      rcases List.mem_cons.mp hp with rfl | hp
      · exact .head _
      · refine .tail _ (.tail _ (.tail _ (.tail _ (.tail _ ?_))))
        rcases List.mem_append.mp hp with hp | hp
        · exact List.mem_append_left _ hp
        · exact List.mem_append_right _ (List.mem_append_right _ hp)
    · rw [← hvl]
      exact .list (.head _) (hys.mono fun p hp => .tail _ hp)
noncomputable def restN (f : Int) : Int := f.fdiv (2 ^ Int.toNat 32) * 2 ^ Int.toNat 32
noncomputable def duePairs (f : Int) : List (Int × Bool) := dueTo f 32 ++ if restN f ≠ 0 ∨ f = 0 then [(restN f, false)] else []
/-- what _law_due gives -/
noncomputable def resD (x : Int) : List Dat := resTo x (duePairs (lf x)) (duePairs (lf x)).length
theorem dueTo_len (f : Int) : (dueTo f 32).length ≤ 32 := by
  unfold dueTo
  rw [List.length_map]
  exact Nat.le_trans (List.length_filter_le _ _) (by simp)
theorem duePairs_len (f : Int) : (duePairs f).length ≤ 33 := by
  have := dueTo_len f
  unfold duePairs
  rw [List.length_append]
  split <;> simp <;> omega
theorem repack {h₀ h : Heap} {L : Addr} {a b p d c3 c2 c1 : Addr × Obj} {objs rest : List (Addr × Obj)} (N : News h₀ L h (a :: b :: p :: d :: c3 :: c2 :: c1 :: (objs ++ rest))) : News h₀ L h (a :: c3 :: c2 :: c1 :: ((p :: objs) ++ rest)) := fun q hq => N q (by
  simp only [List.mem_cons, List.mem_append, List.cons_append] at hq ⊢
  rcases hq with h | h | h | h | h | h <;> simp [h])
theorem ld_ct {w : World} {mean : ExcName → Option Value} {mg mb : Str → Option Value} {h₀ : Heap} (B : Base w mean mg mb h₀) (x : Int) (t1 : Tok) (news : List (Addr × Obj)) :
    SpecZ w h₀ 109 [.int x t1] [] 2 32 news (fun z v news' => ∃ ob, news' = ob ++ news ∧ (∀ p ∈ ob, @LT.lt Nat _ z p.1) ∧ DatIn ob v (.list (resD x))) := by
  k_with_none
  refine enterZ B (by k_is) (by k_is) (binds := [(Str.ofString "x", Value.int x t1)]) (by rfl) (by rfl) (by decide +kernel) ?_
  intro dp un gd cn cs L a ccd cl outer L' s frs cells Q F N Y lt Fs ap hD hU ret
  have X := B.k
  have T := B.t
  k_cells Y
  simp only [List.cons_append, List.nil_append] at N
  w_on
  conv in (fnBody 16) => whnf
  show wpAny _ _ _ _ _ _
  k_fold
  k_steps
  have ltf : ∀ p ∈ frs, p.1 < L' := fun p hp => lt p (List.mem_append_right _ hp)
  refine lf_ct B _ _ ((_, _) :: (_, _) :: (_, _) :: news) _ _ _ _ _ _ _ _ _ _ _ _ _ _ _ rfl F N Fs (((ap.consGt (Nat.lt_succ_self _) ltf).consGt (lt2 L') ltf).consGt (lt3 L') ltf) (by show dp + 1 + 1 < recursionLimit; omega) (by show un + _ + 16 < cLine; omega) ?_
  rintro v h₁ tk₁ news₁ frs₁ SU₁ Fs₁ F₁ N₁ ap₁ ⟨rfl, t, rfl⟩
  replace lt := lt_up SU₁ lt
  replace ap := ap.up SU₁
  clear ltf ap₁ N
  simp only [List.cons_append, List.nil_append] at N₁
  k_steps
  refine src_range (n := 32) (fun i ys nws => ∃ objs, nws = _ :: _ :: _ :: (objs ++ (news ++ frs₁)) ∧ (∀ p ∈ objs, @LT.lt Nat _ (L' + 1 + 1 + 1) p.1) ∧ DatAll objs ys ((dueTo (lf x) i).map pairD)) rfl (by assumption) (by assumption) (by assumption) (by decide) (by decide) (by decide) (by rfl) (by rfl) ⟨[], rfl, (fun _ hp => nomatch hp), .nil⟩ ?turn ?fin
  case turn =>
    rintro i tv ys nws₁ h tk I oI C oC D m₂ E' s₂ hi ⟨objs, rfl, hob, hys⟩ hoC hm F₂ N₂ off hCD hI ⟨_, rfl⟩
    refine wpAny_tests_one ?_
    k_fold
    k_steps
    · rename Fr _ _ _ _ => F'
      rename News _ _ _ _ => N'
      rename ((lf x).fdiv _).fmod 2 = 1 => hb
      rename Addr => l'
      rename _ ∧ _ => l1
      have hb' := bitF.mp hb
      obtain ⟨c1, c2, c3, c4, -, -, c5⟩ := l1
      refine turn_add [_, _, _] F' N' off hI c1 c2 c3 ⟨_, rfl, gt_cons c4 hob, ?_⟩
      · rw [dueTo_yes hb', List.map_append]
        refine DatAll.append (hys.mono fun p hp => .tail _ hp) (.one (.list (.head _) (.cons ?_ (.cons ?_ .nil))))
        · have e : (0 + (i : Int)).toNat = i := by omega
          rw [e]; exact .int _ _
        · have e : decide (0 + (i : Int) < 10) = decide (i < 10) := by simp; omega
          rw [e]; exact .bool _
    · rename ((lf x).fdiv _).fmod 2 ≠ 1 => hb
      have hb' := bitN hb
      refine ⟨_, _, _, rfl, F₂, N₂, fun p hp => ⟨(off p (.tail _ hp)).1, (off p (.tail _ hp)).2, fun q => hI p hp (List.mem_singleton.mp q)⟩, objs, rfl, hob, ?_⟩
      rw [dueTo_no hb']
      exact hys
  case fin =>
    rintro ys nws' s₂ ⟨_, rfl⟩ ⟨objs, rfl, hob, hys⟩ D h tk F₂ N₂ off hLD
    replace N₂ : News h₀ L' h ((D, W.listOf ys.toArray ys.length) :: _) := N₂
    simp only [List.forall_mem_cons] at off
    obtain ⟨hD3, hD2, hD1, hDn⟩ := off
    have g1 : @Ne Nat _ _ := hD1
    have g2 : @Ne Nat _ _ := hD2
    have g3 : @Ne Nat _ _ := hD3
    have hyl : ys.length = (dueTo (lf x) 32).length := by rw [hys.length, List.length_map]
    have hdl : (dueTo (lf x) 32).length ≤ 32 := by
      unfold dueTo
      rw [List.length_map]
      exact Nat.le_trans (List.length_filter_le _ _) (by simp)
    k_with_none
    k_with "execs cons Return nil" => (refine hold ?_)
    k_with "binaryOp Add ref ref" => (refine cat (vs := ys) (ws := [_]) (by assumption) (by assumption) (by k_mem) (by k_mem) (by simp only [List.length_singleton]; omega) ?_; intro l9 h9 F9 N9 lt9; simp only [List.forall_mem_cons] at lt9)
    k_steps
    · ((
    rename Fr _ _ _ _ => F'
    rename News _ _ _ _ => N'
    rename _ = Data.cell (bindC _ _ _ (Str.ofString "x")) => dx
    rename _ = Data.cell (some (Value.ref l9)) => dd
    obtain ⟨q1, q2, -⟩ : _ ∧ _ ∧ _ := by assumption
    show wpAny _ _ _ _ _ _
    refine due_tail B x t1 news frs₁ _ dp un gd cn cs L a ccd cl outer L' _ _ _ _ (ys ++ [_]) _ _ _ _ (duePairs (lf x)) dd dx F' (repack N') (gt_cons ?g hob) lt ap ?v (duePairs_len _) (fun v h' tk' m' news' f1 f2 f3 f4 => ret v h' tk' m' news' frs₁ SU₁ f1 f2 f3 f4)
    (case g => omega)
    (case v =>
      unfold duePairs
      rw [if_pos (by first | exact .inl (by assumption) | exact .inr (by assumption)), List.map_append]
      exact (hys.mono fun p hp => .tail _ hp).append (.one (.list (.head _) (.cons (.int _ _) (.cons (.bool _) .nil)))))))
    · ((
    rename Fr _ _ _ _ => F'
    rename News _ _ _ _ => N'
    rename _ = Data.cell (bindC _ _ _ (Str.ofString "x")) => dx
    rename _ = Data.cell (some (Value.ref l9)) => dd
    obtain ⟨q1, q2, -⟩ : _ ∧ _ ∧ _ := by assumption
    show wpAny _ _ _ _ _ _
    refine due_tail B x t1 news frs₁ _ dp un gd cn cs L a ccd cl outer L' _ _ _ _ (ys ++ [_]) _ _ _ _ (duePairs (lf x)) dd dx F' (repack N') (gt_cons ?g hob) lt ap ?v (duePairs_len _) (fun v h' tk' m' news' f1 f2 f3 f4 => ret v h' tk' m' news' frs₁ SU₁ f1 f2 f3 f4)
    (case g => omega)
    (case v =>
      unfold duePairs
      rw [if_pos (by first | exact .inl (by assumption) | exact .inr (by assumption)), List.map_append]
      exact (hys.mono fun p hp => .tail _ hp).append (.one (.list (.head _) (.cons (.int _ _) (.cons (.bool _) .nil)))))))
    · rename Fr _ _ _ _ => F'
      rename News _ _ _ _ => N'
      rename _ = Data.cell (bindC _ _ _ (Str.ofString "x")) => dx
      rename _ = Data.cell (some (Value.ref D)) => dd
      have hr0 : (lf x).fdiv (2 ^ Int.toNat 32) * 2 ^ Int.toNat 32 = 0 := by assumption
      have hx0 : ¬ lf x = 0 := by assumption
      show wpAny _ _ _ _ _ _
      refine due_tail B x t1 news frs₁ _ dp un gd cn cs L a ccd cl outer L' _ _ _ _ ys _ _ _ _ (duePairs (lf x)) dd dx F' N' hob lt ap ?_ (duePairs_len _) (fun v h' tk' m' news' f1 f2 f3 f4 => ret v h' tk' m' news' frs₁ SU₁ f1 f2 f3 f4)
      unfold duePairs
      rw [if_neg (fun q => q.elim (fun q => q hr0) hx0), List.append_nil]
      exact hys
end Mine
end

section
set_option Elab.async false
set_option maxRecDepth 100000
set_option linter.unusedVariables false
namespace Mine
open PySem PySem.W PyProof.Rows PyProof.Rows.TI PySem.Calls PySem.NumText
structure Num16 (x : Str) (v : Int) : Prop where
  hs : (numSeenOf x).length ≤ 640
  hr : (int_private% "readNumeral") 0 16 (numSeenOf x) = (int_private% "Numeral.value") v
  ha : ((numSeenOf x).length == (numTextOf x).length) = true
theorem wp_text16 {M : Model} {A : Around} {E : Value → Shared → Prop} {s : Shared} {Q : Value → Shared → Prop} {v : Value} {text : List Nat} {n : Int}
    (hs : (text.takeWhile (· != 0)).length ≤ 640) (hr : (int_private% "readNumeral") 0 16 (text.takeWhile (· != 0)) = (int_private% "Numeral.value") n)
    (ha : ((text.takeWhile (· != 0)).length == text.length) = true) (h : Q (.int n s.toks) { s with toks := s.toks + 1 }) :
    wpAny M A ((int_private% "intFromText") v text (Int.toNat 16)) Q E s := by
  obtain ⟨hp, g, d, tk, os⟩ := s
  show wpAny M A ((int_private% "intFromText") v text 16) Q E _
  repeat (any_goals (first
    | assumption
    | (with_reducible refine wpAny_ite_true (decide_eq_true hs) ?_)
    | (with_reducible refine wpAny_ite_true (decide_eq_true ha) ?_)
    | wp_step))
  all_goals (try rw [hr])
  all_goals (try dsimp only)
  repeat (any_goals (first
    | assumption
    | (with_reducible refine wpAny_ite_true (decide_eq_true hs) ?_)
    | (with_reducible refine wpAny_ite_true (decide_eq_true ha) ?_)
    | wp_step))
structure Hid1 (p : Prop) : Prop where
  out : p
set_option maxHeartbeats 4000000 in
theorem gives_int16 {x : Str} {u u' : Tok} {n : Int} (N : Num16 x n) : Gives (Builtin.«int.__new__» ⟨[.type "int", .str x u, .int 16 u'], []⟩) (.int n) :=
  .of_wp fun M A E s Q h => by
    obtain ⟨hp, g, d, tk, os⟩ := s
    have f1 := F.conv_sub_int
    have f2 := F.madeHere_int
    have f6 : typeOf (.str x u) = pure (.type "str") := rfl
    have hk := Hid1.mk N
    repeat (any_goals (first
      | assumption
      | ((with_reducible show wpAny _ _ ((int_private% "intFromText") _ _ _) _ _ _); refine wp_text16 hk.out.1 hk.out.2 hk.out.3 ?_)
      | wp_step))
    all_goals first | exact ⟨_, rfl, h⟩ | skip
theorem typeCall_int_2 (a b : Value) : checkTypeCall "int" ⟨[a, b], []⟩ = pure () := by kernel_rfl
theorem newCall_int_2 (a b : Value) : checkBuiltinCall "int.__new__" ⟨[.type "int", a, b], []⟩ = pure () := by kernel_rfl
section
variable {w : World} {A : Around} {E : Value → Shared → Prop} {s : Shared} {Q : Value → Shared → Prop} {x : PySem.Str} {t t' : Tok} {n : Int}
theorem call_int16 (N : Num16 x n) (h : Q (.int n s.toks) { s with toks := s.toks + 1 }) : wpAny (model prg w) A (call (.type "int") [.str x t, .int 16 t']) Q E s :=
  callType_new F.called_int F.newNe_int (typeCall_int_2 _ _) (newCall_int_2 _ _) (fun obj => F.args_object_init_3 obj _ _) F.entry_int_new (gives_int16 N).meets (show (Made.int n).post _ s from ⟨rfl, h⟩)
end
theorem num16_pow : ∀ k, 10 ≤ k → k < 32 → Num16 (hexS (2 ^ k)) (2 ^ k) := by
  intro k h1 h2
  rcases ((by decide +kernel : ∀ k, k < 32 → (k = 0 ∨ k = 1 ∨ k = 2 ∨ k = 3 ∨ k = 4 ∨ k = 5 ∨ k = 6 ∨ k = 7 ∨ k = 8 ∨ k = 9 ∨ k = 10 ∨ k = 11 ∨ k = 12 ∨ k = 13 ∨ k = 14 ∨ k = 15 ∨ k = 16 ∨ k = 17 ∨ k = 18 ∨ k = 19 ∨ k = 20 ∨ k = 21 ∨ k = 22 ∨ k = 23 ∨ k = 24 ∨ k = 25 ∨ k = 26 ∨ k = 27 ∨ k = 28 ∨ k = 29 ∨ k = 30 ∨ k = 31)) k h2) with rfl | rfl | rfl | rfl | rfl | rfl | rfl | rfl | rfl | rfl | rfl | rfl | rfl | rfl | rfl | rfl | rfl | rfl | rfl | rfl | rfl | rfl | rfl | rfl | rfl | rfl | rfl | rfl | rfl | rfl | rfl | rfl <;> first | exact absurd h1 (by decide) | exact ⟨by decide +kernel, by kernel_rfl, by decide +kernel⟩
theorem num16_rest : ∀ r : Nat, r < 32 → Num16 (hexS (((r : Int) - 16) * 2 ^ 32)) (((r : Int) - 16) * 2 ^ 32) := by
  intro r h2
  rcases ((by decide +kernel : ∀ r, r < 32 → (r = 0 ∨ r = 1 ∨ r = 2 ∨ r = 3 ∨ r = 4 ∨ r = 5 ∨ r = 6 ∨ r = 7 ∨ r = 8 ∨ r = 9 ∨ r = 10 ∨ r = 11 ∨ r = 12 ∨ r = 13 ∨ r = 14 ∨ r = 15 ∨ r = 16 ∨ r = 17 ∨ r = 18 ∨ r = 19 ∨ r = 20 ∨ r = 21 ∨ r = 22 ∨ r = 23 ∨ r = 24 ∨ r = 25 ∨ r = 26 ∨ r = 27 ∨ r = 28 ∨ r = 29 ∨ r = 30 ∨ r = 31)) r h2) with rfl | rfl | rfl | rfl | rfl | rfl | rfl | rfl | rfl | rfl | rfl | rfl | rfl | rfl | rfl | rfl | rfl | rfl | rfl | rfl | rfl | rfl | rfl | rfl | rfl | rfl | rfl | rfl | rfl | rfl | rfl | rfl <;> exact ⟨by decide +kernel, by kernel_rfl, by decide +kernel⟩
/-- the place of a name among the names -/
theorem index_strs {w : World} {A : Around} {E : Value → Shared → Prop} {s : Shared} {Q : Value → Shared → Prop} {l : Addr} {vs : List Value} {n : Nat} {ys : List Str} {x : Str} {t : Tok} {j : Nat} (hl : s.heap.get? l = some (W.listOf vs.toArray n)) (hi : StrsAre vs ys) (hj : ys[j]? = some x) (hno : ∀ m, m < j → ys[m]? ≠ some x) (hsz : ys.length ≤ 1000)
    (h : Q (.int j s.toks) { s with toks := s.toks + 1 }) : wpAny (model prg w) A (call (.builtin "list.index") [.ref l, .str x t]) Q E s := by
  have hlen := hi.length
  have hjl : j < ys.length := (List.getElem?_eq_some_iff.mp hj).1
  have at' : ∀ (vs : List Value) (ys : List Str), StrsAre vs ys → ∀ (m : Nat) (hm : m < vs.length) (hm' : m < ys.length), isStrOf x vs[m] = (ys[m] == x) := by
    intro vs ys hi
    induction hi with
    | nil => intro m hm; cases hm
    | cons a b _ ih =>
      intro m hm hm'
      cases m with
      | zero => rfl
      | succ m => exact ih m (Nat.lt_of_succ_lt_succ hm) (Nat.lt_of_succ_lt_succ hm')
  refine call_meets PySem.F.slot_list_index ⟨_, hl, rfl⟩ PySem.F.entry_list_index (PySem.F.args_list_index_2 _ _)
    (MeetsSeq.list_index l vs.toArray n (.str x t) (isStrOf x) (fun y hy => eq_isStrOf x t hi y (by simpa using hy)) j (by simp; omega) (by omega) ?_ ?_) ⟨hl, h⟩
  · have := at' vs ys hi j (by omega) hjl
    simp only [List.getElem_toArray]
    rw [this, (List.getElem?_eq_some_iff.mp hj).2]
    exact beq_self_eq_true x
  · intro m hm hlt
    have := at' vs ys hi m (by simpa using hm) (by omega)
    simp only [List.getElem_toArray]
    rw [this]
    refine beq_eq_false_iff_ne.mpr fun e => hno m hlt ?_
    rw [List.getElem?_eq_getElem (by omega), e]
end Mine
end

section
set_option Elab.async false
set_option maxRecDepth 100000
set_option linter.unusedVariables false
namespace Mine
open PySem PySem.W PyProof.Rows PyProof.Rows.TI
theorem tw_len {α : Type} {P : α → Bool} : ∀ {l : List α} {n : Nat}, n ≤ l.length → (∀ i a, i < n → l[i]? = some a → P a = true) → (∀ a, l[n]? = some a → P a = false) → (l.takeWhile P).length = n
  | [], n, h, _, _ => by simp at h ⊢; omega
  | a :: l, 0, _, _, h2 => by
    have := h2 a rfl
    simp [this]
  | a :: l, n + 1, h, h1, h2 => by
    have ha := h1 0 a (Nat.zero_lt_succ _) rfl
    have ih := tw_len (l := l) (n := n) (P := P) (by simpa using h) (fun i b hi hb => h1 (i + 1) b (by omega) (by simpa using hb)) (fun b hb => h2 b (by simpa using hb))
    simp [ha, ih]
theorem len_cps (src : Str) : src.length = src.cps.toList.length := by simp [Str.length]
theorem nl_eq : Str.ofString "\n" = ⟨#[10]⟩ := by decide +kernel
noncomputable def notNl (c : Nat) : Bool := c != 10
theorem nlPos_eq {src : Str} {p : Int} (h0 : 0 ≤ p) (h1 : p ≤ src.length) : nlPos src p = p + ((src.cps.toList.drop p.toNat).takeWhile notNl).length := by
  have hl := len_cps src
  have hf : fromIndex src.length p = p.toNat := by
    unfold fromIndex
    split <;> omega
  have get : ∀ i, (src.cps.toList.drop p.toNat)[i]? = src.cps.toList[p.toNat + i]? := fun i => by rw [List.getElem?_drop]
  rcases StrLaws.find3_spec src 10 p with ⟨e, hn⟩ | ⟨k, e, k1, k2, k3, k4⟩
  · rw [nlPos_no (by rw [nl_eq]; exact e)]
    have : ((src.cps.toList.drop p.toNat).takeWhile notNl).length = src.cps.toList.length - p.toNat := by
      refine tw_len (by simp) (fun i a hi ha => ?_) (fun a ha => ?_)
      · rw [get] at ha
        have := hn (p.toNat + i) (by rw [hf]; omega) (by omega)
        rw [StrLaws.getD_of_getElem? ha] at this
        simpa [notNl] using this
      · rw [get] at ha
        have := (List.getElem?_eq_some_iff.mp ha).1
        omega
    omega
  · rw [nlPos_yes (by rw [nl_eq, e]; omega), nl_eq, e]
    rw [hf] at k1 k4
    have : ((src.cps.toList.drop p.toNat).takeWhile notNl).length = k - p.toNat := by
      refine tw_len (by rw [List.length_drop, ← hl]; omega) (fun i a hi ha => ?_) (fun a ha => ?_)
      · rw [get] at ha
        have := k4 (p.toNat + i) (by omega) (by omega)
        rw [StrLaws.getD_of_getElem? ha] at this
        simpa [notNl] using this
      · rw [get, show p.toNat + (k - p.toNat) = k by omega, StrLaws.getElem?_of_getD k2 k3] at ha
        cases ha
        rfl
    omega
theorem nlPos_ge {src : Str} {p : Int} (h0 : 0 ≤ p) (h1 : p ≤ src.length) : p ≤ nlPos src p ∧ nlPos src p ≤ src.length := by
  rw [nlPos_eq h0 h1]
  have := (List.takeWhile_sublist (p := notNl) (l := src.cps.toList.drop p.toNat)).length_le
  rw [List.length_drop, ← len_cps] at this
  omega
end Mine
end

section
set_option Elab.async false
set_option maxRecDepth 100000
set_option linter.unusedVariables false
namespace Mine
open PySem PySem.W PyProof.Rows PyProof.Rows.TI PyProof.V PySem.Calls
noncomputable def blS : Str := Str.ofString " \t,"
noncomputable def sgS : Str := Str.ofString "ABCDEFGHIJKLMNOPQRSTUVWXYZabcdefghijklmnopqrstuvwxyz0123456789_-"
/-- what a word is read as -/
inductive WordIs : Str → Int × Bool → Prop
  | name {k : Nat} {x : Str} : k < 10 → nmS[k]? = some x → WordIs x (2 ^ k, true)
  | hex {x : Str} {v : Int} : x ∉ nmS → Num16 x v → WordIs x (v, false)
noncomputable def entry (sep : Str) (p : Int × Bool) : Dat := .list [.str sep, .int p.1, .bool p.2]
/-- what the reader does from pos on, ws being the words of the line so far: the lines to come, and where it stops -/
inductive Reads (src : Str) : Int → List Dat → List Dat → Option (Int × Nat) → Prop
  | done {pos : Int} {ws : List Dat} : (src.length : Int) < pos → Reads src pos ws [] none
  | word {pos : Int} {ws out : List Dat} {r : Option (Int × Nat)} {v : Int × Bool} : pos ≤ src.length → skipTo src blS pos < skipTo src sgS (skipTo src blS pos) →
      WordIs (Txt.slice src (some (skipTo src blS pos)) (some (skipTo src sgS (skipTo src blS pos)))) v →
      Reads src (skipTo src sgS (skipTo src blS pos)) (ws ++ [entry (Txt.slice src (some pos) (some (skipTo src blS pos))) v]) out r → Reads src pos ws out r
  | line {pos : Int} {ws out : List Dat} {r : Option (Int × Nat)} : pos ≤ src.length → skipTo src sgS (skipTo src blS pos) = skipTo src blS pos →
      (src.cps.toList[(skipTo src blS pos).toNat]? = some 35 → legalTo src (skipTo src blS pos + 1) = true) → Reads src (comTo src (skipTo src blS pos) + 1) [] out r → Reads src pos ws (.list ws :: out) r
  | bad {pos : Int} {ws : List Dat} {p : Int} {c : Nat} : pos ≤ src.length → skipTo src sgS (skipTo src blS pos) = skipTo src blS pos →
      src.cps.toList[(skipTo src blS pos).toNat]? = some 35 → BadAt src (skipTo src blS pos + 1) p c → Reads src pos ws [] (some (p, c))
theorem comTo_ge {src : Str} {p : Int} (h0 : 0 ≤ p) (h1 : p ≤ src.length) : p ≤ comTo src p ∧ comTo src p ≤ src.length := by
  have hl : src.length = src.cps.toList.length := by simp [Str.length]
  unfold comTo
  split
  · rename_i h
    have := (List.getElem?_eq_some_iff.mp h).1
    have := nlPos_ge (src := src) (p := p + 1) (by omega) (by omega)
    omega
  · omega
end Mine
end

section
set_option Elab.async false
set_option maxRecDepth 100000
set_option maxHeartbeats 8000000
set_option linter.unusedVariables false
namespace Mine
open PySem PySem.W PyProof.Rows PyProof.Rows.TI PyProof.V PySem.Calls
theorem fillK10 : PySem.Challenge.rw_oh0011_01 = PySem.Challenge.rw_oh0011_01 ∧ K = K := by
  k_with_none
  k_fill
  exact ⟨rfl, rfl⟩
set_option pp.deepTerms false
set_option pp.maxSteps 400
local macro_rules | `(tactic| walk_at "exec While Compare cons nil") => `(tactic| k_extra "exec While Compare cons nil")
local macro_rules | `(tactic| walk_at "compareOp In str ref") => `(tactic| k_extra "compareOp In str ref")
local macro_rules | `(tactic| walk_at "call builtin:list.append") => `(tactic| k_extra "call builtin:list.append")
local macro_rules | `(tactic| walk_at "call builtin:list.index") => `(tactic| k_extra "call builtin:list.index")
local macro_rules | `(tactic| walk_at "call type:int") => `(tactic| k_extra "call type:int")
noncomputable def lrWh : Stmt := match fnBody 17 with
  | [_, _, _, x] => x
  | x :: _ => x
  | [] => .Pass default
noncomputable abbrev lrEnv (L' : Addr) : Env := envOf (Str.ofString "_law_read") (fnScope 17) L' 116 (.ref 115)
/-- between the turns of the reader -/
noncomputable def LrJ (src : Str) (Dl nm : Addr) (t1 tsg : Tok) (vsN : List Value) (cN : Nat) (rest frs : List (Addr × Obj)) (envs : List Env) (M : Nat) (total : List Dat) (r : Option (Int × Nat)) (n : Nat) (m : Str → Option Value) (nws : List (Addr × Obj)) : Prop :=
  ∃ (q : Int) (tq : Tok) (Wd : Addr) (cW : Nat) (ws : List Value) (wsD : List Dat) (vs : List Value) (cD : Nat) (dn : List Dat) (ob frs₁ : List (Addr × Obj)) (todo : List Dat),
    nws = ((80, tabObj #[]) :: (Dl, W.listOf vs.toArray cD) :: (Wd, W.listOf ws.toArray cW) :: (nm, W.listOf vsN.toArray cN) :: (ob ++ rest)) ++ frs₁ ∧
    m (Str.ofString "pos") = some (.int q tq) ∧ m (Str.ofString "words") = some (.ref Wd) ∧ m (Str.ofString "signs") = some (.str sgS tsg) ∧ m (Str.ofString "names") = some (.ref nm) ∧ m (Str.ofString "src") = some (.str src t1) ∧ m (Str.ofString "lines") = some (.ref Dl) ∧
    SameUp frs frs₁ ∧ Frs envs frs₁ ∧ (∀ p ∈ ob, @LT.lt Nat _ M p.1) ∧ @LT.lt Nat _ M Wd ∧ @LT.lt Nat _ M nm ∧ DatAll ob vs dn ∧ DatAll ob ws wsD ∧ Reads src q wsD todo r ∧ dn ++ todo = total ∧ 0 ≤ q ∧ q ≤ src.length + 1 ∧ vs.length ≤ q ∧ ws.length ≤ q ∧ n = (src.length + 1 - q).toNat
theorem gt_apart {M L k : Nat} {frs : List (Addr × Obj)} (h : M < k) (hne : k ≠ L) (h2 : ∀ p ∈ frs, @LE.le Nat _ p.1 M) : @Not (@Membership.mem Nat (List Nat) _ (L :: frs.map (·.1)) k) := by
  intro hm
  rcases List.mem_cons.mp hm with e | hm
  · omega
  · obtain ⟨p, hp, e⟩ := List.mem_map.mp hm
    have := h2 p hp
    have e' : @Eq Nat p.1 k := e
    omega
theorem nm_nodup {k : Nat} {x : Str} (h : nmS[k]? = some x) : ∀ m, m < k → nmS[m]? ≠ some x := by
  intro m hm e
  have hn : nmS.Nodup := by decide +kernel
  have := (List.getElem?_inj (l := nmS) (List.getElem?_eq_some_iff.mp e).1 hn).mp (e.trans h.symm)
  omega
theorem lr_loop {w : World} {mean : ExcName → Option Value} {mg mb : Str → Option Value} {h₀ : Heap} (B : Base w mean mg mb h₀) (C : CodeHd h₀ 84 80) (src : Str) (Dl nm : Addr) (t1 tsg : Tok) (vsN : List Value) (cN : Nat) (hN : StrsAre vsN nmS) (rest : List (Addr × Obj)) (h80 : ∀ p ∈ rest, p.1 ≠ 80) (hDl : Dl ≠ 80) (hDr : ∀ p ∈ rest, p.1 ≠ Dl)
    (hs : src.length ≤ 50000) (total : List Dat) (r : Option (Int × Nat)) (ln : Nat) (col : Int) (hr : ∀ p c, r = some (p, c) → Coord src p ln col) (hcb : 0 ≤ col ∧ col < 2 ^ 40) (hln : ln ≤ 1048576)
    (dp un : Nat) (gd : Option (List Code)) (cn : Str) (cs : Scope) (L a : Addr) (ccd : Value) (cl : List (Str × Addr)) (outer : List Env) (L' : Addr) (s : Shared) (frs : List (Addr × Obj)) (E : Value → Shared → Prop) (Q : Flow → Shared → Prop) (m : Str → Option Value) (nws : List (Addr × Obj)) (n₀ M : Nat) (oD : Obj)
    (hD : dp + 8 < recursionLimit) (hU : un + 128 < cLine) (F₀ : Fr h₀ L' s.heap m) (N₀ : News h₀ L' s.heap nws) (ap : Apart ((80, tabObj #[]) :: (Dl, oD) :: rest) L' frs) (lt : ∀ p ∈ (80, tabObj #[]) :: (Dl, oD) :: rest ++ frs, @LE.le Nat _ p.1 M)
    (J₀ : LrJ src Dl nm t1 tsg vsN cN rest frs (envX cn cs L a ccd cl :: outer) M total r n₀ m nws)
    (pass : PassesOwn (model prg w) ((ktrTop dp un gd cn cs L a ccd cl outer).deeper (lrEnv L')) (lrEnv L') E)
    (hQ : ∀ h' tk' m' vs cD ob frs', r = none → SameUp frs frs' → Fr h₀ L' h' m' → News h₀ L' h' (((80, tabObj #[]) :: (Dl, W.listOf vs.toArray cD) :: (ob ++ rest)) ++ frs') → Apart ((80, tabObj #[]) :: (Dl, W.listOf vs.toArray cD) :: (ob ++ rest)) L' frs' → DatAll ob vs total → Q .next { s with heap := h', toks := tk' })
    (hE : ∀ e p c h' tk' m' vs cD ob ps frs', r = some (p, c) → SameUp frs frs' → Fr h₀ L' h' m' → News h₀ L' h' (((80, tabObj ps) :: (Dl, W.listOf vs.toArray cD) :: (ob ++ rest)) ++ frs') → Apart ((80, tabObj ps) :: (Dl, W.listOf vs.toArray cD) :: (ob ++ rest)) L' frs' → Fly h₀ (lrEnv L' :: envX cn cs L a ccd cl :: outer) e (errText (badMsg c) ln col) ((80, tabObj ps) :: (Dl, W.listOf vs.toArray cD) :: (ob ++ rest)) h' → DatAll ob vs total → E (.ref e) { s with heap := h', toks := tk' }) :
    wpAny (model prg w) ((ktrTop dp un gd cn cs L a ccd cl outer).deeper (lrEnv L')) (exec lrWh (lrEnv L')) Q E s := by
  k_with_none
  have X := B.k
  have T := B.t
  w_on
  conv in lrWh => whnf
  refine While_inv2 (LrJ src Dl nm t1 tsg vsN cN rest frs (envX cn cs L a ccd cl :: outer) M total r) F₀ N₀ J₀ ?turn pass
  rintro n m₁ news₁ h₁ tk₁ F₁ N₁ ⟨q, tq, Wd, cW, ws, wsD, vs, cD, dn, ob, frs₁, todo, rfl, p1, p2, p3, p4, p5, p6, SU₁, Fs₁, hob, hW, hnm, dvs, dws, hR, htot, q0, q1, vl, wl, rfl⟩
  replace F₁ := fr_pin (fr_pin (fr_pin (fr_pin (fr_pin (fr_pin F₁ p1) (x := Str.ofString "words") (v := .ref Wd) (by exact p2)) (x := Str.ofString "signs") (v := .str sgS tsg) (by exact p3)) (x := Str.ofString "names") (v := .ref nm) (by exact p4)) (x := Str.ofString "src") (v := .str src t1) (by exact p5)) (x := Str.ofString "lines") (v := .ref Dl) (by exact p6)
  have ltf : ∀ p ∈ frs₁, @LE.le Nat _ p.1 M := fun p hp => by
    have hm : p.1 ∈ frs.map (·.1) := by rw [← sameUp_keys SU₁]; exact List.mem_map_of_mem hp
    obtain ⟨p', hp', e'⟩ := List.mem_map.mp hm
    rw [← e']
    exact lt p' (List.mem_append_right _ hp')
  have apN : Apart ((80, tabObj #[]) :: (Dl, W.listOf vs.toArray cD) :: (Wd, W.listOf ws.toArray cW) :: (nm, W.listOf vsN.toArray cN) :: (ob ++ rest)) L' frs₁ := by
    have ap' := ap.up SU₁
    intro p hp
    simp only [List.mem_cons, List.mem_append] at hp
    rcases hp with rfl | rfl | rfl | rfl | hp | hp
    · exact ap' _ (.head _)
    · exact ap' (Dl, oD) (.tail _ (.head _))
    · exact gt_apart hW (N₁ (Wd, W.listOf ws.toArray cW) (.tail _ (.tail _ (.head _)))).2.1 ltf
    · exact gt_apart hnm (N₁ (nm, W.listOf vsN.toArray cN) (.tail _ (.tail _ (.tail _ (.head _))))).2.1 ltf
    · exact gt_apart (hob p hp) (N₁ p (.tail _ (.tail _ (.tail _ (.tail _ (List.mem_append_left _ (List.mem_append_left _ hp))))))).2.1 ltf
    · exact ap' _ (.tail _ (.tail _ hp))
  obtain ⟨nw, hnw⟩ : ∃ nw, nw = (80, tabObj #[]) :: (Dl, W.listOf vs.toArray cD) :: (Wd, W.listOf ws.toArray cW) :: (nm, W.listOf vsN.toArray cN) :: (ob ++ rest) := ⟨_, rfl⟩
  have mNm : (nm, W.listOf vsN.toArray cN) ∈ nw := by rw [hnw]; exact .tail _ (.tail _ (.tail _ (.head _)))
  have mWd : (Wd, W.listOf ws.toArray cW) ∈ nw := by rw [hnw]; exact .tail _ (.tail _ (.head _))
  have mDl : (Dl, W.listOf vs.toArray cD) ∈ nw := by rw [hnw]; exact .tail _ (.head _)
  rw [← hnw] at N₁ apN
  k_with "call ref" => (refine hold ?_)
  k_with "compareOp In str ref" => (refine hold ?_)
  show wpAny _ _ _ _ _ _
  k_fold
  k_steps
  · have hle : q ≤ src.length := by assumption
    refine unhold ?_
    refine sc_ct B src blS q t1 _ _ nw q0 (by omega) (by omega) _ _ _ _ _ _ _ _ _ _ _ _ _ _ _ rfl F₁ N₁ Fs₁ apN (by show dp + 1 + 1 < recursionLimit; omega) (by show un + _ + 8 < cLine; omega) ?_
    rintro v h₂ tk₂ news₂ frs₂ SU₂ Fs₂ F₂ N₂ ap₂ ⟨rfl, t₂, rfl⟩
    have hb := skipTo_le (src := src) (chars := blS) q0
    have hb2 := hb.2 hle
    k_steps
    rename Fr _ _ _ _ => F₃
    rename News _ _ _ _ => N₃
    refine unhold ?_
    refine sc_ct B src sgS (skipTo src blS q) t1 _ _ news₂ (by omega) (by omega) (by omega) _ _ _ _ _ _ _ _ _ _ _ _ _ _ _ rfl F₃ (News.tail N₃) Fs₂ ap₂ (by show dp + 1 + 1 < recursionLimit; omega) (by show un + _ + 8 < cLine; omega) ?_
    rintro v h₄ tk₄ news₄ frs₄ SU₄ Fs₄ F₄ N₄ ap₄ ⟨rfl, t₄, rfl⟩
    clear N₃ F₃
    have hc := skipTo_le (src := src) (chars := sgS) (p := skipTo src blS q) (by omega)
    have hc2 := hc.2 hb2
    k_steps
    · rename_i tw _ _ _ _ ts ks _ l5 _ F₅ N₅ l1₅
      have hlt : skipTo src blS q < skipTo src sgS (skipTo src blS q) := by assumption
      refine unhold ?_
      cases hR with
      | done h => omega
      | line _ h => omega
      | bad _ h => omega
      | word _ _ hw hR' =>
        k_with "getMethod ref" => (refine kf_method (by assumption) (by repeat (first | exact List.mem_append_left _ mNm | apply List.mem_cons_of_mem)) PySem.F.slot_list_index PySem.F.type_list_index ?_)
        cases hw with
        | @name k _ hk hx =>
          have hany : (nmS.any (· == Txt.slice src (some (skipTo src blS q)) (some (skipTo src sgS (skipTo src blS q))))) = true := List.any_eq_true.mpr ⟨_, List.mem_of_getElem? hx, beq_self_eq_true _⟩
          k_with "call builtin:list.index" => (refine index_strs (News.get (by assumption) (by repeat (first | exact List.mem_append_left _ mNm | apply List.mem_cons_of_mem))) hN hx (nm_nodup hx) (by decide) ?_)
          refine in_list_strs (News.isList N₅ (.tail _ (List.mem_append_left _ mNm))) hN ?_
          rw [hany]
          k_steps
          rename_i lA _ l1A Da _ l1B lB _ F' N' l1C
          refine cat (vs := ws) (ws := [_]) F' N' (by repeat (first | exact List.mem_append_left _ mWd | apply List.mem_cons_of_mem)) (.head _) (by simp only [List.length_singleton]; omega) ?_
          intro l9 h9 F9 N9 lt9
          k_steps
          rename Fr _ _ _ _ => F'
          rename News _ _ _ _ => N'
          subst hnw
          simp only [List.forall_mem_cons] at lt9
          obtain ⟨-, dg, -, -, -⟩ := lt9
          have hDa : @LT.lt Nat _ M Da := Nat.lt_trans hnm (Nat.lt_trans (l1₅ _ (List.mem_append_left _ mNm)) (Nat.lt_trans l1A.1 l1B.1))
          refine ⟨_, _, _, ((80, tabObj #[]) :: (Dl, W.listOf vs.toArray cD) :: (l9, W.listOf (ws ++ [Value.ref Da]).toArray 0) :: (nm, W.listOf vsN.toArray cN) :: (((Da, W.listOf #[.str (Txt.slice src (some q) (some (skipTo src blS q))) ts, .int (2 ^ k) (ks + 1 + 1), .bool true] 0) :: (Wd, W.listOf ws.toArray cW) :: ob) ++ rest)) ++ frs₄, (src.length + 1 - skipTo src sgS (skipTo src blS q)).toNat, rfl, F', fun p hp => N' p ?perm, by omega, ?J⟩
          case perm =>
            simp only [List.cons_append, List.append_assoc, List.mem_cons, List.mem_append] at hp
            rcases hp with rfl | rfl | rfl | rfl | rfl | rfl | hp | hp | hp <;>
            repeat (first | exact .head _ | exact List.mem_append_left _ (List.mem_append_left _ hp) | exact List.mem_append_left _ (List.mem_append_right _ hp) | exact List.mem_append_right _ hp | apply List.mem_cons_of_mem)
          case J =>
            refine ⟨skipTo src sgS (skipTo src blS q), t₄, l9, 0, ws ++ [Value.ref Da], wsD ++ [entry (Txt.slice src (some q) (some (skipTo src blS q))) (2 ^ k, true)], vs, cD, dn, (Da, W.listOf #[.str (Txt.slice src (some q) (some (skipTo src blS q))) ts, .int (2 ^ k) (ks + 1 + 1), .bool true] 0) :: (Wd, W.listOf ws.toArray cW) :: ob, frs₄, todo, rfl, rfl, rfl, rfl, rfl, rfl, rfl, (SU₁.trans SU₂).trans SU₄, Fs₄, gt_cons hDa (gt_cons hW hob), Nat.lt_trans hDa dg, hnm, dvs.mono (fun p hp => .tail _ (.tail _ hp)), (dws.mono fun p hp => .tail _ (.tail _ hp)).append (.one (.list (.head _) (.cons (.str _ _) (.cons (.int _ _) (.cons (.bool _) .nil))))), hR', htot, by omega, by omega, by omega, by rw [List.length_append, List.length_singleton]; omega, rfl⟩
        | @hex _ v₁ hni hn16 =>
          have hany : (nmS.any (· == Txt.slice src (some (skipTo src blS q)) (some (skipTo src sgS (skipTo src blS q))))) = false := List.any_eq_false.mpr fun y hy e => hni (by rw [← eq_of_beq e]; exact hy)
          k_with "call type:int" => (refine call_int16 hn16 ?_)
          refine in_list_strs (News.isList N₅ (.tail _ (List.mem_append_left _ mNm))) hN ?_
          rw [hany]
          k_steps
          rename_i lA _ l1A Da _ l1B lB _ F' N' l1C
          refine cat (vs := ws) (ws := [_]) F' N' (by repeat (first | exact List.mem_append_left _ mWd | apply List.mem_cons_of_mem)) (.head _) (by simp only [List.length_singleton]; omega) ?_
          intro l9 h9 F9 N9 lt9
          k_steps
          rename Fr _ _ _ _ => F'
          rename News _ _ _ _ => N'
          subst hnw
          simp only [List.forall_mem_cons] at lt9
          obtain ⟨-, dg, -, -, -⟩ := lt9
          have hDa : @LT.lt Nat _ M Da := Nat.lt_trans hnm (Nat.lt_trans (l1₅ _ (List.mem_append_left _ mNm)) (Nat.lt_trans l1A.1 l1B.1))
          refine ⟨_, _, _, ((80, tabObj #[]) :: (Dl, W.listOf vs.toArray cD) :: (l9, W.listOf (ws ++ [Value.ref Da]).toArray 0) :: (nm, W.listOf vsN.toArray cN) :: (((Da, W.listOf #[.str (Txt.slice src (some q) (some (skipTo src blS q))) ts, .int v₁ (ks + 1), .bool false] 0) :: (Wd, W.listOf ws.toArray cW) :: ob) ++ rest)) ++ frs₄, (src.length + 1 - skipTo src sgS (skipTo src blS q)).toNat, rfl, F', fun p hp => N' p ?perm, by omega, ?J⟩
          case perm =>
            simp only [List.cons_append, List.append_assoc, List.mem_cons, List.mem_append] at hp
            rcases hp with rfl | rfl | rfl | rfl | rfl | rfl | hp | hp | hp <;>
            repeat (first | exact .head _ | exact List.mem_append_left _ (List.mem_append_left _ hp) | exact List.mem_append_left _ (List.mem_append_right _ hp) | exact List.mem_append_right _ hp | apply List.mem_cons_of_mem)
          case J =>
            refine ⟨skipTo src sgS (skipTo src blS q), t₄, l9, 0, ws ++ [Value.ref Da], wsD ++ [entry (Txt.slice src (some q) (some (skipTo src blS q))) (v₁, false)], vs, cD, dn, (Da, W.listOf #[.str (Txt.slice src (some q) (some (skipTo src blS q))) ts, .int v₁ (ks + 1), .bool false] 0) :: (Wd, W.listOf ws.toArray cW) :: ob, frs₄, todo, rfl, rfl, rfl, rfl, rfl, rfl, rfl, (SU₁.trans SU₂).trans SU₄, Fs₄, gt_cons hDa (gt_cons hW hob), Nat.lt_trans hDa dg, hnm, dvs.mono (fun p hp => .tail _ (.tail _ hp)), (dws.mono fun p hp => .tail _ (.tail _ hp)).append (.one (.list (.head _) (.cons (.str _ _) (.cons (.int _ _) (.cons (.bool _) .nil))))), hR', htot, by omega, by omega, by omega, by rw [List.length_append, List.length_singleton]; omega, rfl⟩
    · rename Fr _ _ _ _ => F₅
      rename News _ _ _ _ => N₅
      have hge : ¬ skipTo src blS q < skipTo src sgS (skipTo src blS q) := by assumption
      refine unhold ?_
      have h80L : @LE.le Nat _ 80 M := lt _ (.head _)
      have hDlL : @LE.le Nat _ Dl M := lt (Dl, oD) (.tail _ (.head _))
      have hrL : ∀ p ∈ rest, @LE.le Nat _ p.1 M := fun p hp => lt p (.tail _ (.tail _ (List.mem_append_left _ hp)))
      cases hR with
      | done h => omega
      | word _ h => exact absurd h hge
      | line _ he hleg hR' =>
        refine com_ct B src (skipTo src blS q) t1 _ news₄ (by omega) (by omega) (by omega) hleg _ _ _ _ _ _ _ _ _ _ _ _ _ _ _ rfl F₅ N₅ Fs₄ ap₄ (by show dp + 1 + 2 < recursionLimit; omega) (by show un + _ + 16 < cLine; omega) ?_
        rintro v h₆ tk₆ news₆ frs₆ SU₆ Fs₆ F₆ N₆ ap₆ ⟨rfl, t₆, rfl⟩
        clear N₅ F₅
        have hcg := comTo_ge (src := src) (p := skipTo src blS q) (by omega) (by omega)
        k_with "getMethod ref" => (refine kf_method (by assumption) (by repeat (first | exact List.mem_append_left _ mDl | apply List.mem_cons_of_mem)) PySem.F.slot_list_append PySem.F.type_list_append ?_)
        k_with "call builtin:list.append" => (refine hold ?_)
        k_steps
        rename Fr _ _ _ _ => F'
        rename News _ _ _ _ => N'
        refine unhold ?_
        subst hnw
        refine append_K F' N' (Upd.tail ?u1 (Upd.head ?u2)) ?_ ?u3
        case u1 => exact fun e => hDl e.symm
        case u2 =>
          intro p hp
          rcases List.mem_append.mp hp with hp | hp
          · rcases List.mem_cons.mp hp with rfl | hp
            · exact Nat.ne_of_gt (Nat.lt_of_le_of_lt hDlL hW)
            · rcases List.mem_cons.mp hp with rfl | hp
              · exact Nat.ne_of_gt (Nat.lt_of_le_of_lt hDlL hnm)
              · rcases List.mem_append.mp hp with hp | hp
                · exact Nat.ne_of_gt (Nat.lt_of_le_of_lt hDlL (hob p hp))
                · exact hDr p hp
          · intro e
            exact ap₆ (Dl, W.listOf vs.toArray cD) (.tail _ (.head _)) (.tail _ (by show Dl ∈ List.map (·.1) frs₆; rw [← e]; exact List.mem_map_of_mem hp))
        case u3 => exact Nat.le_trans (by rw [List.size_toArray]; omega : _ ≤ 60000) (by decide)
        rw [List.push_toArray]
        intro h₇ F₇ N₇
        k_steps
        rename_i l9 _ l1 _ F' N'
        have hl9 : @LT.lt Nat _ M l9 := by
          have z : @LT.lt Nat _ Wd l9 := allLt_mem l1.2.2 (Wd, W.listOf ws.toArray cW) (.head _)
          exact Nat.lt_trans hW z
        refine ⟨_, _, _, ((80, tabObj #[]) :: (Dl, W.listOf (vs ++ [Value.ref Wd]).toArray (cD + 1)) :: (l9, W.listOf #[] 0) :: (nm, W.listOf vsN.toArray cN) :: (((Wd, W.listOf ws.toArray cW) :: ob) ++ rest)) ++ frs₆, (src.length + 1 - (comTo src (skipTo src blS q) + 1)).toNat, rfl, F', fun p hp => N' p ?perm, by omega, ?J⟩
        case perm =>
          simp only [List.cons_append, List.append_assoc, List.mem_cons, List.mem_append] at hp
          rcases hp with rfl | rfl | rfl | rfl | rfl | hp | hp | hp <;>
          repeat (first | exact .head _ | exact List.mem_append_left _ (List.mem_append_left _ hp) | exact List.mem_append_left _ (List.mem_append_right _ hp) | exact List.mem_append_right _ hp | apply List.mem_cons_of_mem)
        case J =>
          refine ⟨comTo src (skipTo src blS q) + 1, _, l9, 0, [], [], vs ++ [Value.ref Wd], cD + 1, dn ++ [.list wsD], (Wd, W.listOf ws.toArray cW) :: ob, frs₆, _, rfl, rfl, rfl, rfl, rfl, rfl, rfl, ((SU₁.trans SU₂).trans SU₄).trans SU₆, Fs₆, gt_cons hW hob, hl9, hnm, (dvs.mono (fun p hp => .tail _ hp)).append (.one (.list (.head _) (dws.mono fun p hp => .tail _ hp))), .nil, hR', by rw [List.append_assoc]; exact htot, by omega, by omega, by rw [List.length_append, List.length_singleton]; omega, by show ((0 : Nat) : Int) ≤ _; omega, rfl⟩
      | @bad _ _ p c _ he h35 hbad =>
        subst hnw
        refine com_rt B C src (skipTo src blS q) t1 _ ((Dl, W.listOf vs.toArray cD) :: (Wd, W.listOf ws.toArray cW) :: (nm, W.listOf vsN.toArray cN) :: (ob ++ rest)) ?n80 (by omega) (by omega) (by omega) h35 p c hbad ln col (hr p c rfl) hcb hln _ _ _ _ _ _ _ _ _ _ _ _ _ _ _ rfl F₅ N₅ Fs₄ ap₄ (by show dp + 1 + 4 < recursionLimit; omega) (by show un + _ + 64 < cLine; omega) ?_
        case n80 =>
          intro p hp
          rcases List.mem_cons.mp hp with rfl | hp
          · exact hDl
          · rcases List.mem_cons.mp hp with rfl | hp
            · exact Nat.ne_of_gt (Nat.lt_of_le_of_lt h80L hW)
            · rcases List.mem_cons.mp hp with rfl | hp
              · exact Nat.ne_of_gt (Nat.lt_of_le_of_lt h80L hnm)
              · rcases List.mem_append.mp hp with hp | hp
                · exact Nat.ne_of_gt (Nat.lt_of_le_of_lt h80L (hob p hp))
                · exact h80 p hp
        rintro e txt h₆ tk₆ news₆ frs₆ SU₆ Fs₆ F₆ N₆ ap₆ fly₆ ⟨rfl, ps, rfl⟩
        rw [List.append_nil] at htot
        subst htot
        exact hE e p c h₆ _ _ vs cD ((Wd, W.listOf ws.toArray cW) :: (nm, W.listOf vsN.toArray cN) :: ob) ps frs₆ rfl (((SU₁.trans SU₂).trans SU₄).trans SU₆) F₆ N₆ ap₆ fly₆ (dvs.mono fun p hp => .tail _ (.tail _ hp))
  · have hle : ¬ q ≤ src.length := by assumption
    cases hR with
    | word h => exact absurd h hle
    | line h => exact absurd h hle
    | bad h => exact absurd h hle
    | done hlt =>
      rw [List.append_nil] at htot
      subst htot
      subst hnw
      refine hQ h₁ _ _ vs cD ((Wd, W.listOf ws.toArray cW) :: (nm, W.listOf vsN.toArray cN) :: ob) frs₁ rfl SU₁ F₁ N₁ apN (dvs.mono fun p hp => .tail _ (.tail _ hp))
end Mine
end

section
set_option Elab.async false
set_option maxRecDepth 100000
set_option maxHeartbeats 8000000
set_option linter.unusedVariables false
namespace Mine
open PySem PySem.W PyProof.Rows PyProof.Rows.TI PyProof.V PySem.Calls
theorem fillK11 : PySem.Challenge.rw_oh0011_01 = PySem.Challenge.rw_oh0011_01 ∧ K = K := by
  k_with_none
  k_fill
  exact ⟨rfl, rfl⟩
set_option pp.deepTerms false
set_option pp.maxSteps 400
local macro_rules | `(tactic| walk_at "exec While Compare cons nil") => `(tactic| k_extra "exec While Compare cons nil")
local macro_rules | `(tactic| walk_at "compareOp In str ref") => `(tactic| k_extra "compareOp In str ref")
local macro_rules | `(tactic| walk_at "call builtin:list.append") => `(tactic| k_extra "call builtin:list.append")
local macro_rules | `(tactic| walk_at "call builtin:list.index") => `(tactic| k_extra "call builtin:list.index")
local macro_rules | `(tactic| walk_at "call type:int") => `(tactic| k_extra "call type:int")
theorem nmS_eq : nmS = [⟨#[79, 80, 84, 73, 77, 73, 90, 69, 68]⟩, ⟨#[78, 69, 87, 76, 79, 67, 65, 76, 83]⟩, ⟨#[86, 65, 82, 65, 82, 71, 83]⟩, ⟨#[86, 65, 82, 75, 69, 89, 87, 79, 82, 68, 83]⟩, ⟨#[78, 69, 83, 84, 69, 68]⟩, ⟨#[71, 69, 78, 69, 82, 65, 84, 79, 82]⟩, ⟨#[78, 79, 70, 82, 69, 69]⟩, ⟨#[67, 79, 82, 79, 85, 84, 73, 78, 69]⟩, ⟨#[73, 84, 69, 82, 65, 66, 76, 69, 95, 67, 79, 82, 79, 85, 84, 73, 78, 69]⟩, ⟨#[65, 83, 89, 78, 67, 95, 71, 69, 78, 69, 82, 65, 84, 79, 82]⟩] := by decide +kernel
theorem lr_ct {w : World} {mean : ExcName → Option Value} {mg mb : Str → Option Value} {h₀ : Heap} (B : Base w mean mg mb h₀) (C : CodeHd h₀ 84 80) (src : Str) (Dl : Addr) (t1 : Tok) (c : Nat) (rest : List (Addr × Obj)) (h80 : ∀ p ∈ rest, p.1 ≠ 80) (hDl : Dl ≠ 80) (hDr : ∀ p ∈ rest, p.1 ≠ Dl) (hs : src.length ≤ 50000) (total : List Dat) (hR : Reads src 0 [] total none) :
    Spec w h₀ 116 [.str src t1, .ref Dl] [] 8 128 ((80, tabObj #[]) :: (Dl, W.listOf #[] c) :: rest) (fun v news' => ∃ vs cD ob, news' = (80, tabObj #[]) :: (Dl, W.listOf vs.toArray cD) :: (ob ++ rest) ∧ DatAll ob vs total) := by
  k_with_none
  refine enterL B (by k_is) (by k_is) (binds := [(Str.ofString "src", Value.str src t1), (Str.ofString "lines", Value.ref Dl)]) (by rfl) (by rfl) ?_
  intro dp un gd cn cs L a ccd cl outer L' s frs Q F N Fs ap hD hU lt ret
  have X := B.k
  have T := B.t
  simp only [List.cons_append] at N
  w_on
  conv in (fnBody 17) => whnf
  show wpAny _ _ _ _ _ _
  k_fold
  k_with "exec While Compare cons nil" => (refine hold ?_)
  k_steps
  rename_i nm _ _ l1n _ _ _ _ _ _ _ _ _ _ _ _ _ _ _ _ _ _ _ _ _ sa _ tk0 _ Wd _ l1a Dt _ l1b _ _ _ F' N'
  refine unhold ?_
  obtain ⟨vsN, hN, mN⟩ : ∃ vsN, StrsAre vsN nmS ∧ W.listOf vsN.toArray 0 = _ := ⟨_, by rw [nmS_eq]; exact sa, rfl⟩
  rw [← mN] at N'
  have hnm : @LT.lt Nat _ (nm - 1) nm := Nat.sub_lt (Nat.lt_of_le_of_lt (Nat.zero_le _) l1n.1) Nat.one_pos
  have hnW : @LT.lt Nat _ nm Wd := l1a.1
  refine lr_loop B C src Dl nm t1 tk0 vsN 0 hN rest h80 hDl hDr hs total none 0 0 (fun _ _ e => nomatch e) (by omega) (by omega) dp un gd cn cs L a ccd cl outer L' _ frs _ _ _ (((80, tabObj #[]) :: (Dl, W.listOf ([] : List Value).toArray c) :: (Wd, W.listOf ([] : List Value).toArray 0) :: (nm, W.listOf vsN.toArray 0) :: ([] ++ rest)) ++ frs) (src.length + 1 - (0 : Int)).toNat (nm - 1) (W.listOf #[] c) hD hU F' (fun p hp => N' p ?perm) ap ?lt ?J PassesOwn.never ?hQ ?hE
  case perm =>
    simp only [List.cons_append, List.nil_append, List.mem_cons, List.mem_append] at hp
    rcases hp with rfl | rfl | rfl | rfl | hp <;>
    repeat (first | exact .head _ | exact List.mem_append.mpr hp | apply List.mem_cons_of_mem)
  case lt =>
    intro p hp
    rcases List.mem_cons.mp hp with rfl | hp
    · exact Nat.le_sub_one_of_lt l1n.1
    · rcases List.mem_cons.mp hp with rfl | hp
      · exact Nat.le_sub_one_of_lt l1n.2.1
      · exact Nat.le_sub_one_of_lt (allLt_mem l1n.2.2 p hp)
  case J =>
    exact ⟨0, _, Wd, 0, [], [], [], c, [], [], frs, total, rfl, rfl, rfl, rfl, rfl, rfl, rfl, SameUp.refl _, Fs, (fun _ h => nomatch h), Nat.lt_trans hnm hnW, hnm, .nil, .nil, hR, rfl, Int.le_refl _, by omega, Int.le_refl _, Int.le_refl _, rfl⟩
  case hQ =>
    intro h' tk' m' vs cD ob frs' _ SU F₂ N₂ ap₂ dv
    show wpAny _ _ (execs [] _) _ _ _
    refine wpAny_execs_nil ?_
    exact ret .none h' tk' m' _ frs' SU F₂ N₂ ap₂ ⟨vs, cD, ob, rfl, dv⟩
  case hE => intro e p c' h' tk' m' vs cD ob ps frs' e'; cases e'
theorem lr_rt {w : World} {mean : ExcName → Option Value} {mg mb : Str → Option Value} {h₀ : Heap} (B : Base w mean mg mb h₀) (C : CodeHd h₀ 84 80) (src : Str) (Dl : Addr) (t1 : Tok) (c : Nat) (rest : List (Addr × Obj)) (h80 : ∀ p ∈ rest, p.1 ≠ 80) (hDl : Dl ≠ 80) (hDr : ∀ p ∈ rest, p.1 ≠ Dl) (hs : src.length ≤ 50000) (total : List Dat) (p₁ : Int) (c₁ : Nat) (hR : Reads src 0 [] total (some (p₁, c₁))) (ln : Nat) (col : Int) (hco : Coord src p₁ ln col) (hcb : 0 ≤ col ∧ col < 2 ^ 40) (hln : ln ≤ 1048576) :
    SpecR w h₀ 116 [.str src t1, .ref Dl] [] 8 128 ((80, tabObj #[]) :: (Dl, W.listOf #[] c) :: rest) (fun txt news' => txt = errText (badMsg c₁) ln col ∧ ∃ ps vs cD ob, news' = (80, tabObj ps) :: (Dl, W.listOf vs.toArray cD) :: (ob ++ rest) ∧ DatAll ob vs total) := by
  k_with_none
  refine enterRL B (by k_is) (by k_is) (binds := [(Str.ofString "src", Value.str src t1), (Str.ofString "lines", Value.ref Dl)]) (by rfl) (by rfl) ?_
  intro dp un gd cn cs L a ccd cl outer L' s frs E F N Fs ap hD hU lt raiseNew raiseOn pass passAt
  have X := B.k
  have T := B.t
  simp only [List.cons_append] at N
  w_on
  conv in (fnBody 17) => whnf
  show wpAny _ _ _ _ _ _
  k_fold
  k_with "exec While Compare cons nil" => (refine hold ?_)
  k_steps
  rename_i nm _ _ l1n _ _ _ _ _ _ _ _ _ _ _ _ _ _ _ _ _ _ _ _ _ sa _ tk0 _ Wd _ l1a Dt _ l1b _ _ _ F' N'
  refine unhold ?_
  obtain ⟨vsN, hN, mN⟩ : ∃ vsN, StrsAre vsN nmS ∧ W.listOf vsN.toArray 0 = _ := ⟨_, by rw [nmS_eq]; exact sa, rfl⟩
  rw [← mN] at N'
  have hnm : @LT.lt Nat _ (nm - 1) nm := Nat.sub_lt (Nat.lt_of_le_of_lt (Nat.zero_le _) l1n.1) Nat.one_pos
  have hnW : @LT.lt Nat _ nm Wd := l1a.1
  refine lr_loop B C src Dl nm t1 tk0 vsN 0 hN rest h80 hDl hDr hs total (some (p₁, c₁)) ln col (fun _ _ e => by cases e; exact hco) hcb hln dp un gd cn cs L a ccd cl outer L' _ frs _ _ _ (((80, tabObj #[]) :: (Dl, W.listOf ([] : List Value).toArray c) :: (Wd, W.listOf ([] : List Value).toArray 0) :: (nm, W.listOf vsN.toArray 0) :: ([] ++ rest)) ++ frs) (src.length + 1 - (0 : Int)).toNat (nm - 1) (W.listOf #[] c) hD hU F' (fun p hp => N' p ?perm) ap ?lt ?J pass ?hQ ?hE
  case perm =>
    simp only [List.cons_append, List.nil_append, List.mem_cons, List.mem_append] at hp
    rcases hp with rfl | rfl | rfl | rfl | hp <;>
    repeat (first | exact .head _ | exact List.mem_append.mpr hp | apply List.mem_cons_of_mem)
  case lt =>
    intro p hp
    rcases List.mem_cons.mp hp with rfl | hp
    · exact Nat.le_sub_one_of_lt l1n.1
    · rcases List.mem_cons.mp hp with rfl | hp
      · exact Nat.le_sub_one_of_lt l1n.2.1
      · exact Nat.le_sub_one_of_lt (allLt_mem l1n.2.2 p hp)
  case J =>
    exact ⟨0, _, Wd, 0, [], [], [], c, [], [], frs, total, rfl, rfl, rfl, rfl, rfl, rfl, rfl, SameUp.refl _, Fs, (fun _ h => nomatch h), Nat.lt_trans hnm hnW, hnm, .nil, .nil, hR, rfl, Int.le_refl _, by omega, Int.le_refl _, Int.le_refl _, rfl⟩
  case hQ => intro h' tk' m' vs cD ob frs' e; cases e
  case hE =>
    intro e p c' h' tk' m' vs cD ob ps frs' he SU F₂ N₂ ap₂ fly dv
    cases he
    exact raiseOn e _ h' tk' m' _ frs' SU F₂ N₂ ap₂ fly ⟨rfl, ps, vs, cD, ob, rfl, dv⟩
end Mine
end

section
set_option Elab.async false
set_option maxRecDepth 100000
set_option linter.unusedVariables false
namespace Mine
open PySem PySem.W PyProof.Rows PyProof.Rows.TI PySem.Calls Builtin Builtin.Str Builtin.BaseException Builtin.Exceptions
noncomputable abbrev bmVE : List Value := [.type "ValueError", .type "Exception", .type "BaseException", .type "object"]
/-- class 54 as it lies in the heap -/
noncomputable def Cls54 (h : Heap) : Prop := ∃ (nm q : Str) (bs : List Value) (hdct : Bool) (sn : List Str) (sub : List Value) (ab : Bool) (col : Option Bool) (dd : Option Addr) (k0 k1 k2 k3 k5 : Option Value) (N : Addr) (mN : Str → Option Value),
  h.get? 54 = some (excClassObj nm q 54 N bs bmVE hdct sn sub ab col dd k0 k1 k2 k3 k5 "ValueError.__new__") ∧ h.Ns N mN ∧ mN (Str.ofString "__str__") = none
theorem Cls54.keeps {h h' : Heap} (x : Cls54 h) (hk : ∀ b o, h.get? b = some o → h'.get? b = some o) : Cls54 h' := by
  obtain ⟨nm, q, bs, hdct, sn, sub, ab, col, dd, k0, k1, k2, k3, k5, N, mN, a, b, c⟩ := x
  exact ⟨nm, q, bs, hdct, sn, sub, ab, col, dd, k0, k1, k2, k3, k5, N, mN, hk _ _ a, b.keeps hk, c⟩
theorem cls54 {w : World} {mean : ExcName → Option Value} {mg mb : Str → Option Value} {h₀ : Heap} (B : Base w mean mg mb h₀) : Cls54 h₀ :=
  ⟨_, _, _, _, _, _, _, _, _, _, _, _, _, _, 53, h₀.nsMap 53, B.k 54 (o54 w.params) (by rfl), .of_isNs (isNs_of_in B.k (by kernel_rfl)), nsMap_none_of_in B.k (by kernel_rfl) (by kernel_rfl)⟩
section
variable {prog : Program} {w : World} {A : Around} {E : Value → Shared → Prop} {h : Heap} {g : Array GenState} {d : Drawn} {tk : Nat} {os : OsState} {e t : Addr} {oe : Obj} {vs : Array Value} {x : Str} {u : Tok}
theorem bexcArgs_own {items : List Value} {Q : Value × List Value → Shared → Prop} (he : h.get? e = some oe) (hd : oe.data = .fields vs) (h0 : vs[0]? = some (.ref t)) (ht : h.TupAt t items) (hq : Q (.ref t, items) ⟨h, g, d, tk, os⟩) :
    wpAny (model prog w) A (bexcArgs (.ref e)) Q E ⟨h, g, d, tk, os⟩ := by
  obtain ⟨ot, k, hto, _, htd⟩ := ht
  unfold bexcArgs
  refine wpAny_bind (wpAny_field he hd h0 (wpAny_bind (wpAny_seqItems hto htd ?_)))
  have : items.toArray.toList = items := by simp
  show wpAny _ A (pure (Value.ref t, items.toArray.toList)) Q E _
  rw [this]; exact wpAny_pure hq
theorem bexcStr_own {Q : Fin → Shared → Prop} (he : h.get? e = some oe) (hd : oe.data = .fields vs) (h0 : vs[0]? = some (.ref t)) (ht : h.TupAt t [.str x u]) (hq : Q (.done (.ret (.str x u))) ⟨h, g, d, tk, os⟩) :
    wpAny (model prog w) A (Builtin.«BaseException.__str__» ⟨[.ref e], []⟩) Q E ⟨h, g, d, tk, os⟩ := by
  unfold Builtin.«BaseException.__str__»
  repeat (first | with_reducible refine bexcArgs_own he hd h0 ht ?_ | wp_step)
  exact hq
theorem slot_ve : Slot "ValueError" "__str__" "BaseException.__str__" := PySem.F.excStr_ValueError.str
theorem mro_ve : mroOf (.type "ValueError") = pure bmVE := by rw [mroOf_type]; kernel_rfl
theorem callBexcStr_own {Q : Value → Shared → Prop} (C : Cls54 h) (he : h.get? e = some oe) (hc : oe.cls = .ref 54) (hd : oe.data = .fields vs) (h0 : vs[0]? = some (.ref t)) (ht : h.TupAt t [.str x u]) (hq : Q (.str x u) ⟨h, g, d, tk, os⟩) :
    wpAny (model prog w) A (call (.builtin "BaseException.__str__") [.ref e]) Q E ⟨h, g, d, tk, os⟩ := by
  obtain ⟨nm, q, bs, hdct, sn, sub, ab, col, dd, k0, k1, k2, k3, k5, N, mN, hC, hN, hno⟩ := C
  have hk : builtinKind "BaseException.__str__" = some .slot := by decide +kernel
  have hs : splitId "BaseException.__str__" = some ("BaseException", "__str__") := by decide +kernel
  have hob : bmVE.contains (.type "BaseException") = true := by decide +kernel
  refine wpAny_call (codeAny_call_builtin slot_ve.plain PySem.F.entry_bexc_str ?_)
  have ha := PySem.F.args_bexc_str (.ref e)
  with_reducible refine wpAny_check_slot_inst (id := "BaseException.__str__") (owner := "BaseException") (n := "__str__") (x := e) (rest := []) hk hs ha hob he hc hC ?_
  refine wpAny_mono (bexcStr_own (Q := fun fin s' => fin = .done (.ret (.str x u)) ∧ Q (.str x u) s') he hd h0 ht ⟨rfl, hq⟩) (fun fin s' h' => ?_) fun _ _ h' => h'
  obtain ⟨rfl, hv⟩ := h'
  exact hv
theorem special_own {Q : Option Value → Shared → Prop} (C : Cls54 h) (he : h.get? e = some oe) (hc : oe.cls = .ref 54) (hd : oe.data = .fields vs) (h0 : vs[0]? = some (.ref t)) (ht : h.TupAt t [.str x u]) (hq : Q (some (.str x u)) ⟨h, g, d, tk, os⟩) :
    wpAny (model prog w) A (callSpecial? (.ref e) "__str__") Q E ⟨h, g, d, tk, os⟩ := by
  have C' := C
  obtain ⟨nm, q, bs, hdct, sn, sub, ab, col, dd, k0, k1, k2, k3, k5, N, mN, hC, hN, hno⟩ := C'
  simp only [callSpecial?]
  refine wpAny_bind (wpAny_specialOf_inst he hc hC hN hno mro_ve slot_ve.lookup ?_)
  simp only [slot_ve.bind]
  exact wpAny_holding (wpAny_bind (wpAny_pure (wpAny_bind (wpAny_mono (callBexcStr_own C he hc hd h0 ht hq) (fun v s' h' => wpAny_pure h') fun _ _ h' => h'))))
theorem strOf_own {Q : Value → Shared → Prop} (hu : A.units < cLine) (C : Cls54 h) (he : h.get? e = some oe) (hc : oe.cls = .ref 54) (hd : oe.data = .fields vs) (h0 : vs[0]? = some (.ref t)) (ht : h.TupAt t [.str x u]) (hq : Q (.str x u) ⟨h, g, d, tk, os⟩) :
    wpAny (model prog w) A (Builtin.Str.strOf (.ref e)) Q E ⟨h, g, d, tk, os⟩ := by
  unfold Builtin.Str.strOf
  repeat (first | with_reducible refine wpAny_cRoomFor hu ?_ | with_reducible refine special_own C he hc hd h0 ht ?_ | wp_step)
  exact hq
end
section
variable {prog : Program} {w : World} {A : Around} {E : Value → Shared → Prop} {s : Shared} {e t : Addr} {oe : Obj} {vs : Array Value} {x : Str} {u : Tok}
theorem str_own {Q : Value → Shared → Prop} (hu : A.units + 2 < cLine) (C : Cls54 s.heap) (he : s.heap.get? e = some oe) (hc : oe.cls = .ref 54) (hd : oe.data = .fields vs) (h0 : vs[0]? = some (.ref t)) (ht : s.heap.TupAt t [.str x u]) (hq : Q (.str x u) s) :
    wpAny (model prog w) A (call (.type "str") [.ref e]) Q E s :=
  callType_new PySem.F.called_str (by decide) (PySem.F.typeCall_str_1 _) (PySem.F.newCall_str_1 _) (fun obj => PySem.F.args_object_init_2 obj _) PySem.F.entry_str_new
    (meets_str_new (S := fun A' R s' => A'.units + 1 < cLine ∧ Cls54 s'.heap ∧ s'.heap.get? e = some oe ∧ s'.heap.TupAt t [.str x u] ∧ R (.ok (.ret (.str x u))) s')
      fun pr w' A' _ s' hq => by
        obtain ⟨hp, g, d, tk, os⟩ := s'
        exact strOf_own (A := A'.in1) hq.1 hq.2.1 hq.2.2.1 hc hd h0 hq.2.2.2.1 hq.2.2.2.2)
    ⟨(show A.units + 1 + 1 < cLine from hu), C, he, ht, typeIs_str _ _ _, hq⟩
end
end Mine
end

section
set_option Elab.async false
set_option maxRecDepth 100000
set_option linter.unusedVariables false
namespace Mine
open PySem PySem.W PyProof.Rows PyProof.Rows.TI PySem.Calls
section
variable {w : World} {mean : ExcName → Option Value} {mg mb : Str → Option Value} {A₀ : Around} {E : Value → Shared → Prop} {s' : Shared} {h₀ : Heap} {L a e : Addr} {m : Str → Option Value} {name : Str} {scope : Scope} {cd : Value}
  {l : List Env} {news frs : List (Addr × Obj)} {b₀ : Stmt} {suite : List Stmt} {pos np : Pos} {rest : List ExceptHandler} {Q : Flow → Shared → Prop} {n txt : Str}
theorem name54 (B : Base w mean mg mb h₀) : nsIn (K w.params) mainGlobals (Str.ofString "TOMLDecodeError") = some (some (.ref 54)) := by kernel_rfl
/-- what is known of a caught exception of class 54 -/
noncomputable def Held54 (h : Heap) (e : Addr) (txt : Str) : Prop := ∃ t u oe vs, Cls54 h ∧ h.get? e = some oe ∧ oe.cls = .ref 54 ∧ oe.data = .fields vs ∧ vs[0]? = some (.ref t) ∧ h.TupAt t [.str txt u]
theorem caughtFly (B : Base w mean mg mb h₀) (hfr : A₀.frames = some l) (Fs : Frs l frs) (F : Fr h₀ L s'.heap m) (N : News h₀ L s'.heap (news ++ frs)) (fl : Fly h₀ (envOf name scope L a cd :: l) e txt news s'.heap)
    (k : ∀ h' frs' tk, SameUp frs frs' → Frs l frs' → Fr h₀ L h' (fun y => if y = n then some (.ref e) else m y) → News h₀ L h' (news ++ frs') → Held54 h' e txt →
      wpAny (model prg w) ((A₀.deeper (envOf name scope L a cd)).mark (some (.ref e))) (execs (b₀ :: suite) (envOf name scope L a cd))
        (fun f s₄ => wpAny (model prg w) (A₀.deeper (envOf name scope L a cd)) (do bindName (envOf name scope L a cd) n .none; unbindBehindTheSuite (envOf name scope L a cd) n pos) (fun _ s₅ => Q f s₅) E s₄)
        (AsSuiteRaised (model prg w) ((A₀.deeper (envOf name scope L a cd)).mark (some (.ref e))) (envOf name scope L a cd) n pos (notedBy (model prg w) ((A₀.deeper (envOf name scope L a cd)).mark (some (.ref e))) (envOf name scope L a cd) (cameBackBy (model prg w) (A₀.deeper (envOf name scope L a cd)) (envOf name scope L a cd) E)))
        { s' with heap := h', toks := tk })
    (hk : scope.kind = .function := by rfl) (hlo : (envOf name scope L a cd).kindOf n = some .local := by rfl) (hx : (envOf name scope L a cd).kindOf (Str.ofString "TOMLDecodeError") = some .globalImplicit := by rfl) :
    wpAny (model prg w) (A₀.deeper (envOf name scope L a cd)) (noteFrame (.ref e) (envOf name scope L a cd))
      (fun _ s₂ => wpAny (model prg w) (A₀.deeper (envOf name scope L a cd)) (setFlight (.ref e) none) (fun _ s₃ =>
        wpAny (model prg w) (A₀.deeper (envOf name scope L a cd)) (handleBy (.ref e) (envOf name scope L a cd) (.ExceptHandler (some (.Name (Str.ofString "TOMLDecodeError") np)) (some n) (b₀ :: suite) pos :: rest)) Q E s₃) E s₂) E s' := by
  obtain ⟨Bh, t, u, st, hnews, hfl, htup, htn⟩ := fl
  have X := B.k
  have T := topRead_of B.t
  refine wpAny_looks_onW (Around.frames_deeper hfr) rfl hfl fun h₄ hheld₄ hsm₄ => ?_
  refine wpAny_landsW hheld₄ fun h₅ hheld hsm₅' => ?_
  have hsm₅ := hsm₄.trans hsm₅'
  have hheld' := flyingW_base st hheld
  have F₅ := F.of_stays hheld'.1 hsm₅
  obtain ⟨ob, hob, hobc⟩ := hheld'.there
  refine wpAny_handleBy_cons (codeAny_handlers_test (name_K F₅ X T (name54 B) ?_ hk hx (by decide))) (by intro q; cases q)
  obtain ⟨bm, N₀, nm, qn, bs, hdct, sn, sub, ab, col, dd, k0, k1, k2, k3, k5, mN, hC, hN, hni, TL⟩ := ((own54 B).keeps F₅.keep).obj
  refine wpAny_excMatches_sub_self hC hob hobc (TL.hasType (by rfl)) (codeAny_handlers_suite_as ?_)
  refine lands_againW hheld fun h₆ hfl₆ hsm₆ => ?_
  have hfl₆' := flyingW_base st hfl₆
  have hsm := hsm₅.trans hsm₆
  have F₆ := F.of_stays hfl₆'.1 hsm
  obtain ⟨oe, ws, hoe, hoec, hoed, hoe0⟩ := hfl₆'.first
  have htup₆ := (htup.of_slots hsm₅).of_slots hsm₆
  obtain ⟨frs', SU, ht⟩ := sameUp_of (h' := h₆) fun p hp => hsm p.1 p.2 (N p (List.mem_append_right _ hp)).1 fun vs q => by
    obtain ⟨es, ep, hd⟩ := Fs.dict p hp
    rw [hd] at q; cases q
  have keyLt : ∀ p ∈ frs', p.1 ≠ L ∧ h₀.get? p.1 = none := fun p hp => by
    have hm : p.1 ∈ frs.map (·.1) := by rw [← sameUp_keys SU]; exact List.mem_map_of_mem hp
    obtain ⟨p', hp', e'⟩ := List.mem_map.mp hm
    rw [← e']
    exact (N p' (List.mem_append_right _ hp')).2
  have N₆ : News h₀ L h₆ (news ++ frs') := fun q hq => by
    rcases List.mem_append.mp hq with hq | hq
    · exact ⟨hfl₆.1 _ _ (hnews q hq), (N q (List.mem_append_left _ hq)).2⟩
    · exact ⟨ht q hq, keyLt q hq⟩
  have heL : e ≠ L := fun q => by
    obtain ⟨_, ⟨L', _, hf, hn', hl'⟩, _⟩ := hfl.2.2.1
    obtain ⟨oL, es, ep, hL, hLd, _⟩ := F₆.ns
    rw [q, hL] at hoe
    cases hoe
    rw [hLd] at hoed; cases hoed
  have htL : t ≠ L := fun q => by
    obtain ⟨ot, nt, hot, hotc, hotd⟩ := htup₆
    obtain ⟨oL, es, ep, hL, hLd, _⟩ := F₆.ns
    rw [q, hL] at hot
    cases hot
    rw [hLd] at hotd; cases hotd
  obtain ⟨ot, nt, hot, hotc, hotd⟩ := htup₆
  refine stN F₆ (news := (e, oe) :: (t, ot) :: (news ++ frs')) (fun q hq => ?_) (fun h₇ F₇ N₇ => ?_) hk hlo
  · rcases List.mem_cons.mp hq with rfl | hq
    · exact ⟨hoe, heL, hfl₆'.2.1⟩
    · rcases List.mem_cons.mp hq with rfl | hq
      · exact ⟨hot, htL, fresh_of_stays st htn⟩
      · exact N₆ q hq
  · exact k h₇ frs' _ SU (Fs.up SU) F₇ (fun q hq => N₇ q (.tail _ (.tail _ hq))) ⟨t, u, oe, ws, (cls54 B).keeps F₇.keep, (N₇ _ (.head _)).1, hoec, hoed, hoe0, ⟨ot, nt, (N₇ _ (.tail _ (.head _))).1, hotc, hotd⟩⟩
end
end Mine
end

section
set_option Elab.async false
set_option maxRecDepth 100000
set_option maxHeartbeats 8000000
set_option linter.unusedVariables false
namespace Mine
open PySem PySem.W PyProof.Rows PyProof.Rows.TI PyProof.V PySem.Calls
theorem fillK12 : PySem.Challenge.rw_oh0011_01 = PySem.Challenge.rw_oh0011_01 ∧ K = K := by
  k_with_none
  k_fill
  exact ⟨rfl, rfl⟩
set_option pp.deepTerms false
set_option pp.maxSteps 400
local macro_rules | `(tactic| walk_at "exec While Compare cons nil") => `(tactic| k_extra "exec While Compare cons nil")
local macro_rules | `(tactic| walk_at "compareOp In str ref") => `(tactic| k_extra "compareOp In str ref")
local macro_rules | `(tactic| walk_at "call builtin:list.append") => `(tactic| k_extra "call builtin:list.append")
local macro_rules | `(tactic| walk_at "call builtin:list.index") => `(tactic| k_extra "call builtin:list.index")
local macro_rules | `(tactic| walk_at "call type:int") => `(tactic| k_extra "call type:int")
local macro_rules | `(tactic| walk_at "call type:str") => `(tactic| k_extra "call type:str")
theorem lt_ct {w : World} {mean : ExcName → Option Value} {mg mb : Str → Option Value} {h₀ : Heap} (B : Base w mean mg mb h₀) (C : CodeHd h₀ 84 80) (src : Str) (t1 : Tok) (rest : List (Addr × Obj)) (h80 : ∀ p ∈ rest, p.1 ≠ 80) (hs : src.length ≤ 50000) (total : List Dat) (hR : Reads src 0 [] total none) :
    Spec w h₀ 123 [.str src t1] [] 10 160 ((80, tabObj #[]) :: rest) (fun v news' => ∃ ps ob, news' = (80, tabObj ps) :: (ob ++ rest) ∧ DatIn ob v (.list [.list total, .str (Str.ofString "")])) := by
  k_with_none
  refine enterL B (by k_is) (by k_is) (binds := [(Str.ofString "src", Value.str src t1)]) (by rfl) (by rfl) ?_
  intro dp un gd cn cs L a ccd cl outer L' s frs Q F N Fs ap hD hU lt ret
  have X := B.k
  have T := B.t
  simp only [List.cons_append] at N
  w_on
  conv in (fnBody 18) => whnf
  show wpAny _ _ _ _ _ _
  k_fold
  k_with "call ref" => (refine hold ?_)
  k_steps
  rename_i l _ l1 _ F' N'
  refine unhold ?_
  have hlr : ∀ p ∈ rest ++ frs, @LT.lt Nat _ p.1 l := allLt_mem l1.2
  have ap' : Apart ((80, tabObj #[]) :: (l, W.listOf #[] 0) :: rest) L' frs := by
    intro p hp
    rcases List.mem_cons.mp hp with rfl | hp
    · exact ap _ (.head _)
    · rcases List.mem_cons.mp hp with rfl | hp
      · intro hm
        rcases List.mem_cons.mp hm with e | hm
        · exact (N' _ (.head _)).2.1 e
        · obtain ⟨q, hq, e⟩ := List.mem_map.mp hm
          exact Nat.ne_of_lt (hlr q (List.mem_append_right _ hq)) e
      · exact ap _ (.tail _ hp)
  have N₁ : News h₀ L' _ (((80, tabObj #[]) :: (l, W.listOf #[] 0) :: rest) ++ frs) := fun p hp => N' p (by
    simp only [List.cons_append, List.mem_cons, List.mem_append] at hp ⊢
    rcases hp with h | h | h <;> simp only [h, true_or, or_true])
  refine lr_ct B C src l _ 0 rest h80 (Nat.ne_of_gt l1.1) (fun p hp => Nat.ne_of_lt (hlr p (List.mem_append_left _ hp))) hs total hR _ _ _ _ _ _ _ _ _ _ _ _ _ _ _ rfl F' N₁ Fs ap' (by show dp + 1 + 8 < recursionLimit; omega) (by show un + _ + 128 < cLine; omega) ?_
  rintro v h₂ tk₂ news₂ frs₂ SU₂ Fs₂ F₂ N₂ ap₂ ⟨vs, cD, ob, rfl, dv⟩
  k_steps
  rename_i l9 _ F₃ N₃ l2
  refine ret (.ref l9) _ _ _ ((80, tabObj #[]) :: (((l9, W.listOf #[.ref l, .str (Str.ofString "") tk₂] 0) :: (l, W.listOf vs.toArray cD) :: ob) ++ rest)) frs₂ SU₂ F₃ (fun p hp => N₃ p ?perm) ?ap ⟨#[], _, rfl, .list (.head _) (.cons (.list (.tail _ (.head _)) (dv.mono fun p hp => .tail _ (.tail _ hp))) (.cons (.str _ _) .nil))⟩
  case perm =>
    simp only [List.cons_append, List.append_assoc, List.mem_cons, List.mem_append] at hp ⊢
    rcases hp with h | h | h | h | h | h <;> simp only [h, true_or, or_true]
  case ap =>
    intro p hp
    rcases List.mem_cons.mp hp with rfl | hp
    · exact ap₂ _ (.head _)
    · rcases List.mem_cons.mp hp with rfl | hp
      · intro hm
        rcases List.mem_cons.mp hm with e | hm
        · exact (N₃ _ (.head _)).2.1 e
        · obtain ⟨q, hq, e⟩ := List.mem_map.mp hm
          exact Nat.ne_of_lt (l2 q (List.mem_append_right _ hq)) e
      · exact ap₂ p (.tail _ hp)
theorem lt_rt {w : World} {mean : ExcName → Option Value} {mg mb : Str → Option Value} {h₀ : Heap} (B : Base w mean mg mb h₀) (C : CodeHd h₀ 84 80) (src : Str) (t1 : Tok) (rest : List (Addr × Obj)) (h80 : ∀ p ∈ rest, p.1 ≠ 80) (hs : src.length ≤ 50000) (total : List Dat) (p₁ : Int) (c₁ : Nat) (hR : Reads src 0 [] total (some (p₁, c₁))) (ln : Nat) (col : Int) (hco : Coord src p₁ ln col) (hcb : 0 ≤ col ∧ col < 2 ^ 40) (hln : ln ≤ 1048576) :
    Spec w h₀ 123 [.str src t1] [] 10 160 ((80, tabObj #[]) :: rest) (fun v news' => ∃ ps ob, news' = (80, tabObj ps) :: (ob ++ rest) ∧ DatIn ob v (.list [.list total, .str (errText (badMsg c₁) ln col)])) := by
  k_with_none
  refine enterL B (by k_is) (by k_is) (binds := [(Str.ofString "src", Value.str src t1)]) (by rfl) (by rfl) ?_
  intro dp un gd cn cs L a ccd cl outer L' s frs Q F N Fs ap hD hU lt ret
  have X := B.k
  have T := B.t
  simp only [List.cons_append] at N
  w_on
  conv in (fnBody 18) => whnf
  show wpAny _ _ _ _ _ _
  k_fold
  k_with "call ref" => (refine hold ?_)
  k_steps
  rename_i l _ l1 _ F' N'
  refine unhold ?_
  have hlr : ∀ p ∈ rest ++ frs, @LT.lt Nat _ p.1 l := allLt_mem l1.2
  have ap' : Apart ((80, tabObj #[]) :: (l, W.listOf #[] 0) :: rest) L' frs := by
    intro p hp
    rcases List.mem_cons.mp hp with rfl | hp
    · exact ap _ (.head _)
    · rcases List.mem_cons.mp hp with rfl | hp
      · intro hm
        rcases List.mem_cons.mp hm with e | hm
        · exact (N' _ (.head _)).2.1 e
        · obtain ⟨q, hq, e⟩ := List.mem_map.mp hm
          exact Nat.ne_of_lt (hlr q (List.mem_append_right _ hq)) e
      · exact ap _ (.tail _ hp)
  have N₁ : News h₀ L' _ (((80, tabObj #[]) :: (l, W.listOf #[] 0) :: rest) ++ frs) := fun p hp => N' p (by
    simp only [List.cons_append, List.mem_cons, List.mem_append] at hp ⊢
    rcases hp with h | h | h <;> simp only [h, true_or, or_true])
  refine lr_rt B C src l _ 0 rest h80 (Nat.ne_of_gt l1.1) (fun p hp => Nat.ne_of_lt (hlr p (List.mem_append_left _ hp))) hs total p₁ c₁ hR ln col hco hcb hln _ _ _ _ _ _ _ _ _ _ _ _ _ _ _ rfl F' N₁ Fs ap' (by show dp + 1 + 8 < recursionLimit; omega) (by show un + _ + 128 < cLine; omega) ?_
  rintro e txt h₂ tk₂ news₂ frs₂ SU₂ Fs₂ F₂ N₂ ap₂ fly₂ ⟨rfl, ps, vs, cD, ob, rfl, dv⟩
  refine caughtFly B rfl Fs₂ F₂ N₂ fly₂ ?_
  intro h₃ frs₃ tk₃ SU₃ Fs₃ F₃ N₃ hd₃
  k_with "call type:str" => (refine hold ?_)
  k_steps
  obtain ⟨t, u, oe, xs, C54, he, hc, hd, h0, ht⟩ := hd₃
  refine unhold ?_
  refine str_own (by show un + _ + 2 < cLine; omega) C54 he hc hd h0 ht ?_
  clear N' F' N₁ N₂ F₂
  k_steps
  rename_i l9 _ F₄ N₄ l2
  refine name_goes_keeps F₄ N₄ ?_
  intro h₅ tk₅ F₅ N₅
  refine ret (.ref l9) _ _ _ ((80, tabObj ps) :: (((l9, W.listOf #[.ref l, .str (errText (badMsg c₁) ln col) u] 0) :: (l, W.listOf vs.toArray cD) :: ob) ++ rest)) frs₃ (SU₂.trans SU₃) F₅ (fun p hp => N₅ p ?perm) ?ap ⟨ps, _, rfl, .list (.head _) (.cons (.list (.tail _ (.head _)) (dv.mono fun p hp => .tail _ (.tail _ hp))) (.cons (.str _ _) .nil))⟩
  case perm =>
    simp only [List.cons_append, List.append_assoc, List.mem_cons, List.mem_append] at hp ⊢
    rcases hp with h | h | h | h | h | h <;> simp only [h, true_or, or_true]
  case ap =>
    have ap₃ := ap₂.up SU₃
    intro p hp
    rcases List.mem_cons.mp hp with rfl | hp
    · exact ap₃ _ (.head _)
    · rcases List.mem_cons.mp hp with rfl | hp
      · intro hm
        rcases List.mem_cons.mp hm with e | hm
        · exact (N₄ _ (.head _)).2.1 e
        · obtain ⟨q, hq, e⟩ := List.mem_map.mp hm
          exact Nat.ne_of_lt (l2 q (List.mem_append_right _ hq)) e
      · exact ap₃ p (.tail _ hp)
end Mine
end

end

section
set_option Elab.async false
set_option maxRecDepth 100000
set_option maxHeartbeats 1000000
set_option linter.unusedVariables false
namespace Mine
open PySem PySem.W PyProof.Rows PyProof.Rows.TI PyProof.V PySem.Calls
theorem fillK6 : PySem.Challenge.rw_oh0011_01 = PySem.Challenge.rw_oh0011_01 ∧ K = K := by
  k_with_none
  k_fill
  exact ⟨rfl, rfl⟩
set_option pp.deepTerms false
set_option pp.maxSteps 600
local macro_rules | `(tactic| k_all) => `(tactic| first | exact allNe_lt (by assumption) (by omega) | assumption | (refine allNe_cons (by (first | exact ne_gt (by omega) | exact ne_lt (by omega) | assumption)) ?_; k_all))
local macro_rules | `(tactic| walk_at "eval ListComp") => `(tactic| (with_unfolding_all refine compE (by assumption) (by rfl) (by decide) (by rfl) (by decide) ?_))
local macro_rules | `(tactic| walk_at "exec Assign cons ListComp") => `(tactic| (with_unfolding_all refine compA (by assumption) (by rfl) (by rfl) (by rfl) (by decide) (by rfl) (by decide) (by rfl) (by rfl) ?_))
noncomputable def nameLens : List Int := [9, 9, 7, 11, 6, 9, 6, 9, 18, 15]
noncomputable def wlen (k : Nat) : Int := if k < 10 then nameLens.getD k 0 else 3 + (k : Int) / 4
noncomputable def wlist (f : Int) (n : Nat) : List Int := ((List.range n).filter (bit f)).map wlen
theorem wlist_yes {f : Int} {k : Nat} (h : bit f k = true) : wlist f (k + 1) = wlist f k ++ [wlen k] := by
  unfold wlist
  rw [List.range_succ, List.filter_append, List.map_append, List.filter_cons, h]; rfl
theorem wlist_no {f : Int} {k : Nat} (h : bit f k = false) : wlist f (k + 1) = wlist f k := by
  unfold wlist
  rw [List.range_succ, List.filter_append, List.filter_cons, h]; simp
noncomputable def restF (f : Int) : Int := f.fdiv (2 ^ Int.toNat 32)
noncomputable def tailLen (f : Int) : Int := (if restF f < 0 then 3 else 2) + (if restF f = 0 then 1 else if -16 < restF f ∧ restF f < 16 then 9 else 10)
noncomputable def wides (f : Int) : List Int := wlist f 32 ++ if restF f ≠ 0 ∨ f = 0 then [tailLen f] else []
/-- what _law_wide gives -/
noncomputable def wideN (f : Int) : Int := (wides f).sum + 2 * ((wides f).length - 1)
theorem wide_val {f x : Int} {n : Nat} (h : restF f ≠ 0 ∨ f = 0) (hx : x = tailLen f) (hn : n = (wlist f 32).length + 1) : (wlist f 32 ++ [x]).sum + 2 * ((n : Int) - 1) = wideN f := by
  unfold wideN wides
  rw [if_pos h, hx, hn, List.length_append]; rfl
theorem wide_val0 {f : Int} {n : Nat} (h : ¬ (restF f ≠ 0 ∨ f = 0)) (hn : n = (wlist f 32).length) : (wlist f 32).sum + 2 * ((n : Int) - 1) = wideN f := by
  unfold wideN wides
  rw [if_neg h, List.append_nil, hn]
theorem rest_rangeF {f : Int} (h1 : -2 ^ 36 < f) (h2 : f < 2 ^ 36) : -16 ≤ f.fdiv (2 ^ Int.toNat 32) ∧ f.fdiv (2 ^ Int.toNat 32) ≤ 15 := by
  rw [Int.fdiv_eq_ediv_of_nonneg _ (by decide)]
  exact rest_range h1 h2
noncomputable def figs (i : Nat) : List Int := (List.range i).map fun (j : Nat) => 2 + (j : Int)
theorem figs_succ (i : Nat) : figs (i + 1) = figs i ++ [2 + (i : Int)] := by
  unfold figs
  rw [List.range_succ, List.map_append]; rfl
theorem figs0 {l : Int} (h0 : 0 ≤ l) (h1 : l ≤ 16) (i : Nat) : l.fdiv (16 ^ (2 + (i : Int)).toNat) = 0 := by
  have e : (2 + (i : Int)).toNat = i + 2 := by omega
  have p : (0 : Int) < 16 ^ i := Int.pow_pos (by decide)
  rw [e, Int.pow_succ, Int.pow_succ, Int.fdiv_eq_ediv_of_nonneg _ (by omega)]
  exact Int.ediv_eq_zero_of_lt h0 (by omega)
theorem pow16 (n : Nat) : (16 : Int) ^ n ≠ 0 := Int.ne_of_gt (Int.pow_pos (by decide))
local macro_rules | `(tactic| walk_at "subscriptTail") => `(tactic| k_extra "subscriptTail")
local macro_rules | `(tactic| walk_at "binaryOp FloorDiv int int") => `(tactic| k_extra "binaryOp FloorDiv int int")
theorem pow16log : ∀ i : Nat, i < 18 → ((16 : Int) ^ (2 + (i : Int)).toNat).natAbs.log2 < 9000 := by decide +kernel
section
variable {w : World} {A : Around} {E : Value → Shared → Prop} {s : Shared} {h₀ : Heap} {L : Addr} {m : Str → Option Value} {nws : List (Addr × Obj)}
theorem sum_push {Q : Value → Shared → Prop} {D : Addr} {ys : List Value} {ns : List Int} {n : Int} {t : Tok} {c : Nat} (F : Fr h₀ L s.heap m) (N : News h₀ L s.heap nws) (hh : A.handled = none) (hm : (D, W.listOf (ys.toArray.push (.int n t)) c) ∈ nws) (hi : IntsAre ys ns)
    (h : ∀ h' tk t', Fr h₀ L h' m → News h₀ L h' nws → Q (.int (ns ++ [n]).sum t') { s with heap := h', toks := tk }) : wpAny (model prg w) A (call (.builtin "sum") [.ref D]) Q E s := by
  have hl : s.heap.IsList D (ys ++ [Value.int n t]).toArray := by
    have := News.isList N hm
    rwa [List.push_toArray] at this
  exact LSm.sum_ints F N hh hl (ints_snoc hi) h
end
theorem lw_ct {w : World} {mean : ExcName → Option Value} {mg mb : Str → Option Value} {h₀ : Heap} (B : Base w mean mg mb h₀) (fl : Int) (t1 : Tok) (news : List (Addr × Obj)) (hf1 : -2 ^ 36 < fl) (hf2 : fl < 2 ^ 36) :
    Spec w h₀ 104 [.int fl t1] [] 1 16 news (fun v news' => news' = news ∧ ∃ t, v = .int (wideN fl) t) := by
  refine enterC B (by k_is) (by k_is) (binds := [(Str.ofString "flags", Value.int fl t1)]) (by rfl) (by rfl) (by decide +kernel) ?_
  intro dp un gd cn cs L a ccd cl outer L' s frs cells Q F N Y lt Fs ap hD hU ret
  have X := B.k
  have T := B.t
  k_cells Y
  simp only [List.cons_append, List.nil_append] at N
  w_on
  conv in (fnBody 15) => whnf
  show wpAny _ _ _ _ _ _
  k_fold
  k_steps
  refine src_range (n := 32) (fun i ys nws => nws = _ ∧ IntsAre ys (wlist fl i)) rfl (by assumption) (by assumption) (by assumption) (by decide) (by decide) (by decide) (by rfl) (by rfl) ⟨rfl, .nil⟩ ?turn ?fin
  case turn =>
    rintro i tv ys nws₁ h tk I oI C oC D m₂ E' s₂ hi ⟨rfl, hys⟩ hoC hm F₁ N₁ off hCD hI ⟨_, rfl⟩
    refine wpAny_tests_one ?_
    k_fold
    k_steps
    · rename (fl.fdiv _).fmod 2 = 1 => hb
      have hk : 0 + (i : Int) < 10 := by assumption
      have hb' := bitF.mp hb
      refine ⟨_, _, _, rfl, F₁, N₁, fun p hp => ⟨(off p (.tail _ hp)).1, (off p (.tail _ hp)).2, fun q => hI p hp (List.mem_singleton.mp q)⟩, rfl, ?_⟩
      rw [wlist_yes hb', show wlen i = nameLens.getD i 0 from if_pos (by omega), show (0 + (i : Int)).toNat = i by omega]
      exact ints_snoc hys
    · rename (fl.fdiv _).fmod 2 = 1 => hb
      have hk : ¬ 0 + (i : Int) < 10 := by assumption
      have hb' := bitF.mp hb
      refine ⟨_, _, _, rfl, F₁, N₁, fun p hp => ⟨(off p (.tail _ hp)).1, (off p (.tail _ hp)).2, fun q => hI p hp (List.mem_singleton.mp q)⟩, rfl, ?_⟩
      rw [wlist_yes hb', show wlen i = 3 + (i : Int) / 4 from if_neg (by omega), Int.fdiv_eq_ediv_of_nonneg _ (by decide), Int.zero_add]
      exact ints_snoc hys
    · rename (fl.fdiv _).fmod 2 ≠ 1 => hb
      have hb' := bitN hb
      refine ⟨_, _, _, rfl, F₁, N₁, fun p hp => ⟨(off p (.tail _ hp)).1, (off p (.tail _ hp)).2, fun q => hI p hp (List.mem_singleton.mp q)⟩, rfl, ?_⟩
      rw [wlist_no hb']
      exact hys
  case fin =>
    rintro ys nws' s₂ ⟨_, rfl⟩ ⟨rfl, hys⟩ D h tk F₁ N₁ off hLD
    have hlen : ys.length ≤ 32 := by
      rw [hys.length]
      unfold wlist
      rw [List.length_map]
      exact Nat.le_trans (List.length_filter_le _ _) (by simp)
    simp only [List.forall_mem_cons] at off
    obtain ⟨hD0, hD3, hD2, hD1, hDn⟩ := off
    have g0 : @Ne Nat _ _ := hD0
    have g1 : @Ne Nat _ _ := hD1
    have g2 : @Ne Nat _ _ := hD2
    have g3 : @Ne Nat _ _ := hD3
    have hr : -16 ≤ fl.fdiv (2 ^ Int.toNat 32) ∧ fl.fdiv (2 ^ Int.toNat 32) ≤ 15 := rest_rangeF hf1 hf2
    replace N₁ : News h₀ L' h ((D, W.listOf ys.toArray ys.length) :: _) := N₁
    k_with "call builtin:len" => (refine Calls.call_len_list (News.isList (by assumption) (by k_mem)) (by simp only [Array.size_push, List.size_toArray]; omega) ?_)
    have hfg : (figs 18).getD (Int.toNat 0) 0 = 2 := by decide
    have hrF : restF fl = fl.fdiv (2 ^ Int.toNat 32) := rfl
    have hn := hys.length
    k_steps
    · ((
    refine src_range (n := 18) (fun i ys nws => nws = _ ∧ IntsAre ys (figs i)) rfl (by assumption) (by assumption) (by assumption) (by decide) (by decide) (by decide) (by rfl) (by rfl) ⟨rfl, .nil⟩ ?turn2 ?fin2
    (case turn2 =>
      rintro i tv ys₂ nws₁ h tk I oI C oC D₂ m₂ E' s₂ hi ⟨rfl, hys₂⟩ hoC hm F₂ N₂ off hCD hI ⟨_, rfl⟩
      refine wpAny_tests_one ?_
      k_fold
      k_with "binaryOp FloorDiv int int" => (refine floordiv_int (pow16 _) ?_ (Or.inl (PyProof.noPylong_of_log2 (pow16log i hi))))
      k_steps
      · refine ⟨_, _, _, rfl, F₂, N₂, fun p hp => ⟨(off p (.tail _ hp)).1, (off p (.tail _ hp)).2, fun q => hI p hp (List.mem_singleton.mp q)⟩, rfl, ?_⟩
        rw [figs_succ]
        exact ints_snoc hys₂
      · rename Int.fdiv _ _ ≠ 0 => hne
        exact absurd (figs0 (by omega) (by omega) i) hne)
    (case fin2 =>
      rintro ys₂ nws' s₂ ⟨_, rfl⟩ ⟨rfl, hys₂⟩ D₂ h tk F₂ N₂ off hLD₂
      replace N₂ : News h₀ L' h ((D₂, W.listOf ys₂.toArray ys₂.length) :: _) := N₂
      simp only [List.forall_mem_cons] at off
      obtain ⟨e0, e1, e2, e3, e4, e5, e6⟩ := off
      have f0 : @Ne Nat _ _ := e0
      have f1 : @Ne Nat _ _ := e1
      have f2 : @Ne Nat _ _ := e2
      have f3 : @Ne Nat _ _ := e3
      have f4 : @Ne Nat _ _ := e4
      have f5 : @Ne Nat _ _ := e5
      k_with "call builtin:sum" => (refine sum_push (by assumption) (by assumption) rfl (by k_mem) hys ?_; intro _ _ _ _ _)
      k_with "subscriptTail" => (refine PyProof.Rows.item_list_intsR (News.isList (by assumption) (.head _)) hys₂ (by decide) (by decide) (by decide) ?_; intro _)
      k_steps
      all_goals ((
    rename Fr _ _ _ _ => F'
    rename News _ _ _ _ => N'
    first
    | (exfalso; omega)
    | exact ret (.int _ _) _ _ _ news frs (SameUp.refl _) F' (fun p hp => N' p (by repeat (first | exact hp | apply List.mem_cons_of_mem))) ap ⟨rfl, _, congrArg (fun z => Value.int z _) (wide_val (by omega) (by unfold tailLen; split <;> split <;> (try split) <;> omega) (by first | rfl | rw [Array.size_push, List.size_toArray, hn]))⟩)))))
    · ((
    refine src_range (n := 18) (fun i ys nws => nws = _ ∧ IntsAre ys (figs i)) rfl (by assumption) (by assumption) (by assumption) (by decide) (by decide) (by decide) (by rfl) (by rfl) ⟨rfl, .nil⟩ ?turn2 ?fin2
    (case turn2 =>
      rintro i tv ys₂ nws₁ h tk I oI C oC D₂ m₂ E' s₂ hi ⟨rfl, hys₂⟩ hoC hm F₂ N₂ off hCD hI ⟨_, rfl⟩
      refine wpAny_tests_one ?_
      k_fold
      k_with "binaryOp FloorDiv int int" => (refine floordiv_int (pow16 _) ?_ (Or.inl (PyProof.noPylong_of_log2 (pow16log i hi))))
      k_steps
      · refine ⟨_, _, _, rfl, F₂, N₂, fun p hp => ⟨(off p (.tail _ hp)).1, (off p (.tail _ hp)).2, fun q => hI p hp (List.mem_singleton.mp q)⟩, rfl, ?_⟩
        rw [figs_succ]
        exact ints_snoc hys₂
      · rename Int.fdiv _ _ ≠ 0 => hne
        exact absurd (figs0 (by omega) (by omega) i) hne)
    (case fin2 =>
      rintro ys₂ nws' s₂ ⟨_, rfl⟩ ⟨rfl, hys₂⟩ D₂ h tk F₂ N₂ off hLD₂
      replace N₂ : News h₀ L' h ((D₂, W.listOf ys₂.toArray ys₂.length) :: _) := N₂
      simp only [List.forall_mem_cons] at off
      obtain ⟨e0, e1, e2, e3, e4, e5, e6⟩ := off
      have f0 : @Ne Nat _ _ := e0
      have f1 : @Ne Nat _ _ := e1
      have f2 : @Ne Nat _ _ := e2
      have f3 : @Ne Nat _ _ := e3
      have f4 : @Ne Nat _ _ := e4
      have f5 : @Ne Nat _ _ := e5
      k_with "call builtin:sum" => (refine sum_push (by assumption) (by assumption) rfl (by k_mem) hys ?_; intro _ _ _ _ _)
      k_with "subscriptTail" => (refine PyProof.Rows.item_list_intsR (News.isList (by assumption) (.head _)) hys₂ (by decide) (by decide) (by decide) ?_; intro _)
      k_steps
      all_goals ((
    rename Fr _ _ _ _ => F'
    rename News _ _ _ _ => N'
    first
    | (exfalso; omega)
    | exact ret (.int _ _) _ _ _ news frs (SameUp.refl _) F' (fun p hp => N' p (by repeat (first | exact hp | apply List.mem_cons_of_mem))) ap ⟨rfl, _, congrArg (fun z => Value.int z _) (wide_val (by omega) (by unfold tailLen; split <;> split <;> (try split) <;> omega) (by first | rfl | rw [Array.size_push, List.size_toArray, hn]))⟩)))))
    · ((
    refine src_range (n := 18) (fun i ys nws => nws = _ ∧ IntsAre ys (figs i)) rfl (by assumption) (by assumption) (by assumption) (by decide) (by decide) (by decide) (by rfl) (by rfl) ⟨rfl, .nil⟩ ?turn2 ?fin2
    (case turn2 =>
      rintro i tv ys₂ nws₁ h tk I oI C oC D₂ m₂ E' s₂ hi ⟨rfl, hys₂⟩ hoC hm F₂ N₂ off hCD hI ⟨_, rfl⟩
      refine wpAny_tests_one ?_
      k_fold
      k_with "binaryOp FloorDiv int int" => (refine floordiv_int (pow16 _) ?_ (Or.inl (PyProof.noPylong_of_log2 (pow16log i hi))))
      k_steps
      · refine ⟨_, _, _, rfl, F₂, N₂, fun p hp => ⟨(off p (.tail _ hp)).1, (off p (.tail _ hp)).2, fun q => hI p hp (List.mem_singleton.mp q)⟩, rfl, ?_⟩
        rw [figs_succ]
        exact ints_snoc hys₂
      · rename Int.fdiv _ _ ≠ 0 => hne
        exact absurd (figs0 (by omega) (by omega) i) hne)
    (case fin2 =>
      rintro ys₂ nws' s₂ ⟨_, rfl⟩ ⟨rfl, hys₂⟩ D₂ h tk F₂ N₂ off hLD₂
      replace N₂ : News h₀ L' h ((D₂, W.listOf ys₂.toArray ys₂.length) :: _) := N₂
      simp only [List.forall_mem_cons] at off
      obtain ⟨e0, e1, e2, e3, e4, e5, e6⟩ := off
      have f0 : @Ne Nat _ _ := e0
      have f1 : @Ne Nat _ _ := e1
      have f2 : @Ne Nat _ _ := e2
      have f3 : @Ne Nat _ _ := e3
      have f4 : @Ne Nat _ _ := e4
      have f5 : @Ne Nat _ _ := e5
      k_with "call builtin:sum" => (refine sum_push (by assumption) (by assumption) rfl (by k_mem) hys ?_; intro _ _ _ _ _)
      k_with "subscriptTail" => (refine PyProof.Rows.item_list_intsR (News.isList (by assumption) (.head _)) hys₂ (by decide) (by decide) (by decide) ?_; intro _)
      k_steps
      all_goals ((
    rename Fr _ _ _ _ => F'
    rename News _ _ _ _ => N'
    first
    | (exfalso; omega)
    | exact ret (.int _ _) _ _ _ news frs (SameUp.refl _) F' (fun p hp => N' p (by repeat (first | exact hp | apply List.mem_cons_of_mem))) ap ⟨rfl, _, congrArg (fun z => Value.int z _) (wide_val (by omega) (by unfold tailLen; split <;> split <;> (try split) <;> omega) (by first | rfl | rw [Array.size_push, List.size_toArray, hn]))⟩)))))
    · rename Fr _ _ _ _ => F'
      rename News _ _ _ _ => N'
      exact ret (.int _ _) _ _ _ news frs (SameUp.refl _) F' (fun p hp => N' p (by repeat (first | exact hp | apply List.mem_cons_of_mem))) ap ⟨rfl, _, congrArg (fun z => Value.int z _) (wide_val0 (by omega) (by first | rfl | rw [List.size_toArray, hn]))⟩
end Mine
end

section
set_option Elab.async false
set_option maxRecDepth 100000
set_option linter.unusedVariables false
namespace Mine
open PySem PySem.W PyProof.Rows PyProof.Rows.TI PyProof.V PySem.Calls
/-- what is left of src from place q on -/
structure Rem (src : Str) (q : Int) (R : List Nat) : Prop where
  nn : 0 ≤ q
  le : q ≤ src.length
  drop : src.cps.toList.drop q.toNat = R
theorem Rem.len {src : Str} {q : Int} {R : List Nat} (a : Rem src q R) : (src.length : Int) = q + R.length := by
  have h1 := a.nn
  have h2 := a.le
  have h3 := len_cps src
  rw [← a.drop, List.length_drop]
  omega
theorem Rem.step {src : Str} {q : Int} {A R : List Nat} (a : Rem src q (A ++ R)) : Rem src (q + A.length) R := by
  have h1 := a.nn
  have h2 := a.len
  rw [List.length_append] at h2
  refine ⟨by omega, by omega, ?_⟩
  rw [show (q + (A.length : Int)).toNat = A.length + q.toNat by omega, Nat.add_comm, ← List.drop_drop, a.drop, List.drop_left]
theorem Rem.get {src : Str} {q : Int} {R : List Nat} (a : Rem src q R) : src.cps.toList[q.toNat]? = R.head? := by
  rw [← a.drop, List.head?_drop]
theorem tw_app {α : Type} {P : α → Bool} {A R : List α} (hA : ∀ c ∈ A, P c = true) (hR : ∀ c, R.head? = some c → P c = false) : (A ++ R).takeWhile P = A := by
  induction A with
  | nil =>
    cases R with
    | nil => rfl
    | cons c r => rw [List.nil_append, List.takeWhile_cons, hR c rfl]; rfl
  | cons a l ih =>
    rw [List.cons_append, List.takeWhile_cons, hA a (.head _)]
    simp only [if_true]
    rw [ih fun c hc => hA c (.tail _ hc)]
theorem Rem.skip {src chars : Str} {q : Int} {A R : List Nat} (a : Rem src q (A ++ R)) (hA : ∀ c ∈ A, c ∈ chars.cps.toList) (hR : ∀ c, R.head? = some c → c ∉ chars.cps.toList) : skipTo src chars q = q + A.length := by
  unfold skipTo
  rw [a.drop, tw_app (fun c hc => by simp [hA c hc]) (fun c hc => by simp [hR c hc])]
theorem Rem.slice {src : Str} {q : Int} {A R : List Nat} (a : Rem src q (A ++ R)) : Txt.slice src (some q) (some (q + A.length)) = ⟨A.toArray⟩ := by
  have h1 := a.nn
  have h2 := a.len
  rw [List.length_append] at h2
  rw [beq_iff_eq.mp (slice_closes (x := src) (i := q) (j := q + A.length) ⟨h1, by omega, by rw [← len_cps]; omega⟩), a.drop, show (q + (A.length : Int) - q).toNat = A.length by omega, List.take_left]
theorem Rem.nl {src : Str} {q : Int} {A R : List Nat} (a : Rem src q (A ++ R)) (hA : ∀ c ∈ A, c ≠ 10) (hR : ∀ c, R.head? = some c → c = 10) : nlPos src q = q + A.length := by
  rw [nlPos_eq a.nn a.le, a.drop, tw_app (fun c hc => by simp [notNl, hA c hc]) (fun c hc => by simp [notNl, hR c hc])]
noncomputable def blL : List Nat := [32, 9, 44]
noncomputable def sgL : List Nat := sgS.cps.toList
theorem blS_eq : blS.cps.toList = blL := by decide +kernel
theorem sg_not_bl : ∀ c ∈ sgL, c ∉ blL := by decide +kernel
theorem bl_not_sg : ∀ c ∈ blL, c ∉ sgL := by decide +kernel
/-- a word behind its blanks is read -/
theorem Reads.ofWord {src : Str} {q : Int} {sep w R : List Nat} {ws out : List Dat} {r : Option (Int × Nat)} {v : Int × Bool} (a : Rem src q (sep ++ (w ++ R))) (hs : ∀ c ∈ sep, c ∈ blL) (hw : ∀ c ∈ w, c ∈ sgL) (hw0 : w ≠ []) (hR : ∀ c, R.head? = some c → c ∉ sgL)
    (hv : WordIs ⟨w.toArray⟩ v) (h : Reads src (q + sep.length + w.length) (ws ++ [entry ⟨sep.toArray⟩ v]) out r) : Reads src q ws out r := by
  have hwh : ∀ c, (w ++ R).head? = some c → c ∉ blS.cps.toList := fun c hc => by
    rw [blS_eq]
    cases w with
    | nil => exact absurd rfl hw0
    | cons x l => cases hc; exact sg_not_bl _ (hw _ (.head _))
  have e1 : skipTo src blS q = q + sep.length := a.skip (by rw [blS_eq]; exact hs) hwh
  have a2 := a.step
  have e2 : skipTo src sgS (q + sep.length) = q + sep.length + w.length := a2.skip hw hR
  have hl : 0 < w.length := List.length_pos_iff.mpr hw0
  refine Reads.word (v := v) a.le (by rw [e1, e2]; omega) ?_ ?_
  · rw [e1, e2, a2.slice]; exact hv
  · rw [e1, e2, a.slice]; exact h
/-- a line's end without a fault -/
theorem Reads.ofEnd {src : Str} {q : Int} {e1 e2 T : List Nat} {ws out : List Dat} {r : Option (Int × Nat)} (a : Rem src q (e1 ++ (e2 ++ T))) (h1 : ∀ c ∈ e1, c ∈ blL) (h2 : e2 = [] ∨ ∃ e3, e2 = 35 :: e3 ∧ ∀ c ∈ e3, c ≠ 10 ∧ illegal c = false) (hT : ∀ c, T.head? = some c → c = 10)
    (h : Reads src (q + e1.length + e2.length + 1) [] out r) : Reads src q ws (.list ws :: out) r := by
  have hh : ∀ c, (e2 ++ T).head? = some c → c = 35 ∨ c = 10 := fun c hc => by
    rcases h2 with rfl | ⟨e3, rfl, _⟩
    · exact .inr (hT c hc)
    · cases hc; exact .inl rfl
  have p1 : skipTo src blS q = q + e1.length := a.skip (by rw [blS_eq]; exact h1) fun c hc => by rw [blS_eq]; rcases hh c hc with rfl | rfl <;> decide
  have a2 := a.step
  have p2 : skipTo src sgS (q + e1.length) = q + e1.length := by
    have := Rem.skip (src := src) (chars := sgS) (A := []) (R := e2 ++ T) (q := q + e1.length) a2 (fun _ h => nomatch h) fun c hc => by rcases hh c hc with rfl | rfl <;> decide +kernel
    simpa using this
  have p3 : comTo src (q + e1.length) = q + e1.length + e2.length := by
    unfold comTo
    rw [a2.get]
    rcases h2 with rfl | ⟨e3, rfl, h3⟩
    · rw [if_neg (fun hc => by have := hT 35 hc; omega)]; simp
    · rw [if_pos (show (35 :: e3 ++ T).head? = some 35 from rfl)]
      have a3 : Rem src (q + e1.length + 1) (e3 ++ T) := Rem.step (A := [35]) a2
      rw [a3.nl (fun c hc => (h3 c hc).1) hT, List.length_cons]
      omega
  refine Reads.line a.le (by rw [p1, p2]) ?_ ?_
  · rw [p1, a2.get]
    intro hc
    rcases h2 with rfl | ⟨e3, rfl, h3⟩
    · have := hT 35 hc; omega
    · have a3 : Rem src (q + e1.length + 1) (e3 ++ T) := Rem.step (A := [35]) a2
      unfold legalTo
      rw [a3.nl (fun c hc => (h3 c hc).1) hT, a3.slice]
      exact List.all_eq_true.mpr fun c hc => by rw [(h3 c hc).2]; rfl
  · rw [p1, p3]; exact h
/-- a line's end with a fault -/
theorem Reads.ofBad {src : Str} {q : Int} {e1 e2 e3 T : List Nat} {c : Nat} {ws : List Dat} (a : Rem src q (e1 ++ (35 :: (e2 ++ (c :: (e3 ++ T)))))) (h1 : ∀ c ∈ e1, c ∈ blL) (h2 : ∀ d ∈ e2, d ≠ 10 ∧ illegal d = false) (hc : illegal c = true) (hcn : c ≠ 10) (h3 : ∀ d ∈ e3, d ≠ 10) (hT : ∀ c, T.head? = some c → c = 10) :
    Reads src q ws [] (some (q + e1.length + 1 + e2.length, c)) := by
  have p1 : skipTo src blS q = q + e1.length := a.skip (by rw [blS_eq]; exact h1) fun c hc => by rw [blS_eq]; cases hc; decide
  have a2 := a.step
  have p2 : skipTo src sgS (q + e1.length) = q + e1.length := by
    have := Rem.skip (src := src) (chars := sgS) (A := []) (q := q + e1.length) a2 (fun _ h => nomatch h) fun c hc => by cases hc; decide +kernel
    simpa using this
  have a3 : Rem src (q + e1.length + 1) (e2 ++ (c :: (e3 ++ T))) := Rem.step (A := [35]) a2
  have a4 : Rem src (q + e1.length + 1 + e2.length) (c :: (e3 ++ T)) := a3.step
  have a3' : Rem src (q + e1.length + 1) ((e2 ++ (c :: e3)) ++ T) := by rw [List.append_assoc]; exact a3
  have nl := a3'.nl (fun d hd => by
    rcases List.mem_append.mp hd with hd | hd
    · exact (h2 d hd).1
    · rcases List.mem_cons.mp hd with rfl | hd
      · exact hcn
      · exact h3 d hd) hT
  have hn := a3'.len
  rw [List.length_append] at hn
  refine Reads.bad a.le (by rw [p1, p2]) (by rw [p1, a2.get]; rfl) ?_
  rw [p1]
  refine ⟨by omega, by rw [a4.get]; rfl, hc, fun j hj1 hj2 d hd => ?_, ?_, ?_⟩
  · have e : src.cps.toList[j.toNat]? = e2[(j - (q + e1.length + 1)).toNat]? := by
      have h0 := a3.nn
      have : src.cps.toList[j.toNat]? = (src.cps.toList.drop (q + e1.length + 1).toNat)[(j - (q + e1.length + 1)).toNat]? := by
        rw [List.getElem?_drop]; congr 1; omega
      rw [this, a3.drop, List.getElem?_append_left (by omega)]
    rw [e] at hd
    exact (h2 d (List.mem_of_getElem? hd)).2
  · rw [nl, List.length_append, List.length_cons]; omega
  · rw [nl]; omega
end Mine
end

section
set_option Elab.async false
set_option maxRecDepth 100000
set_option linter.unusedVariables false
namespace Mine
open PySem PySem.W PyProof.Rows PyProof.Rows.TI PyProof.V PySem.Calls
/-- a word of the flags and what it stands for -/
noncomputable abbrev Item := Str × (Int × Bool)
noncomputable def ItemOk (i : Item) : Prop := WordIs i.1 i.2 ∧ i.1.cps.toList ≠ [] ∧ ∀ c ∈ i.1.cps.toList, c ∈ sgL
noncomputable def itemsTo (f : Int) (n : Nat) : List Item := ((List.range n).filter (bit f)).map fun k => (wd k, (2 ^ k, decide (k < 10)))
noncomputable def items (f : Int) : List Item := itemsTo f 32 ++ if cur f 32 ≠ 0 ∨ f = 0 then [(hexS (cur f 32), (cur f 32, false))] else []
theorem items_words (f : Int) : (items f).map (·.1) = words f := by
  unfold items words itemsTo wordsTo
  rw [List.map_append, List.map_map]
  congr 1
  split <;> rfl
theorem restN_eq (f : Int) : restN f = cur f 32 := by
  unfold restN cur
  rw [show (Int.toNat 32) = 32 from rfl, Int.fdiv_eq_ediv_of_nonneg _ (by decide)]
theorem items_pairs (f : Int) : (items f).map (·.2) = duePairs f := by
  unfold items duePairs itemsTo dueTo
  rw [List.map_append, List.map_map, restN_eq]
  congr 1
  split <;> rfl
theorem wd_ok : ∀ k < 32, wd k ≠ Str.empty ∧ (wd k).cps.toList ≠ [] ∧ (wd k).cps.toList.all (fun c => sgL.contains c) = true := by decide +kernel
theorem rest_ok : ∀ r : Nat, r < 32 → (hexS (((r : Int) - 16) * 2 ^ 32)).cps.toList ≠ [] ∧ (hexS (((r : Int) - 16) * 2 ^ 32)).cps.toList.all (fun c => sgL.contains c) = true ∧ nmS.contains (hexS (((r : Int) - 16) * 2 ^ 32)) = false := by decide +kernel
theorem wd_name : ∀ k < 10, nmS[k]? = some (wd k) := by decide +kernel
theorem wd_hex : ∀ k, 10 ≤ k → k < 32 → wd k = hexS (2 ^ k) ∧ nmS.contains (hexS (2 ^ k)) = false := by
  have h : ∀ k < 32, 10 ≤ k → wd k = hexS (2 ^ k) ∧ nmS.contains (hexS (2 ^ k)) = false := by decide +kernel
  exact fun k h1 h2 => h k h2 h1
theorem allSg {l : List Nat} (h : l.all (fun c => sgL.contains c) = true) : ∀ c ∈ l, c ∈ sgL := fun c hc => by simpa using List.all_eq_true.mp h c hc
theorem items_ok {f : Int} (h1 : -2 ^ 36 < f) (h2 : f < 2 ^ 36) : ∀ i ∈ items f, ItemOk i := by
  intro i hi
  rcases List.mem_append.mp hi with hi | hi
  · obtain ⟨k, hk, rfl⟩ := List.mem_map.mp hi
    have hk := List.mem_range.mp (List.mem_filter.mp hk).1
    obtain ⟨_, a, b⟩ := wd_ok k hk
    refine ⟨?_, a, allSg b⟩
    by_cases h10 : k < 10
    · show WordIs (wd k) (2 ^ k, decide (k < 10))
      rw [decide_eq_true h10]
      exact .name h10 (wd_name k h10)
    · obtain ⟨e, nn⟩ := wd_hex k (by omega) hk
      show WordIs (wd k) (2 ^ k, decide (k < 10))
      rw [decide_eq_false h10, e]
      exact .hex (fun hm => by rw [List.contains_iff_mem.mpr hm] at nn; cases nn) (num16_pow k (by omega) hk)
  · split at hi
    · rw [List.mem_singleton] at hi
      subst hi
      have hr := rest_range h1 h2
      have e : cur f 32 = ((((f / 2 ^ 32 + 16).toNat : Nat) : Int) - 16) * 2 ^ 32 := by
        unfold cur
        congr 1
        omega
      obtain ⟨a, b, c⟩ := rest_ok (f / 2 ^ 32 + 16).toNat (by omega)
      have d := num16_rest (f / 2 ^ 32 + 16).toNat (by omega)
      rw [← e] at a b c d
      exact ⟨.hex (fun hm => by rw [List.contains_iff_mem.mpr hm] at c; cases c) d, a, allSg b⟩
    · cases hi
/-- the text of the items: the first behind sep, each other behind ", " -/
noncomputable def txt (sep : List Nat) : List Item → List Nat
  | [] => sep
  | i :: r => sep ++ (i.1.cps.toList ++ (r.flatMap fun j => [44, 32] ++ j.1.cps.toList))
noncomputable def rowsOf (sep : Str) : List Item → List Dat
  | [] => []
  | i :: r => entry sep i.2 :: r.map fun j => entry (Str.ofString ", ") j.2
theorem str_eta (x : Str) : (⟨x.cps.toList.toArray⟩ : Str) = x := by simp
/-- the items behind the first are read -/
theorem Reads.rest {src : Str} {E : List Nat} {out : List Dat} {r : Option (Int × Nat)} (hE : ∀ c, E.head? = some c → c ∉ sgL) : ∀ (is : List Item) (q : Int) (ws : List Dat), (∀ i ∈ is, ItemOk i) → Rem src q ((is.flatMap fun j => [44, 32] ++ j.1.cps.toList) ++ E) →
    Reads src (q + (is.flatMap fun j => [44, 32] ++ j.1.cps.toList).length) (ws ++ is.map fun j => entry (Str.ofString ", ") j.2) out r → Reads src q ws out r
  | [], q, ws, _, a, h => by simpa using h
  | i :: is, q, ws, ok, a, h => by
    obtain ⟨hw, h0, hs⟩ := ok i (.head _)
    have a' : Rem src q ([44, 32] ++ (i.1.cps.toList ++ ((is.flatMap fun j => [44, 32] ++ j.1.cps.toList) ++ E))) := by
      simpa [List.flatMap_cons, List.append_assoc] using a
    refine Reads.ofWord (v := i.2) a' (by decide) hs h0 ?_ (by rw [str_eta]; exact hw) ?_
    · intro c hc
      cases is with
      | nil => exact hE c (by simpa using hc)
      | cons j js => simp only [List.flatMap_cons, List.cons_append, List.head?_cons, Option.some.injEq] at hc; subst hc; decide +kernel
    · refine Reads.rest hE is _ _ (fun j hj => ok j (.tail _ hj)) a'.step.step ?_
      have e1 : (⟨([44, 32] : List Nat).toArray⟩ : Str) = Str.ofString ", " := by decide +kernel
      rw [e1]
      have e2 : q + (((i :: is).flatMap fun j => [44, 32] ++ j.1.cps.toList).length : Int) = q + ([44, 32] : List Nat).length + i.1.cps.toList.length + (is.flatMap fun j => [44, 32] ++ j.1.cps.toList).length := by
        rw [List.flatMap_cons, List.length_append, List.length_append]; omega
      rw [e2] at h
      simpa only [List.append_assoc, List.map_cons, List.cons_append, List.nil_append] using h
theorem Reads.head {src : Str} {q : Int} {sep : Str} {is : List Item} {E : List Nat} {out : List Dat} {r : Option (Int × Nat)} (hsep : ∀ c ∈ sep.cps.toList, c ∈ blL) (hne : is ≠ []) (ok : ∀ i ∈ is, ItemOk i) (hE : ∀ c, E.head? = some c → c ∉ sgL) (a : Rem src q (txt sep.cps.toList is ++ E))
    (h : Reads src (q + (txt sep.cps.toList is).length) (rowsOf sep is) out r) : Reads src q [] out r := by
  cases is with
  | nil => exact absurd rfl hne
  | cons i is =>
    obtain ⟨hw, h0, hs⟩ := ok i (.head _)
    have a' : Rem src q (sep.cps.toList ++ (i.1.cps.toList ++ ((is.flatMap fun j => [44, 32] ++ j.1.cps.toList) ++ E))) := by
      simpa [txt, List.append_assoc] using a
    refine Reads.ofWord (v := i.2) a' hsep hs h0 ?_ (by rw [str_eta]; exact hw) ?_
    · intro c hc
      cases is with
      | nil => exact hE c (by simpa using hc)
      | cons j js => simp only [List.flatMap_cons, List.cons_append, List.head?_cons, Option.some.injEq] at hc; subst hc; decide +kernel
    · rw [str_eta]
      refine Reads.rest hE is _ _ (fun j hj => ok j (.tail _ hj)) a'.step.step ?_
      simpa [txt, rowsOf, List.append_assoc, Int.add_assoc, Int.add_comm, Int.add_left_comm] using h
theorem items_ne (f : Int) : items f ≠ [] := by
  intro h
  have h' := congrArg (List.map (·.1)) h
  rw [items_words] at h'
  unfold words at h'
  have h1 := (List.append_eq_nil_iff.mp h').1
  have h2 := (List.append_eq_nil_iff.mp h').2
  split at h2
  · cases h2
  · rename_i hc
    have hc0 : cur f 32 = 0 := Classical.byContradiction fun z => hc (.inl z)
    have hf : f ≠ 0 := fun z => hc (.inr z)
    have all0 : ∀ k, k ≤ 32 → cur f k = f := fun k hk => by
      induction k with
      | zero => exact cur0 f
      | succ k ih =>
        have hb : bit f k = false := by
          cases e : bit f k
          · rfl
          · have hm : k ∈ (List.range 32).filter (bit f) := List.mem_filter.mpr ⟨List.mem_range.mpr (by omega), e⟩
            unfold wordsTo at h1
            rw [List.map_eq_nil_iff] at h1
            rw [h1] at hm; cases hm
        rw [cur_keep hb, ih (by omega)]
    exact hf (by rw [← all0 32 (by omega), hc0])
theorem rows_eq (x : Int) : rowsOf (leadS x) (items (lf x)) = resD x := by
  unfold resD
  rw [← items_pairs]
  have key : ∀ is : List Item, rowsOf (leadS x) is = resTo x (is.map (·.2)) (is.map (·.2)).length := by
    intro is
    cases is with
    | nil => rfl
    | cons i is =>
      unfold resTo
      refine List.ext_getElem (by simp [rowsOf]) fun n h1 h2 => ?_
      cases n with
      | zero => simp [rowsOf, entry, entryD, leadOf]
      | succ n =>
        have hn : n < is.length := by simpa [rowsOf] using h1
        simp [rowsOf, entry, entryD, leadOf, List.getD, hn]
  exact key _
theorem app_cps (a b : Str) : (a ++ b).cps.toList = a.cps.toList ++ b.cps.toList := by
  show (a.cps ++ b.cps).toList = _
  simp
theorem join_txt (sep : List Nat) : ∀ is : List Item, is ≠ [] → (Txt.join (Str.ofString ", ") (is.map (·.1))).cps.toList = txt [] is := by
  have e : (Str.ofString ", ").cps.toList = [44, 32] := by decide +kernel
  have key : ∀ (is : List Item) (i : Item), (Builtin.Str.glued (Str.ofString ", ") ((i :: is).map (·.1))).cps.toList = i.1.cps.toList ++ is.flatMap fun j => [44, 32] ++ j.1.cps.toList := by
    intro is
    induction is with
    | nil => intro i; rw [StrLaws.glued_eq_join]; show i.1.cps.toList = _; simp
    | cons j js ih =>
      intro i
      have := ih j
      rw [StrLaws.glued_eq_join] at this ⊢
      show (i.1 ++ Str.ofString ", " ++ Str.join (Str.ofString ", ") ((j :: js).map (·.1))).cps.toList = _
      rw [app_cps, app_cps, this, e]
      simp
  intro is h
  cases is with
  | nil => exact absurd rfl h
  | cons i is => exact key is i
theorem head_txt (x : Int) : (headS x).cps.toList = txt (leadS x).cps.toList (items (lf x)) := by
  unfold headS
  rw [← items_words]
  have h := join_txt [] _ (items_ne (lf x))
  have e : (leadS x ++ Txt.join (Str.ofString ", ") ((items (lf x)).map (·.1))).cps.toList = (leadS x).cps.toList ++ (Txt.join (Str.ofString ", ") ((items (lf x)).map (·.1))).cps.toList := app_cps _ _
  rw [e, h]
  cases hi : items (lf x) with
  | nil => exact absurd hi (items_ne _)
  | cons i is => simp [txt]
end Mine
end

section
set_option Elab.async false
set_option maxRecDepth 100000
set_option linter.unusedVariables false
namespace Mine
open PySem PySem.W PyProof.Rows PyProof.Rows.TI PyProof.V PySem.Calls Builtin Builtin.Str
theorem occ_run (x : Str) (c hi limit : Nat) (hh : hi ≤ x.length) : ∀ (n i free : Nat) (arr : Array Nat), free ≤ i → arr.size + n ≤ limit →
    (forIn (List.range' i n) (arr, free) (StrLaws.occBody x ⟨#[c]⟩ hi limit)).run.fst.size = arr.size + (((x.cps.toList.take hi).drop i).take n).count c
  | 0, i, free, arr, _, _ => by simp
  | n + 1, i, free, arr, hf, hl => by
    rw [List.range'_succ, List.forIn_cons]
    unfold StrLaws.occBody
    have hx := len_cps x
    by_cases hc : i < hi ∧ x.cps.toList[i]? = some c
    · have hs := (StrLaws.subAt_one x c i).mpr hc.2
      have hlt : i < (x.cps.toList.take hi).length := by rw [List.length_take]; have := (List.getElem?_eq_some_iff.mp hc.2).1; omega
      rw [if_pos ⟨⟨⟨by show arr.size < limit; omega, hf⟩, by show i + 1 ≤ hi; omega⟩, hs.2⟩]
      have ih := occ_run x c hi limit hh n (i + 1) (i + 1) (arr.push i) (Nat.le_refl _) (by rw [Array.size_push]; omega)
      have e : (x.cps.toList.take hi)[i] = c := by
        have := hc.2
        rw [List.getElem?_eq_getElem (by rw [List.length_take] at hlt; omega)] at this
        rw [List.getElem_take]
        exact Option.some.inj this
      rw [List.drop_eq_getElem_cons hlt, List.take_succ_cons, e, List.count_cons_self]
      rw [Array.size_push] at ih
      unfold StrLaws.occBody at ih
      have e1 : (⟨#[c]⟩ : Str).length = 1 := rfl
      simp only [e1] at ih ⊢
      exact ih.trans (by omega)
    · rw [if_neg (fun h => hc ⟨by have := h.1.2; have e1 : (⟨#[c]⟩ : Str).length = 1 := rfl; omega, (StrLaws.subAt_one x c i).mp ⟨by have := h.1.2; omega, h.2⟩⟩)]
      have ih := occ_run x c hi limit hh n (i + 1) free arr (by omega) (by omega)
      unfold StrLaws.occBody at ih
      refine ih.trans ?_
      congr 1
      by_cases hlt : i < (x.cps.toList.take hi).length
      · rw [List.drop_eq_getElem_cons hlt, List.take_succ_cons, List.count_cons_of_ne]
        intro e
        refine hc ⟨by rw [List.length_take] at hlt; omega, ?_⟩
        rw [List.getElem?_eq_getElem (by rw [List.length_take] at hlt; omega)]
        rw [List.getElem_take] at e
        exact congrArg some e
      · rw [List.drop_eq_nil_of_le (by omega), List.drop_eq_nil_of_le (by omega)]; simp
theorem occ_count (x : Str) (c hi : Nat) (hh : hi ≤ x.length) : (occurrences x ⟨#[c]⟩ 0 hi (x.length + 1)).length = (x.cps.toList.take hi).count c := by
  rw [StrLaws.occ_eq, Array.length_toList, occ_run x c hi _ hh _ 0 0 #[] (Nat.le_refl _) (by simp; omega)]
  simp only [Array.size_empty, Nat.zero_add, List.drop_zero]
  rw [List.take_of_length_le (by rw [List.length_take]; omega)]
noncomputable def lastBody (x sub : Str) (hi : Nat) (i : Nat) (st : Option Nat) : Id (ForInStep (Option Nat)) :=
  if i + sub.length ≤ hi ∧ subAt x sub i = true then pure (ForInStep.yield (some i)) else pure (ForInStep.yield st)
theorem last_eq (x sub : Str) (lo hi : Nat) : lastOccurrence x sub lo hi = (forIn (List.range' lo (hi + 1 - lo)) none (lastBody x sub hi)).run := by
  unfold lastOccurrence lastBody
  simp
theorem last_keep (x : Str) (c hi k : Nat) (hh : hi ≤ x.length) (no : ∀ j, k < j → j < hi → x.cps.toList[j]? ≠ some c) : ∀ (n i : Nat) (acc : Option Nat), k < i → (forIn (List.range' i n) acc (lastBody x ⟨#[c]⟩ hi)).run = acc
  | 0, i, acc, _ => by simp
  | n + 1, i, acc, h => by
    rw [List.range'_succ, List.forIn_cons]
    have hn : ¬ (i + (⟨#[c]⟩ : Str).length ≤ hi ∧ subAt x ⟨#[c]⟩ i = true) := fun q => by
      have e1 : (⟨#[c]⟩ : Str).length = 1 := rfl
      exact no i h (by have := q.1; omega) ((StrLaws.subAt_one x c i).mp ⟨by have := q.1; omega, q.2⟩)
    unfold lastBody
    rw [if_neg hn]
    have ih := last_keep x c hi k hh no n (i + 1) acc (by omega)
    unfold lastBody at ih
    exact ih
theorem last_run (x : Str) (c hi k : Nat) (hh : hi ≤ x.length) (hk : k < hi) (at' : x.cps.toList[k]? = some c) (no : ∀ j, k < j → j < hi → x.cps.toList[j]? ≠ some c) : ∀ (n i : Nat) (acc : Option Nat), i ≤ k → k < i + n → (forIn (List.range' i n) acc (lastBody x ⟨#[c]⟩ hi)).run = some k
  | 0, i, acc, h1, h2 => by omega
  | n + 1, i, acc, h1, h2 => by
    rw [List.range'_succ, List.forIn_cons]
    by_cases e : i = k
    · subst e
      have hs := (StrLaws.subAt_one x c i).mpr at'
      have ih := last_keep x c hi i hh no n (i + 1) (some i) (Nat.lt_succ_self _)
      unfold lastBody at ih ⊢
      have e1 : (⟨#[c]⟩ : Str).length = 1 := rfl
      rw [if_pos ⟨by rw [e1]; omega, hs.2⟩]
      exact ih
    · have ih : ∀ a, (forIn (List.range' (i + 1) n) a (lastBody x ⟨#[c]⟩ hi)).run = some k := fun a => last_run x c hi k hh hk at' no n (i + 1) a (by omega) (by omega)
      unfold lastBody at ih ⊢
      split
      · exact ih _
      · exact ih _
theorem last_is (x : Str) (c hi k : Nat) (hh : hi ≤ x.length) (hk : k < hi) (at' : x.cps.toList[k]? = some c) (no : ∀ j, k < j → j < hi → x.cps.toList[j]? ≠ some c) : lastOccurrence x ⟨#[c]⟩ 0 hi = some k := by
  rw [last_eq]
  exact last_run x c hi k hh hk at' no _ 0 none (Nat.zero_le _) (by omega)
/-- k lines end ahead of q, and a line begins at q -/
structure Lnk (src : Str) (q : Int) (k : Nat) : Prop where
  count : (src.cps.toList.take q.toNat).count 10 = k
  zero : k = 0 → q = 0
  pos : k ≠ 0 → 0 < q ∧ src.cps.toList[q.toNat - 1]? = some 10
theorem Lnk.next {src : Str} {q : Int} {k : Nat} {A R : List Nat} (n : Lnk src q k) (a : Rem src q (A ++ 10 :: R)) (hA : ∀ c ∈ A, c ≠ 10) : Lnk src (q + A.length + 1) (k + 1) := by
  have h0 := a.nn
  have e : (q + (A.length : Int) + 1).toNat = q.toNat + (A.length + 1) := by omega
  refine ⟨?_, fun h => absurd h (Nat.succ_ne_zero _), fun _ => ⟨by omega, ?_⟩⟩
  · rw [e, List.take_add, List.count_append, n.count, a.drop]
    have : (A ++ 10 :: R).take (A.length + 1) = A ++ [10] := by rw [List.take_append]; simp [List.take_of_length_le]
    rw [this, List.count_append, List.count_eq_zero.mpr fun hm => hA _ hm rfl]
    simp
  · have a2 := a.step
    have : (q + (A.length : Int) + 1).toNat - 1 = (q + (A.length : Int)).toNat := by omega
    rw [this, a2.get]; rfl
theorem Lnk.coord {src : Str} {q : Int} {k : Nat} {A R : List Nat} {c : Nat} (n : Lnk src q k) (a : Rem src q (A ++ c :: R)) (hA : ∀ c ∈ A, c ≠ 10) : Coord src (q + A.length) k (A.length + 1) := by
  have h0 := a.nn
  have hl := a.len
  rw [List.length_append, List.length_cons] at hl
  have f0 : fromIndex src.length 0 = 0 := by unfold fromIndex; split <;> omega
  have f1 : min (fromIndex src.length (q + A.length)) src.length = (q + (A.length : Int)).toNat := by unfold fromIndex; split <;> omega
  have e : (q + (A.length : Int)).toNat = q.toNat + A.length := by omega
  unfold Coord
  rw [f0, f1, nl_eq]
  have get : ∀ j, q.toNat ≤ j → j < q.toNat + A.length → src.cps.toList[j]? ≠ some 10 := fun j h1 h2 h3 => by
    have : src.cps.toList[j]? = (src.cps.toList.drop q.toNat)[j - q.toNat]? := by rw [List.getElem?_drop]; congr 1; omega
    rw [this, a.drop, List.getElem?_append_left (by omega)] at h3
    exact hA _ (List.mem_of_getElem? h3) rfl
  refine ⟨?_, ?_⟩
  · rw [occ_count _ _ _ (by omega), e, List.take_add, List.count_append, n.count, a.drop, List.take_left, List.count_eq_zero.mpr fun hm => hA _ hm rfl, Nat.add_zero]
  · by_cases hk : k = 0
    · have hq := n.zero hk
      exact .inl ⟨hk, by omega⟩
    · obtain ⟨hp, hg⟩ := n.pos hk
      refine .inr ⟨hk, q.toNat - 1, ?_, by omega⟩
      exact last_is _ _ _ _ (by omega) (by omega) hg fun j h1 h2 => get j (by omega) (by omega)
end Mine
end

section
set_option Elab.async false
set_option maxRecDepth 100000
set_option linter.unusedVariables false
namespace Mine
open PySem PySem.W PyProof.Rows PyProof.Rows.TI PyProof.V PySem.Calls
noncomputable def nsOf (xs : List Int) : List Int := xs.take 4 ++ [67, 1536, 0]
noncomputable def badOf (xs : List Int) : Int := ((xs.take 4).sum + 2).fmod 8
noncomputable def sgTab : List Int := rangeInts 0 1 9 ++ rangeInts 11 1 21 ++ [127]
noncomputable def sgOf (xs : List Int) : Int := sgTab.getD ((xs.take 4).sum.fmod 31).toNat 0
theorem sgTab_ok : ∀ k < 31, 0 ≤ sgTab.getD k 0 ∧ sgTab.getD k 0 ≤ 127 ∧ illegal (sgTab.getD k 0).toNat = true ∧ sgTab.getD k 0 ≠ 10 := by decide +kernel
theorem sg_ok (xs : List Int) : 0 ≤ sgOf xs ∧ sgOf xs ≤ 127 ∧ illegal (sgOf xs).toNat = true ∧ sgOf xs ≠ 10 := by
  refine sgTab_ok _ ?_
  rw [Int.fmod_eq_emod_of_nonneg _ (by decide)]
  omega
noncomputable def tailsS : List Str := [Str.ofString "", Str.ofString "  ", Str.ofString " # a,\t0x1 NESTED", Str.ofString "\t#", Str.ofString ", ,# é"]
noncomputable def tailS (x : Int) : Str := tailsS.getD (x.fmod 5).toNat Str.empty
noncomputable def badS (sg : Nat) : Str := Str.ofString "  # so" ++ ⟨#[sg]⟩ ++ Str.ofString " it is"
noncomputable def endS (b : Int) (sg : Nat) (k : Nat) (x : Int) : Str := if (k : Int) = b then badS sg else tailS x
noncomputable def lineS (b : Int) (sg : Nat) (k : Nat) (x : Int) : Str := headS x ++ endS b sg k x
noncomputable def endsTo (b : Int) (sg : Nat) (ns : List Int) (n : Nat) : List Str := (List.range n).map fun k => endS b sg k (ns.getD k 0)
noncomputable def linesTo (b : Int) (sg : Nat) (ns : List Int) (n : Nat) : List Str := (List.range n).map fun k => lineS b sg k (ns.getD k 0)
noncomputable def srcS (xs : List Int) : Str := Txt.join (Str.ofString "\n") (linesTo (badOf xs) (sgOf xs).toNat (nsOf xs) (nsOf xs).length)
theorem fm5 (x : Int) : (x.fmod 5).toNat < 5 := by rw [Int.fmod_eq_emod_of_nonneg _ (by decide)]; omega
theorem tail_parts : ∀ i < 5, ∃ e1 e2, (tailsS.getD i Str.empty).cps.toList = e1 ++ e2 ∧ (∀ c ∈ e1, c ∈ blL) ∧ (e2 = [] ∨ ∃ e3, e2 = 35 :: e3 ∧ ∀ c ∈ e3, c ≠ 10 ∧ illegal c = false) := by
  intro i hi
  rcases (by omega : i = 0 ∨ i = 1 ∨ i = 2 ∨ i = 3 ∨ i = 4) with rfl | rfl | rfl | rfl | rfl
  · exact ⟨[], [], by decide +kernel, by decide, .inl rfl⟩
  · exact ⟨[32, 32], [], by decide +kernel, by decide, .inl rfl⟩
  · exact ⟨[32], 35 :: [32, 97, 44, 9, 48, 120, 49, 32, 78, 69, 83, 84, 69, 68], by decide +kernel, by decide, .inr ⟨_, rfl, by decide +kernel⟩⟩
  · exact ⟨[9], 35 :: [], by decide +kernel, by decide, .inr ⟨_, rfl, by decide⟩⟩
  · exact ⟨[44, 32, 44], 35 :: [32, 233], by decide +kernel, by decide, .inr ⟨_, rfl, by decide +kernel⟩⟩
theorem lead_bl (x : Int) : ∀ c ∈ (leadS x).cps.toList, c ∈ blL := by
  have h := fm4 x
  unfold leadS
  rcases (by omega : (x.fmod 4).toNat = 0 ∨ (x.fmod 4).toNat = 1 ∨ (x.fmod 4).toNat = 2 ∨ (x.fmod 4).toNat = 3) with e | e | e | e <;> rw [e] <;> decide +kernel
theorem sep2_bl : ∀ c ∈ ([44, 32] : List Nat), c ∈ blL := by decide
theorem so6_no10 : ∀ c ∈ ([32, 32, 35, 32, 115, 111] : List Nat), c ≠ 10 := by decide
theorem head_chars (x : Int) : ∀ c ∈ (headS x).cps.toList, c ∈ blL ∨ c ∈ sgL := by
  rw [head_txt]
  have ok := items_ok (lf_range x).1 (lf_range x).2
  generalize items (lf x) = is at ok
  intro c hc
  cases is with
  | nil => exact .inl (lead_bl x c hc)
  | cons i is =>
    unfold txt at hc
    rcases List.mem_append.mp hc with hc | hc
    · exact .inl (lead_bl x c hc)
    · rcases List.mem_append.mp hc with hc | hc
      · exact .inr ((ok i (.head _)).2.2 c hc)
      · obtain ⟨j, hj, hc⟩ := List.mem_flatMap.mp hc
        rcases List.mem_append.mp hc with hc | hc
        · exact .inl (sep2_bl c hc)
        · exact .inr ((ok j (.tail _ hj)).2.2 c hc)
theorem ten_no : (10 : Nat) ∉ blL ∧ (10 : Nat) ∉ sgL := by decide +kernel
theorem head_no10 (x : Int) : ∀ c ∈ (headS x).cps.toList, c ≠ 10 := fun c hc e => by
  subst e
  exact (head_chars x _ hc).elim ten_no.1 ten_no.2
noncomputable def NlHead (T : List Nat) : Prop := ∀ c, T.head? = some c → c = 10
theorem tail_no10 (x : Int) : ∀ c ∈ (tailS x).cps.toList, c ≠ 10 := by
  obtain ⟨e1, e2, e, h1, h2⟩ := tail_parts _ (fm5 x)
  unfold tailS
  rw [e]
  intro c hc q
  subst q
  rcases List.mem_append.mp hc with hc | hc
  · exact ten_no.1 (h1 _ hc)
  · rcases h2 with rfl | ⟨e3, rfl, h3⟩
    · cases hc
    · rcases List.mem_cons.mp hc with hc | hc
      · cases hc
      · exact (h3 _ hc).1 rfl
theorem ends_sg {E T : List Nat} {e1 e2 : List Nat} (e : E = e1 ++ e2) (h1 : ∀ c ∈ e1, c ∈ blL) (h2 : e2 = [] ∨ ∃ e3, e2 = 35 :: e3) (hT : NlHead T) : ∀ c, (E ++ T).head? = some c → c ∉ sgL := by
  intro c hc
  rw [e, List.append_assoc] at hc
  cases e1 with
  | cons a l => cases hc; exact bl_not_sg _ (h1 _ (.head _))
  | nil =>
    rcases h2 with rfl | ⟨e3, rfl⟩
    · rw [hT c hc]; exact ten_no.2
    · cases hc; decide +kernel
theorem Reads.good {src : Str} {q : Int} {x : Int} {T : List Nat} {out : List Dat} {r : Option (Int × Nat)} (a : Rem src q ((headS x).cps.toList ++ ((tailS x).cps.toList ++ T))) (hT : NlHead T)
    (h : Reads src (q + (headS x).cps.toList.length + (tailS x).cps.toList.length + 1) [] out r) : Reads src q [] (.list (resD x) :: out) r := by
  obtain ⟨e1, e2, e, h1, h2⟩ := tail_parts _ (fm5 x)
  have e' : (tailS x).cps.toList = e1 ++ e2 := e
  have a2 := a.step
  rw [head_txt] at a
  refine Reads.head (sep := leadS x) (is := items (lf x)) (E := (tailS x).cps.toList ++ T) (lead_bl x) (items_ne _) (items_ok (lf_range x).1 (lf_range x).2) (ends_sg e' h1 (h2.imp id fun ⟨e3, h, _⟩ => ⟨e3, h⟩) hT) a ?_
  rw [rows_eq, ← head_txt]
  rw [e', List.append_assoc] at a2
  refine Reads.ofEnd a2 h1 h2 hT ?_
  rw [e', List.length_append] at h
  have z : q + ((headS x).cps.toList.length : Int) + ((e1.length + e2.length : Nat) : Int) + 1 = q + (headS x).cps.toList.length + e1.length + e2.length + 1 := by omega
  rw [z] at h
  exact h
theorem badS_eq (sg : Nat) : (badS sg).cps.toList = [32, 32] ++ (35 :: ([32, 115, 111] ++ (sg :: [32, 105, 116, 32, 105, 115]))) := by
  unfold badS
  rw [app_cps, app_cps, show (Str.ofString "  # so").cps.toList = [32, 32, 35, 32, 115, 111] from by decide +kernel, show (Str.ofString " it is").cps.toList = [32, 105, 116, 32, 105, 115] from by decide +kernel]
  rfl
theorem Reads.badLine {src : Str} {q : Int} {x : Int} {sg : Nat} {T : List Nat} (a : Rem src q ((headS x).cps.toList ++ ((badS sg).cps.toList ++ T))) (hT : NlHead T) (hi : illegal sg = true) (hn : sg ≠ 10) :
    Reads src q [] [] (some (q + (headS x).cps.toList.length + 6, sg)) := by
  have a2 := a.step
  rw [head_txt] at a
  refine Reads.head (sep := leadS x) (is := items (lf x)) (E := (badS sg).cps.toList ++ T) (lead_bl x) (items_ne _) (items_ok (lf_range x).1 (lf_range x).2) (ends_sg (badS_eq sg) (by decide) (.inr ⟨_, rfl⟩) hT) a ?_
  rw [rows_eq, ← head_txt]
  rw [badS_eq, List.append_assoc] at a2
  have a3 : Rem src (q + (headS x).cps.toList.length) ([32, 32] ++ (35 :: ([32, 115, 111] ++ (sg :: ([32, 105, 116, 32, 105, 115] ++ T))))) := by simpa using a2
  have := Reads.ofBad (ws := .nil) a3 (by decide) (by decide) hi hn (by decide) hT
  have b := Reads.ofBad (ws := resD x) a3 (by decide) (by decide) hi hn (by decide) hT
  have z : q + ((headS x).cps.toList.length : Int) + (([32, 32] : List Nat).length : Int) + 1 + (([32, 115, 111] : List Nat).length : Int) = q + (headS x).cps.toList.length + 6 := by
    have z1 : (([32, 32] : List Nat).length : Int) = 2 := rfl
    have z2 : (([32, 115, 111] : List Nat).length : Int) = 3 := rfl
    omega
  rw [z] at b
  exact b
noncomputable def linesFrom (b : Int) (sg : Nat) : Nat → List Int → List Str
  | _, [] => []
  | k, x :: r => lineS b sg k x :: linesFrom b sg (k + 1) r
noncomputable def tlL (b : Int) (sg k : Nat) (l : List Int) : List Nat := (linesFrom b sg k l).flatMap fun s => 10 :: s.cps.toList
theorem tl_head (b : Int) (sg k : Nat) (l : List Int) : NlHead (tlL b sg k l) := by
  intro c hc
  cases l with
  | nil => cases hc
  | cons x r => simp only [tlL, linesFrom, List.flatMap_cons, List.cons_append, List.head?_cons, Option.some.injEq] at hc; exact hc.symm
noncomputable def dueD (x : Int) : Dat := .list (resD x)
theorem reads_lines {src : Str} {b sg : Nat} (hi : illegal sg = true) (hn : sg ≠ 10) : ∀ (l : List Int) (x : Int) (k : Nat) (q : Int), k ≤ b → Rem src q ((lineS b sg k x).cps.toList ++ tlL b sg (k + 1) l) → Lnk src q k →
    ∃ r, Reads src q [] (((x :: l).take (b - k)).map dueD) r ∧ (k + (l.length + 1) ≤ b → r = none) ∧ (b < k + (l.length + 1) → ∃ p y, (x :: l)[b - k]? = some y ∧ r = some (p, sg) ∧ Coord src p b ((headS y).cps.toList.length + 7)) := by
  intro l
  induction l with
  | nil =>
    intro x k q hk a n
    unfold lineS at a
    rw [app_cps] at a
    by_cases e : k = b
    · subst e
      have es : endS (k : Int) sg k x = badS sg := if_pos rfl
      rw [es, List.append_assoc] at a
      refine ⟨_, by rw [Nat.sub_self]; exact Reads.badLine a (tl_head _ _ _ _) hi hn, fun h => by simp at h; omega, fun _ => ⟨_, x, by rw [Nat.sub_self]; rfl, rfl, ?_⟩⟩
      rw [badS_eq] at a
      have a' : Rem src q (((headS x).cps.toList ++ [32, 32, 35, 32, 115, 111]) ++ sg :: ([32, 105, 116, 32, 105, 115] ++ tlL (k : Int) sg (k + 1) [])) := by simpa using a
      have := n.coord a' (fun c hc => (List.mem_append.mp hc).elim (head_no10 x c) (so6_no10 c))
      rw [List.length_append] at this
      have z : (([32, 32, 35, 32, 115, 111] : List Nat).length) = 6 := rfl
      rw [z] at this
      simpa [Int.add_assoc] using this
    · have es : endS (b : Int) sg k x = tailS x := if_neg (by omega)
      rw [es, List.append_assoc] at a
      have hl := a.len
      have ht : tlL (b : Int) sg (k + 1) [] = [] := rfl
      refine ⟨none, ?_, fun _ => rfl, fun h => by simp at h; omega⟩
      rw [List.take_of_length_le (by simp; omega)]
      refine Reads.good a (tl_head _ _ _ _) (.done ?_)
      rw [ht, List.length_append, List.length_append] at hl
      simp only [List.length_nil] at hl
      omega
  | cons y l ih =>
    intro x k q hk a n
    unfold lineS at a
    rw [app_cps] at a
    by_cases e : k = b
    · subst e
      have es : endS (k : Int) sg k x = badS sg := if_pos rfl
      rw [es, List.append_assoc] at a
      refine ⟨_, by rw [Nat.sub_self]; exact Reads.badLine a (tl_head _ _ _ _) hi hn, fun h => by omega, fun _ => ⟨_, x, by rw [Nat.sub_self]; rfl, rfl, ?_⟩⟩
      rw [badS_eq] at a
      have a' : Rem src q (((headS x).cps.toList ++ [32, 32, 35, 32, 115, 111]) ++ sg :: ([32, 105, 116, 32, 105, 115] ++ tlL (k : Int) sg (k + 1) (y :: l))) := by simpa using a
      have := n.coord a' (fun c hc => (List.mem_append.mp hc).elim (head_no10 x c) (so6_no10 c))
      rw [List.length_append] at this
      have z : (([32, 32, 35, 32, 115, 111] : List Nat).length) = 6 := rfl
      rw [z] at this
      simpa [Int.add_assoc] using this
    · have es : endS (b : Int) sg k x = tailS x := if_neg (by omega)
      rw [es, List.append_assoc] at a
      have ht : tlL (b : Int) sg (k + 1) (y :: l) = 10 :: ((lineS b sg (k + 1) y).cps.toList ++ tlL b sg (k + 1 + 1) l) := by simp [tlL, linesFrom]
      have a1 : Rem src q (((headS x).cps.toList ++ (tailS x).cps.toList) ++ 10 :: ((lineS b sg (k + 1) y).cps.toList ++ tlL b sg (k + 1 + 1) l)) := by rw [ht] at a; rw [List.append_assoc]; exact a
      have n' := n.next a1 (fun c hc => (List.mem_append.mp hc).elim (head_no10 x c) (tail_no10 x c))
      have a2 := Rem.step (A := [10]) a1.step
      have z : q + (((headS x).cps.toList ++ (tailS x).cps.toList).length : Int) + (([10] : List Nat).length : Int) = q + (headS x).cps.toList.length + (tailS x).cps.toList.length + 1 := by
        rw [List.length_append]; have : (([10] : List Nat).length : Int) = 1 := rfl; omega
      have z' : q + (((headS x).cps.toList ++ (tailS x).cps.toList).length : Int) + 1 = q + (headS x).cps.toList.length + (tailS x).cps.toList.length + 1 := by rw [List.length_append]; omega
      rw [z] at a2
      rw [z'] at n'
      obtain ⟨r, h1, h2, h3⟩ := ih y (k + 1) _ (by omega) a2 n'
      have eb : b - k = (b - (k + 1)) + 1 := by omega
      refine ⟨r, ?_, fun h => h2 (by simp only [List.length_cons] at h; omega), fun h => ?_⟩
      · rw [eb, List.take_succ_cons]
        exact Reads.good a (tl_head _ _ _ _) h1
      · obtain ⟨p, w, hw, hr, hc⟩ := h3 (by simp only [List.length_cons] at h; omega)
        exact ⟨p, w, by rw [eb]; exact hw, hr, hc⟩
theorem linesFrom_get (b : Int) (sg : Nat) : ∀ (l : List Int) (k i : Nat) (h : i < l.length), (linesFrom b sg k l)[i]? = some (lineS b sg (k + i) l[i])
  | x :: r, k, 0, h => rfl
  | x :: r, k, i + 1, h => by
    have := linesFrom_get b sg r (k + 1) i (by simpa using h)
    rw [show k + (i + 1) = k + 1 + i by omega]
    exact this
theorem linesFrom_length (b : Int) (sg : Nat) : ∀ (l : List Int) (k : Nat), (linesFrom b sg k l).length = l.length
  | [], _ => rfl
  | x :: r, k => by simp [linesFrom, linesFrom_length b sg r (k + 1)]
theorem linesTo_eq (b : Int) (sg : Nat) (l : List Int) : linesTo b sg l l.length = linesFrom b sg 0 l := by
  refine List.ext_getElem? fun i => ?_
  by_cases h : i < l.length
  · rw [linesFrom_get b sg l 0 i h]
    simp [linesTo, h, List.getD]
  · rw [List.getElem?_eq_none (by simp [linesTo]; omega), List.getElem?_eq_none (by rw [linesFrom_length]; omega)]
theorem join_lines (s : Str) (ls : List Str) : (Txt.join (Str.ofString "\n") (s :: ls)).cps.toList = s.cps.toList ++ ls.flatMap fun t => 10 :: t.cps.toList := by
  show (Builtin.Str.glued (Str.ofString "\n") (s :: ls)).cps.toList = _
  rw [StrLaws.glued_eq_join]
  induction ls generalizing s with
  | nil => show s.cps.toList = _; simp
  | cons t ts ih =>
    show (s ++ Str.ofString "\n" ++ Str.join (Str.ofString "\n") (t :: ts)).cps.toList = _
    rw [app_cps, app_cps, ih, nl_eq]
    simp
theorem bad_range (xs : List Int) : 0 ≤ badOf xs ∧ badOf xs < 8 := by
  unfold badOf
  rw [Int.fmod_eq_emod_of_nonneg _ (by decide)]
  omega
theorem reads_src (xs : List Int) : ∃ r, Reads (srcS xs) 0 [] (((nsOf xs).take (badOf xs).toNat).map dueD) r ∧ ((nsOf xs).length ≤ (badOf xs).toNat → r = none) ∧
    ((badOf xs).toNat < (nsOf xs).length → ∃ p y, (nsOf xs)[(badOf xs).toNat]? = some y ∧ r = some (p, (sgOf xs).toNat) ∧ Coord (srcS xs) p (badOf xs).toNat ((headS y).cps.toList.length + 7)) := by
  have hb := bad_range xs
  obtain ⟨s1, s2, s3, s4⟩ := sg_ok xs
  have eb : (((badOf xs).toNat : Nat) : Int) = badOf xs := by omega
  have et : (srcS xs).cps.toList = (lineS (badOf xs) (sgOf xs).toNat 0 ((nsOf xs).headD 0)).cps.toList ++ tlL (badOf xs) (sgOf xs).toNat 1 (nsOf xs).tail := by
    unfold srcS
    rw [linesTo_eq]
    cases hl : nsOf xs with
    | nil => unfold nsOf at hl; simp at hl
    | cons x l => exact join_lines _ _
  have hne : nsOf xs = (nsOf xs).headD 0 :: (nsOf xs).tail := by
    cases hl : nsOf xs with
    | nil => unfold nsOf at hl; simp at hl
    | cons x l => rfl
  have h := reads_lines (src := srcS xs) (b := (badOf xs).toNat) (sg := (sgOf xs).toNat) s3 (by omega) (nsOf xs).tail ((nsOf xs).headD 0) 0 0 (Nat.zero_le _)
    ⟨Int.le_refl _, by omega, by rw [eb, ← et]; rfl⟩ ⟨by simp, fun _ => rfl, fun h => absurd rfl h⟩
  rw [← hne, Nat.sub_zero] at h
  obtain ⟨r, h1, h2, h3⟩ := h
  have hlen : (nsOf xs).length = (nsOf xs).tail.length + 1 := by rw [hne]; rfl
  exact ⟨r, h1, fun h => h2 (by omega), fun h => h3 (by omega)⟩
end Mine
end

section
set_option Elab.async false
set_option maxRecDepth 100000
set_option linter.unusedVariables false
namespace Mine
open PySem PySem.W PyProof.Rows PyProof.Rows.TI PyProof.Rows.LCg PySem.Calls
section
variable {w : World} {A : Around} {E : Value → Shared → Prop} {s : Shared} {h₀ : Heap} {L : Addr} {m : Str → Option Value} {env : Env} {scope : Scope} {cl : List (Str × Addr)} {elt : Expr} {ifs : List Expr} {nws : List (Addr × Obj)} {x y : Str} {px py tp : Pos} {k₀ : Nat}
  {Fin : List Value → List (Addr × Obj) → Shared → Prop} {J : Nat → List Value → List (Addr × Obj) → Prop}
/-- a turn of a comprehension: the source's own objects lie behind the ledger's -/
noncomputable def TurnC (w : World) (A : Around) (s : Shared) (h₀ : Heap) (L : Addr) (m : Str → Option Value) (env : Env) (scope : Scope) (cl : List (Str × Addr)) (elt : Expr) (ifs : List Expr) (n : Nat) (Vars : Nat → (Str → Option Value) → Prop) (J : Nat → List Value → List (Addr × Obj) → Prop) : Prop :=
  ∀ i ys nws₁ h tk C oC D m₂ own wr (E' : Value → Shared → Prop) (s₂ : Shared), i < n → Vars i m₂ → J i ys nws₁ → NsObj oC m₂ → Fr h₀ L h m → News h₀ L h ((C, oC) :: (D, lst ys) :: (nws₁ ++ own)) → (∀ b ∈ wr, b ∈ own.map (·.1)) → (∀ p ∈ own ++ nws₁, p.1 ≠ C ∧ p.1 ≠ D) → C ≠ D → (∀ p ∈ nws₁, p.1 ∉ wr) → (∃ h, s₂ = { s with heap := h }) →
      wpAny (model prg w) A (forIn ifs true fun c r => if r = true then do let ok ← isTrue c (compEnvC scope cl C env) (eval c (compEnvC scope cl C env)); pure (ForInStep.yield ok) else pure (ForInStep.yield r)) (fun ok s₃ =>
        if ok = true then wpAny (model prg w) A (eval elt (compEnvC scope cl C env)) (fun y s₄ => CTurned s₂ h₀ L m C oC D ys own wr (J (i + 1) (ys ++ [y])) s₄) E' s₃
        else CTurned s₂ h₀ L m C oC D ys own wr (J (i + 1) ys) s₃) E' { s₂ with heap := h, toks := tk }
theorem news_turn {h : Heap} {a b : Addr × Obj} {own X : List (Addr × Obj)} (N : News h₀ L h (a :: b :: (X ++ own))) : News h₀ L h (a :: b :: (own ++ X)) := fun p hp => N p (by
  rcases List.mem_cons.mp hp with h | hp
  · exact h ▸ .head _
  · rcases List.mem_cons.mp hp with h | hp
    · exact h ▸ .tail _ (.head _)
    · exact .tail _ (.tail _ ((List.mem_append.mp hp).elim (List.mem_append_right _) (List.mem_append_left _))))
theorem src_core {target : Expr} {I : Addr} {fp wr : List Addr} {n : Nat} {Vars : Nat → (Str → Option Value) → Prop} {St : Nat → Heap → Prop} {h' : Heap} (W : IterC w A env scope cl target I fp wr n Vars St) (hsz : n ≤ sizeLine) (st : St 0 h') (F : Fr h₀ L s.heap m) (N : News h₀ L s.heap nws) (keep : ∀ b o, s.heap.get? b = some o → h'.get? b = some o)
    (hfp : ∀ b ∈ fp, s.heap.get? b = none ∨ ∃ o, (b, o) ∈ nws) (hwr : ∀ b ∈ wr, s.heap.get? b = none) (hJ : J 0 [] nws) (turn : TurnC w A s h₀ L m env scope cl elt ifs n Vars J) (fin : ∀ ys nws' s₂, (∃ h, s₂ = { s with heap := h }) → J n ys nws' → Fin ys nws' s₂) :
    SrcC w A h₀ L m env elt target ifs scope cl Fin (.ref I) { s with heap := h' } := by
  have new : ∀ b, s.heap.get? b = none → b ≠ L ∧ h₀.get? b = none := fun b hb => by
    refine ⟨fun q => ?_, ?_⟩
    · obtain ⟨o, _, _, ho, _⟩ := F.ns
      rw [q, ho] at hb; cases hb
    · cases q : h₀.get? b with
      | none => rfl
      | some o => rw [F.keep _ _ q] at hb; cases hb
  refine ⟨I, fp, wr, n, Vars, St, nws, J, rfl, W, hsz, st, fun b hb => ?_, F.keeps keep, N.grown keep, fun p hp q => ?_, hJ, ?_, fun ys nws' => fin ys nws' _ ⟨_, rfl⟩⟩
  · obtain ⟨o, ho⟩ := W.live _ _ st b hb
    refine ⟨Heap.lt_size ho, ?_⟩
    rcases hfp b hb with h | ⟨o, h⟩
    · exact new b h
    · exact (N _ h).2
  · have := (N p hp).1
    rw [hwr _ q] at this; cases this
  · intro i ys nws₁ h tk C oC D m₂ own E' hi hV hJ' hoC F' N' hk off hCD offw
    exact turn i ys nws₁ h tk C oC D m₂ own wr E' _ hi hV hJ' hoC F' (news_turn N') (fun b hb => by rw [hk]; exact W.sub b hb) off hCD offw ⟨_, rfl⟩
theorem src_gen {target : Expr} {I : Addr} {fp wr : List Addr} {n : Nat} {Vars : Nat → (Str → Option Value) → Prop} {St : Nat → Heap → Prop} {h' : Heap} (W : IterC w A env scope cl target I fp wr n Vars St) (hsz : n ≤ sizeLine) (st : St 0 h') (F : Fr h₀ L s.heap m) (N : News h₀ L s.heap nws) (keep : ∀ b o, s.heap.get? b = some o → h'.get? b = some o)
    (hfp : ∀ b ∈ fp, s.heap.get? b = none ∨ ∃ o, (b, o) ∈ nws) (hwr : ∀ b ∈ wr, s.heap.get? b = none) (hJ : J 0 [] nws) (turn : TurnC w A s h₀ L m env scope cl elt ifs n Vars J) (fin : ∀ ys nws' s₂, (∃ h, s₂ = { s with heap := h }) → J n ys nws' → Fin ys nws' s₂) :
    wpAny (model prg w) A (pyIter (.ref I)) (fun it s₂ => SrcC w A h₀ L m env elt target ifs scope cl Fin it s₂) E { s with heap := h' } :=
  W.self 0 _ _ _ st (src_core W hsz st F N keep hfp hwr hJ turn fin)
/-- enumerate over a list of the ledger -/
theorem src_enum {l : Addr} {vals : List Value} {c : Nat} (hh : A.handled = none) (F : Fr h₀ L s.heap m) (N : News h₀ L s.heap nws) (hm : (l, W.listOf vals.toArray c) ∈ nws) (hsz : vals.length ≤ sizeLine) (hkind : scope.kind = .function) (hx : scope.names.lookup x = some .local) (hy : scope.names.lookup y = some .local) (hxy : x ≠ y)
    (hJ : J 0 [] nws) (turn : TurnC w A s h₀ L m env scope cl elt ifs vals.length (fun i m₂ => ∃ t v, vals[i]? = some v ∧ m₂ x = some (.int i t) ∧ m₂ y = some v) J) (fin : ∀ ys nws' s₂, (∃ h, s₂ = { s with heap := h }) → J vals.length ys nws' → Fin ys nws' s₂) :
    wpAny (model prg w) A (call (.type "enumerate") [.ref l]) (fun xv s₁ => wpAny (model prg w) A (pyIter xv) (fun it s₂ => SrcC w A h₀ L m env elt (.Tuple [.Name x px, .Name y py] k₀ tp) ifs scope cl Fin it s₂) E s₁) E s := by
  have hl := News.isList N hm
  have hlt : l < s.heap.objs.size := Heap.lt_size (N _ hm).1
  refine call_enumerate_list hl fun h' hE hI hs hk => ?_
  have gone : ∀ b : Addr, s.heap.objs.size ≤ b → s.heap.get? b = none := fun b hb => Heap.get?_none_of_le hb
  have W := WalksT.enumerate (prog := prg) (w := w) hh (s.heap.objs.size + 1) s.heap.objs.size l (Nat.succ_ne_self _) (Nat.ne_of_lt (Nat.lt_succ_of_lt hlt)) (Nat.ne_of_lt hlt) vals.toArray
  have I := iter_pair (env := env) (scope := scope) (cl := cl) (px := px) (py := py) (k := k₀) (tp := tp) (x := x) (y := y) W (fun i vs ⟨t, v, _, e⟩ => ⟨_, _, e⟩) (fun i h st b hb => ?_) hh hkind hx hy hxy
  · have hsize : vals.toArray.size = vals.length := List.size_toArray ..
    rw [hsize] at I
    refine src_gen (s := s) I hsz ⟨⟨_, hE⟩, hI, by obtain ⟨o, ho, r⟩ := hl; exact ⟨o, hk _ _ ho, r⟩⟩ F N hk (fun b hb => ?_) (fun b hb => ?_) hJ (fun i ys nws₁ h tk C oC D m₂ own wr E' s₂ hi hV => turn i ys nws₁ h tk C oC D m₂ own wr E' s₂ hi ?_) fin
    · simp only [List.mem_cons, List.not_mem_nil, or_false] at hb
      rcases hb with rfl | rfl | rfl
      · exact .inl (gone _ (Nat.le_succ _))
      · exact .inl (gone _ (Nat.le_refl _))
      · exact .inr ⟨_, hm⟩
    · simp only [List.mem_cons, List.not_mem_nil, or_false] at hb
      rcases hb with rfl | rfl
      · exact gone _ (Nat.le_succ _)
      · exact gone _ (Nat.le_refl _)
    · obtain ⟨a, b, ⟨t, v, hv, e⟩, h1, h2⟩ := hV
      have e' : [a, b] = [.int (i : Int) t, v] := congrArg Array.toList e
      cases e'
      exact ⟨t, _, by simpa using hv, h1, h2⟩
  · obtain ⟨⟨old, h1⟩, ⟨o2, h2, _⟩, ⟨o3, h3, _⟩⟩ := st
    simp only [List.mem_cons, List.not_mem_nil, or_false] at hb
    rcases hb with rfl | rfl | rfl
    · exact ⟨_, h1⟩
    · exact ⟨_, h2⟩
    · exact ⟨_, h3⟩
/-- zip over two lists of the ledger -/
theorem src_zip {l₁ l₂ : Addr} {v₁ v₂ : List Value} {c₁ c₂ : Nat} (hh : A.handled = none) (F : Fr h₀ L s.heap m) (N : News h₀ L s.heap nws) (hm₁ : (l₁, W.listOf v₁.toArray c₁) ∈ nws) (hm₂ : (l₂, W.listOf v₂.toArray c₂) ∈ nws) (hlen : v₁.length = v₂.length) (hsz : v₁.length ≤ sizeLine) (hkind : scope.kind = .function) (hx : scope.names.lookup x = some .local) (hy : scope.names.lookup y = some .local) (hxy : x ≠ y)
    (hJ : J 0 [] nws) (turn : TurnC w A s h₀ L m env scope cl elt ifs v₁.length (fun i m₂ => ∃ a b, v₁[i]? = some a ∧ v₂[i]? = some b ∧ m₂ x = some a ∧ m₂ y = some b) J) (fin : ∀ ys nws' s₂, (∃ h, s₂ = { s with heap := h }) → J v₁.length ys nws' → Fin ys nws' s₂) :
    wpAny (model prg w) A (call (.type "zip") [.ref l₁, .ref l₂]) (fun xv s₁ => wpAny (model prg w) A (pyIter xv) (fun it s₂ => SrcC w A h₀ L m env elt (.Tuple [.Name x px, .Name y py] k₀ tp) ifs scope cl Fin it s₂) E s₁) E s := by
  have hl₁ := News.isList N hm₁
  have hl₂ := News.isList N hm₂
  have lt₁ : l₁ < s.heap.objs.size := Heap.lt_size (N _ hm₁).1
  have lt₂ : l₂ < s.heap.objs.size := Heap.lt_size (N _ hm₂).1
  refine call_zip_2 hl₁ hl₂ fun h' hz hTI hTO hi₁ hi₂ hs hk => ?_
  have gone : ∀ b : Nat, s.heap.objs.size ≤ b → s.heap.get? b = none := fun b hb => Heap.get?_none_of_le hb
  have D : ZipApart (s.heap.objs.size + 4) (s.heap.objs.size + 2) (s.heap.objs.size + 3) s.heap.objs.size (s.heap.objs.size + 1) l₁ l₂ := by
    have z1 : @LT.lt Nat _ l₁ s.heap.objs.size := lt₁
    have z2 : @LT.lt Nat _ l₂ s.heap.objs.size := lt₂
    constructor <;> (intro e; have e' : @Eq Nat _ _ := e; omega)
  have W := WalksT.zip2 (prog := prg) (w := w) hh _ _ _ _ _ _ _ D v₁.toArray v₂.toArray
  have I := iter_pair (env := env) (scope := scope) (cl := cl) (px := px) (py := py) (k := k₀) (tp := tp) (x := x) (y := y) W (fun i vs ⟨a, b, _, _, e⟩ => ⟨_, _, e⟩) (fun i h st b hb => ?_) hh hkind hx hy hxy
  · have hmin : min v₁.toArray.size v₂.toArray.size = v₁.length := by simp [hlen]
    rw [hmin] at I
    refine src_gen (s := s) I hsz ⟨hz, hTI, ⟨_, _, hTO⟩, hi₁, hi₂, by obtain ⟨o, ho, r⟩ := hl₁; exact ⟨o, hk _ _ ho, r⟩, by obtain ⟨o, ho, r⟩ := hl₂; exact ⟨o, hk _ _ ho, r⟩⟩ F N hk (fun b hb => ?_) (fun b hb => ?_) hJ (fun i ys nws₁ h tk C oC D m₂ own wr E' s₂ hi hV => turn i ys nws₁ h tk C oC D m₂ own wr E' s₂ hi ?_) fin
    · simp only [List.mem_cons, List.not_mem_nil, or_false] at hb
      rcases hb with rfl | rfl | rfl | rfl | rfl | rfl | rfl
      · exact .inl (gone _ (by omega))
      · exact .inl (gone _ (by omega))
      · exact .inl (gone _ (by omega))
      · exact .inl (gone _ (by omega))
      · exact .inl (gone _ (by omega))
      · exact .inr ⟨_, hm₁⟩
      · exact .inr ⟨_, hm₂⟩
    · simp only [List.mem_cons, List.not_mem_nil, or_false] at hb
      rcases hb with rfl | rfl | rfl | rfl <;> exact gone _ (by omega)
    · obtain ⟨a, b, ⟨xx, yy, h1, h2, e⟩, h3, h4⟩ := hV
      have e' : [a, b] = [xx, yy] := congrArg Array.toList e
      cases e'
      exact ⟨_, _, by simpa using h1, by simpa using h2, h3, h4⟩
  · obtain ⟨h1, h2, ⟨_, _, h3⟩, ⟨_, h4, _⟩, ⟨_, h5, _⟩, ⟨_, h6, _⟩, ⟨_, h7, _⟩⟩ := st
    simp only [List.mem_cons, List.not_mem_nil, or_false] at hb
    rcases hb with rfl | rfl | rfl | rfl | rfl | rfl | rfl
    · exact ⟨_, h1⟩
    · exact ⟨_, h2⟩
    · exact ⟨_, h3⟩
    · exact ⟨_, h4⟩
    · exact ⟨_, h5⟩
    · exact ⟨_, h6⟩
    · exact ⟨_, h7⟩
/-- over a list of the ledger -/
theorem src_list {l : Addr} {vals : List Value} {c : Nat} (hh : A.handled = none) (F : Fr h₀ L s.heap m) (N : News h₀ L s.heap nws) (hm : (l, W.listOf vals.toArray c) ∈ nws) (hsz : vals.length ≤ sizeLine) (hkind : scope.kind = .function) (hx : scope.names.lookup x = some .local)
    (hJ : J 0 [] nws) (turn : TurnC w A s h₀ L m env scope cl elt ifs vals.length (fun i m₂ => ∃ v, vals[i]? = some v ∧ m₂ x = some v) J) (fin : ∀ ys nws' s₂, (∃ h, s₂ = { s with heap := h }) → J vals.length ys nws' → Fin ys nws' s₂) :
    wpAny (model prg w) A (pyIter (.ref l)) (fun it s₂ => SrcC w A h₀ L m env elt (.Name x px) ifs scope cl Fin it s₂) E s := by
  have hl := News.isList N hm
  have hlt : l < s.heap.objs.size := Heap.lt_size (N _ hm).1
  refine wpAny_pyIter_list hl ?_
  have W := Walks.list (prog := prg) (w := w) hh s.heap.objs.size l (Nat.ne_of_lt hlt) vals.toArray
  have I := iter_name (env := env) (scope := scope) (cl := cl) (px := px) (x := x) W (fun i h st b hb => ?_) hkind hx
  · have hsize : vals.toArray.size = vals.length := List.size_toArray ..
    rw [hsize] at I
    refine src_core (s := s) (h' := s.heap.push { cls := .type "list_iterator", data := .fields #[.ref l, .int 0 0] }) I hsz ⟨⟨_, Heap.get?_push_size _ rfl, rfl, rfl⟩, Heap.IsList.push hl _⟩ F N (fun b o e => Heap.get?_push_of_some _ e) (fun b hb => ?_) (fun b hb => ?_) hJ (fun i ys nws₁ h tk C oC D m₂ own wr E' s₂ hi hV => turn i ys nws₁ h tk C oC D m₂ own wr E' s₂ hi ?_) fin
    · simp only [List.mem_cons, List.not_mem_nil, or_false] at hb
      rcases hb with rfl | rfl
      · exact .inl (Heap.get?_none_of_le (Nat.le_refl _))
      · exact .inr ⟨_, hm⟩
    · simp only [List.mem_cons, List.not_mem_nil, or_false] at hb
      rw [hb]
      exact Heap.get?_none_of_le (Nat.le_refl _)
    · obtain ⟨v, hv, h⟩ := hV
      exact ⟨v, by simpa using hv, h⟩
  · obtain ⟨⟨_, h1, _⟩, ⟨_, h2, _⟩⟩ := st
    simp only [List.mem_cons, List.not_mem_nil, or_false] at hb
    rcases hb with rfl | rfl
    · exact ⟨_, h1⟩
    · exact ⟨_, h2⟩
end
end Mine
end

section
open Mine
local macro_rules | `(tactic| k_all) => `(tactic| first | exact allNe_lt (by assumption) (by omega) | assumption | (refine allNe_cons (by first | exact ne_gt (by omega) | exact ne_lt (by omega) | assumption) ?_; k_all))
local macro_rules | `(tactic| walk_at "eval ListComp") => `(tactic| (with_unfolding_all refine compE (by assumption) (by rfl) (by decide) (by rfl) (by decide) ?_))
local macro_rules | `(tactic| walk_at "exec Assign cons ListComp") => `(tactic| (with_unfolding_all refine compA (by assumption) (by rfl) (by rfl) (by rfl) (by decide) (by rfl) (by decide) (by rfl) (by rfl) ?_))
local macro_rules | `(tactic| walk_at "eval Call") => `(tactic| ((with_reducible show wpAny _ _ (eval (Expr.Call (Expr.Name _ _) _ [] _) _) _ _ _); with_unfolding_all refine Call_ ?_))
local macro_rules | `(tactic| walk_at "call ref") => `(tactic| k_extra "call ref")

section
set_option Elab.async false
set_option maxRecDepth 100000
set_option maxHeartbeats 8000000
set_option linter.unusedVariables false
namespace Mine
open PySem PySem.W PyProof.Rows PyProof.Rows.TI PyProof.V PySem.Calls
theorem fillK14 : PySem.Challenge.rw_oh0011_01 = PySem.Challenge.rw_oh0011_01 ∧ K = K := by
  k_with_none
  k_fill
  exact ⟨rfl, rfl⟩
set_option pp.deepTerms false
set_option pp.maxSteps 400
noncomputable abbrev lawEnv (fa L' : Addr) (cd : Value) : Env := envOfC (Str.ofString "law") (fnScope 19) L' fa cd
noncomputable abbrev lawTop (fa L' : Addr) (cd : Value) : Around := ktrTop (callerA.depth + 1) 7 (some []) (Str.ofString "law") (fnScope 19) L' fa cd (cellsFrom (L' + 1) (fnScope 19).names []) []
section
variable {w : World} {A : Around} {E : Value → Shared → Prop} {s : Shared} {h₀ : Heap} {L : Addr} {m : Str → Option Value} {nws : List (Addr × Obj)}
theorem add_gen {l b : Addr} {vs ws : List Value} {Q : Value → Shared → Prop} (F : Fr h₀ L s.heap m) (N : News h₀ L s.heap nws) (hl : s.heap.IsList l vs.toArray) (hb : s.heap.IsList b ws.toArray) (hsz : vs.length + ws.length ≤ sizeLine)
    (h : ∀ l' h', Fr h₀ L h' m → News h₀ L h' ((l', W.listOf (vs ++ ws).toArray 0) :: nws) → (∀ p ∈ nws, @LT.lt Nat _ p.1 l') → Q (.ref l') { s with heap := h' }) : wpAny (model prg w) A (binaryOp .Add (.ref l) (.ref b)) Q E s :=
  add_lists F N hl hb (fun h' F' N' => h _ h' F' N' fun p hp => Heap.lt_size (N p hp).1) hsz
end
theorem law_A {w : World} {mean : ExcName → Option Value} {mg mb : Str → Option Value} {h₀ : Heap} (B : Base w mean mg mb h₀) (xs : List Int) (vals : List Value) (hI : IntsAre vals xs) (sc : Addr) (hL : h₀.IsList sc vals.toArray) (hlen : xs.length ≤ 63)
    (fa L' : Addr) (cd : Value) (s : Shared) (Q : Value → Shared → Prop) (oT oS oB : Obj) (dT : oT.data = .cell none) (dS : oS.data = .cell none) (dB : oB.data = .cell none) (h80 : @LT.lt Nat _ 80 L')
    (F : Fr h₀ L' s.heap (fun y => if y = Str.ofString "script" then some (.ref sc) else none)) (N : News h₀ L' s.heap [(L' + 1 + 1 + 1, oT), (L' + 1 + 1, oS), (L' + 1, oB), (80, tabObj #[])])
    (k : ∀ h' tk m' Dn nvs tb ts oS' oB', Fr h₀ L' h' m' → News h₀ L' h' [(L' + 1 + 1 + 1, oT), (L' + 1 + 1, oS'), (L' + 1, oB'), (80, tabObj #[]), (Dn, W.listOf nvs.toArray 0)] → @LT.lt Nat _ (L' + 1 + 1 + 1) Dn → m' (Str.ofString "numbers") = some (.ref Dn) → IntsAre nvs (nsOf xs) →
      oS'.data = .cell (some (.str ⟨#[(sgOf xs).toNat]⟩ ts)) → oB'.data = .cell (some (.int (badOf xs) tb)) →
      wpAny (model prg w) (lawTop fa L' cd) (execs ((fnBody 19).drop 2) (lawEnv fa L' cd)) (fun f s' => Q (retV f) s') (fun _ _ => False) { s with heap := h', toks := tk }) :
    wpAny (model prg w) (lawTop fa L' cd) (execs (fnBody 19) (lawEnv fa L' cd)) (fun f s' => Q (retV f) s') (fun _ _ => False) s := by
  k_with_none
  have X := B.k
  have T := B.t
  w_on
  conv in (fnBody 19) => whnf
  conv at k in ((fnBody 19).drop 2) => whnf
  show wpAny _ _ _ _ _ _
  k_fold
  k_steps
  rename_i ys₁ _ _ kp₁a fr₁ L₁ P₁ c₁ _ _ hm tkm t1 u1 v1 R2 F2 N2 kpm h2 tk2 ys₂ F₂ N₂ kp₂ fr₂ L₂ P₂ c₂ _
  obtain ⟨o₁, ho₁, r₁⟩ := L₁
  have i₁ : IntsAre ys₁ (rangeInts 0 1 9) := by simpa using CarriedAll.intsOf (f := id) c₁
  have i₂ : IntsAre ys₂ (rangeInts 11 1 21) := by simpa using CarriedAll.intsOf (f := id) c₂
  refine add_gen F₂ N₂ ⟨o₁, kp₂ _ _ (kpm _ _ ho₁), r₁⟩ L₂ (by rw [i₁.length, i₂.length]; decide) ?_
  intro l3 h3 F3 N3 lt3
  simp only [List.forall_mem_cons] at lt3
  clear N₂ F₂ F2 N2 kp₂ kpm P₂ P₁ kp₁a
  k_steps
  refine chr_of_range (show 0 ≤ sgOf xs from (sg_ok xs).1) (show sgOf xs ≤ 1114111 from Int.le_trans (sg_ok xs).2.1 (by decide)) ?_
  k_with "execs cons" => (refine hold ?_)
  k_steps
  rename Fr _ _ _ _ => F4
  rename News _ _ _ _ => N4
  replace N4 := News.tail N4
  k_steps
  rename Fr _ _ _ _ => F'
  rename News _ _ _ _ => N'
  rename _ = Data.cell (some (Value.str _ _)) => dS'
  rename _ = Data.cell (some (Value.int _ _)) => dB'
  refine unhold ?_
  refine k _ _ _ _ _ _ _ _ _ F' (fun p hp => N' p ?perm) ?lt rfl (show IntsAre _ (List.take 4 xs ++ [67, 1536, 0]) by assumption) dS' dB'
  case perm =>
    simp only [List.mem_cons, List.not_mem_nil, or_false] at hp ⊢
    rcases hp with h | h | h | h | h <;> simp only [h, true_or, or_true]
  case lt => omega
end Mine
end

section
set_option Elab.async false
set_option maxRecDepth 100000
set_option maxHeartbeats 8000000
set_option linter.unusedVariables false
namespace Mine
open PySem PySem.W PyProof.Rows PyProof.Rows.TI PyProof.V PySem.Calls
theorem fillK15 : PySem.Challenge.rw_oh0011_01 = PySem.Challenge.rw_oh0011_01 ∧ K = K := by
  k_with_none
  k_fill
  exact ⟨rfl, rfl⟩
set_option pp.deepTerms false
set_option pp.maxSteps 400
local macro_rules | `(tactic| walk_at "call type:enumerate") => `(tactic| k_extra "call type:enumerate")
local macro_rules | `(tactic| walk_at "subscriptTail") => `(tactic| k_extra "subscriptTail")
local macro_rules | `(tactic| walk_at "subscriptTail Name BinOp ref int") => `(tactic| k_extra "subscriptTail")
theorem fm5' (x : Int) : 0 ≤ x.fmod 5 ∧ x.fmod 5 < 5 := by rw [Int.fmod_eq_emod_of_nonneg _ (by decide)]; omega
theorem ints_at {vs : List Value} {ns : List Int} (h : IntsAre vs ns) : ∀ {i : Nat} {v : Value}, vs[i]? = some v → ∃ t, v = .int (ns.getD i 0) t := by
  induction h with
  | nil => intro i v hv; cases hv
  | cons a b _ ih =>
    intro i v hv
    cases i with
    | zero => cases hv; exact ⟨_, rfl⟩
    | succ i => exact ih hv
theorem strs_at {vs : List Value} {ns : List Str} (h : StrsAre vs ns) : ∀ {i : Nat} {v : Value}, vs[i]? = some v → ∃ t, v = .str (ns.getD i Str.empty) t := by
  induction h with
  | nil => intro i v hv; cases hv
  | cons a b _ ih =>
    intro i v hv
    cases i with
    | zero => cases hv; exact ⟨_, rfl⟩
    | succ i => exact ih hv
theorem endsTo_succ (b : Int) (sg : Nat) (ns : List Int) (i : Nat) : endsTo b sg ns (i + 1) = endsTo b sg ns i ++ [endS b sg i (ns.getD i 0)] := by
  unfold endsTo
  rw [List.range_succ, List.map_append]; rfl
theorem linesTo_succ (b : Int) (sg : Nat) (ns : List Int) (i : Nat) : linesTo b sg ns (i + 1) = linesTo b sg ns i ++ [lineS b sg i (ns.getD i 0)] := by
  unfold linesTo
  rw [List.range_succ, List.map_append]; rfl
theorem ns_len (xs : List Int) : (nsOf xs).length ≤ 7 := by unfold nsOf; rw [List.length_append, List.length_take]; simp; omega
theorem ct_same {s : Shared} {h₀ h : Heap} {L : Addr} {m : Str → Option Value} {C D : Addr} {oC : Obj} {ys : List Value} {own nws : List (Addr × Obj)} {wr : List Addr} {J : List (Addr × Obj) → Prop} {tk : Nat} (F' : Fr h₀ L h m) (N' : News h₀ L h ((C, oC) :: (D, LCg.lst ys) :: (nws ++ own))) (off : ∀ p ∈ own ++ nws, p.1 ≠ C ∧ p.1 ≠ D) (offw : ∀ p ∈ nws, p.1 ∉ wr) (hJ : J nws) :
    CTurned s h₀ L m C oC D ys own wr J { s with heap := h, toks := tk } := ⟨h, tk, nws, rfl, F', news_turn N', fun p hp => ⟨(off p (List.mem_append_right _ hp)).1, (off p (List.mem_append_right _ hp)).2, offw p hp⟩, hJ⟩
section
variable {w : World} {A : Around} {E : Value → Shared → Prop} {s : Shared} {Q : Value → Shared → Prop}
theorem tail_item {v sl : Expr} {l : Addr} {t1 t2 t3 t4 t5 u : Tok} {n : Nat} {x : Int} (hl : s.heap.get? l = some (W.listOf #[.str (Str.ofString "") t1, .str (Str.ofString "  ") t2, .str (Str.ofString " # a,\t0x1 NESTED") t3, .str (Str.ofString "\t#") t4, .str (Str.ofString ", ,# é") t5] n)) (h : ∀ t, Q (.str (tailS x) t) s)
    (hs : subscripted sl false (.ref l) (.int (x.fmod 5) u) = operate [.ref l, .int (x.fmod 5) u] (getItem (.ref l) (.int (x.fmod 5) u)) := by with_unfolding_all rfl) :
    wpAny (model prg w) A (subscriptTail v sl (.ref l) (.int (x.fmod 5) u)) Q E s :=
  PyProof.Rows.item_strsR ⟨_, hl, rfl, _, rfl⟩ (.cons _ _ (.cons _ _ (.cons _ _ (.cons _ _ (.cons _ _ .nil))))) (fm5' x).1 (fm5' x).2 (Int.lt_trans (fm5' x).2 (by decide)) h hs
end
theorem law_B {w : World} {mean : ExcName → Option Value} {mg mb : Str → Option Value} {h₀ : Heap} (B : Base w mean mg mb h₀) (xs : List Int) (fa L' : Addr) (cd : Value) (s : Shared) (Q : Value → Shared → Prop) (m : Str → Option Value) (oT oS oB : Obj) (Dn : Addr) (nvs : List Value) (tb ts : Tok) (dT : oT.data = .cell none) (dS : oS.data = .cell (some (.str ⟨#[(sgOf xs).toNat]⟩ ts))) (dB : oB.data = .cell (some (.int (badOf xs) tb))) (h80 : @LT.lt Nat _ 80 L')
    (F : Fr h₀ L' s.heap m) (N : News h₀ L' s.heap [(L' + 1 + 1 + 1, oT), (L' + 1 + 1, oS), (L' + 1, oB), (80, tabObj #[]), (Dn, W.listOf nvs.toArray 0)]) (hDn : @LT.lt Nat _ (L' + 1 + 1 + 1) Dn) (hm : m (Str.ofString "numbers") = some (.ref Dn)) (hn : IntsAre nvs (nsOf xs))
    (k : ∀ h' tk m' De evs ce oT', Fr h₀ L' h' m' → News h₀ L' h' [(L' + 1 + 1 + 1, oT'), (L' + 1 + 1, oS), (L' + 1, oB), (80, tabObj #[]), (Dn, W.listOf nvs.toArray 0), (De, W.listOf evs.toArray ce)] → m' (Str.ofString "numbers") = some (.ref Dn) → m' (Str.ofString "ends") = some (.ref De) → StrsAre evs (endsTo (badOf xs) (sgOf xs).toNat (nsOf xs) (nsOf xs).length) →
      wpAny (model prg w) (lawTop fa L' cd) (execs ((fnBody 19).drop 4) (lawEnv fa L' cd)) (fun f s' => Q (retV f) s') (fun _ _ => False) { s with heap := h', toks := tk }) :
    wpAny (model prg w) (lawTop fa L' cd) (execs ((fnBody 19).drop 2) (lawEnv fa L' cd)) (fun f s' => Q (retV f) s') (fun _ _ => False) s := by
  k_with_none
  have X := B.k
  have T := B.t
  replace F := fr_pin F hm
  w_on
  conv in ((fnBody 19).drop 2) => whnf
  conv at k in ((fnBody 19).drop 4) => whnf
  show wpAny _ _ _ _ _ _
  k_fold
  k_with "call type:enumerate" => (refine hold ?_)
  k_steps
  rename_i lT _ l1 _ oT' F' N' dT'
  refine unhold ?_
  have hlen : nvs.length ≤ 7 := by rw [hn.length]; exact ns_len xs
  refine src_enum (J := fun i ys nws => nws = [(lT, W.listOf #[.str (Str.ofString "") s.toks, .str (Str.ofString "  ") (s.toks + 1), .str (Str.ofString " # a,\t0x1 NESTED") (s.toks + 1 + 1), .str (Str.ofString "\t#") (s.toks + 1 + 1 + 1), .str (Str.ofString ", ,# é") (s.toks + 1 + 1 + 1 + 1)] 0), (L' + 1 + 1 + 1, oT'), (L' + 1 + 1, oS), (L' + 1, oB), (80, tabObj #[]), (Dn, W.listOf nvs.toArray 0)] ∧ StrsAre ys (endsTo (badOf xs) (sgOf xs).toNat (nsOf xs) i)) rfl F' N' (by k_mem) (Nat.le_trans hlen (by decide)) (by rfl) (by rfl) (by rfl) (by decide) ⟨rfl, .nil⟩ ?turn ?fin
  case turn =>
    intro i ys nws₁ h tk C oC D m₂ own wr E' s₂ hi hV hJ hoC F₂ N₂ hwr off hCD offw hs
    obtain ⟨t, v, hv, h1, h2⟩ := hV
    obtain ⟨hnws, hys⟩ := hJ
    obtain ⟨hp, rfl⟩ := hs
    obtain ⟨tx, rfl⟩ := ints_at hn hv
    rw [hnws] at N₂
    simp only [List.cons_append, List.nil_append] at N₂
    refine wpAny_tests_nil ((if_pos rfl).mpr ?_)
    k_fold
    k_with "subscriptTail" => (refine tail_item (News.get (by assumption) (by k_mem)) ?_; intro _)
    k_steps
    · rename Fr _ _ _ _ => F'
      rename News _ _ _ _ => N'
      have he : (i : Int) = badOf xs := by assumption
      refine ct_same (nws := nws₁) F' (by rw [hnws]; exact N') off offw ⟨hnws, ?_⟩
      rw [endsTo_succ, show endS (badOf xs) (sgOf xs).toNat i ((nsOf xs).getD i 0) = badS (sgOf xs).toNat from if_pos he]
      exact hys.append' (.cons _ _ .nil)
    · rename Fr _ _ _ _ => F'
      rename News _ _ _ _ => N'
      have he : ¬ (i : Int) = badOf xs := by assumption
      refine ct_same (nws := nws₁) F' (by rw [hnws]; exact N') off offw ⟨hnws, ?_⟩
      rw [endsTo_succ, show endS (badOf xs) (sgOf xs).toNat i ((nsOf xs).getD i 0) = tailS ((nsOf xs).getD i 0) from if_neg he]
      exact hys.append' (.cons _ _ .nil)
  case fin =>
    rintro ys nws' s₂ ⟨_, rfl⟩ ⟨rfl, hys⟩ D h tk F₃ N₃ off hLD
    refine k h tk _ D ys ys.length oT' F₃ (fun p hp => N₃ p ?perm) rfl rfl (by rw [← hn.length]; exact hys)
    simp only [List.mem_cons, List.not_mem_nil, or_false] at hp ⊢
    rcases hp with h | h | h | h | h | h <;> simp only [h, true_or, or_true]
end Mine
end

section
set_option Elab.async false
set_option maxRecDepth 100000
set_option maxHeartbeats 8000000
set_option linter.unusedVariables false
namespace Mine
open PySem PySem.W PyProof.Rows PyProof.Rows.TI PyProof.V PySem.Calls
theorem fillK16 : PySem.Challenge.rw_oh0011_01 = PySem.Challenge.rw_oh0011_01 ∧ K = K := by
  k_with_none
  k_fill
  exact ⟨rfl, rfl⟩
set_option pp.deepTerms false
set_option pp.maxSteps 400
local macro_rules | `(tactic| walk_at "call type:zip") => `(tactic| k_extra "call type:zip")
local macro_rules | `(tactic| walk_at "subscriptTail") => `(tactic| k_extra "subscriptTail")
local macro_rules | `(tactic| walk_at "subscriptTail Name BinOp ref int") => `(tactic| k_extra "subscriptTail")
local macro_rules | `(tactic| walk_at "call builtin:str.join") => `(tactic| k_extra "call builtin:str.join")
local macro_rules | `(tactic| walk_at "binaryOp Add str str") => `(tactic| k_extra "binaryOp Add str str")
theorem tail_len : ∀ i < 5, (tailsS.getD i Str.empty).length ≤ 30 := by decide +kernel
theorem end_len (b : Int) (sg k : Nat) (x : Int) : (endS b sg k x).length ≤ 30 := by
  unfold endS
  split
  · unfold badS
    simp only [Str.length_append, show (Str.ofString "  # so").length = 6 from by decide, show (Str.ofString " it is").length = 6 from by decide, show (⟨#[sg]⟩ : Str).length = 1 from rfl]
    omega
  · exact tail_len _ (fm5 x)
theorem head_len (x : Int) : (headS x).length ≤ 662 := by
  unfold headS
  rw [Str.length_append]
  have h1 := leadS_len x
  have h2 := joined_len (lf_range x).1 (lf_range x).2
  omega
theorem line_len (b : Int) (sg k : Nat) (x : Int) : (lineS b sg k x).length ≤ 692 := by
  unfold lineS
  rw [Str.length_append]
  have := head_len x
  have := end_len b sg k x
  omega
theorem lines_len (b : Int) (sg : Nat) (ns : List Int) (n : Nat) : ((linesTo b sg ns n).map (·.length)).sum ≤ 692 * n := by
  induction n with
  | zero => exact Nat.le_refl _
  | succ n ih =>
    rw [linesTo_succ, List.map_append, List.sum_append]
    have := line_len b sg n (ns.getD n 0)
    simp only [List.map_cons, List.map_nil, List.sum_cons, List.sum_nil]
    omega
theorem linesTo_len (b : Int) (sg : Nat) (ns : List Int) (n : Nat) : (linesTo b sg ns n).length = n := by simp [linesTo]
theorem src_len (xs : List Int) : (srcS xs).length ≤ 50000 := by
  unfold srcS
  have h := lines_len (badOf xs) (sgOf xs).toNat (nsOf xs) (nsOf xs).length
  have hl := linesTo_len (badOf xs) (sgOf xs).toNat (nsOf xs) (nsOf xs).length
  have hn := ns_len xs
  show (Builtin.Str.glued (Str.ofString "\n") _).length ≤ _
  rw [StrLaws.glued_eq_join]
  cases hw : linesTo (badOf xs) (sgOf xs).toNat (nsOf xs) (nsOf xs).length with
  | nil => decide
  | cons x r =>
    rw [hw] at h hl
    rw [len_join_cons, show (Str.ofString "\n").length = 1 from by decide]
    simp only [List.length_cons] at hl
    omega
theorem apart_nil {h₀ h : Heap} {L : Addr} {news : List (Addr × Obj)} (N : News h₀ L h news) : Apart news L [] := fun p hp hm => (N p hp).2.1 (List.mem_singleton.mp hm)
theorem law_C {w : World} {mean : ExcName → Option Value} {mg mb : Str → Option Value} {h₀ : Heap} (B : Base w mean mg mb h₀) (xs : List Int) (fa L' : Addr) (cd : Value) (s : Shared) (Q : Value → Shared → Prop) (m : Str → Option Value) (oT oS oB : Obj) (Dn De : Addr) (nvs evs : List Value) (ce : Nat) (h80 : @LT.lt Nat _ 80 L')
    (F : Fr h₀ L' s.heap m) (N : News h₀ L' s.heap [(L' + 1 + 1 + 1, oT), (L' + 1 + 1, oS), (L' + 1, oB), (80, tabObj #[]), (Dn, W.listOf nvs.toArray 0), (De, W.listOf evs.toArray ce)]) (hm : m (Str.ofString "numbers") = some (.ref Dn)) (hm2 : m (Str.ofString "ends") = some (.ref De)) (hn : IntsAre nvs (nsOf xs)) (he : StrsAre evs (endsTo (badOf xs) (sgOf xs).toNat (nsOf xs) (nsOf xs).length))
    (k : ∀ h' tk m' ts, Fr h₀ L' h' m' → News h₀ L' h' [(L' + 1 + 1 + 1, oT), (L' + 1 + 1, oS), (L' + 1, oB), (80, tabObj #[]), (Dn, W.listOf nvs.toArray 0)] → m' (Str.ofString "numbers") = some (.ref Dn) → m' (Str.ofString "src") = some (.str (srcS xs) ts) →
      wpAny (model prg w) (lawTop fa L' cd) (execs ((fnBody 19).drop 5) (lawEnv fa L' cd)) (fun f s' => Q (retV f) s') (fun _ _ => False) { s with heap := h', toks := tk }) :
    wpAny (model prg w) (lawTop fa L' cd) (execs ((fnBody 19).drop 4) (lawEnv fa L' cd)) (fun f s' => Q (retV f) s') (fun _ _ => False) s := by
  k_with_none
  have X := B.k
  have T := B.t
  replace F := fr_pin (fr_pin F hm) (x := Str.ofString "ends") (v := .ref De) (by exact hm2)
  w_on
  conv in ((fnBody 19).drop 4) => whnf
  conv at k in ((fnBody 19).drop 5) => whnf
  show wpAny _ _ _ _ _ _
  k_fold
  k_with "call type:zip" => (refine hold ?_)
  k_steps
  refine unhold ?_
  have hlen : nvs.length ≤ 7 := by rw [hn.length]; exact ns_len xs
  have hee : evs.length = (nsOf xs).length := by rw [he.length]; simp [endsTo]
  refine src_zip (J := fun i ys nws => nws = [(L' + 1 + 1 + 1, oT), (L' + 1 + 1, oS), (L' + 1, oB), (80, tabObj #[]), (Dn, W.listOf nvs.toArray 0), (De, W.listOf evs.toArray ce)] ∧ StrsAre ys (linesTo (badOf xs) (sgOf xs).toNat (nsOf xs) i)) rfl F N (by k_mem) (by k_mem) (by rw [hee, hn.length]) (Nat.le_trans hlen (by decide)) (by rfl) (by rfl) (by rfl) (by decide) ⟨rfl, .nil⟩ ?turn ?fin
  case turn =>
    intro i ys nws₁ h tk C oC D m₂ own wr E' s₂ hi hV hJ hoC F₂ N₂ hwr off hCD offw hs
    obtain ⟨a, b, ha, hb, h1, h2⟩ := hV
    obtain ⟨hnws, hys⟩ := hJ
    obtain ⟨hp, rfl⟩ := hs
    obtain ⟨tx, rfl⟩ := ints_at hn ha
    obtain ⟨te, rfl⟩ := strs_at he hb
    have hin : i < (nsOf xs).length := by rw [← hn.length]; exact hi
    rw [show (endsTo (badOf xs) (sgOf xs).toNat (nsOf xs) (nsOf xs).length).getD i Str.empty = endS (badOf xs) (sgOf xs).toNat i ((nsOf xs).getD i 0) from by simp [endsTo, List.getD, hin]] at h2
    rw [hnws] at N₂
    simp only [List.cons_append, List.nil_append] at N₂
    refine wpAny_tests_nil ((if_pos rfl).mpr ?_)
    k_fold
    k_with "call ref" => (refine hold ?_)
    k_with "binaryOp Add str str" => (refine hold ?_)
    k_steps
    refine unhold ?_
    refine hd_ct B _ _ _ _ _ _ _ _ _ _ _ _ _ _ _ [] _ _ rfl F₂ (by rw [List.append_nil]; exact N₂) trivial (apart_nil N₂) (by decide) (by decide) ?_
    rintro v h₅ tk₅ news₅ frs₅ SU₅ Fs₅ F₅ N₅ ap₅ ⟨rfl, t, rfl⟩
    cases frs₅ with
    | cons => exact SU₅.elim
    | nil =>
      rw [List.append_nil] at N₅
      k_steps
      refine unhold ?_
      refine PyProof.Rows.add_str (fun t' tk => ?_) ?_
      · refine ct_same (nws := nws₁) F₅ (by rw [hnws]; exact N₅) off offw ⟨hnws, ?_⟩
        rw [linesTo_succ]
        exact hys.append' (.cons _ _ .nil)
      · have := head_len ((nsOf xs).getD i 0)
        have := end_len (badOf xs) (sgOf xs).toNat i ((nsOf xs).getD i 0)
        exact Nat.le_trans (by omega : _ ≤ 700) (by decide)
  case fin =>
    rintro ys nws' s₂ ⟨_, rfl⟩ ⟨rfl, hys⟩ D h tk F₃ N₃ off hLD
    rw [hn.length] at hys
    k_with_none
    k_with "call builtin:str.join" => (refine join_list (News.isList N₃ (.head _)) hys (by rw [linesTo_len, show (Str.ofString "\n").length = 1 from by decide]; have := lines_len (badOf xs) (sgOf xs).toNat (nsOf xs) (nsOf xs).length; have := ns_len xs; omega) ?_; intro _ _)
    k_with "execs cons" => (refine hold ?_)
    k_steps
    rename Fr _ _ _ _ => F'
    rename News _ _ _ _ => N'
    refine unhold ?_
    refine k _ _ _ _ F' (fun p hp => N' p ?perm) rfl rfl
    simp only [List.mem_cons, List.not_mem_nil, or_false] at hp ⊢
    rcases hp with h | h | h | h | h <;> simp only [h, true_or, or_true]
end Mine
end

section
set_option Elab.async false
set_option maxRecDepth 100000
set_option linter.unusedVariables false
namespace Mine
open PySem PySem.W PyProof.Rows PyProof.Rows.TI PyProof.V PySem.Calls PySem.Spec
noncomputable def okD : Nat → Dat → Bool
  | _, .int _ => true
  | _, .bool _ => true
  | _, .str x => PyData.strOk x
  | n + 1, .list ds => ds.all (okD n)
  | _, _ => false
section
variable {h₀ h : Heap} {L : Addr} {news : List (Addr × Obj)}
mutual
theorem okD_in (N : News h₀ L h news) : ∀ {v : Value} {d : Dat} (n : Nat), DatIn news v d → okD n d = true → ∃ as, PySem.Reads h v (kqdP d) as
  | _, _, n, .none, hk => by cases n <;> simp [okD] at hk
  | _, _, _, .bool b, _ => ⟨_, PySem.Reads.bool b⟩
  | _, _, _, .int i t, _ => ⟨_, PySem.Reads.int i t⟩
  | _, _, _, .str x t, _ => ⟨_, PySem.Reads.str x t⟩
  | _, _, n, .bytes _ _, hk => by cases n <;> simp [okD] at hk
  | _, _, n, .tuple _ _, hk => by cases n <;> simp [okD] at hk
  | _, _, 0, .list _ _, hk => by simp [okD] at hk
  | _, _, n + 1, .list hm r, hk => by
    obtain ⟨as, q⟩ := okD_all N n r (by simpa [okD] using hk)
    rw [kqdP]
    exact ⟨_, reads_list_at (N.get hm) rfl rfl (by simpa [W.listOf] using q)⟩
theorem okD_all (N : News h₀ L h news) : ∀ {vs : List Value} {ds : List Dat} (n : Nat), DatAll news vs ds → (∀ d ∈ ds, okD n d = true) → ∃ as, ReadsAll h vs (kqdPs ds) as
  | _, _, _, .nil, _ => ⟨_, ReadsAll.nil⟩
  | _, _, n, .cons hd r, hk => by
    obtain ⟨as, q⟩ := okD_in N n hd (hk _ (.head _))
    obtain ⟨bs, p⟩ := okD_all N n r fun d hm => hk d (.tail _ hm)
    rw [kqdPs]
    exact ⟨_, ReadsAll.cons q p⟩
end
end
theorem okD_lay : ∀ (n : Nat) (d : Dat), okD n d = true → (kqdP d).canLay0 = true ∧ (kqdP d).depth ≤ n
  | n, .none, h => by cases n <;> simp [okD] at h
  | n, .bytes _, h => by cases n <;> simp [okD] at h
  | n, .tuple _, h => by cases n <;> simp [okD] at h
  | n, .int i, _ => by simp [kqdP, PyData.canLay0, PyData.depth]
  | n, .bool i, _ => by simp [kqdP, PyData.canLay0, PyData.depth]
  | n, .str x, h => by
    have : PyData.strOk x = true := by cases n <;> simpa [okD] using h
    simp [kqdP, PyData.canLay0, PyData.depth, this]
  | 0, .list ds, h => by simp [okD] at h
  | n + 1, .list ds, h => by
    have all : ∀ es : List Dat, (∀ d ∈ es, okD n d = true) → PyData.canLayAll0 (kqdPs es) = true ∧ PyData.depthAll (kqdPs es) ≤ n := by
      intro es
      induction es with
      | nil => intro _; simp [kqdPs, PyData.canLayAll0, PyData.depthAll]
      | cons e es ih =>
        intro hh
        have h1 := okD_lay n e (hh e (.head _))
        have h2 := ih fun x hx => hh x (.tail _ hx)
        have a1 := h1.2
        have a2 := h2.2
        simp only [kqdPs, PyData.canLayAll0, PyData.depthAll, h1.1, h2.1, Bool.and_self, true_and]
        omega
    have q := all ds (by simpa [okD] using h)
    have q2 := q.2
    simp only [kqdP, PyData.canLay0, PyData.depth, q.1, true_and]
    omega
section
variable {w : World} {A : Around} {E : Value → Shared → Prop} {s : Shared} {h₀ : Heap} {L : Addr} {news : List (Addr × Obj)} {va vb : Value} {d : Dat} {Q : Value → Shared → Prop}
/-- two lists of the same data are equal -/
theorem eq_dat (N : News h₀ L s.heap news) (Da : DatIn news va d) (Db : DatIn news vb d) (ok : okD 8 d = true) (hu : A.units + 64 < cLine) (h : Q (.bool true) s) : wpAny (model prg w) A (compareOp .Eq va vb) Q E s := by
  obtain ⟨as, ra⟩ := okD_in N 8 Da ok
  obtain ⟨bs, rb⟩ := okD_in N 8 Db ok
  have l := okD_lay 8 d ok
  have sh : SeqAt.shaped (kqdP d) = true := by unfold SeqAt.shaped; rw [l.1, Bool.true_and]; exact decide_eq_true (Nat.le_trans l.2 (by decide))
  exact eq_dataH ra rb sh sh hu (by rw [PySem.SeqAt.eqv_refl _ l.1]; exact h)
end
theorem strOk_app {a b : Str} (ha : PyData.strOk a = true) (hb : PyData.strOk b = true) : PyData.strOk (a ++ b) = true := by
  unfold PyData.strOk at *
  rw [← Array.all_toList] at *
  rw [app_cps, List.all_append, ha, hb]; rfl
theorem strOk_of (s : String) : PyData.strOk (Str.ofString s) = true := by
  unfold PyData.strOk
  rw [PySem.Str.ofString_eq_toList, ← Array.all_toList]
  show (s.toList.map Char.toNat).all _ = true
  rw [List.all_map, List.all_eq_true]
  intro c _
  have h : c.toNat < 0xd800 ∨ 0xdfff < c.toNat ∧ c.toNat < 0x110000 := c.valid
  exact decide_eq_true (by omega)
theorem strOk_bad : ∀ c < 128, PyData.strOk (reprText ⟨#[c]⟩) = true := by decide +kernel
theorem strOk_err {c : Nat} (hc : c < 128) (ln : Nat) (col : Int) : PyData.strOk (errText (badMsg c) ln col) = true := by
  unfold errText badMsg coordText
  exact strOk_app (strOk_app (strOk_app (strOk_app (by decide +kernel) (strOk_app (strOk_app (by decide +kernel) (strOk_of _)) (strOk_bad c hc))) (strOk_of _)) (strOk_app (strOk_app (strOk_app (strOk_app (by decide +kernel) (strOk_of _)) (strOk_of _)) (strOk_of _)) (strOk_of _))) (strOk_of _)
theorem lead_ok (x : Int) (k : Nat) : PyData.strOk (leadOf x k) = true := by
  unfold leadOf
  split
  · have h := fm4 x
    unfold leadS
    rcases (by omega : (x.fmod 4).toNat = 0 ∨ (x.fmod 4).toNat = 1 ∨ (x.fmod 4).toNat = 2 ∨ (x.fmod 4).toNat = 3) with e | e | e | e <;> rw [e] <;> decide +kernel
  · decide +kernel
theorem due_ok (x : Int) : okD 4 (dueD x) = true := by
  show List.all _ _ = true
  rw [List.all_eq_true]
  intro d hd
  unfold resD resTo at hd
  obtain ⟨k, _, rfl⟩ := List.mem_map.mp hd
  unfold entryD
  simp [okD, lead_ok]
end Mine
end

section
set_option Elab.async false
set_option maxRecDepth 100000
set_option maxHeartbeats 8000000
set_option linter.unusedVariables false
namespace Mine
open PySem PySem.W PyProof.Rows PyProof.Rows.TI PyProof.V PySem.Calls
theorem fillK17 : PySem.Challenge.rw_oh0011_01 = PySem.Challenge.rw_oh0011_01 ∧ K = K := by
  k_with_none
  k_fill
  exact ⟨rfl, rfl⟩
set_option pp.deepTerms false
set_option pp.maxSteps 400
local macro_rules | `(tactic| walk_at "pyIter ref") => `(tactic| k_extra "pyIter ref")
local macro_rules | `(tactic| walk_at "subscriptTail") => `(tactic| k_extra "subscriptTail")
local macro_rules | `(tactic| walk_at "subscriptTail Name BinOp ref int") => `(tactic| k_extra "subscriptTail")
theorem law_D {w : World} {mean : ExcName → Option Value} {mg mb : Str → Option Value} {h₀ : Heap} (B : Base w mean mg mb h₀) (xs : List Int) (fa L' : Addr) (cd : Value) (s : Shared) (Q : Value → Shared → Prop) (m : Str → Option Value) (oT oS oB : Obj) (Dn : Addr) (nvs : List Value) (tb tsr : Tok) (dB : oB.data = .cell (some (.int (badOf xs) tb))) (h80 : @LT.lt Nat _ 80 L')
    (F : Fr h₀ L' s.heap m) (N : News h₀ L' s.heap [(L' + 1 + 1 + 1, oT), (L' + 1 + 1, oS), (L' + 1, oB), (80, tabObj #[]), (Dn, W.listOf nvs.toArray 0)]) (hm : m (Str.ofString "numbers") = some (.ref Dn)) (hm2 : m (Str.ofString "src") = some (.str (srcS xs) tsr)) (hn : IntsAre nvs (nsOf xs))
    (k : ∀ h' tk m' Dd dvs cd' ob tw, Fr h₀ L' h' m' → News h₀ L' h' ((Dd, W.listOf dvs.toArray cd') :: (L' + 1 + 1, oS) :: (L' + 1, oB) :: (80, tabObj #[]) :: (Dn, W.listOf nvs.toArray 0) :: ob) → m' (Str.ofString "numbers") = some (.ref Dn) → m' (Str.ofString "src") = some (.str (srcS xs) tsr) → m' (Str.ofString "due") = some (.ref Dd) → m' (Str.ofString "words") = some (.str (Str.ofString "") tw) → DatAll ob dvs (((nsOf xs).take (badOf xs).toNat).map dueD) → (∀ p ∈ ob, p.1 ≠ 80) → @LT.lt Nat _ L' Dd →
      wpAny (model prg w) (lawTop fa L' cd) (execs ((fnBody 19).drop 6) (lawEnv fa L' cd)) (fun f s' => Q (retV f) s') (fun _ _ => False) { s with heap := h', toks := tk }) :
    wpAny (model prg w) (lawTop fa L' cd) (execs ((fnBody 19).drop 5) (lawEnv fa L' cd)) (fun f s' => Q (retV f) s') (fun _ _ => False) s := by
  k_with_none
  have X := B.k
  have T := B.t
  have hb := bad_range xs
  replace F := fr_pin (fr_pin F hm) (x := Str.ofString "src") (v := .str (srcS xs) tsr) (by exact hm2)
  w_on
  conv in ((fnBody 19).drop 5) => whnf
  conv at k in ((fnBody 19).drop 6) => whnf
  show wpAny _ _ _ _ _ _
  k_fold
  k_with "pyIter ref" => (refine hold ?_)
  k_steps
  have hlen : nvs.length ≤ 7 := by rw [hn.length]; exact ns_len xs
  refine kmk_slice_ints (vl := .none) (vu := .int (badOf xs) tb) (ms := (nsOf xs).take (badOf xs).toNat) F N (News.isList N (by k_mem)) .none (.int _ _) hn (kmk_upto hn hb.1) rfl ?_ (by with_unfolding_all rfl) (by intro _; with_unfolding_all rfl) (Nat.le_trans (by rw [List.size_toArray]; exact hlen) (by decide))
  intro Dk kvs h₁ F₁ N₁ lt₁ hk _ _
  k_steps
  refine unhold ?_
  have hkl : kvs.length ≤ 7 := by rw [hk.length, List.length_take]; have := ns_len xs; omega
  refine src_list (J := fun i ys nws => ∃ ob, nws = [(Dk, W.listOf kvs.toArray 0), (L' + 1 + 1 + 1, oT), (L' + 1 + 1, oS), (L' + 1, oB), (80, tabObj #[]), (Dn, W.listOf nvs.toArray 0)] ++ ob ∧ DatAll ob ys ((((nsOf xs).take (badOf xs).toNat).take i).map dueD) ∧ (∀ p ∈ ob, p.1 ≠ 80)) rfl F₁ N₁ (.head _) (Nat.le_trans hkl (by decide)) (by rfl) (by rfl) ⟨[], rfl, .nil, fun _ h => nomatch h⟩ ?turn ?fin
  case turn =>
    intro i ys nws₁ h tk C oC D m₂ own wr E' s₂ hi hV hJ hoC F₂ N₂ hwr off hCD offw hs
    obtain ⟨v, hv, h1⟩ := hV
    obtain ⟨ob, hnws, hys, hob⟩ := hJ
    obtain ⟨hp, rfl⟩ := hs
    obtain ⟨tx, rfl⟩ := ints_at hk hv
    refine wpAny_tests_nil ((if_pos rfl).mpr ?_)
    k_fold
    k_with "call ref" => (refine hold ?_)
    k_steps
    refine unhold ?_
    refine ld_ct B _ _ _ _ _ _ _ _ _ _ _ _ _ _ _ [] _ _ rfl F₂ (by rw [List.append_nil]; exact N₂) trivial (apart_nil N₂) (by decide) (by decide) ?_
    rintro v h₅ tk₅ news₅ frs₅ SU₅ Fs₅ F₅ N₅ ap₅ ⟨ob', rfl, hgt, hd⟩
    cases frs₅ with
    | cons => exact SU₅.elim
    | nil =>
      rw [List.append_nil] at N₅
      have big : ∀ q ∈ (C, oC) :: (D, LCg.lst ys) :: (nws₁ ++ own), ∀ p ∈ ob', p.1 ≠ q.1 := fun q hq p hp => Nat.ne_of_gt (Nat.lt_trans (Heap.lt_size (N₂ q hq).1) (hgt p hp))
      refine ⟨h₅, tk₅, nws₁ ++ ob', rfl, F₅, fun p hp => N₅ p ?_, fun p hp => ?_, ob ++ ob', by rw [hnws, List.append_assoc], ?_, fun p hp => ?_⟩
      · rcases List.mem_cons.mp hp with rfl | hp
        · exact List.mem_append_right _ (.head _)
        · rcases List.mem_cons.mp hp with rfl | hp
          · exact List.mem_append_right _ (.tail _ (.head _))
          · rcases List.mem_append.mp hp with hp | hp
            · exact List.mem_append_right _ (.tail _ (.tail _ (List.mem_append_right _ hp)))
            · rcases List.mem_append.mp hp with hp | hp
              · exact List.mem_append_right _ (.tail _ (.tail _ (List.mem_append_left _ hp)))
              · exact List.mem_append_left _ hp
      · rcases List.mem_append.mp hp with hp | hp
        · exact ⟨(off p (List.mem_append_right _ hp)).1, (off p (List.mem_append_right _ hp)).2, offw p hp⟩
        · refine ⟨big _ (.head _) p hp, big _ (.tail _ (.head _)) p hp, fun hw => ?_⟩
          obtain ⟨q, hq, e⟩ := List.mem_map.mp (hwr _ hw)
          exact big q (.tail _ (.tail _ (List.mem_append_right _ hq))) p hp e.symm
      · have hil : i < ((nsOf xs).take (badOf xs).toNat).length := by rw [← hk.length]; exact hi
        rw [List.take_succ_eq_append_getElem hil, List.map_append]
        refine (hys.mono fun p hp => List.mem_append_left _ hp).append (.one ?_)
        have e : ((nsOf xs).take (badOf xs).toNat).getD i 0 = ((nsOf xs).take (badOf xs).toNat)[i] := by rw [List.getD_eq_getElem?_getD, List.getElem?_eq_getElem hil]; rfl
        rw [e] at hd
        exact hd.mono fun p hp => List.mem_append_right _ hp
      · rcases List.mem_append.mp hp with hp | hp
        · exact hob p hp
        · exact big (80, tabObj #[]) (.tail _ (.tail _ (List.mem_append_left _ (by rw [hnws]; simp)))) p hp
  case fin =>
    rintro ys nws' s₂ ⟨_, rfl⟩ ⟨ob, rfl, hys, hob⟩ D h tk F₃ N₃ off hLD
    simp only [List.cons_append, List.nil_append] at N₃
    rw [hk.length, List.take_of_length_le (Nat.le_refl _)] at hys
    k_with_none
    k_with "execs cons" => (refine hold ?_)
    k_steps
    rename Fr _ _ _ _ => F'
    rename News _ _ _ _ => N'
    refine unhold ?_
    refine k _ _ _ D ys ys.length ob _ F' (fun p hp => N' p ?perm) rfl rfl rfl rfl hys hob hLD
    simp only [List.mem_cons] at hp ⊢
    rcases hp with h | h | h | h | h | h <;> simp only [h, LCg.lst, true_or, or_true]
end Mine
end

section
set_option Elab.async false
set_option maxRecDepth 100000
set_option linter.unusedVariables false
namespace Mine
open PySem PySem.W PyProof.Rows PyProof.Rows.TI PyProof.V PySem.Calls
theorem wd_wlen : ∀ k < 32, ((wd k).length : Int) = wlen k := by decide +kernel
theorem rest_wlen : ∀ r : Nat, r < 32 → ((hexS (((r : Int) - 16) * 2 ^ 32)).length : Int) = (if (r : Int) - 16 < 0 then 3 else 2) + (if (r : Int) - 16 = 0 then 1 else if -16 < (r : Int) - 16 ∧ (r : Int) - 16 < 16 then 9 else 10) := by decide +kernel
theorem sum_len : ∀ l : List Nat, (∀ k ∈ l, k < 32) → ((((l.map wd).map (·.length)).sum : Nat) : Int) = (l.map wlen).sum
  | [], _ => rfl
  | k :: l, h => by
    have ih := sum_len l fun j hj => h j (.tail _ hj)
    have := wd_wlen k (h k (.head _))
    simp only [List.map_cons, List.sum_cons]
    omega
theorem wide_len {f : Int} (h1 : -2 ^ 36 < f) (h2 : f < 2 ^ 36) : ((Txt.join (Str.ofString ", ") (words f)).length : Int) = wideN f := by
  have hr := rest_range h1 h2
  have hF : restF f = f / 2 ^ 32 := by unfold restF; rw [show Int.toNat 32 = 32 from rfl, Int.fdiv_eq_ediv_of_nonneg _ (by decide)]
  have hs : ((((words f).map (·.length)).sum : Nat) : Int) = (wides f).sum ∧ (words f).length = (wides f).length := by
    unfold words wides wordsTo wlist
    have hl : ∀ k ∈ (List.range 32).filter (bit f), k < 32 := fun k hk => List.mem_range.mp (List.mem_filter.mp hk).1
    have a := sum_len _ hl
    have hc : (cur f 32 ≠ 0 ∨ f = 0) ↔ (restF f ≠ 0 ∨ f = 0) := by
      rw [hF]; unfold cur
      constructor
      · rintro (h | h)
        · exact .inl fun z => h (by rw [z]; rfl)
        · exact .inr h
      · rintro (h | h)
        · exact .inl (by omega)
        · exact .inr h
    by_cases c : cur f 32 ≠ 0 ∨ f = 0
    · rw [if_pos c, if_pos (hc.mp c), List.map_append, List.sum_append, List.sum_append, List.length_append, List.length_append]
      refine ⟨?_, by simp⟩
      have e : cur f 32 = ((((f / 2 ^ 32 + 16).toNat : Nat) : Int) - 16) * 2 ^ 32 := by
        unfold cur
        congr 1
        omega
      have b := rest_wlen (f / 2 ^ 32 + 16).toNat (by omega)
      rw [← e] at b
      have e2 : (((f / 2 ^ 32 + 16).toNat : Nat) : Int) - 16 = restF f := by rw [hF]; omega
      rw [e2] at b
      have b' : ((hexS (cur f 32)).length : Int) = tailLen f := b
      simp only [List.map_cons, List.map_nil, List.sum_cons, List.sum_nil]
      push_cast
      omega
    · rw [if_neg c, if_neg fun z => c (hc.mpr z), List.append_nil, List.append_nil]
      exact ⟨a, by simp⟩
  show ((Builtin.Str.glued (Str.ofString ", ") (words f)).length : Int) = _
  rw [StrLaws.glued_eq_join]
  unfold wideN
  rw [← hs.1, ← hs.2]
  cases hw : words f with
  | nil => exact absurd (by rw [← items_words] at hw; exact List.map_eq_nil_iff.mp hw) (items_ne f)
  | cons x r =>
    rw [len_join_cons, show (Str.ofString ", ").length = 2 from by decide]
    simp only [List.length_cons]
    push_cast
    omega
theorem lead_col (x : Int) : ((leadS x).length : Int) = [0, 1, 1, 2].getD (x.fmod 4).toNat 0 := by
  have h := fm4 x
  unfold leadS
  rcases (by omega : (x.fmod 4).toNat = 0 ∨ (x.fmod 4).toNat = 1 ∨ (x.fmod 4).toNat = 2 ∨ (x.fmod 4).toNat = 3) with e | e | e | e <;> rw [e] <;> decide
/-- the column of the law -/
noncomputable def colOf (x : Int) : Int := [0, 1, 1, 2].getD (x.fmod 4).toNat 0 + wideN (lf x) + 7
theorem col_eq (x : Int) : ((headS x).cps.toList.length : Int) + 7 = colOf x := by
  rw [← len_cps]
  unfold headS colOf
  rw [Str.length_append, ← lead_col, ← wide_len (lf_range x).1 (lf_range x).2]
  push_cast
  rfl
end Mine
end

section
set_option Elab.async false
set_option maxRecDepth 100000
set_option maxHeartbeats 8000000
set_option linter.unusedVariables false
namespace Mine
open PySem PySem.W PyProof.Rows PyProof.Rows.TI PyProof.V PySem.Calls
theorem fillK18 : PySem.Challenge.rw_oh0011_01 = PySem.Challenge.rw_oh0011_01 ∧ K = K := by
  k_with_none
  k_fill
  exact ⟨rfl, rfl⟩
set_option pp.deepTerms false
set_option pp.maxSteps 400
local macro_rules | `(tactic| walk_at "execs cons Return nil") => `(tactic| k_extra "execs cons Return nil")
local macro_rules | `(tactic| walk_at "subscriptTail") => `(tactic| k_extra "subscriptTail")
local macro_rules | `(tactic| walk_at "subscriptTail Name BinOp ref int") => `(tactic| k_extra "subscriptTail")
local macro_rules | `(tactic| walk_at "binaryOp Add str str") => `(tactic| k_extra "binaryOp Add str str")
local macro_rules | `(tactic| walk_at "call builtin:repr") => `(tactic| k_extra "call builtin:repr")
local macro_rules | `(tactic| walk_at "call type:str") => `(tactic| k_extra "call type:str")
section
variable {w : World} {A : Around} {E : Value → Shared → Prop} {s : Shared} {Q : Value → Shared → Prop}
theorem repr_sg {d : Nat} {u : Tok} (hl : illegal d = true) (h : ∀ y t k, y.length ≤ 8 → y = reprText ⟨#[d]⟩ → Q (.str y t) { s with toks := k }) : wpAny (model prg w) A (call (.builtin "repr") [.str ⟨#[d]⟩ u]) Q E s :=
  P.repr_of_str (h _ _ _ (rep_len hl) rfl) (Nat.le_trans (rep_len hl) (by decide))
theorem str_gen {a : Int} {u : Tok} (h0 : 0 ≤ a) (h1 : a < 2 ^ 40) (h : ∀ y t k, y.length ≤ 20 → y = Str.ofString (toString a) → Q (.str y t) { s with toks := k }) : wpAny (model prg w) A (call (.type "str") [.int a u]) Q E s :=
  P.str_of_int (log2_small (by omega)) (h _ _ _ (toString_length_le h0 (k := 20) (by decide) (by omega)) rfl)
end
theorem str_ext {a b : Str} (h : a.cps.toList = b.cps.toList) : a = b := by
  obtain ⟨⟨x⟩⟩ := a
  obtain ⟨⟨y⟩⟩ := b
  cases h
  rfl
theorem msg_eq (R T1 T2 : Str) : Str.ofString "Found invalid character " ++ R ++ Str.ofString " (at line " ++ T1 ++ Str.ofString ", column " ++ T2 ++ Str.ofString ")" =
    Str.empty ++ (Str.empty ++ Str.ofString "Found invalid character " ++ R) ++ Str.ofString " (at " ++ (Str.empty ++ Str.ofString "line " ++ T1 ++ Str.ofString ", column " ++ T2) ++ Str.ofString ")" := by
  refine str_ext ?_
  have e : (Str.ofString " (at line ").cps.toList = (Str.ofString " (at ").cps.toList ++ (Str.ofString "line ").cps.toList := by decide +kernel
  have e0 : Str.empty.cps.toList = [] := rfl
  simp only [app_cps, e, e0, List.nil_append, List.append_assoc]
theorem due_ok6 (x : Int) : okD 6 (dueD x) = true := by
  show List.all _ _ = true
  rw [List.all_eq_true]
  intro d hd
  unfold resD resTo at hd
  obtain ⟨k, _, rfl⟩ := List.mem_map.mp hd
  unfold entryD
  simp [okD, lead_ok]
theorem all_ok (l : List Int) {W : Str} (h : PyData.strOk W = true) : okD 8 (.list [.list (l.map dueD), .str W]) = true := by
  have : (l.map dueD).all (okD 6) = true := List.all_eq_true.mpr fun d hd => by
    obtain ⟨x, _, rfl⟩ := List.mem_map.mp hd
    exact due_ok6 x
  show (okD 7 (.list (l.map dueD)) && (okD 7 (.str W) && true)) = true
  show ((l.map dueD).all (okD 6) && (PyData.strOk W && true)) = true
  rw [this, h]; rfl
theorem col_range (x : Int) : 0 ≤ colOf x ∧ colOf x < 2 ^ 40 := by
  have h := col_eq x
  have h2 := head_len x
  rw [len_cps] at h2
  omega
theorem law_F {w : World} {mean : ExcName → Option Value} {mg mb : Str → Option Value} {h₀ : Heap} (B : Base w mean mg mb h₀) (xs : List Int) (fa L' : Addr) (cd : Value) (s : Shared) (Q : Value → Shared → Prop) (m : Str → Option Value) (Dd : Addr) (dvs : List Value) (cdv : Nat) (rest ob : List (Addr × Obj)) (tsr tw : Tok) (Wt : Str) (total : List Dat)
    (F : Fr h₀ L' s.heap m) (N : News h₀ L' s.heap ((80, tabObj #[]) :: rest)) (hsr : m (Str.ofString "src") = some (.str (srcS xs) tsr)) (hdu : m (Str.ofString "due") = some (.ref Dd)) (hwo : m (Str.ofString "words") = some (.str Wt tw)) (hmd : (Dd, W.listOf dvs.toArray cdv) ∈ rest) (hob : ∀ p ∈ ob, p ∈ rest) (hda : DatAll ob dvs total) (ok : okD 8 (.list [.list total, .str Wt]) = true)
    (hT : Spec w h₀ 123 [.str (srcS xs) tsr] [] 10 160 ((80, tabObj #[]) :: rest) (fun v news' => ∃ ps ob, news' = (80, tabObj ps) :: (ob ++ rest) ∧ DatIn ob v (.list [.list total, .str Wt])))
    (hQ : ∀ h' tk ps m', Fr h₀ L' h' m' → h'.get? 80 = some (tabObj ps) → Q (.bool true) { s with heap := h', toks := tk }) :
    wpAny (model prg w) (lawTop fa L' cd) (execs ((fnBody 19).drop 7) (lawEnv fa L' cd)) (fun f s' => Q (retV f) s') (fun _ _ => False) s := by
  k_with_none
  have X := B.k
  have T := B.t
  replace F := fr_pin (fr_pin (fr_pin F hsr) (x := Str.ofString "due") (v := .ref Dd) (by exact hdu)) (x := Str.ofString "words") (v := .str Wt tw) (by exact hwo)
  w_on
  conv in ((fnBody 19).drop 7) => whnf
  show wpAny _ _ _ _ _ _
  k_fold
  k_with "call ref" => (refine hold ?_)
  k_steps
  refine unhold ?_
  refine hT _ _ _ _ _ _ _ _ _ _ _ _ [] _ _ rfl F (by rw [List.append_nil]; exact N) trivial (apart_nil N) (by decide) (by decide) ?_
  rintro v h₅ tk₅ news₅ frs₅ SU₅ Fs₅ F₅ N₅ ap₅ ⟨ps, ob', rfl, hd⟩
  cases frs₅ with
  | cons => exact SU₅.elim
  | nil =>
    rw [List.append_nil] at N₅
    clear N F
    k_steps
    rename Fr _ _ _ _ => F₆
    rename News _ _ _ _ => N₆
    refine eq_dat N₆ (hd.mono fun p hp => .tail _ (.tail _ (List.mem_append_left _ hp))) (.list (.head _) (.cons (.list (.tail _ (.tail _ (List.mem_append_right _ hmd))) (hda.mono fun p hp => .tail _ (.tail _ (List.mem_append_right _ (hob p hp))))) (.cons (.str _ _) .nil))) ok (by show (7 : Nat) + 64 < cLine; decide) ?_
    exact hQ _ _ ps _ F₆ (N₆ _ (.tail _ (.head _))).1
theorem law_E {w : World} {mean : ExcName → Option Value} {mg mb : Str → Option Value} {h₀ : Heap} (B : Base w mean mg mb h₀) (C : CodeHd h₀ 84 80) (xs : List Int) (fa L' : Addr) (cd : Value) (s : Shared) (Q : Value → Shared → Prop) (m : Str → Option Value) (oS oB : Obj) (Dn Dd : Addr) (nvs dvs : List Value) (cdv : Nat) (ob : List (Addr × Obj)) (tb ts tsr tw : Tok)
    (dS : oS.data = .cell (some (.str ⟨#[(sgOf xs).toNat]⟩ ts))) (dB : oB.data = .cell (some (.int (badOf xs) tb))) (h80 : @LT.lt Nat _ 80 L') (hDn : @LT.lt Nat _ (L' + 1 + 1 + 1) Dn) (hDd : @LT.lt Nat _ L' Dd)
    (F : Fr h₀ L' s.heap m) (N : News h₀ L' s.heap ((Dd, W.listOf dvs.toArray cdv) :: (L' + 1 + 1, oS) :: (L' + 1, oB) :: (80, tabObj #[]) :: (Dn, W.listOf nvs.toArray 0) :: ob)) (hm : m (Str.ofString "numbers") = some (.ref Dn)) (hsr : m (Str.ofString "src") = some (.str (srcS xs) tsr)) (hdu : m (Str.ofString "due") = some (.ref Dd)) (hwo : m (Str.ofString "words") = some (.str (Str.ofString "") tw)) (hn : IntsAre nvs (nsOf xs))
    (hda : DatAll ob dvs (((nsOf xs).take (badOf xs).toNat).map dueD)) (hob : ∀ p ∈ ob, p.1 ≠ 80)
    (hQ : ∀ h' tk ps m', Fr h₀ L' h' m' → h'.get? 80 = some (tabObj ps) → Q (.bool true) { s with heap := h', toks := tk }) :
    wpAny (model prg w) (lawTop fa L' cd) (execs ((fnBody 19).drop 6) (lawEnv fa L' cd)) (fun f s' => Q (retV f) s') (fun _ _ => False) s := by
  k_with_none
  have X := B.k
  have T := B.t
  have hb := bad_range xs
  have hnl := hn.length
  have hn7 := ns_len xs
  replace F := fr_pin (fr_pin (fr_pin (fr_pin F hm) (x := Str.ofString "src") (v := .str (srcS xs) tsr) (by exact hsr)) (x := Str.ofString "due") (v := .ref Dd) (by exact hdu)) (x := Str.ofString "words") (v := .str (Str.ofString "") tw) (by exact hwo)
  w_on
  conv in ((fnBody 19).drop 6) => whnf
  show wpAny _ _ _ _ _ _
  k_fold
  k_with "call ref" => (refine hold ?_)
  k_with "call builtin:len" => (refine Calls.call_len_list (News.isList (by assumption) (by k_mem)) (by simp only [Array.size_push, List.size_toArray]; omega) ?_)
  k_with "subscriptTail" => (refine PyProof.Rows.item_list_intsR (News.isList (by assumption) (by k_mem)) hn (by omega) (by omega) (by omega) ?_; intro _)
  k_with "execs cons Return nil" => (refine hold ?_)
  have hrest : ∀ p ∈ (Dd, W.listOf dvs.toArray cdv) :: (L' + 1 + 1, oS) :: (L' + 1, oB) :: (Dn, W.listOf nvs.toArray 0) :: ob, p.1 ≠ 80 := fun p hp => by
    rcases List.mem_cons.mp hp with rfl | hp
    · exact Nat.ne_of_gt (Nat.lt_trans h80 hDd)
    · rcases List.mem_cons.mp hp with rfl | hp
      · exact Nat.ne_of_gt (Nat.lt_trans h80 (lt2 L'))
      · rcases List.mem_cons.mp hp with rfl | hp
        · exact Nat.ne_of_gt (Nat.lt_trans h80 (Nat.lt_succ_self L'))
        · rcases List.mem_cons.mp hp with rfl | hp
          · exact Nat.ne_of_gt (Nat.lt_trans h80 (Nat.lt_trans (lt3 L') hDn))
          · exact hob p hp
  obtain ⟨r, hR, hr1, hr2⟩ := reads_src xs
  obtain ⟨sg1, sg2, sg3, sg4⟩ := sg_ok xs
  k_steps
  · have hlt : badOf xs < (nsOf xs).length := by assumption
    obtain ⟨p, y, hy, rfl, hco⟩ := hr2 (by omega)
    have hyd : (nsOf xs).getD (badOf xs).toNat 0 = y := by rw [List.getD_eq_getElem?_getD, hy]; rfl
    rw [hyd]
    have hcr := col_range y
    rw [col_eq y] at hco
    rename Fr _ _ _ _ => F'
    rename News _ _ _ _ => N'
    refine unhold ?_
    refine lf_ct B _ _ _ _ _ _ _ _ _ _ _ _ _ _ _ [] _ _ rfl F' (by rw [List.append_nil]; exact N') trivial (apart_nil N') (by decide) (by decide) ?_
    rintro v h₅ tk₅ news₅ frs₅ SU₅ Fs₅ F₅ N₅ ap₅ ⟨rfl, t, rfl⟩
    cases frs₅ with
    | cons => exact SU₅.elim
    | nil =>
      rw [List.append_nil] at N₅
      k_steps
      refine unhold ?_
      refine lw_ct B _ _ _ (lf_range y).1 (lf_range y).2 _ _ _ _ _ _ _ _ _ _ _ _ [] _ _ rfl F₅ (by rw [List.append_nil]; exact N₅) trivial (apart_nil N₅) (by decide) (by decide) ?_
      rintro v h₆ tk₆ news₆ frs₆ SU₆ Fs₆ F₆ N₆ ap₆ ⟨rfl, t₆, rfl⟩
      cases frs₆ with
      | cons => exact SU₆.elim
      | nil =>
        rw [List.append_nil] at N₆
        clear N₅ F₅ N' F'
        have hcr' := hcr
        unfold colOf at hcr'
        have c1 : (Str.ofString "Found invalid character ").length = 24 := by decide
        have c2 : (Str.ofString " (at line ").length = 10 := by decide
        have c3 : (Str.ofString ", column ").length = 9 := by decide
        have c4 : (Str.ofString ")").length = 1 := by decide
        k_with "call builtin:repr" => (refine repr_sg sg3 ?_; intro _ _ _ _ _)
        k_with "call type:str" => (refine str_gen (by omega) (by omega) ?_; intro _ _ _ _ _)
        k_with "binaryOp Add str str" => (refine PyProof.Rows.add_str (fun _ _ => ?_) (by simp only [Str.length_append, c1, c2, c3, c4]; refine Nat.le_trans (?_ : _ ≤ 200) (by decide); omega))
        k_steps
        rename _ = reprText _ => e1
        rename _ = Str.ofString (toString (badOf xs + 1)) => e2
        rename _ = Str.ofString (toString (_ + 7)) => e3
        rename Fr _ _ _ _ => F'
        rename News _ _ _ _ => N'
        subst e1 e2 e3
        have eb : (((badOf xs).toNat : Nat) : Int) = badOf xs := by omega
        have hW := msg_eq (reprText ⟨#[(sgOf xs).toNat]⟩) (Str.ofString (toString (badOf xs + 1))) (Str.ofString (toString (colOf y)))
        rw [show Str.empty ++ (Str.empty ++ Str.ofString "Found invalid character " ++ reprText ⟨#[(sgOf xs).toNat]⟩) ++ Str.ofString " (at " ++ (Str.empty ++ Str.ofString "line " ++ Str.ofString (toString (badOf xs + 1)) ++ Str.ofString ", column " ++ Str.ofString (toString (colOf y))) ++ Str.ofString ")" = errText (badMsg (sgOf xs).toNat) (badOf xs).toNat (colOf y) from by unfold errText badMsg coordText; rw [eb]] at hW
        unfold colOf at hW
        rw [hW] at F'
        refine unhold ?_
        show wpAny (model prg w) (lawTop fa L' cd) (execs ((fnBody 19).drop 7) (lawEnv fa L' cd)) (fun f s' => Q (retV f) s') (fun _ _ => False) _
        refine law_F B xs fa L' cd _ Q _ Dd dvs cdv ((Dd, W.listOf dvs.toArray cdv) :: (L' + 1 + 1, oS) :: (L' + 1, oB) :: (Dn, W.listOf nvs.toArray 0) :: ob) ob tsr _ _ _ F' (fun p hp => N' p ?perm) rfl rfl rfl (.head _) (fun p hp => .tail _ (.tail _ (.tail _ (.tail _ hp)))) hda (all_ok _ (strOk_err (by omega : (sgOf xs).toNat < 128) (badOf xs).toNat (colOf y))) (lt_rt B C (srcS xs) tsr _ hrest (src_len xs) _ p (sgOf xs).toNat hR (badOf xs).toNat (colOf y) hco hcr (by omega)) (fun h' tk ps m' f g => hQ h' tk ps m' f g)
        simp only [List.mem_cons] at hp ⊢
        rcases hp with h | h | h | h | h | h <;> simp only [h, true_or, or_true]
  · have hge : ¬ badOf xs < (nsOf xs).length := by assumption
    have hr := hr1 (by omega)
    subst hr
    refine unhold ?_
    show wpAny (model prg w) (lawTop fa L' cd) (execs ((fnBody 19).drop 7) (lawEnv fa L' cd)) (fun f s' => Q (retV f) s') (fun _ _ => False) _
    refine law_F B xs fa L' cd _ Q _ Dd dvs cdv ((Dd, W.listOf dvs.toArray cdv) :: (L' + 1 + 1, oS) :: (L' + 1, oB) :: (Dn, W.listOf nvs.toArray 0) :: ob) ob tsr tw (Str.ofString "") _ F (fun p hp => N p ?perm2) rfl rfl rfl (.head _) (fun p hp => .tail _ (.tail _ (.tail _ (.tail _ hp)))) hda (all_ok _ (by decide +kernel)) (lt_ct B C (srcS xs) tsr _ hrest (src_len xs) _ hR) (fun h' tk ps m' f g => hQ h' tk ps m' f g)
    simp only [List.mem_cons] at hp ⊢
    rcases hp with h | h | h | h | h | h <;> simp only [h, true_or, or_true]
theorem law_walk {w : World} {mean : ExcName → Option Value} {mg mb : Str → Option Value} {h₀ : Heap} (B : Base w mean mg mb h₀) (C : CodeHd h₀ 84 80) (xs : List Int) (vals : List Value) (hI : IntsAre vals xs) (sc : Addr) (hL : h₀.IsList sc vals.toArray) (hlen : xs.length ≤ 63)
    (fa L' : Addr) (cd : Value) (s : Shared) (Q : Value → Shared → Prop) (oT oS oB : Obj) (dT : oT.data = .cell none) (dS : oS.data = .cell none) (dB : oB.data = .cell none) (h80 : @LT.lt Nat _ 80 L')
    (F : Fr h₀ L' s.heap (fun y => if y = Str.ofString "script" then some (.ref sc) else none)) (N : News h₀ L' s.heap [(L' + 1 + 1 + 1, oT), (L' + 1 + 1, oS), (L' + 1, oB), (80, tabObj #[])])
    (hQ : ∀ h' tk ps m', Fr h₀ L' h' m' → h'.get? 80 = some (tabObj ps) → Q (.bool true) { s with heap := h', toks := tk }) :
    wpAny (model prg w) (lawTop fa L' cd) (execs (fnBody 19) (lawEnv fa L' cd)) (fun f s' => Q (retV f) s') (fun _ _ => False) s := by
  refine law_A B xs vals hI sc hL hlen fa L' cd s Q oT oS oB dT dS dB h80 F N ?_
  intro h1 tk1 m1 Dn nvs tb ts oS' oB' F1 N1 hDn hm1 hn dS' dB'
  refine law_B B xs fa L' cd { s with heap := h1, toks := tk1 } Q m1 oT oS' oB' Dn nvs tb ts dT dS' dB' h80 F1 N1 hDn hm1 hn ?_
  intro h2 tk2 m2 De evs ce oT' F2 N2 hm2 hm2e he
  refine law_C B xs fa L' cd { s with heap := h2, toks := tk2 } Q m2 oT' oS' oB' Dn De nvs evs ce h80 F2 N2 hm2 hm2e hn he ?_
  intro h3 tk3 m3 tsr F3 N3 hm3 hm3s
  refine law_D B xs fa L' cd { s with heap := h3, toks := tk3 } Q m3 oT' oS' oB' Dn nvs tb tsr dB' h80 F3 N3 hm3 hm3s hn ?_
  intro h4 tk4 m4 Dd dvs cdv ob tw F4 N4 hm4 hm4s hm4d hm4w hda hob hDd
  exact law_E B C xs fa L' cd { s with heap := h4, toks := tk4 } Q m4 oS' oB' Dn Dd nvs dvs cdv ob tb ts tsr tw dS' dB' h80 hDn hDd F4 N4 hm4 hm4s hm4d hm4w hn hda hob (fun h' tk ps m' f g => hQ h' tk ps m' f g)
end Mine
end

end

section
set_option Elab.async false
set_option maxRecDepth 100000
set_option linter.unusedVariables false
namespace Mine
open PySem PySem.W PyProof.Rows PySem.Calls
/-- the call's end: a code's table may have grown; no generator is left -/
noncomputable def GoodT (c : ClaimW) (cl : Str → Option Addr) (mean : ExcName → Option Value) (args : List WData) (s₁ : Shared) (res : Result) (s' : Shared) : Prop :=
  GoodWG c cl mean args s₁ res s' ∧ s'.gens = #[]
theorem GoodT.ends {c : ClaimW} {s₀ s₁ s' : Shared} {args : List WData} {vs : List Value} {as : List Addr} {r : Result} (same : c.same = none) (within : c.within = []) (ident : ∀ a b, c.ident a b = true)
    (reads : ReadsAllW c.records (classAt s₀.heap) s₁.heap vs args as) (old : ∀ a ∈ as, ∃ o, s₁.heap.get? a = some o) (os : s₁.os = s₀.os)
    (g : GoodT c (classAt s₀.heap) (ExcName.means s₀.heap) args { s₁ with gens := #[] } r s') : c.Ends s₀ args vs s₁ r s' ∧ s'.os = s₀.os ∧ s'.gens = #[] := by
  obtain ⟨⟨two, grown, os', _⟩, gens⟩ := g
  refine ⟨?_, os'.trans os, gens⟩
  rcases two with ⟨v, d, bs, rfl, nr, rd, post, un⟩ | ⟨e, ob, cls, rfl, he, hc, pr, new⟩
  · refine .inl ⟨v, rfl, nr, ⟨d, args, bs, as, rd, reads.keepsK fun b o e hc => grown.get_of_cls e hc, post, fun hu => ⟨(un hu).1, (un hu).2, fun a ha hb => ?_⟩, fun _ _ => ident _ _⟩, (fun i hi => by rw [same] at hi; cases hi), (fun b o hb _ _ => grown.old b o hb), fun i hi => by rw [within] at hi; cases hi⟩
    obtain ⟨o, ho⟩ := old a hb
    have := (un hu).2 a ha
    rw [show s₁.heap.get? a = none from this] at ho; cases ho
  · exact .inr ⟨e, ob, cls, rfl, he, hc, pr, new, fun b o hb => grown.old b o hb⟩
/-- as WalkN, to a GoodT -/
noncomputable abbrev WalkT (q : Program) (loose : List Str) (XP : (Str → Option Value) → Heap → Prop) (YP : World → Heap → Prop) (r : RowW) (d : DefRec) (kwd : List (Str × Expr)) : Prop :=
  ∀ (w : World) (s₀ s₁ : Shared) (mg mb : Str → Option Value), Ground q loose r.records XP w s₀ mg mb s₁.heap → YP w s₁.heap → ∀ (a : Addr) (o : Obj) (pm cd doc dV kV : Value), s₁.heap.get? a = some o →
    o.data = .func { docDef d.name d.params d.body d.scope pm cd doc with defaults := dV, kwdefaults := kV } → s₁.heap.CodeRec cd d.name → Dflts mg s₁.heap d.params kwd dV kV → mg d.name = some (.ref a) → s₁.gens = #[] →
    ∀ (args : List WData) (vals : List Value) (as : List Addr), r.claim.pre args = true → WData.layableAll args = true → ReadsAllW r.records (classAt s₀.heap) s₁.heap vals args as → WellAll w.params s₁.heap vals args → (∀ a ∈ as, (a == sysModules) = false) →
      wpAny (model r.prog w) callerA (PySem.call (.ref a) vals) (fun v s' => GoodT r.claim (classAt s₀.heap) (ExcName.means s₀.heap) args s₁ (.ok (.ret v)) s')
        (fun e s' => GoodT r.claim (classAt s₀.heap) (ExcName.means s₀.heap) args s₁ (.error e) s') s₁
theorem open_T {r : RowW} {tree : List Value → Sem Fin} {q : Program} {loose defs kps : List Str} {writes : Bool} {Xt : Shared → Bool} {XP : (Str → Option Value) → Heap → Prop} {α : Type} {Yf : Shared → α} {Ya : World → α} {YP : World → Heap → Prop} {N : Nat}
    (left : LeftO r.prog q loose Xt Yf Ya N false) (hY : ∀ w s, Yf s = Ya w → YP w s.heap) (hYk : ∀ w h h', YP w h → (∀ b o, h.get? b = some o → h'.get? b = some o) → YP w h') (hX : ∀ s, Xt s = true → XP (s.heap.nsMap mainGlobals) s.heap) (hXk : ∀ mg h h', XP mg h → (∀ b o, h.get? b = some o → h'.get? b = some o) → XP mg h')
    (hRf : ∀ s, Xt s = true → RecFacts r.records s.heap) (hwr : (!writes || r.records.isEmpty) = true) (ok : (chainsOk q && opensWell r.prog && (frees r && r.within.isEmpty)) = true) (hb : r.prog.bare) (hw : r.promised)
    (ht : ∀ vs (w : World) (s : Shared) mg f (Q : Fin → Shared → Prop) (E : Value → Shared → Prop), s.heap.Ns mainGlobals mg → mg r.name = some f → wpAny (model r.prog w) callerA (PySem.call f vs) (fun v s' => Q (.done (.ret v)) s') E s → wpAny (model r.prog w) callerA (tree vs) Q E s)
    (pin : ∀ w s, s.heap.isNs mainGlobals = true → Ground q loose [] XP w s (s.heap.nsMap mainGlobals) (s.heap.nsMap builtinsNs) s.heap → ∀ n ∈ defs, isTheDefsW r.prog s.heap n)
    (run : ∀ (w : World) (s₀ s₁ : Shared) (mg mb : Str → Option Value), Ground q loose r.records XP w s₀ mg mb s₁.heap → YP w s₁.heap → ∀ (args : List WData) (vs : List Value) (as : List Addr),
      r.claim.pre args = true → WData.layableAll args = true → s₁.gens = #[] → ReadsAllW r.records (classAt s₀.heap) s₁.heap vs args as → WellAll w.params s₁.heap vs args → (∀ a ∈ as, (a == sysModules) = false) → ∃ f, mg r.name = some f ∧
        wpAny (model r.prog w) callerA (PySem.call f vs) (fun v s' => GoodT r.claim (classAt s₀.heap) (ExcName.means s₀.heap) args s₁ (.ok (.ret v)) s')
          (fun e s' => GoodT r.claim (classAt s₀.heap) (ExcName.means s₀.heap) args s₁ (.error e) s') s₁) : r.claim.HoldsOpenBy (fun vs => ⟨tree vs, .builtin "claim.caller" {}, default, []⟩) defs kps writes := by
  obtain ⟨ok₁, k5⟩ := Bool.and_eq_true_iff.mp ok
  obtain ⟨hch, o1⟩ := Bool.and_eq_true_iff.mp ok₁
  obtain ⟨k5, k6⟩ := Bool.and_eq_true_iff.mp k5
  obtain ⟨same, hu, ha, hap, hm⟩ := frees_parts k5
  have within : r.claim.within = [] := List.isEmpty_iff.mp k6
  have ident := ident_freeW hu ha hap
  refine ⟨⟨hb, o1, by show r.makers.map _ = []; rw [hm]; rfl⟩, hw.witness, fun w => ⟨(left.behind hX hch w).1, fun s' hs' => ?_⟩⟩
  obtain ⟨s₀, hf, hg0, s, hT, hz, hgens, hg, GX, y⟩ := (left.behind (XP := fun mg h => XP mg h ∧ RecFacts r.records h) (fun s hs => ⟨hX s hs, hRf s hs⟩) hch w).2 s' hs'
  have G0 : Ground q loose [] XP w s (s.heap.nsMap mainGlobals) (s.heap.nsMap builtinsNs) s.heap := ⟨GX.T, GX.B, GX.D, GX.TE, GX.TD, GX.W, GX.X.1, GX.cls, GX.has, GX.apart, GX.once, GX.K⟩
  have RF := GX.X.2
  have hT' := hT
  have G : Ground q loose r.records XP w s _ _ s.heap := RF.ground G0
  refine ⟨s₀, hf, hg0, s, hT, pin w s hg G0, RF.1, RF.2.1, ClaimW.callFrom_of_specN (c := r.claim) hz (by simpa using hgens) fun args hpre hlay ord hord => ?_⟩
  obtain ⟨⟨vs, s₁⟩, laid⟩ := Option.isSome_iff_exists.mp (layAllW_isSome (P := w.params) (ord := ord) G.has args r.args s (pre_splitW hpre).1)
  have keeps := layAllW_keeps _ _ _ laid
  have alike := layAllW_rest _ _ _ laid
  obtain ⟨as, hrd, hin, hold⟩ := reads_layAllW hord _ _ _ laid hlay s₁.heap (fun _ _ e => e)
  obtain ⟨f, hf, h⟩ := run w s { s₁ with gens := #[] } _ _ (G.keeps hXk keeps) (hYk _ _ _ (hY w s y) keeps) args vs as hpre hlay rfl hrd (well_layAllW hord args s _ laid _ fun _ _ e => e)
    (fun a ha => beq_eq_false_iff_ne.mpr fun e => by have := (hin.2.2 a ha).1; subst e; exact absurd G.low (Nat.not_lt.mpr this))
  have fin : ∀ res s', GoodT r.claim (classAt s.heap) (ExcName.means s.heap) args { s₁ with gens := #[] } res s' → r.claim.Ends s args vs s₁ res s' ∧ s'.os = s.os ∧ s'.gens = #[] ∧ (writes = true → namesKept r.prog kps s.heap s'.heap ∧ ∀ x ∈ r.records, ∀ a, classAt s.heap x.1 = some a → recordClass s'.heap a x.1 (x.2.map (·.1)) = true) := fun res s' g => by
    have z := g.ends (c := r.claim) same within ident hrd hold alike.2.2.1
    exact ⟨z.1, z.2.1, z.2.2, fun q => ⟨namesKept_of hT' hg kps keeps g.1.2.1.old, noTable hwr q⟩⟩
  exact ⟨vs, s₁, laid, ht vs w { s₁ with gens := #[] } _ f _ _ (G.keeps hXk keeps).T.g hf (wpAny_mono h (fun v s' g => ⟨_, rfl, fin _ _ g⟩) fun e s' g => fin _ _ g)⟩
theorem holds_T {r : OpenRow} {q : Program} {loose : List Str} {Xt : Shared → Bool} {XP : (Str → Option Value) → Heap → Prop} {α : Type} {Yf : Shared → α} {Ya : World → α} {YP : World → Heap → Prop} {d : DefRec} {kwd : List (Str × Expr)} {N : Nat}
    (left : LeftO r.prog q loose Xt Yf Ya N false) (hY : ∀ w s, Yf s = Ya w → YP w s.heap) (hYk : ∀ w h h', YP w h → (∀ b o, h.get? b = some o → h'.get? b = some o) → YP w h')
    (hX : ∀ s, Xt s = true → XP (s.heap.nsMap mainGlobals) s.heap) (hXk : ∀ mg h h', XP mg h → (∀ b o, h.get? b = some o → h'.get? b = some o) → XP mg h')
    (hdef : defOf q r.name = some (d, kwd)) (hp : r.prog.theDef r.name = some (d.params, d.body, d.scope)) (hk : kwWritten? d.params.kwonlyargs d.params.kw_defaults = some kwd) (hRf : ∀ s, Xt s = true → RecFacts r.records s.heap) (hwr : (!r.writes || r.records.isEmpty) = true)
    (k1 : r.wellSaid = true) (ok : (chainsOk q && opensWell r.prog && (frees r.toRowW && r.within.isEmpty)) = true) (hb : r.prog.bare) (hw : r.toRowW.promised)
    (call : WalkT q loose XP YP r.toRowW d kwd) : r.Holds := by
  refine ⟨k1, hw, open_T (r := r.toRowW) (tree := fun vs => do match ← nsGet mainNs r.name with
      | some f => do ret (← PySem.call f vs)
      | none => unsupported "claim.caller:no-such-global") left hY hYk hX hXk hRf hwr ok hb hw
    (fun vs w s mg f Q E hg hf h => wpAny_bind (wpAny_nsGet hg (by rw [hf]; exact wpAny_bind (wpAny_mono h (fun _ _ x => wpAny_pure x) fun _ _ x => x))))
    (fun w s hg G n hn => ?_) fun w s₀ s₁ mg mb G Y args vs as hpre hlay hg hrd hwl hlo => ?_⟩
  · obtain rfl : n = r.name := by split at hn <;> simp_all
    exact pinned_of_view hg G hdef hp hk
  · obtain ⟨a, o, pm, cd, doc, dV, kV, h1, h2, h3, h4, h5⟩ := G.fn hdef
    exact ⟨.ref a, h1, call w s₀ s₁ mg mb G Y a o pm cd doc dV kV h2 h3 h4 h5 (defOf_name hdef ▸ h1) hg args vs as hpre hlay hrd hwl hlo⟩
theorem post_T {M : Model} {A : Around} {cd : Code} {s s₁ : Shared} {cw : ClaimW} {cl : Str → Option Addr} {mean : ExcName → Option Value} {args : List WData} {c P : Addr} (hT : TabsAt [(c, P)] s₁.heap) (hr : ∀ a x, cw.raises a x = false)
    (h : codeAny M A cd (fun r s' => GoodW cw cl mean args { s₁ with heap := ghostOf s₁.heap [(c, P)] } r s' ∧ GrownAll [(c, P)] s'.heap) s) : codeAny M A cd (GoodT cw cl mean args s₁) s := by
  refine codeAny_mono h fun r s' ⟨⟨two, kept, os, gens⟩, grown, _⟩ => ?_
  obtain ⟨ps, hP⟩ := grown
  obtain ⟨hd, hP₀⟩ := hT _ (.head _)
  have out : ∀ b o, b ≠ P → s₁.heap.get? b = some o → s'.heap.get? b = some o := fun b o hb e => kept b o (ghost_ne e (by simpa using hb))
  refine ⟨⟨?_, ⟨fun b o e => ?_, fun b o e => ?_⟩, os, .of_eq gens⟩, gens⟩
  · rcases two with ⟨v, d, as, r1, r2, r3, r4, r5⟩ | ⟨e, ob, x, _, _, _, r4, _⟩
    · refine .inl ⟨v, d, as, r1, r2, r3, r4, fun q => ⟨(r5 q).1, fun a ha => ?_⟩⟩
      by_cases e : a = P
      · subst e
        exact absurd ha (readsW_apart hP rfl r3)
      · have new := (r5 q).2 a ha
        cases q1 : s₁.heap.get? a with
        | none => rfl
        | some o =>
          rw [show (ghostOf s₁.heap [(c, P)]).get? a = some o from ghost_ne q1 (by simpa using e)] at new
          cases new
    · rw [hr] at r4; cases r4
  · by_cases q : b = P
    · subst q
      rw [show s₁.heap.get? b = some (tabObj #[]) from hP₀] at e
      cases e
      exact .inr (.inl ⟨(hd.tab hP₀).isCodeTable, rfl, #[], ps, rfl, by rw [Array.empty_append]; exact hP⟩)
    · exact .inl (out b o q e)
  · by_cases q : b = P
    · subst q; exact ⟨_, hP⟩
    · exact ⟨o, out b o q e⟩
theorem enter_T {M : Model} {A : Around} {s : Shared} {f : Value} {pos : List Value} {kw : List (Str × Value)} {c : ClaimW} {cl : Str → Option Addr} {mean : ExcName → Option Value} {args : List WData} {s₁ : Shared}
    (h : codeAny M A (.call f ⟨pos, kw⟩) (GoodT c cl mean args s₁) s) : wpAny M A (PySem.call f pos kw) (fun v s' => GoodT c cl mean args s₁ (.ok (.ret v)) s') (fun e s' => GoodT c cl mean args s₁ (.error e) s') s :=
  wpAny_call (codeAny_mono h fun res s' g => by rcases g.1.1 with ⟨v, _, _, rfl, _⟩ | ⟨e, _, _, rfl, _⟩ <;> exact g)
theorem top_T {N : Nat} (left : LeftO rowW.prog q loose Xt H.obs H.val N false) (call : WalkT q loose (XL q []) H.says rowW dLaw []) : PySem.Challenge.rw_oh0011_01.Holds :=
  ⟨said.1, holds_T (r := PySem.Challenge.rw_oh0011_01.row) (XP := XL q []) (YP := H.says) left H.of H.keeps (fun s e => xl_of s (Bool.and_eq_true_iff.mp e).1) XL.keeps hdef hp hk (fun s e => recFacts_of (Bool.and_eq_true_iff.mp e).2) rfl said.2 hok hbare hprom call⟩
end Mine
end

section
set_option Elab.async false
set_option maxRecDepth 100000
set_option maxHeartbeats 8000000
set_option linter.unusedVariables false
namespace Mine
open PySem PySem.W PyProof.Rows PyProof.Rows.TI PyProof.V PySem.Calls
set_option pp.deepTerms false
set_option pp.maxSteps 400
theorem law_call : WalkT q loose (XL q []) H.says rowW dLaw [] := by
  have hfill : PySem.Challenge.rw_oh0011_01 = PySem.Challenge.rw_oh0011_01 ∧ K = K := by
    k_fill
    exact ⟨rfl, rfl⟩
  clear hfill
  w_on
  intro w s₀ s₁ mg mb G Y fa o pm cd doc dV kV ho hd hcd hD hmg hg args vals as hpre hlay hrd hwl hlo
  have KX : (K w.params).In s₁.heap := Y.1
  have SX : SetFact s₁.heap := Y.2
  have X := (Ground.X G).1
  have V := (Ground.X G).2
  refine Ground.open G ?_
  intro T B D TE TW
  try (refine guard_noD D (by decide +kernel) ?_; clear D)
  unfold dLaw at hd hcd hD hmg
  dsimp only at hd hcd hD hmg
  kn_lay T hmg ho hd cd
  clear hmg
  wrow_args hpre hlay hrd hwl hlo
  refine enter_T ?_
  w_top on
  refine post_T hT9 (fun _ _ => rfl) ?_
  w_call any ho hd hcd hD T F
  clear hd
  have S' : SetFact (ghostOf s₁.heap [(84, 80)]) := by
    obtain ⟨es, ep, t, h1, h2⟩ := SX
    exact ⟨es, ep, t, ghost_get hT9 h1 (by intro q; cases q), h2⟩
  kn_ghosts F T
  rename Top topProg _ _ _ _ _ => T'
  rename Frag.In _ _ => X'
  rename IntsAre _ _ => hI
  rename Fr _ _ _ _ => F'
  rename News _ _ _ _ => N'
  rename 80 < _ => l0
  rename ¬ _ < _ => hlen
  have hloose : (looseW q loose ++ (recsOf q).map (·.name) ++ (litsOf q).map (·.1) ++ (clssOf q (looseW q loose)).map (·.name)) = loose2 := by decide +kernel
  rw [hloose] at T'
  have B' : Base w (ExcName.means s₀.heap) mg mb (ghostOf s₁.heap [(84, 80)]) := ⟨X', S', T'⟩
  have hA : callerA.deeper (envOfC (Str.ofString "law") (fnScope 19) s₁.heap.objs.size fa cd) = lawTop fa s₁.heap.objs.size cd := rfl
  rw [hA]
  show wpAny (model prg w) (lawTop fa s₁.heap.objs.size cd) (execs (fnBody 19) (lawEnv fa s₁.heap.objs.size cd)) _ _ _
  rename List Int => xs
  rename _ = Data.cell (bindC _ _ _ (Str.ofString "tails")) => dT
  rename _ = Data.cell (bindC _ _ _ (Str.ofString "sign")) => dS
  rename _ = Data.cell (bindC _ _ _ (Str.ofString "bad")) => dB
  refine wpAny_mono (law_walk (Q := fun v s' => GoodW rowW.claim (classAt s₀.heap) (ExcName.means s₀.heap) [ofPy (PyData.list (xs.map PyData.int))] { s₁ with heap := ghostOf s₁.heap [(84, 80)] } (.ok (.ret v)) s' ∧ GrownAll [(84, 80)] s'.heap) B' codeHd xs _ hI _ lifted (by omega) fa s₁.heap.objs.size cd _ _ _ _ ?dT ?dS ?dB l0 ?F N' ?Q) (fun f s' h => ?ret) (fun _ _ h => False.elim h)
  case dT => exact dT.trans (by with_unfolding_all rfl)
  case dS => exact dS.trans (by with_unfolding_all rfl)
  case dB => exact dB.trans (by with_unfolding_all rfl)
  case F => with_unfolding_all exact F'
  case Q =>
    intro h' tk ps m' f g
    refine ⟨⟨.inl ⟨.bool true, .bool true, [], rfl, fun _ => rfl, .bool _, ?post, fun _ => ⟨List.nodup_nil, fun _ h => nomatch h⟩⟩, f.keep, rfl, hg⟩, ⟨ps, g⟩, trivial⟩
    first | with_unfolding_all rfl | kernel_rfl | (with_unfolding_all decide) | (simp [ClaimW.post]; done) | (w_fin; done)
  case ret => cases f <;> exact h
end Mine
end

section
namespace Mine
open PySem PySem.W PyProof.Rows
theorem top_all : PySem.Challenge.rw_oh0011_01.Holds := top_T (N := 12000) left law_call
end Mine
end

set_option maxRecDepth 100000 in
set_option maxHeartbeats 8000000 in
theorem PySem.Challenge.cw_oh0011_01_holds : PySem.Challenge.rw_oh0011_01.Holds := by
  exact Mine.top_all
#print axioms PySem.Challenge.cw_oh0011_01_holds
