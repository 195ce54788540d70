import PyProof.Rows.All
import Wide.All
import OpenK.AllK
import Wide.FinOn
import Lean
import PySem.Challenge.RW_oy0243_01
set_option Elab.async false
set_option linter.all false
set_option compiler.extract_closed false
set_option maxRecDepth 100000
set_option maxHeartbeats 8000000
namespace Mine
section
open PySem PySem.W PySem.Spec PySem.Calls PyProof.Rows
set_option maxRecDepth 100000
set_option maxHeartbeats 8000000
def nthS : List Stmt → Nat → Stmt
  | [], _ => .Pass ⟨0, 0, 0, 0⟩
  | s :: _, 0 => s
  | _ :: r, n + 1 => nthS r n
def bodyS : Stmt → List Stmt
  | .FunctionDef _ _ b .. => b
  | .ClassDef _ _ _ b .. => b
  | _ => []
def parS : Stmt → Arguments
  | .FunctionDef _ a .. => a
  | _ => { posonlyargs := [], args := [], vararg := none, kwonlyargs := [], kw_defaults := [], kwarg := none, defaults := [] }
def scS : Stmt → Scope
  | .FunctionDef _ _ _ _ _ _ s .. => s
  | _ => { kind := .function, names := [], isGenerator := false, isCoroutine := false }
def topS (i : Nat) : Stmt := nthS PySem.Challenge.pw_oy0243_01.main.body i
def subS (i j : Nat) : Stmt := nthS (bodyS (topS i)) j
theorem execsIs {M : Model} {A : Around} {b b' : List Stmt} {env : Env} {Q : Flow → Shared → Prop} {E : Value → Shared → Prop} {s : Shared} (e : b = b') (h : wpAny M A (execs b' env) Q E s) : wpAny M A (execs b env) Q E s := e ▸ h
theorem execsIsAt {M : Model} {A : Around} {b b' : List Stmt} {env : Env} {Q : Flow → Shared → Prop} {E : Value → Shared → Prop} {s : Shared} (e : b = b') (h : PySem.wpAt M A (.func b' env) (execs b' env) Q E s) : PySem.wpAt M A (.func b env) (execs b env) Q E s := e ▸ h
theorem scopeIs {b b' : Scope} {P : Scope → Prop} (e : b = b') (h : P b') : P b := e ▸ h
/-- what the walk reads: the statements of the top that are looked at -/
noncomputable def VV : Program := { PySem.Challenge.pw_oy0243_01 with main := { PySem.Challenge.pw_oy0243_01.main with body := [topS 0, topS 2, topS 3, topS 4, topS 5, topS 7, topS 8, topS 10, topS 11, topS 12, topS 13, topS 14, topS 15, topS 22, topS 23, topS 24, topS 26, topS 27, topS 28, topS 29, topS 30, topS 31, topS 32, topS 33] } }
/-- the objects that stand behind the top -/
noncomputable def KK : Params → Frag := fun P =>
(nat_lit 2, { cls := Value.none, data := Data.dict #[] }) ::
(nat_lit 3, { cls := Value.type "dict", data := Data.dict #[{ hash := PyData.keyHash P (Str.ofString "__name__"), key := Value.str (Str.ofString "__name__") 165, val := Value.str (Str.ofString "law_oy0243_01") 551 }, { hash := PyData.keyHash P (Str.ofString "__doc__"), key := Value.str (Str.ofString "__doc__") 166, val := Value.none }, { hash := PyData.keyHash P (Str.ofString "__package__"), key := Value.str (Str.ofString "__package__") 167, val := Value.none }, { hash := PyData.keyHash P (Str.ofString "__loader__"), key := Value.str (Str.ofString "__loader__") 168, val := Value.builtin "__main__.__loader__#opaque" }, { hash := PyData.keyHash P (Str.ofString "__spec__"), key := Value.str (Str.ofString "__spec__") 169, val := Value.none }, { hash := PyData.keyHash P (Str.ofString "__annotations__"), key := Value.str (Str.ofString "__annotations__") 170, val := Value.ref 6 }, { hash := PyData.keyHash P (Str.ofString "__builtins__"), key := Value.str (Str.ofString "__builtins__") 171, val := Value.ref 4 }, { hash := PyData.keyHash P (Str.ofString "__file__"), key := Value.str (Str.ofString "__file__") 173, val := Value.str (Str.ofString "/claim/cut.py") 172 }, { hash := PyData.keyHash P (Str.ofString "__cached__"), key := Value.str (Str.ofString "__cached__") 174, val := Value.none }, { hash := PyData.keyHash P (Str.ofString "_wall"), key := Value.str (Str.ofString "_wall") 193, val := Value.ref 21 }, { hash := PyData.keyHash P (Str.ofString "NL"), key := Value.str (Str.ofString "NL") 197, val := Value.str (Str.ofString "\n") 196 }, { hash := PyData.keyHash P (Str.ofString "EMPTYSTRING"), key := Value.str (Str.ofString "EMPTYSTRING") 199, val := Value.str (Str.ofString "") 198 }, { hash := PyData.keyHash P (Str.ofString "_ValueFormatter"), key := Value.str (Str.ofString "_ValueFormatter") 307, val := Value.ref 94 }, { hash := PyData.keyHash P (Str.ofString "_Accumulator"), key := Value.str (Str.ofString "_Accumulator") 403, val := Value.ref 178 }, { hash := PyData.keyHash P (Str.ofString "bytes_types"), key := Value.str (Str.ofString "bytes_types") 406, val := Value.ref 183 }, { hash := PyData.keyHash P (Str.ofString "_bytes_from_decode_data"), key := Value.str (Str.ofString "_bytes_from_decode_data") 413, val := Value.ref 190 }, { hash := PyData.keyHash P (Str.ofString "Error"), key := Value.str (Str.ofString "Error") 433, val := Value.ref 200 }, { hash := PyData.keyHash P (Str.ofString "_ascii_buffer"), key := Value.str (Str.ofString "_ascii_buffer") 441, val := Value.ref 210 }, { hash := PyData.keyHash P (Str.ofString "_buffer"), key := Value.str (Str.ofString "_buffer") 449, val := Value.ref 217 }, { hash := PyData.keyHash P (Str.ofString "_truth"), key := Value.str (Str.ofString "_truth") 457, val := Value.ref 224 }, { hash := PyData.keyHash P (Str.ofString "_B64"), key := Value.str (Str.ofString "_B64") 459, val := Value.bytes (List.toArray (65 :: 66 :: 67 :: 68 :: 69 :: 70 :: 71 :: 72 :: 73 :: 74 :: 75 :: 76 :: 77 :: 78 :: 79 :: 80 :: 81 :: 82 :: 83 :: 84 :: 85 :: 86 :: 87 :: 88 :: 89 :: 90 :: 97 :: 98 :: 99 :: 100 :: 101 :: 102 :: 103 :: 104 :: 105 :: 106 :: 107 :: 108 :: 109 :: 110 :: 111 :: 112 :: 113 :: 114 :: 115 :: 116 :: 117 :: 118 :: 119 :: 120 :: 121 :: 122 :: 48 :: 49 :: 50 :: 51 :: 52 :: 53 :: 54 :: 55 :: 56 :: 57 :: 43 :: 47 :: [])) 458 }, { hash := PyData.keyHash P (Str.ofString "_b64_value"), key := Value.str (Str.ofString "_b64_value") 466, val := Value.ref 231 }, { hash := PyData.keyHash P (Str.ofString "a2b_base64"), key := Value.str (Str.ofString "a2b_base64") 482, val := Value.ref 239 }, { hash := PyData.keyHash P (Str.ofString "b2a_base64"), key := Value.str (Str.ofString "b2a_base64") 496, val := Value.ref 247 }, { hash := PyData.keyHash P (Str.ofString "b64encode"), key := Value.str (Str.ofString "b64encode") 507, val := Value.ref 255 }, { hash := PyData.keyHash P (Str.ofString "b64decode"), key := Value.str (Str.ofString "b64decode") 516, val := Value.ref 263 }, { hash := PyData.keyHash P (Str.ofString "sorted_list_difference"), key := Value.str (Str.ofString "sorted_list_difference") 532, val := Value.ref 270 }, { hash := PyData.keyHash P (Str.ofString "unorderable_list_difference"), key := Value.str (Str.ofString "unorderable_list_difference") 542, val := Value.ref 277 }, { hash := PyData.keyHash P (Str.ofString "three_way_cmp"), key := Value.str (Str.ofString "three_way_cmp") 550, val := Value.ref 284 }, { hash := PyData.keyHash P (Str.ofString "_law_octets"), key := Value.str (Str.ofString "_law_octets") 558, val := Value.ref 289 }, { hash := PyData.keyHash P (Str.ofString "_law_lines"), key := Value.str (Str.ofString "_law_lines") 569, val := Value.ref 296 }, { hash := PyData.keyHash P (Str.ofString "_law_folded"), key := Value.str (Str.ofString "_law_folded") 579, val := Value.ref 303 }, { hash := PyData.keyHash P (Str.ofString "_law_words"), key := Value.str (Str.ofString "_law_words") 586, val := Value.ref 310 }, { hash := PyData.keyHash P (Str.ofString "_law_alone"), key := Value.str (Str.ofString "_law_alone") 596, val := Value.ref 317 }, { hash := PyData.keyHash P (Str.ofString "_law_differ"), key := Value.str (Str.ofString "_law_differ") 609, val := Value.ref 324 }, { hash := PyData.keyHash P (Str.ofString "_law_writing"), key := Value.str (Str.ofString "_law_writing") 616, val := Value.ref 331 }, { hash := PyData.keyHash P (Str.ofString "law"), key := Value.str (Str.ofString "law") 622, val := Value.ref 336 }] 37 }) ::
(nat_lit 15, { cls := Value.type "tuple", data := Data.seq #[] }) ::
(nat_lit 17, { cls := Value.type "tuple", data := Data.seq #[Value.str (Str.ofString "k") 190] }) ::
(nat_lit 18, { cls := Value.type "tuple", data := Data.seq #[] }) ::
(nat_lit 20, { cls := Value.type "code", data := Data.fields #[Value.str (Str.ofString "_wall") 187, Value.str (Str.ofString "_wall") 188, Value.str (Str.ofString "/claim/cut.py") 189, Value.int 1 0, Value.int 1 0, Value.int 0 0, Value.int 0 0, Value.int 3 0, Value.ref 15, Value.bool true, Value.int 181 0, Value.ref 16, Value.none, Value.ref 17, Value.ref 18, Value.ref 19, Value.int 191 0, Value.int 1 0, Value.str (Str.ofString "/claim/cut.py") 192] }) ::
(nat_lit 21, { cls := Value.type "function", data := Data.func { name := Str.ofString "_wall", qualname := Str.ofString "_wall", params := parS (topS 0), body := FuncBody.stmts (bodyS (topS 0)), scope := { kind := ScopeKind.function, names := [(Str.ofString "k", NameKind.local)], isGenerator := false, isCoroutine := false }, globals := 3, closure := [], defaults := Value.none, kwdefaults := Value.none, pyModule := Value.str (Str.ofString "__main__") 164, code := Value.ref 20 } }) ::
(nat_lit 29, { cls := Value.type "tuple", data := Data.seq #[] }) ::
(nat_lit 31, { cls := Value.type "tuple", data := Data.seq #[Value.str (Str.ofString "self") 215, Value.str (Str.ofString "headerlen") 216, Value.str (Str.ofString "maxlen") 217, Value.str (Str.ofString "continuation_ws") 218, Value.str (Str.ofString "splitchars") 219] }) ::
(nat_lit 32, { cls := Value.type "tuple", data := Data.seq #[] }) ::
(nat_lit 34, { cls := Value.type "code", data := Data.fields #[Value.str (Str.ofString "__init__") 212, Value.str (Str.ofString "_ValueFormatter.__init__") 213, Value.str (Str.ofString "/claim/cut.py") 214, Value.int 9 0, Value.int 5 0, Value.int 0 0, Value.int 0 0, Value.int 3 0, Value.ref 29, Value.bool true, Value.int 181 0, Value.ref 30, Value.none, Value.ref 31, Value.ref 32, Value.ref 33, Value.int 220 0, Value.int 9 0, Value.str (Str.ofString "/claim/cut.py") 221] }) ::
(nat_lit 35, { cls := Value.type "function", data := Data.func { name := Str.ofString "__init__", qualname := Str.ofString "_ValueFormatter.__init__", params := parS (subS 4 0), body := FuncBody.stmts (bodyS (subS 4 0)), scope := { kind := ScopeKind.function, names := [(Str.ofString "self", NameKind.local), (Str.ofString "headerlen", NameKind.local), (Str.ofString "maxlen", NameKind.local), (Str.ofString "continuation_ws", NameKind.local), (Str.ofString "splitchars", NameKind.local), (Str.ofString "len", NameKind.globalImplicit), (Str.ofString "_Accumulator", NameKind.globalImplicit)], isGenerator := false, isCoroutine := false }, globals := 3, closure := [], defaults := Value.none, kwdefaults := Value.none, pyModule := Value.str (Str.ofString "cpy313.email.header") 194, code := Value.ref 34 } }) ::
(nat_lit 36, { cls := Value.type "tuple", data := Data.seq #[] }) ::
(nat_lit 38, { cls := Value.type "tuple", data := Data.seq #[Value.str (Str.ofString "self") 226, Value.str (Str.ofString "linesep") 227] }) ::
(nat_lit 39, { cls := Value.type "tuple", data := Data.seq #[] }) ::
(nat_lit 41, { cls := Value.type "code", data := Data.fields #[Value.str (Str.ofString "_str") 223, Value.str (Str.ofString "_ValueFormatter._str") 224, Value.str (Str.ofString "/claim/cut.py") 225, Value.int 17 0, Value.int 2 0, Value.int 0 0, Value.int 0 0, Value.int 3 0, Value.ref 36, Value.bool true, Value.int 181 0, Value.ref 37, Value.none, Value.ref 38, Value.ref 39, Value.ref 40, Value.int 228 0, Value.int 17 0, Value.str (Str.ofString "/claim/cut.py") 229] }) ::
(nat_lit 42, { cls := Value.type "function", data := Data.func { name := Str.ofString "_str", qualname := Str.ofString "_ValueFormatter._str", params := parS (subS 4 1), body := FuncBody.stmts (bodyS (subS 4 1)), scope := { kind := ScopeKind.function, names := [(Str.ofString "self", NameKind.local), (Str.ofString "linesep", NameKind.local)], isGenerator := false, isCoroutine := false }, globals := 3, closure := [], defaults := Value.none, kwdefaults := Value.none, pyModule := Value.str (Str.ofString "cpy313.email.header") 194, code := Value.ref 41 } }) ::
(nat_lit 43, { cls := Value.type "tuple", data := Data.seq #[] }) ::
(nat_lit 45, { cls := Value.type "tuple", data := Data.seq #[Value.str (Str.ofString "self") 234] }) ::
(nat_lit 46, { cls := Value.type "tuple", data := Data.seq #[] }) ::
(nat_lit 48, { cls := Value.type "code", data := Data.fields #[Value.str (Str.ofString "__str__") 231, Value.str (Str.ofString "_ValueFormatter.__str__") 232, Value.str (Str.ofString "/claim/cut.py") 233, Value.int 21 0, Value.int 1 0, Value.int 0 0, Value.int 0 0, Value.int 3 0, Value.ref 43, Value.bool true, Value.int 181 0, Value.ref 44, Value.none, Value.ref 45, Value.ref 46, Value.ref 47, Value.int 235 0, Value.int 21 0, Value.str (Str.ofString "/claim/cut.py") 236] }) ::
(nat_lit 49, { cls := Value.type "function", data := Data.func { name := Str.ofString "__str__", qualname := Str.ofString "_ValueFormatter.__str__", params := parS (subS 4 2), body := FuncBody.stmts (bodyS (subS 4 2)), scope := { kind := ScopeKind.function, names := [(Str.ofString "self", NameKind.local), (Str.ofString "NL", NameKind.globalImplicit)], isGenerator := false, isCoroutine := false }, globals := 3, closure := [], defaults := Value.none, kwdefaults := Value.none, pyModule := Value.str (Str.ofString "cpy313.email.header") 194, code := Value.ref 48 } }) ::
(nat_lit 50, { cls := Value.type "tuple", data := Data.seq #[] }) ::
(nat_lit 52, { cls := Value.type "tuple", data := Data.seq #[Value.str (Str.ofString "self") 241, Value.str (Str.ofString "end_of_line") 242] }) ::
(nat_lit 53, { cls := Value.type "tuple", data := Data.seq #[] }) ::
(nat_lit 55, { cls := Value.type "code", data := Data.fields #[Value.str (Str.ofString "newline") 238, Value.str (Str.ofString "_ValueFormatter.newline") 239, Value.str (Str.ofString "/claim/cut.py") 240, Value.int 24 0, Value.int 1 0, Value.int 0 0, Value.int 0 0, Value.int 3 0, Value.ref 50, Value.bool true, Value.int 181 0, Value.ref 51, Value.none, Value.ref 52, Value.ref 53, Value.ref 54, Value.int 243 0, Value.int 24 0, Value.str (Str.ofString "/claim/cut.py") 244] }) ::
(nat_lit 56, { cls := Value.type "function", data := Data.func { name := Str.ofString "newline", qualname := Str.ofString "_ValueFormatter.newline", params := parS (subS 4 3), body := FuncBody.stmts (bodyS (subS 4 3)), scope := { kind := ScopeKind.function, names := [(Str.ofString "self", NameKind.local), (Str.ofString "end_of_line", NameKind.local), (Str.ofString "len", NameKind.globalImplicit), (Str.ofString "str", NameKind.globalImplicit)], isGenerator := false, isCoroutine := false }, globals := 3, closure := [], defaults := Value.none, kwdefaults := Value.none, pyModule := Value.str (Str.ofString "cpy313.email.header") 194, code := Value.ref 55 } }) ::
(nat_lit 57, { cls := Value.type "tuple", data := Data.seq #[] }) ::
(nat_lit 59, { cls := Value.type "tuple", data := Data.seq #[Value.str (Str.ofString "self") 249] }) ::
(nat_lit 60, { cls := Value.type "tuple", data := Data.seq #[] }) ::
(nat_lit 62, { cls := Value.type "code", data := Data.fields #[Value.str (Str.ofString "add_transition") 246, Value.str (Str.ofString "_ValueFormatter.add_transition") 247, Value.str (Str.ofString "/claim/cut.py") 248, Value.int 35 0, Value.int 1 0, Value.int 0 0, Value.int 0 0, Value.int 3 0, Value.ref 57, Value.bool true, Value.int 181 0, Value.ref 58, Value.none, Value.ref 59, Value.ref 60, Value.ref 61, Value.int 250 0, Value.int 35 0, Value.str (Str.ofString "/claim/cut.py") 251] }) ::
(nat_lit 63, { cls := Value.type "function", data := Data.func { name := Str.ofString "add_transition", qualname := Str.ofString "_ValueFormatter.add_transition", params := parS (subS 4 4), body := FuncBody.stmts (bodyS (subS 4 4)), scope := { kind := ScopeKind.function, names := [(Str.ofString "self", NameKind.local), (Str.ofString "_wall", NameKind.globalImplicit)], isGenerator := false, isCoroutine := false }, globals := 3, closure := [], defaults := Value.none, kwdefaults := Value.none, pyModule := Value.str (Str.ofString "cpy313.email.header") 194, code := Value.ref 62 } }) ::
(nat_lit 64, { cls := Value.type "tuple", data := Data.seq #[] }) ::
(nat_lit 66, { cls := Value.type "tuple", data := Data.seq #[Value.str (Str.ofString "self") 256, Value.str (Str.ofString "fws") 257, Value.str (Str.ofString "string") 258, Value.str (Str.ofString "charset") 259] }) ::
(nat_lit 67, { cls := Value.type "tuple", data := Data.seq #[] }) ::
(nat_lit 69, { cls := Value.type "code", data := Data.fields #[Value.str (Str.ofString "feed") 253, Value.str (Str.ofString "_ValueFormatter.feed") 254, Value.str (Str.ofString "/claim/cut.py") 255, Value.int 38 0, Value.int 4 0, Value.int 0 0, Value.int 0 0, Value.int 3 0, Value.ref 64, Value.bool true, Value.int 181 0, Value.ref 65, Value.none, Value.ref 66, Value.ref 67, Value.ref 68, Value.int 260 0, Value.int 38 0, Value.str (Str.ofString "/claim/cut.py") 261] }) ::
(nat_lit 70, { cls := Value.type "function", data := Data.func { name := Str.ofString "feed", qualname := Str.ofString "_ValueFormatter.feed", params := parS (subS 4 5), body := FuncBody.stmts (bodyS (subS 4 5)), scope := { kind := ScopeKind.function, names := [(Str.ofString "self", NameKind.local), (Str.ofString "fws", NameKind.local), (Str.ofString "string", NameKind.local), (Str.ofString "charset", NameKind.local), (Str.ofString "_wall", NameKind.globalImplicit)], isGenerator := false, isCoroutine := false }, globals := 3, closure := [], defaults := Value.none, kwdefaults := Value.none, pyModule := Value.str (Str.ofString "cpy313.email.header") 194, code := Value.ref 69 } }) ::
(nat_lit 71, { cls := Value.type "tuple", data := Data.seq #[] }) ::
(nat_lit 73, { cls := Value.type "tuple", data := Data.seq #[Value.str (Str.ofString "self") 266] }) ::
(nat_lit 74, { cls := Value.type "tuple", data := Data.seq #[] }) ::
(nat_lit 76, { cls := Value.type "code", data := Data.fields #[Value.str (Str.ofString "_maxlengths") 263, Value.str (Str.ofString "_ValueFormatter._maxlengths") 264, Value.str (Str.ofString "/claim/cut.py") 265, Value.int 41 0, Value.int 1 0, Value.int 0 0, Value.int 0 0, Value.int 3 0, Value.ref 71, Value.bool true, Value.int 181 0, Value.ref 72, Value.none, Value.ref 73, Value.ref 74, Value.ref 75, Value.int 267 0, Value.int 41 0, Value.str (Str.ofString "/claim/cut.py") 268] }) ::
(nat_lit 77, { cls := Value.type "function", data := Data.func { name := Str.ofString "_maxlengths", qualname := Str.ofString "_ValueFormatter._maxlengths", params := parS (subS 4 6), body := FuncBody.stmts (bodyS (subS 4 6)), scope := { kind := ScopeKind.function, names := [(Str.ofString "self", NameKind.local), (Str.ofString "_wall", NameKind.globalImplicit)], isGenerator := false, isCoroutine := false }, globals := 3, closure := [], defaults := Value.none, kwdefaults := Value.none, pyModule := Value.str (Str.ofString "cpy313.email.header") 194, code := Value.ref 76 } }) ::
(nat_lit 78, { cls := Value.type "tuple", data := Data.seq #[] }) ::
(nat_lit 80, { cls := Value.type "tuple", data := Data.seq #[Value.str (Str.ofString "self") 273, Value.str (Str.ofString "fws") 274, Value.str (Str.ofString "string") 275, Value.str (Str.ofString "splitchars") 276] }) ::
(nat_lit 81, { cls := Value.type "tuple", data := Data.seq #[] }) ::
(nat_lit 83, { cls := Value.type "code", data := Data.fields #[Value.str (Str.ofString "_ascii_split") 270, Value.str (Str.ofString "_ValueFormatter._ascii_split") 271, Value.str (Str.ofString "/claim/cut.py") 272, Value.int 44 0, Value.int 4 0, Value.int 0 0, Value.int 0 0, Value.int 3 0, Value.ref 78, Value.bool true, Value.int 181 0, Value.ref 79, Value.none, Value.ref 80, Value.ref 81, Value.ref 82, Value.int 277 0, Value.int 44 0, Value.str (Str.ofString "/claim/cut.py") 278] }) ::
(nat_lit 84, { cls := Value.type "function", data := Data.func { name := Str.ofString "_ascii_split", qualname := Str.ofString "_ValueFormatter._ascii_split", params := parS (subS 4 7), body := FuncBody.stmts (bodyS (subS 4 7)), scope := { kind := ScopeKind.function, names := [(Str.ofString "self", NameKind.local), (Str.ofString "fws", NameKind.local), (Str.ofString "string", NameKind.local), (Str.ofString "splitchars", NameKind.local), (Str.ofString "_wall", NameKind.globalImplicit)], isGenerator := false, isCoroutine := false }, globals := 3, closure := [], defaults := Value.none, kwdefaults := Value.none, pyModule := Value.str (Str.ofString "cpy313.email.header") 194, code := Value.ref 83 } }) ::
(nat_lit 85, { cls := Value.type "tuple", data := Data.seq #[] }) ::
(nat_lit 87, { cls := Value.type "tuple", data := Data.seq #[Value.str (Str.ofString "self") 283, Value.str (Str.ofString "fws") 284, Value.str (Str.ofString "string") 285, Value.str (Str.ofString "ch") 286, Value.str (Str.ofString "i") 287, Value.str (Str.ofString "prevpart") 288, Value.str (Str.ofString "part") 289, Value.str (Str.ofString "remainder") 290] }) ::
(nat_lit 88, { cls := Value.type "tuple", data := Data.seq #[] }) ::
(nat_lit 90, { cls := Value.type "code", data := Data.fields #[Value.str (Str.ofString "_append_chunk") 280, Value.str (Str.ofString "_ValueFormatter._append_chunk") 281, Value.str (Str.ofString "/claim/cut.py") 282, Value.int 47 0, Value.int 3 0, Value.int 0 0, Value.int 0 0, Value.int 3 0, Value.ref 85, Value.bool true, Value.int 181 0, Value.ref 86, Value.none, Value.ref 87, Value.ref 88, Value.ref 89, Value.int 291 0, Value.int 47 0, Value.str (Str.ofString "/claim/cut.py") 292] }) ::
(nat_lit 91, { cls := Value.type "function", data := Data.func { name := Str.ofString "_append_chunk", qualname := Str.ofString "_ValueFormatter._append_chunk", params := parS (subS 4 8), body := FuncBody.stmts (bodyS (subS 4 8)), scope := { kind := ScopeKind.function, names := [(Str.ofString "self", NameKind.local), (Str.ofString "fws", NameKind.local), (Str.ofString "string", NameKind.local), (Str.ofString "ch", NameKind.local), (Str.ofString "i", NameKind.local), (Str.ofString "prevpart", NameKind.local), (Str.ofString "part", NameKind.local), (Str.ofString "remainder", NameKind.local), (Str.ofString "len", NameKind.globalImplicit), (Str.ofString "range", NameKind.globalImplicit), (Str.ofString "str", NameKind.globalImplicit)], isGenerator := false, isCoroutine := false }, globals := 3, closure := [], defaults := Value.none, kwdefaults := Value.none, pyModule := Value.str (Str.ofString "cpy313.email.header") 194, code := Value.ref 90 } }) ::
(nat_lit 92, { cls := Value.type "tuple", data := Data.seq #[Value.str (Str.ofString "_continuation_ws") 294, Value.str (Str.ofString "_continuation_ws_len") 295, Value.str (Str.ofString "_current_line") 296, Value.str (Str.ofString "_lines") 297, Value.str (Str.ofString "_maxlen") 298, Value.str (Str.ofString "_splitchars") 299] }) ::
(nat_lit 93, { cls := Value.type "dict", data := Data.dict #[{ hash := PyData.keyHash P (Str.ofString "__module__"), key := Value.str (Str.ofString "__module__") 207, val := Value.str (Str.ofString "cpy313.email.header") 194 }, { hash := PyData.keyHash P (Str.ofString "__firstlineno__"), key := Value.str (Str.ofString "__firstlineno__") 211, val := Value.int 7 210 }, { hash := PyData.keyHash P (Str.ofString "__init__"), key := Value.str (Str.ofString "__init__") 222, val := Value.ref 35 }, { hash := PyData.keyHash P (Str.ofString "_str"), key := Value.str (Str.ofString "_str") 230, val := Value.ref 42 }, { hash := PyData.keyHash P (Str.ofString "__str__"), key := Value.str (Str.ofString "__str__") 237, val := Value.ref 49 }, { hash := PyData.keyHash P (Str.ofString "newline"), key := Value.str (Str.ofString "newline") 245, val := Value.ref 56 }, { hash := PyData.keyHash P (Str.ofString "add_transition"), key := Value.str (Str.ofString "add_transition") 252, val := Value.ref 63 }, { hash := PyData.keyHash P (Str.ofString "feed"), key := Value.str (Str.ofString "feed") 262, val := Value.ref 70 }, { hash := PyData.keyHash P (Str.ofString "_maxlengths"), key := Value.str (Str.ofString "_maxlengths") 269, val := Value.ref 77 }, { hash := PyData.keyHash P (Str.ofString "_ascii_split"), key := Value.str (Str.ofString "_ascii_split") 279, val := Value.ref 84 }, { hash := PyData.keyHash P (Str.ofString "_append_chunk"), key := Value.str (Str.ofString "_append_chunk") 293, val := Value.ref 91 }, { hash := PyData.keyHash P (Str.ofString "__static_attributes__"), key := Value.str (Str.ofString "__static_attributes__") 300, val := Value.ref 92 }, { hash := PyData.keyHash P (Str.ofString "__dict__"), key := Value.str (Str.ofString "__dict__") 302, val := Value.ref 95 }, { hash := PyData.keyHash P (Str.ofString "__weakref__"), key := Value.str (Str.ofString "__weakref__") 304, val := Value.ref 96 }, { hash := PyData.keyHash P (Str.ofString "__doc__"), key := Value.str (Str.ofString "__doc__") 305, val := Value.none }] 4 }) ::
(nat_lit 94, { cls := Value.type "type", data := Data.cls { name := Str.ofString "_ValueFormatter", bases := [Value.type "object"], mro := [Value.ref 94, Value.type "object"], ns := 93, qualname := Str.ofString "_ValueFormatter" }, slots := #[none, none, some (Value.str (Str.ofString "_ValueFormatter") 200), some (Value.str (Str.ofString "_ValueFormatter") 208), some (Value.builtin "object.__new__"), some (Value.bool true)] }) ::
(nat_lit 95, { cls := Value.type "getset_descriptor", data := Data.fields #[Value.str (Str.ofString "__dict__") 301, Value.ref 94, Value.builtin "function.__dict__", Value.builtin "function.__dict__#set"] }) ::
(nat_lit 96, { cls := Value.type "getset_descriptor", data := Data.fields #[Value.str (Str.ofString "__weakref__") 303, Value.ref 94, Value.builtin "ExceptionGroup.__weakref__", Value.none] }) ::
(nat_lit 99, { cls := Value.type "tuple", data := Data.seq #[Value.type "list"] }) ::
(nat_lit 102, { cls := Value.type "cell", data := Data.cell (some (Value.ref 178)) }) ::
(nat_lit 107, { cls := Value.type "tuple", data := Data.seq #[Value.int 0 320] }) ::
(nat_lit 108, { cls := Value.type "tuple", data := Data.seq #[Value.ref 102] }) ::
(nat_lit 109, { cls := Value.type "tuple", data := Data.seq #[Value.str (Str.ofString "__class__") 324] }) ::
(nat_lit 111, { cls := Value.type "tuple", data := Data.seq #[Value.str (Str.ofString "self") 325, Value.str (Str.ofString "initial_size") 326] }) ::
(nat_lit 112, { cls := Value.type "tuple", data := Data.seq #[] }) ::
(nat_lit 114, { cls := Value.type "code", data := Data.fields #[Value.str (Str.ofString "__init__") 321, Value.str (Str.ofString "_Accumulator.__init__") 322, Value.str (Str.ofString "/claim/cut.py") 323, Value.int 75 0, Value.int 2 0, Value.int 0 0, Value.int 0 0, Value.int 3 0, Value.ref 109, Value.bool true, Value.int 181 0, Value.ref 110, Value.none, Value.ref 111, Value.ref 112, Value.ref 113, Value.int 327 0, Value.int 75 0, Value.str (Str.ofString "/claim/cut.py") 328] }) ::
(nat_lit 115, { cls := Value.type "function", data := Data.func { name := Str.ofString "__init__", qualname := Str.ofString "_Accumulator.__init__", params := parS (subS 5 0), body := FuncBody.stmts (bodyS (subS 5 0)), scope := { kind := ScopeKind.function, names := [(Str.ofString "self", NameKind.local), (Str.ofString "initial_size", NameKind.local), (Str.ofString "__class__", NameKind.free), (Str.ofString "super", NameKind.globalImplicit)], isGenerator := false, isCoroutine := false }, globals := 3, closure := [(Str.ofString "__class__", 102)], defaults := Value.ref 107, kwdefaults := Value.none, pyModule := Value.str (Str.ofString "cpy313.email.header") 194, code := Value.ref 114, closureTuple := Value.ref 108 } }) ::
(nat_lit 116, { cls := Value.type "tuple", data := Data.seq #[] }) ::
(nat_lit 118, { cls := Value.type "tuple", data := Data.seq #[Value.str (Str.ofString "self") 333, Value.str (Str.ofString "fws") 334, Value.str (Str.ofString "string") 335] }) ::
(nat_lit 119, { cls := Value.type "tuple", data := Data.seq #[] }) ::
(nat_lit 121, { cls := Value.type "code", data := Data.fields #[Value.str (Str.ofString "push") 330, Value.str (Str.ofString "_Accumulator.push") 331, Value.str (Str.ofString "/claim/cut.py") 332, Value.int 79 0, Value.int 3 0, Value.int 0 0, Value.int 0 0, Value.int 3 0, Value.ref 116, Value.bool true, Value.int 181 0, Value.ref 117, Value.none, Value.ref 118, Value.ref 119, Value.ref 120, Value.int 336 0, Value.int 79 0, Value.str (Str.ofString "/claim/cut.py") 337] }) ::
(nat_lit 122, { cls := Value.type "function", data := Data.func { name := Str.ofString "push", qualname := Str.ofString "_Accumulator.push", params := parS (subS 5 1), body := FuncBody.stmts (bodyS (subS 5 1)), scope := { kind := ScopeKind.function, names := [(Str.ofString "self", NameKind.local), (Str.ofString "fws", NameKind.local), (Str.ofString "string", NameKind.local)], isGenerator := false, isCoroutine := false }, globals := 3, closure := [], defaults := Value.none, kwdefaults := Value.none, pyModule := Value.str (Str.ofString "cpy313.email.header") 194, code := Value.ref 121 } }) ::
(nat_lit 123, { cls := Value.type "tuple", data := Data.seq #[Value.int 0 339] }) ::
(nat_lit 124, { cls := Value.type "tuple", data := Data.seq #[] }) ::
(nat_lit 126, { cls := Value.type "tuple", data := Data.seq #[Value.str (Str.ofString "self") 343, Value.str (Str.ofString "i") 344, Value.str (Str.ofString "popped") 345] }) ::
(nat_lit 127, { cls := Value.type "tuple", data := Data.seq #[] }) ::
(nat_lit 129, { cls := Value.type "code", data := Data.fields #[Value.str (Str.ofString "pop_from") 340, Value.str (Str.ofString "_Accumulator.pop_from") 341, Value.str (Str.ofString "/claim/cut.py") 342, Value.int 82 0, Value.int 2 0, Value.int 0 0, Value.int 0 0, Value.int 3 0, Value.ref 124, Value.bool true, Value.int 181 0, Value.ref 125, Value.none, Value.ref 126, Value.ref 127, Value.ref 128, Value.int 346 0, Value.int 82 0, Value.str (Str.ofString "/claim/cut.py") 347] }) ::
(nat_lit 130, { cls := Value.type "function", data := Data.func { name := Str.ofString "pop_from", qualname := Str.ofString "_Accumulator.pop_from", params := parS (subS 5 2), body := FuncBody.stmts (bodyS (subS 5 2)), scope := { kind := ScopeKind.function, names := [(Str.ofString "self", NameKind.local), (Str.ofString "i", NameKind.local), (Str.ofString "popped", NameKind.local)], isGenerator := false, isCoroutine := false }, globals := 3, closure := [], defaults := Value.ref 123, kwdefaults := Value.none, pyModule := Value.str (Str.ofString "cpy313.email.header") 194, code := Value.ref 129 } }) ::
(nat_lit 131, { cls := Value.type "tuple", data := Data.seq #[Value.ref 102] }) ::
(nat_lit 132, { cls := Value.type "tuple", data := Data.seq #[Value.str (Str.ofString "__class__") 352] }) ::
(nat_lit 134, { cls := Value.type "tuple", data := Data.seq #[Value.str (Str.ofString "self") 353] }) ::
(nat_lit 135, { cls := Value.type "tuple", data := Data.seq #[] }) ::
(nat_lit 137, { cls := Value.type "code", data := Data.fields #[Value.str (Str.ofString "pop") 349, Value.str (Str.ofString "_Accumulator.pop") 350, Value.str (Str.ofString "/claim/cut.py") 351, Value.int 87 0, Value.int 1 0, Value.int 0 0, Value.int 0 0, Value.int 3 0, Value.ref 132, Value.bool true, Value.int 181 0, Value.ref 133, Value.none, Value.ref 134, Value.ref 135, Value.ref 136, Value.int 354 0, Value.int 87 0, Value.str (Str.ofString "/claim/cut.py") 355] }) ::
(nat_lit 138, { cls := Value.type "function", data := Data.func { name := Str.ofString "pop", qualname := Str.ofString "_Accumulator.pop", params := parS (subS 5 3), body := FuncBody.stmts (bodyS (subS 5 3)), scope := { kind := ScopeKind.function, names := [(Str.ofString "self", NameKind.local), (Str.ofString "__class__", NameKind.free), (Str.ofString "super", NameKind.globalImplicit)], isGenerator := false, isCoroutine := false }, globals := 3, closure := [(Str.ofString "__class__", 102)], defaults := Value.none, kwdefaults := Value.none, pyModule := Value.str (Str.ofString "cpy313.email.header") 194, code := Value.ref 137, closureTuple := Value.ref 131 } }) ::
(nat_lit 139, { cls := Value.type "tuple", data := Data.seq #[] }) ::
(nat_lit 141, { cls := Value.type "tuple", data := Data.seq #[Value.str (Str.ofString "self") 360] }) ::
(nat_lit 142, { cls := Value.type "tuple", data := Data.seq #[] }) ::
(nat_lit 144, { cls := Value.type "code", data := Data.fields #[Value.str (Str.ofString "__len__") 357, Value.str (Str.ofString "_Accumulator.__len__") 358, Value.str (Str.ofString "/claim/cut.py") 359, Value.int 92 0, Value.int 1 0, Value.int 0 0, Value.int 0 0, Value.int 3 0, Value.ref 139, Value.bool true, Value.int 181 0, Value.ref 140, Value.none, Value.ref 141, Value.ref 142, Value.ref 143, Value.int 361 0, Value.int 92 0, Value.str (Str.ofString "/claim/cut.py") 362] }) ::
(nat_lit 145, { cls := Value.type "function", data := Data.func { name := Str.ofString "__len__", qualname := Str.ofString "_Accumulator.__len__", params := parS (subS 5 4), body := FuncBody.stmts (bodyS (subS 5 4)), scope := { kind := ScopeKind.function, names := [(Str.ofString "self", NameKind.local), (Str.ofString "sum", NameKind.globalImplicit)], isGenerator := false, isCoroutine := false }, globals := 3, closure := [], defaults := Value.none, kwdefaults := Value.none, pyModule := Value.str (Str.ofString "cpy313.email.header") 194, code := Value.ref 144 } }) ::
(nat_lit 146, { cls := Value.type "tuple", data := Data.seq #[] }) ::
(nat_lit 148, { cls := Value.type "tuple", data := Data.seq #[Value.str (Str.ofString "self") 367] }) ::
(nat_lit 149, { cls := Value.type "tuple", data := Data.seq #[] }) ::
(nat_lit 151, { cls := Value.type "code", data := Data.fields #[Value.str (Str.ofString "__str__") 364, Value.str (Str.ofString "_Accumulator.__str__") 365, Value.str (Str.ofString "/claim/cut.py") 366, Value.int 95 0, Value.int 1 0, Value.int 0 0, Value.int 0 0, Value.int 3 0, Value.ref 146, Value.bool true, Value.int 181 0, Value.ref 147, Value.none, Value.ref 148, Value.ref 149, Value.ref 150, Value.int 368 0, Value.int 95 0, Value.str (Str.ofString "/claim/cut.py") 369] }) ::
(nat_lit 152, { cls := Value.type "function", data := Data.func { name := Str.ofString "__str__", qualname := Str.ofString "_Accumulator.__str__", params := parS (subS 5 5), body := FuncBody.stmts (bodyS (subS 5 5)), scope := { kind := ScopeKind.function, names := [(Str.ofString "self", NameKind.local), (Str.ofString "EMPTYSTRING", NameKind.globalImplicit)], isGenerator := false, isCoroutine := false }, globals := 3, closure := [], defaults := Value.none, kwdefaults := Value.none, pyModule := Value.str (Str.ofString "cpy313.email.header") 194, code := Value.ref 151 } }) ::
(nat_lit 153, { cls := Value.type "tuple", data := Data.seq #[Value.none] }) ::
(nat_lit 154, { cls := Value.type "tuple", data := Data.seq #[] }) ::
(nat_lit 156, { cls := Value.type "tuple", data := Data.seq #[Value.str (Str.ofString "self") 374, Value.str (Str.ofString "startval") 375] }) ::
(nat_lit 157, { cls := Value.type "tuple", data := Data.seq #[] }) ::
(nat_lit 159, { cls := Value.type "code", data := Data.fields #[Value.str (Str.ofString "reset") 371, Value.str (Str.ofString "_Accumulator.reset") 372, Value.str (Str.ofString "/claim/cut.py") 373, Value.int 98 0, Value.int 2 0, Value.int 0 0, Value.int 0 0, Value.int 3 0, Value.ref 154, Value.bool true, Value.int 181 0, Value.ref 155, Value.none, Value.ref 156, Value.ref 157, Value.ref 158, Value.int 376 0, Value.int 98 0, Value.str (Str.ofString "/claim/cut.py") 377] }) ::
(nat_lit 160, { cls := Value.type "function", data := Data.func { name := Str.ofString "reset", qualname := Str.ofString "_Accumulator.reset", params := parS (subS 5 6), body := FuncBody.stmts (bodyS (subS 5 6)), scope := { kind := ScopeKind.function, names := [(Str.ofString "self", NameKind.local), (Str.ofString "startval", NameKind.local)], isGenerator := false, isCoroutine := false }, globals := 3, closure := [], defaults := Value.ref 153, kwdefaults := Value.none, pyModule := Value.str (Str.ofString "cpy313.email.header") 194, code := Value.ref 159 } }) ::
(nat_lit 161, { cls := Value.type "tuple", data := Data.seq #[] }) ::
(nat_lit 163, { cls := Value.type "tuple", data := Data.seq #[Value.str (Str.ofString "self") 382] }) ::
(nat_lit 164, { cls := Value.type "tuple", data := Data.seq #[] }) ::
(nat_lit 166, { cls := Value.type "code", data := Data.fields #[Value.str (Str.ofString "is_onlyws") 379, Value.str (Str.ofString "_Accumulator.is_onlyws") 380, Value.str (Str.ofString "/claim/cut.py") 381, Value.int 104 0, Value.int 1 0, Value.int 0 0, Value.int 0 0, Value.int 3 0, Value.ref 161, Value.bool true, Value.int 181 0, Value.ref 162, Value.none, Value.ref 163, Value.ref 164, Value.ref 165, Value.int 383 0, Value.int 104 0, Value.str (Str.ofString "/claim/cut.py") 384] }) ::
(nat_lit 167, { cls := Value.type "function", data := Data.func { name := Str.ofString "is_onlyws", qualname := Str.ofString "_Accumulator.is_onlyws", params := parS (subS 5 7), body := FuncBody.stmts (bodyS (subS 5 7)), scope := { kind := ScopeKind.function, names := [(Str.ofString "self", NameKind.local), (Str.ofString "str", NameKind.globalImplicit)], isGenerator := false, isCoroutine := false }, globals := 3, closure := [], defaults := Value.none, kwdefaults := Value.none, pyModule := Value.str (Str.ofString "cpy313.email.header") 194, code := Value.ref 166 } }) ::
(nat_lit 168, { cls := Value.type "tuple", data := Data.seq #[Value.ref 102] }) ::
(nat_lit 169, { cls := Value.type "tuple", data := Data.seq #[Value.str (Str.ofString "__class__") 389] }) ::
(nat_lit 171, { cls := Value.type "tuple", data := Data.seq #[Value.str (Str.ofString "self") 390] }) ::
(nat_lit 172, { cls := Value.type "tuple", data := Data.seq #[] }) ::
(nat_lit 174, { cls := Value.type "code", data := Data.fields #[Value.str (Str.ofString "part_count") 386, Value.str (Str.ofString "_Accumulator.part_count") 387, Value.str (Str.ofString "/claim/cut.py") 388, Value.int 107 0, Value.int 1 0, Value.int 0 0, Value.int 0 0, Value.int 3 0, Value.ref 169, Value.bool true, Value.int 181 0, Value.ref 170, Value.none, Value.ref 171, Value.ref 172, Value.ref 173, Value.int 391 0, Value.int 107 0, Value.str (Str.ofString "/claim/cut.py") 392] }) ::
(nat_lit 175, { cls := Value.type "function", data := Data.func { name := Str.ofString "part_count", qualname := Str.ofString "_Accumulator.part_count", params := parS (subS 5 8), body := FuncBody.stmts (bodyS (subS 5 8)), scope := { kind := ScopeKind.function, names := [(Str.ofString "self", NameKind.local), (Str.ofString "__class__", NameKind.free), (Str.ofString "super", NameKind.globalImplicit)], isGenerator := false, isCoroutine := false }, globals := 3, closure := [(Str.ofString "__class__", 102)], defaults := Value.none, kwdefaults := Value.none, pyModule := Value.str (Str.ofString "cpy313.email.header") 194, code := Value.ref 174, closureTuple := Value.ref 168 } }) ::
(nat_lit 176, { cls := Value.type "tuple", data := Data.seq #[Value.str (Str.ofString "_initial_size") 394] }) ::
(nat_lit 177, { cls := Value.type "dict", data := Data.dict #[{ hash := PyData.keyHash P (Str.ofString "__module__"), key := Value.str (Str.ofString "__module__") 315, val := Value.str (Str.ofString "cpy313.email.header") 194 }, { hash := PyData.keyHash P (Str.ofString "__firstlineno__"), key := Value.str (Str.ofString "__firstlineno__") 319, val := Value.int 73 318 }, { hash := PyData.keyHash P (Str.ofString "__init__"), key := Value.str (Str.ofString "__init__") 329, val := Value.ref 115 }, { hash := PyData.keyHash P (Str.ofString "push"), key := Value.str (Str.ofString "push") 338, val := Value.ref 122 }, { hash := PyData.keyHash P (Str.ofString "pop_from"), key := Value.str (Str.ofString "pop_from") 348, val := Value.ref 130 }, { hash := PyData.keyHash P (Str.ofString "pop"), key := Value.str (Str.ofString "pop") 356, val := Value.ref 138 }, { hash := PyData.keyHash P (Str.ofString "__len__"), key := Value.str (Str.ofString "__len__") 363, val := Value.ref 145 }, { hash := PyData.keyHash P (Str.ofString "__str__"), key := Value.str (Str.ofString "__str__") 370, val := Value.ref 152 }, { hash := PyData.keyHash P (Str.ofString "reset"), key := Value.str (Str.ofString "reset") 378, val := Value.ref 160 }, { hash := PyData.keyHash P (Str.ofString "is_onlyws"), key := Value.str (Str.ofString "is_onlyws") 385, val := Value.ref 167 }, { hash := PyData.keyHash P (Str.ofString "part_count"), key := Value.str (Str.ofString "part_count") 393, val := Value.ref 175 }, { hash := PyData.keyHash P (Str.ofString "__static_attributes__"), key := Value.str (Str.ofString "__static_attributes__") 395, val := Value.ref 176 }, { hash := PyData.keyHash P (Str.ofString "__dict__"), key := Value.str (Str.ofString "__dict__") 398, val := Value.ref 179 }, { hash := PyData.keyHash P (Str.ofString "__weakref__"), key := Value.str (Str.ofString "__weakref__") 400, val := Value.ref 180 }, { hash := PyData.keyHash P (Str.ofString "__doc__"), key := Value.str (Str.ofString "__doc__") 401, val := Value.none }] 5 }) ::
(nat_lit 178, { cls := Value.type "type", data := Data.cls { name := Str.ofString "_Accumulator", bases := [Value.type "list"], mro := [Value.ref 178, Value.type "list", Value.type "object"], ns := 177, qualname := Str.ofString "_Accumulator" }, slots := #[some (Value.ref 99), none, some (Value.str (Str.ofString "_Accumulator") 308), some (Value.str (Str.ofString "_Accumulator") 316), some (Value.builtin "list.__new__"), some (Value.bool true)] }) ::
(nat_lit 179, { cls := Value.type "getset_descriptor", data := Data.fields #[Value.str (Str.ofString "__dict__") 397, Value.ref 178, Value.builtin "function.__dict__", Value.builtin "function.__dict__#set"] }) ::
(nat_lit 180, { cls := Value.type "getset_descriptor", data := Data.fields #[Value.str (Str.ofString "__weakref__") 399, Value.ref 178, Value.builtin "ExceptionGroup.__weakref__", Value.none] }) ::
(nat_lit 183, { cls := Value.type "tuple", data := Data.seq #[Value.type "bytes", Value.type "bytearray"] }) ::
(nat_lit 184, { cls := Value.type "tuple", data := Data.seq #[] }) ::
(nat_lit 186, { cls := Value.type "tuple", data := Data.seq #[Value.str (Str.ofString "s") 410] }) ::
(nat_lit 187, { cls := Value.type "tuple", data := Data.seq #[] }) ::
(nat_lit 189, { cls := Value.type "code", data := Data.fields #[Value.str (Str.ofString "_bytes_from_decode_data") 407, Value.str (Str.ofString "_bytes_from_decode_data") 408, Value.str (Str.ofString "/claim/cut.py") 409, Value.int 111 0, Value.int 1 0, Value.int 0 0, Value.int 0 0, Value.int 3 0, Value.ref 184, Value.bool true, Value.int 181 0, Value.ref 185, Value.none, Value.ref 186, Value.ref 187, Value.ref 188, Value.int 411 0, Value.int 111 0, Value.str (Str.ofString "/claim/cut.py") 412] }) ::
(nat_lit 190, { cls := Value.type "function", data := Data.func { name := Str.ofString "_bytes_from_decode_data", qualname := Str.ofString "_bytes_from_decode_data", params := parS (topS 8), body := FuncBody.stmts (bodyS (topS 8)), scope := { kind := ScopeKind.function, names := [(Str.ofString "s", NameKind.local), (Str.ofString "isinstance", NameKind.globalImplicit), (Str.ofString "str", NameKind.globalImplicit), (Str.ofString "UnicodeEncodeError", NameKind.globalImplicit), (Str.ofString "ValueError", NameKind.globalImplicit), (Str.ofString "bytes_types", NameKind.globalImplicit), (Str.ofString "memoryview", NameKind.globalImplicit), (Str.ofString "TypeError", NameKind.globalImplicit)], isGenerator := false, isCoroutine := false }, globals := 3, closure := [], defaults := Value.none, kwdefaults := Value.none, pyModule := Value.str (Str.ofString "cpy313.base64") 404, code := Value.ref 189 } }) ::
(nat_lit 191, { cls := Value.type "tuple", data := Data.seq #[Value.type "ValueError"] }) ::
(nat_lit 198, { cls := Value.type "tuple", data := Data.seq #[] }) ::
(nat_lit 199, { cls := Value.type "dict", data := Data.dict #[{ hash := PyData.keyHash P (Str.ofString "__module__"), key := Value.str (Str.ofString "__module__") 423, val := Value.str (Str.ofString "binascii") 414 }, { hash := PyData.keyHash P (Str.ofString "__firstlineno__"), key := Value.str (Str.ofString "__firstlineno__") 427, val := Value.int 124 426 }, { hash := PyData.keyHash P (Str.ofString "__static_attributes__"), key := Value.str (Str.ofString "__static_attributes__") 428, val := Value.ref 198 }, { hash := PyData.keyHash P (Str.ofString "__weakref__"), key := Value.str (Str.ofString "__weakref__") 430, val := Value.ref 201 }, { hash := PyData.keyHash P (Str.ofString "__doc__"), key := Value.str (Str.ofString "__doc__") 431, val := Value.none }] 3 }) ::
(nat_lit 200, { cls := Value.type "type", data := Data.cls { name := Str.ofString "Error", bases := [Value.type "ValueError"], mro := [Value.ref 200, Value.type "ValueError", Value.type "Exception", Value.type "BaseException", Value.type "object"], ns := 199, qualname := Str.ofString "Error" }, slots := #[some (Value.ref 191), none, some (Value.str (Str.ofString "Error") 416), some (Value.str (Str.ofString "Error") 424), some (Value.builtin "ValueError.__new__"), some (Value.bool true)] }) ::
(nat_lit 201, { cls := Value.type "getset_descriptor", data := Data.fields #[Value.str (Str.ofString "__weakref__") 429, Value.ref 200, Value.builtin "ExceptionGroup.__weakref__", Value.none] }) ::
(nat_lit 204, { cls := Value.type "tuple", data := Data.seq #[] }) ::
(nat_lit 206, { cls := Value.type "tuple", data := Data.seq #[Value.str (Str.ofString "data") 437, Value.str (Str.ofString "t") 438] }) ::
(nat_lit 207, { cls := Value.type "tuple", data := Data.seq #[] }) ::
(nat_lit 209, { cls := Value.type "code", data := Data.fields #[Value.str (Str.ofString "_ascii_buffer") 434, Value.str (Str.ofString "_ascii_buffer") 435, Value.str (Str.ofString "/claim/cut.py") 436, Value.int 126 0, Value.int 1 0, Value.int 0 0, Value.int 0 0, Value.int 3 0, Value.ref 204, Value.bool true, Value.int 181 0, Value.ref 205, Value.none, Value.ref 206, Value.ref 207, Value.ref 208, Value.int 439 0, Value.int 126 0, Value.str (Str.ofString "/claim/cut.py") 440] }) ::
(nat_lit 210, { cls := Value.type "function", data := Data.func { name := Str.ofString "_ascii_buffer", qualname := Str.ofString "_ascii_buffer", params := parS (topS 11), body := FuncBody.stmts (bodyS (topS 11)), scope := { kind := ScopeKind.function, names := [(Str.ofString "data", NameKind.local), (Str.ofString "t", NameKind.local), (Str.ofString "type", NameKind.globalImplicit), (Str.ofString "str", NameKind.globalImplicit), (Str.ofString "ValueError", NameKind.globalImplicit), (Str.ofString "bytes", NameKind.globalImplicit), (Str.ofString "bytearray", NameKind.globalImplicit), (Str.ofString "_wall", NameKind.globalImplicit)], isGenerator := false, isCoroutine := false }, globals := 3, closure := [], defaults := Value.none, kwdefaults := Value.none, pyModule := Value.str (Str.ofString "binascii") 414, code := Value.ref 209 } }) ::
(nat_lit 211, { cls := Value.type "tuple", data := Data.seq #[] }) ::
(nat_lit 213, { cls := Value.type "tuple", data := Data.seq #[Value.str (Str.ofString "data") 445, Value.str (Str.ofString "t") 446] }) ::
(nat_lit 214, { cls := Value.type "tuple", data := Data.seq #[] }) ::
(nat_lit 216, { cls := Value.type "code", data := Data.fields #[Value.str (Str.ofString "_buffer") 442, Value.str (Str.ofString "_buffer") 443, Value.str (Str.ofString "/claim/cut.py") 444, Value.int 137 0, Value.int 1 0, Value.int 0 0, Value.int 0 0, Value.int 3 0, Value.ref 211, Value.bool true, Value.int 181 0, Value.ref 212, Value.none, Value.ref 213, Value.ref 214, Value.ref 215, Value.int 447 0, Value.int 137 0, Value.str (Str.ofString "/claim/cut.py") 448] }) ::
(nat_lit 217, { cls := Value.type "function", data := Data.func { name := Str.ofString "_buffer", qualname := Str.ofString "_buffer", params := parS (topS 12), body := FuncBody.stmts (bodyS (topS 12)), scope := { kind := ScopeKind.function, names := [(Str.ofString "data", NameKind.local), (Str.ofString "t", NameKind.local), (Str.ofString "type", NameKind.globalImplicit), (Str.ofString "bytes", NameKind.globalImplicit), (Str.ofString "bytearray", NameKind.globalImplicit), (Str.ofString "_wall", NameKind.globalImplicit)], isGenerator := false, isCoroutine := false }, globals := 3, closure := [], defaults := Value.none, kwdefaults := Value.none, pyModule := Value.str (Str.ofString "binascii") 414, code := Value.ref 216 } }) ::
(nat_lit 218, { cls := Value.type "tuple", data := Data.seq #[] }) ::
(nat_lit 220, { cls := Value.type "tuple", data := Data.seq #[Value.str (Str.ofString "x") 453, Value.str (Str.ofString "t") 454] }) ::
(nat_lit 221, { cls := Value.type "tuple", data := Data.seq #[] }) ::
(nat_lit 223, { cls := Value.type "code", data := Data.fields #[Value.str (Str.ofString "_truth") 450, Value.str (Str.ofString "_truth") 451, Value.str (Str.ofString "/claim/cut.py") 452, Value.int 144 0, Value.int 1 0, Value.int 0 0, Value.int 0 0, Value.int 3 0, Value.ref 218, Value.bool true, Value.int 181 0, Value.ref 219, Value.none, Value.ref 220, Value.ref 221, Value.ref 222, Value.int 455 0, Value.int 144 0, Value.str (Str.ofString "/claim/cut.py") 456] }) ::
(nat_lit 224, { cls := Value.type "function", data := Data.func { name := Str.ofString "_truth", qualname := Str.ofString "_truth", params := parS (topS 13), body := FuncBody.stmts (bodyS (topS 13)), scope := { kind := ScopeKind.function, names := [(Str.ofString "x", NameKind.local), (Str.ofString "t", NameKind.local), (Str.ofString "type", NameKind.globalImplicit), (Str.ofString "bool", NameKind.globalImplicit), (Str.ofString "int", NameKind.globalImplicit), (Str.ofString "float", NameKind.globalImplicit), (Str.ofString "complex", NameKind.globalImplicit), (Str.ofString "str", NameKind.globalImplicit), (Str.ofString "bytes", NameKind.globalImplicit), (Str.ofString "bytearray", NameKind.globalImplicit), (Str.ofString "list", NameKind.globalImplicit), (Str.ofString "tuple", NameKind.globalImplicit), (Str.ofString "dict", NameKind.globalImplicit), (Str.ofString "set", NameKind.globalImplicit), (Str.ofString "frozenset", NameKind.globalImplicit), (Str.ofString "range", NameKind.globalImplicit), (Str.ofString "_wall", NameKind.globalImplicit)], isGenerator := false, isCoroutine := false }, globals := 3, closure := [], defaults := Value.none, kwdefaults := Value.none, pyModule := Value.str (Str.ofString "binascii") 414, code := Value.ref 223 } }) ::
(nat_lit 225, { cls := Value.type "tuple", data := Data.seq #[] }) ::
(nat_lit 227, { cls := Value.type "tuple", data := Data.seq #[Value.str (Str.ofString "c") 463] }) ::
(nat_lit 228, { cls := Value.type "tuple", data := Data.seq #[] }) ::
(nat_lit 230, { cls := Value.type "code", data := Data.fields #[Value.str (Str.ofString "_b64_value") 460, Value.str (Str.ofString "_b64_value") 461, Value.str (Str.ofString "/claim/cut.py") 462, Value.int 150 0, Value.int 1 0, Value.int 0 0, Value.int 0 0, Value.int 3 0, Value.ref 225, Value.bool true, Value.int 181 0, Value.ref 226, Value.none, Value.ref 227, Value.ref 228, Value.ref 229, Value.int 464 0, Value.int 150 0, Value.str (Str.ofString "/claim/cut.py") 465] }) ::
(nat_lit 231, { cls := Value.type "function", data := Data.func { name := Str.ofString "_b64_value", qualname := Str.ofString "_b64_value", params := parS (topS 15), body := FuncBody.stmts (bodyS (topS 15)), scope := { kind := ScopeKind.function, names := [(Str.ofString "c", NameKind.local)], isGenerator := false, isCoroutine := false }, globals := 3, closure := [], defaults := Value.none, kwdefaults := Value.none, pyModule := Value.str (Str.ofString "binascii") 414, code := Value.ref 230 } }) ::
(nat_lit 232, { cls := Value.type "dict", data := Data.dict #[{ hash := PyData.keyHash P (Str.ofString "strict_mode"), key := Value.str (Str.ofString "strict_mode") 467, val := Value.bool false }] 1 }) ::
(nat_lit 233, { cls := Value.type "tuple", data := Data.seq #[] }) ::
(nat_lit 235, { cls := Value.type "tuple", data := Data.seq #[Value.str (Str.ofString "data") 471, Value.str (Str.ofString "strict_mode") 472, Value.str (Str.ofString "ascii_data") 473, Value.str (Str.ofString "out") 474, Value.str (Str.ofString "quad_pos") 475, Value.str (Str.ofString "leftchar") 476, Value.str (Str.ofString "pads") 477, Value.str (Str.ofString "i") 478, Value.str (Str.ofString "this_ch") 479] }) ::
(nat_lit 236, { cls := Value.type "tuple", data := Data.seq #[] }) ::
(nat_lit 238, { cls := Value.type "code", data := Data.fields #[Value.str (Str.ofString "a2b_base64") 468, Value.str (Str.ofString "a2b_base64") 469, Value.str (Str.ofString "/claim/cut.py") 470, Value.int 162 0, Value.int 1 0, Value.int 1 0, Value.int 1 0, Value.int 3 0, Value.ref 233, Value.bool true, Value.int 181 0, Value.ref 234, Value.none, Value.ref 235, Value.ref 236, Value.ref 237, Value.int 480 0, Value.int 162 0, Value.str (Str.ofString "/claim/cut.py") 481] }) ::
(nat_lit 239, { cls := Value.type "function", data := Data.func { name := Str.ofString "a2b_base64", qualname := Str.ofString "a2b_base64", params := parS (topS 16), body := FuncBody.stmts (bodyS (topS 16)), scope := { kind := ScopeKind.function, names := [(Str.ofString "data", NameKind.local), (Str.ofString "strict_mode", NameKind.local), (Str.ofString "ascii_data", NameKind.local), (Str.ofString "out", NameKind.local), (Str.ofString "quad_pos", NameKind.local), (Str.ofString "leftchar", NameKind.local), (Str.ofString "pads", NameKind.local), (Str.ofString "i", NameKind.local), (Str.ofString "this_ch", NameKind.local), (Str.ofString "_ascii_buffer", NameKind.globalImplicit), (Str.ofString "_truth", NameKind.globalImplicit), (Str.ofString "Error", NameKind.globalImplicit), (Str.ofString "_b64_value", NameKind.globalImplicit), (Str.ofString "len", NameKind.globalImplicit), (Str.ofString "bytes", NameKind.globalImplicit)], isGenerator := false, isCoroutine := false }, globals := 3, closure := [], defaults := Value.none, kwdefaults := Value.ref 232, pyModule := Value.str (Str.ofString "binascii") 414, code := Value.ref 238 } }) ::
(nat_lit 240, { cls := Value.type "dict", data := Data.dict #[{ hash := PyData.keyHash P (Str.ofString "newline"), key := Value.str (Str.ofString "newline") 483, val := Value.bool true }] 1 }) ::
(nat_lit 241, { cls := Value.type "tuple", data := Data.seq #[] }) ::
(nat_lit 243, { cls := Value.type "tuple", data := Data.seq #[Value.str (Str.ofString "data") 487, Value.str (Str.ofString "newline") 488, Value.str (Str.ofString "bin_data") 489, Value.str (Str.ofString "out") 490, Value.str (Str.ofString "leftbits") 491, Value.str (Str.ofString "leftchar") 492, Value.str (Str.ofString "b") 493] }) ::
(nat_lit 244, { cls := Value.type "tuple", data := Data.seq #[] }) ::
(nat_lit 246, { cls := Value.type "code", data := Data.fields #[Value.str (Str.ofString "b2a_base64") 484, Value.str (Str.ofString "b2a_base64") 485, Value.str (Str.ofString "/claim/cut.py") 486, Value.int 216 0, Value.int 1 0, Value.int 1 0, Value.int 1 0, Value.int 3 0, Value.ref 241, Value.bool true, Value.int 181 0, Value.ref 242, Value.none, Value.ref 243, Value.ref 244, Value.ref 245, Value.int 494 0, Value.int 216 0, Value.str (Str.ofString "/claim/cut.py") 495] }) ::
(nat_lit 247, { cls := Value.type "function", data := Data.func { name := Str.ofString "b2a_base64", qualname := Str.ofString "b2a_base64", params := parS (topS 17), body := FuncBody.stmts (bodyS (topS 17)), scope := { kind := ScopeKind.function, names := [(Str.ofString "data", NameKind.local), (Str.ofString "newline", NameKind.local), (Str.ofString "bin_data", NameKind.local), (Str.ofString "out", NameKind.local), (Str.ofString "leftbits", NameKind.local), (Str.ofString "leftchar", NameKind.local), (Str.ofString "b", NameKind.local), (Str.ofString "_buffer", NameKind.globalImplicit), (Str.ofString "_truth", NameKind.globalImplicit), (Str.ofString "_B64", NameKind.globalImplicit), (Str.ofString "bytes", NameKind.globalImplicit)], isGenerator := false, isCoroutine := false }, globals := 3, closure := [], defaults := Value.none, kwdefaults := Value.ref 240, pyModule := Value.str (Str.ofString "binascii") 414, code := Value.ref 246 } }) ::
(nat_lit 248, { cls := Value.type "tuple", data := Data.seq #[Value.none] }) ::
(nat_lit 249, { cls := Value.type "tuple", data := Data.seq #[] }) ::
(nat_lit 251, { cls := Value.type "tuple", data := Data.seq #[Value.str (Str.ofString "s") 502, Value.str (Str.ofString "altchars") 503, Value.str (Str.ofString "encoded") 504] }) ::
(nat_lit 252, { cls := Value.type "tuple", data := Data.seq #[] }) ::
(nat_lit 254, { cls := Value.type "code", data := Data.fields #[Value.str (Str.ofString "b64encode") 499, Value.str (Str.ofString "b64encode") 500, Value.str (Str.ofString "/claim/cut.py") 501, Value.int 239 0, Value.int 2 0, Value.int 0 0, Value.int 0 0, Value.int 3 0, Value.ref 249, Value.bool true, Value.int 181 0, Value.ref 250, Value.none, Value.ref 251, Value.ref 252, Value.ref 253, Value.int 505 0, Value.int 239 0, Value.str (Str.ofString "/claim/cut.py") 506] }) ::
(nat_lit 255, { cls := Value.type "function", data := Data.func { name := Str.ofString "b64encode", qualname := Str.ofString "b64encode", params := parS (topS 19), body := FuncBody.stmts (bodyS (topS 19)), scope := { kind := ScopeKind.function, names := [(Str.ofString "s", NameKind.local), (Str.ofString "altchars", NameKind.local), (Str.ofString "encoded", NameKind.local), (Str.ofString "b2a_base64", NameKind.globalImplicit), (Str.ofString "len", NameKind.globalImplicit), (Str.ofString "repr", NameKind.globalImplicit), (Str.ofString "bytes", NameKind.globalImplicit)], isGenerator := false, isCoroutine := false }, globals := 3, closure := [], defaults := Value.ref 248, kwdefaults := Value.none, pyModule := Value.str (Str.ofString "cpy313.base64") 497, code := Value.ref 254 } }) ::
(nat_lit 256, { cls := Value.type "tuple", data := Data.seq #[Value.none, Value.bool false] }) ::
(nat_lit 257, { cls := Value.type "tuple", data := Data.seq #[] }) ::
(nat_lit 259, { cls := Value.type "tuple", data := Data.seq #[Value.str (Str.ofString "s") 511, Value.str (Str.ofString "altchars") 512, Value.str (Str.ofString "validate") 513] }) ::
(nat_lit 260, { cls := Value.type "tuple", data := Data.seq #[] }) ::
(nat_lit 262, { cls := Value.type "code", data := Data.fields #[Value.str (Str.ofString "b64decode") 508, Value.str (Str.ofString "b64decode") 509, Value.str (Str.ofString "/claim/cut.py") 510, Value.int 245 0, Value.int 3 0, Value.int 0 0, Value.int 0 0, Value.int 3 0, Value.ref 257, Value.bool true, Value.int 181 0, Value.ref 258, Value.none, Value.ref 259, Value.ref 260, Value.ref 261, Value.int 514 0, Value.int 245 0, Value.str (Str.ofString "/claim/cut.py") 515] }) ::
(nat_lit 263, { cls := Value.type "function", data := Data.func { name := Str.ofString "b64decode", qualname := Str.ofString "b64decode", params := parS (topS 20), body := FuncBody.stmts (bodyS (topS 20)), scope := { kind := ScopeKind.function, names := [(Str.ofString "s", NameKind.local), (Str.ofString "altchars", NameKind.local), (Str.ofString "validate", NameKind.local), (Str.ofString "_bytes_from_decode_data", NameKind.globalImplicit), (Str.ofString "len", NameKind.globalImplicit), (Str.ofString "repr", NameKind.globalImplicit), (Str.ofString "bytes", NameKind.globalImplicit), (Str.ofString "a2b_base64", NameKind.globalImplicit)], isGenerator := false, isCoroutine := false }, globals := 3, closure := [], defaults := Value.ref 256, kwdefaults := Value.none, pyModule := Value.str (Str.ofString "cpy313.base64") 497, code := Value.ref 262 } }) ::
(nat_lit 264, { cls := Value.type "tuple", data := Data.seq #[] }) ::
(nat_lit 266, { cls := Value.type "tuple", data := Data.seq #[Value.str (Str.ofString "expected") 522, Value.str (Str.ofString "actual") 523, Value.str (Str.ofString "i") 524, Value.str (Str.ofString "j") 525, Value.str (Str.ofString "missing") 526, Value.str (Str.ofString "unexpected") 527, Value.str (Str.ofString "e") 528, Value.str (Str.ofString "a") 529] }) ::
(nat_lit 267, { cls := Value.type "tuple", data := Data.seq #[] }) ::
(nat_lit 269, { cls := Value.type "code", data := Data.fields #[Value.str (Str.ofString "sorted_list_difference") 519, Value.str (Str.ofString "sorted_list_difference") 520, Value.str (Str.ofString "/claim/cut.py") 521, Value.int 253 0, Value.int 2 0, Value.int 0 0, Value.int 0 0, Value.int 3 0, Value.ref 264, Value.bool true, Value.int 181 0, Value.ref 265, Value.none, Value.ref 266, Value.ref 267, Value.ref 268, Value.int 530 0, Value.int 253 0, Value.str (Str.ofString "/claim/cut.py") 531] }) ::
(nat_lit 270, { cls := Value.type "function", data := Data.func { name := Str.ofString "sorted_list_difference", qualname := Str.ofString "sorted_list_difference", params := parS (topS 22), body := FuncBody.stmts (bodyS (topS 22)), scope := { kind := ScopeKind.function, names := [(Str.ofString "expected", NameKind.local), (Str.ofString "actual", NameKind.local), (Str.ofString "i", NameKind.local), (Str.ofString "j", NameKind.local), (Str.ofString "missing", NameKind.local), (Str.ofString "unexpected", NameKind.local), (Str.ofString "e", NameKind.local), (Str.ofString "a", NameKind.local), (Str.ofString "IndexError", NameKind.globalImplicit)], isGenerator := false, isCoroutine := false }, globals := 3, closure := [], defaults := Value.none, kwdefaults := Value.none, pyModule := Value.str (Str.ofString "cpy313.unittest.util") 517, code := Value.ref 269 } }) ::
(nat_lit 271, { cls := Value.type "tuple", data := Data.seq #[] }) ::
(nat_lit 273, { cls := Value.type "tuple", data := Data.seq #[Value.str (Str.ofString "expected") 536, Value.str (Str.ofString "actual") 537, Value.str (Str.ofString "missing") 538, Value.str (Str.ofString "item") 539] }) ::
(nat_lit 274, { cls := Value.type "tuple", data := Data.seq #[] }) ::
(nat_lit 276, { cls := Value.type "code", data := Data.fields #[Value.str (Str.ofString "unorderable_list_difference") 533, Value.str (Str.ofString "unorderable_list_difference") 534, Value.str (Str.ofString "/claim/cut.py") 535, Value.int 285 0, Value.int 2 0, Value.int 0 0, Value.int 0 0, Value.int 3 0, Value.ref 271, Value.bool true, Value.int 181 0, Value.ref 272, Value.none, Value.ref 273, Value.ref 274, Value.ref 275, Value.int 540 0, Value.int 285 0, Value.str (Str.ofString "/claim/cut.py") 541] }) ::
(nat_lit 277, { cls := Value.type "function", data := Data.func { name := Str.ofString "unorderable_list_difference", qualname := Str.ofString "unorderable_list_difference", params := parS (topS 23), body := FuncBody.stmts (bodyS (topS 23)), scope := { kind := ScopeKind.function, names := [(Str.ofString "expected", NameKind.local), (Str.ofString "actual", NameKind.local), (Str.ofString "missing", NameKind.local), (Str.ofString "item", NameKind.local), (Str.ofString "ValueError", NameKind.globalImplicit)], isGenerator := false, isCoroutine := false }, globals := 3, closure := [], defaults := Value.none, kwdefaults := Value.none, pyModule := Value.str (Str.ofString "cpy313.unittest.util") 517, code := Value.ref 276 } }) ::
(nat_lit 278, { cls := Value.type "tuple", data := Data.seq #[] }) ::
(nat_lit 280, { cls := Value.type "tuple", data := Data.seq #[Value.str (Str.ofString "x") 546, Value.str (Str.ofString "y") 547] }) ::
(nat_lit 281, { cls := Value.type "tuple", data := Data.seq #[] }) ::
(nat_lit 283, { cls := Value.type "code", data := Data.fields #[Value.str (Str.ofString "three_way_cmp") 543, Value.str (Str.ofString "three_way_cmp") 544, Value.str (Str.ofString "/claim/cut.py") 545, Value.int 294 0, Value.int 2 0, Value.int 0 0, Value.int 0 0, Value.int 3 0, Value.ref 278, Value.bool true, Value.int 181 0, Value.ref 279, Value.none, Value.ref 280, Value.ref 281, Value.ref 282, Value.int 548 0, Value.int 294 0, Value.str (Str.ofString "/claim/cut.py") 549] }) ::
(nat_lit 284, { cls := Value.type "function", data := Data.func { name := Str.ofString "three_way_cmp", qualname := Str.ofString "three_way_cmp", params := parS (topS 24), body := FuncBody.stmts (bodyS (topS 24)), scope := { kind := ScopeKind.function, names := [(Str.ofString "x", NameKind.local), (Str.ofString "y", NameKind.local)], isGenerator := false, isCoroutine := false }, globals := 3, closure := [], defaults := Value.none, kwdefaults := Value.none, pyModule := Value.str (Str.ofString "cpy313.unittest.util") 517, code := Value.ref 283 } }) ::
(nat_lit 285, { cls := Value.type "tuple", data := Data.seq #[] }) ::
(nat_lit 288, { cls := Value.type "code", data := Data.fields #[Value.str (Str.ofString "_law_octets") 553, Value.str (Str.ofString "_law_octets") 554, Value.str (Str.ofString "/claim/cut.py") 555, Value.int 297 0, Value.int 1 0, Value.int 0 0, Value.int 0 0, Value.int 3 0, Value.ref 285, Value.bool true, Value.int 181 0, Value.ref 286, Value.none, Value.none, Value.none, Value.ref 287, Value.int 556 0, Value.int 297 0, Value.str (Str.ofString "/claim/cut.py") 557] }) ::
(nat_lit 289, { cls := Value.type "function", data := Data.func { name := Str.ofString "_law_octets", qualname := Str.ofString "_law_octets", params := parS (topS 26), body := FuncBody.stmts (bodyS (topS 26)), scope := { kind := ScopeKind.function, names := [(Str.ofString "x", NameKind.cell), (Str.ofString "bytes", NameKind.globalImplicit), (Str.ofString "range", NameKind.globalImplicit)], isGenerator := false, isCoroutine := false, more := [(Str.ofString "fast", Const.str (Str.ofString "x")), (Str.ofString "fast", Const.str (Str.ofString "k"))] }, globals := 3, closure := [], defaults := Value.none, kwdefaults := Value.none, pyModule := Value.str (Str.ofString "law_oy0243_01") 551, code := Value.ref 288 } }) ::
(nat_lit 290, { cls := Value.type "tuple", data := Data.seq #[] }) ::
(nat_lit 292, { cls := Value.type "tuple", data := Data.seq #[Value.str (Str.ofString "words") 562, Value.str (Str.ofString "width") 563, Value.str (Str.ofString "lines") 564, Value.str (Str.ofString "line") 565, Value.str (Str.ofString "word") 566] }) ::
(nat_lit 293, { cls := Value.type "tuple", data := Data.seq #[] }) ::
(nat_lit 295, { cls := Value.type "code", data := Data.fields #[Value.str (Str.ofString "_law_lines") 559, Value.str (Str.ofString "_law_lines") 560, Value.str (Str.ofString "/claim/cut.py") 561, Value.int 299 0, Value.int 2 0, Value.int 0 0, Value.int 0 0, Value.int 3 0, Value.ref 290, Value.bool true, Value.int 181 0, Value.ref 291, Value.none, Value.ref 292, Value.ref 293, Value.ref 294, Value.int 567 0, Value.int 299 0, Value.str (Str.ofString "/claim/cut.py") 568] }) ::
(nat_lit 296, { cls := Value.type "function", data := Data.func { name := Str.ofString "_law_lines", qualname := Str.ofString "_law_lines", params := parS (topS 27), body := FuncBody.stmts (bodyS (topS 27)), scope := { kind := ScopeKind.function, names := [(Str.ofString "words", NameKind.local), (Str.ofString "width", NameKind.local), (Str.ofString "lines", NameKind.local), (Str.ofString "line", NameKind.local), (Str.ofString "word", NameKind.local), (Str.ofString "len", NameKind.globalImplicit)], isGenerator := false, isCoroutine := false }, globals := 3, closure := [], defaults := Value.none, kwdefaults := Value.none, pyModule := Value.str (Str.ofString "law_oy0243_01") 551, code := Value.ref 295 } }) ::
(nat_lit 297, { cls := Value.type "tuple", data := Data.seq #[] }) ::
(nat_lit 299, { cls := Value.type "tuple", data := Data.seq #[Value.str (Str.ofString "words") 573, Value.str (Str.ofString "width") 574, Value.str (Str.ofString "formatter") 575, Value.str (Str.ofString "word") 576] }) ::
(nat_lit 300, { cls := Value.type "tuple", data := Data.seq #[] }) ::
(nat_lit 302, { cls := Value.type "code", data := Data.fields #[Value.str (Str.ofString "_law_folded") 570, Value.str (Str.ofString "_law_folded") 571, Value.str (Str.ofString "/claim/cut.py") 572, Value.int 308 0, Value.int 2 0, Value.int 0 0, Value.int 0 0, Value.int 3 0, Value.ref 297, Value.bool true, Value.int 181 0, Value.ref 298, Value.none, Value.ref 299, Value.ref 300, Value.ref 301, Value.int 577 0, Value.int 308 0, Value.str (Str.ofString "/claim/cut.py") 578] }) ::
(nat_lit 303, { cls := Value.type "function", data := Data.func { name := Str.ofString "_law_folded", qualname := Str.ofString "_law_folded", params := parS (topS 28), body := FuncBody.stmts (bodyS (topS 28)), scope := { kind := ScopeKind.function, names := [(Str.ofString "words", NameKind.local), (Str.ofString "width", NameKind.local), (Str.ofString "formatter", NameKind.local), (Str.ofString "word", NameKind.local), (Str.ofString "_ValueFormatter", NameKind.globalImplicit), (Str.ofString "str", NameKind.globalImplicit)], isGenerator := false, isCoroutine := false }, globals := 3, closure := [], defaults := Value.none, kwdefaults := Value.none, pyModule := Value.str (Str.ofString "law_oy0243_01") 551, code := Value.ref 302 } }) ::
(nat_lit 304, { cls := Value.type "tuple", data := Data.seq #[] }) ::
(nat_lit 306, { cls := Value.type "tuple", data := Data.seq #[Value.str (Str.ofString "lines") 583] }) ::
(nat_lit 307, { cls := Value.type "tuple", data := Data.seq #[] }) ::
(nat_lit 309, { cls := Value.type "code", data := Data.fields #[Value.str (Str.ofString "_law_words") 580, Value.str (Str.ofString "_law_words") 581, Value.str (Str.ofString "/claim/cut.py") 582, Value.int 313 0, Value.int 1 0, Value.int 0 0, Value.int 0 0, Value.int 3 0, Value.ref 304, Value.bool true, Value.int 181 0, Value.ref 305, Value.none, Value.ref 306, Value.ref 307, Value.ref 308, Value.int 584 0, Value.int 313 0, Value.str (Str.ofString "/claim/cut.py") 585] }) ::
(nat_lit 310, { cls := Value.type "function", data := Data.func { name := Str.ofString "_law_words", qualname := Str.ofString "_law_words", params := parS (topS 29), body := FuncBody.stmts (bodyS (topS 29)), scope := { kind := ScopeKind.function, names := [(Str.ofString "lines", NameKind.local)], isGenerator := false, isCoroutine := false }, globals := 3, closure := [], defaults := Value.none, kwdefaults := Value.none, pyModule := Value.str (Str.ofString "law_oy0243_01") 551, code := Value.ref 309 } }) ::
(nat_lit 311, { cls := Value.type "tuple", data := Data.seq #[] }) ::
(nat_lit 313, { cls := Value.type "tuple", data := Data.seq #[Value.str (Str.ofString "ones") 590, Value.str (Str.ofString "others") 591, Value.str (Str.ofString "alone") 592, Value.str (Str.ofString "word") 593] }) ::
(nat_lit 314, { cls := Value.type "tuple", data := Data.seq #[] }) ::
(nat_lit 316, { cls := Value.type "code", data := Data.fields #[Value.str (Str.ofString "_law_alone") 587, Value.str (Str.ofString "_law_alone") 588, Value.str (Str.ofString "/claim/cut.py") 589, Value.int 315 0, Value.int 2 0, Value.int 0 0, Value.int 0 0, Value.int 3 0, Value.ref 311, Value.bool true, Value.int 181 0, Value.ref 312, Value.none, Value.ref 313, Value.ref 314, Value.ref 315, Value.int 594 0, Value.int 315 0, Value.str (Str.ofString "/claim/cut.py") 595] }) ::
(nat_lit 317, { cls := Value.type "function", data := Data.func { name := Str.ofString "_law_alone", qualname := Str.ofString "_law_alone", params := parS (topS 30), body := FuncBody.stmts (bodyS (topS 30)), scope := { kind := ScopeKind.function, names := [(Str.ofString "ones", NameKind.local), (Str.ofString "others", NameKind.local), (Str.ofString "alone", NameKind.local), (Str.ofString "word", NameKind.local), (Str.ofString "sorted", NameKind.globalImplicit), (Str.ofString "max", NameKind.globalImplicit)], isGenerator := false, isCoroutine := false }, globals := 3, closure := [], defaults := Value.none, kwdefaults := Value.none, pyModule := Value.str (Str.ofString "law_oy0243_01") 551, code := Value.ref 316 } }) ::
(nat_lit 318, { cls := Value.type "tuple", data := Data.seq #[] }) ::
(nat_lit 320, { cls := Value.type "tuple", data := Data.seq #[Value.str (Str.ofString "ones") 600, Value.str (Str.ofString "others") 601, Value.str (Str.ofString "rest") 602, Value.str (Str.ofString "more") 603, Value.str (Str.ofString "word") 604, Value.str (Str.ofString "lacking") 605, Value.str (Str.ofString "left") 606] }) ::
(nat_lit 321, { cls := Value.type "tuple", data := Data.seq #[] }) ::
(nat_lit 323, { cls := Value.type "code", data := Data.fields #[Value.str (Str.ofString "_law_differ") 597, Value.str (Str.ofString "_law_differ") 598, Value.str (Str.ofString "/claim/cut.py") 599, Value.int 321 0, Value.int 2 0, Value.int 0 0, Value.int 0 0, Value.int 3 0, Value.ref 318, Value.bool true, Value.int 181 0, Value.ref 319, Value.none, Value.ref 320, Value.ref 321, Value.ref 322, Value.int 607 0, Value.int 321 0, Value.str (Str.ofString "/claim/cut.py") 608] }) ::
(nat_lit 324, { cls := Value.type "function", data := Data.func { name := Str.ofString "_law_differ", qualname := Str.ofString "_law_differ", params := parS (topS 31), body := FuncBody.stmts (bodyS (topS 31)), scope := { kind := ScopeKind.function, names := [(Str.ofString "ones", NameKind.local), (Str.ofString "others", NameKind.local), (Str.ofString "rest", NameKind.local), (Str.ofString "more", NameKind.local), (Str.ofString "word", NameKind.local), (Str.ofString "lacking", NameKind.local), (Str.ofString "left", NameKind.local), (Str.ofString "sorted_list_difference", NameKind.globalImplicit), (Str.ofString "sorted", NameKind.globalImplicit), (Str.ofString "_law_alone", NameKind.globalImplicit), (Str.ofString "list", NameKind.globalImplicit), (Str.ofString "unorderable_list_difference", NameKind.globalImplicit)], isGenerator := false, isCoroutine := false }, globals := 3, closure := [], defaults := Value.none, kwdefaults := Value.none, pyModule := Value.str (Str.ofString "law_oy0243_01") 551, code := Value.ref 323 } }) ::
(nat_lit 325, { cls := Value.type "tuple", data := Data.seq #[] }) ::
(nat_lit 327, { cls := Value.type "tuple", data := Data.seq #[Value.str (Str.ofString "x") 613] }) ::
(nat_lit 328, { cls := Value.type "tuple", data := Data.seq #[] }) ::
(nat_lit 330, { cls := Value.type "code", data := Data.fields #[Value.str (Str.ofString "_law_writing") 610, Value.str (Str.ofString "_law_writing") 611, Value.str (Str.ofString "/claim/cut.py") 612, Value.int 333 0, Value.int 1 0, Value.int 0 0, Value.int 0 0, Value.int 3 0, Value.ref 325, Value.bool true, Value.int 181 0, Value.ref 326, Value.none, Value.ref 327, Value.ref 328, Value.ref 329, Value.int 614 0, Value.int 333 0, Value.str (Str.ofString "/claim/cut.py") 615] }) ::
(nat_lit 331, { cls := Value.type "function", data := Data.func { name := Str.ofString "_law_writing", qualname := Str.ofString "_law_writing", params := parS (topS 32), body := FuncBody.stmts (bodyS (topS 32)), scope := { kind := ScopeKind.function, names := [(Str.ofString "x", NameKind.local), (Str.ofString "b64encode", NameKind.globalImplicit), (Str.ofString "_law_octets", NameKind.globalImplicit)], isGenerator := false, isCoroutine := false }, globals := 3, closure := [], defaults := Value.none, kwdefaults := Value.none, pyModule := Value.str (Str.ofString "law_oy0243_01") 551, code := Value.ref 330 } }) ::
(nat_lit 332, { cls := Value.type "tuple", data := Data.seq #[] }) ::
(nat_lit 335, { cls := Value.type "code", data := Data.fields #[Value.str (Str.ofString "law") 617, Value.str (Str.ofString "law") 618, Value.str (Str.ofString "/claim/cut.py") 619, Value.int 335 0, Value.int 1 0, Value.int 0 0, Value.int 0 0, Value.int 3 0, Value.ref 332, Value.bool true, Value.int 181 0, Value.ref 333, Value.none, Value.none, Value.none, Value.ref 334, Value.int 620 0, Value.int 335 0, Value.str (Str.ofString "/claim/cut.py") 621] }) ::
(nat_lit 336, { cls := Value.type "function", data := Data.func { name := Str.ofString "law", qualname := Str.ofString "law", params := parS (topS 33), body := FuncBody.stmts (bodyS (topS 33)), scope := { kind := ScopeKind.function, names := [(Str.ofString "script", NameKind.local), (Str.ofString "numbers", NameKind.local), (Str.ofString "words", NameKind.local), (Str.ofString "seconds", NameKind.local), (Str.ofString "width", NameKind.local), (Str.ofString "lines", NameKind.local), (Str.ofString "others", NameKind.local), (Str.ofString "order", NameKind.local), (Str.ofString "_law_folded", NameKind.globalImplicit), (Str.ofString "_law_lines", NameKind.globalImplicit), (Str.ofString "_law_words", NameKind.globalImplicit), (Str.ofString "len", NameKind.globalImplicit), (Str.ofString "three_way_cmp", NameKind.globalImplicit), (Str.ofString "_law_differ", NameKind.globalImplicit)], isGenerator := false, isCoroutine := false, more := [(Str.ofString "fast", Const.str (Str.ofString "script")), (Str.ofString "fast", Const.str (Str.ofString "numbers")), (Str.ofString "fast", Const.str (Str.ofString "x")), (Str.ofString "fast", Const.str (Str.ofString "words")), (Str.ofString "fast", Const.str (Str.ofString "number")), (Str.ofString "fast", Const.str (Str.ofString "seconds")), (Str.ofString "fast", Const.str (Str.ofString "width")), (Str.ofString "fast", Const.str (Str.ofString "lines")), (Str.ofString "fast", Const.str (Str.ofString "others")), (Str.ofString "fast", Const.str (Str.ofString "word")), (Str.ofString "fast", Const.str (Str.ofString "order"))] }, globals := 3, closure := [], defaults := Value.none, kwdefaults := Value.none, pyModule := Value.str (Str.ofString "law_oy0243_01") 551, code := Value.ref 335 } }) :: []
end
section
open PySem PySem.W PySem.Spec PySem.Calls PyProof.Rows
set_option maxRecDepth 100000
set_option maxHeartbeats 8000000
noncomputable def bootL (P : Params) : List Obj := [boot_o_0 P, boot_o_1 P, boot_o_2 P, boot_o_3 P, boot_o_4 P, boot_o_5 P, boot_o_6 P, boot_o_7 P, boot_o_8 P, boot_o_9 P, boot_o_10 P]
def insAll : BT → Nat → List Obj → BT
  | t, _, [] => t
  | t, n, o :: l => insAll (t.ins n o) (n + 1) l
noncomputable def bootT (P : Params) : BT := insAll .nil 0 (bootL P)
theorem boot_is (P : Params) : boot_heap P = absHeap (bootT P) 11 {} := by kernel_rfl
theorem opens (w : World) : (fencedOpening treeTable PySem.Challenge.pw_oy0243_01 w 4012).map (fun s => (s.heap, s.gens, s.drawn, s.toks)) = some (absHeap (bootT w.params) 11 {}, Array.mk [], boot_drawn, boot_toks) := by
  rw [← boot_is]
  exact boot_open (by kernel_rfl) (by decide) (fun s => by kernel_rfl) w
theorem sized (w : World) : ((absHeap (bootT w.params) 11 {}).isNs mainGlobals && (Array.mk [] : Array GenState).size == 0, (absHeap (bootT w.params) 11 {}).objs.size, (absHeap (bootT w.params) 11 {}).nsMap mainGlobals "__annotations__") = (true, 11, some (.ref 6)) := by kernel_rfl
def EO : Obj := { cls := Value.none, data := Data.fields #[] }
noncomputable def RR : Params → Frag := fun P =>
(nat_lit 0, boot_o_0 P) ::
(nat_lit 1, boot_o_1 P) ::
(nat_lit 4, boot_o_4 P) ::
(nat_lit 5, boot_o_5 P) ::
(nat_lit 6, boot_o_6 P) ::
(nat_lit 7, boot_o_7 P) ::
(nat_lit 8, boot_o_8 P) ::
(nat_lit 9, boot_o_9 P) ::
(nat_lit 10, boot_o_10 P) ::
(nat_lit 11, { cls := Value.type "tuple", data := Data.seq #[] }) ::
(nat_lit 12, { cls := Value.none, data := Data.fields #[Value.int 1 0, Value.int 0 0, Value.ref 20, Value.int 7 0, Value.int 0 0, Value.ref 27, Value.int 73 0, Value.int 0 0, Value.ref 105, Value.int 111 0, Value.int 0 0, Value.ref 189, Value.int 124 0, Value.int 0 0, Value.ref 196, Value.int 126 0, Value.int 0 0, Value.ref 209, Value.int 137 0, Value.int 0 0, Value.ref 216, Value.int 144 0, Value.int 0 0, Value.ref 223, Value.int 150 0, Value.int 0 0, Value.ref 230, Value.int 162 0, Value.int 0 0, Value.ref 238, Value.int 216 0, Value.int 0 0, Value.ref 246, Value.int 239 0, Value.int 0 0, Value.ref 254, Value.int 245 0, Value.int 0 0, Value.ref 262, Value.int 253 0, Value.int 0 0, Value.ref 269, Value.int 285 0, Value.int 0 0, Value.ref 276, Value.int 294 0, Value.int 0 0, Value.ref 283, Value.int 297 0, Value.int 0 0, Value.ref 288, Value.int 299 0, Value.int 0 0, Value.ref 295, Value.int 308 0, Value.int 0 0, Value.ref 302, Value.int 313 0, Value.int 0 0, Value.ref 309, Value.int 315 0, Value.int 0 0, Value.ref 316, Value.int 321 0, Value.int 0 0, Value.ref 323, Value.int 333 0, Value.int 0 0, Value.ref 330, Value.int 335 0, Value.int 0 0, Value.ref 335] }) ::
(nat_lit 13, { cls := Value.type "code", data := Data.fields #[Value.str (Str.ofString "<module>") 182, Value.str (Str.ofString "<module>") 183, Value.str (Str.ofString "/claim/cut.py") 184, Value.int 1 0, Value.int 0 0, Value.int 0 0, Value.int 0 0, Value.int 0 0, Value.ref 11, Value.bool false, Value.int 181 0, Value.ref 12, Value.none, Value.none, Value.none, Value.none, Value.int 185 0, Value.int 1 0, Value.str (Str.ofString "/claim/cut.py") 186] }) ::
(nat_lit 14, { cls := Value.type "frame", slots := #[some (Value.ref 13), some (Value.ref 3), some (Value.ref 3), none, some (Value.str (Str.ofString "__main__") 164), none, some (Value.ref 0)] }) ::
(nat_lit 16, EO) ::
(nat_lit 19, { cls := Value.none, data := Data.func { name := Str.ofString "_wall", qualname := Str.ofString "_wall", params := parS (topS 0), body := FuncBody.stmts (bodyS (topS 0)), scope := { kind := ScopeKind.function, names := [(Str.ofString "k", NameKind.local)], isGenerator := false, isCoroutine := false }, globals := 0, closure := [], defaults := Value.none, kwdefaults := Value.none } }) ::
(nat_lit 22, { cls := Value.type "tuple", data := Data.seq #[] }) ::
(nat_lit 23, { cls := Value.type "builtin_function_or_method", data := Data.fields #[Value.builtin "type.__prepare__", Value.type "type"] }) ::
(nat_lit 24, { cls := Value.type "dict", data := Data.dict #[{ hash := PyData.keyHash P (Str.ofString "__module__"), key := Value.str (Str.ofString "__module__") 207, val := Value.str (Str.ofString "cpy313.email.header") 194 }, { hash := PyData.keyHash P (Str.ofString "__qualname__"), key := Value.str (Str.ofString "__qualname__") 209, val := Value.str (Str.ofString "_ValueFormatter") 208 }, { hash := PyData.keyHash P (Str.ofString "__firstlineno__"), key := Value.str (Str.ofString "__firstlineno__") 211, val := Value.int 7 210 }, { hash := PyData.keyHash P (Str.ofString "__init__"), key := Value.str (Str.ofString "__init__") 222, val := Value.ref 35 }, { hash := PyData.keyHash P (Str.ofString "_str"), key := Value.str (Str.ofString "_str") 230, val := Value.ref 42 }, { hash := PyData.keyHash P (Str.ofString "__str__"), key := Value.str (Str.ofString "__str__") 237, val := Value.ref 49 }, { hash := PyData.keyHash P (Str.ofString "newline"), key := Value.str (Str.ofString "newline") 245, val := Value.ref 56 }, { hash := PyData.keyHash P (Str.ofString "add_transition"), key := Value.str (Str.ofString "add_transition") 252, val := Value.ref 63 }, { hash := PyData.keyHash P (Str.ofString "feed"), key := Value.str (Str.ofString "feed") 262, val := Value.ref 70 }, { hash := PyData.keyHash P (Str.ofString "_maxlengths"), key := Value.str (Str.ofString "_maxlengths") 269, val := Value.ref 77 }, { hash := PyData.keyHash P (Str.ofString "_ascii_split"), key := Value.str (Str.ofString "_ascii_split") 279, val := Value.ref 84 }, { hash := PyData.keyHash P (Str.ofString "_append_chunk"), key := Value.str (Str.ofString "_append_chunk") 293, val := Value.ref 91 }, { hash := PyData.keyHash P (Str.ofString "__static_attributes__"), key := Value.str (Str.ofString "__static_attributes__") 300, val := Value.ref 92 }] 13 }) ::
(nat_lit 25, { cls := Value.type "tuple", data := Data.seq #[] }) ::
(nat_lit 26, { cls := Value.none, data := Data.fields #[Value.int 9 0, Value.int 4 0, Value.ref 34, Value.int 17 0, Value.int 4 0, Value.ref 41, Value.int 21 0, Value.int 4 0, Value.ref 48, Value.int 24 0, Value.int 4 0, Value.ref 55, Value.int 35 0, Value.int 4 0, Value.ref 62, Value.int 38 0, Value.int 4 0, Value.ref 69, Value.int 41 0, Value.int 4 0, Value.ref 76, Value.int 44 0, Value.int 4 0, Value.ref 83, Value.int 47 0, Value.int 4 0, Value.ref 90] }) ::
(nat_lit 27, { cls := Value.type "code", data := Data.fields #[Value.str (Str.ofString "_ValueFormatter") 202, Value.str (Str.ofString "_ValueFormatter") 203, Value.str (Str.ofString "/claim/cut.py") 204, Value.int 7 0, Value.int 0 0, Value.int 0 0, Value.int 0 0, Value.int 0 0, Value.ref 25, Value.bool false, Value.int 181 0, Value.ref 26, Value.none, Value.none, Value.none, Value.none, Value.int 205 0, Value.int 7 0, Value.str (Str.ofString "/claim/cut.py") 206] }) ::
(nat_lit 28, { cls := Value.type "frame", slots := #[some (Value.ref 27), some (Value.ref 3), some (Value.ref 24), none, some (Value.str (Str.ofString "cpy313.email.header") 194), none, some (Value.ref 0)] }) ::
(nat_lit 30, EO) ::
(nat_lit 33, { cls := Value.none, data := Data.func { name := Str.ofString "__init__", qualname := Str.ofString "_ValueFormatter.__init__", params := parS (subS 4 0), body := FuncBody.stmts (bodyS (subS 4 0)), scope := { kind := ScopeKind.function, names := [(Str.ofString "self", NameKind.local), (Str.ofString "headerlen", NameKind.local), (Str.ofString "maxlen", NameKind.local), (Str.ofString "continuation_ws", NameKind.local), (Str.ofString "splitchars", NameKind.local), (Str.ofString "len", NameKind.globalImplicit), (Str.ofString "_Accumulator", NameKind.globalImplicit)], isGenerator := false, isCoroutine := false }, globals := 0, closure := [], defaults := Value.none, kwdefaults := Value.none } }) ::
(nat_lit 37, EO) ::
(nat_lit 40, { cls := Value.none, data := Data.func { name := Str.ofString "_str", qualname := Str.ofString "_ValueFormatter._str", params := parS (subS 4 1), body := FuncBody.stmts (bodyS (subS 4 1)), scope := { kind := ScopeKind.function, names := [(Str.ofString "self", NameKind.local), (Str.ofString "linesep", NameKind.local)], isGenerator := false, isCoroutine := false }, globals := 0, closure := [], defaults := Value.none, kwdefaults := Value.none } }) ::
(nat_lit 44, EO) ::
(nat_lit 47, { cls := Value.none, data := Data.func { name := Str.ofString "__str__", qualname := Str.ofString "_ValueFormatter.__str__", params := parS (subS 4 2), body := FuncBody.stmts (bodyS (subS 4 2)), scope := { kind := ScopeKind.function, names := [(Str.ofString "self", NameKind.local), (Str.ofString "NL", NameKind.globalImplicit)], isGenerator := false, isCoroutine := false }, globals := 0, closure := [], defaults := Value.none, kwdefaults := Value.none } }) ::
(nat_lit 51, EO) ::
(nat_lit 54, { cls := Value.none, data := Data.func { name := Str.ofString "newline", qualname := Str.ofString "_ValueFormatter.newline", params := parS (subS 4 3), body := FuncBody.stmts (bodyS (subS 4 3)), scope := { kind := ScopeKind.function, names := [(Str.ofString "self", NameKind.local), (Str.ofString "end_of_line", NameKind.local), (Str.ofString "len", NameKind.globalImplicit), (Str.ofString "str", NameKind.globalImplicit)], isGenerator := false, isCoroutine := false }, globals := 0, closure := [], defaults := Value.none, kwdefaults := Value.none } }) ::
(nat_lit 58, EO) ::
(nat_lit 61, { cls := Value.none, data := Data.func { name := Str.ofString "add_transition", qualname := Str.ofString "_ValueFormatter.add_transition", params := parS (subS 4 4), body := FuncBody.stmts (bodyS (subS 4 4)), scope := { kind := ScopeKind.function, names := [(Str.ofString "self", NameKind.local), (Str.ofString "_wall", NameKind.globalImplicit)], isGenerator := false, isCoroutine := false }, globals := 0, closure := [], defaults := Value.none, kwdefaults := Value.none } }) ::
(nat_lit 65, EO) ::
(nat_lit 68, { cls := Value.none, data := Data.func { name := Str.ofString "feed", qualname := Str.ofString "_ValueFormatter.feed", params := parS (subS 4 5), body := FuncBody.stmts (bodyS (subS 4 5)), scope := { kind := ScopeKind.function, names := [(Str.ofString "self", NameKind.local), (Str.ofString "fws", NameKind.local), (Str.ofString "string", NameKind.local), (Str.ofString "charset", NameKind.local), (Str.ofString "_wall", NameKind.globalImplicit)], isGenerator := false, isCoroutine := false }, globals := 0, closure := [], defaults := Value.none, kwdefaults := Value.none } }) ::
(nat_lit 72, EO) ::
(nat_lit 75, { cls := Value.none, data := Data.func { name := Str.ofString "_maxlengths", qualname := Str.ofString "_ValueFormatter._maxlengths", params := parS (subS 4 6), body := FuncBody.stmts (bodyS (subS 4 6)), scope := { kind := ScopeKind.function, names := [(Str.ofString "self", NameKind.local), (Str.ofString "_wall", NameKind.globalImplicit)], isGenerator := false, isCoroutine := false }, globals := 0, closure := [], defaults := Value.none, kwdefaults := Value.none } }) ::
(nat_lit 79, EO) ::
(nat_lit 82, { cls := Value.none, data := Data.func { name := Str.ofString "_ascii_split", qualname := Str.ofString "_ValueFormatter._ascii_split", params := parS (subS 4 7), body := FuncBody.stmts (bodyS (subS 4 7)), scope := { kind := ScopeKind.function, names := [(Str.ofString "self", NameKind.local), (Str.ofString "fws", NameKind.local), (Str.ofString "string", NameKind.local), (Str.ofString "splitchars", NameKind.local), (Str.ofString "_wall", NameKind.globalImplicit)], isGenerator := false, isCoroutine := false }, globals := 0, closure := [], defaults := Value.none, kwdefaults := Value.none } }) ::
(nat_lit 86, EO) ::
(nat_lit 89, { cls := Value.none, data := Data.func { name := Str.ofString "_append_chunk", qualname := Str.ofString "_ValueFormatter._append_chunk", params := parS (subS 4 8), body := FuncBody.stmts (bodyS (subS 4 8)), scope := { kind := ScopeKind.function, names := [(Str.ofString "self", NameKind.local), (Str.ofString "fws", NameKind.local), (Str.ofString "string", NameKind.local), (Str.ofString "ch", NameKind.local), (Str.ofString "i", NameKind.local), (Str.ofString "prevpart", NameKind.local), (Str.ofString "part", NameKind.local), (Str.ofString "remainder", NameKind.local), (Str.ofString "len", NameKind.globalImplicit), (Str.ofString "range", NameKind.globalImplicit), (Str.ofString "str", NameKind.globalImplicit)], isGenerator := false, isCoroutine := false }, globals := 0, closure := [], defaults := Value.none, kwdefaults := Value.none } }) ::
(nat_lit 97, { cls := Value.type "super", data := Data.fields #[Value.ref 94, Value.ref 94, Value.ref 94] }) ::
(nat_lit 98, { cls := Value.type "builtin_function_or_method", data := Data.fields #[Value.builtin "object.__init_subclass__", Value.ref 94] }) ::
(nat_lit 100, { cls := Value.type "builtin_function_or_method", data := Data.fields #[Value.builtin "type.__prepare__", Value.type "type"] }) ::
(nat_lit 101, { cls := Value.type "dict", data := Data.dict #[{ hash := PyData.keyHash P (Str.ofString "__module__"), key := Value.str (Str.ofString "__module__") 315, val := Value.str (Str.ofString "cpy313.email.header") 194 }, { hash := PyData.keyHash P (Str.ofString "__qualname__"), key := Value.str (Str.ofString "__qualname__") 317, val := Value.str (Str.ofString "_Accumulator") 316 }, { hash := PyData.keyHash P (Str.ofString "__firstlineno__"), key := Value.str (Str.ofString "__firstlineno__") 319, val := Value.int 73 318 }, { hash := PyData.keyHash P (Str.ofString "__init__"), key := Value.str (Str.ofString "__init__") 329, val := Value.ref 115 }, { hash := PyData.keyHash P (Str.ofString "push"), key := Value.str (Str.ofString "push") 338, val := Value.ref 122 }, { hash := PyData.keyHash P (Str.ofString "pop_from"), key := Value.str (Str.ofString "pop_from") 348, val := Value.ref 130 }, { hash := PyData.keyHash P (Str.ofString "pop"), key := Value.str (Str.ofString "pop") 356, val := Value.ref 138 }, { hash := PyData.keyHash P (Str.ofString "__len__"), key := Value.str (Str.ofString "__len__") 363, val := Value.ref 145 }, { hash := PyData.keyHash P (Str.ofString "__str__"), key := Value.str (Str.ofString "__str__") 370, val := Value.ref 152 }, { hash := PyData.keyHash P (Str.ofString "reset"), key := Value.str (Str.ofString "reset") 378, val := Value.ref 160 }, { hash := PyData.keyHash P (Str.ofString "is_onlyws"), key := Value.str (Str.ofString "is_onlyws") 385, val := Value.ref 167 }, { hash := PyData.keyHash P (Str.ofString "part_count"), key := Value.str (Str.ofString "part_count") 393, val := Value.ref 175 }, { hash := PyData.keyHash P (Str.ofString "__static_attributes__"), key := Value.str (Str.ofString "__static_attributes__") 395, val := Value.ref 176 }, { hash := PyData.keyHash P (Str.ofString "__classcell__"), key := Value.str (Str.ofString "__classcell__") 396, val := Value.ref 102 }] 14 }) ::
(nat_lit 103, { cls := Value.type "tuple", data := Data.seq #[] }) ::
(nat_lit 104, { cls := Value.none, data := Data.fields #[Value.int 75 0, Value.int 4 0, Value.ref 114, Value.int 79 0, Value.int 4 0, Value.ref 121, Value.int 82 0, Value.int 4 0, Value.ref 129, Value.int 87 0, Value.int 4 0, Value.ref 137, Value.int 92 0, Value.int 4 0, Value.ref 144, Value.int 95 0, Value.int 4 0, Value.ref 151, Value.int 98 0, Value.int 4 0, Value.ref 159, Value.int 104 0, Value.int 4 0, Value.ref 166, Value.int 107 0, Value.int 4 0, Value.ref 174] }) ::
(nat_lit 105, { cls := Value.type "code", data := Data.fields #[Value.str (Str.ofString "_Accumulator") 310, Value.str (Str.ofString "_Accumulator") 311, Value.str (Str.ofString "/claim/cut.py") 312, Value.int 73 0, Value.int 0 0, Value.int 0 0, Value.int 0 0, Value.int 0 0, Value.ref 103, Value.bool false, Value.int 181 0, Value.ref 104, Value.none, Value.none, Value.none, Value.none, Value.int 313 0, Value.int 73 0, Value.str (Str.ofString "/claim/cut.py") 314] }) ::
(nat_lit 106, { cls := Value.type "frame", slots := #[some (Value.ref 105), some (Value.ref 3), some (Value.ref 101), none, some (Value.str (Str.ofString "cpy313.email.header") 194), none, some (Value.ref 0)] }) ::
(nat_lit 110, EO) ::
(nat_lit 113, { cls := Value.none, data := Data.func { name := Str.ofString "__init__", qualname := Str.ofString "_Accumulator.__init__", params := parS (subS 5 0), body := FuncBody.stmts (bodyS (subS 5 0)), scope := { kind := ScopeKind.function, names := [(Str.ofString "self", NameKind.local), (Str.ofString "initial_size", NameKind.local), (Str.ofString "__class__", NameKind.free), (Str.ofString "super", NameKind.globalImplicit)], isGenerator := false, isCoroutine := false }, globals := 0, closure := [], defaults := Value.none, kwdefaults := Value.none } }) ::
(nat_lit 117, EO) ::
(nat_lit 120, { cls := Value.none, data := Data.func { name := Str.ofString "push", qualname := Str.ofString "_Accumulator.push", params := parS (subS 5 1), body := FuncBody.stmts (bodyS (subS 5 1)), scope := { kind := ScopeKind.function, names := [(Str.ofString "self", NameKind.local), (Str.ofString "fws", NameKind.local), (Str.ofString "string", NameKind.local)], isGenerator := false, isCoroutine := false }, globals := 0, closure := [], defaults := Value.none, kwdefaults := Value.none } }) ::
(nat_lit 125, EO) ::
(nat_lit 128, { cls := Value.none, data := Data.func { name := Str.ofString "pop_from", qualname := Str.ofString "_Accumulator.pop_from", params := parS (subS 5 2), body := FuncBody.stmts (bodyS (subS 5 2)), scope := { kind := ScopeKind.function, names := [(Str.ofString "self", NameKind.local), (Str.ofString "i", NameKind.local), (Str.ofString "popped", NameKind.local)], isGenerator := false, isCoroutine := false }, globals := 0, closure := [], defaults := Value.none, kwdefaults := Value.none } }) ::
(nat_lit 133, EO) ::
(nat_lit 136, { cls := Value.none, data := Data.func { name := Str.ofString "pop", qualname := Str.ofString "_Accumulator.pop", params := parS (subS 5 3), body := FuncBody.stmts (bodyS (subS 5 3)), scope := { kind := ScopeKind.function, names := [(Str.ofString "self", NameKind.local), (Str.ofString "__class__", NameKind.free), (Str.ofString "super", NameKind.globalImplicit)], isGenerator := false, isCoroutine := false }, globals := 0, closure := [], defaults := Value.none, kwdefaults := Value.none } }) ::
(nat_lit 140, EO) ::
(nat_lit 143, { cls := Value.none, data := Data.func { name := Str.ofString "__len__", qualname := Str.ofString "_Accumulator.__len__", params := parS (subS 5 4), body := FuncBody.stmts (bodyS (subS 5 4)), scope := { kind := ScopeKind.function, names := [(Str.ofString "self", NameKind.local), (Str.ofString "sum", NameKind.globalImplicit)], isGenerator := false, isCoroutine := false }, globals := 0, closure := [], defaults := Value.none, kwdefaults := Value.none } }) ::
(nat_lit 147, EO) ::
(nat_lit 150, { cls := Value.none, data := Data.func { name := Str.ofString "__str__", qualname := Str.ofString "_Accumulator.__str__", params := parS (subS 5 5), body := FuncBody.stmts (bodyS (subS 5 5)), scope := { kind := ScopeKind.function, names := [(Str.ofString "self", NameKind.local), (Str.ofString "EMPTYSTRING", NameKind.globalImplicit)], isGenerator := false, isCoroutine := false }, globals := 0, closure := [], defaults := Value.none, kwdefaults := Value.none } }) ::
(nat_lit 155, EO) ::
(nat_lit 158, { cls := Value.none, data := Data.func { name := Str.ofString "reset", qualname := Str.ofString "_Accumulator.reset", params := parS (subS 5 6), body := FuncBody.stmts (bodyS (subS 5 6)), scope := { kind := ScopeKind.function, names := [(Str.ofString "self", NameKind.local), (Str.ofString "startval", NameKind.local)], isGenerator := false, isCoroutine := false }, globals := 0, closure := [], defaults := Value.none, kwdefaults := Value.none } }) ::
(nat_lit 162, EO) ::
(nat_lit 165, { cls := Value.none, data := Data.func { name := Str.ofString "is_onlyws", qualname := Str.ofString "_Accumulator.is_onlyws", params := parS (subS 5 7), body := FuncBody.stmts (bodyS (subS 5 7)), scope := { kind := ScopeKind.function, names := [(Str.ofString "self", NameKind.local), (Str.ofString "str", NameKind.globalImplicit)], isGenerator := false, isCoroutine := false }, globals := 0, closure := [], defaults := Value.none, kwdefaults := Value.none } }) ::
(nat_lit 170, EO) ::
(nat_lit 173, { cls := Value.none, data := Data.func { name := Str.ofString "part_count", qualname := Str.ofString "_Accumulator.part_count", params := parS (subS 5 8), body := FuncBody.stmts (bodyS (subS 5 8)), scope := { kind := ScopeKind.function, names := [(Str.ofString "self", NameKind.local), (Str.ofString "__class__", NameKind.free), (Str.ofString "super", NameKind.globalImplicit)], isGenerator := false, isCoroutine := false }, globals := 0, closure := [], defaults := Value.none, kwdefaults := Value.none } }) ::
(nat_lit 181, { cls := Value.type "super", data := Data.fields #[Value.ref 178, Value.ref 178, Value.ref 178] }) ::
(nat_lit 182, { cls := Value.type "builtin_function_or_method", data := Data.fields #[Value.builtin "object.__init_subclass__", Value.ref 178] }) ::
(nat_lit 185, EO) ::
(nat_lit 188, { cls := Value.none, data := Data.func { name := Str.ofString "_bytes_from_decode_data", qualname := Str.ofString "_bytes_from_decode_data", params := parS (topS 8), body := FuncBody.stmts (bodyS (topS 8)), scope := { kind := ScopeKind.function, names := [(Str.ofString "s", NameKind.local), (Str.ofString "isinstance", NameKind.globalImplicit), (Str.ofString "str", NameKind.globalImplicit), (Str.ofString "UnicodeEncodeError", NameKind.globalImplicit), (Str.ofString "ValueError", NameKind.globalImplicit), (Str.ofString "bytes_types", NameKind.globalImplicit), (Str.ofString "memoryview", NameKind.globalImplicit), (Str.ofString "TypeError", NameKind.globalImplicit)], isGenerator := false, isCoroutine := false }, globals := 0, closure := [], defaults := Value.none, kwdefaults := Value.none } }) ::
(nat_lit 192, { cls := Value.type "builtin_function_or_method", data := Data.fields #[Value.builtin "type.__prepare__", Value.type "type"] }) ::
(nat_lit 193, { cls := Value.type "dict", data := Data.dict #[{ hash := PyData.keyHash P (Str.ofString "__module__"), key := Value.str (Str.ofString "__module__") 423, val := Value.str (Str.ofString "binascii") 414 }, { hash := PyData.keyHash P (Str.ofString "__qualname__"), key := Value.str (Str.ofString "__qualname__") 425, val := Value.str (Str.ofString "Error") 424 }, { hash := PyData.keyHash P (Str.ofString "__firstlineno__"), key := Value.str (Str.ofString "__firstlineno__") 427, val := Value.int 124 426 }, { hash := PyData.keyHash P (Str.ofString "__static_attributes__"), key := Value.str (Str.ofString "__static_attributes__") 428, val := Value.ref 198 }] 4 }) ::
(nat_lit 194, { cls := Value.type "tuple", data := Data.seq #[] }) ::
(nat_lit 195, EO) ::
(nat_lit 196, { cls := Value.type "code", data := Data.fields #[Value.str (Str.ofString "Error") 418, Value.str (Str.ofString "Error") 419, Value.str (Str.ofString "/claim/cut.py") 420, Value.int 124 0, Value.int 0 0, Value.int 0 0, Value.int 0 0, Value.int 0 0, Value.ref 194, Value.bool false, Value.int 181 0, Value.ref 195, Value.none, Value.none, Value.none, Value.none, Value.int 421 0, Value.int 124 0, Value.str (Str.ofString "/claim/cut.py") 422] }) ::
(nat_lit 197, { cls := Value.type "frame", slots := #[some (Value.ref 196), some (Value.ref 3), some (Value.ref 193), none, some (Value.str (Str.ofString "binascii") 414), none, some (Value.ref 0)] }) ::
(nat_lit 202, { cls := Value.type "super", data := Data.fields #[Value.ref 200, Value.ref 200, Value.ref 200] }) ::
(nat_lit 203, { cls := Value.type "builtin_function_or_method", data := Data.fields #[Value.builtin "object.__init_subclass__", Value.ref 200] }) ::
(nat_lit 205, EO) ::
(nat_lit 208, { cls := Value.none, data := Data.func { name := Str.ofString "_ascii_buffer", qualname := Str.ofString "_ascii_buffer", params := parS (topS 11), body := FuncBody.stmts (bodyS (topS 11)), scope := { kind := ScopeKind.function, names := [(Str.ofString "data", NameKind.local), (Str.ofString "t", NameKind.local), (Str.ofString "type", NameKind.globalImplicit), (Str.ofString "str", NameKind.globalImplicit), (Str.ofString "ValueError", NameKind.globalImplicit), (Str.ofString "bytes", NameKind.globalImplicit), (Str.ofString "bytearray", NameKind.globalImplicit), (Str.ofString "_wall", NameKind.globalImplicit)], isGenerator := false, isCoroutine := false }, globals := 0, closure := [], defaults := Value.none, kwdefaults := Value.none } }) ::
(nat_lit 212, EO) ::
(nat_lit 215, { cls := Value.none, data := Data.func { name := Str.ofString "_buffer", qualname := Str.ofString "_buffer", params := parS (topS 12), body := FuncBody.stmts (bodyS (topS 12)), scope := { kind := ScopeKind.function, names := [(Str.ofString "data", NameKind.local), (Str.ofString "t", NameKind.local), (Str.ofString "type", NameKind.globalImplicit), (Str.ofString "bytes", NameKind.globalImplicit), (Str.ofString "bytearray", NameKind.globalImplicit), (Str.ofString "_wall", NameKind.globalImplicit)], isGenerator := false, isCoroutine := false }, globals := 0, closure := [], defaults := Value.none, kwdefaults := Value.none } }) ::
(nat_lit 219, EO) ::
(nat_lit 222, { cls := Value.none, data := Data.func { name := Str.ofString "_truth", qualname := Str.ofString "_truth", params := parS (topS 13), body := FuncBody.stmts (bodyS (topS 13)), scope := { kind := ScopeKind.function, names := [(Str.ofString "x", NameKind.local), (Str.ofString "t", NameKind.local), (Str.ofString "type", NameKind.globalImplicit), (Str.ofString "bool", NameKind.globalImplicit), (Str.ofString "int", NameKind.globalImplicit), (Str.ofString "float", NameKind.globalImplicit), (Str.ofString "complex", NameKind.globalImplicit), (Str.ofString "str", NameKind.globalImplicit), (Str.ofString "bytes", NameKind.globalImplicit), (Str.ofString "bytearray", NameKind.globalImplicit), (Str.ofString "list", NameKind.globalImplicit), (Str.ofString "tuple", NameKind.globalImplicit), (Str.ofString "dict", NameKind.globalImplicit), (Str.ofString "set", NameKind.globalImplicit), (Str.ofString "frozenset", NameKind.globalImplicit), (Str.ofString "range", NameKind.globalImplicit), (Str.ofString "_wall", NameKind.globalImplicit)], isGenerator := false, isCoroutine := false }, globals := 0, closure := [], defaults := Value.none, kwdefaults := Value.none } }) ::
(nat_lit 226, EO) ::
(nat_lit 229, { cls := Value.none, data := Data.func { name := Str.ofString "_b64_value", qualname := Str.ofString "_b64_value", params := parS (topS 15), body := FuncBody.stmts (bodyS (topS 15)), scope := { kind := ScopeKind.function, names := [(Str.ofString "c", NameKind.local)], isGenerator := false, isCoroutine := false }, globals := 0, closure := [], defaults := Value.none, kwdefaults := Value.none } }) ::
(nat_lit 234, EO) ::
(nat_lit 237, { cls := Value.none, data := Data.func { name := Str.ofString "a2b_base64", qualname := Str.ofString "a2b_base64", params := parS (topS 16), body := FuncBody.stmts (bodyS (topS 16)), scope := { kind := ScopeKind.function, names := [(Str.ofString "data", NameKind.local), (Str.ofString "strict_mode", NameKind.local), (Str.ofString "ascii_data", NameKind.local), (Str.ofString "out", NameKind.local), (Str.ofString "quad_pos", NameKind.local), (Str.ofString "leftchar", NameKind.local), (Str.ofString "pads", NameKind.local), (Str.ofString "i", NameKind.local), (Str.ofString "this_ch", NameKind.local), (Str.ofString "_ascii_buffer", NameKind.globalImplicit), (Str.ofString "_truth", NameKind.globalImplicit), (Str.ofString "Error", NameKind.globalImplicit), (Str.ofString "_b64_value", NameKind.globalImplicit), (Str.ofString "len", NameKind.globalImplicit), (Str.ofString "bytes", NameKind.globalImplicit)], isGenerator := false, isCoroutine := false }, globals := 0, closure := [], defaults := Value.none, kwdefaults := Value.none } }) ::
(nat_lit 242, EO) ::
(nat_lit 245, { cls := Value.none, data := Data.func { name := Str.ofString "b2a_base64", qualname := Str.ofString "b2a_base64", params := parS (topS 17), body := FuncBody.stmts (bodyS (topS 17)), scope := { kind := ScopeKind.function, names := [(Str.ofString "data", NameKind.local), (Str.ofString "newline", NameKind.local), (Str.ofString "bin_data", NameKind.local), (Str.ofString "out", NameKind.local), (Str.ofString "leftbits", NameKind.local), (Str.ofString "leftchar", NameKind.local), (Str.ofString "b", NameKind.local), (Str.ofString "_buffer", NameKind.globalImplicit), (Str.ofString "_truth", NameKind.globalImplicit), (Str.ofString "_B64", NameKind.globalImplicit), (Str.ofString "bytes", NameKind.globalImplicit)], isGenerator := false, isCoroutine := false }, globals := 0, closure := [], defaults := Value.none, kwdefaults := Value.none } }) ::
(nat_lit 250, EO) ::
(nat_lit 253, { cls := Value.none, data := Data.func { name := Str.ofString "b64encode", qualname := Str.ofString "b64encode", params := parS (topS 19), body := FuncBody.stmts (bodyS (topS 19)), scope := { kind := ScopeKind.function, names := [(Str.ofString "s", NameKind.local), (Str.ofString "altchars", NameKind.local), (Str.ofString "encoded", NameKind.local), (Str.ofString "b2a_base64", NameKind.globalImplicit), (Str.ofString "len", NameKind.globalImplicit), (Str.ofString "repr", NameKind.globalImplicit), (Str.ofString "bytes", NameKind.globalImplicit)], isGenerator := false, isCoroutine := false }, globals := 0, closure := [], defaults := Value.none, kwdefaults := Value.none } }) ::
(nat_lit 258, EO) ::
(nat_lit 261, { cls := Value.none, data := Data.func { name := Str.ofString "b64decode", qualname := Str.ofString "b64decode", params := parS (topS 20), body := FuncBody.stmts (bodyS (topS 20)), scope := { kind := ScopeKind.function, names := [(Str.ofString "s", NameKind.local), (Str.ofString "altchars", NameKind.local), (Str.ofString "validate", NameKind.local), (Str.ofString "_bytes_from_decode_data", NameKind.globalImplicit), (Str.ofString "len", NameKind.globalImplicit), (Str.ofString "repr", NameKind.globalImplicit), (Str.ofString "bytes", NameKind.globalImplicit), (Str.ofString "a2b_base64", NameKind.globalImplicit)], isGenerator := false, isCoroutine := false }, globals := 0, closure := [], defaults := Value.none, kwdefaults := Value.none } }) ::
(nat_lit 265, EO) ::
(nat_lit 268, { cls := Value.none, data := Data.func { name := Str.ofString "sorted_list_difference", qualname := Str.ofString "sorted_list_difference", params := parS (topS 22), body := FuncBody.stmts (bodyS (topS 22)), scope := { kind := ScopeKind.function, names := [(Str.ofString "expected", NameKind.local), (Str.ofString "actual", NameKind.local), (Str.ofString "i", NameKind.local), (Str.ofString "j", NameKind.local), (Str.ofString "missing", NameKind.local), (Str.ofString "unexpected", NameKind.local), (Str.ofString "e", NameKind.local), (Str.ofString "a", NameKind.local), (Str.ofString "IndexError", NameKind.globalImplicit)], isGenerator := false, isCoroutine := false }, globals := 0, closure := [], defaults := Value.none, kwdefaults := Value.none } }) ::
(nat_lit 272, EO) ::
(nat_lit 275, { cls := Value.none, data := Data.func { name := Str.ofString "unorderable_list_difference", qualname := Str.ofString "unorderable_list_difference", params := parS (topS 23), body := FuncBody.stmts (bodyS (topS 23)), scope := { kind := ScopeKind.function, names := [(Str.ofString "expected", NameKind.local), (Str.ofString "actual", NameKind.local), (Str.ofString "missing", NameKind.local), (Str.ofString "item", NameKind.local), (Str.ofString "ValueError", NameKind.globalImplicit)], isGenerator := false, isCoroutine := false }, globals := 0, closure := [], defaults := Value.none, kwdefaults := Value.none } }) ::
(nat_lit 279, EO) ::
(nat_lit 282, { cls := Value.none, data := Data.func { name := Str.ofString "three_way_cmp", qualname := Str.ofString "three_way_cmp", params := parS (topS 24), body := FuncBody.stmts (bodyS (topS 24)), scope := { kind := ScopeKind.function, names := [(Str.ofString "x", NameKind.local), (Str.ofString "y", NameKind.local)], isGenerator := false, isCoroutine := false }, globals := 0, closure := [], defaults := Value.none, kwdefaults := Value.none } }) ::
(nat_lit 286, EO) ::
(nat_lit 287, { cls := Value.none, data := Data.func { name := Str.ofString "_law_octets", qualname := Str.ofString "_law_octets", params := parS (topS 26), body := FuncBody.stmts (bodyS (topS 26)), scope := { kind := ScopeKind.function, names := [(Str.ofString "x", NameKind.cell), (Str.ofString "bytes", NameKind.globalImplicit), (Str.ofString "range", NameKind.globalImplicit)], isGenerator := false, isCoroutine := false, more := [(Str.ofString "fast", Const.str (Str.ofString "x")), (Str.ofString "fast", Const.str (Str.ofString "k"))] }, globals := 0, closure := [], defaults := Value.none, kwdefaults := Value.none } }) ::
(nat_lit 291, EO) ::
(nat_lit 294, { cls := Value.none, data := Data.func { name := Str.ofString "_law_lines", qualname := Str.ofString "_law_lines", params := parS (topS 27), body := FuncBody.stmts (bodyS (topS 27)), scope := { kind := ScopeKind.function, names := [(Str.ofString "words", NameKind.local), (Str.ofString "width", NameKind.local), (Str.ofString "lines", NameKind.local), (Str.ofString "line", NameKind.local), (Str.ofString "word", NameKind.local), (Str.ofString "len", NameKind.globalImplicit)], isGenerator := false, isCoroutine := false }, globals := 0, closure := [], defaults := Value.none, kwdefaults := Value.none } }) ::
(nat_lit 298, EO) ::
(nat_lit 301, { cls := Value.none, data := Data.func { name := Str.ofString "_law_folded", qualname := Str.ofString "_law_folded", params := parS (topS 28), body := FuncBody.stmts (bodyS (topS 28)), scope := { kind := ScopeKind.function, names := [(Str.ofString "words", NameKind.local), (Str.ofString "width", NameKind.local), (Str.ofString "formatter", NameKind.local), (Str.ofString "word", NameKind.local), (Str.ofString "_ValueFormatter", NameKind.globalImplicit), (Str.ofString "str", NameKind.globalImplicit)], isGenerator := false, isCoroutine := false }, globals := 0, closure := [], defaults := Value.none, kwdefaults := Value.none } }) ::
(nat_lit 305, EO) ::
(nat_lit 308, { cls := Value.none, data := Data.func { name := Str.ofString "_law_words", qualname := Str.ofString "_law_words", params := parS (topS 29), body := FuncBody.stmts (bodyS (topS 29)), scope := { kind := ScopeKind.function, names := [(Str.ofString "lines", NameKind.local)], isGenerator := false, isCoroutine := false }, globals := 0, closure := [], defaults := Value.none, kwdefaults := Value.none } }) ::
(nat_lit 312, EO) ::
(nat_lit 315, { cls := Value.none, data := Data.func { name := Str.ofString "_law_alone", qualname := Str.ofString "_law_alone", params := parS (topS 30), body := FuncBody.stmts (bodyS (topS 30)), scope := { kind := ScopeKind.function, names := [(Str.ofString "ones", NameKind.local), (Str.ofString "others", NameKind.local), (Str.ofString "alone", NameKind.local), (Str.ofString "word", NameKind.local), (Str.ofString "sorted", NameKind.globalImplicit), (Str.ofString "max", NameKind.globalImplicit)], isGenerator := false, isCoroutine := false }, globals := 0, closure := [], defaults := Value.none, kwdefaults := Value.none } }) ::
(nat_lit 319, EO) ::
(nat_lit 322, { cls := Value.none, data := Data.func { name := Str.ofString "_law_differ", qualname := Str.ofString "_law_differ", params := parS (topS 31), body := FuncBody.stmts (bodyS (topS 31)), scope := { kind := ScopeKind.function, names := [(Str.ofString "ones", NameKind.local), (Str.ofString "others", NameKind.local), (Str.ofString "rest", NameKind.local), (Str.ofString "more", NameKind.local), (Str.ofString "word", NameKind.local), (Str.ofString "lacking", NameKind.local), (Str.ofString "left", NameKind.local), (Str.ofString "sorted_list_difference", NameKind.globalImplicit), (Str.ofString "sorted", NameKind.globalImplicit), (Str.ofString "_law_alone", NameKind.globalImplicit), (Str.ofString "list", NameKind.globalImplicit), (Str.ofString "unorderable_list_difference", NameKind.globalImplicit)], isGenerator := false, isCoroutine := false }, globals := 0, closure := [], defaults := Value.none, kwdefaults := Value.none } }) ::
(nat_lit 326, EO) ::
(nat_lit 329, { cls := Value.none, data := Data.func { name := Str.ofString "_law_writing", qualname := Str.ofString "_law_writing", params := parS (topS 32), body := FuncBody.stmts (bodyS (topS 32)), scope := { kind := ScopeKind.function, names := [(Str.ofString "x", NameKind.local), (Str.ofString "b64encode", NameKind.globalImplicit), (Str.ofString "_law_octets", NameKind.globalImplicit)], isGenerator := false, isCoroutine := false }, globals := 0, closure := [], defaults := Value.none, kwdefaults := Value.none } }) ::
(nat_lit 333, EO) ::
(nat_lit 334, { cls := Value.none, data := Data.func { name := Str.ofString "law", qualname := Str.ofString "law", params := parS (topS 33), body := FuncBody.stmts (bodyS (topS 33)), scope := { kind := ScopeKind.function, names := [(Str.ofString "script", NameKind.local), (Str.ofString "numbers", NameKind.local), (Str.ofString "words", NameKind.local), (Str.ofString "seconds", NameKind.local), (Str.ofString "width", NameKind.local), (Str.ofString "lines", NameKind.local), (Str.ofString "others", NameKind.local), (Str.ofString "order", NameKind.local), (Str.ofString "_law_folded", NameKind.globalImplicit), (Str.ofString "_law_lines", NameKind.globalImplicit), (Str.ofString "_law_words", NameKind.globalImplicit), (Str.ofString "len", NameKind.globalImplicit), (Str.ofString "three_way_cmp", NameKind.globalImplicit), (Str.ofString "_law_differ", NameKind.globalImplicit)], isGenerator := false, isCoroutine := false, more := [(Str.ofString "fast", Const.str (Str.ofString "script")), (Str.ofString "fast", Const.str (Str.ofString "numbers")), (Str.ofString "fast", Const.str (Str.ofString "x")), (Str.ofString "fast", Const.str (Str.ofString "words")), (Str.ofString "fast", Const.str (Str.ofString "number")), (Str.ofString "fast", Const.str (Str.ofString "seconds")), (Str.ofString "fast", Const.str (Str.ofString "width")), (Str.ofString "fast", Const.str (Str.ofString "lines")), (Str.ofString "fast", Const.str (Str.ofString "others")), (Str.ofString "fast", Const.str (Str.ofString "word")), (Str.ofString "fast", Const.str (Str.ofString "order"))] }, globals := 0, closure := [], defaults := Value.none, kwdefaults := Value.none } }) :: []
def mergeF : Nat → Nat → Frag → Frag → List Obj
  | 0, _, _, _ => []
  | k + 1, a, (x, u) :: r, (y, v) :: q => match Nat.beq x a with
    | true => u :: mergeF k (a + 1) r ((y, v) :: q)
    | false => v :: mergeF k (a + 1) ((x, u) :: r) q
  | k + 1, a, [], (_, v) :: q => v :: mergeF k (a + 1) [] q
  | k + 1, a, (_, u) :: r, [] => u :: mergeF k (a + 1) r []
  | _ + 1, _, [], [] => []
noncomputable def FL (P : Params) : List Obj := mergeF 337 0 (KK P) (RR P)
noncomputable def FT (P : Params) : BT := insAll .nil 0 (FL P)
noncomputable def inF (P : Params) (i : Nat) : Obj := match (FT P).get i with
  | some u => u
  | none => default
noncomputable def at3 (P : Params) : Obj := inF P 3
noncomputable def at12 (P : Params) : Obj := inF P 12
def newHead (v : Value) : List DictEntry → List DictEntry
  | [] => []
  | e :: r => { e with val := v } :: r
def cutG (u : Obj) (k : Nat) (v : Value) : Obj := match u with
  | ⟨c, d, .dict es _, s⟩ => ⟨c, d, .dict ⟨(newHead v es.toList).take k⟩ k, s⟩
  | u => u
def cutF (u : Obj) (k : Nat) : Obj := match u with
  | ⟨c, d, .fields es, s⟩ => ⟨c, d, .fields ⟨es.toList.take k⟩, s⟩
  | u => u
noncomputable def pick (P : Params) (u v : Obj) (i : Nat) : Obj := match Nat.beq i 3 with
  | true => u
  | false => match Nat.beq i 12 with
    | true => v
    | false => inF P i
def grow (g : Nat → Obj) (n : Nat) : Nat → Nat → Nat → BT
  | 0, _, _ => .nil
  | k + 1, a, b => match Nat.blt b n with
    | true => .node (g b) (grow g n k (2 * a) (a + b)) (grow g n k (2 * a) (2 * a + b))
    | false => .nil
noncomputable def pp : Program := PySem.Challenge.pw_oy0243_01
noncomputable def bodyP : List Stmt := behindTheImports pp
noncomputable def envP : Env := { scope := pp.main.scope, locals := mainNs, globals := mainNs, cells := [], code := .ref 13, frame := some 14 }
noncomputable def codeP : Code := .body bodyP envP
abbrev framesP : List Frame := [topFrame ⟨0, 0, 0, 0⟩]
noncomputable def stP (t : BT) (n k : Nat) (os : OsState) : SharedT := ⟨t, n, {}, Array.mk [], {}, k, os⟩
noncomputable def tr0 (P : Params) : BT := grow (pick P (cutG (at3 P) 9 (Value.str (Str.ofString "__main__") 164)) (cutF (at12 P) 0)) 15 10 1 0
noncomputable def tr1 (P : Params) : BT := grow (pick P (cutG (at3 P) 13 (Value.str (Str.ofString "cpy313.email.header") 194)) (cutF (at12 P) 6)) 99 10 1 0
noncomputable def tr2 (P : Params) : BT := grow (pick P (cutG (at3 P) 14 (Value.str (Str.ofString "cpy313.email.header") 194)) (cutF (at12 P) 9)) 183 10 1 0
noncomputable def tr3 (P : Params) : BT := grow (pick P (cutG (at3 P) 17 (Value.str (Str.ofString "binascii") 414)) (cutF (at12 P) 15)) 204 10 1 0
noncomputable def tr4 (P : Params) : BT := grow (pick P (cutG (at3 P) 26 (Value.str (Str.ofString "cpy313.base64") 497)) (cutF (at12 P) 39)) 264 10 1 0
noncomputable def tr5 (P : Params) : BT := grow (inF P) 337 10 1 0
noncomputable def bl1 : List Stmt := (bodyP.drop 0).take 5
noncomputable def bl2 : List Stmt := (bodyP.drop 5).take 1
noncomputable def bl3 : List Stmt := (bodyP.drop 6).take 5
noncomputable def bl4 : List Stmt := (bodyP.drop 11).take 10
noncomputable def bl5 : List Stmt := (bodyP.drop 21).take 13
theorem body_is : bodyP = bl1 ++ (bl2 ++ (bl3 ++ (bl4 ++ (bl5 ++ [])))) := by kernel_rfl
theorem pre_is (w : World) (os : OsState) : topGo treeTable pp w 11 (some (.ref 6)) 12 ⟨absHeap (bootT w.params) 11 {}, Array.mk [], boot_drawn, boot_toks, os⟩ (topStub pp) = some ((stP (tr0 w.params) 15 187 os).abs, ⟨denote treeTable codeP, codeP, ⟨0, 0, 0, 0⟩, framesP⟩) := by kernel_rfl
theorem block_is (w : World) (os : OsState) : segRun treeTable pp w 11 (some (.ref 6)) 1 1 (stP (tr0 w.params) 15 187 os).abs (blockOf bodyP envP codeP ⟨0, 0, 0, 0⟩ framesP) = some (.next, (stP (tr0 w.params) 15 187 os).abs, codeP, ⟨0, 0, 0, 0⟩) := by kernel_rfl
theorem piece1 (w : World) (os : OsState) : segRunT treeTable pp w 11 (some (.ref 6)) 1 550 (stP (tr0 w.params) 15 187 os) (piecesOf bl1 envP codeP ⟨0, 0, 0, 0⟩ framesP) = some (.next, stP (tr1 w.params) 99 308 os, codeP, ⟨7, 0, 72, 47⟩) := by kernel_rfl
theorem piece2 (w : World) (os : OsState) : segRunT treeTable pp w 11 (some (.ref 6)) 1 505 (stP (tr1 w.params) 99 308 os) (piecesOf bl2 envP codeP ⟨7, 0, 72, 47⟩ framesP) = some (.next, stP (tr2 w.params) 183 404 os, codeP, ⟨73, 0, 108, 32⟩) := by kernel_rfl
theorem piece3 (w : World) (os : OsState) : segRunT treeTable pp w 11 (some (.ref 6)) 1 250 (stP (tr2 w.params) 183 404 os) (piecesOf bl3 envP codeP ⟨73, 0, 108, 32⟩ framesP) = some (.next, stP (tr3 w.params) 204 434 os, codeP, ⟨124, 0, 125, 8⟩) := by kernel_rfl
theorem piece4 (w : World) (os : OsState) : segRunT treeTable pp w 11 (some (.ref 6)) 1 284 (stP (tr3 w.params) 204 434 os) (piecesOf bl4 envP codeP ⟨124, 0, 125, 8⟩ framesP) = some (.next, stP (tr4 w.params) 264 517 os, codeP, ⟨245, 0, 251, 46⟩) := by kernel_rfl
theorem piece5 (w : World) (os : OsState) : segRunT treeTable pp w 11 (some (.ref 6)) 1 359 (stP (tr4 w.params) 264 517 os) (piecesOf bl5 envP codeP ⟨245, 0, 251, 46⟩ framesP) = some (.next, stP (tr5 w.params) 337 623 os, codeP, ⟨335, 0, 350, 61⟩) := by kernel_rfl
theorem fin_is (w : World) (os : OsState) : topRun treeTable pp w 11 (some (.ref 6)) 2 (stP (tr5 w.params) 337 623 os).abs ⟨doneF .next, codeP, ⟨335, 0, 350, 61⟩, framesP⟩ = some (stP (tr5 w.params) 337 623 os).abs := by kernel_rfl
theorem top_runs (w : World) (os : OsState) : topRun treeTable pp w 11 (some (.ref 6)) (12 + (1 + (550 + (505 + (250 + (284 + (359 + 2))))))) ⟨absHeap (bootT w.params) 11 {}, Array.mk [], boot_drawn, boot_toks, os⟩ (topStub pp) = some (stP (tr5 w.params) 337 623 os).abs := by
  refine go_top (pre_is w os) ?_
  have b := block_is w os
  refine piece_block (b := bodyP) b ?_
  have e : ∀ l, bodyP = l → topRun treeTable pp w 11 (some (.ref 6)) (550 + (505 + (250 + (284 + (359 + 2))))) (stP (tr0 w.params) 15 187 os).abs (restOf l envP codeP ⟨0, 0, 0, 0⟩ framesP) = some (stP (tr5 w.params) 337 623 os).abs → topRun treeTable pp w 11 (some (.ref 6)) (550 + (505 + (250 + (284 + (359 + 2))))) (stP (tr0 w.params) 15 187 os).abs (restOf bodyP envP codeP ⟨0, 0, 0, 0⟩ framesP) = some (stP (tr5 w.params) 337 623 os).abs := fun l q h => q ▸ h
  refine e _ body_is ?_
  exact piece_app (segRun_of (piece1 w os)) (piece_app (segRun_of (piece2 w os)) (piece_app (segRun_of (piece3 w os)) (piece_app (segRun_of (piece4 w os)) (piece_app (segRun_of (piece5 w os)) (piece_nil (fin_is w os))))))
noncomputable abbrev KT : Params → Frag := fun P => (nat_lit 140, { cls := Value.none, data := Data.fields #[] }) :: (nat_lit 147, { cls := Value.none, data := Data.fields #[] }) :: KK P
def AT : List Addr := [140, 147, 2, 3, 15, 17, 18, 20, 21, 29, 31, 32, 34, 35, 36, 38, 39, 41, 42, 43, 45, 46, 48, 49, 50, 52, 53, 55, 56, 57, 59, 60, 62, 63, 64, 66, 67, 69, 70, 71, 73, 74, 76, 77, 78, 80, 81, 83, 84, 85, 87, 88, 90, 91, 92, 93, 94, 95, 96, 99, 102, 107, 108, 109, 111, 112, 114, 115, 116, 118, 119, 121, 122, 123, 124, 126, 127, 129, 130, 131, 132, 134, 135, 137, 138, 139, 141, 142, 144, 145, 146, 148, 149, 151, 152, 153, 154, 156, 157, 159, 160, 161, 163, 164, 166, 167, 168, 169, 171, 172, 174, 175, 176, 177, 178, 179, 180, 183, 184, 186, 187, 189, 190, 191, 198, 199, 200, 201, 204, 206, 207, 209, 210, 211, 213, 214, 216, 217, 218, 220, 221, 223, 224, 225, 227, 228, 230, 231, 232, 233, 235, 236, 238, 239, 240, 241, 243, 244, 246, 247, 248, 249, 251, 252, 254, 255, 256, 257, 259, 260, 262, 263, 264, 266, 267, 269, 270, 271, 273, 274, 276, 277, 278, 280, 281, 283, 284, 285, 288, 289, 290, 292, 293, 295, 296, 297, 299, 300, 302, 303, 304, 306, 307, 309, 310, 311, 313, 314, 316, 317, 318, 320, 321, 323, 324, 325, 327, 328, 330, 331, 332, 335, 336]
theorem at_is : ∀ P, AT = (KT P).map (·.1) := fun P => by kernel_rfl
abbrev LO : List Str := [Str.ofString "_Accumulator", Str.ofString "bytes_types", Str.ofString "a2b_base64", Str.ofString "b2a_base64", Str.ofString "b64encode", Str.ofString "b64decode"]
noncomputable abbrev HH : Hook := kHook KT AT at_is
noncomputable def hB (w : World) : Heap := absHeap (bootT w.params) 11 {}
noncomputable def hE (w : World) : Heap := absHeap (tr5 w.params) 337 {}
noncomputable def sE (w : World) (os : OsState) : Shared := ⟨hE w, Array.mk [], {}, 623, os⟩
noncomputable def modsP : List Str := importedModules PySem.Challenge.pw_oy0243_01.main.body
noncomputable def recP (s : Shared) : Bool := xlAt VV [] s && recOk (RowW.records PySem.Challenge.rw_oy0243_01.row.toRowW) s
theorem look_a1 (w : World) : staticsOk modsP (hB w) (hE w) = true := by kernel_rfl
theorem look_a2 (w : World) : namesBound PySem.Challenge.pw_oy0243_01 (hE w) = true := by kernel_rfl
theorem look_a3 (w : World) (os : OsState) : gensDone (sE w os) = true := by kernel_rfl
theorem look_a4 (w : World) : laidKept (hB w) (hE w) = true := by kernel_rfl
theorem look_b1 (w : World) (os : OsState) : seen ((recsOf VV).map (·.name)) (ownsOf VV) [] { sE w os with gens := #[] } = expectedOf VV := by kernel_rfl
theorem look_b2 (w : World) : (hE w).bltView = bltViewBooted := by kernel_rfl
theorem look_b3a (w : World) : (hE w).keysOk (looseW VV LO) ((recsOf VV).map (·.name)) ((litsOf VV).map (·.1)) ((clssOf VV (looseW VV LO)).map (·.name)) = true := by kernel_rfl
theorem look_b3b (w : World) : (hE w).accountedOkI modsP = true := by kernel_rfl
theorem look_b3c (w : World) : (hE w).isNs mainGlobals = true := by kernel_rfl
theorem look_b3d (w : World) : (hE w).isNs builtinsNs = true := by kernel_rfl
theorem look_b3e (w : World) : tablesOk VV (hE w) = true := by kernel_rfl
theorem look_b3f (w : World) (os : OsState) : recP (sE w os) = true := by kernel_rfl
theorem look_b3g (w : World) (os : OsState) : ((sE w os).gens.size == 0) = true := by kernel_rfl
theorem look_b4 (w : World) (os : OsState) : tabsOk VV (sE w os) = true := by kernel_rfl
theorem look_b5 (w : World) (os : OsState) : pinSeenD VV (drecsOf VV) (sE w os) = pinGoodD (drecsOf VV) := by kernel_rfl
theorem look_b6 (w : World) (os : OsState) : plainSeenE VV (looseW VV LO) (sE w os) = plainGoodE VV (looseW VV LO) := by kernel_rfl
theorem look_b7 (w : World) (os : OsState) : plainSeenD VV LO (sE w os) = plainGoodD VV LO := by kernel_rfl
theorem look_b8 (w : World) (os : OsState) : wideSeen VV (sE w os) = wideGood VV := by kernel_rfl
theorem look_b9 (w : World) (os : OsState) : clsSeenW VV LO (sE w os) = clsGoodW VV LO := by kernel_rfl
theorem look_c (w : World) (os : OsState) : Hook.obs HH (sE w os) = Hook.val HH w := by kernel_rfl
theorem looks (w : World) : (fun os : OsState => ((staticsOk modsP (hB w) (hE w) && namesBound PySem.Challenge.pw_oy0243_01 (hE w) && gensDone (sE w os) && laidKept (hB w) (hE w)),
        openSeen VV LO modsP recP true (sE w os), Hook.obs HH (sE w os))) = fun _ => (true, openGood VV LO, Hook.val HH w) :=
  funext fun os => looks_pair (look_both (look_both (look_both (look_a1 w) (look_a2 w)) (look_a3 w os)) (look_a4 w)) (looks_pair
    (looks_pair (look_b1 w os) (looks_pair (look_b2 w) (looks_pair (look_both (look_both (look_both (look_both (look_both (look_both (look_b3a w) (look_b3b w)) (look_b3c w)) (look_b3d w)) (look_b3e w)) (look_b3f w os)) (look_b3g w os))
      (looks_pair (look_b4 w os) (looks_pair (look_b5 w os) (looks_pair (look_b6 w os) (looks_pair (look_b7 w os) (looks_pair (look_b8 w os) (look_b9 w os)))))))))
    (look_c w os))
theorem left_top : LeftO PySem.Challenge.pw_oy0243_01 VV LO (fun s => xlAt VV [] s && recOk (RowW.records PySem.Challenge.rw_oy0243_01.row.toRowW) s) (Hook.obs HH) (Hook.val HH) 4012 :=
  LeftO.of_pieces (H₀ := fun P => absHeap (bootT P) 11 {}) (H₁ := fun P => absHeap (tr5 P) 337 {}) (gs₀ := Array.mk []) (gs₁ := Array.mk []) (d₀ := boot_drawn) (d₁ := {}) (k₀ := boot_toks) (k₁ := 623) (m₀ := 11) (ann := some (.ref 6)) opens sized top_runs (by decide) looks
theorem law_said : PySem.Challenge.rw_oy0243_01.wellSaid = true := by
  delta OpenLaw.wellSaid OpenRow.wellSaid OpenRow.partSaid looksOpen
  repeat' with_reducible refine look_both ?_ ?_
  all_goals decide +kernel
theorem law_open : (chainsOk VV && opensWell PySem.Challenge.rw_oy0243_01.row.prog && (frees PySem.Challenge.rw_oy0243_01.row.toRowW && PySem.Challenge.rw_oy0243_01.row.within.isEmpty)) = true := by
  repeat' with_reducible refine look_both ?_ ?_
  all_goals decide +kernel
end
-- OyBase
section
open PySem PySem.W PySem.Spec PySem.Calls PyProof.Rows
set_option maxRecDepth 100000
set_option maxHeartbeats 8000000
noncomputable abbrev LL : List Str := looseW VV [Str.ofString "_Accumulator", Str.ofString "bytes_types", Str.ofString "a2b_base64", Str.ofString "b2a_base64", Str.ofString "b64encode", Str.ofString "b64decode"]
theorem up0 {d n R : Nat} (h : d + n < R) : d < R := Nat.lt_of_le_of_lt (Nat.le_add_right d n) h
theorem up1 {d a n R : Nat} (h : d + n < R) (e : Nat.ble a n = true) : d + a < R := Nat.lt_of_le_of_lt (Nat.add_le_add_left (Nat.le_of_ble_eq_true e) d) h
theorem up2 {d a b n R : Nat} (h : d + n < R) (e : Nat.ble (a + b) n = true) : d + a + b < R := Nat.lt_of_le_of_lt (Nat.le_trans (Nat.le_of_eq (Nat.add_assoc d a b)) (Nat.add_le_add_left (Nat.le_of_ble_eq_true e) d)) h
theorem up3 {d a b c n R : Nat} (h : d + n < R) (e : Nat.ble (a + b + c) n = true) : d + a + b + c < R := Nat.lt_of_le_of_lt (Nat.le_trans (Nat.le_of_eq (by rw [Nat.add_assoc d a b, Nat.add_assoc d (a + b) c])) (Nat.add_le_add_left (Nat.le_of_ble_eq_true e) d)) h
def Stop (p : Prop) : Prop := p
theorem Stop.mk {p : Prop} (h : Stop p) : p := h
theorem mth {α : Type} {l : List α} {p : α} (k : Nat) (e : l[k]? = some p) : p ∈ l := List.mem_of_getElem? e
def lawIs (_ : OpenLaw) : Prop := True
def kIs (_ : Params → Frag) : Prop := True
abbrev lst (vs : List Value) (n : Nat) : Obj := { cls := .type "list", data := .seq vs.toArray n }
abbrev tup (vs : List Value) (n : Nat) : Obj := { cls := .type "tuple", data := .seq vs.toArray n }
def Hold (P : Prop) : Prop := P
theorem Hold.mk {P : Prop} (h : P) : Hold P := h
theorem Hold.out {P : Prop} (h : Hold P) : P := h
abbrev Keep (h h' : Heap) : Prop := ∀ b o, h.get? b = some o → h'.get? b = some o
theorem Keep.trans {a b c : Heap} (x : Keep a b) (y : Keep b c) : Keep a c := fun q o e => y q o (x q o e)

section
variable {prog : Program} {w : World} {A₀ A : Around} {s : Shared} {base h₀ : Heap} {outer : List Env} {L : Addr} {m mg mb : Str → Option Value} {env : Env} {K : Frag} {p : Program} {loose : List Str}
  {R : Result → Shared → Prop} {name qual : Str} {params : Arguments} {body : List Stmt} {scope : Scope} {cl : List (Str × Addr)} {dV kV doc pm cdv ct oc : Value} {an od : Option Addr} {osl : Array (Option Value)} {f : Addr} {args : Args} {binds : List (Str × Value)}
/-- a def entered by a caller that hands over nothing to be changed: all that stands is kept -/
theorem enterXP (B : Below A₀ base outer h₀) (F : Fr h₀ L s.heap m) (X₀ : K.In h₀) (T : TopRead p loose mg mb h₀) (hA : A.frames = some (env :: outer)) (hf : env.frame = some L) (hke : env.scope.kind = .function)
    (ho : K.lookup f = some ⟨oc, od, .func (fnX name qual params body scope cl dV kV doc pm an cdv ct), osl⟩) (hcd : codeIn K cdv qual = true) (hroom : A.depth < recursionLimit)
    (hbind : BindsTo s (fnX name qual params body scope cl dV kV doc pm an cdv ct) args binds) (hloc : ∀ y ∈ binds, scope.names.lookup y.1 = some .local)
    (h : ∀ L' h₁ tk, Fr s.heap L' h₁ (fun y => binds.reverse.lookup y) → News s.heap L' h₁ [] → Below A base (env :: outer) s.heap → K.In s.heap → TopRead p loose mg mb s.heap → L' = s.heap.objs.size →
      wpAny (model prog w) (A.deeper (envX qual scope L' f cdv cl)) (execs body (envX qual scope L' f cdv cl))
        (fun fl s' => R (.ok (.ret (match fl with | .ret v => v | _ => .none))) s')
        (fun e s' => wpAny (model prog w) (A.deeper (envX qual scope L' f cdv cl)) (leaving (envX qual scope L' f cdv cl) e) (fun _ s'' => R (.error e) s'') (fun e' s'' => R (.error e') s'') s')
        { s with heap := h₁, toks := tk })
    (hcell : ∀ x ∈ scope.names, x.2 ≠ .cell) (hco : scope.isCoroutine = false) (hgen : scope.isGenerator = false) (hk : scope.kind = .function) : codeAny (model prog w) A (.call (.ref f) args) R s := by
  obtain ⟨FG, BG, st, lv⟩ := groundX (R := R) (news := []) B F News.nil hA hf hke
  refine codeAny_call_def (fd := fnX name qual params body scope cl dV kV doc pm an cdv ct) (body := body) (binds := binds) hroom ((X₀.keeps F.keep) _ _ ho) rfl (T.nolimit.keeps F.keep) (codeRec_of (X₀.keeps F.keep) hcd) rfl hbind hcell hloc (fun h₁ hns hk₁ => ?_) hco hgen hk
  exact h s.heap.objs.size h₁ _ ⟨hns, hk₁, Nat.le_refl _⟩ News.nil BG (X₀.keeps F.keep) (T.keeps F.keep) rfl
/-- a def entered by a caller that hands over objects (news) to be changed: all else is kept in g -/
theorem enterXM {news : List (Addr × Obj)} (B : Below A₀ base outer h₀) (F : Fr h₀ L s.heap m) (X₀ : K.In h₀) (N : News h₀ L s.heap news) (T : TopRead p loose mg mb h₀) (hA : A.frames = some (env :: outer)) (hf : env.frame = some L) (hke : env.scope.kind = .function)
    (ho : K.lookup f = some ⟨oc, od, .func (fnX name qual params body scope cl dV kV doc pm an cdv ct), osl⟩) (hcd : codeIn K cdv qual = true) (hroom : A.depth < recursionLimit)
    (hbind : BindsTo s (fnX name qual params body scope cl dV kV doc pm an cdv ct) args binds) (hloc : ∀ y ∈ binds, scope.names.lookup y.1 = some .local)
    (h : ∀ g L' h₁ tk, (∀ b o, s.heap.get? b = some o → b ∉ news.map (·.1) → g.get? b = some o) → Fr g L' h₁ (fun y => binds.reverse.lookup y) → News g L' h₁ news → Below A base (env :: outer) g → K.In g → TopRead p loose mg mb g → (∀ p ∈ news, p.1 < L') → g.objs.size = s.heap.objs.size → L' = s.heap.objs.size →
      wpAny (model prog w) (A.deeper (envX qual scope L' f cdv cl)) (execs body (envX qual scope L' f cdv cl))
        (fun fl s' => R (.ok (.ret (match fl with | .ret v => v | _ => .none))) s')
        (fun e s' => wpAny (model prog w) (A.deeper (envX qual scope L' f cdv cl)) (leaving (envX qual scope L' f cdv cl) e) (fun _ s'' => R (.error e) s'') (fun e' s'' => R (.error e') s'') s')
        { s with heap := h₁, toks := tk })
    (hcell : ∀ x ∈ scope.names, x.2 ≠ .cell) (hco : scope.isCoroutine = false) (hgen : scope.isGenerator = false) (hk : scope.kind = .function) : codeAny (model prog w) A (.call (.ref f) args) R s := by
  obtain ⟨FG, BG, st, lv⟩ := groundX (R := R) (news := news) B F N hA hf hke
  refine codeAny_call_def (fd := fnX name qual params body scope cl dV kV doc pm an cdv ct) (body := body) (binds := binds) hroom ((X₀.keeps F.keep) _ _ ho) rfl (T.nolimit.keeps F.keep) (codeRec_of (X₀.keeps F.keep) hcd) rfl hbind hcell hloc (fun h₁ hns hk₁ => ?_) hco hgen hk
  exact h _ s.heap.objs.size h₁ _ (fun b o e hb => hideAll_get _ e hb) ⟨hns, fun b o e => hk₁ b o (of_hideAll _ e), Nat.le_of_eq (hideAll_size _ _)⟩
    (fun p hp => ⟨hk₁ _ _ (N p hp).1, Nat.ne_of_lt (Heap.lt_size (N p hp).1), hideAll_none _ (List.mem_map_of_mem hp)⟩) BG (X₀.keeps st) (T.keeps st) (fun p hp => Heap.lt_size (N p hp).1) (hideAll_size _ _) rfl
/-- a def entered by a caller that hands over nothing to be changed: all that stands is kept -/
theorem enterP (B : Below A₀ base outer h₀) (F : Fr h₀ L s.heap m) (X₀ : K.In h₀) (T : TopRead p loose mg mb h₀) (hA : A.frames = some (env :: outer)) (hf : env.frame = some L) (hke : env.scope.kind = .function)
    (ho : K.lookup f = some ⟨oc, od, .func (fnOf name qual params body scope dV kV doc pm an cdv ct), osl⟩) (hcd : codeIn K cdv qual = true) (hroom : A.depth < recursionLimit)
    (hbind : BindsTo s (fnOf name qual params body scope dV kV doc pm an cdv ct) args binds) (hloc : ∀ y ∈ binds, scope.names.lookup y.1 = some .local)
    (h : ∀ L' h₁ tk, Fr s.heap L' h₁ (fun y => binds.reverse.lookup y) → News s.heap L' h₁ [] → Below A base (env :: outer) s.heap → K.In s.heap → TopRead p loose mg mb s.heap → L' = s.heap.objs.size →
      wpAny (model prog w) (A.deeper (envOf qual scope L' f cdv)) (execs body (envOf qual scope L' f cdv))
        (fun fl s' => R (.ok (.ret (match fl with | .ret v => v | _ => .none))) s')
        (fun e s' => wpAny (model prog w) (A.deeper (envOf qual scope L' f cdv)) (leaving (envOf qual scope L' f cdv) e) (fun _ s'' => R (.error e) s'') (fun e' s'' => R (.error e') s'') s')
        { s with heap := h₁, toks := tk })
    (hcell : ∀ x ∈ scope.names, x.2 ≠ .cell) (hco : scope.isCoroutine = false) (hgen : scope.isGenerator = false) (hk : scope.kind = .function) : codeAny (model prog w) A (.call (.ref f) args) R s :=
  enterXP (cl := []) B F X₀ T hA hf hke ho hcd hroom hbind hloc h hcell hco hgen hk
/-- a def entered by a caller that hands over objects (news) to be changed: all else is kept in g -/
theorem enterM {news : List (Addr × Obj)} (B : Below A₀ base outer h₀) (F : Fr h₀ L s.heap m) (X₀ : K.In h₀) (N : News h₀ L s.heap news) (T : TopRead p loose mg mb h₀) (hA : A.frames = some (env :: outer)) (hf : env.frame = some L) (hke : env.scope.kind = .function)
    (ho : K.lookup f = some ⟨oc, od, .func (fnOf name qual params body scope dV kV doc pm an cdv ct), osl⟩) (hcd : codeIn K cdv qual = true) (hroom : A.depth < recursionLimit)
    (hbind : BindsTo s (fnOf name qual params body scope dV kV doc pm an cdv ct) args binds) (hloc : ∀ y ∈ binds, scope.names.lookup y.1 = some .local)
    (h : ∀ g L' h₁ tk, (∀ b o, s.heap.get? b = some o → b ∉ news.map (·.1) → g.get? b = some o) → Fr g L' h₁ (fun y => binds.reverse.lookup y) → News g L' h₁ news → Below A base (env :: outer) g → K.In g → TopRead p loose mg mb g → (∀ p ∈ news, p.1 < L') → g.objs.size = s.heap.objs.size → L' = s.heap.objs.size →
      wpAny (model prog w) (A.deeper (envOf qual scope L' f cdv)) (execs body (envOf qual scope L' f cdv))
        (fun fl s' => R (.ok (.ret (match fl with | .ret v => v | _ => .none))) s')
        (fun e s' => wpAny (model prog w) (A.deeper (envOf qual scope L' f cdv)) (leaving (envOf qual scope L' f cdv) e) (fun _ s'' => R (.error e) s'') (fun e' s'' => R (.error e') s'') s')
        { s with heap := h₁, toks := tk })
    (hcell : ∀ x ∈ scope.names, x.2 ≠ .cell) (hco : scope.isCoroutine = false) (hgen : scope.isGenerator = false) (hk : scope.kind = .function) : codeAny (model prog w) A (.call (.ref f) args) R s :=
  enterXM (cl := []) B F X₀ N T hA hf hke ho hcd hroom hbind hloc h hcell hco hgen hk
end
theorem newsKeep {h₀ h h' : Heap} {L : Addr} {news : List (Addr × Obj)} (N : News h₀ L h news) (k : Keep h h') : News h₀ L h' news := fun p hp => ⟨k _ _ (N p hp).1, (N p hp).2⟩

structure Ext (s s' : Shared) : Prop where
  heap : Keep s.heap s'.heap
  os : s'.os = s.os
  gens : AllBare s.gens → AllBare s'.gens
theorem Ext.lit {s : Shared} {h' : Heap} {tk : Nat} (k : Keep s.heap h') : Ext s { s with heap := h', toks := tk } := ⟨k, rfl, id⟩
theorem Ext.refl (s : Shared) : Ext s s := ⟨fun _ _ e => e, rfl, id⟩
theorem Ext.trans {a b c : Shared} (x : Ext a b) (y : Ext b c) : Ext a c := ⟨x.heap.trans y.heap, y.os.trans x.os, fun g => y.gens (x.gens g)⟩
theorem Ext.of {s s₁ : Shared} {h' : Heap} {tk : Nat} (x : Ext s s₁) (k : Keep s.heap h') : Ext s { s₁ with heap := h', toks := tk } := ⟨k, x.os, x.gens⟩
structure ExtBut (as : List Addr) (s s' : Shared) : Prop where
  heap : ∀ b o, b ∉ as → s.heap.get? b = some o → s'.heap.get? b = some o
  os : s'.os = s.os
  gens : AllBare s.gens → AllBare s'.gens
/-- the outside and the generators are as they were -/
def OG (s : Shared) (o : OsState) (g : Array GenState) : Prop := o = s.os ∧ (AllBare s.gens → AllBare g)
theorem OG.refl (s : Shared) : OG s s.os s.gens := ⟨rfl, id⟩
theorem OG.step {s s₁ s₂ : Shared} (og : OG s s₁.os s₁.gens) (x : Ext s₁ s₂) : OG s s₂.os s₂.gens := ⟨x.os.trans og.1, fun g => x.gens (og.2 g)⟩
theorem Ext.mk2 {s s' : Shared} (k : Keep s.heap s'.heap) (og : OG s s'.os s'.gens) : Ext s s' := ⟨k, og.1, og.2⟩
theorem retI {s : Shared} {Q : Value → Shared → Prop} {x y : Int} {t : Tok} {s' : Shared} (ret : ∀ t s', Ext s s' → Q (.int x t) s') (e : y = x) (k : Ext s s') : Q (.int y t) s' := e ▸ ret _ _ k
theorem retS {s : Shared} {Q : Value → Shared → Prop} {x y : Str} {t : Tok} {s' : Shared} (ret : ∀ t s', Ext s s' → Q (.str x t) s') (e : y = x) (k : Ext s s') : Q (.str y t) s' := e ▸ ret _ _ k
theorem retY {s : Shared} {Q : Value → Shared → Prop} {x y : Array UInt8} {t : Tok} {s' : Shared} (ret : ∀ t s', Ext s s' → Q (.bytes x t) s') (e : y = x) (k : Ext s s') : Q (.bytes y t) s' := e ▸ ret _ _ k
theorem retB {s : Shared} {Q : Value → Shared → Prop} {x y : Bool} {s' : Shared} (ret : ∀ s', Ext s s' → Q (.bool x) s') (e : y = x) (k : Ext s s') : Q (.bool y) s' := e ▸ ret _ k

section
variable {prog : Program} {w : World} {A : Around} {E : Value → Shared → Prop} {s : Shared} {h₀ : Heap} {L : Addr} {m : Str → Option Value} {env : Env}
/-- a list comprehension, item by item, each making no more than new objects -/
theorem compAll {elt : Expr} {x : Str} {scope : Scope} {cl : List (Str × Addr)} {S : List (Addr × Obj) → Prop} {P : Nat → Value → Prop} {Fin : List Value → List (Addr × Obj) → Prop} {news : List (Addr × Obj)} {n : Nat} (G : Nat → Value → Prop) (hS : S news)
    (elem : ∀ i v I oI C oC D ys m₂ h tk (E' : Value → Shared → Prop), i < n → P i v → LCg.NsObj oC m₂ → m₂ x = some v → Fr h₀ L h m → News h₀ L h ((I, oI) :: (C, oC) :: (D, LCg.lst ys) :: news) →
      wpAny (model prog w) A (eval elt (compEnvC scope cl C env)) (fun y s' => ∃ h' tk', s' = { s with heap := h', toks := tk' } ∧ Keep h h' ∧ G i y) E' { s with heap := h, toks := tk })
    (fin : ∀ ys, ys.length = n → (∀ i y, ys[i]? = some y → G i y) → Fin ys news) :
    LCg.CompRest prog w A h₀ L m env elt x scope cl s S P Fin n 0 [] news := by
  have main : ∀ k i ys, i + k = n → ys.length = i → (∀ j y, ys[j]? = some y → G j y) → LCg.CompRest prog w A h₀ L m env elt x scope cl s S P Fin k i ys news := by
    intro k
    induction k with
    | zero => intro i ys hi hl hG; exact fin ys (by omega) hG
    | succ k ih =>
      intro i ys hi hl hG
      refine LCg.CompRest.succ fun v I oI C oC D m₂ h tk E' hP hoC hm F N off hne => ?_
      refine wpAny_mono (elem i v I oI C oC D ys m₂ h tk E' (by omega) hP hoC hm F N) (fun y s' hy => ?_) fun _ _ e => e
      obtain ⟨h', tk', rfl, hk, hg⟩ := hy
      refine ⟨h', tk', news, rfl, F.keeps hk, newsKeep N hk, off, hS, ih (i + 1) (ys ++ [y]) (by omega) (by simp [hl]) fun j z hj => ?_⟩
      rcases Nat.lt_trichotomy j i with hlt | rfl | hgt
      · rw [List.getElem?_append_left (by omega)] at hj
        exact hG j z hj
      · rw [List.getElem?_append_right (by omega), hl, Nat.sub_self] at hj
        cases hj
        exact hg
      · rw [List.getElem?_append_right (by omega)] at hj
        have : j - ys.length ≠ 0 := by omega
        obtain ⟨q, hq⟩ := Nat.exists_eq_succ_of_ne_zero this
        rw [hq] at hj
        simp at hj
  exact main n 0 [] (by omega) rfl (by simp)

/-- a for over a list of the call's, or of what stood before: J between the turns -/
theorem forL {x : Str} {px : Pos} {body : List Stmt} {Q : Flow → Shared → Prop} {l : Addr} {vs : List Value} {news : List (Addr × Obj)} (J : Nat → (Str → Option Value) → List (Addr × Obj) → Shared → Prop)
    (hh : A.handled = none) (hL : env.locals = L) (hx : env.kindOf x = some .local) (hp : (env.scope.kind == .class || (env.scope.kind == .module && env.locals != env.globals)) = false)
    (F : Fr h₀ L s.heap m) (N : News h₀ L s.heap news) (S : LCg.SrcAt h₀ l vs.toArray news) (hJ : J 0 m news s)
    (turn : ∀ i v m₁ news₁ s₁ h₂ tk I oI, vs[i]? = some v → J i m₁ news₁ s₁ → (∀ p ∈ news₁, p.1 ≠ I) → LCg.SrcAt h₀ l vs.toArray news₁ → Fr h₀ L h₂ (fun y => if y = x then some v else m₁ y) → News h₀ L h₂ ((I, oI) :: news₁) →
      wpAny (model prog w) A (execs body env) (fun f s₃ => match f with
        | .ret v => Q (.ret v) s₃
        | .brk => Q .next s₃
        | _ => Hold (∃ m' news', Fr h₀ L s₃.heap m' ∧ News h₀ L s₃.heap ((I, oI) :: news') ∧ (∀ p ∈ news', p.1 ≠ I) ∧ LCg.SrcAt h₀ l vs.toArray news' ∧ J (i + 1) m' news' s₃)) E { s₁ with heap := h₂, toks := tk })
    (done : ∀ m' news' s₁ h' , J vs.length m' news' s₁ → Fr h₀ L h' m' → News h₀ L h' news' → Q .next { s₁ with heap := h' })
    (hE : PassesOwn (model prog w) A env E) :
    wpAny (model prog w) A (pyIter (.ref l)) (fun it s₂ => codeAny (model prog w) A (.forLoop (.Name x px) it body [] env) (fun r s' => match r with | .ok f => Q f s' | .error e => cameBackBy (model prog w) A env E e s') s₂) E s := by
  subst hL
  have hls := S.list F.keep N
  obtain ⟨ol, hol, _⟩ := id hls
  have hlt : l < s.heap.objs.size := Heap.lt_size hol
  refine wpAny_pyIter_list hls ?_
  generalize hI : s.heap.objs.size = I
  have hne : l ≠ I := by rw [← hI]; exact Nat.ne_of_lt hlt
  have hIL : env.locals ≠ I := by rw [← hI]; exact Nat.ne_of_lt F.ns.lt
  have hI₀ : h₀.get? I = none := by
    cases q : h₀.get? I with
    | none => rfl
    | some o => exact absurd (Heap.lt_size (F.keep _ _ q)) (by rw [hI]; exact Nat.lt_irrefl _)
  refine codeAny_forLoop (fun k s' => ∃ m₁ news₁ s₁ h' i, s' = { s₁ with heap := h' } ∧ J i m₁ news₁ s₁ ∧ Fr h₀ env.locals h' m₁ ∧ News h₀ env.locals h' news₁ ∧ (∀ p ∈ news₁, p.1 ≠ I) ∧ LCg.SrcAt h₀ l vs.toArray news₁ ∧ h'.IsListIter I l i ∧ i ≤ vs.length ∧ k = vs.length + 1 - i) ?_ (vs.length + 1)
    ⟨m, news, s, _, 0, rfl, hJ, F.push _, (fun p hp => ⟨Heap.get?_push_of_some _ (N p hp).1, (N p hp).2⟩), (fun p hp => by rw [← hI]; exact Nat.ne_of_lt (Heap.lt_size (N p hp).1)), S, ⟨_, by rw [← hI]; exact Heap.get?_push_size _ rfl, rfl, rfl⟩, Nat.zero_le _, rfl⟩
  rintro k s' ⟨m₁, news₁, s₁, h', i, rfl, hJ₁, F₁, N₁, off₁, S₁, hit, hi, rfl⟩
  have hl₁ := S₁.list F₁.keep N₁
  cases hv : vs[i]? with
  | none =>
    have hsz : i = vs.length := Nat.le_antisymm hi (by simpa using hv)
    subst hsz
    refine wpAny_pyNext_list_end hh hit hl₁ (by simpa using hv) fun h₂ he => wpAny_execs_nil ?_
    have hk : ∀ b o, b ∉ [I] → h'.get? b = some o → h₂.get? b = some o := fun b o hb e => he b o (by simpa using hb) e
    exact done m₁ news₁ s₁ h₂ hJ₁ (LCg.fr_but F₁ hk hIL hI₀) (LCg.news_but N₁ hk off₁)
  | some v =>
    have hlt' : i < vs.length := by
      rcases Nat.lt_or_ge i vs.length with h | h
      · exact h
      · rw [List.getElem?_eq_none h] at hv; cases hv
    refine wpAny_pyNext_list_item hit hl₁ (by simpa using hv) fun h₂ hit₂ hs₂ => ?_
    have hk : ∀ b o, b ∉ [I] → h'.get? b = some o → h₂.get? b = some o := fun b o hb e => hs₂.extBut b o (by simpa using hb) e
    have F₂ := LCg.fr_but F₁ hk hIL hI₀
    have N₂ := LCg.news_but N₁ hk off₁
    refine wpAny_assign_Name (wpAny_storeName_local hx F₂.ns (fun h₃ hn₃ hs₃ => ?_) hp)
    have F₃ := F₂.set hn₃ hs₃
    have hit₃ := hit₂.extBut hs₃.extBut (Ne.symm hIL)
    obtain ⟨oI, hoI, hoI'⟩ := hit₃
    have N₃ : News h₀ env.locals h₃ ((I, oI) :: news₁) := fun p hp => by
      rcases List.mem_cons.mp hp with rfl | hp
      · exact ⟨hoI, Ne.symm hIL, hI₀⟩
      · exact N₂.set hs₃ p hp
    refine wpAny_passesOwn hE (wpAny_mono (turn i v m₁ news₁ s₁ h₃ _ I oI hv hJ₁ off₁ S₁ F₃ N₃) (fun f s₄ h₄ => ?_) fun _ _ e => e)
    have fin : (∃ m' news', Fr h₀ env.locals s₄.heap m' ∧ News h₀ env.locals s₄.heap ((I, oI) :: news') ∧ (∀ p ∈ news', p.1 ≠ I) ∧ LCg.SrcAt h₀ l vs.toArray news' ∧ J (i + 1) m' news' s₄) →
        ∃ k', k' < vs.length + 1 - i ∧ ∃ m₁ news₁ s₁ h' i, s₄ = { s₁ with heap := h' } ∧ J i m₁ news₁ s₁ ∧ Fr h₀ env.locals h' m₁ ∧ News h₀ env.locals h' news₁ ∧ (∀ p ∈ news₁, p.1 ≠ I) ∧ LCg.SrcAt h₀ l vs.toArray news₁ ∧ h'.IsListIter I l i ∧ i ≤ vs.length ∧ k' = vs.length + 1 - i := by
      rintro ⟨m', news', F', N', off', S', hJ'⟩
      exact ⟨vs.length + 1 - (i + 1), by omega, m', news', s₄, s₄.heap, i + 1, rfl, hJ', F', fun p hp => N' p (List.mem_cons_of_mem _ hp), off', S', ⟨oI, (N' _ List.mem_cons_self).1, hoI'⟩, hlt', rfl⟩
    cases f with
    | ret v => exact h₄
    | brk => exact h₄
    | next => exact fin h₄
    | cont => exact fin h₄
end
end
-- OyB2
section
open PySem PySem.W PySem.Spec PySem.Calls PyProof.Rows
set_option maxRecDepth 100000
set_option maxHeartbeats 8000000
section
variable {prog : Program} {w : World} {A₀ A : Around} {s : Shared} {base h₀ : Heap} {outer : List Env} {L : Addr} {m mg mb : Str → Option Value} {env : Env} {K : Frag} {p : Program} {loose : List Str}
  {R : Result → Shared → Prop} {name qual : Str} {params : Arguments} {body : List Stmt} {scope : Scope} {dV kV doc pm cdv ct oc : Value} {an od : Option Addr} {osl : Array (Option Value)} {f : Addr} {args : Args} {binds : List (Str × Value)}
theorem enterC (B : Below A₀ base outer h₀) (F : Fr h₀ L s.heap m) (X₀ : K.In h₀) (T : TopRead p loose mg mb h₀) (hA : A.frames = some (env :: outer)) (hf : env.frame = some L) (hke : env.scope.kind = .function)
    (ho : K.lookup f = some ⟨oc, od, .func (fnX name qual params body scope [] dV kV doc pm an cdv ct), osl⟩) (hcd : codeIn K cdv qual = true) (hroom : A.depth < recursionLimit)
    (hbind : BindsTo s (fnX name qual params body scope [] dV kV doc pm an cdv ct) args binds) (hkind : (binds.all fun y => scope.names.lookup y.1 == some .local || scope.names.lookup y.1 == some .cell) = true)
    (hnd : ((cellsFrom 0 scope.names []).map (·.1)).Nodup)
    (h : ∀ L' h₁ tk cells, Fr s.heap L' h₁ (bindL (envOfC qual scope L' f cdv).kindOf binds fun _ => none) → News s.heap L' h₁ cells →
      CellsAre (bindC (envOfC qual scope L' f cdv).kindOf binds fun _ => none) (cellsFrom (L' + 1) scope.names []) cells → Below A base (env :: outer) s.heap → K.In s.heap → TopRead p loose mg mb s.heap →
      wpAny (model prog w) (A.deeper (envOfC qual scope L' f cdv)) (execs body (envOfC qual scope L' f cdv))
        (fun fl s' => R (.ok (.ret (match fl with | .ret v => v | _ => .none))) s')
        (fun e s' => wpAny (model prog w) (A.deeper (envOfC qual scope L' f cdv)) (leaving (envOfC qual scope L' f cdv) e) (fun _ s'' => R (.error e) s'') (fun e' s'' => R (.error e') s'') s')
        { s with heap := h₁, toks := tk })
    (hco : scope.isCoroutine = false) (hgen : scope.isGenerator = false) (hk : scope.kind = .function) : codeAny (model prog w) A (.call (.ref f) args) R s := by
  obtain ⟨FG, BG, st, lv⟩ := groundX (R := R) (news := []) B F News.nil hA hf hke
  refine codeAny_call_function (fd := fnX name qual params body scope [] dV kV doc pm an cdv ct) hroom ((X₀.keeps F.keep) _ _ ho) rfl hco hgen rfl (codeRec_of (X₀.keeps F.keep) hcd) (hbind _ _ _ _ ?_)
  refine wpAny_newFunctionEnv_cells hk (kindsX hkind _) fun env' he s' x => ?_
  subst he
  refine ⟨(T.nolimit.keeps F.keep).keeps x.toInCall.keep, codeAny_func ?_⟩
  obtain ⟨h₁, tk, rfl, _⟩ := x.done
  have hk₁ := x.toInCall.keep
  obtain ⟨cells, NC, Y⟩ := Cl.news (h₀ := s.heap) (Nat.le_refl _) fun n c hm => ⟨x.cell n c (lookup_of_mem_nodup (cellsFrom_names scope.names 0 (s.heap.objs.size + 1) [] [] rfl ▸ hnd) hm), x.above n c hm⟩
  exact h s.heap.objs.size h₁ tk cells ⟨x.toInCall.ns, hk₁, Nat.le_refl _⟩ NC Y BG (X₀.keeps F.keep) (T.keeps F.keep)
end

section
variable {prog : Program} {w : World} {A : Around} {E : Value → Shared → Prop} {s : Shared} {h₀ : Heap} {L : Addr} {m : Str → Option Value} {env : Env}
/-- a for over a walk whose state is its iterator's alone -/
theorem forW {x : Str} {px : Pos} {body : List Stmt} {Q : Flow → Shared → Prop} {I : Addr} {fp : List Addr} {n : Nat} {P : Nat → Value → Prop} {St : Nat → Heap → Prop} {news : List (Addr × Obj)} (J : Nat → (Str → Option Value) → List (Addr × Obj) → Shared → Prop)
    (W : Walks prog w A I fp [I] n P St) (hIo : ∀ i h, St i h → ∃ o, h.get? I = some o) (hSt : ∀ i h h' o, St i h → h.get? I = some o → h'.get? I = some o → St i h') (hst : St 0 s.heap)
    (hL : env.locals = L) (hx : env.kindOf x = some .local) (hp : (env.scope.kind == .class || (env.scope.kind == .module && env.locals != env.globals)) = false)
    (F : Fr h₀ L s.heap m) (N : News h₀ L s.heap news) (hIL : L ≠ I) (hI₀ : h₀.get? I = none) (off : ∀ p ∈ news, p.1 ≠ I) (hJ : J 0 m news s)
    (turn : ∀ i v m₁ news₁ s₁ h₂ tk oI, i < n → P i v → J i m₁ news₁ s₁ → (∀ p ∈ news₁, p.1 ≠ I) → Fr h₀ L h₂ (fun y => if y = x then some v else m₁ y) → News h₀ L h₂ ((I, oI) :: news₁) →
      wpAny (model prog w) A (execs body env) (fun f s₃ => match f with
        | .ret v => Q (.ret v) s₃
        | .brk => Q .next s₃
        | _ => Hold (∃ m' news', Fr h₀ L s₃.heap m' ∧ News h₀ L s₃.heap ((I, oI) :: news') ∧ (∀ p ∈ news', p.1 ≠ I) ∧ J (i + 1) m' news' s₃)) E { s₁ with heap := h₂, toks := tk })
    (done : ∀ m' news' s₁ h' tk, J n m' news' s₁ → Fr h₀ L h' m' → News h₀ L h' news' → Q .next { s₁ with heap := h', toks := tk })
    (hE : PassesOwn (model prog w) A env E) :
    codeAny (model prog w) A (.forLoop (.Name x px) (.ref I) body [] env) (fun r s' => match r with | .ok f => Q f s' | .error e => cameBackBy (model prog w) A env E e s') s := by
  subst hL
  refine codeAny_forLoop (fun k s' => ∃ m₁ news₁ s₁ h' tk i, s' = { s₁ with heap := h', toks := tk } ∧ J i m₁ news₁ s₁ ∧ Fr h₀ env.locals h' m₁ ∧ News h₀ env.locals h' news₁ ∧ (∀ p ∈ news₁, p.1 ≠ I) ∧ St i h' ∧ i ≤ n ∧ k = n + 1 - i) ?_ (n + 1)
    ⟨m, news, s, s.heap, s.toks, 0, rfl, hJ, F, N, off, hst, Nat.zero_le _, rfl⟩
  rintro k s' ⟨m₁, news₁, s₁, h', tk, i, rfl, hJ₁, F₁, N₁, off₁, st₁, hi, rfl⟩
  by_cases hlt : i < n
  · refine W.item i _ _ _ hlt st₁ fun v h₂ tk₂ hPv st₂ hk => ?_
    have F₂ := LCg.fr_but F₁ hk hIL hI₀
    have N₂ := LCg.news_but N₁ hk off₁
    refine wpAny_assign_Name (wpAny_storeName_local hx F₂.ns (fun h₃ hn₃ hs₃ => ?_) hp)
    have F₃ := F₂.set hn₃ hs₃
    obtain ⟨oI, hoI⟩ := hIo _ _ st₂
    have hoI₃ := hs₃.extBut _ _ (Ne.symm hIL) hoI
    have N₃ : News h₀ env.locals h₃ ((I, oI) :: news₁) := fun p hp => by
      rcases List.mem_cons.mp hp with rfl | hp
      · exact ⟨hoI₃, Ne.symm hIL, hI₀⟩
      · exact N₂.set hs₃ p hp
    refine wpAny_passesOwn hE (wpAny_mono (turn i v m₁ news₁ s₁ h₃ _ oI hlt hPv hJ₁ off₁ F₃ N₃) (fun f s₄ h₄ => ?_) fun _ _ e => e)
    have fin : (∃ m' news', Fr h₀ env.locals s₄.heap m' ∧ News h₀ env.locals s₄.heap ((I, oI) :: news') ∧ (∀ p ∈ news', p.1 ≠ I) ∧ J (i + 1) m' news' s₄) →
        ∃ k', k' < n + 1 - i ∧ ∃ m₁ news₁ s₁ h' tk i, s₄ = { s₁ with heap := h', toks := tk } ∧ J i m₁ news₁ s₁ ∧ Fr h₀ env.locals h' m₁ ∧ News h₀ env.locals h' news₁ ∧ (∀ p ∈ news₁, p.1 ≠ I) ∧ St i h' ∧ i ≤ n ∧ k' = n + 1 - i := by
      rintro ⟨m', news', F', N', off', hJ'⟩
      exact ⟨n + 1 - (i + 1), by omega, m', news', s₄, s₄.heap, s₄.toks, i + 1, rfl, hJ', F', fun p hp => N' p (List.mem_cons_of_mem _ hp), off', hSt _ _ _ _ st₂ hoI (N' _ List.mem_cons_self).1, hlt, rfl⟩
    cases f with
    | ret v => exact h₄
    | brk => exact h₄
    | next => exact fin h₄
    | cont => exact fin h₄
  · obtain rfl : i = n := Nat.le_antisymm hi (Nat.not_lt.mp hlt)
    refine W.done _ _ _ st₁ fun h₂ tk₂ hk => wpAny_execs_nil ?_
    exact done m₁ news₁ s₁ h₂ _ hJ₁ (LCg.fr_but F₁ hk hIL hI₀) (LCg.news_but N₁ hk off₁)
/-- a for over bytes -/
theorem forY {x : Str} {px : Pos} {body : List Stmt} {Q : Flow → Shared → Prop} {b : Array UInt8} {tb : Tok} {news : List (Addr × Obj)} (J : Nat → (Str → Option Value) → List (Addr × Obj) → Shared → Prop)
    (hh : A.handled = none) (hL : env.locals = L) (hx : env.kindOf x = some .local) (hp : (env.scope.kind == .class || (env.scope.kind == .module && env.locals != env.globals)) = false)
    (F : Fr h₀ L s.heap m) (N : News h₀ L s.heap news) (hJ : J 0 m news s)
    (turn : ∀ i c u m₁ news₁ s₁ h₂ tk I oI, b[i]? = some c → J i m₁ news₁ s₁ → (∀ p ∈ news₁, p.1 ≠ I) → Fr h₀ L h₂ (fun y => if y = x then some (.int (UInt8.toNat c : Nat) u) else m₁ y) → News h₀ L h₂ ((I, oI) :: news₁) →
      wpAny (model prog w) A (execs body env) (fun f s₃ => match f with
        | .ret v => Q (.ret v) s₃
        | .brk => Q .next s₃
        | _ => Hold (∃ m' news', Fr h₀ L s₃.heap m' ∧ News h₀ L s₃.heap ((I, oI) :: news') ∧ (∀ p ∈ news', p.1 ≠ I) ∧ J (i + 1) m' news' s₃)) E { s₁ with heap := h₂, toks := tk })
    (done : ∀ m' news' s₁ h' tk, J b.size m' news' s₁ → Fr h₀ L h' m' → News h₀ L h' news' → Q .next { s₁ with heap := h', toks := tk })
    (hE : PassesOwn (model prog w) A env E) :
    wpAny (model prog w) A (pyIter (.bytes b tb)) (fun it s₂ => codeAny (model prog w) A (.forLoop (.Name x px) it body [] env) (fun r s' => match r with | .ok f => Q f s' | .error e => cameBackBy (model prog w) A env E e s') s₂) E s := by
  subst hL
  refine KBw.pyIter_bytes ?_
  have hI₀ : h₀.get? s.heap.objs.size = none := by
    cases q : h₀.get? s.heap.objs.size with
    | none => rfl
    | some o => exact absurd (Heap.lt_size (F.keep _ _ q)) (Nat.lt_irrefl _)
  let J' : Nat → (Str → Option Value) → List (Addr × Obj) → Shared → Prop := fun i m n s' => ∃ h' tk, J i m n { s' with heap := h', toks := tk }
  refine forW J' (KBw.walks hh s.heap.objs.size b tb) (fun i h st => let ⟨o, e, _⟩ := st; ⟨o, e⟩) (fun i h h' o st e e' => by obtain ⟨o', q, r⟩ := st; rw [e] at q; cases q; exact ⟨o, e', r⟩)
    ⟨_, Heap.get?_push_size _ rfl, rfl, rfl⟩ rfl hx hp (F.push _) (fun p hp => ⟨Heap.get?_push_of_some _ (N p hp).1, (N p hp).2⟩) (Nat.ne_of_lt F.ns.lt) hI₀ (fun p hp => Nat.ne_of_lt (Heap.lt_size (N p hp).1)) ⟨s.heap, s.toks, hJ⟩ ?_ ?_ hE
  · rintro i v m₁ news₁ s₁ h₂ tk oI hi ⟨c, u, hc, rfl⟩ ⟨h', tk', hJ₁⟩ off F₁ N₁
    refine wpAny_mono (turn i c u m₁ news₁ { s₁ with heap := h', toks := tk' } h₂ tk s.heap.objs.size oI hc hJ₁ off F₁ N₁) (fun f s₃ h₃ => ?_) fun _ _ e => e
    cases f with
    | ret v => exact h₃
    | brk => exact h₃
    | next => obtain ⟨m', n', a, b, c, d⟩ := Hold.out h₃; exact Hold.mk ⟨m', n', a, b, c, s₃.heap, s₃.toks, d⟩
    | cont => obtain ⟨m', n', a, b, c, d⟩ := Hold.out h₃; exact Hold.mk ⟨m', n', a, b, c, s₃.heap, s₃.toks, d⟩
  · rintro m' news' s₁ h' tk ⟨h'', tk', hJ₁⟩ F₁ N₁
    exact done m' news' { s₁ with heap := h'', toks := tk' } h' tk hJ₁ F₁ N₁
end

theorem Fr_know {h₀ h : Heap} {L : Addr} {m : Str → Option Value} (x : Str) {v : Value} (F : Fr h₀ L h m) (hv : m x = some v) : Fr h₀ L h (fun y => if y = x then some v else m y) := by
  have e : (fun y => if y = x then some v else m y) = m := by
    funext y
    by_cases h : y = x
    · subst h; rw [if_pos rfl, hv]
    · rw [if_neg h]
  rw [e]; exact F
end
-- X0
section
open PySem PySem.W PySem.Spec PySem.Calls PyProof.Rows
/-- all that stands is kept; nothing but the heap and the count of marks is new -/
structure ExtX (s s' : Shared) : Prop where
  heap : Keep s.heap s'.heap
  same : s'.os = s.os ∧ s'.gens = s.gens ∧ s'.drawn = s.drawn
def OGX (s : Shared) (o : OsState) (g : Array GenState) (d : Drawn) : Prop := o = s.os ∧ g = s.gens ∧ d = s.drawn
theorem OGX.refl (s : Shared) : OGX s s.os s.gens s.drawn := ⟨rfl, rfl, rfl⟩
theorem OGX.step {s s₁ s₂ : Shared} (og : OGX s s₁.os s₁.gens s₁.drawn) (x : ExtX s₁ s₂) : OGX s s₂.os s₂.gens s₂.drawn := ⟨x.same.1.trans og.1, x.same.2.1.trans og.2.1, x.same.2.2.trans og.2.2⟩
theorem ExtX.mk2 {s s' : Shared} (k : Keep s.heap s'.heap) (og : OGX s s'.os s'.gens s'.drawn) : ExtX s s' := ⟨k, og⟩
theorem ExtX.refl (s : Shared) : ExtX s s := ⟨fun _ _ e => e, rfl, rfl, rfl⟩
theorem ExtX.lit {s : Shared} {h' : Heap} {tk : Nat} (k : Keep s.heap h') : ExtX s { s with heap := h', toks := tk } := ⟨k, rfl, rfl, rfl⟩
theorem ExtX.ext {s s' : Shared} (x : ExtX s s') : Ext s s' := ⟨x.heap, x.same.1, fun g => x.same.2.1 ▸ g⟩
theorem ExtX.eq {s s' : Shared} (x : ExtX s s') : s' = { s with heap := s'.heap, toks := s'.toks } := by
  obtain ⟨_, a, b, c⟩ := x
  cases s'
  simp only at a b c
  subst a b c
  rfl
theorem retIX {s : Shared} {Q : Value → Shared → Prop} {x y : Int} {t : Tok} {s' : Shared} (ret : ∀ t s', ExtX s s' → Q (.int x t) s') (e : y = x) (k : ExtX s s') : Q (.int y t) s' := e ▸ ret _ _ k
theorem retSX {s : Shared} {Q : Value → Shared → Prop} {x y : Str} {t : Tok} {s' : Shared} (ret : ∀ t s', ExtX s s' → Q (.str x t) s') (e : y = x) (k : ExtX s s') : Q (.str y t) s' := e ▸ ret _ _ k
theorem retYX {s : Shared} {Q : Value → Shared → Prop} {x y : Array UInt8} {t : Tok} {s' : Shared} (ret : ∀ t s', ExtX s s' → Q (.bytes x t) s') (e : y = x) (k : ExtX s s') : Q (.bytes y t) s' := e ▸ ret _ _ k
theorem retBX {s : Shared} {Q : Value → Shared → Prop} {x y : Bool} {s' : Shared} (ret : ∀ s', ExtX s s' → Q (.bool x) s') (e : y = x) (k : ExtX s s') : Q (.bool y) s' := e ▸ ret _ k
theorem wpAny_opqE {α : Type} {M : Model} {A : Around} {env : Env} {t : Sem α} {Q : α → Shared → Prop} {E : Value → Shared → Prop} {s : Shared} (hE : PassesOwn M A env E) (h : ∀ (Q' : α → Shared → Prop) (E' : Value → Shared → Prop), (∀ a s', Q a s' → Q' a s') → PassesOwn M A env E' → wpAny M A t Q' E' s) : wpAny M A t Q E s := h Q E (fun _ _ z => z) hE
theorem wpAny_opq {α : Type} {M : Model} {A : Around} {t : Sem α} {Q : α → Shared → Prop} {E : Value → Shared → Prop} {s : Shared} (h : ∀ Q' : α → Shared → Prop, (∀ a s', Q a s' → Q' a s') → wpAny M A t Q' E s) : wpAny M A t Q E s := h Q fun _ _ z => z
end
section
open PySem PySem.W PySem.Spec PySem.Calls PyProof.Rows
theorem filled : lawIs PySem.Challenge.rw_oy0243_01 ∧ kIs KK := by k_fill; exact ⟨trivial, trivial⟩
end
section
open PySem PySem.W PySem.Spec PySem.Calls PyProof.Rows
local macro_rules | `(tactic| k_units) => `(tactic| k_room)
local macro_rules | `(tactic| k_room) => `(tactic| (first | (refine' up2 (by assumption) ?_; exact rfl) | (refine' up1 (by assumption) ?_; exact rfl) | (refine' up3 (by assumption) ?_; exact rfl) | omega | (dsimp only [ktrTop]; omega) | (simp only [units_in1, units_deeper, depth_in1, depth_deeper]; omega)))
section
open PySem PySem.W PySem.Spec PySem.Calls PyProof.Rows
local macro_rules | `(tactic| walk_at "exec For Name Name cons nil") => `(tactic| k_dflt (refine wpAny_For ?_))
-- C1
section
open PySem PySem.W PySem.Spec PySem.Calls PyProof.Rows
set_option maxRecDepth 100000
set_option maxHeartbeats 8000000
local macro_rules | `(tactic| walk_at "call type:type") => `(tactic| ((with_reducible show wpAny _ _ (call (Value.type "type") [Value.bytes _ _]) _ _ _); refine call_type_of (Tx := "bytes") (by exact rfl) (by decide +kernel) ?_))
def cmpv (x y : Int) : Int := if x > y then 1 else if x < y then -1 else 0
def b64v (x : Int) : Int := if 65 ≤ x ∧ x ≤ 90 then x - 65 else if 97 ≤ x ∧ x ≤ 122 then x - 71 else if 48 ≤ x ∧ x ≤ 57 then x + 4 else if x = 43 then 62 else if x = 47 then 63 else 64
theorem b64A {x : Int} (h : 65 ≤ x) (k : x ≤ 90) : x - 65 = b64v x := by rw [b64v, if_pos ⟨h, k⟩]
theorem b64a {x : Int} (h : 97 ≤ x) (k : x ≤ 122) : x - 71 = b64v x := by
  rw [b64v, if_neg fun q => absurd (Int.le_trans h q.2) (by decide), if_pos ⟨h, k⟩]
theorem b640 {x : Int} (h : 48 ≤ x) (k : x ≤ 57) : x + 4 = b64v x := by
  rw [b64v, if_neg fun q => absurd (Int.le_trans q.1 k) (by decide), if_neg fun q => absurd (Int.le_trans q.1 k) (by decide), if_pos ⟨h, k⟩]
theorem b64p {x : Int} (h : x = 43) : 62 = b64v x := by rw [h]; rfl
theorem b64s {x : Int} (h : x = 47) : 63 = b64v x := by rw [h]; rfl
theorem b64n {x : Int} (h1 : ¬ (65 ≤ x ∧ x ≤ 90)) (h2 : ¬ (97 ≤ x ∧ x ≤ 122)) (h3 : ¬ (48 ≤ x ∧ x ≤ 57)) (h4 : ¬ x = 43) (h5 : ¬ x = 47) : 64 = b64v x := by
  rw [b64v, if_neg h1, if_neg h2, if_neg h3, if_neg h4, if_neg h5]
theorem b64n1 {x : Int} (h : ¬ x ≤ 122) : 64 = b64v x :=
  b64n (fun q => h (Int.le_trans q.2 (by decide))) (fun q => h q.2) (fun q => h (Int.le_trans q.2 (by decide))) (fun q => h (q ▸ by decide)) (fun q => h (q ▸ by decide))
theorem b64n2 {x : Int} (h : ¬ x ≤ 90) (k : ¬ 97 ≤ x) : 64 = b64v x :=
  b64n (fun q => h q.2) (fun q => k q.1) (fun q => h (Int.le_trans q.2 (by decide))) (fun q => h (q ▸ by decide)) (fun q => h (q ▸ by decide))
theorem b64n3 {x : Int} (h : ¬ 65 ≤ x) (k : ¬ x ≤ 57) (h4 : ¬ x = 43) (h5 : ¬ x = 47) : 64 = b64v x :=
  b64n (fun q => h q.1) (fun q => h (Int.le_trans (by decide) q.1)) (fun q => k q.2) h4 h5
theorem b64n4 {x : Int} (h : ¬ 48 ≤ x) (h4 : ¬ x = 43) (h5 : ¬ x = 47) : 64 = b64v x :=
  b64n (fun q => h (Int.le_trans (by decide) q.1)) (fun q => h (Int.le_trans (by decide) q.1)) (fun q => h q.1) h4 h5
theorem cmpv_eq (x y : Int) : b2i (decide (y < x)) - b2i (decide (x < y)) = cmpv x y := by
  unfold cmpv
  by_cases h1 : y < x
  · have h2 : ¬ x < y := by omega
    simp [h1, h2, b2i]
  · by_cases h2 : x < y
    · simp [h1, h2, b2i]
    · simp [h1, h2, b2i]
def octs (x : Int) : List Int := (rangeKs 0 (x.fmod 7 + 1).toNat).map fun k => (x + k).fmod 256
def octets (x : Int) : Array UInt8 := byteArr (octs x)
theorem cmp_spec {w : World} {mg mb : Str → Option Value} {x y : Int} {tx ty : Tok}
  {dp un : Nat} {gd : Option (List Code)} {cn : Str} {cs : Scope} {a : Addr} {ccd : Value} {cl : List (Str × Addr)} {outer : List Env} {A₀ : Around} {base h₀ : Heap} {L : Addr} {m : Str → Option Value} {s : Shared} {Q E : Value → Shared → Prop} (B : Below A₀ base outer h₀) (F : Fr h₀ L s.heap m) (X : (KK w.params).In h₀) (T : TopRead VV LL mg mb h₀) (hk : cs.kind = .function) (hdp : dp + 3 < recursionLimit) (hun : un + 40 < cLine)
  (ret : ∀ t s', ExtX s s' → Q (.int (cmpv x y) t) s') :
  wpAny (model PySem.Challenge.pw_oy0243_01 w) (ktrTop dp un gd cn cs L a ccd cl outer) (call (.ref 284) [.int x tx, .int y ty]) Q E s := by
  refine wpAny_call ?_
  refine' enterP (binds := [(Str.ofString "x", .int x tx), (Str.ofString "y", .int y ty)]) B F X T rfl rfl hk ?ho ?hcd ?hroom ?hbind ?hloc ?hb ?c1 ?c2 ?c3 ?c4
  case ho => k_is
  case hcd => k_is
  case hroom => exact up0 hdp
  case hbind => exact BindsTo.of_eq rfl
  case hloc => exact locs rfl
  case c1 => decide
  case c2 => exact rfl
  case c3 => exact rfl
  case c4 => exact rfl
  intro L' h₁ tk₁ F₁ N₁ B₁ X₁ T₁ hL₁
  first | refine' execsIs ?ebL ?_ | refine' execsIsAt ?ebL ?_
  case ebL => conv => lhs; whnf
  have og₀ := OGX.refl s
  (try dsimp only)
  (try k_fold)
  k_steps
  all_goals (try dsimp only)
  all_goals (try k_unfold)
  all_goals (try dsimp only)
  exact retIX ret (cmpv_eq x y) (ExtX.mk2 (Fr.keep (by assumption)) (by assumption))
theorem b64val_spec {w : World} {mg mb : Str → Option Value} {x : Int} {tx : Tok}
  {dp un : Nat} {gd : Option (List Code)} {cn : Str} {cs : Scope} {a : Addr} {ccd : Value} {cl : List (Str × Addr)} {outer : List Env} {A₀ : Around} {base h₀ : Heap} {L : Addr} {m : Str → Option Value} {s : Shared} {Q E : Value → Shared → Prop} (B : Below A₀ base outer h₀) (F : Fr h₀ L s.heap m) (X : (KK w.params).In h₀) (T : TopRead VV LL mg mb h₀) (hk : cs.kind = .function) (hdp : dp + 3 < recursionLimit) (hun : un + 40 < cLine)
  (ret : ∀ t s', ExtX s s' → Q (.int (b64v x) t) s') :
  wpAny (model PySem.Challenge.pw_oy0243_01 w) (ktrTop dp un gd cn cs L a ccd cl outer) (call (.ref 231) [.int x tx]) Q E s := by
  refine wpAny_call ?_
  refine' enterP (binds := [(Str.ofString "c", .int x tx)]) B F X T rfl rfl hk ?ho ?hcd ?hroom ?hbind ?hloc ?hb ?c1 ?c2 ?c3 ?c4
  case ho => k_is
  case hcd => k_is
  case hroom => exact up0 hdp
  case hbind => exact BindsTo.of_eq rfl
  case hloc => exact locs rfl
  case c1 => decide
  case c2 => exact rfl
  case c3 => exact rfl
  case c4 => exact rfl
  intro L' h₁ tk₁ F₁ N₁ B₁ X₁ T₁ hL₁
  first | refine' execsIs ?ebL ?_ | refine' execsIsAt ?ebL ?_
  case ebL => conv => lhs; whnf
  have og₀ := OGX.refl s
  (try dsimp only)
  (try k_fold)
  k_steps
  all_goals (try dsimp only)
  all_goals (try k_unfold)
  all_goals (try dsimp only)
  all_goals (refine retIX ret ?_ (ExtX.mk2 (Fr.keep (by assumption)) (by assumption)))
  all_goals (first | exact b64A (by assumption) (by assumption) | exact b64a (by assumption) (by assumption) | exact b640 (by assumption) (by assumption) | exact b64p (by assumption) | exact b64s (by assumption) | exact b64n1 (by assumption) | exact b64n2 (by assumption) (by assumption) | exact b64n3 (by assumption) (by assumption) (by assumption) (by assumption) | exact b64n4 (by assumption) (by assumption) (by assumption) | (simp only [b64v]; (repeat' split) <;> omega))
theorem truth_spec {w : World} {mg mb : Str → Option Value} {b : Bool}
  {dp un : Nat} {gd : Option (List Code)} {cn : Str} {cs : Scope} {a : Addr} {ccd : Value} {cl : List (Str × Addr)} {outer : List Env} {A₀ : Around} {base h₀ : Heap} {L : Addr} {m : Str → Option Value} {s : Shared} {Q E : Value → Shared → Prop} (B : Below A₀ base outer h₀) (F : Fr h₀ L s.heap m) (X : (KK w.params).In h₀) (T : TopRead VV LL mg mb h₀) (hk : cs.kind = .function) (hdp : dp + 3 < recursionLimit) (hun : un + 40 < cLine)
  (ret : ∀ s', ExtX s s' → Q (.bool b) s') :
  wpAny (model PySem.Challenge.pw_oy0243_01 w) (ktrTop dp un gd cn cs L a ccd cl outer) (call (.ref 224) [.bool b]) Q E s := by
  refine wpAny_call ?_
  refine' enterP (binds := [(Str.ofString "x", .bool b)]) B F X T rfl rfl hk ?ho ?hcd ?hroom ?hbind ?hloc ?hb ?c1 ?c2 ?c3 ?c4
  case ho => k_is
  case hcd => k_is
  case hroom => exact up0 hdp
  case hbind => exact BindsTo.of_eq rfl
  case hloc => exact locs rfl
  case c1 => decide
  case c2 => exact rfl
  case c3 => exact rfl
  case c4 => exact rfl
  intro L' h₁ tk₁ F₁ N₁ B₁ X₁ T₁ hL₁
  first | refine' execsIs ?ebL ?_ | refine' execsIsAt ?ebL ?_
  case ebL => conv => lhs; whnf
  have og₀ := OGX.refl s
  (try dsimp only)
  (try k_fold)
  k_steps
  all_goals (try dsimp only)
  all_goals (try k_unfold)
  all_goals (try dsimp only)
  all_goals (refine retBX ret ?_ (ExtX.mk2 (Fr.keep (by assumption)) (by assumption)))
  all_goals simp_all
theorem buf_spec {w : World} {mg mb : Str → Option Value} {bs : Array UInt8} {tx : Tok}
  {dp un : Nat} {gd : Option (List Code)} {cn : Str} {cs : Scope} {a : Addr} {ccd : Value} {cl : List (Str × Addr)} {outer : List Env} {A₀ : Around} {base h₀ : Heap} {L : Addr} {m : Str → Option Value} {s : Shared} {Q E : Value → Shared → Prop} (B : Below A₀ base outer h₀) (F : Fr h₀ L s.heap m) (X : (KK w.params).In h₀) (T : TopRead VV LL mg mb h₀) (hk : cs.kind = .function) (hdp : dp + 3 < recursionLimit) (hun : un + 40 < cLine)
  (ret : ∀ s', ExtX s s' → Q (.bytes bs tx) s') :
  wpAny (model PySem.Challenge.pw_oy0243_01 w) (ktrTop dp un gd cn cs L a ccd cl outer) (call (.ref 217) [.bytes bs tx]) Q E s := by
  refine wpAny_call ?_
  refine' enterP (binds := [(Str.ofString "data", .bytes bs tx)]) B F X T rfl rfl hk ?ho ?hcd ?hroom ?hbind ?hloc ?hb ?c1 ?c2 ?c3 ?c4
  case ho => k_is
  case hcd => k_is
  case hroom => exact up0 hdp
  case hbind => exact BindsTo.of_eq rfl
  case hloc => exact locs rfl
  case c1 => decide
  case c2 => exact rfl
  case c3 => exact rfl
  case c4 => exact rfl
  intro L' h₁ tk₁ F₁ N₁ B₁ X₁ T₁ hL₁
  first | refine' execsIs ?ebL ?_ | refine' execsIsAt ?ebL ?_
  case ebL => conv => lhs; whnf
  have og₀ := OGX.refl s
  (try dsimp only)
  (try k_fold)
  k_steps
  all_goals (try dsimp only)
  all_goals (try k_unfold)
  all_goals (try dsimp only)
  all_goals (exact ret _ (ExtX.mk2 (Fr.keep (by assumption)) (by assumption)))
theorem abuf_spec {w : World} {mg mb : Str → Option Value} {bs : Array UInt8} {tx : Tok}
  {dp un : Nat} {gd : Option (List Code)} {cn : Str} {cs : Scope} {a : Addr} {ccd : Value} {cl : List (Str × Addr)} {outer : List Env} {A₀ : Around} {base h₀ : Heap} {L : Addr} {m : Str → Option Value} {s : Shared} {Q E : Value → Shared → Prop} (B : Below A₀ base outer h₀) (F : Fr h₀ L s.heap m) (X : (KK w.params).In h₀) (T : TopRead VV LL mg mb h₀) (hk : cs.kind = .function) (hdp : dp + 3 < recursionLimit) (hun : un + 40 < cLine)
  (ret : ∀ s', ExtX s s' → Q (.bytes bs tx) s') :
  wpAny (model PySem.Challenge.pw_oy0243_01 w) (ktrTop dp un gd cn cs L a ccd cl outer) (call (.ref 210) [.bytes bs tx]) Q E s := by
  refine wpAny_call ?_
  refine' enterP (binds := [(Str.ofString "data", .bytes bs tx)]) B F X T rfl rfl hk ?ho ?hcd ?hroom ?hbind ?hloc ?hb ?c1 ?c2 ?c3 ?c4
  case ho => k_is
  case hcd => k_is
  case hroom => exact up0 hdp
  case hbind => exact BindsTo.of_eq rfl
  case hloc => exact locs rfl
  case c1 => decide
  case c2 => exact rfl
  case c3 => exact rfl
  case c4 => exact rfl
  intro L' h₁ tk₁ F₁ N₁ B₁ X₁ T₁ hL₁
  first | refine' execsIs ?ebL ?_ | refine' execsIsAt ?ebL ?_
  case ebL => conv => lhs; whnf
  have og₀ := OGX.refl s
  (try dsimp only)
  (try k_fold)
  k_steps
  all_goals (try dsimp only)
  all_goals (try k_unfold)
  all_goals (try dsimp only)
  all_goals (exact ret _ (ExtX.mk2 (Fr.keep (by assumption)) (by assumption)))
local macro_rules | `(tactic| walk_at "eval ListComp") => `(tactic| (refine LCg.ListComp_U (F₀ := by k_asm) (by with_unfolding_all rfl) (by decide) (by rfl) (by decide) (by rfl) ?_))
theorem octets_spec {w : World} {mg mb : Str → Option Value} {x : Int} {tx : Tok}
  {dp un : Nat} {gd : Option (List Code)} {cn : Str} {cs : Scope} {a : Addr} {ccd : Value} {cl : List (Str × Addr)} {outer : List Env} {A₀ : Around} {base h₀ : Heap} {L : Addr} {m : Str → Option Value} {s : Shared} {Q E : Value → Shared → Prop} (B : Below A₀ base outer h₀) (F : Fr h₀ L s.heap m) (X : (KK w.params).In h₀) (T : TopRead VV LL mg mb h₀) (hk : cs.kind = .function) (hdp : dp + 3 < recursionLimit) (hun : un + 40 < cLine)
  (ret : ∀ t s', ExtX s s' → Q (.bytes (octets x) t) s') :
  wpAny (model PySem.Challenge.pw_oy0243_01 w) (ktrTop dp un gd cn cs L a ccd cl outer) (call (.ref 289) [.int x tx]) Q E s := by
  refine wpAny_call ?_
  refine' enterC (binds := [(Str.ofString "x", .int x tx)]) B F X T rfl rfl hk ?ho ?hcd ?hroom ?hbind ?hloc ?hnd ?hb ?c2 ?c3 ?c4
  case ho => k_is
  case hcd => k_is
  case hroom => exact up0 hdp
  case hbind => exact BindsTo.of_eq rfl
  case hloc => exact rfl
  case hnd => decide +kernel
  case c2 => exact rfl
  case c3 => exact rfl
  case c4 => exact rfl
  intro L' h₁ tk₁ cells F₁ N₁ Y₁ B₁ X₁ T₁
  k_cells Y₁
  first | refine' execsIs ?ebL ?_ | refine' execsIsAt ?ebL ?_
  case ebL => conv => lhs; whnf
  have og₀ := OGX.refl s
  (try dsimp only)
  (try k_fold)
  k_steps
  all_goals (try dsimp only)
  all_goals (try k_unfold)
  all_goals (try dsimp only)
  all_goals (refine retYX ret ?_ (ExtX.mk2 (Fr.keep (by assumption)) (by assumption)))
  all_goals (rw [Int.sub_zero]; rfl)
end
-- P1
section
open PySem PySem.W PySem.Spec PySem.Calls PyProof.Rows
def b64ks : List Int := [65, 66, 67, 68, 69, 70, 71, 72, 73, 74, 75, 76, 77, 78, 79, 80, 81, 82, 83, 84, 85, 86, 87, 88, 89, 90, 97, 98, 99, 100, 101, 102, 103, 104, 105, 106, 107, 108, 109, 110, 111, 112, 113, 114, 115, 116, 117, 118, 119, 120, 121, 122, 48, 49, 50, 51, 52, 53, 54, 55, 56, 57, 43, 47]
def e64 (v : Int) : Int := b64ks.getD v.toNat 0
def enc : List Int → List Int
  | [] => []
  | [a] => [e64 (a / 4), e64 (a % 4 * 16), 61, 61]
  | [a, b] => [e64 (a / 4), e64 (a % 4 * 16 + b / 16), e64 (b % 16 * 4), 61]
  | a :: b :: c :: r => e64 (a / 4) :: e64 (a % 4 * 16 + b / 16) :: e64 (b % 16 * 4 + c / 64) :: e64 (c % 64) :: enc r
inductive Tri : List Int → Prop
  | n : Tri []
  | c {r : List Int} (x y z : Int) : Tri r → Tri (x :: y :: z :: r)
theorem Tri.snoc {p : List Int} (h : Tri p) (x y z : Int) : Tri (p ++ [x, y, z]) := by
  induction h with
  | n => exact .c x y z .n
  | c u v w _ ih => exact .c u v w ih
theorem enc_append {p : List Int} (q : List Int) (h : Tri p) : enc (p ++ q) = enc p ++ enc q := by
  induction h with
  | n => rfl
  | c u v w _ ih =>
    show e64 _ :: e64 _ :: e64 _ :: e64 _ :: enc (_ ++ q) = _
    rw [ih]; rfl
/-- what has been laid behind the octets pre -/
inductive EncL : List Int → List Int → Int → Int → Prop
  | zero {p : List Int} {lb lc : Int} : Tri p → lb = 0 → EncL p (enc p) lb lc
  | one {p : List Int} {lb lc : Int} (a : Int) : Tri p → lb = 2 → lc % 256 = a → EncL (p ++ [a]) (enc p ++ [e64 (a / 4)]) lb lc
  | two {p : List Int} {lb lc : Int} (a b : Int) : Tri p → lb = 4 → lc % 256 = b → EncL (p ++ [a, b]) (enc p ++ [e64 (a / 4), e64 (a % 4 * 16 + b / 16)]) lb lc
theorem EncL.start : EncL [] [] 0 0 := .zero .n rfl
theorem EncL.lbs {pre ys : List Int} {lb lc : Int} (h : EncL pre ys lb lc) : lb = 0 ∨ lb = 2 ∨ lb = 4 := by
  cases h with
  | zero _ e => exact .inl e
  | one _ _ e => exact .inr (.inl e)
  | two _ _ _ e => exact .inr (.inr e)
theorem div_mul_mod (x : Int) {n k : Int} (hn : 0 < n) (hk : 0 < k) : x / n % k = x % (n * k) / n := by
  have e : x / n = x % (n * k) / n + k * (x / (n * k)) := by
    rw [← Int.add_mul_ediv_left _ _ (Int.ne_of_gt hn), ← Int.mul_assoc, Int.emod_add_mul_ediv]
  rw [e, Int.add_mul_emod_self_left]
  have hp := Int.mul_pos hn hk
  exact Int.emod_eq_of_lt (Int.ediv_nonneg (Int.emod_nonneg _ (Int.ne_of_gt hp)) (Int.le_of_lt hn)) (Int.ediv_lt_of_lt_mul hn (Int.mul_comm n k ▸ Int.emod_lt_of_pos _ hp))
theorem add_mul_mod {u n v k : Int} (h0 : 0 ≤ u) (h1 : u < n) (hk : 0 < k) : (u + n * v) % (n * k) = u + n * (v % k) := by
  have hn : 0 < n := Int.lt_of_le_of_lt h0 h1
  have e : u + n * v = u + n * (v % k) + n * k * (v / k) := by
    rw [Int.add_assoc, Int.mul_assoc, ← Int.mul_add, Int.emod_add_mul_ediv]
  rw [e, Int.add_mul_emod_self_left]
  refine Int.emod_eq_of_lt (Int.add_nonneg h0 (Int.mul_nonneg (Int.le_of_lt hn) (Int.emod_nonneg _ (Int.ne_of_gt hk)))) ?_
  refine Int.lt_of_lt_of_le (Int.add_lt_add_right h1 _) ?_
  have : n * (v % k + 1) ≤ n * k := Int.mul_le_mul_of_nonneg_left (Int.emod_lt_of_pos _ hk) (Int.le_of_lt hn)
  rw [Int.mul_add, Int.mul_one, Int.add_comm] at this
  exact this
theorem bitAnd_shift : ∀ (k : Nat) (a c : Int), 0 ≤ c → c < 2 ^ k → Builtin.bitAnd (a * 2 ^ k) c = 0
  | 0, a, c, h0, h1 => by
    have : c = 0 := Int.le_antisymm (Int.lt_add_one_iff.mp h1) h0
    rw [this, bitAnd_zero]
  | k + 1, a, c, h0, h1 => by
    rw [kbt_halves, Int.pow_succ, ← Int.mul_assoc, Int.mul_ediv_cancel _ (by decide), Int.mul_emod_left, bitAnd_shift k a (c / 2) (Int.ediv_nonneg h0 (by decide)) (Int.ediv_lt_of_lt_mul (by decide) (show c < 2 ^ k * 2 from Int.pow_succ 2 k ▸ h1)), if_neg fun q => absurd q.1 (by decide)]
    rfl
theorem bitOr_low {a c : Int} (k : Nat) (h0 : 0 ≤ c) (h1 : c < 2 ^ k) : Builtin.bitOr (a * 2 ^ k) c = a * 2 ^ k + c := by
  rw [bitOr_and, bitAnd_shift k a c h0 h1, Int.sub_zero]
def nlc (lc c : Int) : Int := (c + 256 * lc) % 65536
theorem nlc_eq {lc c : Int} (h0 : 0 ≤ c) (h1 : c < 256) : Builtin.bitAnd (Builtin.bitOr (lc * 2 ^ Int.toNat 8) c) 65535 = nlc lc c := by
  rw [bitAnd_m16, bitOr_low (Int.toNat 8) h0 h1, Int.add_comm, Int.mul_comm]; rfl
theorem nlc_256 {lc c : Int} (h0 : 0 ≤ c) (h1 : c < 256) : nlc lc c % 256 = c := by
  rw [nlc, Int.emod_emod_of_dvd _ (by decide), Int.add_mul_emod_self_left, Int.emod_eq_of_lt h0 h1]
theorem nlc_div {lc c n m k : Int} (h0 : 0 ≤ c) (h1 : c < n * m) (hn : 0 < n) (hk : 0 < k) (e : n * m = 256) (e1 : m * k = 64) (e2 : n * 64 ∣ 65536) : nlc lc c / n % 64 = lc % k * m + c / n := by
  rw [nlc, div_mul_mod _ hn (by decide), Int.emod_emod_of_dvd _ e2, ← div_mul_mod _ hn (by decide), ← e, Int.mul_assoc, Int.add_mul_ediv_left _ _ (Int.ne_of_gt hn), ← e1]
  rw [add_mul_mod (Int.ediv_nonneg h0 (Int.le_of_lt hn)) (Int.ediv_lt_of_lt_mul hn (Int.mul_comm n m ▸ h1)) hk, Int.add_comm, Int.mul_comm m]
theorem EncL.step0 {pre ys : List Int} {lc c : Int} (h : EncL pre ys 0 lc) (h0 : 0 ≤ c) (h1 : c < 256) : EncL (pre ++ [c]) (ys ++ [e64 (nlc lc c / 4 % 64)]) 2 (nlc lc c) := by
  generalize hz : (0 : Int) = lb at h
  cases h with
  | zero t _ =>
    rw [nlc_div (n := 4) (m := 64) (k := 1) h0 h1 (by decide) (by decide) rfl rfl (by decide), Int.emod_one, Int.zero_mul, Int.zero_add]
    exact .one c t rfl (nlc_256 h0 h1)
  | one _ _ e => exact absurd (hz.trans e) (by decide)
  | two _ _ _ e => exact absurd (hz.trans e) (by decide)
theorem EncL.step2 {pre ys : List Int} {lc c : Int} (h : EncL pre ys 2 lc) (h0 : 0 ≤ c) (h1 : c < 256) : EncL (pre ++ [c]) (ys ++ [e64 (nlc lc c / 16 % 64)]) 4 (nlc lc c) := by
  generalize hz : (2 : Int) = lb at h
  cases h with
  | zero _ e => exact absurd (hz.trans e) (by decide)
  | one a t _ ha =>
    rw [nlc_div (n := 16) (m := 16) (k := 4) h0 h1 (by decide) (by decide) rfl rfl (by decide), List.append_assoc, List.append_assoc, ← Int.emod_emod_of_dvd lc (show (4 : Int) ∣ 256 by decide), ha]
    exact .two a c t rfl (nlc_256 h0 h1)
  | two _ _ _ e => exact absurd (hz.trans e) (by decide)
theorem EncL.step4 {pre ys : List Int} {lc c : Int} (h : EncL pre ys 4 lc) (h0 : 0 ≤ c) (h1 : c < 256) : EncL (pre ++ [c]) (ys ++ [e64 (nlc lc c / 64 % 64)] ++ [e64 (nlc lc c % 64)]) 0 (nlc lc c) := by
  generalize hz : (4 : Int) = lb at h
  cases h with
  | zero _ e => exact absurd (hz.trans e) (by decide)
  | one _ _ e => exact absurd (hz.trans e) (by decide)
  | two a b t _ hb =>
    rw [nlc_div (n := 64) (m := 4) (k := 16) h0 h1 (by decide) (by decide) rfl rfl (by decide), List.append_assoc, List.append_assoc, List.append_assoc, ← Int.emod_emod_of_dvd lc (show (16 : Int) ∣ 256 by decide), hb, ← Int.emod_emod_of_dvd (nlc lc c) (show (64 : Int) ∣ 256 by decide), nlc_256 h0 h1]
    have := EncL.zero (lb := 0) (lc := nlc lc c) (t.snoc a b c) rfl
    rw [enc_append [a, b, c] t] at this
    exact this
theorem EncL.end0 {pre ys : List Int} {lc : Int} (h : EncL pre ys 0 lc) : ys = enc pre := by
  generalize hz : (0 : Int) = lb at h
  cases h with
  | zero _ _ => rfl
  | one _ _ e => exact absurd (hz.trans e) (by decide)
  | two _ _ _ e => exact absurd (hz.trans e) (by decide)
theorem EncL.end2 {pre ys : List Int} {lc : Int} (h : EncL pre ys 2 lc) : ys ++ [e64 (lc % 4 * 16), 61, 61] = enc pre := by
  generalize hz : (2 : Int) = lb at h
  cases h with
  | zero _ e => exact absurd (hz.trans e) (by decide)
  | one a t _ ha => rw [enc_append [a] t, ← Int.emod_emod_of_dvd lc (show (4 : Int) ∣ 256 by decide), ha, List.append_assoc]; rfl
  | two _ _ _ e => exact absurd (hz.trans e) (by decide)
theorem EncL.end4 {pre ys : List Int} {lc : Int} (h : EncL pre ys 4 lc) : ys ++ [e64 (lc % 16 * 4), 61] = enc pre := by
  generalize hz : (4 : Int) = lb at h
  cases h with
  | zero _ e => exact absurd (hz.trans e) (by decide)
  | one _ _ e => exact absurd (hz.trans e) (by decide)
  | two a b t _ hb => subst hz; rw [enc_append [a, b] t, ← Int.emod_emod_of_dvd lc (show (16 : Int) ∣ 256 by decide), hb, List.append_assoc]; rfl
def EncAt (pre ys : List Int) (lb lc : Int) : Prop := (0 ≤ lc ∧ lc < 65536) ∧ EncL pre ys lb lc
theorem EncAt.start : EncAt [] [] 0 0 := ⟨by decide, .start⟩
theorem EncAt.lbs {pre ys : List Int} {lb lc : Int} (h : EncAt pre ys lb lc) : lb = 0 ∨ lb = 2 ∨ lb = 4 := h.2.lbs
theorem EncAt.end0 {pre ys : List Int} {lc : Int} (h : EncAt pre ys 0 lc) : ys = enc pre := h.2.end0
theorem EncAt.end2 {pre ys : List Int} {lc : Int} (h : EncAt pre ys 2 lc) : ys ++ [e64 (lc % 4 * 16), 61, 61] = enc pre := h.2.end2
theorem EncAt.end4 {pre ys : List Int} {lc : Int} (h : EncAt pre ys 4 lc) : ys ++ [e64 (lc % 16 * 4), 61] = enc pre := h.2.end4
theorem nlc_rng (lc c : Int) : 0 ≤ nlc lc c ∧ nlc lc c < 65536 := ⟨Int.emod_nonneg _ (by decide), Int.emod_lt_of_pos _ (by decide)⟩
abbrev rlc (lc c : Int) : Int := Builtin.bitAnd (Builtin.bitOr (lc * 2 ^ Int.toNat 8) c) 65535
theorem EncAt.walk0 {pre ys : List Int} {lc c : Int} (h : EncAt pre ys 0 lc) (h0 : 0 ≤ c) (h1 : c < 256) : EncAt (pre ++ [c]) (ys ++ [e64 (Builtin.bitAnd ((rlc lc c).fdiv (2 ^ (0 + 8 - 6 : Int).toNat)) 63)]) 2 (rlc lc c) := by
  rw [bitAnd_m6, Int.fdiv_eq_ediv_of_nonneg _ (by decide), rlc, nlc_eq h0 h1]
  exact ⟨nlc_rng _ _, h.2.step0 h0 h1⟩
theorem EncAt.walk2 {pre ys : List Int} {lc c : Int} (h : EncAt pre ys 2 lc) (h0 : 0 ≤ c) (h1 : c < 256) : EncAt (pre ++ [c]) (ys ++ [e64 (Builtin.bitAnd ((rlc lc c).fdiv (2 ^ (2 + 8 - 6 : Int).toNat)) 63)]) 4 (rlc lc c) := by
  rw [bitAnd_m6, Int.fdiv_eq_ediv_of_nonneg _ (by decide), rlc, nlc_eq h0 h1]
  exact ⟨nlc_rng _ _, h.2.step2 h0 h1⟩
theorem EncAt.walk4 {pre ys : List Int} {lc c : Int} (h : EncAt pre ys 4 lc) (h0 : 0 ≤ c) (h1 : c < 256) : EncAt (pre ++ [c]) (ys ++ [e64 (Builtin.bitAnd ((rlc lc c).fdiv (2 ^ (4 + 8 - 6 : Int).toNat)) 63)] ++ [e64 (Builtin.bitAnd ((rlc lc c).fdiv (2 ^ (4 + 8 - 6 - 6 : Int).toNat)) 63)]) 0 (rlc lc c) := by
  rw [bitAnd_m6, bitAnd_m6, Int.fdiv_eq_ediv_of_nonneg _ (by decide), Int.fdiv_eq_ediv_of_nonneg _ (by decide), rlc, nlc_eq h0 h1]
  rw [show (2 : Int) ^ (4 + 8 - 6 - 6 : Int).toNat = 1 from rfl, Int.ediv_one]
  exact ⟨nlc_rng _ _, h.2.step4 h0 h1⟩
theorem m6_rng (x : Int) : 0 ≤ Builtin.bitAnd x 63 ∧ Builtin.bitAnd x 63 < 64 := by
  rw [bitAnd_m6]; exact ⟨Int.emod_nonneg _ (by decide), Int.emod_lt_of_pos _ (by decide)⟩
theorem m2_rng (x : Int) : 0 ≤ Builtin.bitAnd x 3 * 2 ^ Int.toNat 4 ∧ Builtin.bitAnd x 3 * 2 ^ Int.toNat 4 < 64 := by
  rw [bitAnd_m2]; exact ⟨Int.mul_nonneg (Int.emod_nonneg _ (by decide)) (by decide), Int.mul_lt_mul_of_pos_right (show x % 4 < 4 from Int.emod_lt_of_pos _ (by decide)) (by decide)⟩
theorem m4_rng (x : Int) : 0 ≤ Builtin.bitAnd x 15 * 2 ^ Int.toNat 2 ∧ Builtin.bitAnd x 15 * 2 ^ Int.toNat 2 < 64 := by
  rw [bitAnd_m4]; exact ⟨Int.mul_nonneg (Int.emod_nonneg _ (by decide)) (by decide), Int.mul_lt_mul_of_pos_right (show x % 16 < 16 from Int.emod_lt_of_pos _ (by decide)) (by decide)⟩
theorem nab {x y : Int} (h0 : 0 ≤ x) (h1 : x < y) (h2 : y ≤ 2 ^ 64) : x.natAbs < 2 ^ 64 := by
  refine Int.ofNat_lt.mp ?_
  rw [Int.natAbs_of_nonneg h0]
  exact Int.lt_of_lt_of_le h1 h2
theorem bInts_take {bs : Array UInt8} {i : Nat} {c : UInt8} (h : bs[i]? = some c) : (KBw.bInts bs).take (i + 1) = (KBw.bInts bs).take i ++ [(c.toNat : Int)] := by
  rw [List.take_add_one, KBw.ints_get h]; rfl
theorem c_bounds (c : UInt8) : (0 : Int) ≤ (c.toNat : Int) ∧ (c.toNat : Int) < 256 := ⟨Int.natCast_nonneg _, Int.ofNat_lt.mpr c.toNat_lt⟩
theorem e64_range (v : Int) : 0 ≤ e64 v ∧ e64 v < 256 := by
  unfold e64
  have h : ∀ x ∈ b64ks, 0 ≤ x ∧ x < 256 := by decide
  rw [List.getD_eq_getElem?_getD]
  cases q : b64ks[v.toNat]? with
  | none => decide
  | some x => exact h x (List.mem_of_getElem? q)
theorem enc_all {P : Int → Prop} (p : P 61) (h : ∀ v, P (e64 v)) : ∀ (l : List Int), ∀ x ∈ enc l, P x
  | [], x, q => nomatch q
  | [a], x, q => by
    rcases List.mem_cons.mp q with rfl | q
    · exact h _
    rcases List.mem_cons.mp q with rfl | q
    · exact h _
    rcases List.mem_cons.mp q with rfl | q
    · exact p
    exact List.eq_of_mem_singleton q ▸ p
  | [a, b], x, q => by
    rcases List.mem_cons.mp q with rfl | q
    · exact h _
    rcases List.mem_cons.mp q with rfl | q
    · exact h _
    rcases List.mem_cons.mp q with rfl | q
    · exact h _
    exact List.eq_of_mem_singleton q ▸ p
  | a :: b :: c :: r, x, q => by
    rcases List.mem_cons.mp q with rfl | q
    · exact h _
    rcases List.mem_cons.mp q with rfl | q
    · exact h _
    rcases List.mem_cons.mp q with rfl | q
    · exact h _
    rcases List.mem_cons.mp q with rfl | q
    · exact h _
    exact enc_all p h r x q
theorem enc_range : ∀ (l : List Int), ∀ x ∈ enc l, 0 ≤ x ∧ x < 256 := enc_all (by decide) e64_range
end
-- C2
section
open PySem PySem.W PySem.Spec PySem.Calls PyProof.Rows
set_option maxRecDepth 100000
set_option maxHeartbeats 8000000
local macro_rules | `(tactic| walk_at "call ref") => `(tactic| ((with_reducible show wpAny _ _ (call (Value.ref 217) [Value.bytes _ _]) _ _ _); k_dflt (refine' buf_spec ?B ?F ?X ?T ?hk ?hdp ?hun ?_; (case B => first | assumption | k_asm); (case F => k_asm); (case X => first | assumption | k_asm); (case T => first | assumption | k_asm); (case hk => first | exact rfl | assumption); (case hdp => k_room); (case hun => k_room); k_whole); intro s9 x9; (have F9 := Fr.keeps (by k_asm) x9.heap); (have N9 := newsKeep (by k_asm) x9.heap); (have og9 := OGX.step (by assumption) x9); (try k_sweep); (try dsimp only); (try k_fold)))
local macro_rules | `(tactic| walk_at "call ref") => `(tactic| ((with_reducible show wpAny _ _ (call (Value.ref 224) [Value.bool _]) _ _ _); k_dflt (refine' truth_spec ?B ?F ?X ?T ?hk ?hdp ?hun ?_; (case B => first | assumption | k_asm); (case F => k_asm); (case X => first | assumption | k_asm); (case T => first | assumption | k_asm); (case hk => first | exact rfl | assumption); (case hdp => k_room); (case hun => k_room); k_whole); intro s9 x9; (have F9 := Fr.keeps (by k_asm) x9.heap); (have N9 := newsKeep (by k_asm) x9.heap); (have og9 := OGX.step (by assumption) x9); (try k_sweep); (try dsimp only); (try k_fold)))
theorem bytes_lst {prog : Program} {w : World} {A : Around} {E : Value → Shared → Prop} {s : Shared} {h₀ : Heap} {L lo : Addr} {n : Nat} {news : List (Addr × Obj)} {vs : List Value} {ns ms : List Int} {Q : Value → Shared → Prop} (N : News h₀ L s.heap news) (hm : (lo, lst vs n) ∈ news) (e : ms = ns) (hi : IntsAre vs ns) (hr : ∀ n ∈ ms, 0 ≤ n ∧ n < 256) (hz : vs.length ≤ sizeLine) (hh : A.handled = none)
    (hQ : ∀ h' t k, Keep s.heap h' → Q (.bytes (byteArr ms) t) { s with heap := h', toks := k }) : wpAny (model prog w) A (call (.type "bytes") [.ref lo]) Q E s := by
  subst e
  exact call_bytes_ints ⟨_, (N _ hm).1, rfl, _, rfl⟩ hi hr hz hh hQ
theorem b64_item {prog : Program} {w : World} {A : Around} {E : Value → Shared → Prop} {s : Shared} {value slice : Expr} {b : Array UInt8} {t ui : Tok} {i : Int} {Q : Value → Shared → Prop} (hk : KBw.bInts b = b64ks) (h0 : 0 ≤ i) (h1 : i < 64)
    (h : ∀ t' k, Q (.int (e64 i) t') { s with toks := k })
    (hs : subscripted slice false (.bytes b t) (.int i ui) = operate [.bytes b t, .int i ui] (getItem (.bytes b t) (.int i ui)))
    (ht : ∀ r, letTemporaryGo value (.bytes b t) r = pure ()) : wpAny (model prog w) A (subscriptTail value slice (.bytes b t) (.int i ui)) Q E s :=
  KBw.item_K hk (by decide) h0 h1 (fun t' k _ _ => h t' k) hs ht
local macro_rules | `(tactic| walk_at "subscriptTail") => `(tactic| ((with_reducible show wpAny _ _ (subscriptTail _ _ (Value.bytes _ 458) (Value.int _ _)) _ _ _); k_dflt (refine' b64_item ?hk ?h0 ?h1 ?_ ?hs ?ht; (case hk => decide +kernel); (case h0 => first | exact (m6_rng _).1 | exact (m2_rng _).1 | exact (m4_rng _).1 | (rw [bitAnd_m6]; omega) | (rw [bitAnd_m2, show (2 : Int) ^ Int.toNat 4 = 16 from rfl]; omega) | (rw [bitAnd_m4, show (2 : Int) ^ Int.toNat 2 = 4 from rfl]; omega)); (case h1 => first | exact (m6_rng _).2 | exact (m2_rng _).2 | exact (m4_rng _).2 | (rw [bitAnd_m6]; omega) | (rw [bitAnd_m2, show (2 : Int) ^ Int.toNat 4 = 16 from rfl]; omega) | (rw [bitAnd_m4, show (2 : Int) ^ Int.toNat 2 = 4 from rfl]; omega)); (case hs => with_unfolding_all rfl); (case ht => (intro _; with_unfolding_all rfl)); k_whole); intro t9 k9))
local macro_rules | `(tactic| walk_at "binaryOp LShift int int") => `(tactic| ((with_reducible refine lshift_int_small ?kb1 ?kb2 ?kb3 ?_); (case kb1 => decide); (case kb2 => decide); (case kb3 => first | (refine nab (by assumption) (by assumption) ?_; decide) | (refine nab (by assumption) (Int.lt_add_one_of_le (by assumption)) ?_; decide) | omega)))
inductive EncInv (s : Shared) (bs : Array UInt8) (i : Nat) (m : Str → Option Value) (news : List (Addr × Obj)) (s' : Shared) : Prop
  | mk : ∀ lo n vs ys lb lc t1 t2, (OGX s s'.os s'.gens s'.drawn) → (m (Str.ofString "out") = some (.ref lo)) → (m (Str.ofString "leftbits") = some (.int lb t1)) → (m (Str.ofString "leftchar") = some (.int lc t2)) → (m (Str.ofString "newline") = some (.bool false)) → (news = [(lo, lst vs n)]) → (IntsAre vs ys) → (vs.length ≤ 2 * i) → (EncAt ((KBw.bInts bs).take i) ys lb lc) → EncInv s bs i m news s'
theorem b2a_spec {w : World} {mg mb : Str → Option Value} {bs : Array UInt8} {tx : Tok}
  {dp un : Nat} {gd : Option (List Code)} {cn : Str} {cs : Scope} {a : Addr} {ccd : Value} {cl : List (Str × Addr)} {outer : List Env} {A₀ : Around} {base h₀ : Heap} {L : Addr} {m : Str → Option Value} {s : Shared} {Q E : Value → Shared → Prop} (B : Below A₀ base outer h₀) (F : Fr h₀ L s.heap m) (X : (KK w.params).In h₀) (T : TopRead VV LL mg mb h₀) (hk : cs.kind = .function) (hdp : dp + 6 < recursionLimit) (hun : un + 80 < cLine) (hz : bs.size ≤ 1000)
  (ret : ∀ t s', ExtX s s' → Q (.bytes (byteArr (enc (KBw.bInts bs))) t) s') :
  wpAny (model PySem.Challenge.pw_oy0243_01 w) (ktrTop dp un gd cn cs L a ccd cl outer) (call (.ref 247) [.bytes bs tx] [(Str.ofString "newline", .bool false)]) Q E s := by
  refine wpAny_call ?_
  refine' enterP (binds := [(Str.ofString "data", .bytes bs tx), (Str.ofString "newline", .bool false)]) B F X T rfl rfl hk ?ho ?hcd ?hroom ?hbind ?hloc ?hb ?c1 ?c2 ?c3 ?c4
  case ho => k_is
  case hcd => k_is
  case hroom => exact up0 hdp
  case hbind => exact BindsTo.of_eq rfl
  case hloc => exact locs rfl
  case c1 => decide
  case c2 => exact rfl
  case c3 => exact rfl
  case c4 => exact rfl
  intro L' h₁ tk₁ F₁ N₁ B₁ X₁ T₁ hL₁
  first | refine' execsIs ?ebL ?_ | refine' execsIsAt ?ebL ?_
  case ebL => conv => lhs; whnf
  have og₀ := OGX.refl s
  (try dsimp only)
  refine wpAny_opqE PassesOwn.leaving fun Qo Eo hQo hEo => ?_
  (try k_fold)
  k_steps
  rename_i F₀ N₀
  refine forY (EncInv s bs) rfl rfl rfl rfl F₀ N₀ ?_ ?_ ?_ ?_
  · exact ⟨_, _, _, [], 0, 0, _, _, by assumption, rfl, rfl, rfl, rfl, rfl, .nil, by simp, EncAt.start⟩
  · rintro i c u m₁ news₁ s₁ h₂ tk I oI hc ⟨lo, n, vs, ys, lb, lc, t1, t2, xt, hout, hlb, hlc, hnl, rfl, hints, hlen, hinv⟩ off F₂ N₂
    have F₃ := Fr_know (Str.ofString "newline") (Fr_know (Str.ofString "leftchar") (Fr_know (Str.ofString "leftbits") (Fr_know (Str.ofString "out") F₂ (show m₁ _ = _ from hout)) (show m₁ _ = _ from hlb)) (show m₁ _ = _ from hlc)) (show m₁ _ = _ from hnl)
    clear F₂
    have hne : @Ne Nat lo I := off _ (List.mem_singleton.mpr rfl)
    have hib : i < bs.size := (Array.getElem?_eq_some_iff.mp hc).1
    have hsz : vs.length ≤ 2000 := by omega
    have hl0 := hinv.1.1
    have hl1 := hinv.1.2
    refine wpAny_opq fun Qp hQp => ?_
    rcases hinv.lbs with rfl | rfl | rfl
    · k_steps
      refine hQp _ _ ?_
      show Hold _
      (rename News _ _ _ _ => Nz)
      simp only [List.push_toArray] at Nz
      refine Hold.mk ⟨_, [(lo, lst (vs ++ [_]) _)], by assumption, Nz, by simpa using hne, lo, _, vs ++ [_], ys ++ [_], 2, _, _, _, by assumption, rfl, rfl, rfl, rfl, rfl, hints.append (.cons _ _ .nil), by simp; omega, ?_⟩
      rw [bInts_take hc]
      exact hinv.walk0 (c_bounds c).1 (c_bounds c).2
    · k_steps
      refine hQp _ _ ?_
      show Hold _
      (rename News _ _ _ _ => Nz)
      simp only [List.push_toArray] at Nz
      refine Hold.mk ⟨_, [(lo, lst (vs ++ [_]) _)], by assumption, Nz, by simpa using hne, lo, _, vs ++ [_], ys ++ [_], 4, _, _, _, by assumption, rfl, rfl, rfl, rfl, rfl, hints.append (.cons _ _ .nil), by simp; omega, ?_⟩
      rw [bInts_take hc]
      exact hinv.walk2 (c_bounds c).1 (c_bounds c).2
    · k_steps
      refine hQp _ _ ?_
      show Hold _
      (rename News _ _ _ _ => Nz)
      simp only [List.push_toArray] at Nz
      refine Hold.mk ⟨_, [(lo, lst (vs ++ [_] ++ [_]) _)], by assumption, Nz, by simpa using hne, lo, _, vs ++ [_] ++ [_], ys ++ [_] ++ [_], 0, _, _, _, by assumption, rfl, rfl, rfl, rfl, rfl, (hints.append (.cons _ _ .nil)).append (.cons _ _ .nil), by simp; omega, ?_⟩
      rw [bInts_take hc]
      exact hinv.walk4 (c_bounds c).1 (c_bounds c).2
  · rintro m₁ news₁ s₁ h₂ tk ⟨lo, n, vs, ys, lb, lc, t1, t2, xt, hout, hlb, hlc, hnl, rfl, hints, hlen, hinv⟩ F₂ N₂
    have F₃ := Fr_know (Str.ofString "newline") (Fr_know (Str.ofString "leftchar") (Fr_know (Str.ofString "leftbits") (Fr_know (Str.ofString "out") F₂ (show m₁ _ = _ from hout)) (show m₁ _ = _ from hlb)) (show m₁ _ = _ from hlc)) (show m₁ _ = _ from hnl)
    clear F₂
    have hsz : vs.length ≤ 2000 := by omega
    have hl0 := hinv.1.1
    have hl1 := hinv.1.2
    rcases hinv.lbs with rfl | rfl | rfl
    · k_steps
      (rename News _ _ _ _ => Nz)
      (try simp only [List.push_toArray] at Nz)
      (rename Fr _ _ _ _ => Fz)
      have he : ys = enc (KBw.bInts bs) := (by rw [List.take_of_length_le (by rw [KBw.ints_length]; exact Nat.le_refl _)] at hinv; exact hinv.end0)
      refine bytes_lst Nz (List.Mem.head _) he.symm hints (enc_range _) (by (try simp only [List.length_append, List.length_cons, List.length_nil]); rw [sizeLine_eq]; omega) (by rfl) ?_
      intro h9 t9 k9 hk9
      have F9 := Fr.keeps Fz hk9
      (try k_unfold)
      (try dsimp only)
      refine hQo _ _ ?_
      exact ret _ _ (ExtX.mk2 F9.keep (by assumption))
    · obtain ⟨q0, q1⟩ := bitAnd_range lc (y := 3) (by decide)
      k_steps
      (rename News _ _ _ _ => Nz)
      (try simp only [List.push_toArray] at Nz)
      (rename Fr _ _ _ _ => Fz)
      have he : ys ++ [e64 (Builtin.bitAnd lc 3 * 2 ^ Int.toNat 4)] ++ [61] ++ [61] = enc (KBw.bInts bs) := (by rw [List.take_of_length_le (by rw [KBw.ints_length]; exact Nat.le_refl _)] at hinv; rw [bitAnd_m2, show (2 : Int) ^ Int.toNat 4 = 16 from rfl]; simpa using hinv.end2)
      refine bytes_lst Nz (List.Mem.head _) he.symm (((hints.append (.cons _ _ .nil)).append (.cons _ _ .nil)).append (.cons _ _ .nil)) (enc_range _) (by (try simp only [List.length_append, List.length_cons, List.length_nil]); rw [sizeLine_eq]; omega) (by rfl) ?_
      intro h9 t9 k9 hk9
      have F9 := Fr.keeps Fz hk9
      (try k_unfold)
      (try dsimp only)
      refine hQo _ _ ?_
      exact ret _ _ (ExtX.mk2 F9.keep (by assumption))
    · obtain ⟨q0, q1⟩ := bitAnd_range lc (y := 15) (by decide)
      k_steps
      (rename News _ _ _ _ => Nz)
      (try simp only [List.push_toArray] at Nz)
      (rename Fr _ _ _ _ => Fz)
      have he : ys ++ [e64 (Builtin.bitAnd lc 15 * 2 ^ Int.toNat 2)] ++ [61] = enc (KBw.bInts bs) := (by rw [List.take_of_length_le (by rw [KBw.ints_length]; exact Nat.le_refl _)] at hinv; rw [bitAnd_m4, show (2 : Int) ^ Int.toNat 2 = 4 from rfl]; simpa using hinv.end4)
      refine bytes_lst Nz (List.Mem.head _) he.symm ((hints.append (.cons _ _ .nil)).append (.cons _ _ .nil)) (enc_range _) (by (try simp only [List.length_append, List.length_cons, List.length_nil]); rw [sizeLine_eq]; omega) (by rfl) ?_
      intro h9 t9 k9 hk9
      have F9 := Fr.keeps Fz hk9
      (try k_unfold)
      (try dsimp only)
      refine hQo _ _ ?_
      exact ret _ _ (ExtX.mk2 F9.keep (by assumption))
  · exact hEo
end
-- D1
section
open PySem PySem.W PySem.Spec PySem.Calls PyProof.Rows
set_option maxRecDepth 100000
theorem run_ascii (id : String) (b : Array UInt8) (hb : ∀ c ∈ b, c.toNat < 128) (hz : b.size ≤ sizeLine) : Builtin._codecs.runDecoder id Builtin._codecs.asciiDecoder none true b 0 [] = pure (b.map (·.toNat), b.size) := by
  unfold Builtin._codecs.runDecoder
  simp only [Std.Legacy.Range.forIn_eq_forIn_range']
  have hsz : [:b.size].size = b.size := by simp [Std.Legacy.Range.size]
  rw [hsz]
  have key : ∀ (k p : Nat), p + k = b.size → ∀ (f : Nat → Nat × Array Nat × Builtin._codecs.Faults → Sem (ForInStep (Nat × Array Nat × Builtin._codecs.Faults))),
      (∀ x q, q < b.size → f x (q, ((b.toList.take q).map (·.toNat)).toArray, {}) = pure (.yield (q + 1, ((b.toList.take (q + 1)).map (·.toNat)).toArray, {}))) →
      forIn (List.range' p k) (p, ((b.toList.take p).map (·.toNat)).toArray, ({} : Builtin._codecs.Faults)) f = pure (b.size, (b.toList.map (·.toNat)).toArray, {}) := by
    intro k
    induction k with
    | zero =>
      intro p hp f hf
      obtain rfl : p = b.size := by omega
      rw [List.range'_zero, List.forIn_nil, List.take_of_length_le (by simp)]
    | succ k ih =>
      intro p hp f hf
      rw [List.range'_succ, List.forIn_cons, hf p p (by omega)]
      show forIn (List.range' (p + 1) k) _ f = _
      exact ih (p + 1) (by omega) f hf
  have h := key b.size 0 (by omega)
  simp only [List.take_zero, List.map_nil] at h
  rw [h]
  · have e : (b.toList.map (fun x => x.toNat)).toArray = b.map (fun x => x.toNat) := by rw [← Array.toList_map, Array.toArray_toList]
    rw [e]; rfl
  · intro x q hq
    have hq' : q < b.toList.length := by simpa using hq
    have hc : (b.getD q 0).toNat < 128 := by
      have : b.getD q 0 = b[q] := by simp [Array.getD, hq]
      rw [this]; exact hb _ (Array.getElem_mem hq)
    have hf : Builtin._codecs.asciiDecoder.find true b q = .text [(b.getD q 0).toNat] (q + 1) := by
      show (if (b.getD q 0).toNat < 128 then _ else _) = _
      rw [if_pos hc]; rfl
    have hs : ¬ (((b.toList.take q).map (·.toNat)).toArray.size > sizeLine) := by simp; omega
    have hge : ¬ (q ≥ b.size) := by omega
    simp only [if_neg hs, if_neg hge, hf]
    congr 1
    have e : ((b.toList.take q).map (fun x => x.toNat)).toArray ++ #[(b.getD q 0).toNat] = ((b.toList.take (q + 1)).map (fun x => x.toNat)).toArray := by
      rw [List.take_add_one, List.getElem?_eq_getElem hq']
      have : b.getD q 0 = b[q] := by simp [Array.getD, hq]
      rw [this]
      simp
    show ForInStep.yield (q + 1, _ ++ #[_], _) = _
    rw [e]
namespace KAd
section
variable {b : Array UInt8} {c : UInt8} {cs : List UInt8} {t u : Tok}
theorem road_eq {id : String} : Builtin._codecs.decodeRoad id b (PySem.Str.ofString "ascii") none [] = (Builtin._codecs.runDecoder id Builtin._codecs.asciiDecoder none true b 0 [] >>= fun r => mkStr ⟨r.1⟩) := by kernel_rfl
theorem entry_eq : Builtin.«bytes.decode» ⟨[.bytes (c :: cs).toArray t, .str (PySem.Str.ofString "ascii") u], []⟩ = (mkStr (PySem.Str.ofString "utf-8") >>= fun _ => mkStr (PySem.Str.ofString "ascii") >>= fun e => mkStr (PySem.Str.ofString "bytes.decode") >>= fun d =>
    call (.builtin "_codecs.decode.text") [.bytes (c :: cs).toArray t, e, .none, d] >>= fun v => ret v) := by kernel_rfl
theorem args_decode (a b : Value) : argsOk "bytes.decode" ⟨[a, b], []⟩ := by unfold argsOk; kernel_rfl
theorem meets_text {t1 t2 : Tok} {d : PySem.Str} (hb : ∀ c ∈ b, c.toNat < 128) (hz : b.size ≤ sizeLine) :
    Meets (Builtin.«_codecs.decode.text» ⟨[.bytes b t, .str (PySem.Str.ofString "ascii") t1, .none, .str d t2], []⟩) (fun _ R s => R (.ok (.ret (.str ⟨b.map (·.toNat)⟩ s.toks))) { s with toks := s.toks + 1 }) := by
  refine .of_wp fun prog w A R s h => ?_
  show wpAny _ _ (Builtin.Bytes.bytesLike _ (.bytes b t) >>= fun r => _) _ _ s
  refine wpAny_bind (wpAny_of_eq KBd.like_eq ?_)
  refine wpAny_bind (wpAny_of_eq KBd.held_eq ?_)
  show wpAny _ _ (Builtin._codecs.decodeRoad _ b (PySem.Str.ofString "ascii") none [] >>= fun v => _) _ _ s
  rw [road_eq, run_ascii _ b hb hz]
  refine wpAny_bind (wpAny_bind (wpAny_pure ?_))
  exact wpAny_mkStr (wpAny_pure ⟨_, rfl, h⟩) (by show (b.map _).size ≤ _; simpa using hz)
theorem meets_decode (hb : ∀ x ∈ (c :: cs).toArray, x.toNat < 128) (hz : (c :: cs).toArray.size ≤ sizeLine) :
    Meets (Builtin.«bytes.decode» ⟨[.bytes (c :: cs).toArray t, .str (PySem.Str.ofString "ascii") u], []⟩) (fun _ R s => ∀ t' k, R (.ok (.ret (.str ⟨(c :: cs).toArray.map (·.toNat)⟩ t'))) { s with toks := k }) := by
  refine .of_wp fun prog w A R s h => ?_
  rw [entry_eq]
  refine wpAny_bind (wpAny_mkStr ?_ (by decide))
  refine wpAny_bind (wpAny_mkStr ?_ (by decide))
  refine wpAny_bind (wpAny_mkStr ?_ (by decide))
  exact wpAny_bind (call_function_meets KBd.kind_text KBd.plain_text KBd.entry_text (KBd.args_text _ _ _ _) (meets_text hb hz) (wpAny_pure ⟨_, rfl, h _ _⟩))
end
theorem decode {prog : Program} {w : World} {A : Around} {E : Value → Shared → Prop} {s : Shared} {b : Array UInt8} {t u : Tok} {Q : Value → Shared → Prop} (h0 : 0 < b.size) (hb : ∀ x ∈ b, x.toNat < 128) (hz : b.size ≤ sizeLine) (h : ∀ t' k, Q (.str ⟨b.map (·.toNat)⟩ t') { s with toks := k }) :
    wpAny (model prog w) A (call (.builtin "bytes.decode") [.bytes b t, .str (PySem.Str.ofString "ascii") u]) Q E s := by
  obtain ⟨l⟩ := b
  cases l with
  | nil => simp at h0
  | cons c cs => exact call_meets FB.slot_bytes_decode (typeIs_bytes _ _ _) FB.entry_bytes_decode (args_decode _ _) (meets_decode hb hz) h
end KAd
end
-- P2
section
open PySem PySem.W PySem.Spec PySem.Calls PyProof.Rows
set_option maxRecDepth 100000
theorem bInts_byteArr {ns : List Int} (h : ∀ n ∈ ns, 0 ≤ n ∧ n < 256) : KBw.bInts (byteArr ns) = ns := by
  unfold KBw.bInts byteArr
  rw [List.toList_toArray, List.map_map]
  have : ∀ n ∈ ns, ((fun c : UInt8 => (c.toNat : Int)) ∘ fun n : Int => n.toNat.toUInt8) n = id n := fun n hn => byte_back (h n hn).1 (h n hn).2
  rw [List.map_congr_left this, List.map_id]
theorem map_byteArr {ns : List Int} (h : ∀ n ∈ ns, 0 ≤ n ∧ n < 256) : (byteArr ns).map (·.toNat) = (ns.map Int.toNat).toArray := by
  unfold byteArr
  rw [List.map_toArray, List.map_map]
  congr 1
  refine List.map_congr_left fun n hn => ?_
  have := byte_back (h n hn).1 (h n hn).2
  show (n.toNat.toUInt8).toNat = n.toNat
  omega
theorem rangeKs_len (a : Int) (n : Nat) : (rangeKs a n).length = n := by simp [rangeKs]
theorem octs_range (x : Int) : ∀ n ∈ octs x, 0 ≤ n ∧ n < 256 := by
  intro n hn
  unfold octs at hn
  obtain ⟨k, _, rfl⟩ := List.mem_map.mp hn
  exact ⟨Int.fmod_nonneg_of_pos _ (by decide), Int.fmod_lt_of_pos _ (by decide)⟩
theorem octs_len (x : Int) : (octs x).length = (x.fmod 7 + 1).toNat := by simp [octs, rangeKs_len]
theorem octs_len7 (x : Int) : 1 ≤ (octs x).length ∧ (octs x).length ≤ 7 := by
  rw [octs_len]
  have h1 := Int.fmod_nonneg_of_pos x (b := 7) (by decide)
  have h2 := Int.fmod_lt_of_pos x (b := 7) (by decide)
  omega
theorem e64_ascii (v : Int) : e64 v < 128 := by
  unfold e64
  have h : ∀ x ∈ b64ks, x < 128 := by decide
  rw [List.getD_eq_getElem?_getD]
  cases q : b64ks[v.toNat]? with
  | none => decide
  | some x => exact h x (List.mem_of_getElem? q)
theorem enc_ascii : ∀ (l : List Int), ∀ x ∈ enc l, x < 128 := enc_all (by decide) e64_ascii
theorem enc_len : ∀ (l : List Int), (enc l).length = (l.length + 2) / 3 * 4
  | [] => by simp [enc]
  | [a] => by simp [enc]
  | [a, b] => by simp [enc]
  | a :: b :: c :: r => by
    have := enc_len r
    show (enc r).length + 4 = (r.length + 2 + 3) / 3 * 4
    rw [this, Nat.add_div_right _ (by decide), Nat.succ_mul]
def wordI (x : Int) : List Int := enc (octs x)
def word (x : Int) : Str := ⟨((wordI x).map Int.toNat).toArray⟩
theorem wordI_len (x : Int) : 4 ≤ (wordI x).length ∧ (wordI x).length ≤ 12 := by
  have := octs_len7 x
  unfold wordI
  rw [enc_len]
  omega
theorem octets_size (x : Int) : (octets x).size ≤ 1000 := by
  have := octs_len7 x
  unfold octets
  rw [byteArr_size]; omega
theorem writing_bytes (x : Int) : byteArr (enc (KBw.bInts (octets x))) = byteArr (wordI x) := by
  unfold octets wordI
  rw [bInts_byteArr (octs_range x)]
theorem word_size (x : Int) : (byteArr (wordI x)).size ≤ 12 ∧ 0 < (byteArr (wordI x)).size := by
  have := wordI_len x
  rw [byteArr_size]; omega
theorem word_ascii (x : Int) : ∀ c ∈ byteArr (wordI x), c.toNat < 128 := by
  intro c hc
  unfold byteArr at hc
  rw [List.mem_toArray] at hc
  obtain ⟨n, hn, rfl⟩ := List.mem_map.mp hc
  have h1 := enc_range _ n hn
  have h2 := enc_ascii _ n hn
  have := byte_back h1.1 h1.2
  omega
theorem word_of (x : Int) : (⟨(byteArr (wordI x)).map (·.toNat)⟩ : Str) = word x := by
  unfold word
  rw [map_byteArr (ns := wordI x) (enc_range _)]
end
-- C3
section
open PySem PySem.W PySem.Spec PySem.Calls PyProof.Rows
set_option maxRecDepth 100000
set_option maxHeartbeats 8000000
local macro_rules | `(tactic| walk_at "call ref") => `(tactic| ((with_reducible show wpAny _ _ (call (Value.ref 247) [Value.bytes _ _] _) _ _ _); k_dflt (refine' b2a_spec ?B ?F ?X ?T ?hk ?hdp ?hun ?hz ?_; (case B => first | assumption | k_asm); (case F => k_asm); (case X => first | assumption | k_asm); (case T => first | assumption | k_asm); (case hk => first | exact rfl | assumption); (case hdp => k_room); (case hun => k_room); (case hz => first | assumption | omega | exact octets_size _); k_whole); intro t9 s9 x9; (have F9 := Fr.keeps (by k_asm) x9.heap); (have N9 := newsKeep (by k_asm) x9.heap); (have og9 := OGX.step (by assumption) x9); (try k_sweep); (try dsimp only); (try k_fold)))
local macro_rules | `(tactic| walk_at "call ref") => `(tactic| ((with_reducible show wpAny _ _ (call (Value.ref 289) [Value.int _ _]) _ _ _); k_dflt (refine' octets_spec ?B ?F ?X ?T ?hk ?hdp ?hun ?_; (case B => first | assumption | k_asm); (case F => k_asm); (case X => first | assumption | k_asm); (case T => first | assumption | k_asm); (case hk => first | exact rfl | assumption); (case hdp => k_room); (case hun => k_room); k_whole); intro t9 s9 x9; (have F9 := Fr.keeps (by k_asm) x9.heap); (have N9 := newsKeep (by k_asm) x9.heap); (have og9 := OGX.step (by assumption) x9); (try k_sweep); (try dsimp only); (try k_fold)))
theorem b64enc_spec {w : World} {mg mb : Str → Option Value} {bs : Array UInt8} {tx : Tok}
  {dp un : Nat} {gd : Option (List Code)} {cn : Str} {cs : Scope} {a : Addr} {ccd : Value} {cl : List (Str × Addr)} {outer : List Env} {A₀ : Around} {base h₀ : Heap} {L : Addr} {m : Str → Option Value} {s : Shared} {Q E : Value → Shared → Prop} (B : Below A₀ base outer h₀) (F : Fr h₀ L s.heap m) (X : (KK w.params).In h₀) (T : TopRead VV LL mg mb h₀) (hk : cs.kind = .function) (hdp : dp + 8 < recursionLimit) (hun : un + 120 < cLine) (hz : bs.size ≤ 1000)
  (ret : ∀ t s', ExtX s s' → Q (.bytes (byteArr (enc (KBw.bInts bs))) t) s') :
  wpAny (model PySem.Challenge.pw_oy0243_01 w) (ktrTop dp un gd cn cs L a ccd cl outer) (call (.ref 255) [.bytes bs tx]) Q E s := by
  refine wpAny_call ?_
  refine' enterP (binds := [(Str.ofString "s", .bytes bs tx), (Str.ofString "altchars", .none)]) B F X T rfl rfl hk ?ho ?hcd ?hroom ?hbind ?hloc ?hb ?c1 ?c2 ?c3 ?c4
  case ho => k_is
  case hcd => k_is
  case hroom => exact up0 hdp
  case hbind => exact binds_K (Frag.In.keeps X F.keep) rfl (by k_is) rfl rfl rfl
  case hloc => exact locs rfl
  case c1 => decide
  case c2 => exact rfl
  case c3 => exact rfl
  case c4 => exact rfl
  intro L' h₁ tk₁ F₁ N₁ B₁ X₁ T₁ hL₁
  first | refine' execsIs ?ebL ?_ | refine' execsIsAt ?ebL ?_
  case ebL => conv => lhs; whnf
  have og₀ := OGX.refl s
  (try dsimp only)
  (try k_fold)
  k_steps
  all_goals (try dsimp only)
  all_goals (try k_unfold)
  all_goals (try dsimp only)
  exact ret _ _ (ExtX.mk2 (Fr.keep (by assumption)) (by assumption))
local macro_rules | `(tactic| walk_at "call ref") => `(tactic| ((with_reducible show wpAny _ _ (call (Value.ref 255) [Value.bytes _ _]) _ _ _); k_dflt (refine' b64enc_spec ?B ?F ?X ?T ?hk ?hdp ?hun ?hz ?_; (case B => first | assumption | k_asm); (case F => k_asm); (case X => first | assumption | k_asm); (case T => first | assumption | k_asm); (case hk => first | exact rfl | assumption); (case hdp => k_room); (case hun => k_room); (case hz => first | assumption | omega | exact octets_size _); k_whole); intro t9 s9 x9; (have F9 := Fr.keeps (by k_asm) x9.heap); (have N9 := newsKeep (by k_asm) x9.heap); (have og9 := OGX.step (by assumption) x9); (try k_sweep); (try dsimp only); (try k_fold)))
local macro_rules | `(tactic| walk_at "call builtin:bytes.decode") => `(tactic| ((with_reducible show wpAny _ _ (call (Value.builtin "bytes.decode") [Value.bytes _ _, Value.str _ _]) _ _ _); rw [writing_bytes]; k_dflt (refine' KAd.decode (word_size _).2 (word_ascii _) ?hz ?_; (case hz => exact Nat.le_trans (word_size _).1 (by decide))); intro t9 k9; rw [word_of]))
theorem writing_spec {w : World} {mg mb : Str → Option Value} {x : Int} {tx : Tok}
  {dp un : Nat} {gd : Option (List Code)} {cn : Str} {cs : Scope} {a : Addr} {ccd : Value} {cl : List (Str × Addr)} {outer : List Env} {A₀ : Around} {base h₀ : Heap} {L : Addr} {m : Str → Option Value} {s : Shared} {Q E : Value → Shared → Prop} (B : Below A₀ base outer h₀) (F : Fr h₀ L s.heap m) (X : (KK w.params).In h₀) (T : TopRead VV LL mg mb h₀) (hk : cs.kind = .function) (hdp : dp + 10 < recursionLimit) (hun : un + 160 < cLine)
  (ret : ∀ t s', ExtX s s' → Q (.str (word x) t) s') :
  wpAny (model PySem.Challenge.pw_oy0243_01 w) (ktrTop dp un gd cn cs L a ccd cl outer) (call (.ref 331) [.int x tx]) Q E s := by
  refine wpAny_call ?_
  refine' enterP (binds := [(Str.ofString "x", .int x tx)]) B F X T rfl rfl hk ?ho ?hcd ?hroom ?hbind ?hloc ?hb ?c1 ?c2 ?c3 ?c4
  case ho => k_is
  case hcd => k_is
  case hroom => exact up0 hdp
  case hbind => exact BindsTo.of_eq rfl
  case hloc => exact locs rfl
  case c1 => decide
  case c2 => exact rfl
  case c3 => exact rfl
  case c4 => exact rfl
  intro L' h₁ tk₁ F₁ N₁ B₁ X₁ T₁ hL₁
  first | refine' execsIs ?ebL ?_ | refine' execsIsAt ?ebL ?_
  case ebL => conv => lhs; whnf
  have og₀ := OGX.refl s
  (try dsimp only)
  (try k_fold)
  k_steps
  all_goals (try dsimp only)
  all_goals (try k_unfold)
  all_goals (try dsimp only)
  exact ret _ _ (ExtX.mk2 (Fr.keep (by assumption)) (by assumption))
end
-- D2
section
open PySem PySem.W PySem.Spec PySem.Calls PyProof.Rows
set_option maxRecDepth 100000
theorem run_encode (id : String) (self : Value) (x : Str) (hb : ∀ c ∈ x.cps, c < 128) (hz : x.cps.size ≤ sizeLine) : Builtin._codecs.encodeNarrow id Builtin._codecs.asciiCodec none self x = pure (x.cps.map (·.toUInt8)) := by
  unfold Builtin._codecs.encodeNarrow
  simp only [Std.Legacy.Range.forIn_eq_forIn_range']
  have hsz : [:x.length].size = x.cps.size := by simp [Std.Legacy.Range.size, Str.length]
  rw [hsz]
  have key : ∀ (out : Array UInt8) (f : Nat → Nat × Array UInt8 × Builtin._codecs.Faults → Sem (ForInStep (Nat × Array UInt8 × Builtin._codecs.Faults))), (x.cps.size = 0 → out = #[]) →
      (0 < x.cps.size → f 0 (0, #[], {}) = pure (.yield (x.cps.size, out, {}))) → (∀ k, f k (x.cps.size, out, {}) = pure (.done (x.cps.size, out, {}))) →
      forIn (List.range' 0 x.cps.size) (0, (#[] : Array UInt8), ({} : Builtin._codecs.Faults)) f = pure (x.cps.size, out, {}) := by
    intro out f h0 h1 h2
    cases hn : x.cps.size with
    | zero => rw [List.range'_zero, List.forIn_nil, h0 hn]
    | succ n =>
      rw [hn] at h1 h2
      rw [List.range'_succ, List.forIn_cons, h1 (by omega)]
      show forIn (List.range' (0 + 1) n) _ f = _
      cases n with
      | zero => rw [List.range'_zero, List.forIn_nil]
      | succ n => rw [List.range'_succ, List.forIn_cons, h2]; rfl
  have hbad : ∀ c ∈ x.cps, Builtin._codecs.asciiCodec.bad c = false := fun c hc => by
    show decide (c ≥ 128) = false
    have := hb c hc
    simp; omega
  have hfold : ∀ (l : List Nat) (acc : Array UInt8), l.foldl (fun acc y => acc ++ (Builtin._codecs.asciiCodec.bytesOf y).toArray) acc = acc ++ (l.map (·.toUInt8)).toArray := by
    intro l
    induction l with
    | nil => intro acc; simp
    | cons a l ih =>
      intro acc
      rw [List.foldl_cons, ih]
      show acc ++ #[a.toUInt8] ++ _ = _
      simp
  rw [key (x.cps.map (·.toUInt8))]
  · rfl
  · intro h; simp [Array.eq_empty_of_size_eq_zero h]
  · intro hpos
    obtain ⟨c, hc⟩ : ∃ c, x.cps[0]? = some c := ⟨x.cps[0], by simp [hpos]⟩
    have hcb := hbad c (Array.mem_of_getElem? hc)
    have hext : x.cps.extract 0 x.cps.size = x.cps := by simp
    have hfind : Array.findIdx? Builtin._codecs.asciiCodec.bad x.cps = none := by
      rw [Array.findIdx?_eq_none_iff]; exact hbad
    have hs : ¬ ((#[] : Array UInt8).size > sizeLine) := by simp
    simp only [if_neg hs, hc, hcb, hext, hfind, Bool.not_false, if_true, Option.getD_none, Nat.zero_add]
    congr 1
    congr 1
    congr 1
    congr 1
    rw [← Array.foldl_toList, hfold]
    simp
    rw [← Array.toList_map, Array.toArray_toList]
  · intro k
    have hs : ¬ ((x.cps.map (·.toUInt8)).size > sizeLine) := by simp; exact hz
    have hnone : x.cps[x.cps.size]? = none := by simp
    simp only [if_neg hs, hnone]
namespace KAe
theorem entry_eq {x : Str} {t u : Tok} : Builtin.«str.encode» ⟨[.str x t, .str (PySem.Str.ofString "ascii") u], []⟩ = (do ret (← Builtin._codecs.encodeRoad "str.encode" (.str x t) x (PySem.Str.ofString "ascii") none)) := by kernel_rfl
theorem road_eq {id : String} {self : Value} {x : Str} : Builtin._codecs.encodeRoad id self x (PySem.Str.ofString "ascii") none = (do mkBytes (← Builtin._codecs.encodeNarrow id Builtin._codecs.asciiCodec none self x)) := by kernel_rfl
theorem meets {x : Str} {t u : Tok} (hb : ∀ c ∈ x.cps, c < 128) (hz : x.cps.size ≤ sizeLine) :
    Meets (Builtin.«str.encode» ⟨[.str x t, .str (PySem.Str.ofString "ascii") u], []⟩) (fun _ R s => ∀ t' k, R (.ok (.ret (.bytes (x.cps.map (·.toUInt8)) t'))) { s with toks := k }) := by
  refine .of_wp fun prog w A R s h => ?_
  rw [entry_eq, road_eq, run_encode _ _ _ hb hz]
  refine wpAny_bind (wpAny_bind (wpAny_pure ?_))
  exact wpAny_mkBytes (wpAny_pure ⟨_, rfl, h _ _⟩) (by simpa using hz)
theorem encode {prog : Program} {w : World} {A : Around} {E : Value → Shared → Prop} {s : Shared} {x : Str} {t u : Tok} {Q : Value → Shared → Prop} (hb : ∀ c ∈ x.cps, c < 128) (hz : x.cps.size ≤ sizeLine) (h : ∀ t' k, Q (.bytes (x.cps.map (·.toUInt8)) t') { s with toks := k }) :
    wpAny (model prog w) A (call (.builtin "str.encode") [.str x t, .str (PySem.Str.ofString "ascii") u]) Q E s :=
  call_meets F.slot_str_encode (typeIs_str _ _ _) F.entry_str_encode (F.args_str_encode_2 _ _) (meets hb hz) h
end KAe
end
-- C4
section
open PySem PySem.W PySem.Spec PySem.Calls PyProof.Rows
set_option maxRecDepth 100000
set_option maxHeartbeats 8000000
local macro_rules | `(tactic| walk_at "getMethod str") => `(tactic| ((with_reducible show wpAny _ _ (getMethod (Value.str _ _) (Str.ofString "encode") _) _ _ _); k_dflt (refine getMethod_builtin (typeIs_str _ _ _) F.plainAttrs_str F.slot_str_encode F.type_str_encode (fun _ e => nomatch e) ?_)))
local macro_rules | `(tactic| walk_at "call builtin:str.encode") => `(tactic| ((with_reducible show wpAny _ _ (call (Value.builtin "str.encode") [Value.str _ _, Value.str _ _]) _ _ _); k_dflt (refine' KAe.encode ?hb ?hz ?_; (case hb => assumption); (case hz => assumption)); intro t9 k9))
theorem bfd_spec {w : World} {mg mb : Str → Option Value} {x : Str} {tx : Tok}
  {dp un : Nat} {gd : Option (List Code)} {cn : Str} {cs : Scope} {a : Addr} {ccd : Value} {cl : List (Str × Addr)} {outer : List Env} {A₀ : Around} {base h₀ : Heap} {L : Addr} {m : Str → Option Value} {s : Shared} {Q E : Value → Shared → Prop} (B : Below A₀ base outer h₀) (F : Fr h₀ L s.heap m) (X : (KK w.params).In h₀) (T : TopRead VV LL mg mb h₀) (hk : cs.kind = .function) (hdp : dp + 3 < recursionLimit) (hun : un + 40 < cLine) (hb : ∀ c ∈ x.cps, c < 128) (hz : x.cps.size ≤ sizeLine)
  (ret : ∀ t s', ExtX s s' → Q (.bytes (x.cps.map (·.toUInt8)) t) s') :
  wpAny (model PySem.Challenge.pw_oy0243_01 w) (ktrTop dp un gd cn cs L a ccd cl outer) (call (.ref 190) [.str x tx]) Q E s := by
  refine wpAny_call ?_
  refine' enterP (binds := [(Str.ofString "s", .str x tx)]) B F X T rfl rfl hk ?ho ?hcd ?hroom ?hbind ?hloc ?hb ?c1 ?c2 ?c3 ?c4
  case ho => k_is
  case hcd => k_is
  case hroom => exact up0 hdp
  case hbind => exact BindsTo.of_eq rfl
  case hloc => exact locs rfl
  case c1 => decide
  case c2 => exact rfl
  case c3 => exact rfl
  case c4 => exact rfl
  intro L' h₁ tk₁ F₁ N₁ B₁ X₁ T₁ hL₁
  first | refine' execsIs ?ebL ?_ | refine' execsIsAt ?ebL ?_
  case ebL => conv => lhs; whnf
  have og₀ := OGX.refl s
  (try dsimp only)
  (try k_fold)
  k_steps
  all_goals (try dsimp only)
  all_goals (try k_unfold)
  all_goals (try dsimp only)
  all_goals (exact ret _ _ (ExtX.mk2 (Fr.keep (by assumption)) (by assumption)))
end
-- P3
section
open PySem PySem.W PySem.Spec PySem.Calls PyProof.Rows
set_option maxRecDepth 100000
noncomputable abbrev DSt : Type := List Int × Int × Int × Int
noncomputable def dstep (st : DSt) (c : Int) : DSt :=
  if c = 61 then (st.1, st.2.1, st.2.2.1, st.2.2.2 + 1)
  else if st.2.1 = 0 then (st.1, 1, b64v c, 0)
  else if st.2.1 = 1 then (st.1 ++ [st.2.2.1 * 4 + b64v c / 16], 2, b64v c % 16, 0)
  else if st.2.1 = 2 then (st.1 ++ [st.2.2.1 * 16 + b64v c / 4], 3, b64v c % 4, 0)
  else (st.1 ++ [st.2.2.1 * 64 + b64v c], 0, 0, 0)
def DOk (st : DSt) (c : Int) : Prop := (c = 61 ∧ (st.2.1 = 2 ∨ st.2.1 = 3) ∧ 0 ≤ st.2.2.2 ∧ st.2.1 + st.2.2.2 + 1 ≤ 4) ∨
  (c ≠ 61 ∧ 0 ≤ b64v c ∧ b64v c < 64 ∧ st.2.2.2 = 0 ∧ (st.2.1 = 0 ∨ (st.2.1 = 1 ∧ 0 ≤ st.2.2.1 ∧ st.2.2.1 < 64) ∨ (st.2.1 = 2 ∧ 0 ≤ st.2.2.1 ∧ st.2.2.1 < 16) ∨ (st.2.1 = 3 ∧ 0 ≤ st.2.2.1 ∧ st.2.2.1 < 4)))
def DEnd (st : DSt) : Prop := st.2.1 = 0 ∨ ((st.2.1 = 2 ∨ st.2.1 = 3) ∧ 4 ≤ st.2.1 + st.2.2.2)
/-- the rest cs can be read from st, and gives fin -/
def DGood (fin : List Int) : DSt → List Int → Prop
  | st, [] => DEnd st ∧ st.1 = fin
  | st, c :: cs => DOk st c ∧ DGood fin (dstep st c) cs
theorem b64v_e64N : ∀ v : Nat, v < 64 → b64v (e64 (v : Int)) = (v : Int) ∧ e64 (v : Int) ≠ 61 := by decide
theorem b64v_e64 {v : Int} (h : 0 ≤ v ∧ v < 64) : b64v (e64 v) = v ∧ e64 v ≠ 61 := by
  obtain ⟨n, rfl⟩ := Int.eq_ofNat_of_zero_le h.1
  exact b64v_e64N n (Int.ofNat_lt.mp h.2)
theorem dstep_ch {st : DSt} {v : Int} (h : 0 ≤ v ∧ v < 64) : dstep st (e64 v) = (if st.2.1 = 0 then (st.1, 1, v, 0)
  else if st.2.1 = 1 then (st.1 ++ [st.2.2.1 * 4 + v / 16], 2, v % 16, 0)
  else if st.2.1 = 2 then (st.1 ++ [st.2.2.1 * 16 + v / 4], 3, v % 4, 0)
  else (st.1 ++ [st.2.2.1 * 64 + v], 0, 0, 0)) := by
  unfold dstep
  rw [if_neg (b64v_e64 h).2, (b64v_e64 h).1]
theorem dstepP {out : List Int} {q lc p : Int} : dstep (out, q, lc, p) 61 = (out, q, lc, p + 1) := rfl
theorem dok {v : Int} (h : 0 ≤ v ∧ v < 64) : e64 v ≠ 61 ∧ 0 ≤ b64v (e64 v) ∧ b64v (e64 v) < 64 := by
  obtain ⟨a, b⟩ := b64v_e64 h
  exact ⟨b, by rw [a]; exact h.1, by rw [a]; exact h.2⟩
theorem dg0 {fin out : List Int} {lc v : Int} {r : List Int} (h : 0 ≤ v ∧ v < 64) (g : DGood fin (out, 1, v, 0) r) : DGood fin (out, 0, lc, 0) (e64 v :: r) :=
  ⟨.inr ⟨(dok h).1, (dok h).2.1, (dok h).2.2, rfl, .inl rfl⟩, by rw [dstep_ch h]; exact g⟩
theorem dg1 {fin out : List Int} {lc v w : Int} {r : List Int} (h : 0 ≤ v ∧ v < 64) (l : 0 ≤ lc ∧ lc < 64) (e : lc * 4 + v / 16 = w) (g : DGood fin (out ++ [w], 2, v % 16, 0) r) : DGood fin (out, 1, lc, 0) (e64 v :: r) :=
  ⟨.inr ⟨(dok h).1, (dok h).2.1, (dok h).2.2, rfl, .inr (.inl ⟨rfl, l⟩)⟩, by rw [dstep_ch h]; exact e ▸ g⟩
theorem dg2 {fin out : List Int} {lc v w : Int} {r : List Int} (h : 0 ≤ v ∧ v < 64) (l : 0 ≤ lc ∧ lc < 16) (e : lc * 16 + v / 4 = w) (g : DGood fin (out ++ [w], 3, v % 4, 0) r) : DGood fin (out, 2, lc, 0) (e64 v :: r) :=
  ⟨.inr ⟨(dok h).1, (dok h).2.1, (dok h).2.2, rfl, .inr (.inr (.inl ⟨rfl, l⟩))⟩, by rw [dstep_ch h]; exact e ▸ g⟩
theorem dg3 {fin out : List Int} {lc v w : Int} {r : List Int} (h : 0 ≤ v ∧ v < 64) (l : 0 ≤ lc ∧ lc < 4) (e : lc * 64 + v = w) (g : DGood fin (out ++ [w], 0, 0, 0) r) : DGood fin (out, 3, lc, 0) (e64 v :: r) :=
  ⟨.inr ⟨(dok h).1, (dok h).2.1, (dok h).2.2, rfl, .inr (.inr (.inr ⟨rfl, l⟩))⟩, by rw [dstep_ch h]; exact e ▸ g⟩
theorem q_div {x u m : Int} (h0 : 0 ≤ u) (h1 : u < m) : (x * m + u) / m = x := by
  rw [Int.add_comm, Int.mul_comm, Int.add_mul_ediv_left _ _ (Int.ne_of_gt (Int.lt_of_le_of_lt h0 h1)), Int.ediv_eq_zero_of_lt h0 h1, Int.zero_add]
theorem q_mod {x u m : Int} (h0 : 0 ≤ u) (h1 : u < m) : (x * m + u) % m = u := by
  rw [Int.add_comm, Int.mul_comm, Int.add_mul_emod_self_left, Int.emod_eq_of_lt h0 h1]
theorem q_lt {x u m k : Int} (hx : 0 ≤ x ∧ x < k) (hu : 0 ≤ u ∧ u < m) : 0 ≤ x * m + u ∧ x * m + u < k * m := by
  have hm : 0 ≤ m := Int.le_of_lt (Int.lt_of_le_of_lt hu.1 hu.2)
  refine ⟨Int.add_nonneg (Int.mul_nonneg hx.1 hm) hu.1, Int.lt_of_lt_of_le (Int.add_lt_add_left hu.2 _) ?_⟩
  have := Int.mul_le_mul_of_nonneg_right (show x + 1 ≤ k from hx.2) hm
  rw [Int.add_mul, Int.one_mul] at this
  exact this
theorem q_bd {x n m : Int} (hn : 0 < n) (h : 0 ≤ x ∧ x < m * n) : 0 ≤ x / n ∧ x / n < m := ⟨Int.ediv_nonneg h.1 (Int.le_of_lt hn), Int.ediv_lt_of_lt_mul hn h.2⟩
theorem q_bm (x : Int) {n : Int} (hn : 0 < n) : 0 ≤ x % n ∧ x % n < n := ⟨Int.emod_nonneg _ (Int.ne_of_gt hn), Int.emod_lt_of_pos _ hn⟩
theorem q_sh {x m k : Int} (hm : 0 < m) (hx : 0 ≤ x ∧ x < k) : 0 ≤ x * m ∧ x * m < k * m := ⟨Int.mul_nonneg hx.1 (Int.le_of_lt hm), Int.mul_lt_mul_of_pos_right hx.2 hm⟩
theorem dgood_enc : ∀ (l out : List Int), (∀ x ∈ l, 0 ≤ x ∧ x < 256) → DGood (out ++ l) (out, 0, 0, 0) (enc l)
  | [], out, _ => ⟨.inl rfl, List.append_nil _ ▸ rfl⟩
  | [a], out, h => by
    have ha := q_bd (n := 4) (m := 64) (by decide) (h a (.head _))
    refine dg0 ha (dg1 (q_sh (by decide) (q_bm a (by decide))) ha (w := a) ?_ ?_)
    · rw [Int.mul_ediv_cancel _ (by decide), Int.mul_comm, Int.mul_ediv_add_emod]
    · exact ⟨.inl ⟨rfl, .inl rfl, Int.le_refl 0, (by decide : (2 : Int) + 0 + 1 ≤ 4)⟩, .inl ⟨rfl, .inl rfl, (by decide : (0 : Int) ≤ 0 + 1), (by decide : (2 : Int) + (0 + 1) + 1 ≤ 4)⟩, .inr ⟨.inl rfl, (by decide : (4 : Int) ≤ 2 + (0 + 1 + 1))⟩, rfl⟩
  | [a, b], out, h => by
    have ha := q_bd (n := 4) (m := 64) (by decide) (h a (.head _))
    have hb := q_bd (n := 16) (m := 16) (by decide) (h b (.tail _ (.head _)))
    refine dg0 ha (dg1 (q_lt (k := 4) (q_bm a (by decide)) hb) ha (w := a) ?_ ?_)
    · rw [q_div hb.1 hb.2, Int.mul_comm, Int.mul_ediv_add_emod]
    rw [q_mod hb.1 hb.2]
    refine dg2 (q_sh (by decide) (q_bm b (by decide))) hb (w := b) ?_ ?_
    · rw [Int.mul_ediv_cancel _ (by decide), Int.mul_comm, Int.mul_ediv_add_emod]
    · exact ⟨.inl ⟨rfl, .inr rfl, Int.le_refl 0, (by decide : (3 : Int) + 0 + 1 ≤ 4)⟩, .inr ⟨.inr rfl, (by decide : (4 : Int) ≤ 3 + (0 + 1))⟩, List.append_assoc _ _ _⟩
  | a :: b :: c :: r, out, h => by
    have ha := q_bd (n := 4) (m := 64) (by decide) (h a (.head _))
    have hb := q_bd (n := 16) (m := 16) (by decide) (h b (.tail _ (.head _)))
    have hc := q_bd (n := 64) (m := 4) (by decide) (h c (mth 2 rfl))
    refine dg0 ha (dg1 (q_lt (k := 4) (q_bm a (by decide)) hb) ha (w := a) ?_ ?_)
    · rw [q_div hb.1 hb.2, Int.mul_comm, Int.mul_ediv_add_emod]
    rw [q_mod hb.1 hb.2]
    refine dg2 (q_lt (k := 16) (q_bm b (by decide)) hc) hb (w := b) ?_ ?_
    · rw [q_div hc.1 hc.2, Int.mul_comm, Int.mul_ediv_add_emod]
    rw [q_mod hc.1 hc.2]
    refine dg3 (q_bm c (by decide)) hc (w := c) ?_ ?_
    · rw [Int.mul_comm, Int.mul_ediv_add_emod]
    have ih := dgood_enc r (out ++ [a, b, c]) fun x hx => h x (.tail _ (.tail _ (.tail _ hx)))
    rw [List.append_assoc] at ih
    rw [List.append_assoc, List.append_assoc]
    exact ih
end
-- C5
section
open PySem PySem.W PySem.Spec PySem.Calls PyProof.Rows
set_option maxRecDepth 100000
set_option maxHeartbeats 8000000
local macro_rules | `(tactic| walk_at "none 0") => `(tactic| skip)
local macro_rules | `(tactic| walk_at "call ref cons nil") => `(tactic| refine Stop.mk ?_)
local macro_rules | `(tactic| walk_at "call ref nil") => `(tactic| refine Stop.mk ?_)
theorem bInts_drop {bs : Array UInt8} {i : Nat} {c : UInt8} (h : bs[i]? = some c) : (KBw.bInts bs).drop i = (c.toNat : Int) :: (KBw.bInts bs).drop (i + 1) := by
  have := KBw.ints_get h
  obtain ⟨hlt, e⟩ := List.getElem?_eq_some_iff.mp this
  rw [List.drop_eq_getElem_cons hlt, e]
theorem orQ1 {lc v : Int} (h0 : 0 ≤ v) (h1 : v < 64) : Builtin.bitOr (lc * 2 ^ Int.toNat 2) (v.fdiv (2 ^ Int.toNat 4)) = lc * 4 + v / 16 := by
  rw [Int.fdiv_eq_ediv_of_nonneg _ (by decide)]
  exact bitOr_low 2 (Int.ediv_nonneg h0 (by decide)) (Int.ediv_lt_of_lt_mul (by decide) h1)
theorem orQ2 {lc v : Int} (h0 : 0 ≤ v) (h1 : v < 64) : Builtin.bitOr (lc * 2 ^ Int.toNat 4) (v.fdiv (2 ^ Int.toNat 2)) = lc * 16 + v / 4 := by
  rw [Int.fdiv_eq_ediv_of_nonneg _ (by decide)]
  exact bitOr_low 4 (Int.ediv_nonneg h0 (by decide)) (Int.ediv_lt_of_lt_mul (by decide) h1)
theorem orQ3 {lc v : Int} (h0 : 0 ≤ v) (h1 : v < 64) : Builtin.bitOr (lc * 2 ^ Int.toNat 6) v = lc * 64 + v := bitOr_low 6 h0 h1
theorem dstepQ0 {out : List Int} {lc p c : Int} (h : c ≠ 61) : dstep (out, 0, lc, p) c = (out, 1, b64v c, 0) := by unfold dstep; rw [if_neg h]; rfl
theorem dstepQ1 {out : List Int} {lc p c : Int} (h : c ≠ 61) : dstep (out, 1, lc, p) c = (out ++ [lc * 4 + b64v c / 16], 2, b64v c % 16, 0) := by unfold dstep; rw [if_neg h]; rfl
theorem dstepQ2 {out : List Int} {lc p c : Int} (h : c ≠ 61) : dstep (out, 2, lc, p) c = (out ++ [lc * 16 + b64v c / 4], 3, b64v c % 4, 0) := by unfold dstep; rw [if_neg h]; rfl
theorem dstepQ3 {out : List Int} {lc p c : Int} (h : c ≠ 61) : dstep (out, 3, lc, p) c = (out ++ [lc * 64 + b64v c], 0, 0, 0) := by unfold dstep; rw [if_neg h]; rfl
inductive A2bInv (s : Shared) (bs : Array UInt8) (fin : List Int) (i : Nat) (m : Str → Option Value) (news : List (Addr × Obj)) (s' : Shared) : Prop
  | mk : ∀ lo n vs out qp lc pads iv t1 t2 t3 t4, (OGX s s'.os s'.gens s'.drawn) → (m (Str.ofString "out") = some (.ref lo)) → (m (Str.ofString "quad_pos") = some (.int qp t1)) → (m (Str.ofString "leftchar") = some (.int lc t2)) → (m (Str.ofString "pads") = some (.int pads t3)) → (m (Str.ofString "i") = some (.int iv t4)) → (m (Str.ofString "strict_mode") = some (.bool false)) → (news = [(lo, lst vs n)]) → (IntsAre vs out) → (vs.length ≤ i) → ((0 ≤ iv ∧ iv ≤ i)) → (DGood fin (out, qp, lc, pads) ((KBw.bInts bs).drop i)) → A2bInv s bs fin i m news s'
theorem a2b_spec {w : World} {mg mb : Str → Option Value} {bs : Array UInt8} {tx : Tok} {fin : List Int}
  {dp un : Nat} {gd : Option (List Code)} {cn : Str} {cs : Scope} {a : Addr} {ccd : Value} {cl : List (Str × Addr)} {outer : List Env} {A₀ : Around} {base h₀ : Heap} {L : Addr} {m : Str → Option Value} {s : Shared} {Q E : Value → Shared → Prop} (B : Below A₀ base outer h₀) (F : Fr h₀ L s.heap m) (X : (KK w.params).In h₀) (T : TopRead VV LL mg mb h₀) (hk : cs.kind = .function) (hdp : dp + 6 < recursionLimit) (hun : un + 80 < cLine) (hz : bs.size ≤ 1000) (hgood : DGood fin ([], 0, 0, 0) (KBw.bInts bs)) (hfin : ∀ x ∈ fin, 0 ≤ x ∧ x < 256)
  (ret : ∀ t s', ExtX s s' → Q (.bytes (byteArr fin) t) s') :
  wpAny (model PySem.Challenge.pw_oy0243_01 w) (ktrTop dp un gd cn cs L a ccd cl outer) (call (.ref 239) [.bytes bs tx] [(Str.ofString "strict_mode", .bool false)]) Q E s := by
  refine wpAny_call ?_
  refine' enterP (binds := [(Str.ofString "data", .bytes bs tx), (Str.ofString "strict_mode", .bool false)]) B F X T rfl rfl hk ?ho ?hcd ?hroom ?hbind ?hloc ?hb ?c1 ?c2 ?c3 ?c4
  case ho => k_is
  case hcd => k_is
  case hroom => exact up0 hdp
  case hbind => exact BindsTo.of_eq rfl
  case hloc => exact locs rfl
  case c1 => decide
  case c2 => exact rfl
  case c3 => exact rfl
  case c4 => exact rfl
  intro L' h₁ tk₁ F₁ N₁ B₁ X₁ T₁ hL₁
  first | refine' execsIs ?ebL ?_ | refine' execsIsAt ?ebL ?_
  case ebL => conv => lhs; whnf
  have og₀ := OGX.refl s
  (try dsimp only)
  refine wpAny_opqE PassesOwn.leaving fun Qo Eo hQo hEo => ?_
  (try k_fold)
  k_steps
  all_goals (try (with_reducible show Stop _; show wpAny _ _ _ _ _ _))
  refine' abuf_spec ?B ?F ?X ?T ?hk ?hdp ?hun ?_
  case B => first | assumption | k_asm
  case F => k_asm
  case X => first | assumption | k_asm
  case T => first | assumption | k_asm
  case hk => first | exact rfl | assumption
  case hdp => k_room
  case hun => k_room
  intro s9 x9
  have F9 := Fr.keeps (by k_asm) x9.heap
  have N9 := newsKeep (by k_asm) x9.heap
  have og9 := OGX.step (by assumption) x9
  (try k_sweep)
  (try dsimp only)
  (try k_fold)
  k_steps
  all_goals (try (with_reducible show Stop _; show wpAny _ _ _ _ _ _))
  refine' truth_spec ?B ?F ?X ?T ?hk ?hdp ?hun ?_
  case B => first | assumption | k_asm
  case F => k_asm
  case X => first | assumption | k_asm
  case T => first | assumption | k_asm
  case hk => first | exact rfl | assumption
  case hdp => k_room
  case hun => k_room
  intro s9 x9
  have F9 := Fr.keeps (by k_asm) x9.heap
  have N9 := newsKeep (by k_asm) x9.heap
  have og9 := OGX.step (by assumption) x9
  (try k_sweep)
  (try dsimp only)
  (try k_fold)
  k_steps
  all_goals (try (with_reducible show Stop _; show wpAny _ _ _ _ _ _))
  rename_i F₀ N₀
  refine forY (A2bInv s bs fin) rfl rfl rfl rfl F₀ N₀ ?_ ?_ ?_ ?_
  · skip
    exact ⟨_, _, _, [], 0, 0, 0, 0, _, _, _, _, by assumption, rfl, rfl, rfl, rfl, rfl, rfl, rfl, .nil, by simp, ⟨by decide, by decide⟩, hgood⟩
  · rintro i c u m₁ news₁ s₁ h₂ tk I oI hc ⟨lo, n, vs, out, qp, lc, pads, iv, t1, t2, t3, t4, xt, h1, h2, h3, h4, h5, h6, rfl, hints, hlen, ⟨hi0, hi1⟩, hg⟩ off F₂ N₂
    have F₃ := (Fr_know (Str.ofString "strict_mode") (Fr_know (Str.ofString "i") (Fr_know (Str.ofString "pads") (Fr_know (Str.ofString "leftchar") (Fr_know (Str.ofString "quad_pos") (Fr_know (Str.ofString "out") F₂ (show m₁ _ = _ from h1)) (show m₁ _ = _ from h2)) (show m₁ _ = _ from h3)) (show m₁ _ = _ from h4)) (show m₁ _ = _ from h5)) (show m₁ _ = _ from h6))
    clear F₂
    have hne : @Ne Nat lo I := off _ (List.mem_singleton.mpr rfl)
    have hib : i < bs.size := (Array.getElem?_eq_some_iff.mp hc).1
    have hsz : vs.length ≤ 1000 := by omega
    rw [bInts_drop hc] at hg
    obtain ⟨hok, hg⟩ := hg
    refine wpAny_opq fun Qp hQp => ?_
    rcases hok with ⟨hc61, hq, hp0, hp1⟩ | ⟨hc61, hv0, hv1, hp, hq⟩
    · dsimp only at hq hp0 hp1
      rcases hq with rfl | rfl
      · k_steps
        all_goals (try contradiction)
        refine hQp _ _ ?_
        show Hold _
        (rename News _ _ _ _ => Nz)
        rw [hc61, dstepP] at hg
        exact Hold.mk ⟨_, [(lo, lst vs n)], by assumption, Nz, by simpa using hne, by skip; exact ⟨lo, n, vs, out, 2, lc, pads + 1, iv + 1, _, _, _, _, by assumption, rfl, rfl, rfl, rfl, rfl, rfl, rfl, hints, by omega, ⟨by omega, by omega⟩, hg⟩⟩
      · k_steps
        all_goals (try contradiction)
        refine hQp _ _ ?_
        show Hold _
        (rename News _ _ _ _ => Nz)
        rw [hc61, dstepP] at hg
        exact Hold.mk ⟨_, [(lo, lst vs n)], by assumption, Nz, by simpa using hne, by skip; exact ⟨lo, n, vs, out, 3, lc, pads + 1, iv + 1, _, _, _, _, by assumption, rfl, rfl, rfl, rfl, rfl, rfl, rfl, hints, by omega, ⟨by omega, by omega⟩, hg⟩⟩
    · dsimp only at hp hq
      subst hp
      k_steps
      all_goals (try (with_reducible show Stop _; show wpAny _ _ _ _ _ _))
      all_goals (try contradiction)
      refine' b64val_spec ?B ?F ?X ?T ?hk ?hdp ?hun ?_
      case B => first | assumption | k_asm
      case F => k_asm
      case X => first | assumption | k_asm
      case T => first | assumption | k_asm
      case hk => first | exact rfl | assumption
      case hdp => k_room
      case hun => k_room
      intro t9 s9 x9
      have F9 := Fr.keeps (by k_asm) x9.heap
      have N9 := newsKeep (by k_asm) x9.heap
      have og9 := OGX.step (by assumption) x9
      (try k_sweep)
      (try dsimp only)
      (try k_fold)
      rcases hq with rfl | ⟨rfl, l0, l1⟩ | ⟨rfl, l0, l1⟩ | ⟨rfl, l0, l1⟩
      · k_steps
        all_goals (try contradiction)
        refine hQp _ _ ?_
        show Hold _
        (rename News _ _ _ _ => Nz)
        (try simp only [List.push_toArray] at Nz)
        rw [dstepQ0 hc61] at hg
        exact Hold.mk ⟨_, [(lo, lst vs n)], by assumption, Nz, by simpa using hne, by skip; exact ⟨lo, n, vs, out, 1, _, 0, iv + 1, _, _, _, _, by assumption, rfl, rfl, rfl, rfl, rfl, rfl, rfl, hints, by omega, ⟨by omega, by omega⟩, hg⟩⟩
      · k_steps
        all_goals (try contradiction)
        refine hQp _ _ ?_
        show Hold _
        (rename News _ _ _ _ => Nz)
        (try simp only [List.push_toArray] at Nz)
        rw [dstepQ1 hc61] at hg
        refine Hold.mk ⟨_, [(lo, lst (vs ++ [_]) _)], by assumption, Nz, by simpa using hne, ?_⟩
        skip
        refine ⟨lo, _, vs ++ [_], out ++ [_], 2, _, 0, iv + 1, _, _, _, _, by assumption, rfl, rfl, rfl, rfl, rfl, rfl, rfl, hints.append (.cons _ _ .nil), by simp; omega, ⟨by omega, by omega⟩, ?_⟩
        rw [orQ1 hv0 hv1, bitAnd_m4]
        exact hg
      · k_steps
        all_goals (try contradiction)
        refine hQp _ _ ?_
        show Hold _
        (rename News _ _ _ _ => Nz)
        (try simp only [List.push_toArray] at Nz)
        rw [dstepQ2 hc61] at hg
        refine Hold.mk ⟨_, [(lo, lst (vs ++ [_]) _)], by assumption, Nz, by simpa using hne, ?_⟩
        skip
        refine ⟨lo, _, vs ++ [_], out ++ [_], 3, _, 0, iv + 1, _, _, _, _, by assumption, rfl, rfl, rfl, rfl, rfl, rfl, rfl, hints.append (.cons _ _ .nil), by simp; omega, ⟨by omega, by omega⟩, ?_⟩
        rw [orQ2 hv0 hv1, bitAnd_m2]
        exact hg
      · k_steps
        all_goals (try contradiction)
        refine hQp _ _ ?_
        show Hold _
        (rename News _ _ _ _ => Nz)
        (try simp only [List.push_toArray] at Nz)
        rw [dstepQ3 hc61] at hg
        refine Hold.mk ⟨_, [(lo, lst (vs ++ [_]) _)], by assumption, Nz, by simpa using hne, ?_⟩
        skip
        refine ⟨lo, _, vs ++ [_], out ++ [_], 0, _, 0, iv + 1, _, _, _, _, by assumption, rfl, rfl, rfl, rfl, rfl, rfl, rfl, hints.append (.cons _ _ .nil), by simp; omega, ⟨by omega, by omega⟩, ?_⟩
        rw [orQ3 hv0 hv1]
        exact hg
  · rintro m₁ news₁ s₁ h₂ tk ⟨lo, n, vs, out, qp, lc, pads, iv, t1, t2, t3, t4, xt, h1, h2, h3, h4, h5, h6, rfl, hints, hlen, ⟨hi0, hi1⟩, hg⟩ F₂ N₂
    have F₃ := (Fr_know (Str.ofString "strict_mode") (Fr_know (Str.ofString "i") (Fr_know (Str.ofString "pads") (Fr_know (Str.ofString "leftchar") (Fr_know (Str.ofString "quad_pos") (Fr_know (Str.ofString "out") F₂ (show m₁ _ = _ from h1)) (show m₁ _ = _ from h2)) (show m₁ _ = _ from h3)) (show m₁ _ = _ from h4)) (show m₁ _ = _ from h5)) (show m₁ _ = _ from h6))
    clear F₂
    rw [List.drop_of_length_le (by rw [KBw.ints_length]; exact Nat.le_refl _)] at hg
    obtain ⟨hend, hout⟩ := hg
    dsimp only [DEnd] at hend hout
    subst hout
    rcases hend with rfl | ⟨rfl | rfl, hp4⟩
    · k_steps
      all_goals (try (exfalso; omega))
      refine hQo _ _ ?_
      exact ret _ _ (ExtX.mk2 (Fr.keep (by assumption)) (by assumption))
    · k_steps
      all_goals (try (exfalso; omega))
      refine hQo _ _ ?_
      exact ret _ _ (ExtX.mk2 (Fr.keep (by assumption)) (by assumption))
    · k_steps
      all_goals (try (exfalso; omega))
      refine hQo _ _ ?_
      exact ret _ _ (ExtX.mk2 (Fr.keep (by assumption)) (by assumption))
  · exact hEo
end
-- C6
section
open PySem PySem.W PySem.Spec PySem.Calls PyProof.Rows
set_option maxRecDepth 100000
set_option maxHeartbeats 8000000
local macro_rules | `(tactic| walk_at "call ref cons nil") => `(tactic| refine Stop.mk ?_)
local macro_rules | `(tactic| walk_at "call ref nil") => `(tactic| refine Stop.mk ?_)
theorem word_cps_ascii (x : Int) : ∀ c ∈ (word x).cps, c < 128 := by
  intro c hc
  unfold word at hc
  rw [List.mem_toArray] at hc
  obtain ⟨n, hn, rfl⟩ := List.mem_map.mp hc
  have h1 := enc_range _ n hn
  have h2 := enc_ascii _ n hn
  omega
theorem word_cps_size (x : Int) : (word x).cps.size ≤ 12 := by
  have := wordI_len x
  simp [word]; omega
theorem word_bytes (x : Int) : (word x).cps.map (·.toUInt8) = byteArr (wordI x) := by
  unfold word byteArr
  simp
theorem word_dgood (x : Int) : DGood (octs x) ([], 0, 0, 0) (KBw.bInts (byteArr (wordI x))) := by
  rw [bInts_byteArr (ns := wordI x) (enc_range _)]
  exact dgood_enc (octs x) [] (octs_range x)
theorem b64dec_spec {w : World} {mg mb : Str → Option Value} {x : Int} {tx : Tok}
  {dp un : Nat} {gd : Option (List Code)} {cn : Str} {cs : Scope} {a : Addr} {ccd : Value} {cl : List (Str × Addr)} {outer : List Env} {A₀ : Around} {base h₀ : Heap} {L : Addr} {m : Str → Option Value} {s : Shared} {Q E : Value → Shared → Prop} (B : Below A₀ base outer h₀) (F : Fr h₀ L s.heap m) (X : (KK w.params).In h₀) (T : TopRead VV LL mg mb h₀) (hk : cs.kind = .function) (hdp : dp + 9 < recursionLimit) (hun : un + 140 < cLine)
  (ret : ∀ t s', ExtX s s' → Q (.bytes (octets x) t) s') :
  wpAny (model PySem.Challenge.pw_oy0243_01 w) (ktrTop dp un gd cn cs L a ccd cl outer) (call (.ref 263) [.str (word x) tx]) Q E s := by
  refine wpAny_call ?_
  refine' enterP (binds := [(Str.ofString "s", .str (word x) tx), (Str.ofString "altchars", .none), (Str.ofString "validate", .bool false)]) B F X T rfl rfl hk ?ho ?hcd ?hroom ?hbind ?hloc ?hb ?c1 ?c2 ?c3 ?c4
  case ho => k_is
  case hcd => k_is
  case hroom => exact up0 hdp
  case hbind => exact binds_K (Frag.In.keeps X F.keep) rfl (by k_is) rfl rfl rfl
  case hloc => exact locs rfl
  case c1 => decide
  case c2 => exact rfl
  case c3 => exact rfl
  case c4 => exact rfl
  intro L' h₁ tk₁ F₁ N₁ B₁ X₁ T₁ hL₁
  first | refine' execsIs ?ebL ?_ | refine' execsIsAt ?ebL ?_
  case ebL => conv => lhs; whnf
  have og₀ := OGX.refl s
  (try dsimp only)
  (try k_fold)
  k_steps
  all_goals (try (with_reducible show Stop _; show wpAny _ _ _ _ _ _))
  refine' bfd_spec ?B ?F ?X ?T ?hk ?hdp ?hun (word_cps_ascii x) (Nat.le_trans (word_cps_size x) (by decide)) ?_
  case B => first | assumption | k_asm
  case F => k_asm
  case X => first | assumption | k_asm
  case T => first | assumption | k_asm
  case hk => first | exact rfl | assumption
  case hdp => k_room
  case hun => k_room
  intro t9 s9 x9
  have F9 := Fr.keeps (by k_asm) x9.heap
  have N9 := newsKeep (by k_asm) x9.heap
  have og9 := OGX.step (by assumption) x9
  (try k_sweep)
  (try dsimp only)
  (try k_fold)
  rw [word_bytes]
  k_steps
  all_goals (try (with_reducible show Stop _; show wpAny _ _ _ _ _ _))
  refine' a2b_spec ?B ?F ?X ?T ?hk ?hdp ?hun (Nat.le_trans (word_size x).1 (by decide)) (word_dgood x) (octs_range x) ?_
  case B => first | assumption | k_asm
  case F => k_asm
  case X => first | assumption | k_asm
  case T => first | assumption | k_asm
  case hk => first | exact rfl | assumption
  case hdp => k_room
  case hun => k_room
  intro t9 s9 x9
  have F9 := Fr.keeps (by k_asm) x9.heap
  have N9 := newsKeep (by k_asm) x9.heap
  have og9 := OGX.step (by assumption) x9
  (try k_sweep)
  (try dsimp only)
  (try k_fold)
  k_steps
  all_goals (try (with_reducible show Stop _; show wpAny _ _ _ _ _ _))
  all_goals (try dsimp only)
  all_goals (try k_unfold)
  all_goals (try dsimp only)
  exact ret _ _ (ExtX.mk2 (Fr.keep (by assumption)) (by assumption))
end
-- P4
section
open PySem PySem.W PySem.Spec PySem.Calls PyProof.Rows
set_option maxRecDepth 100000
theorem snocRec {α : Type} {motive : List α → Prop} (nil : motive []) (append_singleton : ∀ l a, motive l → motive (l ++ [a])) (l : List α) : motive l := by
  have h : ∀ r : List α, motive r.reverse := by
    intro r
    induction r with
    | nil => exact nil
    | cons a r ih => rw [List.reverse_cons]; exact append_singleton _ _ ih
  have := h l.reverse
  rwa [List.reverse_reverse] at this
abbrev cpl (x : Str) : List Nat := x.cps.toList
theorem cpl_inj {x y : Str} (h : cpl x = cpl y) : x = y := by
  obtain ⟨⟨a⟩⟩ := x
  obtain ⟨⟨b⟩⟩ := y
  have : a = b := h
  rw [this]
theorem cpl_append (x y : Str) : cpl (x ++ y) = cpl x ++ cpl y := by
  show (x.cps ++ y.cps).toList = _
  simp
theorem len_cpl (x : Str) : x.length = (cpl x).length := by simp [Str.length]
noncomputable def jl (c : Nat) : List (List Nat) → List Nat
  | [] => []
  | [p] => p
  | p :: r => p ++ c :: jl c r
theorem cpl_join (c : Nat) : ∀ ps : List Str, cpl (Str.join ⟨#[c]⟩ ps) = jl c (ps.map cpl)
  | [] => rfl
  | [p] => rfl
  | p :: q :: r => by
    show cpl (p ++ ⟨#[c]⟩ ++ Str.join ⟨#[c]⟩ (q :: r)) = cpl p ++ c :: jl c ((q :: r).map cpl)
    rw [cpl_append, cpl_append, cpl_join c (q :: r)]
    simp [cpl]
theorem split_at_unique {c : Nat} : ∀ {p q : List Nat} {a b : List Nat}, c ∉ p → c ∉ q → p ++ c :: a = q ++ c :: b → p = q ∧ a = b
  | [], [], a, b, _, _, h => by simp at h; exact ⟨rfl, h⟩
  | [], y :: q, a, b, _, hq, h => by simp at h; exact absurd h.1 (by intro e; apply hq; simp [e])
  | x :: p, [], a, b, hp, _, h => by simp at h; exact absurd h.1 (by intro e; apply hp; simp [e])
  | x :: p, y :: q, a, b, hp, hq, h => by
    simp at h hp hq
    obtain ⟨h1, h2⟩ := split_at_unique (p := p) (q := q) hp.2 hq.2 h.2
    exact ⟨by rw [h.1, h1], h2⟩
theorem jl_unique {c : Nat} : ∀ (ps qs : List (List Nat)), ps ≠ [] → qs ≠ [] → (∀ p ∈ ps, c ∉ p) → (∀ q ∈ qs, c ∉ q) → jl c ps = jl c qs → ps = qs
  | [], _, h, _, _, _, _ => absurd rfl h
  | _, [], _, h, _, _, _ => absurd rfl h
  | [p], [q], _, _, _, _, h => by have : p = q := h; rw [this]
  | [p], q :: q2 :: qs, _, _, hp, hq, h => by
    have h' : p = q ++ c :: jl c (q2 :: qs) := h
    exact absurd (by rw [h']; simp) (hp p (by simp))
  | p :: p2 :: ps, [q], _, _, hp, hq, h => by
    have h' : p ++ c :: jl c (p2 :: ps) = q := h
    exact absurd (by rw [← h']; simp) (hq q (by simp))
  | p :: p2 :: ps, q :: q2 :: qs, _, _, hp, hq, h => by
    have h' : p ++ c :: jl c (p2 :: ps) = q ++ c :: jl c (q2 :: qs) := h
    obtain ⟨h1, h2⟩ := split_at_unique (hp p (by simp)) (hq q (by simp)) h'
    have := jl_unique (p2 :: ps) (q2 :: qs) (by simp) (by simp) (fun x hx => hp x (List.mem_cons_of_mem _ hx)) (fun x hx => hq x (List.mem_cons_of_mem _ hx)) h2
    rw [h1, this]
theorem partsBetween_ne (x : Str) (cuts : List Nat) (k : Nat) : Builtin.Str.partsBetween x cuts k ≠ [] := by
  rw [StrLaws.partsBetween_eq]
  cases cuts <;> simp [StrLaws.partsFrom]
theorem split_ne (x y : Str) : Txt.split x y ≠ [] := by
  unfold Txt.split
  split
  · simp
  · split
    · simp
    · exact partsBetween_ne _ _ _
theorem split_join_one (c : Nat) (ps : List Str) (h0 : ps ≠ []) (h : ∀ p ∈ ps, c ∉ cpl p) : Txt.split (Str.join ⟨#[c]⟩ ps) ⟨#[c]⟩ = ps := by
  have e := StrLaws.join_split (Str.join ⟨#[c]⟩ ps) ⟨#[c]⟩
  have e' := congrArg cpl e
  rw [cpl_join, cpl_join] at e'
  have := jl_unique _ _ (by simpa using split_ne _ _) (by simpa using h0) (by
    intro p hp
    obtain ⟨q, hq, rfl⟩ := List.mem_map.mp hp
    exact StrLaws.split_free _ c q hq) (by
    intro p hp
    obtain ⟨q, hq, rfl⟩ := List.mem_map.mp hp
    exact h q hq) e'
  exact List.map_inj_right (fun x y hxy => cpl_inj hxy) |>.mp this
theorem txt_join (sep : Str) (l : List Str) : Txt.join sep l = Str.join sep l := eq_of_beq (join_plain_closes sep l)
theorem cpl_join0 : ∀ ps : List Str, cpl (Str.join (Str.ofString "") ps) = (ps.map cpl).flatten
  | [] => rfl
  | [p] => by show cpl p = _; simp
  | p :: q :: r => by
    show cpl (p ++ Str.ofString "" ++ Str.join (Str.ofString "") (q :: r)) = _
    rw [cpl_append, cpl_append, cpl_join0 (q :: r)]
    have : cpl (Str.ofString "") = [] := by decide
    rw [this]; simp
abbrev sp : Str := Str.ofString " "
abbrev nl : Str := Str.ofString "\n"
theorem sp_is : sp = ⟨#[32]⟩ := by decide +kernel
theorem nl_is : nl = ⟨#[10]⟩ := by decide +kernel
/-- the words, a blank ahead of each -/
noncomputable def spc : List Str → Str
  | [] => Str.ofString ""
  | w :: r => (sp ++ w) ++ spc r
theorem cpl_spc : ∀ ws : List Str, cpl (spc ws) = ws.flatMap fun w => 32 :: cpl w
  | [] => by decide
  | w :: r => by
    show cpl (sp ++ w ++ spc r) = _
    rw [cpl_append, cpl_append, cpl_spc r, sp_is]
    simp [cpl]
theorem spc_snoc (ws : List Str) (w : Str) : spc (ws ++ [w]) = spc ws ++ (sp ++ w) := by
  apply cpl_inj
  rw [cpl_spc, cpl_append, cpl_spc, cpl_append, sp_is]
  simp [cpl]
theorem spc_join : ∀ ws : List Str, spc ws = Str.join ⟨#[32]⟩ (Str.ofString "" :: ws)
  | [] => rfl
  | w :: r => by
    apply cpl_inj
    rw [cpl_join, cpl_spc]
    have : ∀ l : List Str, (l.flatMap fun w => 32 :: cpl w) = jl 32 ([] :: l.map cpl) := by
      intro l
      induction l with
      | nil => rfl
      | cons a l ih =>
        cases l with
        | nil => simp [jl]
        | cons b l =>
          rw [List.flatMap_cons, ih]
          simp [jl]
    rw [this]
    have e : cpl (Str.ofString "") = [] := by decide
    simp [e]
theorem split_spc (ws : List Str) (h : ∀ w ∈ ws, 32 ∉ cpl w) : Txt.split (spc ws) sp = Str.ofString "" :: ws := by
  rw [spc_join, sp_is]
  refine split_join_one 32 _ (by simp) fun p hp => ?_
  rcases List.mem_cons.mp hp with rfl | hp
  · decide
  · exact h p hp
theorem len_spc_snoc (ws : List Str) (w : Str) : (spc (ws ++ [w])).length = (spc ws).length + 1 + w.length := by
  rw [spc_snoc, len_cpl, len_cpl, len_cpl, cpl_append, cpl_append, sp_is]
  simp [cpl]; omega
/-- one word more on the lines -/
noncomputable def lstep (width : Int) (st : List Str × Str) (w : Str) : List Str × Str :=
  if st.2 ≠ Str.ofString "" ∧ ((st.2.length : Nat) : Int) + 1 + ((w.length : Nat) : Int) > width then (st.1 ++ [st.2], sp ++ w) else (st.1, st.2 ++ (sp ++ w))
noncomputable def lfold (width : Int) (ws : List Str) : List Str × Str := ws.foldl (lstep width) ([], Str.ofString "")
noncomputable def lawLines (width : Int) (ws : List Str) : List Str := (lfold width ws).1 ++ [(lfold width ws).2]
theorem lfold_snoc (width : Int) (ws : List Str) (w : Str) : lfold width (ws ++ [w]) = lstep width (lfold width ws) w := by simp [lfold]
theorem lines_flat (width : Int) : ∀ (ws : List Str), ((lfold width ws).1.map cpl).flatten ++ cpl (lfold width ws).2 = cpl (spc ws) := by
  intro ws
  induction ws using snocRec with
  | nil => rfl
  | append_singleton ws w ih =>
    rw [lfold_snoc, spc_snoc, cpl_append, ← ih]
    unfold lstep
    split
    · simp [cpl_append]
    · simp [cpl_append]
theorem lines_join (width : Int) (ws : List Str) : Txt.join (Str.ofString "") (lawLines width ws) = spc ws := by
  rw [txt_join]
  apply cpl_inj
  rw [cpl_join0, ← lines_flat width ws, lawLines]
  simp
theorem lines_free (width : Int) : ∀ (ws : List Str), (∀ w ∈ ws, 10 ∉ cpl w) → (∀ x ∈ (lfold width ws).1, 10 ∉ cpl x) ∧ 10 ∉ cpl (lfold width ws).2 := by
  intro ws
  induction ws using snocRec with
  | nil => intro _; exact ⟨by simp [lfold], (by decide : 10 ∉ cpl (Str.ofString ""))⟩
  | append_singleton ws w ih =>
    intro h
    obtain ⟨i1, i2⟩ := ih fun x hx => h x (by simp [hx])
    have hw := h w (by simp)
    have hsw : 10 ∉ cpl (sp ++ w) := by rw [cpl_append, sp_is]; simp [cpl] at hw ⊢; exact hw
    rw [lfold_snoc]
    unfold lstep
    split
    · refine ⟨fun x hx => ?_, hsw⟩
      simp only [List.mem_append, List.mem_singleton] at hx
      rcases hx with hx | rfl
      · exact i1 x hx
      · exact i2
    · refine ⟨i1, ?_⟩
      rw [cpl_append]
      simp only [List.mem_append]
      rintro (q | q)
      · exact i2 q
      · exact hsw q
theorem lawLines_free (width : Int) (ws : List Str) (h : ∀ w ∈ ws, 10 ∉ cpl w) : ∀ x ∈ lawLines width ws, 10 ∉ cpl x := by
  intro x hx
  obtain ⟨i1, i2⟩ := lines_free width ws h
  simp only [lawLines, List.mem_append, List.mem_singleton] at hx
  rcases hx with hx | rfl
  · exact i1 x hx
  · exact i2
theorem lines_count (width : Int) (ws : List Str) : (lfold width ws).1.length ≤ ws.length := by
  induction ws using snocRec with
  | nil => simp [lfold]
  | append_singleton ws w ih =>
    rw [lfold_snoc]
    unfold lstep
    split <;> simp <;> omega
end
-- C7
section
open PySem PySem.W PySem.Spec PySem.Calls PyProof.Rows
set_option maxRecDepth 100000
set_option maxHeartbeats 8000000
/-- at l stands a list of texts -/
def SL (h : Heap) (l : Addr) (ts : List Str) : Prop := ∃ vs n, h.get? l = some (lst vs n) ∧ StrsAre vs ts
theorem SL.keep {h h' : Heap} {l : Addr} {ts : List Str} (x : SL h l ts) (k : Keep h h') : SL h' l ts := let ⟨vs, n, a, b⟩ := x; ⟨vs, n, k _ _ a, b⟩
theorem SL.len {h : Heap} {l : Addr} {ts : List Str} {vs : List Value} {n : Nat} (_ : h.get? l = some (lst vs n)) (b : StrsAre vs ts) : vs.length = ts.length := b.len_eq
theorem strValues_are : ∀ l : List (Str × Tok), StrsAre (strValues l) (l.map (·.1))
  | [] => .nil
  | (x, t) :: l => .cons x t (strValues_are l)
theorem drop1_obj (vs : List Value) : ({ cls := .type "list", data := .seq (slicePick vs.toArray (some 1) none none) } : Obj) = lst (vs.drop 1) 0 := by
  have e := slicePick_from' vs.toArray 1
  rw [List.toList_toArray] at e
  rw [show (some 1 : Option Int) = some ((1 : Nat) : Int) from rfl, e]
theorem StrsAre_drop : ∀ {vs : List Value} {ts : List Str} (k : Nat), StrsAre vs ts → StrsAre (vs.drop k) (ts.drop k)
  | _, _, 0, h => h
  | _, _, _ + 1, .nil => .nil
  | _, _, k + 1, .cons _ _ h => StrsAre_drop k h
theorem strs_of {l : List (Str × Tok)} {a : Str} {ws : List Str} (e : l.map (·.1) = a :: ws) : StrsAre ((strValues l).drop 1) ws := by
  have q := StrsAre_drop 1 (strValues_are l)
  rw [e] at q
  exact q
theorem words_spec {w : World} {mg mb : Str → Option Value} {l : Addr} {ts ws : List Str}
  {dp un : Nat} {gd : Option (List Code)} {cn : Str} {cs : Scope} {a : Addr} {ccd : Value} {cl : List (Str × Addr)} {outer : List Env} {A₀ : Around} {base h₀ : Heap} {L : Addr} {m : Str → Option Value} {s : Shared} {Q E : Value → Shared → Prop} (B : Below A₀ base outer h₀) (F : Fr h₀ L s.heap m) (X : (KK w.params).In h₀) (T : TopRead VV LL mg mb h₀) (hk : cs.kind = .function) (hdp : dp + 3 < recursionLimit) (hun : un + 40 < cLine) (hl : SL s.heap l ts) (hz : (ts.map (·.length)).sum + ts.length * 64 ≤ 1000000) (hj : Txt.join (Str.ofString "") ts = spc ws) (hw : ∀ w ∈ ws, 32 ∉ cpl w) (hz2 : (spc ws).length ≤ 1000000)
  (ret : ∀ r s', Ext s s' → SL s'.heap r ws → s.heap.get? r = none → Q (.ref r) s') :
  wpAny (model PySem.Challenge.pw_oy0243_01 w) (ktrTop dp un gd cn cs L a ccd cl outer) (call (.ref 310) [.ref l]) Q E s := by
  refine wpAny_call ?_
  refine' enterP (binds := [(Str.ofString "lines", .ref l)]) B F X T rfl rfl hk ?ho ?hcd ?hroom ?hbind ?hloc ?hb ?c1 ?c2 ?c3 ?c4
  case ho => k_is
  case hcd => k_is
  case hroom => exact up0 hdp
  case hbind => exact BindsTo.of_eq rfl
  case hloc => exact locs rfl
  case c1 => decide
  case c2 => exact rfl
  case c3 => exact rfl
  case c4 => exact rfl
  intro L' h₁ tk₁ F₁ N₁ B₁ X₁ T₁ hL₁
  first | refine' execsIs ?ebL ?_ | refine' execsIsAt ?ebL ?_
  case ebL => conv => lhs; whnf
  have og₀ := OG.refl s
  (try dsimp only)
  (try k_fold)
  obtain ⟨vs, n, hget, hstrs⟩ := hl
  have hlst : s.heap.IsList l vs.toArray := ⟨_, hget, rfl, _, rfl⟩
  k_steps
  refine join_listC (items := vs.toArray) (Fr.lst (by assumption) hlst) hstrs (by decide) (by omega) ?_
  intro t9 k9
  rw [hj]
  k_steps
  (rename News _ _ _ _ => Nz)
  (rename (List.map _ _ = Txt.split _ _) => e9)
  have z := Nz _ (List.Mem.head _)
  rw [split_spc ws hw] at e9
  refine ret _ _ (Ext.mk2 (Fr.keep (by assumption)) (by assumption)) ⟨_, _, (z.1).trans (congrArg some (drop1_obj _)), ?_⟩ z.2.2
  exact strs_of e9
end
-- C8
section
open PySem PySem.W PySem.Spec PySem.Calls PyProof.Rows
set_option maxRecDepth 100000
set_option maxHeartbeats 8000000
theorem lfold2_len (width : Int) : ∀ (ws : List Str), (∀ w ∈ ws, w.length ≤ 100) → (lfold width ws).2.length ≤ 101 * ws.length := by
  intro ws
  induction ws using snocRec with
  | nil => intro _; simp [lfold]; decide
  | append_singleton ws w ih =>
    intro h
    have i := ih fun x hx => h x (by simp [hx])
    have hw := h w (by simp)
    rw [lfold_snoc]
    unfold lstep
    split
    · show (sp ++ w).length ≤ _
      rw [len_cpl, cpl_append, sp_is]
      rw [len_cpl] at hw
      simp [cpl] at hw ⊢; omega
    · show ((lfold width ws).2 ++ (sp ++ w)).length ≤ _
      rw [len_cpl, cpl_append, cpl_append, sp_is]
      rw [len_cpl] at hw i
      simp [cpl] at hw i ⊢; omega
theorem lstep_over {width : Int} {st : List Str × Str} {w : Str} (h1 : (st.2 != Str.ofString "") = true) (h2 : width < ((st.2.length : Nat) : Int) + 1 + ((w.length : Nat) : Int)) : lstep width st w = (st.1 ++ [st.2], sp ++ w) := by
  unfold lstep; rw [if_pos ⟨by simpa using h1, h2⟩]
theorem lstep_fit1 {width : Int} {st : List Str × Str} {w : Str} (h2 : ¬ width < ((st.2.length : Nat) : Int) + 1 + ((w.length : Nat) : Int)) : lstep width st w = (st.1, st.2 ++ (sp ++ w)) := by
  unfold lstep; rw [if_neg (fun h => h2 h.2)]
theorem lstep_fit2 {width : Int} {st : List Str × Str} {w : Str} (h1 : (st.2 != Str.ofString "") = false) : lstep width st w = (st.1, st.2 ++ (sp ++ w)) := by
  unfold lstep; rw [if_neg (fun h => h.1 (by simpa using h1))]
theorem line_len {x w : Str} : (x ++ (sp ++ w)).length = x.length + 1 + w.length := by
  rw [len_cpl, len_cpl, len_cpl, cpl_append, cpl_append, sp_is]; simp [cpl]; omega
theorem ln_step {a w i : Nat} (ha : a ≤ 101 * i) (hw : w ≤ 100) : a + 1 + w ≤ 101 * (i + 1) := by omega
inductive LinInv (s : Shared) (width : Int) (ws : List Str) (tw : Tok) (i : Nat) (m : Str → Option Value) (news : List (Addr × Obj)) (s' : Shared) : Prop
  | mk : ∀ (P : List Str × Str) lo n vs line t, (lfold width (ws.take i) = P) → (OG s s'.os s'.gens) → (m (Str.ofString "lines") = some (.ref lo)) → (m (Str.ofString "line") = some (.str line t)) → (m (Str.ofString "width") = some (.int width tw)) → (news = [(lo, lst vs n)]) → (StrsAre vs P.1) → (vs.length ≤ i) → (line = P.2) → (line.length ≤ 101 * i) → LinInv s width ws tw i m news s'
theorem take_snoc {α : Type} {l : List α} {i : Nat} {a : α} (h : l[i]? = some a) : l.take (i + 1) = l.take i ++ [a] := by rw [List.take_add_one, h]; rfl
theorem SL.at {vs : List Value} {ts : List Str} (h : StrsAre vs ts) {i : Nat} {v : Value} (e : vs[i]? = some v) : ∃ x t, v = .str x t ∧ ts[i]? = some x := h.item i v e
theorem lines_spec {w : World} {mg mb : Str → Option Value} {l : Addr} {ws : List Str} {width : Int} {tw : Tok}
  {dp un : Nat} {gd : Option (List Code)} {cn : Str} {cs : Scope} {a : Addr} {ccd : Value} {cl : List (Str × Addr)} {outer : List Env} {A₀ : Around} {base h₀ : Heap} {L : Addr} {m : Str → Option Value} {s : Shared} {Q E : Value → Shared → Prop} (B : Below A₀ base outer h₀) (F : Fr h₀ L s.heap m) (X : (KK w.params).In h₀) (T : TopRead VV LL mg mb h₀) (hk : cs.kind = .function) (hdp : dp + 3 < recursionLimit) (hun : un + 40 < cLine) (hl : SL s.heap l ws) (hz : ∀ w ∈ ws, w.length ≤ 100) (hn : ws.length ≤ 100) (hw : 0 ≤ width ∧ width ≤ 1000)
  (ret : ∀ r s', Ext s s' → SL s'.heap r (lawLines width ws) → s.heap.get? r = none → Q (.ref r) s') :
  wpAny (model PySem.Challenge.pw_oy0243_01 w) (ktrTop dp un gd cn cs L a ccd cl outer) (call (.ref 296) [.ref l, .int width tw]) Q E s := by
  refine wpAny_call ?_
  refine' enterP (binds := [(Str.ofString "words", .ref l), (Str.ofString "width", .int width tw)]) B F X T rfl rfl hk ?ho ?hcd ?hroom ?hbind ?hloc ?hb ?c1 ?c2 ?c3 ?c4
  case ho => k_is
  case hcd => k_is
  case hroom => exact up0 hdp
  case hbind => exact BindsTo.of_eq rfl
  case hloc => exact locs rfl
  case c1 => decide
  case c2 => exact rfl
  case c3 => exact rfl
  case c4 => exact rfl
  intro L' h₁ tk₁ F₁ N₁ B₁ X₁ T₁ hL₁
  first | refine' execsIs ?ebL ?_ | refine' execsIsAt ?ebL ?_
  case ebL => conv => lhs; whnf
  have og₀ := OG.refl s
  (try dsimp only)
  refine wpAny_opqE PassesOwn.leaving fun Qo Eo hQo hEo => ?_
  (try k_fold)
  obtain ⟨vs, n, hget, hstrs⟩ := hl
  have hlst : s.heap.IsList l vs.toArray := ⟨_, hget, rfl, _, rfl⟩
  have hlen : vs.length = ws.length := hstrs.len_eq
  k_steps
  rename_i F₀ N₀
  refine forL (LinInv s width ws tw) rfl rfl rfl rfl F₀ N₀ (.inl hlst) ?_ ?_ ?_ ?_
  · skip
    exact ⟨_, _, _, _, _, _, rfl, by assumption, rfl, rfl, rfl, rfl, .nil, by simp, rfl, by decide⟩
  · rintro i v m₁ news₁ s₁ h₂ tk I oI hv ⟨_, lo, n', vs', line, t, rfl, xt, h1, h2, h3, rfl, hst, hvl, hline, hll⟩ off S F₂ N₂
    obtain ⟨w9, tw9, rfl, hw9⟩ := SL.at hstrs hv
    have F₃ := Fr_know (Str.ofString "width") (Fr_know (Str.ofString "line") (Fr_know (Str.ofString "lines") F₂ (show m₁ _ = _ from h1)) (show m₁ _ = _ from h2)) (show m₁ _ = _ from h3)
    clear F₂
    have hne : @Ne Nat lo I := off _ (List.mem_singleton.mpr rfl)
    have hwl : w9.length ≤ 100 := hz w9 (List.mem_of_getElem? hw9)
    have hi : i < ws.length := by
      rcases Nat.lt_or_ge i ws.length with h | h
      · exact h
      · rw [List.getElem?_eq_none h] at hw9; cases hw9
    have hi' : i ≤ 100 := Nat.le_of_lt (Nat.lt_of_lt_of_le hi (by assumption))
    have hl1 : line.length ≤ 20000 := Nat.le_trans hll (Nat.le_trans (Nat.mul_le_mul_left 101 hi') (by decide))
    have hv1 : vs'.length ≤ 1000 := Nat.le_trans hvl (Nat.le_trans hi' (by decide))
    refine wpAny_opq fun Qp hQp => ?_
    k_steps
    · refine hQp _ _ ?_
      show Hold _
      (rename News _ _ _ _ => Nz)
      simp only [List.push_toArray] at Nz
      subst hline
      have e := lstep_over (by assumption) (by assumption)
      refine Hold.mk ⟨_, [(lo, lst (vs' ++ [_]) _)], by assumption, Nz, by simpa using hne, .inl hlst, ?_⟩
      skip
      have e := (congrArg (lfold width) (take_snoc hw9)).trans ((lfold_snoc ..).trans e)
      refine ⟨_, lo, _, vs' ++ [_], _, _, e, by assumption, rfl, rfl, rfl, rfl, hst.append' (.cons _ _ .nil), by simp; omega, ?_, ?_⟩
      · exact Str.empty_append _
      · show (Str.ofString "" ++ (sp ++ w9)).length ≤ _
        rw [line_len]
        exact ln_step (Nat.zero_le _) hwl
    · refine hQp _ _ ?_
      show Hold _
      (rename News _ _ _ _ => Nz)
      subst hline
      have e := lstep_fit1 (by assumption)
      refine Hold.mk ⟨_, [(lo, lst vs' n')], by assumption, Nz, by simpa using hne, .inl hlst, ?_⟩
      skip
      have e := (congrArg (lfold width) (take_snoc hw9)).trans ((lfold_snoc ..).trans e)
      refine ⟨_, lo, _, vs', _, _, e, by assumption, rfl, rfl, rfl, rfl, hst, by omega, rfl, ?_⟩
      show ((lfold width (ws.take i)).2 ++ (sp ++ w9)).length ≤ _
      rw [line_len]; exact ln_step hll hwl
    · refine hQp _ _ ?_
      show Hold _
      (rename News _ _ _ _ => Nz)
      subst hline
      have e := lstep_fit2 (width := width) (w := w9) (st := lfold width (ws.take i)) (by assumption)
      refine Hold.mk ⟨_, [(lo, lst vs' n')], by assumption, Nz, by simpa using hne, .inl hlst, ?_⟩
      skip
      have e := (congrArg (lfold width) (take_snoc hw9)).trans ((lfold_snoc ..).trans e)
      refine ⟨_, lo, _, vs', _, _, e, by assumption, rfl, rfl, rfl, rfl, hst, by omega, rfl, ?_⟩
      show ((lfold width (ws.take i)).2 ++ (sp ++ w9)).length ≤ _
      rw [line_len]; exact ln_step hll hwl
  · rintro m₁ news₁ s₁ h₂ ⟨_, lo, n', vs', line, t, rfl, xt, h1, h2, h3, rfl, hst, hvl, hline, hll⟩ F₂ N₂
    have F₃ := Fr_know (Str.ofString "line") (Fr_know (Str.ofString "lines") F₂ (show m₁ _ = _ from h1)) (show m₁ _ = _ from h2)
    clear F₂
    have hv1 : vs'.length ≤ 1000 := Nat.le_trans hvl (hlen.symm ▸ Nat.le_trans (by assumption) (by decide))
    rw [hlen, List.take_length] at hst hline
    subst hline
    have hfin : ∀ u, StrsAre (vs' ++ [.str (lfold width ws).2 u]) (lawLines width ws) := fun u => hst.append' (.cons _ _ .nil)
    clear hst
    k_steps
    (rename News _ _ _ _ => Nz)
    have z := Nz _ (List.Mem.head _)
    refine hQo _ _ ?_
    exact ret _ _ (Ext.mk2 (Fr.keep (by assumption)) (by assumption)) ⟨vs' ++ [_], 0, z.1, hfin _⟩ z.2.2
  · exact hEo
end
end
-- P6
section
open PySem PyProof.Rows
/-- what sorted_list_difference makes of what is left of two sorted lists -/
noncomputable def sdF : Nat → List Str → List Str → List Str × List Str
  | _, [], bs => ([], bs)
  | _, a :: as, [] => (a :: as, [])
  | 0, _ :: _, _ :: _ => ([], [])
  | n + 1, a :: as, b :: bs =>
    if cpl a < cpl b then (a :: (sdF n (as.dropWhile (· == a)) (b :: bs)).1, (sdF n (as.dropWhile (· == a)) (b :: bs)).2)
    else if cpl b < cpl a then ((sdF n (a :: as) (bs.dropWhile (· == b))).1, b :: (sdF n (a :: as) (bs.dropWhile (· == b))).2)
    else sdF n (as.dropWhile (· == a)) (bs.dropWhile (· == b))
theorem dw_len (p : Str → Bool) : ∀ l : List Str, (l.dropWhile p).length ≤ l.length
  | [] => Nat.le_refl _
  | a :: l => by
    rw [List.dropWhile_cons]
    split
    · exact Nat.le_succ_of_le (dw_len p l)
    · exact Nat.le_refl _
/-- the bound of turns does not matter -/
theorem sdF_enough : ∀ (n k : Nat) (as bs : List Str), as.length + bs.length ≤ n → as.length + bs.length ≤ k → sdF n as bs = sdF k as bs
  | _, _, [], bs, _, _ => by cases bs <;> simp [sdF]
  | _, _, _ :: _, [], _, _ => by simp [sdF]
  | 0, _, _ :: _, _ :: _, h, _ => by simp at h
  | _, 0, _ :: _, _ :: _, _, h => by simp at h
  | n + 1, k + 1, a :: as, b :: bs, h, h' => by
    simp at h h'
    have la := dw_len (· == a) as
    have lb := dw_len (· == b) bs
    have e1 := sdF_enough n k (as.dropWhile (· == a)) (b :: bs) (by simp; omega) (by simp; omega)
    have e2 := sdF_enough n k (a :: as) (bs.dropWhile (· == b)) (by simp; omega) (by simp; omega)
    have e3 := sdF_enough n k (as.dropWhile (· == a)) (bs.dropWhile (· == b)) (by omega) (by omega)
    simp only [sdF, e1, e2, e3]
noncomputable def sd (as bs : List Str) : List Str × List Str := sdF (as.length + bs.length) as bs
theorem sd_nil (bs : List Str) : sd [] bs = ([], bs) := by cases bs <;> simp [sd, sdF]
theorem sd_nil' (as : List Str) : sd as [] = (as, []) := by cases as <;> simp [sd, sdF]
theorem sd_cons (a b : Str) (as bs : List Str) : sd (a :: as) (b :: bs) =
    if cpl a < cpl b then (a :: (sd (as.dropWhile (· == a)) (b :: bs)).1, (sd (as.dropWhile (· == a)) (b :: bs)).2)
    else if cpl b < cpl a then ((sd (a :: as) (bs.dropWhile (· == b))).1, b :: (sd (a :: as) (bs.dropWhile (· == b))).2)
    else sd (as.dropWhile (· == a)) (bs.dropWhile (· == b)) := by
  have la := dw_len (· == a) as
  have lb := dw_len (· == b) bs
  unfold sd
  rw [show (a :: as).length + (b :: bs).length = (as.length + bs.length + 1) + 1 by simp; omega]
  rw [sdF]
  rw [sdF_enough (as.length + bs.length + 1) ((as.dropWhile (· == a)).length + (b :: bs).length) _ _ (by simp; omega) (Nat.le_refl _),
    sdF_enough (as.length + bs.length + 1) ((a :: as).length + (bs.dropWhile (· == b)).length) _ _ (by simp; omega) (Nat.le_refl _),
    sdF_enough (as.length + bs.length + 1) ((as.dropWhile (· == a)).length + (bs.dropWhile (· == b)).length) _ _ (by omega) (Nat.le_refl _)]
end
-- P7
section
open PySem PyProof.Rows
/-- what _law_alone keeps of a sorted list: p is the last word kept -/
noncomputable def alP (B : List Str) : Option Str → List Str → List Str
  | _, [] => []
  | p, a :: as => open Classical in if a ∈ B then alP B p as else if p = some a ∧ ¬ ∀ y ∈ B, cpl y < cpl a then alP B p as else a :: alP B (some a) as
abbrev Asc (l : List Str) : Prop := l.Pairwise fun a b => ¬ cpl b < cpl a
theorem lt_or_eq_of_not {a b : Str} (h : ¬ cpl b < cpl a) : a = b ∨ cpl a < cpl b := by
  by_cases e : a = b
  · exact .inl e
  · refine .inr ?_
    by_cases q : cpl a < cpl b
    · exact q
    · exact absurd (cpl_inj (List.le_antisymm (List.not_lt.mp h) (List.not_lt.mp q))) e
theorem alP_in {B : List Str} {p : Option Str} {a : Str} {as : List Str} (h : a ∈ B) : alP B p (a :: as) = alP B p as := by rw [alP, if_pos h]
theorem alP_out {B : List Str} {p : Option Str} {a : Str} {as : List Str} (h : a ∉ B) (h2 : p ≠ some a ∨ ∀ y ∈ B, cpl y < cpl a) : alP B p (a :: as) = a :: alP B (some a) as := by
  rw [alP, if_neg h, if_neg]
  rintro ⟨e, n⟩
  rcases h2 with q | q
  · exact q e
  · exact n q
theorem alP_dup {B : List Str} {a : Str} {as : List Str} (h : a ∉ B) (h2 : ¬ ∀ y ∈ B, cpl y < cpl a) : alP B (some a) (a :: as) = alP B (some a) as := by rw [alP, if_neg h, if_pos ⟨rfl, h2⟩]
theorem alP_dwIn {B : List Str} {p : Option Str} {a : Str} (h : a ∈ B) : ∀ as : List Str, alP B p as = alP B p (as.dropWhile (· == a))
  | [] => rfl
  | b :: as => by
    rw [List.dropWhile_cons]
    split
    · rename_i e
      rw [eq_of_beq e, alP_in h]
      exact alP_dwIn h as
    · rfl
theorem alP_dwDup {B : List Str} {a : Str} (h : a ∉ B) (h2 : ¬ ∀ y ∈ B, cpl y < cpl a) : ∀ as : List Str, alP B (some a) as = alP B (some a) (as.dropWhile (· == a))
  | [] => rfl
  | b :: as => by
    rw [List.dropWhile_cons]
    split
    · rename_i e
      rw [eq_of_beq e, alP_dup h h2]
      exact alP_dwDup h h2 as
    · rfl
theorem alP_fresh {B : List Str} : ∀ (as : List Str) {p q : Option Str}, (∀ a ∈ as, p ≠ some a) → (∀ a ∈ as, q ≠ some a) → alP B p as = alP B q as
  | [], _, _, _, _ => by rw [alP, alP]
  | a :: as, p, q, hp, hq => by
    by_cases h : a ∈ B
    · rw [alP_in h, alP_in h]
      exact alP_fresh as (fun x hx => hp x (.tail _ hx)) (fun x hx => hq x (.tail _ hx))
    · rw [alP_out h (.inl (hp a (.head _))), alP_out h (.inl (hq a (.head _)))]
theorem alP_congr {B B' : List Str} : ∀ (as : List Str) (p : Option Str), (∀ x ∈ as, (x ∈ B ↔ x ∈ B') ∧ ((∀ y ∈ B, cpl y < cpl x) ↔ ∀ y ∈ B', cpl y < cpl x)) → alP B p as = alP B' p as
  | [], _, _ => by rw [alP, alP]
  | a :: as, p, h => by
    have h1 := h a (.head _)
    have ih := fun p => alP_congr as p fun x hx => h x (.tail _ hx)
    by_cases hm : a ∈ B
    · rw [alP_in hm, alP_in (h1.1.mp hm), ih]
    · have hm' : a ∉ B' := fun q => hm (h1.1.mpr q)
      by_cases hc : p = some a ∧ ¬ ∀ y ∈ B, cpl y < cpl a
      · have hc2 : ¬ ∀ y ∈ B', cpl y < cpl a := fun q => hc.2 (h1.2.mpr q)
        rw [hc.1, alP_dup hm hc.2, alP_dup hm' hc2, ih]
      · have hd : p ≠ some a ∨ ∀ y ∈ B, cpl y < cpl a := by
          by_cases e : p = some a
          · exact .inr (Classical.not_not.mp fun q => hc ⟨e, q⟩)
          · exact .inl e
        rw [alP_out hm hd, alP_out hm' (hd.imp id h1.2.mp), ih]
theorem alP_all {B : List Str} : ∀ (as : List Str) (p : Option Str), (∀ x ∈ as, ∀ y ∈ B, cpl y < cpl x) → alP B p as = as
  | [], _, _ => by rw [alP]
  | a :: as, p, h => by
    have h1 := h a (.head _)
    rw [alP_out (fun hm => List.lt_irrefl _ (h1 a hm)) (.inr h1), alP_all as _ fun x hx => h x (.tail _ hx)]
theorem asc_dw {a : Str} {as : List Str} (h : Asc (a :: as)) : Asc (as.dropWhile (· == a)) ∧ ∀ x ∈ as.dropWhile (· == a), cpl a < cpl x := by
  have h1 := List.pairwise_cons.mp h
  refine ⟨h1.2.sublist (List.dropWhile_sublist _), ?_⟩
  clear h
  induction as with
  | nil => intro x hx; cases hx
  | cons b as ih =>
    intro x hx
    rw [List.dropWhile_cons] at hx
    split at hx
    · exact ih ⟨fun y hy => h1.1 y (.tail _ hy), (List.pairwise_cons.mp h1.2).2⟩ x hx
    · rename_i e
      have hab : cpl a < cpl b := by
        rcases lt_or_eq_of_not (h1.1 b (.head _)) with q | q
        · exact absurd (beq_iff_eq.mpr q.symm) e
        · exact q
      rcases List.mem_cons.mp hx with rfl | hx
      · exact hab
      · rcases lt_or_eq_of_not ((List.pairwise_cons.mp h1.2).1 x hx) with q | q
        · rw [← q]; exact hab
        · exact List.lt_trans hab q
theorem asc_head {a : Str} {as : List Str} (h : Asc (a :: as)) {x : Str} (hx : x ∈ a :: as) : x = a ∨ cpl a < cpl x := by
  rcases List.mem_cons.mp hx with rfl | hx
  · exact .inl rfl
  · exact (lt_or_eq_of_not ((List.pairwise_cons.mp h).1 x hx)).imp Eq.symm id
theorem mem_dw' {a x : Str} (h : x ≠ a) : ∀ as : List Str, x ∈ as → x ∈ as.dropWhile (· == a)
  | b :: as, hx => by
    rw [List.dropWhile_cons]
    split
    · rename_i e
      rcases List.mem_cons.mp hx with q | hx
      · exact absurd (q.trans (eq_of_beq e)) h
      · exact mem_dw' h as hx
    · exact hx
theorem mem_dw {a x : Str} {as : List Str} (h : x ≠ a) : x ∈ a :: as ↔ x ∈ as.dropWhile (· == a) := by
  constructor
  · intro hx
    rcases List.mem_cons.mp hx with q | hx
    · exact absurd q h
    · exact mem_dw' h as hx
  · intro hx
    exact .tail _ ((List.dropWhile_sublist _).subset hx)
/-- words all behind a: to leave out a and its likes does not matter -/
theorem alP_drop {a : Str} {as : List Str} (p : Option Str) (xs : List Str) (h : ∀ x ∈ xs, cpl a < cpl x) : alP (a :: as) p xs = alP (as.dropWhile (· == a)) p xs := by
  refine alP_congr xs p fun x hx => ?_
  have hl := h x hx
  have hne : x ≠ a := fun e => by rw [e] at hl; exact List.lt_irrefl _ hl
  refine ⟨mem_dw hne, fun q y hy => q y (.tail _ ((List.dropWhile_sublist _).subset hy)), fun q y hy => ?_⟩
  by_cases e : y = a
  · rw [e]; exact hl
  · exact q y ((mem_dw e).mp hy)
theorem sd_law : ∀ (n : Nat) (as bs : List Str), as.length + bs.length ≤ n → Asc as → Asc bs → sd as bs = (alP bs none as, alP as none bs)
  | _, [], bs, _, _, _ => by rw [sd_nil, alP_all bs none fun x _ y hy => absurd hy List.not_mem_nil, alP]
  | _, a :: as, [], _, _, _ => by rw [sd_nil', alP_all (a :: as) none fun x _ y hy => absurd hy List.not_mem_nil, alP]
  | 0, _ :: _, _ :: _, h, _, _ => by simp at h
  | n + 1, a :: as, b :: bs, h, ha, hb => by
    simp at h
    have la := dw_len (· == a) as
    have lb := dw_len (· == b) bs
    obtain ⟨sa, ga⟩ := asc_dw ha
    obtain ⟨sb, gb⟩ := asc_dw hb
    have ih1 := sd_law n (as.dropWhile (· == a)) (b :: bs) (by simp; omega) sa hb
    have ih2 := sd_law n (a :: as) (bs.dropWhile (· == b)) (by simp; omega) ha sb
    have ih3 := sd_law n (as.dropWhile (· == a)) (bs.dropWhile (· == b)) (by omega) sa sb
    have fra : ∀ x ∈ as.dropWhile (· == a), some a ≠ some x := fun x hx e => by have := ga x hx; rw [Option.some.inj e] at this; exact List.lt_irrefl _ this
    have frb : ∀ x ∈ bs.dropWhile (· == b), some b ≠ some x := fun x hx e => by have := gb x hx; rw [Option.some.inj e] at this; exact List.lt_irrefl _ this
    rw [sd_cons]
    by_cases h1 : cpl a < cpl b
    · have hall : ∀ x ∈ b :: bs, cpl a < cpl x := fun x hx => by
        rcases asc_head hb hx with rfl | q
        · exact h1
        · exact List.lt_trans h1 q
      have hn : a ∉ b :: bs := fun q => List.lt_irrefl _ (hall a q)
      have hm : ¬ ∀ y ∈ b :: bs, cpl y < cpl a := fun q => List.lt_irrefl _ (List.lt_trans h1 (q b (.head _)))
      rw [if_pos h1, ih1, alP_drop none (b :: bs) hall, alP_out hn (.inl (by simp)), alP_dwDup hn hm, alP_fresh (as.dropWhile (· == a)) (q := none) fra (by simp)]
    · rw [if_neg h1]
      by_cases h2 : cpl b < cpl a
      · have hall : ∀ x ∈ a :: as, cpl b < cpl x := fun x hx => by
          rcases asc_head ha hx with rfl | q
          · exact h2
          · exact List.lt_trans h2 q
        have hn : b ∉ a :: as := fun q => List.lt_irrefl _ (hall b q)
        have hm : ¬ ∀ y ∈ a :: as, cpl y < cpl b := fun q => List.lt_irrefl _ (List.lt_trans h2 (q a (.head _)))
        rw [if_pos h2, ih2, alP_drop none (a :: as) hall, alP_out hn (.inl (by simp)), alP_dwDup hn hm, alP_fresh (bs.dropWhile (· == b)) (q := none) frb (by simp)]
      · have e : a = b := by
          rcases lt_or_eq_of_not h2 with q | q
          · exact q
          · exact absurd q h1
        subst e
        rw [if_neg h2, ih3, alP_in (.head _), alP_in (.head _), alP_dwIn (.head _), alP_dwIn (a := a) (.head _) bs, alP_drop none _ ga, alP_drop none _ gb]
/-- the loop of _law_alone -/
noncomputable def alS (B : List Str) (acc : List Str) (a : Str) : List Str := open Classical in if a ∉ B ∧ (a ∉ acc ∨ ∀ y ∈ B, cpl y < cpl a) then acc ++ [a] else acc
theorem alS_law (B : List Str) : ∀ (as acc : List Str), Asc as → Asc acc → (∀ x ∈ acc, ∀ y ∈ as, ¬ cpl y < cpl x) → as.foldl (alS B) acc = acc ++ alP B acc.getLast? as
  | [], acc, _, _, _ => by rw [List.foldl_nil, alP, List.append_nil]
  | a :: as, acc, h, hacc, hle => by
    have h1 := List.pairwise_cons.mp h
    have hmem : a ∈ acc ↔ acc.getLast? = some a := by
      constructor
      · intro hm
        rcases List.eq_nil_or_concat acc with e | ⟨init, z, e⟩
        · rw [e] at hm; cases hm
        · subst e
          rw [List.concat_eq_append] at hacc hle hm ⊢
          rw [List.getLast?_append, List.getLast?_singleton]
          show some z = some a
          rcases List.mem_append.mp hm with q | q
          · have z1 := (List.pairwise_append.mp hacc).2.2 a q z (.head _)
            have z2 := hle z (List.mem_append.mpr (.inr (.head _))) a (.head _)
            rcases lt_or_eq_of_not z1 with r | r
            · rw [r]
            · exact absurd r z2
          · rw [List.mem_singleton.mp q]
      · intro e
        exact List.mem_of_getLast? e
    rw [List.foldl_cons]
    by_cases hB : a ∈ B
    · rw [alP_in hB, show alS B acc a = acc from if_neg fun q => q.1 hB]
      exact alS_law B as acc h1.2 hacc fun x hx y hy => hle x hx y (.tail _ hy)
    · by_cases hc : a ∉ acc ∨ ∀ y ∈ B, cpl y < cpl a
      · rw [alP_out hB (hc.imp (fun q e => q (hmem.mpr e)) id), show alS B acc a = acc ++ [a] from if_pos ⟨hB, hc⟩]
        rw [alS_law B as (acc ++ [a]) h1.2 (List.pairwise_append.mpr ⟨hacc, List.pairwise_singleton _ _, fun x hx y hy => by rw [List.mem_singleton.mp hy]; exact hle x hx a (.head _)⟩) ?_]
        · rw [List.getLast?_append, List.getLast?_singleton, List.append_assoc]; rfl
        · intro x hx y hy
          rcases List.mem_append.mp hx with q | q
          · exact hle x q y (.tail _ hy)
          · rw [List.mem_singleton.mp q]; exact h1.1 y hy
      · have hd : acc.getLast? = some a := hmem.mp (Classical.not_not.mp fun q => hc (.inl q))
        have hm : ¬ ∀ y ∈ B, cpl y < cpl a := fun q => hc (.inr q)
        rw [show alS B acc a = acc from if_neg fun q => hc q.2, hd, alP_dup hB hm, ← hd]
        exact alS_law B as acc h1.2 hacc fun x hx y hy => hle x hx y (.tail _ hy)
theorem asc_unique {l l' : List Str} (hp : l.Perm l') (h : Asc l) (h' : Asc l') : l = l' := by
  refine hp.eq_of_pairwise (le := fun a b => ¬ cpl b < cpl a) (fun a b _ _ x y => ?_) h h'
  rcases lt_or_eq_of_not x with q | q
  · exact q
  · exact absurd q y
theorem rising_asc : ∀ (l : List Str) (p : Str), risingS p l = true → Asc (p :: l)
  | [], p, _ => List.pairwise_singleton _ _
  | x :: r, p, h => by
    rw [risingS, Bool.and_eq_true, ltCps_eq] at h
    have hx : ¬ cpl x < cpl p := by simpa using h.1
    have ih := rising_asc r x h.2
    refine List.pairwise_cons.mpr ⟨fun y hy => ?_, ih⟩
    intro q
    rcases List.mem_cons.mp hy with rfl | hy
    · exact hx q
    · rcases lt_or_eq_of_not ((List.pairwise_cons.mp ih).1 y hy) with r | r
      · rw [← r] at q; exact hx q
      · exact hx (List.lt_trans r q)
theorem sorted_asc : ∀ (l : List Str), sortedS l = true → Asc l
  | [], _ => List.Pairwise.nil
  | x :: r, h => rising_asc r x h
theorem lt_max {B : List Str} {mx x : Str} (hm : mx ∈ B) (h : ∀ y ∈ B, ¬ cpl mx < cpl y) : cpl mx < cpl x ↔ ∀ y ∈ B, cpl y < cpl x := by
  constructor
  · intro q y hy
    rcases lt_or_eq_of_not (h y hy) with r | r
    · rw [r]; exact q
    · exact List.lt_trans r q
  · intro q
    exact q mx hm
end
-- M1
section
open PySem PySem.W PySem.Spec PySem.Calls PySem.SeqAt PyProof.Rows
set_option maxRecDepth 100000
set_option maxHeartbeats 1000000
/-- two lists of values that are alike, item by item -/
def SameL (vs us : List Value) : Prop := vs.length = us.length ∧ ∀ (A : Around) (s : Shared) (j : Nat) (v u : Value), vs[j]? = some v → us[j]? = some u → EqAt A s v u true
theorem same_str (A : Around) (s : Shared) (x : Str) (t u : Tok) : EqAt A s (.str x t) (.str x u) true := by
  have := (eqGives_str x x t u).at A s
  simpa using this
theorem same_int (A : Around) (s : Shared) (x : Int) (t u : Tok) : EqAt A s (.int x t) (.int x u) true := by
  have := (MeetsSeq.EqGives.int x x t u).at A s
  simpa using this
theorem same_bytes (A : Around) (s : Shared) (x : Array UInt8) (t u : Tok) : EqAt A s (.bytes x t) (.bytes x u) true := fun prog w E Q h => by
  unfold eqBool
  refine wpAny_holding ?_
  refine wpAny_ite_split (fun _ => wpAny_bind (wpAny_rule (wpAny_pure h))) (fun _ => ?_)
  refine wpAny_bind (PySem.W.eq_bytes ?_)
  simp only [BEq.rfl]
  exact wpAny_truthy_bool h
theorem SameL.strs {vs us : List Value} {ws : List Str} (h : StrsAre vs ws) (h' : StrsAre us ws) : SameL vs us := by
  refine ⟨h.len_eq.trans h'.len_eq.symm, ?_⟩
  induction h generalizing us with
  | nil =>
    intro A s j v u e
    cases e
  | cons x t h ih =>
    cases h' with
    | cons _ t' h' =>
      intro A s j v u e e'
      cases j with
      | zero =>
        cases e
        cases e'
        exact same_str A s x t t'
      | succ j => exact ih h' A s j v u e e'
theorem SameL.all {vs us : List Value} (h : SameL vs us) (A : Around) (s : Shared) : ∀ j (h1 : j < vs.toArray.size) (h2 : j < us.toArray.size), EqAt A s vs.toArray[j] us.toArray[j] ((fun _ => true) j) := fun j h1 h2 =>
  h.2 A s j _ _ (by simp) (by simp)
theorem all_true (n : Nat) : ((List.range n).all fun _ => true) = true := by simp
section
variable {prog : Program} {w : World} {A : Around} {E : Value → Shared → Prop} {s : Shared} {Q : Value → Shared → Prop} {l b : Addr} {vs us : List Value}
theorem SameL.rc (h : SameL vs us) (hl : s.heap.IsList l vs.toArray) (hb : s.heap.IsList b us.toArray) (hu : A.units < cLine) : RcAt A s (.ref l) (.ref b) true := by
  have := RcAt.lists (e := fun _ => true) hl hb (by simpa using h.1) hu (h.all A.in1 s)
  rwa [all_true] at this
theorem SameL.eq (h : SameL vs us) (hl : s.heap.IsList l vs.toArray) (hb : s.heap.IsList b us.toArray) (hu : A.units < cLine) (k : Q (.bool true) s) : wpAny (model prog w) A (compareOp .Eq (.ref l) (.ref b)) Q E s := h.rc hl hb hu prog w E Q k
theorem SameL.ne (h : SameL vs us) (hl : s.heap.IsList l vs.toArray) (hb : s.heap.IsList b us.toArray) (hu : A.units < cLine) (k : Q (.bool false) s) : wpAny (model prog w) A (compareOp .NotEq (.ref l) (.ref b)) Q E s := by
  have := RcNeAt.lists (e := fun _ => true) hl hb (by simpa using h.1) hu (h.all A.in1 s)
  rw [all_true] at this
  exact this prog w E Q k
theorem SameL.ref (h : SameL vs us) (hl : s.heap.IsList l vs.toArray) (hb : s.heap.IsList b us.toArray) (hu : A.units < cLine) : EqAt A s (.ref l) (.ref b) true := by
  by_cases e : l = b
  · rw [e]; exact EqAt.same _
  · exact EqAt.of_refs e (h.rc hl hb hu)
/-- two pairs of lists that are alike -/
theorem ne_pairs {l b x1 x2 y1 y2 : Addr} {v1 v2 u1 u2 : List Value} {n n' : Nat} (hl : s.heap.get? l = some (tup [.ref x1, .ref x2] n)) (hb : s.heap.get? b = some (tup [.ref y1, .ref y2] n')) (h1 : SameL v1 u1) (h2 : SameL v2 u2)
    (a1 : s.heap.IsList x1 v1.toArray) (b1 : s.heap.IsList y1 u1.toArray) (a2 : s.heap.IsList x2 v2.toArray) (b2 : s.heap.IsList y2 u2.toArray) (hu : A.units + 1 < cLine) (k : Q (.bool false) s) : wpAny (model prog w) A (compareOp .NotEq (.ref l) (.ref b)) Q E s := by
  have hu1 : A.in1.units < cLine := by rw [units_in1]; exact hu
  have := RcNeAt.tuples (A := A) (e := fun _ => true) (l := l) (b := b) (items := #[.ref x1, .ref x2]) (items2 := #[.ref y1, .ref y2]) ⟨_, hl, rfl, n, rfl⟩ ⟨_, hb, rfl, n', rfl⟩ (by omega) (fun j j1 j2 => by
    match j, j1 with
    | 0, _ => exact h1.ref a1 b1 hu1
    | 1, _ => exact h2.ref a2 b2 hu1)
  rw [all_true] at this
  exact this prog w E Q k
theorem best_max (ws : List Str) (hne : 0 < ws.length) : ∀ k, k < ws.length → argBest (fun i j => decide (cpl (ws.getD j ⟨#[]⟩) < cpl (ws.getD i ⟨#[]⟩))) k ≤ k ∧ ∀ i, i ≤ k → ¬ cpl (ws.getD (argBest (fun i j => decide (cpl (ws.getD j ⟨#[]⟩) < cpl (ws.getD i ⟨#[]⟩))) k) ⟨#[]⟩) < cpl (ws.getD i ⟨#[]⟩)
  | 0, _ => ⟨Nat.le_refl _, fun i hi => by rw [Nat.le_zero.mp hi]; exact List.lt_irrefl _⟩
  | k + 1, hk => by
    obtain ⟨h1, h2⟩ := best_max ws hne k (by omega)
    rw [argBest]
    split
    · rename_i hc
      have hc := of_decide_eq_true hc
      refine ⟨Nat.le_refl _, fun i hi q => ?_⟩
      rcases Nat.lt_or_ge i (k + 1) with c | c
      · exact h2 i (by omega) (List.lt_trans hc q)
      · rw [show i = k + 1 by omega] at q
        exact List.lt_irrefl _ q
    · rename_i hc
      have hc : ¬ _ := fun q => hc (decide_eq_true q)
      refine ⟨by omega, fun i hi => ?_⟩
      rcases Nat.lt_or_ge i (k + 1) with c | c
      · exact h2 i (by omega)
      · rw [show i = k + 1 by omega]; exact hc
theorem max_strs {h₀ : Heap} {L : Addr} {m : Str → Option Value} {news : List (Addr × Obj)} {ws : List Str} (hh : A.handled = none) (F : Fr h₀ L s.heap m) (N : News h₀ L s.heap news) (hl : s.heap.IsList l vs.toArray) (hf : StrsAre vs ws) (hne : 0 < ws.length)
    (h : ∀ h' tk t mx, mx ∈ ws → (∀ y ∈ ws, ¬ cpl mx < cpl y) → Fr h₀ L h' m → News h₀ L h' news → Q (.str mx t) { s with heap := h', toks := tk }) : wpAny (model prog w) A (call (.builtin "max") [.ref l]) Q E s := by
  have hlt : l < s.heap.objs.size := by obtain ⟨_, e, _⟩ := hl; exact Heap.lt_size e
  have hat : ∀ i v, vs[i]? = some v → ∃ t, v = .str (ws.getD i ⟨#[]⟩) t ∧ i < ws.length := by
    clear hl hne h
    induction hf with
    | nil => intro i v e; cases e
    | cons x t _ ih =>
      intro i v e
      cases i with
      | zero => cases e; exact ⟨t, rfl, Nat.succ_pos _⟩
      | succ i => obtain ⟨t', a, b⟩ := ih i v e; exact ⟨t', a, Nat.succ_lt_succ b⟩
  have hsz : vs.length = ws.length := hf.len_eq
  refine call_max_walk (wpAny_pyIter_list hl ?_)
  refine ⟨_, _, _, _, _, _, fun i j => decide (cpl (ws.getD j ⟨#[]⟩) < cpl (ws.getD i ⟨#[]⟩)), rfl, Walks.list (A := A.in1) hh s.heap.objs.size l (Ne.symm (Nat.ne_of_gt hlt)) vs.toArray, ⟨⟨_, Heap.get?_push_size _ rfl, rfl, rfl⟩, hl.push _⟩, ?_, by rw [List.size_toArray, hsz]; exact hne, ?_, ?_⟩
  · intro b hb
    show b < (s.heap.push _).objs.size
    rw [Heap.size_push]
    rcases List.mem_cons.mp hb with rfl | hb
    · exact Nat.lt_succ_self _
    · rcases List.mem_cons.mp hb with rfl | hb
      · exact Nat.lt_succ_of_lt hlt
      · cases hb
  · intro i j vi vj s Q E hi hj h
    obtain ⟨t, rfl, _⟩ := hat i vi (by simpa using hi)
    obtain ⟨u, rfl, _⟩ := hat j vj (by simpa using hj)
    exact PySem.P.gt_str h
  · intro v h' tk hP hk
    rw [List.size_toArray, hsz, List.getElem?_toArray] at hP
    obtain ⟨t, rfl, hb⟩ := hat _ v hP
    obtain ⟨_, hbest⟩ := best_max ws hne (ws.length - 1) (by omega)
    have kp : ∀ b o, s.heap.get? b = some o → h'.get? b = some o := fun b o e => hk b o (fun hm => by rw [List.mem_singleton.mp hm] at e; exact Nat.lt_irrefl _ (Heap.lt_size e)) (Heap.get?_push_of_some _ e)
    refine h h' tk t _ ?_ (fun y hy => ?_) (F.keeps kp) (fun p hp => ⟨kp _ _ (N p hp).1, (N p hp).2⟩)
    · rw [List.getD_eq_getElem?_getD, List.getElem?_eq_getElem hb]
      exact List.getElem_mem hb
    · obtain ⟨i, hi, rfl⟩ := List.mem_iff_getElem.mp hy
      have z := hbest i (by omega)
      rwa [show ws.getD i ⟨#[]⟩ = ws[i] by rw [List.getD_eq_getElem?_getD, List.getElem?_eq_getElem hi]; rfl] at z
end
section
variable {prog : Program} {w : World} {A : Around} {E : Value → Shared → Prop} {s : Shared}
theorem sorted_L {h₀ : Heap} {L : Addr} {m : Str → Option Value} {news : List (Addr × Obj)} {l : Addr} {vs : List Value} {ws : List Str} {Q : Value → Shared → Prop} (F : Fr h₀ L s.heap m) (N : News h₀ L s.heap news) (hl : s.heap.IsList l vs.toArray) (hS : StrsAre vs ws) (h64 : vs.length < 64)
    (h : ∀ h' ls svs ss e, Fr h₀ L h' m → News h₀ L h' ((ls, lst svs e) :: news) → s.heap.get? ls = none → (∀ p ∈ news, p.1 ≠ ls) → (∀ b o, s.heap.get? b = some o → h'.get? b = some o) → StrsAre svs ss → ss.Perm ws → Asc ss → Q (.ref ls) { s with heap := h' }) :
    wpAny (model prog w) A (call (.builtin "sorted") [.ref l]) Q E s := by
  refine sorted_strs hl hS h64 fun out ss' a1 a2 a3 => ?_
  obtain ⟨e, he⟩ := sortedAll_at s.heap vs out
  have hnone : s.heap.get? (s.heap.objs.size + 1) = none := Heap.get?_none_of_le (Nat.le_succ _)
  exact h _ (s.heap.objs.size + 1) out.toList ss' e (F.kept fun _ _ => sortedAll_old) (N.kept_cons F (fun _ _ => sortedAll_old) (Nat.le_succ _) he) hnone (fun p hp q => by rw [← q, (N p hp).1] at hnone; cases hnone) (fun _ _ => sortedAll_old) a1 a2 (sorted_asc _ a3)
end
end
-- A1
section
open PySem PySem.W PySem.Spec PySem.Calls PyProof.Rows
open PySem.Builtin PySem.Builtin.ObjectAttr PySem.Builtin.List
set_option maxRecDepth 100000
set_option maxHeartbeats 8000000
abbrev accO (dx : Addr) (vs : List Value) (n : Nat) : Obj := { cls := .ref 178, dict := some dx, data := .seq vs.toArray n }
/-- what the walk asks of a class whose instances are lists with a dict -/
structure LCls (K : Frag) (C : Addr) : Prop where
  ga : findIn K (.ref C) "__getattribute__" = some (some (.builtin "list.__getattribute__"))
  gh : findIn K (.ref C) "__getattr__" = some none
  sub : subIn K (.ref C) (.type "list") = some true
  has : hasDictIn K C = true
  sa : findIn K (.ref C) "__setattr__" = some (some (.builtin "object.__setattr__"))
  gi : findIn K (.ref C) "__getitem__" = some (some (.builtin "list.__getitem__"))
  si : findIn K (.ref C) "__setitem__" = some (some (.builtin "list.__setitem__"))
  it : findIn K (.ref C) "__iter__" = some (some (.builtin "list.__iter__"))
  ns : noSeq K C = true
  mro : (clsIn K C).map (·.mro) = some [.ref C, .type "list", .type "object"]
theorem refuse_list (self : Value) (C : Addr) : refuseLoop self "__setattr__" [.ref C, .type "list", .type "object"] = pure () := by
  rw [refuseLoop_ref]; kernel_rfl
section
variable {prog : Program} {w : World} {A : Around} {E : Value → Shared → Prop} {s : Shared} {K : Frag} {x C : Addr} {ox : Obj} {od : Obj} {name : Str} {expr : Bool}
theorem acc_method {pl : Sem Bool} {f t : Value} {Q : Value × List Value → Shared → Prop} (X : K.In s.heap) (H : LCls K C) (I : InstAt s.heap x ox C (some od))
    (hf : findIn K (.ref C) name = some (some f)) (ht : typeIn K f = some t) (hb : (t != .type "function" && t != .type "method_descriptor" && t != .type "wrapper_descriptor") = false) (hs : lookIn name od = some none) (h : Q (f, [.ref x]) s) :
    wpAny (model prog w) A (getMethod (.ref x) name pl) Q E s := by
  have hcan : (Manifest.canonical "list.__getattribute__" != "object.__getattribute__") = false := by decide +kernel
  unfold getMethod specialOf
  refine wpAny_bind (wpAny_bind (I.type.here ((looks_findIn X H.ga).here ?_)))
  dsimp only
  rw [hcan, if_neg (by decide)]
  refine wpAny_bind (wpAny_bind (I.type.here ((looks_findIn X H.gh).here ?_)))
  refine wpAny_bind (wpAny_bind (I.type.here ((looks_findIn X hf).here (wpAny_bind ((looks_typeIn X ht).here ?_)))))
  rw [hb, if_neg (by decide)]
  refine wpAny_bind (wpAny_loadPart I.at_ ?_)
  have hd := I.dict
  cases e : ox.dict with
  | none => exact wpAny_bind (wpAny_rule (wpAny_pure h))
  | some dx =>
    rw [e] at hd
    refine wpAny_bind (wpAny_bind (wpAny_loadPart hd ?_))
    rw [nsLook_of hs]
    refine wpAny_pure ?_
    exact wpAny_bind (wpAny_rule (wpAny_pure h))
theorem acc_is (X : K.In s.heap) (H : LCls K C) (I : InstAt s.heap x ox C (some od)) : Looks (model prog w) s.heap (isInstance (.ref x) (.type "list")) true := I.type.andThen (looks_subIn X H.sub)
theorem acc_get {v : Value} {Q : Value → Shared → Prop} (X : K.In s.heap) (H : LCls K C) (I : InstAt s.heap x ox C (some od)) (hc : findIn K (.ref C) name = some none) (hl : lookIn name od = some (some v)) (hv : handedIn v = true) (h : Q v { s with toks := s.toks + 1 }) :
    wpAny (model prog w) A (getAttr (.ref x) name expr) Q E s := by
  have L0 := I.type (M := model prog w)
  have L1 := looks_findIn (M := model prog w) X H.ga
  have LF := looks_find (M := model prog w) X I (findObj_own H.has hc rfl hl)
  unfold getAttr getAttrBy
  refine wpAny_bind (wpAny_mkText (wpAny_holding (wpAny_bind (L0 _ _ _ _ (fun _ _ e => e) (wpAny_bind (L1 _ _ _ _ (fun _ _ e => e) ?_))))))
  dsimp only
  rw [show (onTheHeap (Value.ref C) && Value.builtin "list.__getattribute__" == Value.builtin "object.__getattribute__") = false from by rw [show (Value.builtin "list.__getattribute__" == Value.builtin "object.__getattribute__") = false from by decide +kernel, Bool.and_false], if_neg (by decide)]
  refine wpAny_bind ((looks_hook X (r := none) (by rw [if_pos (show onTheHeap (Value.ref C) = true from rfl)]; exact H.gh)) _ _ _ _ (fun _ _ e => e) (wpAny_bind (wpAny_attempt (wpAny_holding ?_))))
  unfold callGetattribute
  rw [show (expr && onTheHeap (Value.builtin "list.__getattribute__")) = false from Bool.and_false _, if_neg (by decide)]
  unfold boundAndCalled
  rw [PySem.F.slot_list_getattribute.bind]
  refine wpAny_bind (wpAny_pure ?_)
  show wpAny _ _ (call (.builtin "list.__getattribute__") [.ref x, .str name s.toks]) _ _ _
  refine wpAny_call ?_
  refine codeAny_call_builtin PySem.F.slot_list_getattribute.plain PySem.F.entry_list_ga ?_
  refine @check_slot (model prog w) _ _ { s with toks := s.toks + 1 } "list.__getattribute__" "list" "__getattribute__" (.ref x) [.str name s.toks] [] _ (by decide +kernel) (by decide +kernel) (L0.andThen (looks_subIn X H.sub)) (PySem.F.args_list_getattribute_2 (.ref x) (.str name s.toks)) ?_
  unfold Builtin.«object.__getattribute__»
  refine wpAny_bind (wpAny_pure (wpAny_bind (wpAny_pure (wpAny_bind (L0 _ _ _ _ (fun _ _ e => e) (wpAny_bind (LF _ _ _ _ (fun _ _ e => e) ?_)))))))
  refine wpAny_pure ?_
  show wpAny _ _ (handedOut v) _ _ _
  rw [handedOut_of hv]; exact wpAny_pure h
theorem acc_check {i n : String} {rest : List Value} {Q : Unit → Shared → Prop} (X : K.In s.heap) (H : LCls K C) (I : InstAt s.heap x ox C (some od)) (hk : builtinKind i = some .slot ∨ builtinKind i = some .method) (hs : splitId i = some ("list", n)) (ha : argsOk i ⟨.ref x :: rest, []⟩) (q : Q () s) :
    wpAny (model prog w) A (checkBuiltinCall i ⟨.ref x :: rest, []⟩) Q E s := by
  rcases hk with hk | hk
  · exact check_slot hk hs (acc_is X H I) ha q
  · simp only [checkBuiltinCall, hk, hs]
    refine wpAny_bind ((acc_is X H I).here ?_)
    simp only [Bool.not_true, Bool.false_eq_true, if_false]
    cases hsig : Manifest.signature? i with
    | none => exact wpAny_pure q
    | some sig =>
      simp only [argsOk, hsig] at ha
      have h2 : Bind.checkArgs i sig ⟨.ref x :: rest, []⟩ = pure () := ha
      show wpAny _ A (Bind.checkArgs i sig ⟨.ref x :: rest, []⟩) Q E s
      rw [h2]; exact wpAny_pure q
/-- a list builtin called on the object -/
theorem acc_call {i n : String} {b : Builtin} {rest : List Value} {Q : Value → Shared → Prop} (X : K.In s.heap) (H : LCls K C) (I : InstAt s.heap x ox C (some od)) (hp : plainId i = true) (he : entryFor table i = some b) (hk : builtinKind i = some .slot ∨ builtinKind i = some .method) (hs : splitId i = some ("list", n)) (ha : argsOk i ⟨.ref x :: rest, []⟩)
    (h : wpAny (model prog w) A.in1 (b ⟨.ref x :: rest, []⟩) (fun fin s' => match fin with | .done (.ret v) => Q v s' | _ => False) E s) : wpAny (model prog w) A (call (.builtin i) (.ref x :: rest)) Q E s := by
  refine wpAny_call (codeAny_call_builtin hp he (acc_check X H I hk hs ha ?_))
  refine wpAny_mono h (fun fin s' z => ?_) fun _ _ z => z
  rcases fin with (_ | _ | _ | _) | _ <;> first | exact z | exact z.elim
end
section
variable {prog : Program} {w : World} {A : Around} {E : Value → Shared → Prop} {s : Shared} {K : Frag} {x dx : Addr} {es : List DictEntry} {k n : Nat} {vs : List Value} {name : Str} {expr : Bool} {h₀ : Heap} {L : Addr} {m : Str → Option Value} {news news' : List (Addr × Obj)}
theorem acc_inst (N : News h₀ L s.heap news) (h1 : (x, accO dx vs n) ∈ news) (h2 : (dx, dictOf es k) ∈ news) : InstAt s.heap x (accO dx vs n) 178 (some (dictOf es k)) := ⟨(N _ h1).1, rfl, rfl, (N _ h2).1⟩
theorem acc_update {f : Array Value → Array Value} {Q : Unit → Shared → Prop} {vs' : List Value} (F : Fr h₀ L s.heap m) (N : News h₀ L s.heap news) (U : Upd x (accO dx vs n) (accO dx vs' (if vs'.toArray.size == vs.toArray.size then n else n + 1)) news news') (hf : f vs.toArray = vs'.toArray) (hz : vs'.length ≤ sizeLine) (hz2 : vs.length ≤ sizeLine)
    (h : ∀ h', Fr h₀ L h' m → News h₀ L h' news' → Q () { s with heap := h' }) : wpAny (model prog w) A (updateSeq x f) Q E s := by
  obtain ⟨pre, post, rfl, rfl, a, b⟩ := U.split
  have z := N (x, accO dx vs n) (List.mem_append.mpr (.inr (.head _)))
  have e : Obj.mapSeq f (accO dx vs n) = accO dx vs' (if vs'.toArray.size == vs.toArray.size then n else n + 1) := by
    simp only [Obj.mapSeq, hf]
  obtain ⟨U1, U2⟩ := news_upd (f := Obj.mapSeq f) F N a b e rfl
  exact wpAny_updateSeq z.1 rfl (h _ U1 U2) (by simpa using hz2) (by rw [hf]; simp; omega)
theorem acc_append {v : Value} {Q : Value → Shared → Prop} (F : Fr h₀ L s.heap m) (X : K.In h₀) (H : LCls K 178) (N : News h₀ L s.heap news) (h1 : (x, accO dx vs n) ∈ news) (h2 : (dx, dictOf es k) ∈ news) (U : Upd x (accO dx vs n) (accO dx (vs ++ [v]) (n + 1)) news news') (hz : vs.length < sizeLine)
    (h : ∀ h', Fr h₀ L h' m → News h₀ L h' news' → Q .none { s with heap := h' }) : wpAny (model prog w) A (call (.builtin "list.append") [.ref x, v]) Q E s := by
  refine acc_call (n := "append") (X.keeps F.keep) H (acc_inst N h1 h2) PySem.F.slot_list_append.plain PySem.F.entry_list_append (.inr (by decide +kernel)) (by decide +kernel) (PySem.F.args_list_append_2 _ _) ?_
  refine wpAny_bind (wpAny_pure (wpAny_bind ?_))
  refine acc_update (vs := vs) (vs' := vs ++ [v]) F N (by simpa using U) (by simp) (by simp; omega) (by omega) fun h' F' N' => wpAny_pure (h h' F' N')
theorem accB_pop {v : Value} {Q : Value → Shared → Prop} (F : Fr h₀ L s.heap m) (N : News h₀ L s.heap news) (h1 : (x, accO dx (vs ++ [v]) n) ∈ news) (U : Upd x (accO dx (vs ++ [v]) n) (accO dx vs (n + 1)) news news') (hz : vs.length < 1000)
    (h : ∀ h', Fr h₀ L h' m → News h₀ L h' news' → Q v { s with heap := h' }) : wpAny (model prog w) A (Builtin.«list.pop» ⟨[.ref x], []⟩) (fun fin s' => match fin with | .done (.ret v) => Q v s' | _ => False) E s := by
  refine wpAny_bind (wpAny_pure (wpAny_bind (wpAny_pure ?_)))
  dsimp only
  rw [if_neg (by decide +kernel)]
  refine wpAny_bind (wpAny_listItems (N _ h1).1 rfl ?_)
  rw [if_neg (by simp)]
  have e : ((seqIndex? (-1) (vs ++ [v]).toArray.size).bind fun k => ((vs ++ [v]).toArray)[k]?.map (k, ·)) = some (vs.length, v) := by
    rw [show seqIndex? (-1) (vs ++ [v]).toArray.size = some vs.length from by simp [seqIndex?]; omega]
    simp
  rw [e]
  refine wpAny_bind ?_
  have sl : (1000 : Nat) ≤ sizeLine := by decide +kernel
  refine acc_update (vs := vs ++ [v]) (vs' := vs) F N (by simpa using U) (by simp [List.eraseIdx_append_of_length_le]) (by omega) (by simp; omega) fun h' F' N' => wpAny_pure (h h' F' N')
theorem accB_init {Q : Value → Shared → Prop} (F : Fr h₀ L s.heap m) (N : News h₀ L s.heap news) (h1 : (x, accO dx [] n) ∈ news) (U : Upd x (accO dx [] n) (accO dx [] n) news news')
    (h : ∀ h', Fr h₀ L h' m → News h₀ L h' news' → Q .none { s with heap := h' }) : wpAny (model prog w) A (Builtin.«list.__init__» ⟨[.ref x], []⟩) (fun fin s' => match fin with | .done (.ret v) => Q v s' | _ => False) E s := by
  unfold Builtin.«list.__init__»
  dsimp only
  rw [if_neg (by decide), if_neg (by decide)]
  refine wpAny_bind (wpAny_listItems (N _ h1).1 rfl ?_)
  refine wpAny_bind ?_
  refine acc_update (vs := []) (vs' := []) F N (by simpa using U) rfl (by decide) (by decide) fun h' F' N' => wpAny_bind (wpAny_letGo (wpAny_pure (h h' F' N')))
theorem accB_len {Q : Value → Shared → Prop} (F : Fr h₀ L s.heap m) (N : News h₀ L s.heap news) (h1 : (x, accO dx vs n) ∈ news)
    (h : ∀ t u, Q (.int vs.length t) { s with toks := u }) : wpAny (model prog w) A (Builtin.«list.__len__» ⟨[.ref x], []⟩) (fun fin s' => match fin with | .done (.ret v) => Q v s' | _ => False) E s := by
  show wpAny _ _ (do retInt (← seqSize x)) _ _ s
  unfold seqSize
  refine wpAny_bind (wpAny_bind (wpAny_loadPart (N _ h1).1 ?_))
  refine wpAny_pure (wpAny_bind ?_)
  refine wpAny_mkInt ?_
  refine wpAny_pure ?_
  simpa using h _ _
theorem acc_sliceParts {A : Around} {E : Value → Shared → Prop} {sl : Addr} {s : Shared} {vl vu vs : Value} {lo hi st : Option Int} {Q : Value × Value × Value → Shared → Prop}
    (hs : s.heap.IsSliceOf sl vl vu vs) (pl : IsPart vl lo) (pu : IsPart vu hi) (ps : IsPart vs st) (h0 : st ≠ some 0) (h : Q (rawPart lo, rawPart hi, rawPart st) s) : wpAny (model prog w) A (listSliceParts (.ref sl)) Q E s := by
  obtain ⟨os, hos, hcs, hds⟩ := id hs
  rw [listSliceParts_eq]
  have hstep : ¬ ((rawPart st == rawInt 0) = true) := by
    cases st with
    | none => exact Bool.false_ne_true
    | some c =>
      intro hh
      have : c = 0 := by simpa [rawPart, rawInt] using hh
      exact h0 (by rw [this])
  refine wpAny_bind (wpAny_field hos hds (x := vs) rfl (wpAny_bind (wpAny_listPart ps ?_)))
  rw [if_neg hstep]
  refine wpAny_bind (wpAny_field hos hds (x := vl) rfl (wpAny_bind (wpAny_listPart pl ?_)))
  exact wpAny_bind (wpAny_field hos hds (x := vu) rfl (wpAny_bind (wpAny_listPart pu (wpAny_pure h))))
theorem acc_noIndex {A : Around} {E : Value → Shared → Prop} {sl : Addr} {s : Shared} {vl vu vs : Value} {Q : Option Int → Shared → Prop} (hs : s.heap.IsSliceOf sl vl vu vs) (h : Q none s) : wpAny (model prog w) A (listSubscript? (.ref sl)) Q E s := by
  obtain ⟨os, hos, hcs, hds⟩ := id hs
  have hTs : s.TypeIs (.ref sl) "slice" := ⟨os, hos, hcs⟩
  unfold listSubscript?
  refine wpAny_bind (wpAny_specialOf hTs slice_no_index ?_)
  simp only [Option.isNone_none, if_true]
  exact wpAny_pure h
theorem acc_key {name : Str} {v : Value} {Q : Value → Shared → Prop} {C : Addr} {ox od : Obj} (X : K.In s.heap) (H : LCls K C) (I : InstAt s.heap x ox C (some od)) (h : Q v s) : wpAny (model prog w) A (sequenceKey (.ref x) v name) Q E s := by
  unfold sequenceKey
  refine wpAny_bind (I.type.here ?_)
  refine wpAny_bind ((anyM_none X H.ns).here ?_)
  rw [if_pos (show (!false) = true from rfl)]
  exact wpAny_pure h
theorem acc_item {i : Int} {t : Tok} {v : Value} {Q : Value → Shared → Prop} (F : Fr h₀ L s.heap m) (X₀ : K.In h₀) (H : LCls K 178) (N : News h₀ L s.heap news) (h1 : (x, accO dx vs n) ∈ news) (h2 : (dx, dictOf es k) ∈ news) (hi0 : 0 ≤ i) (hv : vs[i.toNat]? = some v) (hi : i < 1000)
    (h : Q v s) : wpAny (model prog w) A (getItem (.ref x) (.int i t)) Q E s := by
  have X := X₀.keeps F.keep
  have I := acc_inst N h1 h2
  unfold getItem
  refine wpAny_holding (wpAny_bind (acc_key X H I (wpAny_bind (kfo_special X I H.gi PySem.F.slot_list_getitem.bind ?_))))
  refine acc_call (n := "__getitem__") X H I PySem.F.slot_list_getitem.plain PySem.F.entry_list_getitem (by first | exact .inl (by decide +kernel) | exact .inr (by decide +kernel)) (by decide +kernel) (PySem.F.args_list_getitem_2 _ _) ?_
  show wpAny _ _ (listSubscript? (.int i t) >>= _) _ _ s
  refine wpAny_bind (wpAny_listSubscript_int (fitsIndex_of (by omega) (by omega)) ?_)
  clear hi
  obtain ⟨j, rfl⟩ := Int.eq_ofNat_of_zero_le hi0
  show wpAny _ _ ((seqItemAt x j >>= fun r => pure (r.map (j, ·))) >>= _) _ _ s
  refine wpAny_bind (wpAny_bind (wpAny_seqItemAt (N _ h1).1 rfl (wpAny_pure ?_)))
  rw [show (vs.toArray)[j]? = some v from by simpa using hv]
  exact wpAny_pure (wpAny_pure h)
theorem acc_getSlice {sl : Addr} {vl vu vst : Value} {lo hi st : Option Int} {Q : Value → Shared → Prop} (F : Fr h₀ L s.heap m) (X₀ : K.In h₀) (H : LCls K 178) (N : News h₀ L s.heap news) (h1 : (x, accO dx vs n) ∈ news) (h2 : (dx, dictOf es k) ∈ news)
    (hs : s.heap.IsSliceOf sl vl vu vst) (pl : IsPart vl lo) (pu : IsPart vu hi) (ps : IsPart vst st) (h0 : st ≠ some 0) (hz : vs.length ≤ sizeLine)
    (h : ∀ l h', Fr h₀ L h' m → News h₀ L h' ((l, listOf (slicePick vs.toArray lo hi st) 0) :: news) → (∀ p ∈ news, p.1 < l) → Q (.ref l) { s with heap := h' }) : wpAny (model prog w) A (getItem (.ref x) (.ref sl)) Q E s := by
  have X := X₀.keeps F.keep
  have I := acc_inst N h1 h2
  have hTs : s.TypeIs (.ref sl) "slice" := by obtain ⟨os, hos, hcs, hds⟩ := id hs; exact ⟨os, hos, hcs⟩
  unfold getItem
  refine wpAny_holding (wpAny_bind (acc_key X H I (wpAny_bind (kfo_special X I H.gi PySem.F.slot_list_getitem.bind ?_))))
  refine acc_call (n := "__getitem__") X H I PySem.F.slot_list_getitem.plain PySem.F.entry_list_getitem (by first | exact .inl (by decide +kernel) | exact .inr (by decide +kernel)) (by decide +kernel) (PySem.F.args_list_getitem_2 _ _) ?_
  show wpAny _ _ (listSubscript? (.ref sl) >>= _) _ _ s
  refine wpAny_bind (acc_noIndex hs ?_)
  show wpAny _ _ (typeOf (.ref sl) >>= _) _ _ s
  refine wpAny_bind (wpAny_typeOf hTs ?_)
  rw [if_neg (by decide)]
  refine wpAny_bind (acc_sliceParts hs pl pu ps h0 ?_)
  refine wpAny_bind (wpAny_listItems (N _ h1).1 rfl ?_)
  refine wpAny_bind (wpAny_of_eq (sliceIndices_raw lo hi st vs.toArray.size h0) ?_)
  refine wpAny_bind (wpAny_newObj_type (wpAny_pure ?_) (Nat.le_trans (slicePick_size_le vs.toArray lo hi st) (by simpa using hz)))
  exact wpAny_pure (h _ _ (F.push _) (N.push F _) fun p hp => Heap.lt_size (N p hp).1)
theorem acc_setSlice {sl l : Addr} {vl : Value} {lo : Option Int} {ws vs' : List Value} {nw : Nat} {Q : Unit → Shared → Prop} (F : Fr h₀ L s.heap m) (X₀ : K.In h₀) (H : LCls K 178) (N : News h₀ L s.heap news) (h1 : (x, accO dx vs n) ∈ news) (h2 : (dx, dictOf es k) ∈ news)
    (hs : s.heap.IsSliceOf sl vl .none .none) (pl : IsPart vl lo) (hl : s.heap.get? l = some (lst ws nw)) (hne : x ≠ l) (hz : vs.length + ws.length ≤ 1000)
    (e : (vs.toArray.extract 0 (sliceBounds lo none none vs.length).1.toNat ++ ws.toArray ++ vs.toArray.extract (max (sliceBounds lo none none vs.length).1 (sliceBounds lo none none vs.length).2.1).toNat vs.toArray.size) = vs'.toArray) (hz' : vs'.length ≤ 1000)
    (U : Upd x (accO dx vs n) (accO dx vs' (if vs'.toArray.size == vs.toArray.size then n else n + 1)) news news')
    (h : ∀ h', Fr h₀ L h' m → News h₀ L h' news' → Q () { s with heap := h' }) : wpAny (model prog w) A (setItem (.ref x) (.ref sl) (.ref l)) Q E s := by
  have X := X₀.keeps F.keep
  have I := acc_inst N h1 h2
  have sl1 : (1000 : Nat) ≤ sizeLine := by decide +kernel
  have hTs : s.TypeIs (.ref sl) "slice" := by obtain ⟨os, hos, hcs, hds⟩ := id hs; exact ⟨os, hos, hcs⟩
  have hTl : s.TypeIs (.ref l) "list" := ⟨_, hl, rfl⟩
  unfold setItem
  refine wpAny_holding (wpAny_bind (acc_key X H I (wpAny_bind (kfo_special X I H.si PySem.F.slot_list_setitem.bind ?_))))
  refine acc_call (n := "__setitem__") X H I PySem.F.slot_list_setitem.plain PySem.F.entry_list_setitem (by first | exact .inl (by decide +kernel) | exact .inr (by decide +kernel)) (by decide +kernel) (PySem.F.args_list_setitem_3 _ _ _) ?_
  show wpAny _ _ (listSubscript? (.ref sl) >>= _) _ _ s
  refine wpAny_bind (acc_noIndex hs ?_)
  show wpAny _ _ (typeOf (.ref sl) >>= _) _ _ s
  refine wpAny_bind (wpAny_typeOf hTs ?_)
  rw [if_neg (by decide)]
  refine wpAny_bind (acc_sliceParts hs pl .none .none (by decide) ?_)
  dsimp only
  rw [show listSameRef (.ref x) (.ref l) = false from by simpa [listSameRef] using hne, if_neg (by decide)]
  refine wpAny_bind ?_
  unfold listAllItems
  refine wpAny_bind (wpAny_typeOf hTl ?_)
  rw [if_pos (by decide)]
  refine wpAny_listItems hl rfl ?_
  refine wpAny_bind (wpAny_listItems (N _ h1).1 rfl ?_)
  refine wpAny_bind (wpAny_of_eq (sliceIndices_raw lo none none vs.toArray.size (by decide)) ?_)
  dsimp only
  rw [if_pos (by simp [sliceBounds])]
  refine wpAny_bind (wpAny_rule ?_)
  rw [if_neg (by simp [listTooLong]; omega)]
  refine wpAny_bind ?_
  refine acc_update (vs := vs) (vs' := vs') F N U (by simpa using e) (by omega) (by omega) fun h' F' N' => wpAny_bind (wpAny_letGo (wpAny_pure (wpAny_pure (h h' F' N'))))
end
end
-- A2
section
open PySem PySem.W PySem.Spec PySem.Calls PyProof.Rows
open PySem.Builtin PySem.Builtin.ObjectAttr PySem.Builtin.List
set_option maxRecDepth 100000
set_option maxHeartbeats 8000000
section
variable {prog : Program} {w : World} {A : Around} {E : Value → Shared → Prop} {s : Shared} {K : Frag} {x dx : Addr} {es es' : List DictEntry} {k k' n : Nat} {vs : List Value} {name : Str} {v : Value} {expr : Bool} {h₀ : Heap} {L : Addr} {m : Str → Option Value} {news news' : List (Addr × Obj)}
theorem acc_set {Q : Unit → Shared → Prop} (F : Fr h₀ L s.heap m) (X₀ : K.In h₀) (H : LCls K 178) (N : News h₀ L s.heap news) (h1 : (x, accO dx vs n) ∈ news) (h2 : (dx, dictOf es k) ∈ news) (hc : findIn K (.ref 178) name = some none) (hl : (getL name es).isSome = true)
    (e : (putL name (PyData.keyHash w.params name) (.str name (s.toks + 1)) v es, putN name es k) = (es', k')) (U : Upd dx (dictOf es k) (dictOf es' k') news news') (hz : es'.length ≤ 1000)
    (h : ∀ h', Fr h₀ L h' m → News h₀ L h' news' → Q () { s with heap := h', toks := s.toks + 2 }) :
    wpAny (model prog w) A (setAttr (.ref x) name v) Q E s := by
  have X := X₀.keeps F.keep
  have I := acc_inst N h1 h2
  obtain ⟨pre, post, rfl, rfl, a, b⟩ := U.split
  obtain ⟨e1, e2⟩ := Prod.mk.inj e
  have SF := PySem.F.store_object
  obtain ⟨cd, hcd, ho⟩ := Option.map_eq_some_iff.mp H.mro
  have sub : Looks (model prog w) s.heap (isInstance (.ref x) (.type "object")) true := I.type.andThen (looks_mroIn X (by unfold mroIn; rw [hcd, Option.bind_some, ho]; rfl))
  obtain ⟨cd', hcd', hd'⟩ := any_some H.has
  have hcc : cd' = cd := by rw [hcd] at hcd'; exact (Option.some.inj hcd').symm
  subst hcc
  refine set_plain X I H.sa ?_
  refine codeAny_call_builtin SF.slot.plain SF.entry (@check_slot (model prog w) _ _ { s with toks := s.toks + 1 } "object.__setattr__" "object" "__setattr__" (.ref x) [.str name s.toks, v] [] _ SF.kind SF.split sub (SF.args (.ref x) (.str name s.toks) v) ?_)
  have hm : Looks (model prog w) s.heap (mroOf (.ref 178)) cd'.mro := (looks_clsIn X hcd).andThen .now
  have L3 : Looks (model prog w) s.heap (storeTaker? none) none := .now
  rw [osa_eq, refuse_eq]
  refine wpAny_bind (wpAny_bind (I.type _ _ _ _ (fun _ _ e => e) (wpAny_bind (hm _ _ _ _ (fun _ _ e => e) ?_))))
  rw [ho, refuse_list]
  refine wpAny_pure (wpAny_bind (I.type _ _ _ _ (fun _ _ e => e) (wpAny_bind ((looks_findIn X hc) _ _ _ _ (fun _ _ e => e) (wpAny_bind (L3 _ _ _ _ (fun _ _ e => e) ?_))))))
  obtain ⟨U1, U2⟩ := news_upd (f := Obj.putName name (PyData.keyHash w.params name) (.str name (s.toks + 1)) v) F N a b (by rw [putName_dict, e1, e2]) rfl
  have D := (N (dx, dictOf es k) (by simp)).1
  have D' := (U2 (dx, dictOf es' k') (by simp)).1
  have hx := (N _ h1).1
  refine wpAny_bind (wpAny_pure (wpAny_bind (wpAny_bind (wpAny_loadPart hx (wpAny_bind ((looks_clsIn X hcd) _ _ _ _ (fun _ _ e => e) ?_))))))
  rw [hd']
  refine wpAny_pure (a := some dx) (wpAny_bind (wpAny_pure (wpAny_bind ?_)))
  unfold nsSet
  refine wpAny_bind (wpAny_bind (wpAny_askSetting (wpAny_pure (wpAny_bind (wpAny_mkText (wpAny_bind (wpAny_loadPart D ?_)))))))
  dsimp only
  have c : (!es.toArray.any (·.key.isStr name) && es.toArray.any (·.refKey)) = false := by
    rw [← Array.any_toList, ← Array.any_toList]
    unfold getL at hl
    split at hl
    · rename_i en he
      rw [List.any_eq_true.mpr ⟨en, List.mem_of_find?_eq_some he, List.find?_some he⟩]; rfl
    · split at hl
      · cases hl
      · rename_i z; rw [Bool.not_eq_true] at z; rw [z, Bool.and_false]
  rw [aRefKeyMayBeTheName_at, c]
  refine wpAny_updatePart D ?_
  refine wpAny_bind (wpAny_lookBehind D' (pastItsLine_dict (by rw [List.size_toArray, sizeLine_eq]; omega)) ?_)
  exact wpAny_pure (h _ U1 U2)
theorem acc_methodF {pl : Sem Bool} {f t : Value} {Q : Value × List Value → Shared → Prop} (F : Fr h₀ L s.heap m) (X₀ : K.In h₀) (H : LCls K 178) (N : News h₀ L s.heap news) (h1 : (x, accO dx vs n) ∈ news) (h2 : (dx, dictOf es k) ∈ news)
    (hf : findIn K (.ref 178) name = some (some f)) (ht : typeIn K f = some t) (hb : (t != .type "function" && t != .type "method_descriptor" && t != .type "wrapper_descriptor") = false) (hs : getL name es = some none) (h : Q (f, [.ref x]) s) :
    wpAny (model prog w) A (getMethod (.ref x) name pl) Q E s := acc_method (X₀.keeps F.keep) H (acc_inst N h1 h2) hf ht hb hs h
theorem acc_getF {Q : Value → Shared → Prop} (F : Fr h₀ L s.heap m) (X₀ : K.In h₀) (H : LCls K 178) (N : News h₀ L s.heap news) (h1 : (x, accO dx vs n) ∈ news) (h2 : (dx, dictOf es k) ∈ news) (hc : findIn K (.ref 178) name = some none) (hl : getL name es = some (some v)) (hv : handedIn v = true)
    (h : Q v { s with toks := s.toks + 1 }) : wpAny (model prog w) A (getAttr (.ref x) name expr) Q E s := acc_get (X₀.keeps F.keep) H (acc_inst N h1 h2) hc hl hv h
theorem acc_iter {Q : Value → Shared → Prop} (F : Fr h₀ L s.heap m) (X₀ : K.In h₀) (H : LCls K 178) (N : News h₀ L s.heap news) (h1 : (x, accO dx vs n) ∈ news) (h2 : (dx, dictOf es k) ∈ news)
    (h : Q (.ref s.heap.objs.size) { s with heap := s.heap.push { cls := .type "list_iterator", data := .fields #[.ref x, .int 0 0] } }) : wpAny (model prog w) A (pyIter (.ref x)) Q E s := by
  have X := X₀.keeps F.keep
  have I := acc_inst N h1 h2
  have fin : wpAny (model prog w) A (call (.builtin "list.__iter__") [.ref x] >>= fun v => pure (some v)) (fun r s' => ∃ v, r = some v ∧ v = .ref s.heap.objs.size ∧ s' = { s with heap := s.heap.push { cls := .type "list_iterator", data := .fields #[.ref x, .int 0 0] } }) E s := by
    refine wpAny_bind (acc_call (n := "__iter__") X H I PySem.F.slot_list_iter.plain PySem.F.entry_list_iter (.inl (by decide +kernel)) (by decide +kernel) (PySem.F.args_list_iter_1 _) ?_)
    show wpAny _ _ (do ret (← newFields "list_iterator" [.ref x, rawInt 0])) _ _ s
    exact wpAny_bind (wpAny_newObj_type (wpAny_pure (wpAny_pure ⟨_, rfl, rfl, rfl⟩)))
  have one : ∀ refuse : Sem Value, wpAny (model prog w) A (callSpecialIfBoundUnlessNone? (.ref x) "__iter__" refuse) (fun r s' => ∃ v, r = some v ∧ v = .ref s.heap.objs.size ∧ s' = { s with heap := s.heap.push { cls := .type "list_iterator", data := .fields #[.ref x, .int 0 0] } }) E s := by
    intro refuse
    simp only [callSpecialIfBoundUnlessNone?, bindSpecialIfBound?]
    refine wpAny_holding (wpAny_bind (wpAny_bind (wpAny_bind (I.type.here ((looks_findIn X H.it).here ?_)))))
    refine wpAny_bind (wpAny_askSetting (wpAny_ite ?_))
    have fin2 : wpAny (model prog w) A (if (Value.builtin "list.__iter__" == Value.none) = true then (refuse >>= fun v => pure (some v)) else (call (.builtin "list.__iter__") [.ref x] >>= fun v => pure (some v))) (fun r s' => ∃ v, r = some v ∧ v = .ref s.heap.objs.size ∧ s' = { s with heap := s.heap.push { cls := .type "list_iterator", data := .fields #[.ref x, .int 0 0] } }) E s := by
      rw [if_neg (show ¬ ((Value.builtin "list.__iter__" == Value.none) = true) from Bool.false_ne_true)]
      exact fin
    rw [PySem.F.slot_list_iter.bind]
    split
    · exact wpAny_bind (wpAny_pure (wpAny_pure (by exact fin2)))
    · exact wpAny_tryCatch (wpAny_bind (wpAny_pure (wpAny_pure (by exact fin2))))
  unfold pyIter specialOf
  refine wpAny_bind (wpAny_bind (I.type.here ((looks_findIn X H.it).here ?_)))
  show wpAny _ A (callSpecialIfBoundUnlessNone? (.ref x) "__iter__" _ >>= _) Q E s
  refine wpAny_bind (wpAny_mono (one _) (fun r s' z => ?_) fun _ _ z => z)
  obtain ⟨v, rfl, rfl, rfl⟩ := z
  exact wpAny_bind (wpAny_specialOf (T := "list_iterator") ⟨_, Heap.get?_push_size _ rfl, rfl⟩ slot_listiter_next.lookup (wpAny_pure h))
/-- items of a sequence object, whatever its class -/
def IsSeq (h : Heap) (a : Addr) (items : Array Value) : Prop := ∃ o, h.get? a = some o ∧ ∃ n, o.data = .seq items n
theorem IsSeq.keeps {h h' : Heap} {a : Addr} {items : Array Value} (x : IsSeq h a items) (e : ∀ o, h.get? a = some o → h'.get? a = some o) : IsSeq h' a items := let ⟨o, ho, r⟩ := x; ⟨o, e o ho, r⟩
theorem seqNext_item {it l : Addr} {i : Nat} {items : Array Value} {x : Value} {Q : Option Value → Shared → Prop} (hit : s.heap.IsListIter it l i)
    (hl : IsSeq s.heap l items) (hx : items[i]? = some x)
    (hQ : ∀ h', h'.IsListIter it l (i + 1) → Heap.SameBut it s.heap h' → Q (some x) { s with heap := h' }) :
    wpAny (model prog w) A (pyNext (.ref it)) Q E s := by
  obtain ⟨o, ho, hc, hd⟩ := id hit
  obtain ⟨ol, hol, nl, hdl⟩ := hl
  unfold pyNext
  refine wpAny_bind (wpAny_attempt (wpAny_callSpecial?_slot (name := Str.ofString "__next__") hit.typeIs slot_listiter_next
    (wpAny_call_entry slot_listiter_next hit.typeIs entry_listiter_next ?_ (args_listiter_next _))))
  show wpAny _ _ (field (.ref it) 0 >>= _) _ _ s
  refine wpAny_bind (wpAny_field ho hd (x := .ref l) rfl ?_)
  show wpAny _ _ (if (Value.ref l == Value.none) = true then _ else _) _ _ s
  rw [if_neg (show ¬ ((Value.ref l == Value.none) = true) from Bool.false_ne_true)]
  show wpAny _ _ (field (.ref it) 1 >>= _) _ _ s
  refine wpAny_bind (wpAny_field ho hd (x := .int i 0) rfl ?_)
  show wpAny _ _ (seqItems? (.ref l) >>= _) _ _ s
  refine wpAny_bind (wpAny_seqItems hol hdl ?_)
  simp only [Int.toNat_natCast, hx]
  refine wpAny_bind (wpAny_setField ho hd (by simp) (wpAny_pure ⟨x, rfl, wpAny_pure (hQ _ ?_ (Heap.SameBut.update ..))⟩))
  exact ⟨_, Heap.get?_update_self _ ho (Obj.isFreed_of_fields (Obj.data_mapFields hd _)), (Obj.cls_mapFields ..).trans hc, by
    rw [Obj.data_mapFields hd]; simp [rawInt]⟩
theorem seqNext_end {it l : Addr} {i : Nat} {items : Array Value} {Q : Option Value → Shared → Prop} (hh : A.handled = none)
    (hit : s.heap.IsListIter it l i) (hl : IsSeq s.heap l items) (hx : items[i]? = none)
    (hQ : ∀ h', Heap.ExtBut it s.heap h' → Q none { s with heap := h' }) : wpAny (model prog w) A (pyNext (.ref it)) Q E s := by
  obtain ⟨o, ho, hc, hd⟩ := id hit
  obtain ⟨ol, hol, nl, hdl⟩ := hl
  unfold pyNext
  refine wpAny_bind (wpAny_attempt (wpAny_callSpecial?_slot (name := Str.ofString "__next__") hit.typeIs slot_listiter_next
    (wpAny_call_entry slot_listiter_next hit.typeIs entry_listiter_next ?_ (args_listiter_next _))))
  show wpAny _ _ (field (.ref it) 0 >>= _) _ _ s
  refine wpAny_bind (wpAny_field ho hd (x := .ref l) rfl ?_)
  show wpAny _ _ (if (Value.ref l == Value.none) = true then _ else _) _ _ s
  rw [if_neg (show ¬ ((Value.ref l == Value.none) = true) from Bool.false_ne_true)]
  show wpAny _ _ (field (.ref it) 1 >>= _) _ _ s
  refine wpAny_bind (wpAny_field ho hd (x := .int i 0) rfl ?_)
  show wpAny _ _ (seqItems? (.ref l) >>= _) _ _ s
  refine wpAny_bind (wpAny_seqItems hol hdl ?_)
  simp only [Int.toNat_natCast, hx]
  refine wpAny_bind (wpAny_rule (wpAny_bind (wpAny_setField ho hd (by simp) ?_)))
  show wpAny _ _ (newExc (.type "StopIteration") [] >>= _) _ _ _
  refine wpAny_bind ?_
  simp only [newExc, newTuple]
  refine wpAny_bind (wpAny_newObj_type ?_ (by size_fits))
  refine wpAny_bind (m := firstArgMember _ _) (wpAny_of_eq (a := Value.none) (by first | rfl | (simp only [firstArgMember]; rfl)) ?_)
  refine wpAny_newObj_type ?_ (by size_fits)
  simp only [raiseNew]
  refine wpAny_bind (wpAny_handled ?_)
  rw [show A.in1.handled = none from hh]
  refine wpAny_bind (wpAny_pure (wpAny_throw ?_))
  refine wpAny_bind (wpAny_isInstance (T := "StopIteration") (b := true) ⟨_, Heap.get?_push_size _ rfl, rfl⟩ isSubtype_stop ?_)
  exact wpAny_pure (hQ _ (((Heap.SameBut.update ..).extBut.push _).push _))
end
theorem walksAcc {prog : Program} {w : World} {A : Around} (hh : A.handled = none) (I ax : Addr) (hne : ax ≠ I) (items : Array Value) (Ts : Nat → Addr) (vals : Nat → Array Value)
    (hit : ∀ j, j < items.size → items[j]? = some (.ref (Ts j))) (hTI : ∀ j, j < items.size → Ts j ≠ I) :
    WalksU prog w A I (I :: ax :: (List.range items.size).map Ts) [I] items.size (fun j v => v = vals j)
      (fun j h => h.IsListIter I ax j ∧ IsSeq h ax items ∧ ∀ k, k < items.size → h.IsTuple (Ts k) (vals k))
      (fun j T h => (j < items.size ∧ T = Ts j) ∧ h.IsListIter I ax (j + 1) ∧ IsSeq h ax items ∧ ∀ k, k < items.size → h.IsTuple (Ts k) (vals k)) where
  sub := fun b hb => by simp at hb; simp [hb]
  frame := fun _ _ _ st hk => ⟨st.1.at fun o e => hk I (by simp) o e, st.2.1.keeps fun o e => hk ax (by simp) o e,
    fun k hk' => (st.2.2 k hk').at fun o e => hk (Ts k) (List.mem_cons_of_mem _ (List.mem_cons_of_mem _ (List.mem_map.mpr ⟨k, List.mem_range.mpr hk', rfl⟩))) o e⟩
  item := fun i s Q E hi st hQ => by
    refine seqNext_item st.1 st.2.1 (x := .ref (Ts i)) (hit i hi) fun h' hit' hs' => ?_
    have tup : ∀ k, k < items.size → h'.IsTuple (Ts k) (vals k) := fun k hk' => (st.2.2 k hk').extBut hs'.extBut (hTI k hk')
    exact hQ (Ts i) (vals i) h' s.toks rfl (tup i hi) ⟨⟨hi, rfl⟩, hit', st.2.1.keeps (fun o e => hs'.extBut _ o hne e), tup⟩ fun b o hb e => hs'.extBut b o (fun h => hb (by simp [h])) e
  go := fun _ _ _ _ _ s Q _ hm hQ => wpAny_letOwnedTupleGo_listiter hm.2.1 (hQ s.heap hm.2 fun _ _ _ e => e)
  apart := fun j T _ hm hmem => by
    rcases List.mem_cons.mp hmem with e | e
    · exact hTI j hm.1.1 (hm.1.2 ▸ e)
    · cases e
  done := fun s Q E st hQ => seqNext_end hh st.1 st.2.1 (by simp) fun h' he' => hQ h' s.toks fun b o hb e => he' b o (fun h => hb (by simp [h])) e
  self := fun _ _ _ _ st hQ => wpAny_pyIter_listiter st.1 hQ
theorem lcls {w : World} : LCls (KK w.params) 178 where
  ga := by k_is
  gh := by k_is
  sub := by k_is
  has := by k_is
  sa := by k_is
  gi := by k_is
  si := by k_is
  it := by k_is
  ns := by k_is
  mro := by kernel_rfl
end
section
open PySem PySem.W PySem.Spec PySem.Calls PyProof.Rows
local macro_rules | `(tactic| k_inst) => `(tactic| (refine' acc_inst ?N ?h1 ?h2; (case N => k_asm); (case h1 => k_mem); (case h2 => k_mem)))
local macro_rules | `(tactic| walk_at "getMethod ref") => `(tactic| k_dflt (refine' acc_methodF ?F ?X lcls ?N ?m1 ?m2 ?hf ?ht ?hb ?hs ?_; (case F => k_asm); (case X => first | assumption | k_asm); (case N => k_asm); (case m1 => k_mem); (case m2 => k_mem); (case hf => k_is); (case ht => k_is); (case hb => decide +kernel); (case hs => k_get)))
local macro_rules | `(tactic| walk_at "getAttr ref") => `(tactic| k_dflt (refine' acc_getF ?F ?X lcls ?N ?m1 ?m2 ?hc ?hl ?hv ?_; (case F => k_asm); (case X => first | assumption | k_asm); (case N => k_asm); (case m1 => k_mem); (case m2 => k_mem); (case hc => k_is); (case hl => k_get); (case hv => exact rfl)))
-- A3
section
open PySem PySem.W PySem.Spec PySem.Calls PyProof.Rows
set_option maxRecDepth 100000
set_option maxHeartbeats 8000000
theorem accNe {h₀ h : Heap} {L x dx : Addr} {vs : List Value} {n k : Nat} {es : List DictEntry} {news : List (Addr × Obj)} (N : News h₀ L h news) (h1 : (x, accO dx vs n) ∈ news) (h2 : (dx, dictOf es k) ∈ news) : @Ne Nat x dx := fun e => by
  have a := (N _ h1).1
  have b := (N _ h2).1
  subst e
  rw [a] at b
  cases b
theorem extOut {s s' : Shared} {g h' h₀ : Heap} {L L' : Addr} {m' : Str → Option Value} {news news' : List (Addr × Obj)} {as : List Addr} (Kg : ∀ b o, s.heap.get? b = some o → b ∉ news.map (·.1) → g.get? b = some o) (F' : Fr g L' h' m') (N : News h₀ L s.heap news) (N' : News g L' h' news')
    (sub : ∀ p ∈ news, p.1 ∈ as ∨ p ∈ news') (eh : s'.heap = h') (og : OG s s'.os s'.gens) : ExtBut as s s' := by
  refine ⟨fun b o hb e => ?_, og.1, og.2⟩
  rw [eh]
  by_cases hm : b ∈ news.map (·.1)
  · obtain ⟨p, hp, rfl⟩ := List.mem_map.mp hm
    have z := (N p hp).1
    rw [z] at e
    cases e
    rcases sub p hp with h | h
    · exact absurd h hb
    · exact (N' p h).1
  · exact F'.keep _ _ (Kg b o e hm)
theorem newOut {s : Shared} {g : Heap} {t : Addr} {news : List (Addr × Obj)} (Kg : ∀ b o, s.heap.get? b = some o → b ∉ news.map (·.1) → g.get? b = some o) (hg : g.get? t = none) (hn : ∀ p ∈ news, p.1 < t) : s.heap.get? t = none := by
  cases e : s.heap.get? t with
  | none => rfl
  | some o =>
    refine absurd (Kg t o e fun hm => ?_) (by rw [hg]; exact fun h => nomatch h)
    obtain ⟨p, hp, he⟩ := List.mem_map.mp hm
    have := hn p hp
    rw [he] at this
    exact Nat.lt_irrefl _ this
theorem ExtBut.ext {s s' : Shared} (x : ExtBut [] s s') : Ext s s' := ⟨fun b o e => x.heap b o (fun h => nomatch h) e, x.os, x.gens⟩
theorem OG.stepB {as : List Addr} {s s₁ s₂ : Shared} (og : OG s s₁.os s₁.gens) (x : ExtBut as s₁ s₂) : OG s s₂.os s₂.gens := ⟨x.os.trans og.1, fun g => x.gens (og.2 g)⟩
theorem callF {h₀ : Heap} {L : Addr} {m : Str → Option Value} {s s' : Shared} {as : List Addr} (F : Fr h₀ L s.heap m) (x : ExtBut as s s') (hL : L ∉ as) (ha : ∀ a ∈ as, h₀.get? a = none) : Fr h₀ L s'.heap m := by
  obtain ⟨oL, es, ep, hl, r⟩ := F.ns
  refine ⟨⟨oL, es, ep, x.heap _ _ hL hl, r⟩, fun b o e => x.heap b o (fun hb => ?_) (F.keep b o e), F.above⟩
  rw [ha b hb] at e
  cases e
abbrev Ent (h₀ : Heap) (L : Addr) (h : Heap) (p : Addr × Obj) : Prop := h.get? p.1 = some p.2 ∧ p.1 ≠ L ∧ h₀.get? p.1 = none
theorem entK {h₀ : Heap} {L : Addr} {s s' : Shared} {as : List Addr} {news : List (Addr × Obj)} {p : Addr × Obj} (N : News h₀ L s.heap news) (x : ExtBut as s s') (hm : p ∈ news) (hn : p.1 ∉ as) : Ent h₀ L s'.heap p := ⟨x.heap _ _ hn (N p hm).1, (N p hm).2⟩
theorem entC {h₀ h' : Heap} {L a : Addr} {s : Shared} {news : List (Addr × Obj)} {o o' : Obj} (N : News h₀ L s.heap news) (hm : (a, o) ∈ news) (hx : h'.get? a = some o') : Ent h₀ L h' (a, o') := ⟨hx, (N _ hm).2⟩
theorem entF {h₀ h' : Heap} {L t : Addr} {m : Str → Option Value} {s : Shared} {o : Obj} (F : Fr h₀ L s.heap m) (hn : s.heap.get? t = none) (ht : h'.get? t = some o) : Ent h₀ L h' (t, o) := by
  refine ⟨ht, fun e => ?_, ?_⟩
  · obtain ⟨oL, es, ep, hl, r⟩ := F.ns
    rw [show t = L from e, hl] at hn
    cases hn
  · cases e : h₀.get? t with
    | none => rfl
    | some o => rw [F.keep _ _ e] at hn; cases hn
theorem allC {α : Type} {P : α → Prop} {a : α} {l : List α} (h : P a) (r : ∀ x ∈ l, P x) : ∀ x ∈ a :: l, P x := fun x hx => by
  rcases List.mem_cons.mp hx with rfl | hx
  · exact h
  · exact r x hx
theorem allN {α : Type} {P : α → Prop} : ∀ x ∈ ([] : List α), P x := fun _ h => nomatch h
theorem push_spec {w : World} {mg mb : Str → Option Value} {x dx : Addr} {vs : List Value} {n k : Nat} {hh : Int} {kt t0 : Tok} {fv sv : Value}
  {dp un : Nat} {gd : Option (List Code)} {cn : Str} {cs : Scope} {a : Addr} {ccd : Value} {cl : List (Str × Addr)} {outer : List Env} {A₀ : Around} {base h₀ : Heap} {L : Addr} {m : Str → Option Value} {s : Shared} {Q E : Value → Shared → Prop} (B : Below A₀ base outer h₀) (F : Fr h₀ L s.heap m) (X : (KK w.params).In h₀) (N : News h₀ L s.heap [(x, accO dx vs n), (dx, dictOf [⟨hh, .str (Str.ofString "_initial_size") kt, .int 0 t0⟩] k)]) (T : TopRead VV LL mg mb h₀) (hk : cs.kind = .function) (hdp : dp + 3 < recursionLimit) (hun : un + 40 < cLine) (hz : vs.length < 1000)
  (ret : ∀ t s', ExtBut [x] s s' → s'.heap.get? x = some (accO dx (vs ++ [.ref t]) (n + 1)) → s'.heap.get? t = some (tup [fv, sv] 0) → s.heap.get? t = none → Q .none s') :
  wpAny (model PySem.Challenge.pw_oy0243_01 w) (ktrTop dp un gd cn cs L a ccd cl outer) (call (.ref 122) [.ref x, fv, sv]) Q E s := by
  refine wpAny_call ?_
  refine' enterM (binds := [(Str.ofString "self", .ref x), (Str.ofString "fws", fv), (Str.ofString "string", sv)]) B F X N T rfl rfl hk ?ho ?hcd ?hroom ?hbind ?hloc ?hb ?c1 ?c2 ?c3 ?c4
  case ho => k_is
  case hcd => k_is
  case hroom => exact up0 hdp
  case hbind => exact BindsTo.of_eq rfl
  case hloc => exact locs rfl
  case c1 => decide
  case c2 => exact rfl
  case c3 => exact rfl
  case c4 => exact rfl
  intro g L' h₁ tk₁ Kg F₁ N₁ B₁ X₁ T₁ hlt₁ hsz₁ hL₁
  first | refine' execsIs ?ebL ?_ | refine' execsIsAt ?ebL ?_
  case ebL => conv => lhs; whnf
  have og₀ := OG.refl s
  (try dsimp only)
  (try k_fold)
  have hne : @Ne Nat x dx := accNe N (.head _) (.tail _ (.head _))
  k_steps
  refine' acc_append ?F ?X lcls ?N ?m1 ?m2 ?U ?hz ?_
  case F => k_asm
  case X => first | assumption | k_asm
  case N => k_asm
  case m1 => k_mem
  case m2 => k_mem
  case U => k_upd
  case hz => (have : (1000 : Nat) ≤ sizeLine := by decide +kernel); omega
  intro h' F' N'
  k_steps
  all_goals (try dsimp only)
  all_goals (try k_unfold)
  all_goals (try dsimp only)
  (rename News g _ _ _ => Nz)
  have z := Nz _ (List.Mem.head _)
  refine ret _ _ (extOut Kg (by assumption) N Nz (allC (.inl (.head _)) (allC (.inr (mth 2 rfl)) allN)) rfl (by assumption)) (Nz _ (List.Mem.tail _ (List.Mem.head _))).1 z.1 (newOut Kg z.2.2 (allC (And.left (by assumption)) (allC (And.right (by assumption)) allN)))
end
-- A4
section
open PySem PySem.W PySem.Spec PySem.Calls PyProof.Rows
open PySem.Builtin PySem.Builtin.ObjectAttr PySem.Builtin.List
set_option maxRecDepth 100000
set_option maxHeartbeats 8000000
/-- a list builtin that super() binds to an object -/
structure SupB (i kind T gid : String) (G b : Builtin) : Prop where
  ty : typeOf (.builtin i) = pure (.type T)
  slot : Slot T "__get__" gid
  entG : entryFor table gid = some G
  args : ∀ a b c, argsOk gid ⟨[a, b, c], []⟩
  run : ∀ x C : Addr, ∃ e : Sem Unit, G ⟨[.builtin i, .ref x, .ref C], []⟩ = ((isInstance (.ref x) (.type "list") >>= fun b => if (!b) = true then e else pure ()) >>= fun _ => newFields kind [.builtin i, .ref x] >>= fun v => ret v)
  isk : kind = "builtin_function_or_method" ∨ kind = "method-wrapper"
  ent : entryFor table i = some b
  quiet : ∀ as, (Code.builtin i as).quiet = true
  plain : plainId i = true
theorem slot_wd : Slot "wrapper_descriptor" "__get__" "wrapper_descriptor.__get__" :=
  .of (owner := "wrapper_descriptor") (n := "__get__") (by rw [typeLookup_type, builtinLookup_eq_fast]; kernel_rfl) (by decide +kernel) (by decide +kernel) (by decide +kernel)
    (by first | exact .inl (by decide +kernel) | exact .inr (by decide +kernel)) (by rw [isSubtype_type]; kernel_rfl)
theorem slot_md : Slot "method_descriptor" "__get__" "method_descriptor.__get__" :=
  .of (owner := "method_descriptor") (n := "__get__") (by rw [typeLookup_type, builtinLookup_eq_fast]; kernel_rfl) (by decide +kernel) (by decide +kernel) (by decide +kernel)
    (by first | exact .inl (by decide +kernel) | exact .inr (by decide +kernel)) (by rw [isSubtype_type]; kernel_rfl)
theorem sup_len : SupB "list.__len__" "method-wrapper" "wrapper_descriptor" "wrapper_descriptor.__get__" Builtin.«wrapper_descriptor.__get__» Builtin.«list.__len__» where
  ty := by show builtinType _ = _; rw [builtinType_eq_fast]; kernel_rfl
  slot := slot_wd
  entG := entryFor_of_tree (by kernel_rfl)
  args := fun a b c => by unfold argsOk; kernel_rfl
  run := fun x C => ⟨_, rfl⟩
  isk := .inr rfl
  ent := PySem.F.entry_list_len
  quiet := fun _ => Code.quiet_builtin _ (by decide +kernel)
  plain := by decide +kernel
theorem sup_init : SupB "list.__init__" "method-wrapper" "wrapper_descriptor" "wrapper_descriptor.__get__" Builtin.«wrapper_descriptor.__get__» Builtin.«list.__init__» where
  ty := by show builtinType _ = _; rw [builtinType_eq_fast]; kernel_rfl
  slot := slot_wd
  entG := entryFor_of_tree (by kernel_rfl)
  args := fun a b c => by unfold argsOk; kernel_rfl
  run := fun x C => ⟨_, rfl⟩
  isk := .inr rfl
  ent := PySem.F.entry_list_init
  quiet := fun _ => Code.quiet_builtin _ (by decide +kernel)
  plain := by decide +kernel
theorem sup_pop : SupB "list.pop" "builtin_function_or_method" "method_descriptor" "method_descriptor.__get__" Builtin.«method_descriptor.__get__» Builtin.«list.pop» where
  ty := by show builtinType _ = _; rw [builtinType_eq_fast]; kernel_rfl
  slot := slot_md
  entG := entryFor_of_tree (by kernel_rfl)
  args := fun a b c => by unfold argsOk; kernel_rfl
  run := fun x C => ⟨_, rfl⟩
  isk := .inl rfl
  ent := PySem.F.entry_list_pop
  quiet := fun _ => Code.quiet_builtin _ (by decide +kernel)
  plain := by decide +kernel
section
variable {prog : Program} {w : World} {M : Model} {A : Around} {E : Value → Shared → Prop} {h : Heap} {g : Array GenState} {d : Drawn} {t : Nat} {os : OsState}
theorem sup_ga {so D x C : Addr} {i kind T gid : String} {G b : Builtin} (S : SupB i kind T gid G b) {l₀ l : List Value} {K : Frag} {name : Str} {tk : Tok} {Q : Fin → Shared → Prop}
    (hso : h.get? so = some { cls := .type "super", dict := none, data := .fields #[.ref D, .ref x, .ref C], slots := #[] }) (hno : Looks (model prog w) h (opaqueClassAbove (.ref C)) none)
    (hC : Looks (model prog w) h (mroOf (.ref C)) l₀) (hl : (l₀.dropWhile (· != .ref D)).drop 1 = l) (X : K.In h)
    (hf : alongIn K name l = some (some (.builtin i))) (hi : Looks (model prog w) h (isInstance (.ref x) (.type "list")) true) (hxC : x ≠ C) (hn : (name == ("__class__" : Str)) = false)
    (hq : Q (.done (.ret (.ref h.objs.size))) ⟨h.push { cls := .type kind, data := .fields #[.builtin i, .ref x] }, g, d, t, os⟩) :
    wpAny (model prog w) A (Builtin.«super.__getattribute__» ⟨[.ref so, .str name tk], []⟩) Q E ⟨h, g, d, t, os⟩ := by
  have hlk := S.slot.lookup
  have hne : (Value.ref x == Value.ref C) = false := by simp [hxC]
  have hTf : (⟨h, g, d, t, os⟩ : Shared).TypeIs (.builtin i) T := S.ty
  have hdt : ({ cls := .type "super", dict := none, data := .fields #[.ref D, .ref x, .ref C], slots := #[] } : Obj).data = .fields #[.ref D, .ref x, .ref C] := rfl
  have f0 : (#[.ref D, .ref x, .ref C] : Array Value)[0]? = some (.ref D) := rfl
  have f1 : (#[.ref D, .ref x, .ref C] : Array Value)[1]? = some (.ref x) := rfl
  have f2 : (#[.ref D, .ref x, .ref C] : Array Value)[2]? = some (.ref C) := rfl
  have run : ∀ {A' : Around} {P : Fin → Shared → Prop} {E' : Value → Shared → Prop}, P (.done (.ret (.ref h.objs.size))) ⟨h.push { cls := .type kind, data := .fields #[.builtin i, .ref x] }, g, d, t, os⟩ → wpAny (model prog w) A' (G ⟨[.builtin i, .ref x, .ref C], []⟩) P E' ⟨h, g, d, t, os⟩ := by
    intro A' P E' hP
    obtain ⟨e, he⟩ := S.run x C
    rw [he]
    refine wpAny_bind (wpAny_bind (hi.at ?_))
    rw [if_neg (by decide)]
    exact wpAny_pure (wpAny_bind (wpAny_newObj_type (wpAny_pure hP)))
  unfold Builtin.«super.__getattribute__»
  repeat (first
    | (with_reducible refine wpAny_field hso hdt f0 ?_) | (with_reducible refine wpAny_field hso hdt f1 ?_) | (with_reducible refine wpAny_field hso hdt f2 ?_)
    | (with_reducible refine ks_wpAny_notOpaque hno ?_)
    | (with_reducible refine Looks.at hC ?_; rw [hl])
    | (with_reducible refine wpAny_typeOf hTf ?_)
    | (with_reducible refine wpAny_of_eq hlk ?_)
    | (with_reducible refine wpAny_call_entry S.slot hTf S.entG ?_ (S.args _ _ _))
    | (with_reducible refine run ?_)
    | (with_reducible refine ⟨_, rfl, ?_⟩)
    | (refine ks_forIn_along X (fun _ _ => rfl) rfl ?_ hf)
    | (simp only [hn, hne, Bool.or_false, Bool.false_eq_true, if_false])
    | wp_step
    | dsimp only)
  all_goals exact hq
theorem sup_method {so D x C : Addr} {i kind T gid : String} {G b : Builtin} (S : SupB i kind T gid G b) {l₀ l : List Value} {K : Frag} {name : Str} {pl : Sem Bool} {Q : Value × List Value → Shared → Prop}
    (hso : h.get? so = some { cls := .type "super", dict := none, data := .fields #[.ref D, .ref x, .ref C], slots := #[] }) (hno : Looks (model prog w) h (opaqueClassAbove (.ref C)) none)
    (hC : Looks (model prog w) h (mroOf (.ref C)) l₀) (hl : (l₀.dropWhile (· != .ref D)).drop 1 = l) (X : K.In h)
    (hf : alongIn K name l = some (some (.builtin i))) (hi : Looks (model prog w) h (isInstance (.ref x) (.type "list")) true) (hxC : x ≠ C) (hn : (name == ("__class__" : Str)) = false)
    (hq : Q (.ref h.objs.size, []) ⟨h.push { cls := .type kind, data := .fields #[.builtin i, .ref x] }, g, d, t + 1, os⟩) :
    wpAny (model prog w) A (getMethod (.ref so) name pl) Q E ⟨h, g, d, t, os⟩ := by
  have hlk := PySem.F.ks_slot_super_ga.lookup
  have hcan := PySem.F.ks_canon_super_ga
  have hT : ∀ t', (⟨h, g, d, t', os⟩ : Shared).TypeIs (.ref so) "super" := fun _ => ⟨_, hso, rfl⟩
  unfold getMethod
  refine wpAny_bind (wpAny_specialOf (hT _) hlk ?_)
  show wpAny _ _ (if (Manifest.canonical "super.__getattribute__" != "object.__getattribute__") = true then _ else _) _ _ _
  rw [if_pos hcan]
  unfold getAttr getAttrBy
  refine wpAny_bind (wpAny_bind (wpAny_mkText (wpAny_holding (wpAny_bind (wpAny_typeOf (hT _) (wpAny_bind (wpAny_of_eq hlk ?_)))))))
  show wpAny _ _ (getAttrByItsOwn (.ref so) (.str name t) (.type "super") (.builtin "super.__getattribute__") true false) _ _ _
  unfold getAttrByItsOwn hookBefore callGetattribute boundAndCalled
  refine wpAny_bind (wpAny_of_eq (show (if onTheHeap (.type "super") then typeLookup (.type "super") "__getattr__" else pure none) = pure none from rfl) ?_)
  refine wpAny_bind (wpAny_attempt (wpAny_holding ?_))
  show wpAny _ _ (bindSpecial (.builtin "super.__getattribute__") (.ref so) >>= _) _ _ _
  refine wpAny_bind (wpAny_of_eq (PySem.F.ks_slot_super_ga.bind _) ?_)
  refine wpAny_mono (Q := fun v s' => v = .ref h.objs.size ∧ s' = ⟨h.push { cls := .type kind, data := .fields #[.builtin i, .ref x] }, g, d, t + 1, os⟩) (E := fun _ _ => False)
    (wpAny_call_entry PySem.F.ks_slot_super_ga (hT _) PySem.F.ks_entry_super_ga (sup_ga S hso hno hC hl X hf hi hxC hn ⟨_, rfl, rfl, rfl⟩) (PySem.F.ks_gaArgs_super _ _)) (fun v s' hv => ?_) fun _ _ z => z.elim
  obtain ⟨rfl, rfl⟩ := hv
  exact wpAny_pure (wpAny_pure hq)
theorem sup_call {x q : Addr} {i kind T gid : String} {G b : Builtin} (S : SupB i kind T gid G b) {s : Shared} {pos : Pos} {env : Env} {Q : Value → Shared → Prop} (hq : s.heap.get? q = some { cls := .type kind, data := .fields #[.builtin i, .ref x] })
    (hc : ∀ {A : Around} {E : Value → Shared → Prop} {P : Unit → Shared → Prop}, P () s → wpAny (model prog w) A (checkBoundCall i ⟨[.ref x], []⟩) P E s)
    (h : wpAny (model prog w) A.in1 (b ⟨[.ref x], []⟩) (fun fin s' => match fin with | .done (.ret v) => Q v s' | _ => False) E s) :
    wpAny (model prog w) A (callWith pos (.ref q) [] (backTo pos (starEach [] env)) []) Q E s := by
  have hk : (Value.type kind != Value.type "method") = true := by rcases S.isk with e | e <;> rw [e] <;> decide
  have hk2 : (Value.type kind == Value.type "builtin_function_or_method" || Value.type kind == Value.type "method-wrapper") = true := by rcases S.isk with e | e <;> rw [e] <;> decide
  unfold callWith
  refine wpAny_bind (wpAny_holding (evalArgs_nil3 (wpAny_bind (wpAny_standAt ?_))))
  refine wpAny_bind (m := keeperOf (.ref q)) ?_
  unfold keeperOf
  refine wpAny_bind (wpAny_load hq ?_)
  simp only [hk, hk2, if_true]
  refine wpAny_pure ?_
  refine wpAny_bind (wpAny_mono (Q := Q) (E := E) ?_ (fun r s₂ hr => wpAny_bind (wpAny_holding (wpAny_point (wpAny_pure hr)))) fun _ _ x => x)
  refine wpAny_call (codeAny_of_tree ?_)
  show wpAny _ A.in1 (callAny (.ref q) ⟨[], []⟩) _ _ s
  simp only [callAny]
  refine wpAny_bind (wpAny_load hq ?_)
  have hk3 : (Value.type kind == Value.type "method" || Value.type kind == Value.type "builtin_function_or_method" || Value.type kind == Value.type "method-wrapper") = true := by rcases S.isk with e | e <;> rw [e] <;> decide
  simp only [hk3, if_true]
  refine KFB.if_so hk ?_
  refine wpAny_bind (hc ?_)
  refine wpAny_bind (wpAny_pure (wpAny_pure ?_))
  refine ⟨S.quiet _, codeAny_builtin S.ent ?_⟩
  rw [Around.under_plainId S.plain]
  show wpAny _ A.in1 (b ⟨[.ref x], []⟩) _ _ _
  refine wpAny_mono h (fun fin s' z => ?_) fun _ _ z => z
  rcases fin with (_ | _ | _ | _) | _ <;> first | exact z | exact z.elim
end
section
variable {prog : Program} {w : World} {A₀ A : Around} {s : Shared} {base h₀ : Heap} {outer : List Env} {L : Addr} {m mg mb : Str → Option Value} {env : Env} {K : Frag} {p : Program} {loose : List Str}
  {R : Result → Shared → Prop} {name qual : Str} {params : Arguments} {body : List Stmt} {scope : Scope} {cl : List (Str × Addr)} {dV kV doc pm cdv ct oc : Value} {an od : Option Addr} {osl : Array (Option Value)} {f : Addr} {args : Args} {binds : List (Str × Value)}
/-- a def with a closure entered, its body's activation known -/
theorem enterSM {news : List (Addr × Obj)} (B : Below A₀ base outer h₀) (F : Fr h₀ L s.heap m) (X₀ : K.In h₀) (N : News h₀ L s.heap news) (T : TopRead p loose mg mb h₀) (hA : A.frames = some (env :: outer)) (hf : env.frame = some L) (hke : env.scope.kind = .function)
    (ho : K.lookup f = some ⟨oc, od, .func (fnX name qual params body scope cl dV kV doc pm an cdv ct), osl⟩) (hcd : codeIn K cdv qual = true) (hroom : A.depth < recursionLimit)
    (hbind : BindsTo s (fnX name qual params body scope cl dV kV doc pm an cdv ct) args binds) (hloc : ∀ y ∈ binds, scope.names.lookup y.1 = some .local)
    (h : ∀ g L' h₁ tk, (∀ b o, s.heap.get? b = some o → b ∉ news.map (·.1) → g.get? b = some o) → Fr g L' h₁ (fun y => binds.reverse.lookup y) → News g L' h₁ news → Below A base (env :: outer) g → K.In g → TopRead p loose mg mb g → (∀ p ∈ news, p.1 < L') → g.objs.size = s.heap.objs.size → L' = s.heap.objs.size →
      _root_.PySem.wpAt (model prog w) (A.deeper (envX qual scope L' f cdv cl)) (.func body (envX qual scope L' f cdv cl)) (execs body (envX qual scope L' f cdv cl))
        (fun fl s' => R (.ok (.ret (match fl with | .ret v => v | _ => .none))) s')
        (fun e s' => wpAny (model prog w) (A.deeper (envX qual scope L' f cdv cl)) (leaving (envX qual scope L' f cdv cl) e) (fun _ s'' => R (.error e) s'') (fun e' s'' => R (.error e') s'') s')
        { s with heap := h₁, toks := tk })
    (hcell : ∀ x ∈ scope.names, x.2 ≠ .cell) (hco : scope.isCoroutine = false) (hgen : scope.isGenerator = false) (hk : scope.kind = .function) : codeAny (model prog w) A (.call (.ref f) args) R s := by
  obtain ⟨FG, BG, st, lv⟩ := groundX (R := R) (news := news) B F N hA hf hke
  refine ks_codeAny_call_defAt (fd := fnX name qual params body scope cl dV kV doc pm an cdv ct) (body := body) (binds := binds) hroom ((X₀.keeps F.keep) _ _ ho) rfl (T.nolimit.keeps F.keep) (codeRec_of (X₀.keeps F.keep) hcd) rfl hbind hcell hloc (fun h₁ hns hk₁ => ?_) hco hgen hk
  exact h _ s.heap.objs.size h₁ _ (fun b o e hb => hideAll_get _ e hb) ⟨hns, fun b o e => hk₁ b o (of_hideAll _ e), Nat.le_of_eq (hideAll_size _ _)⟩
    (fun p hp => ⟨hk₁ _ _ (N p hp).1, Nat.ne_of_lt (Heap.lt_size (N p hp).1), hideAll_none _ (List.mem_map_of_mem hp)⟩) BG (X₀.keeps st) (T.keeps st) (fun p hp => Heap.lt_size (N p hp).1) (hideAll_size _ _) rfl
end
section
variable {prog : Program} {w : World} {A : Around} {E : Value → Shared → Prop} {s : Shared} {h₀ : Heap} {L : Addr} {m mg mb : Str → Option Value} {news : List (Addr × Obj)} {K : Frag} {p : Program} {loose : List Str} {x dx f cda cc : Addr} {vs : List Value} {es : List DictEntry} {n k : Nat}
/-- super().attr() where attr is a builtin of list, on the accumulator -/
theorem superCall {body : List Stmt} {q : Str} {scope : Scope} {p0 p1 pc : Pos} {attr : Str} {whole : Sem Value} {pl : Sem Bool} {fd : FuncData} {ar : Arg} {fs : Array Value} {file : Str} {tf : Tok} {oc ccl cl : Value} {od cdd cld : Option Addr} {osl ccs csl : Array (Option Value)} {cdD : ClassData} {Q : Value → Shared → Prop} {i kind T gid : String} {G b : Builtin}
    (S : SupB i kind T gid G b) (F : Fr h₀ L s.heap m) (X₀ : K.In h₀) (H : LCls K 178) (N : News h₀ L s.heap news) (TR : TopRead p loose mg mb h₀) (h1 : (x, accO dx vs n) ∈ news) (h2 : (dx, dictOf es k) ∈ news)
    (hf : K.lookup f = some ⟨oc, od, .func fd, osl⟩) (hp : (fd.params.posonlyargs ++ fd.params.args).head? = some ar) (hv : m ar.arg = some (.ref x))
    (hcode : K.lookup cda = some ⟨ccl, cdd, .fields fs, ccs⟩) (hvs : fs[2]? = some (.str file tf)) (hfile : ((prog.main.file : Str) == file) = true)
    (hcell : K.lookup cc = some ⟨cl, cld, .cell (some (.ref 178)), csl⟩) (hD : clsIn K 178 = some cdD) (hsub : mroIn K 178 (.ref 178) = some true) (hsuper : nsIn K mainGlobals "super" = some none)
    (hat : (attr == ("__class__" : Str)) = false) (hks : scope.names.lookup ("super" : Str) = some .globalImplicit) (hkc : scope.names.lookup ("__class__" : Str) = some .free) (hka : scope.names.lookup ar.arg = some .local) (hk : scope.kind = .function)
    (htop : (prog.main.scope.names.lookup ("super" : Str)).isSome = false) (hboot : bootBuiltins "super" = some (.type "super"))
    (ho : nsIn K cStatics "thirdparty.any" = some none) (hm : alongIn K attr [.type "list", .type "object"] = some (some (.builtin i)))
    (hc : ∀ {s' : Shared} {A : Around} {E : Value → Shared → Prop} {P : Unit → Shared → Prop}, K.In s'.heap → InstAt s'.heap x (accO dx vs n) 178 (some (dictOf es k)) → P () s' → wpAny (model prog w) A (checkBoundCall i ⟨[.ref x], []⟩) P E s')
    (h : ∀ so bo h' tk, Fr h₀ L h' m → News h₀ L h' ((bo, ({ cls := .type kind, data := .fields #[.builtin i, .ref x] } : Obj)) :: (so, ks_superObj 178 x 178) :: news) → (∀ p ∈ news, p.1 < so) → so < bo →
      wpAny (model prog w) A.in1 (b ⟨[.ref x], []⟩) (fun fin s' => match fin with | .done (.ret v) => Q v s' | _ => False) E { s with heap := h', toks := tk }) :
    _root_.PySem.wpAt (model prog w) A (.func body (ksEnv q scope L f (.ref cda) cc)) (attributeBase (.Call (.Name "super" p0) [] [] p1) attr (ksEnv q scope L f (.ref cda) cc) whole) (fun ov s₁ => wpAny (model prog w) A (getMethod ov attr pl) (fun fx s₂ => wpAny (model prog w) A (callWith pc fx.1 fx.2 (backTo pc (starEach [] (ksEnv q scope L f (.ref cda) cc))) []) Q E s₂) E s₁) E s := by
  have X : K.In s.heap := X₀.keeps F.keep
  have I := acc_inst N h1 h2
  obtain ⟨hh, g, d, t, os⟩ := s
  obtain ⟨oD, hD1, hD2⟩ : ∃ oD, hh.get? 178 = some oD ∧ oD.data = .cls cdD := by
    unfold clsIn at hD
    split at hD
    · rename_i c d cd' sl ho
      cases hD
      exact ⟨_, X _ _ ho, rfl⟩
    · cases hD
  refine ks_wpAt_super_base (env := ksEnv q scope L f (.ref cda) cc) hks hkc hat rfl (X _ _ hf) rfl hp rfl (X _ _ hcode) rfl hvs hfile htop ?_
  refine ks_loadName_global hk hks (loadGlobal_builtin (env := ksEnv q scope L f (.ref cda) cc) (TR.g.keeps F.keep) (mg_none_of X₀ TR.g hsuper) (TR.b.keeps F.keep) ((TR.builtins _ (by decide +kernel)).trans hboot) ⟨rfl, ?_⟩)
  refine wpAny_loadName_free hk hkc rfl ⟨_, X _ _ hcell, rfl⟩ ?_
  refine wpAny_loadName_local hk hka F.ns hv ?_
  refine ks_wpAny_isType_cls hD1 hD2 ⟨rfl, ?_⟩
  refine ks_wpAny_call_super hD1 hD2 I.at_ I.cls (fun c e => nomatch e) (looks_mroIn X hsub) (fun h' e k' => ?_)
  obtain ⟨F', N', l'⟩ := ks_newsPush (s := ⟨hh, g, d, t, os⟩) (o := ks_superObj 178 x 178) F N rfl e k'
  have X' : K.In h' := X₀.keeps F'.keep
  have I' : InstAt h' x (accO dx vs n) 178 (some (dictOf es k)) := acc_inst (s := ⟨h', g, d, t, os⟩) N' (.tail _ h1) (.tail _ h2)
  obtain ⟨cd2, hcd2, hmro⟩ := Option.map_eq_some_iff.mp H.mro
  refine sup_method S (K := K) (l₀ := [.ref 178, .type "list", .type "object"]) e (looks_opaque X' ho) ?_ rfl X' hm (I'.type.andThen (looks_subIn X' H.sub)) (ks_ne X' I' hD) hat ?_
  · exact fun A Q E s k q => wpAny_bind ((looks_clsIn X' hcd2) A _ E s k (wpAny_pure (by rw [hmro]; exact q)))
  obtain ⟨F2, N2, l2⟩ := ks_newsPush (s := ⟨h', g, d, t, os⟩) (o := ({ cls := .type kind, data := .fields #[.builtin i, .ref x] } : Obj)) F' N' rfl (Heap.get?_push_at rfl rfl) (fun b o e => Heap.get?_push_of_some _ e)
  refine sup_call S (N2 _ (.head _)).1 (fun hP => hc (X₀.keeps F2.keep) (acc_inst (s := ⟨_, g, d, t + 1, os⟩) N2 (.tail _ (.tail _ h1)) (.tail _ (.tail _ h2))) hP) ?_
  exact h _ _ _ _ F2 N2 l' (l2 _ (.head _))
end
end
-- A5
section
open PySem PySem.W PySem.Spec PySem.Calls PyProof.Rows
set_option maxRecDepth 100000
set_option maxHeartbeats 8000000
theorem chk_len {prog : Program} {w : World} {x : Addr} {s' : Shared} {A : Around} {E : Value → Shared → Prop} {P : Unit → Shared → Prop} (h : P () s') : wpAny (model prog w) A (checkBoundCall "list.__len__" ⟨[.ref x], []⟩) P E s' := by
  rw [show checkBoundCall "list.__len__" ⟨[.ref x], []⟩ = pure () from by kernel_rfl]; exact wpAny_pure h
theorem chk_init {prog : Program} {w : World} {x : Addr} {s' : Shared} {A : Around} {E : Value → Shared → Prop} {P : Unit → Shared → Prop} (h : P () s') : wpAny (model prog w) A (checkBoundCall "list.__init__" ⟨[.ref x], []⟩) P E s' := by
  rw [show checkBoundCall "list.__init__" ⟨[.ref x], []⟩ = pure () from by kernel_rfl]; exact wpAny_pure h
theorem pcount_spec {w : World} {mg mb : Str → Option Value} {x dx : Addr} {vs : List Value} {n k : Nat} {hh : Int} {kt t0 : Tok}
  {dp un : Nat} {gd : Option (List Code)} {cn : Str} {cs : Scope} {a : Addr} {ccd : Value} {cl : List (Str × Addr)} {outer : List Env} {A₀ : Around} {base h₀ : Heap} {L : Addr} {m : Str → Option Value} {s : Shared} {Q E : Value → Shared → Prop} (B : Below A₀ base outer h₀) (F : Fr h₀ L s.heap m) (X : (KK w.params).In h₀) (N : News h₀ L s.heap [(x, accO dx vs n), (dx, dictOf [⟨hh, .str (Str.ofString "_initial_size") kt, .int 0 t0⟩] k)]) (T : TopRead VV LL mg mb h₀) (hk : cs.kind = .function) (hdp : dp + 3 < recursionLimit) (hun : un + 40 < cLine) (hz : vs.length < 1000)
  (ret : ∀ t s', Ext s s' → Q (.int vs.length t) s') :
  wpAny (model PySem.Challenge.pw_oy0243_01 w) (ktrTop dp un gd cn cs L a ccd cl outer) (call (.ref 175) [.ref x]) Q E s := by
  refine wpAny_call ?_
  refine' enterSM (binds := [(Str.ofString "self", .ref x)]) B F X N T rfl rfl hk ?ho ?hcd ?hroom ?hbind ?hloc ?hb ?c1 ?c2 ?c3 ?c4
  case ho => k_is
  case hcd => k_is
  case hroom => exact up0 hdp
  case hbind => exact BindsTo.of_eq rfl
  case hloc => exact locs rfl
  case c1 => decide
  case c2 => exact rfl
  case c3 => exact rfl
  case c4 => exact rfl
  intro g L' h₁ tk₁ Kg F₁ N₁ B₁ X₁ T₁ hlt₁ hsz₁ hL₁
  first | refine' execsIs ?ebL ?_ | refine' execsIsAt ?ebL ?_
  case ebL => conv => lhs; whnf
  have og₀ := OG.refl s
  (try dsimp only)
  have hne : @Ne Nat x dx := accNe N (.head _) (.tail _ (.head _))
  refine ks_wpAt_execs_cons (ks_wpAt_Return_some (ks_wpAt_MethodCall (pl := _) ?_))
  refine' superCall (pl := _) sup_len ?F ?X lcls ?N ?T ?m1 ?m2 ?hf ?hp ?hv ?hcode ?hvs ?hfile ?hcell ?hD ?hsub ?hsuper ?hat ?hks ?hkc ?hka ?hk ?htop ?hboot ?ho ?hm ?hc ?_
  case F => k_asm
  case X => first | assumption | k_asm
  case N => k_asm
  case T => first | assumption | k_asm
  case m1 => k_mem
  case m2 => k_mem
  case hf => k_is
  case hp => exact rfl
  case hv => exact rfl
  case hcode => k_is
  case hvs => exact rfl
  case hfile => first | rfl | decide +kernel
  case hcell => k_is
  case hD => k_is
  case hsub => k_is
  case hsuper => k_is
  case hat => decide
  case hks => exact rfl
  case hkc => exact rfl
  case hka => exact rfl
  case hk => exact rfl
  case htop => decide +kernel
  case hboot => first | boot_by_name | rfl | kernel_rfl
  case ho => k_is
  case hm => exact rfl
  case hc => exact fun _ _ h => chk_len h
  intro so bo h' tk' F' N' l1 l2
  refine accB_len F' N' (mth 2 rfl) fun t u => ?_
  exact ret _ _ (ExtBut.ext (extOut Kg F' N N' (allC (.inr (mth 2 rfl)) (allC (.inr (mth 3 rfl)) allN)) rfl og₀))
end
-- A6
section
open PySem PySem.W PySem.Spec PySem.Calls PyProof.Rows
set_option maxRecDepth 100000
set_option maxHeartbeats 8000000
local macro_rules | `(tactic| walk_at "call ref cons nil") => `(tactic| refine Stop.mk ?_)
local macro_rules | `(tactic| walk_at "call ref nil") => `(tactic| refine Stop.mk ?_)
theorem holdQ {α : Type} {M : Model} {A : Around} {t : Sem α} {Q : α → Shared → Prop} {E : Value → Shared → Prop} {s : Shared} (h : wpAny M A t (fun b s' => Hold (Q b s')) E s) : wpAny M A t Q E s := wpAny_mono h (fun _ _ z => z.out) fun _ _ z => z
theorem args_pop1 (x : Addr) : (match Manifest.signature? "list.pop" with | some sig => Bind.checkArgs "list.pop" { sig with full := toString (Str.ofString "_Accumulator").toString ++ toString "." ++ toString (Bind.lastOf "list.pop") } ⟨[.ref x], []⟩ | none => pure ()) = pure () := by
  rw [signature?_of (id := "list.pop") (n := ['p', 'o', 'p']) (o := ['t', 's', 'i', 'l']) (by kernel_rfl) PySem.F.owner_list]; kernel_rfl
theorem acc_qual {w : World} : (clsIn (KK w.params) 178).map (fun cd => (cd.mro, cd.qualname)) = some ([.ref 178, .type "list", .type "object"], Str.ofString "_Accumulator") := by kernel_rfl
theorem chk_pop {w : World} {prog : Program} {x dx : Addr} {vs : List Value} {n k : Nat} {es : List DictEntry} {s' : Shared} {A : Around} {E : Value → Shared → Prop} {P : Unit → Shared → Prop} (X : (KK w.params).In s'.heap) (I : InstAt s'.heap x (accO dx vs n) 178 (some (dictOf es k))) (h : P () s') : wpAny (model prog w) A (checkBoundCall "list.pop" ⟨[.ref x], []⟩) P E s' := by
  have ha := args_pop1 x
  obtain ⟨hh, g, d, t, os⟩ := s'
  dsimp only at X I
  have LM : Looks (model prog w) hh (isInstance (.ref x) (.type "module")) false := I.type.andThen (looks_mroIn X (by k_is))
  obtain ⟨cd, hcd, hcm⟩ := Option.map_eq_some_iff.mp (acc_qual (w := w))
  have hcq := (Prod.mk.inj hcm).2
  unfold checkBoundCall
  cases hs : Manifest.signature? "list.pop" with
  | none => exact wpAny_pure h
  | some sig =>
    rw [hs] at ha
    dsimp only
    rw [show builtinKind "list.pop" = some .method from by decide +kernel]
    dsimp only
    rw [if_neg (by decide)]
    refine wpAny_bind (LM.at ?_)
    rw [if_neg (by decide +kernel)]
    refine wpAny_bind ?_
    refine ks_wpAny_isType_inst I.at_ (fun c e => nomatch e) ?_
    rw [if_neg (by decide)]
    refine wpAny_bind (I.type.at ?_)
    dsimp only
    refine wpAny_bind ((looks_clsIn X hcd).at (wpAny_bind ((looks_typeIn X (t := .type "type") (by k_is)).at ?_)))
    rw [if_pos (by decide)]
    dsimp only at ha
    rw [hcq, ha]
    exact wpAny_pure h
theorem pop_spec {w : World} {mg mb : Str → Option Value} {x dx : Addr} {us : List Value} {v : Value} {n k : Nat} {hh : Int} {kt t0 : Tok}
  {dp un : Nat} {gd : Option (List Code)} {cn : Str} {cs : Scope} {a : Addr} {ccd : Value} {cl : List (Str × Addr)} {outer : List Env} {A₀ : Around} {base h₀ : Heap} {L : Addr} {m : Str → Option Value} {s : Shared} {Q E : Value → Shared → Prop} (B : Below A₀ base outer h₀) (F : Fr h₀ L s.heap m) (X : (KK w.params).In h₀) (N : News h₀ L s.heap [(x, accO dx (us ++ [v]) n), (dx, dictOf [⟨hh, .str (Str.ofString "_initial_size") kt, .int 0 t0⟩] k)]) (T : TopRead VV LL mg mb h₀) (hk : cs.kind = .function) (hdp : dp + 5 < recursionLimit) (hun : un + 60 < cLine) (hz : us.length < 999)
  (ret : ∀ s', ExtBut [x] s s' → s'.heap.get? x = some (accO dx us (n + 1)) → Q v s') :
  wpAny (model PySem.Challenge.pw_oy0243_01 w) (ktrTop dp un gd cn cs L a ccd cl outer) (call (.ref 138) [.ref x]) Q E s := by
  refine wpAny_call ?_
  refine' enterSM (binds := [(Str.ofString "self", .ref x)]) B F X N T rfl rfl hk ?ho ?hcd ?hroom ?hbind ?hloc ?hb ?c1 ?c2 ?c3 ?c4
  case ho => k_is
  case hcd => k_is
  case hroom => exact up0 hdp
  case hbind => exact BindsTo.of_eq rfl
  case hloc => exact locs rfl
  case c1 => decide
  case c2 => exact rfl
  case c3 => exact rfl
  case c4 => exact rfl
  intro g L' h₁ tk₁ Kg F₁ N₁ B₁ X₁ T₁ hlt₁ hsz₁ hL₁
  first | refine' execsIs ?ebL ?_ | refine' execsIsAt ?ebL ?_
  case ebL => conv => lhs; whnf
  have og₀ := OG.refl s
  (try dsimp only)
  have hne : @Ne Nat x dx := accNe (vs := us ++ [v]) N (.head _) (.tail _ (.head _))
  refine ks_wpAt_execs_cons (ks_wpAt_If ?_)
  refine wpAt_of_wpAny (holdQ ?_)
  (try k_fold)
  k_steps
  all_goals (try (with_reducible show Stop _; show wpAny _ _ _ _ _ _))
  have e0 : (us ++ [v]).length = us.length + 1 := by simp
  dsimp only [List.append_nil]
  refine' pcount_spec ?B ?F ?X ?N ?T ?hk ?hdp ?hun ?hz ?_
  case B => first | assumption | k_asm
  case F => k_asm
  case X => first | assumption | k_asm
  case N => k_asm
  case T => first | assumption | k_asm
  case hk => first | exact rfl | assumption
  case hdp => k_room
  case hun => k_room
  case hz => simp; omega
  intro t9 s9 x9
  have F9 := Fr.keeps (by k_asm) x9.heap
  have N9 := newsKeep (by k_asm) x9.heap
  have og9 := OG.step (by assumption) x9
  (try k_sweep)
  (try dsimp only)
  (try k_fold)
  k_steps
  all_goals (try (with_reducible show Stop _; show wpAny _ _ _ _ _ _))
  refine Hold.mk ?_
  rw [if_neg (by simp; omega)]
  refine wpAt_of_wpAny (wpAny_execs_nil ?_)
  refine ks_wpAt_execs_cons (ks_wpAt_Return_some (ks_wpAt_MethodCall (pl := _) ?_))
  refine' superCall (pl := _) sup_pop ?F ?X lcls ?N ?T ?m1 ?m2 ?hf ?hp ?hv ?hcode ?hvs ?hfile ?hcell ?hD ?hsub ?hsuper ?hat ?hks ?hkc ?hka ?hk ?htop ?hboot ?ho ?hm ?hc ?_
  case F => k_asm
  case X => first | assumption | k_asm
  case N => k_asm
  case T => first | assumption | k_asm
  case m1 => k_mem
  case m2 => k_mem
  case hf => k_is
  case hp => exact rfl
  case hv => exact rfl
  case hcode => k_is
  case hvs => exact rfl
  case hfile => first | rfl | decide +kernel
  case hcell => k_is
  case hD => k_is
  case hsub => k_is
  case hsuper => k_is
  case hat => decide
  case hks => exact rfl
  case hkc => exact rfl
  case hka => exact rfl
  case hk => exact rfl
  case htop => decide +kernel
  case hboot => first | boot_by_name | rfl | kernel_rfl
  case ho => k_is
  case hm => exact rfl
  case hc => exact fun X I h => chk_pop X I h
  intro so bo h' tk' F' N' l1 l2
  have l3 : @LT.lt Nat _ x so := l1 _ (.head _)
  have l4 : @LT.lt Nat _ dx so := l1 _ (.tail _ (.head _))
  have l5 : @LT.lt Nat _ so bo := l2
  refine' accB_pop F' N' ?m1 ?U ?hz ?_
  case m1 => exact .tail _ (.tail _ (.head _))
  case U => k_upd
  case hz => omega
  intro h2 F2 N2
  exact ret _ (extOut Kg F2 N N2 (allC (.inl (.head _)) (allC (.inr (mth 3 rfl)) allN)) rfl og9) (N2 _ (mth 2 rfl)).1
end
-- A7
section
open PySem PySem.W PySem.Spec PySem.Calls PyProof.Rows
set_option maxRecDepth 100000
set_option maxHeartbeats 8000000
local macro_rules | `(tactic| walk_at "subscriptTail Name Slice ref ref") => `(tactic| refine Stop.mk ?_)
section
variable {prog : Program} {w : World} {A : Around} {E : Value → Shared → Prop} {s : Shared} {K : Frag} {x dx : Addr} {es : List DictEntry} {k n : Nat} {vs : List Value} {h₀ : Heap} {L : Addr} {m : Str → Option Value} {news news' : List (Addr × Obj)}
theorem acc_tail {value slice : Expr} {i : Value} {Q : Value → Shared → Prop} (X : K.In s.heap) (H : LCls K 178) (I : InstAt s.heap x (accO dx vs n) 178 (some (dictOf es k))) (h : wpAny (model prog w) A (getItem (.ref x) i) Q E s)
    (hs : ∃ l, subscripted slice false (.ref x) i = operate l (getItem (.ref x) i)) (ht : ∀ r, letTemporaryGo value (.ref x) r = pure ()) : wpAny (model prog w) A (subscriptTail value slice (.ref x) i) Q E s := by
  unfold subscriptTail getitemInPython
  refine wpAny_bind (wpAny_bind (wpAny_bind (I.type.here ((looks_findIn X H.gi).here ?_))))
  dsimp only
  refine wpAny_pure ?_
  obtain ⟨l, hl⟩ := hs
  rw [hl]
  exact wpAny_bind (wpAny_operating (wpAny_mono h (fun r s₃ h₃ => wpAny_bind (wpAny_of_eq (ht r) (wpAny_pure h₃))) fun _ _ x => x))
theorem acc_subSlice {value : Expr} {e : Expr} {p : Pos} {vl : Value} {lo : Option Int} {Q : Value → Shared → Prop} (F : Fr h₀ L s.heap m) (X₀ : K.In h₀) (H : LCls K 178) (N : News h₀ L s.heap news) (h1 : (x, accO dx vs n) ∈ news) (h2 : (dx, dictOf es k) ∈ news)
    (pl : IsPart vl lo) (hz : vs.length ≤ 1000) (ht : ∀ r, letTemporaryGo value (.ref x) r = pure ())
    (h : ∀ l h', Fr h₀ L h' m → News h₀ L h' ((l, listOf (slicePick vs.toArray lo none none) 0) :: news) → (∀ p ∈ news, p.1 < l) → Q (.ref l) { s with heap := h' }) :
    wpAny (model prog w) A (subscriptTail value (.Slice (some e) none none p) (.ref x) (.ref s.heap.objs.size)) Q E { s with heap := s.heap.push { cls := .type "slice", data := .fields #[vl, .none, .none] } } := by
  have F' := F.push ({ cls := .type "slice", data := .fields #[vl, .none, .none] } : Obj)
  have N' := N.push F ({ cls := .type "slice", data := .fields #[vl, .none, .none] } : Obj)
  have N2 : News h₀ L (s.heap.push ({ cls := .type "slice", data := .fields #[vl, .none, .none] } : Obj)) news := fun p hp => N' p (.tail _ hp)
  have sl1 : (1000 : Nat) ≤ sizeLine := by decide +kernel
  refine acc_tail (s := { s with heap := s.heap.push { cls := .type "slice", data := .fields #[vl, .none, .none] } }) (X₀.keeps F'.keep) H (acc_inst N2 h1 h2) ?_ ⟨_, rfl⟩ ht
  refine acc_getSlice (s := { s with heap := s.heap.push { cls := .type "slice", data := .fields #[vl, .none, .none] } }) F' X₀ H N2 h1 h2 (Heap.IsSliceOf.new _ _ _ _) pl .none .none (by decide) (by omega) ?_
  intro l h' F3 N3 l3
  exact h l h' F3 N3 l3
theorem acc_putSlice {vl : Value} {lo : Option Int} {ws vs' : List Value} {nw : Nat} {l : Addr} {Q : Unit → Shared → Prop} (F : Fr h₀ L s.heap m) (X₀ : K.In h₀) (H : LCls K 178) (N : News h₀ L s.heap news) (h1 : (x, accO dx vs n) ∈ news) (h2 : (dx, dictOf es k) ∈ news)
    (pl : IsPart vl lo) (hl : s.heap.get? l = some (lst ws nw)) (hne : x ≠ l) (hz : vs.length + ws.length ≤ 1000)
    (e : (vs.toArray.extract 0 (sliceBounds lo none none vs.length).1.toNat ++ ws.toArray ++ vs.toArray.extract (max (sliceBounds lo none none vs.length).1 (sliceBounds lo none none vs.length).2.1).toNat vs.toArray.size) = vs'.toArray) (hz' : vs'.length ≤ 1000)
    (U : Upd x (accO dx vs n) (accO dx vs' (if vs'.toArray.size == vs.toArray.size then n else n + 1)) news news')
    (h : ∀ h', Fr h₀ L h' m → News h₀ L h' news' → Q () { s with heap := h' }) : wpAny (model prog w) A (setItem (.ref x) (.ref s.heap.objs.size) (.ref l)) Q E { s with heap := s.heap.push { cls := .type "slice", data := .fields #[vl, .none, .none] } } := by
  have F' := F.push ({ cls := .type "slice", data := .fields #[vl, .none, .none] } : Obj)
  have N' := N.push F ({ cls := .type "slice", data := .fields #[vl, .none, .none] } : Obj)
  have N2 : News h₀ L (s.heap.push ({ cls := .type "slice", data := .fields #[vl, .none, .none] } : Obj)) news := fun p hp => N' p (.tail _ hp)
  exact acc_setSlice (s := { s with heap := s.heap.push { cls := .type "slice", data := .fields #[vl, .none, .none] } }) F' X₀ H N2 h1 h2 (Heap.IsSliceOf.new _ _ _ _) pl (Heap.get?_push_of_some _ hl) hne hz e hz' U h
end
theorem pick_last (us : List Value) (v : Value) : slicePick (us ++ [v]).toArray (some us.length) none none = [v].toArray := by
  unfold slicePick
  have hb : sliceBounds (some us.length) none none (us ++ [v]).toArray.size = ((us.length : Int), ((us.length : Nat) : Int) + 1, 1) := by
    simp [sliceBounds]; omega
  rw [hb]
  have hr : sliceRange (us.length : Int) (((us.length : Nat) : Int) + 1) 1 = [us.length] := by
    unfold sliceRange
    rw [if_pos (by omega), if_pos (by omega), show (((us.length : Nat) : Int) + 1 - us.length + 1 - 1) / 1 = 1 from by omega]
    simp [List.range_succ]
  rw [hr]
  simp
theorem put_last (us : List Value) (v : Value) : ((us ++ [v]).toArray.extract 0 (sliceBounds (some us.length) none none (us ++ [v]).length).1.toNat ++ ([] : List Value).toArray ++ (us ++ [v]).toArray.extract (max (sliceBounds (some us.length) none none (us ++ [v]).length).1 (sliceBounds (some us.length) none none (us ++ [v]).length).2.1).toNat (us ++ [v]).toArray.size) = us.toArray := by
  have hb : sliceBounds (some us.length) none none (us ++ [v]).length = ((us.length : Int), ((us.length : Nat) : Int) + 1, 1) := by
    simp [sliceBounds]; omega
  rw [hb]
  simp
  try omega
theorem popfrom_spec {w : World} {mg mb : Str → Option Value} {x dx : Addr} {us : List Value} {v : Value} {n k : Nat} {hh : Int} {kt t0 : Tok} {ti : Tok}
  {dp un : Nat} {gd : Option (List Code)} {cn : Str} {cs : Scope} {a : Addr} {ccd : Value} {cl : List (Str × Addr)} {outer : List Env} {A₀ : Around} {base h₀ : Heap} {L : Addr} {m : Str → Option Value} {s : Shared} {Q E : Value → Shared → Prop} (B : Below A₀ base outer h₀) (F : Fr h₀ L s.heap m) (X : (KK w.params).In h₀) (N : News h₀ L s.heap [(x, accO dx (us ++ [v]) n), (dx, dictOf [⟨hh, .str (Str.ofString "_initial_size") kt, .int 0 t0⟩] k)]) (T : TopRead VV LL mg mb h₀) (hk : cs.kind = .function) (hdp : dp + 5 < recursionLimit) (hun : un + 60 < cLine) (hz : us.length < 999)
  (ret : ∀ l s', ExtBut [x] s s' → s'.heap.get? x = some (accO dx us (n + 1)) → s'.heap.get? l = some (lst [v] 0) → s.heap.get? l = none → Q (.ref l) s') :
  wpAny (model PySem.Challenge.pw_oy0243_01 w) (ktrTop dp un gd cn cs L a ccd cl outer) (call (.ref 130) [.ref x, .int us.length ti]) Q E s := by
  refine wpAny_call ?_
  refine' enterM (binds := [(Str.ofString "self", .ref x), (Str.ofString "i", .int us.length ti)]) B F X N T rfl rfl hk ?ho ?hcd ?hroom ?hbind ?hloc ?hb ?c1 ?c2 ?c3 ?c4
  case ho => k_is
  case hcd => k_is
  case hroom => exact up0 hdp
  case hbind => exact binds_K (Frag.In.keeps X F.keep) rfl (by k_is) rfl rfl rfl
  case hloc => exact locs rfl
  case c1 => decide
  case c2 => exact rfl
  case c3 => exact rfl
  case c4 => exact rfl
  intro g L' h₁ tk₁ Kg F₁ N₁ B₁ X₁ T₁ hlt₁ hsz₁ hL₁
  first | refine' execsIs ?ebL ?_ | refine' execsIsAt ?ebL ?_
  case ebL => conv => lhs; whnf
  have og₀ := OG.refl s
  (try dsimp only)
  (try k_fold)
  have hne : @Ne Nat x dx := accNe (vs := us ++ [v]) N (.head _) (.tail _ (.head _))
  k_steps
  all_goals (try (with_reducible show Stop _; show wpAny _ _ _ _ _ _))
  refine' acc_subSlice (lo := some us.length) ?F ?X lcls ?N ?m1 ?m2 ?pl ?hz ?ht ?_
  case F => k_asm
  case X => first | assumption | k_asm
  case N => k_asm
  case m1 => k_mem
  case m2 => k_mem
  case pl => exact .int _ _
  case hz => simp; omega
  case ht => intro _; with_unfolding_all rfl
  rw [pick_last]
  intro l h2 F2 N2 l2
  have l3 : @LT.lt Nat _ x l := l2 _ (.head _)
  have l4 : @LT.lt Nat _ dx l := l2 _ (.tail _ (.head _))
  k_steps
  all_goals (try (with_reducible show Stop _; show wpAny _ _ _ _ _ _))
  (rename News g _ _ _ => Nz)
  (rename @LT.lt Nat _ l _ ∧ _ => lz)
  have hep : (if us.toArray.size == (us ++ [v]).toArray.size then n else n + 1) = n + 1 := by simp
  refine' acc_putSlice (lo := some us.length) (ws := []) (vs' := us) (nw := 0) ?F ?X lcls ?N ?m1 ?m2 ?pl ?hl ?hne ?hz ?e ?hz2 ?U ?_
  case F => k_asm
  case X => first | assumption | k_asm
  case N => k_asm
  case m1 => k_mem
  case m2 => k_mem
  case pl => exact .int _ _
  case hl => exact (Nz _ (.head _)).1
  case hne => exact Nat.ne_of_lt lz.2.1
  case hz => simp; omega
  case e => exact put_last us v
  case hz2 => omega
  case U => rw [hep]; k_upd
  intro h3 F3 N3
  k_steps
  all_goals (try (with_reducible show Stop _; show wpAny _ _ _ _ _ _))
  all_goals (try dsimp only)
  all_goals (try k_unfold)
  all_goals (try dsimp only)
  (rename News g _ _ _ => Nw)
  exact ret _ _ (extOut Kg (by assumption) N Nw (allC (.inl (.head _)) (allC (.inr (mth 3 rfl)) allN)) rfl (by assumption)) (Nw _ (mth 2 rfl)).1 (Nw _ (.tail _ (.head _))).1 (newOut Kg (Nw _ (.tail _ (.head _))).2.2 l2)
end
-- A8
section
open PySem PySem.W PySem.Spec PySem.Calls PyProof.Rows
set_option maxRecDepth 100000
set_option maxHeartbeats 8000000
theorem put_same (nm : Str) (hsh hh : Int) (key v u : Value) (kt : Tok) (k : Nat) : (putL nm hsh key v [⟨hh, .str nm kt, u⟩], putN nm [⟨hh, .str nm kt, u⟩] k) = ([⟨hh, .str nm kt, v⟩], k) := by
  have e : (Value.str nm kt).isStr nm = true := by simp [Value.isStr]
  simp [putL, putN, e]
theorem put_all (vs ws : List Value) : (vs.toArray.extract 0 (sliceBounds none none none vs.length).1.toNat ++ ws.toArray ++ vs.toArray.extract (max (sliceBounds none none none vs.length).1 (sliceBounds none none none vs.length).2.1).toNat vs.toArray.size) = ws.toArray := by
  have hb : sliceBounds none none none vs.length = (0, ((vs.length : Nat) : Int), 1) := by simp [sliceBounds]
  rw [hb]
  simp
  try omega
theorem reset_spec {w : World} {mg mb : Str → Option Value} {x dx : Addr} {vs : List Value} {n k : Nat} {hh : Int} {kt t0 : Tok} {l : Addr} {ws : List Value} {nw : Nat}
  {dp un : Nat} {gd : Option (List Code)} {cn : Str} {cs : Scope} {a : Addr} {ccd : Value} {cl : List (Str × Addr)} {outer : List Env} {A₀ : Around} {base h₀ : Heap} {L : Addr} {m : Str → Option Value} {s : Shared} {Q E : Value → Shared → Prop} (B : Below A₀ base outer h₀) (F : Fr h₀ L s.heap m) (X : (KK w.params).In h₀) (N : News h₀ L s.heap [(x, accO dx vs n), (dx, dictOf [⟨hh, .str (Str.ofString "_initial_size") kt, .int 0 t0⟩] k)]) (T : TopRead VV LL mg mb h₀) (hk : cs.kind = .function) (hdp : dp + 5 < recursionLimit) (hun : un + 60 < cLine) (hl : s.heap.get? l = some (lst ws nw)) (hz : vs.length + ws.length < 999)
  (ret : ∀ n' t' s', ExtBut [x, dx] s s' → s'.heap.get? x = some (accO dx ws n') → s'.heap.get? dx = some (dictOf [⟨hh, .str (Str.ofString "_initial_size") kt, .int 0 t'⟩] k) → Q .none s') :
  wpAny (model PySem.Challenge.pw_oy0243_01 w) (ktrTop dp un gd cn cs L a ccd cl outer) (call (.ref 160) [.ref x, .ref l]) Q E s := by
  refine wpAny_call ?_
  refine' enterM (binds := [(Str.ofString "self", .ref x), (Str.ofString "startval", .ref l)]) B F X N T rfl rfl hk ?ho ?hcd ?hroom ?hbind ?hloc ?hb ?c1 ?c2 ?c3 ?c4
  case ho => k_is
  case hcd => k_is
  case hroom => exact up0 hdp
  case hbind => exact binds_K (Frag.In.keeps X F.keep) rfl (by k_is) rfl rfl rfl
  case hloc => exact locs rfl
  case c1 => decide
  case c2 => exact rfl
  case c3 => exact rfl
  case c4 => exact rfl
  intro g L' h₁ tk₁ Kg F₁ N₁ B₁ X₁ T₁ hlt₁ hsz₁ hL₁
  first | refine' execsIs ?ebL ?_ | refine' execsIsAt ?ebL ?_
  case ebL => conv => lhs; whnf
  have og₀ := OG.refl s
  (try dsimp only)
  (try k_fold)
  have hne : @Ne Nat x dx := accNe N (.head _) (.tail _ (.head _))
  have hlx : @Ne Nat x l := fun e => by
    have z := (N _ (.head _)).1
    rw [show x = l from e, hl] at z
    cases z
  have hld : @Ne Nat dx l := fun e => by
    have z := (N _ (.tail _ (.head _))).1
    rw [show dx = l from e, hl] at z
    exact absurd (Option.some.inj z) (by simp [lst])
  have hlg : g.get? l = some (lst ws nw) := Kg l _ hl (by simp; exact ⟨fun e => hlx e.symm, fun e => hld e.symm⟩)
  k_steps
  refine' acc_putSlice (lo := none) (ws := ws) (vs' := ws) (nw := nw) ?F ?X lcls ?N ?m1 ?m2 ?pl ?hl ?hne ?hz ?e ?hz2 ?U ?_
  case F => k_asm
  case X => first | assumption | k_asm
  case N => k_asm
  case m1 => k_mem
  case m2 => k_mem
  case pl => exact .none
  case hl => exact F₁.keep _ _ hlg
  case hne => exact hlx
  case hz => first | omega | (simp; omega)
  case e => exact put_all vs _
  case hz2 => first | omega | (simp; try omega)
  case U => k_upd
  intro h3 F3 N3
  k_steps
  refine' acc_set ?F ?X lcls ?N ?m1 ?m2 ?hc ?hl ?e ?U ?hz ?_
  case F => k_asm
  case X => first | assumption | k_asm
  case N => k_asm
  case m1 => k_mem
  case m2 => k_mem
  case hc => k_is
  case hl => k_get
  case e => exact put_same _ _ _ _ _ _ _ _
  case U => k_upd
  case hz => exact Nat.le_of_ble_eq_true rfl
  intro h4 F4 N4
  k_steps
  all_goals (try dsimp only)
  all_goals (try k_unfold)
  all_goals (try dsimp only)
  (rename News g _ _ _ => Nw)
  exact ret _ _ _ (extOut Kg (by assumption) N Nw (allC (.inl (.head _)) (allC (.inl (.tail _ (.head _))) allN)) rfl (by assumption)) (Nw _ (.head _)).1 (Nw _ (.tail _ (.head _))).1
end
-- A9
section
open PySem PySem.W PySem.Spec PySem.Calls PyProof.Rows
set_option maxRecDepth 100000
set_option maxHeartbeats 8000000
theorem holdA {α : Type} {M : Model} {A : Around} {c : Code} {t : Sem α} {Q : α → Shared → Prop} {E : Value → Shared → Prop} {s : Shared} (h : _root_.PySem.wpAt M A c t (fun b s' => Hold (Q b s')) E s) : _root_.PySem.wpAt M A c t Q E s := ks_wpAt_mono h (fun _ _ z => z.out) fun _ _ z => z
theorem put_new (nm : Str) (hsh : Int) (key v : Value) (k : Nat) : (putL nm hsh key v [], putN nm [] k) = ([⟨hsh, key, v⟩], k + 1) := rfl
theorem reset0_spec {w : World} {mg mb : Str → Option Value} {x dx : Addr} {vs : List Value} {n k : Nat} {hh : Int} {kt t0 : Tok}
  {dp un : Nat} {gd : Option (List Code)} {cn : Str} {cs : Scope} {a : Addr} {ccd : Value} {cl : List (Str × Addr)} {outer : List Env} {A₀ : Around} {base h₀ : Heap} {L : Addr} {m : Str → Option Value} {s : Shared} {Q E : Value → Shared → Prop} (B : Below A₀ base outer h₀) (F : Fr h₀ L s.heap m) (X : (KK w.params).In h₀) (N : News h₀ L s.heap [(x, accO dx vs n), (dx, dictOf [⟨hh, .str (Str.ofString "_initial_size") kt, .int 0 t0⟩] k)]) (T : TopRead VV LL mg mb h₀) (hk : cs.kind = .function) (hdp : dp + 5 < recursionLimit) (hun : un + 60 < cLine) (hz : vs.length < 999)
  (ret : ∀ n' t' s', ExtBut [x, dx] s s' → s'.heap.get? x = some (accO dx [] n') → s'.heap.get? dx = some (dictOf [⟨hh, .str (Str.ofString "_initial_size") kt, .int 0 t'⟩] k) → Q .none s') :
  wpAny (model PySem.Challenge.pw_oy0243_01 w) (ktrTop dp un gd cn cs L a ccd cl outer) (call (.ref 160) [.ref x]) Q E s := by
  refine wpAny_call ?_
  refine' enterM (binds := [(Str.ofString "self", .ref x), (Str.ofString "startval", .none)]) B F X N T rfl rfl hk ?ho ?hcd ?hroom ?hbind ?hloc ?hb ?c1 ?c2 ?c3 ?c4
  case ho => k_is
  case hcd => k_is
  case hroom => exact up0 hdp
  case hbind => exact binds_K (Frag.In.keeps X F.keep) rfl (by k_is) rfl rfl rfl
  case hloc => exact locs rfl
  case c1 => decide
  case c2 => exact rfl
  case c3 => exact rfl
  case c4 => exact rfl
  intro g L' h₁ tk₁ Kg F₁ N₁ B₁ X₁ T₁ hlt₁ hsz₁ hL₁
  first | refine' execsIs ?ebL ?_ | refine' execsIsAt ?ebL ?_
  case ebL => conv => lhs; whnf
  have og₀ := OG.refl s
  (try dsimp only)
  (try k_fold)
  have hne : @Ne Nat x dx := accNe N (.head _) (.tail _ (.head _))
  k_steps
  (rename News g _ _ _ => Nz)
  (rename @LT.lt Nat _ x _ ∧ _ => lz)
  refine' acc_putSlice (lo := none) (ws := []) (vs' := []) (nw := 0) ?F ?X lcls ?N ?m1 ?m2 ?pl ?hl ?hne ?hz ?e ?hz2 ?U ?_
  case F => k_asm
  case X => first | assumption | k_asm
  case N => k_asm
  case m1 => k_mem
  case m2 => k_mem
  case pl => exact .none
  case hl => exact (Nz _ (.head _)).1
  case hne => exact Nat.ne_of_lt lz.1
  case hz => first | omega | (simp; omega)
  case e => exact put_all vs _
  case hz2 => first | omega | (simp; try omega)
  case U => k_upd
  intro h3 F3 N3
  k_steps
  refine' acc_set ?F ?X lcls ?N ?m1 ?m2 ?hc ?hl ?e ?U ?hz ?_
  case F => k_asm
  case X => first | assumption | k_asm
  case N => k_asm
  case m1 => k_mem
  case m2 => k_mem
  case hc => k_is
  case hl => k_get
  case e => exact put_same _ _ _ _ _ _ _ _
  case U => k_upd
  case hz => exact Nat.le_of_ble_eq_true rfl
  intro h4 F4 N4
  k_steps
  all_goals (try dsimp only)
  all_goals (try k_unfold)
  all_goals (try dsimp only)
  (rename News g _ _ _ => Nw)
  exact ret _ _ _ (extOut Kg (by assumption) N Nw (allC (.inl (.head _)) (allC (.inl (.tail _ (.head _))) allN)) rfl (by assumption)) (Nw _ (.tail _ (.head _))).1 (Nw _ (mth 2 rfl)).1
theorem ainit_spec {w : World} {mg mb : Str → Option Value} {x dx : Addr} {n k : Nat} {ti : Tok}
  {dp un : Nat} {gd : Option (List Code)} {cn : Str} {cs : Scope} {a : Addr} {ccd : Value} {cl : List (Str × Addr)} {outer : List Env} {A₀ : Around} {base h₀ : Heap} {L : Addr} {m : Str → Option Value} {s : Shared} {Q E : Value → Shared → Prop} (B : Below A₀ base outer h₀) (F : Fr h₀ L s.heap m) (X : (KK w.params).In h₀) (N : News h₀ L s.heap [(x, accO dx [] n), (dx, dictOf [] k)]) (T : TopRead VV LL mg mb h₀) (hk : cs.kind = .function) (hdp : dp + 5 < recursionLimit) (hun : un + 60 < cLine)
  (ret : ∀ hh kt s', ExtBut [x, dx] s s' → s'.heap.get? x = some (accO dx [] n) → s'.heap.get? dx = some (dictOf [⟨hh, .str (Str.ofString "_initial_size") kt, .int 0 ti⟩] (k + 1)) → Q .none s') :
  wpAny (model PySem.Challenge.pw_oy0243_01 w) (ktrTop dp un gd cn cs L a ccd cl outer) (call (.ref 115) [.ref x, .int 0 ti]) Q E s := by
  refine wpAny_call ?_
  refine' enterSM (binds := [(Str.ofString "self", .ref x), (Str.ofString "initial_size", .int 0 ti)]) B F X N T rfl rfl hk ?ho ?hcd ?hroom ?hbind ?hloc ?hb ?c1 ?c2 ?c3 ?c4
  case ho => k_is
  case hcd => k_is
  case hroom => exact up0 hdp
  case hbind => exact binds_K (Frag.In.keeps X F.keep) rfl (by k_is) rfl rfl rfl
  case hloc => exact locs rfl
  case c1 => decide
  case c2 => exact rfl
  case c3 => exact rfl
  case c4 => exact rfl
  intro g L' h₁ tk₁ Kg F₁ N₁ B₁ X₁ T₁ hlt₁ hsz₁ hL₁
  first | refine' execsIs ?ebL ?_ | refine' execsIsAt ?ebL ?_
  case ebL => conv => lhs; whnf
  have og₀ := OG.refl s
  (try dsimp only)
  have hne : @Ne Nat x dx := accNe (vs := []) N (.head _) (.tail _ (.head _))
  refine ks_wpAt_execs_cons (holdA (ks_wpAt_Assign_Attr ?_))
  refine wpAt_of_wpAny ?_
  (try k_fold)
  k_steps
  refine' acc_set ?F ?X lcls ?N ?m1 ?m2 ?hc ?hl ?e ?U ?hz ?_
  case F => k_asm
  case X => first | assumption | k_asm
  case N => k_asm
  case m1 => k_mem
  case m2 => k_mem
  case hc => k_is
  case hl => k_get
  case e => exact put_new _ _ _ _ _
  case U => k_upd
  case hz => exact Nat.le_of_ble_eq_true rfl
  intro h4 F4 N4
  (try k_sweep)
  refine Hold.mk ?_
  refine ks_wpAt_execs_cons (ks_wpAt_Expr_any (ks_wpAt_MethodCall (pl := _) ?_))
  refine' superCall (pl := _) sup_init ?F ?X lcls ?N ?T ?m1 ?m2 ?hf ?hp ?hv ?hcode ?hvs ?hfile ?hcell ?hD ?hsub ?hsuper ?hat ?hks ?hkc ?hka ?hk ?htop ?hboot ?ho ?hm ?hc ?_
  case F => k_asm
  case X => first | assumption | k_asm
  case N => k_asm
  case T => first | assumption | k_asm
  case m1 => k_mem
  case m2 => k_mem
  case hf => k_is
  case hp => exact rfl
  case hv => exact rfl
  case hcode => k_is
  case hvs => exact rfl
  case hfile => first | rfl | decide +kernel
  case hcell => k_is
  case hD => k_is
  case hsub => k_is
  case hsuper => k_is
  case hat => decide
  case hks => exact rfl
  case hkc => exact rfl
  case hka => exact rfl
  case hk => exact rfl
  case htop => decide +kernel
  case hboot => first | boot_by_name | rfl | kernel_rfl
  case ho => k_is
  case hm => exact rfl
  case hc => exact fun _ _ h => chk_init h
  intro so bo h' tk' F' N' l1 l2
  have l3 : @LT.lt Nat _ x so := l1 _ (.head _)
  have l4 : @LT.lt Nat _ dx so := l1 _ (.tail _ (.head _))
  have l5 : @LT.lt Nat _ so bo := l2
  refine' accB_init F' N' ?m1 ?U ?_
  case m1 => exact .tail _ (.tail _ (.head _))
  case U => k_upd
  intro h2 F2 N2
  refine wpAt_of_wpAny (wpAny_execs_nil ?_)
  exact ret _ _ _ (extOut Kg F2 N N2 (allC (.inl (.head _)) (allC (.inl (.tail _ (.head _))) allN)) rfl og₀) (N2 _ (mth 2 rfl)).1 (N2 _ (mth 3 rfl)).1
end
-- A10
section
open PySem PySem.W PySem.Spec PySem.Calls PyProof.Rows
set_option maxRecDepth 100000
set_option maxHeartbeats 8000000
abbrev tabO (ps : Array Value) : Obj := { cls := .none, data := .fields ps }
section
variable {prog : Program} {w : World} {A : Around} {E : Value → Shared → Prop} {s : Shared}
theorem genCode {M : Model} {env : Env} {c P : Addr} {ps : Array Value} {pos : Pos} {qualname : Str} {scope : Scope} {Q : Value → Shared → Prop} (hc : env.code = .ref c) (hok : s.heap.IsCode c P ps) (htab : s.heap.TableAt c P ps)
    (hQ : ∀ code h' tk ps', Heap.ExtBut P s.heap h' → s.heap.objs.size ≤ h'.objs.size → h'.IsCode c P ps' → h'.TableAt c P ps' → Q code { s with heap := h', toks := tk }) :
    wpAny M A (genexprCode env pos qualname scope) Q E s := by
  cases hnf : codeAmong pos ps.toList with
  | none => exact wpAny_genexprCodeX hc hok htab hnf fun c' h' tk hx hge hlt hcode _ ht _ => hQ _ h' tk _ hx (Nat.le_trans hge (Nat.le_of_lt hlt)) hcode ht
  | some cv =>
    obtain ⟨o, vs, file, tf, flags, tg, inF, text, tt, op, ho, hd, h11, h2, h7, h9, h10, hop, hpd, htr, hne⟩ := id hok
    unfold genexprCode codeAt
    rw [hc, if_neg (show ¬ ((Value.ref c == Value.none) = true) from Bool.false_ne_true)]
    refine wpAny_bind (wpAny_fieldsOf ho hd ?_)
    rw [h11]
    refine wpAny_bind (wpAny_fieldsOf hop hpd ?_)
    rw [hnf]
    exact wpAny_pure (hQ cv s.heap s.toks ps (Heap.ExtBut.refl _ _) (Nat.le_refl _) hok htab)
theorem call_sum2 {x : Value} {tz : Tok} {Q : Value → Shared → Prop}
    (h : wpAny (model prog w) A.in1 (pyIter x) (fun it s₂ => ∃ I fp wr G n P St val, it = .ref I ∧ WalksS prog w A.in1 I fp wr G n P St ∧ St 0 s₂ ∧ (∀ b ∈ fp, b < s₂.heap.objs.size) ∧
      (∀ i v, P i v → ∃ t, v = .int (val i) t) ∧ (∀ j, j < n → InLong (val j) ∧ InLong (preSum val (j + 1))) ∧
      ∀ s' t', Moved wr G s₂ s' → Q (.int (preSum val n) t') s') E s) :
    wpAny (model prog w) A (call (.builtin "sum") [x, .int 0 tz]) Q E s := by
  refine call_function_tree PySem.F.kind_sum PySem.F.plain_sum PySem.F.entry_sum (by unfold argsOk; kernel_rfl) ?_
  unfold Builtin.«sum»
  simp only [List.length_cons, List.length_nil]
  rw [if_neg (by decide)]
  refine wpAny_bind (wpAny_of_eq (show Builtin.Builtins.bindParams "sum" ["start"] 0 ⟨[.int 0 tz], []⟩ = pure [some (.int 0 tz)] from rfl) ?_)
  refine wpAny_bind (wpAny_mono h (fun it s₂ h₂ => ?_) fun _ _ e => e)
  obtain ⟨I, fp, wr, G, n, P, St, val, rfl, W, hst, hfp, hval, hfit, hQ⟩ := h₂
  dsimp only
  rw [if_pos (by decide +kernel)]
  refine wpAny_bind (wpAny_rule (wpAny_bind (wpAny_mkInt ?_)))
  refine wpAny_bind (wpAny_pure ?_)
  simp only [List.forIn_cons, List.forIn_nil]
  refine wpAny_bind (wpAny_bind (wpAny_bind (wpAny_isInstance (T := "int") (b := false) (typeIs_int _ _ _) PySem.sub_int_str ?_)))
  simp only [Bool.false_eq_true, if_false]
  refine wpAny_pure (wpAny_bind (wpAny_bind (wpAny_isInstance (T := "int") (b := false) (typeIs_int _ _ _) PySem.sub_int_bytes ?_)))
  simp only [Bool.false_eq_true, if_false]
  refine wpAny_pure (wpAny_bind (wpAny_bind (wpAny_isInstance (T := "int") (b := false) (typeIs_int _ _ _) PySem.sub_int_bytearray ?_)))
  simp only [Bool.false_eq_true, if_false]
  refine wpAny_pure (wpAny_pure ?_)
  refine wpAny_bind (wpAny_newObj_type ?_)
  have hSf : s₂.heap.objs.size ∉ fp := fun hm => Nat.lt_irrefl _ (hfp _ hm)
  refine wpAny_pure ⟨plainId_quiet PySem.F.plain_sum_loop _, codeAny_sum_loopS W val hval hfit s₂.heap.objs.size hSf n 0 _ s₂.toks 0 rfl (Nat.zero_le _)
    (W.frame 0 s₂ _ _ hst (by first | exact Nat.le_refl _ | exact Nat.le_succ _ | omega) fun b _ o e => Heap.get?_push_of_some _ e) (Heap.get?_push_size _ rfl) fun s' t' hm => ?_⟩
  exact hQ s' t' (hm.drop_new (by first | exact Nat.le_refl _ | exact Nat.le_succ _ | omega))
theorem passing_range (n : Nat) : passing (fun _ => true) n 0 = List.range n := by simp [passing]
/-- behind the genexp's iterator: the code object, the names, the generator -/
theorem genRest {env : Env} {scope : Scope} {cl : List (Str × Addr)} {pos : Pos} {elt : Expr} {xa xb : Str} {h₀ : Heap} {L x dx P c bm : Addr} {m mg : Str → Option Value} {ob : Obj} {vs : List Value} {n : Nat} {ps : Array Value} {news : List (Addr × Obj)} {Ts : Nat → Addr} {va vb : Nat → Value} {Fv : Nat → Value → Prop} {Q : Value → Shared → Prop}
    (hh : A.handled = none) (F : Fr h₀ L s.heap m) (N : News h₀ L s.heap news) (h1 : (x, accO dx vs n) ∈ news) (hP : (P, tabO ps) ∈ news) (hxP : x ≠ P)
    (hcode : env.code = .ref c) (hok : s.heap.IsCode c P ps) (htab : s.heap.TableAt c P ps) (hlim : h₀.NoLimit) (M : BMod h₀ env.globals mg bm ob)
    (hvs : ∀ j, j < vs.length → vs[j]? = some (.ref (Ts j))) (htp : ∀ j, j < vs.length → h₀.get? (Ts j) = some (tup [va j, vb j] 0))
    (hq : ∀ (code : Value) (L₄ : Addr) (href : Heap), s.heap.objs.size < L₄ → (∀ b o, h₀.get? b = some o → href.get? b = some o) →
      QuietGenT prog w (genEnv scope cl L₄ code builtinsNs env) xa xb [] elt (List.range L₄) [s.heap.objs.size] (fun i v => v = #[va i, vb i]) (fun _ => true) Fv href)
    (hQ : ∀ a s₅ ps', Gen prog w A (s.heap.objs.size - 1) a vs.length Fv s₅ → (∀ b o, b ≠ P → s.heap.get? b = some o → s₅.heap.get? b = some o) → s₅.heap.get? P = some (tabO ps') → TriplesOk ps'.toList → s₅.os = s.os → (AllBare s.gens → AllBare s₅.gens) → Q (.ref a) s₅) :
    (s.heap.push { cls := .type "list_iterator", data := .fields #[.ref x, .int 0 0] }).NoLimit ∧
    wpAny (model prog w) A (genexprCode env pos (env.qual ++ "<genexpr>") scope) (fun code s₃ => wpAny (model prog w) A (builtinsFor env.globals env.builtins) (fun bi s₄ =>
        ∃ I fp wr n₀ Pt St₀ Mid pz F, Value.ref s.heap.objs.size = .ref I ∧ (∀ A' : Around, A'.handled = none → WalksU prog w A' I fp wr n₀ Pt St₀ Mid) ∧ (∀ i vals, Pt i vals → ∃ va vb, vals = #[va, vb]) ∧ St₀ 0 s₄.heap ∧ (∀ b ∈ fp, b < s₄.heap.objs.size) ∧ s₄.heap.NoLimit ∧ cStatics ∉ wr ∧
          (∀ href : Heap, (∀ b o, s₄.heap.get? b = some o → href.get? b = some o) →
            QuietGenT prog w (genEnv scope cl s₄.heap.objs.size code bi env) xa xb [] elt (List.range s₄.heap.objs.size) wr Pt pz F href) ∧
          (∀ a h₅ tk gs, gs.bare = true → s₄.heap.objs.size < a → h₅.objs.size = a + 1 → (∀ b o, s₄.heap.get? b = some o → h₅.get? b = some o) →
            WalksS prog w A.in4 a (a :: s₄.heap.objs.size :: List.range s₄.heap.objs.size) (s₄.heap.objs.size :: wr) (GenOnlyQ s₄.gens.size) (passing pz n₀ 0).length
              (fun j y => ∃ i, (passing pz n₀ 0)[j]? = some i ∧ F i y) (GenAt prog w A.in4 a s₄.gens.size s₄.heap.objs.size (List.range s₄.heap.objs.size) wr pz n₀ F) →
            GenAt prog w A.in4 a s₄.gens.size s₄.heap.objs.size (List.range s₄.heap.objs.size) wr pz n₀ F 0 { s₄ with gens := s₄.gens.push gs, toks := tk, heap := h₅ } →
            Q (.ref a) { s₄ with gens := s₄.gens.push gs, toks := tk, heap := h₅ })) E s₃) E { s with heap := s.heap.push { cls := .type "list_iterator", data := .fields #[.ref x, .int 0 0] } } := by
  have lim : s.heap.NoLimit := hlim.keeps F.keep
  have lim2 : (s.heap.push { cls := .type "list_iterator", data := .fields #[.ref x, .int 0 0] }).NoLimit := lim.push _
  refine ⟨lim2, genCode (s := { s with heap := s.heap.push { cls := .type "list_iterator", data := .fields #[.ref x, .int 0 0] } }) hcode (hok.push _) (htab.keeps fun _ _ e => Heap.get?_push_of_some _ e) fun code h₃ tk₃ ps' hx₃ hsz hok₃ htab₃ => ?_⟩
  dsimp only at hx₃ hsz
  rw [Heap.size_push] at hsz
  have hPlt : P < s.heap.objs.size := Heap.lt_size (N _ hP).1
  have keep₃ : ∀ b o, b ≠ P → s.heap.get? b = some o → h₃.get? b = some o := fun b o hb e => hx₃ b o hb (Heap.get?_push_of_some _ e)
  have neP : ∀ b o, h₀.get? b = some o → b ≠ P := fun b o e hb => by rw [hb, (N _ hP).2.2] at e; cases e
  have keep₀ : ∀ b o, h₀.get? b = some o → h₃.get? b = some o := fun b o e => keep₃ b o (neP b o e) (F.keep b o e)
  have M₃ := M.keeps keep₀
  refine wpAny_builtinsFor M₃.ns M₃.name M₃.ne M₃.obj M₃.cls M₃.dict M₃.data ?_
  have hIP : s.heap.objs.size ≠ P := Nat.ne_of_gt hPlt
  have hx := (N _ h1).1
  have hxI : x ≠ s.heap.objs.size := Nat.ne_of_lt (Heap.lt_size hx)
  have hTI : ∀ j, j < vs.toArray.size → Ts j ≠ s.heap.objs.size := fun j hj => Nat.ne_of_lt (Heap.lt_size (F.keep _ _ (htp j (by simpa using hj))))
  refine ⟨s.heap.objs.size, s.heap.objs.size :: x :: (List.range vs.toArray.size).map Ts, [s.heap.objs.size], vs.toArray.size, fun j v => v = #[va j, vb j], _, _, fun _ => true, Fv, rfl,
    (fun A' hA => walksAcc hA s.heap.objs.size x hxI vs.toArray Ts (fun j => #[va j, vb j]) (fun j hj => by simpa using hvs j (by simpa using hj)) hTI), (fun i vals e => ⟨_, _, e⟩), ?_, ?_, hlim.keeps keep₀, ?_, ?_, ?_⟩
  · refine ⟨⟨_, hx₃ _ _ hIP (Heap.get?_push_size _ rfl), rfl, rfl⟩, ⟨_, keep₃ _ _ hxP hx, _, rfl⟩, fun j hj => ?_⟩
    exact ⟨_, keep₀ _ _ (htp j (by simpa using hj)), rfl, _, rfl⟩
  · intro b hb
    show b < h₃.objs.size
    rcases List.mem_cons.mp hb with rfl | hb
    · exact hsz
    · rcases List.mem_cons.mp hb with rfl | hb
      · exact Nat.lt_of_lt_of_le (Heap.lt_size hx) (Nat.le_of_succ_le hsz)
      · obtain ⟨j, hj, rfl⟩ := List.mem_map.mp hb
        exact Heap.lt_size (keep₀ _ _ (htp j (by simpa using List.mem_range.mp hj)))
  · intro hm
    have hc : cStatics < s.heap.objs.size := let ⟨_, hn, _⟩ := lim; hn.lt
    rcases List.mem_cons.mp hm with e | hb
    · exact absurd (e ▸ hc) (Nat.lt_irrefl _)
    · cases hb
  · intro href hhref
    exact hq code h₃.objs.size href hsz fun b o e => hhref b o (keep₀ b o e)
  · intro a h₅ tk gs hgb hag hsz₅ hk₅ W hat
    have hlen : (passing (fun _ => true) vs.toArray.size 0).length = vs.length := by rw [passing_range]; simp
    refine hQ a _ ps' ?_ (fun b o hb e => hk₅ b o (keep₃ b o hb e)) (hk₅ _ _ htab₃.2) ?_ rfl (fun G => AllBare.push G hgb)
    · have X : Gen prog w A (s.heap.objs.size - 1) a (passing (fun _ => true) vs.toArray.size 0).length (fun j y => ∃ i, (passing (fun _ => true) vs.toArray.size 0)[j]? = some i ∧ Fv i y) { s with heap := h₅, gens := s.gens.push gs, toks := tk } := by
        refine ⟨_, _, _, _, W, hat, (fun i s' st => st.1.typeIs), List.mem_cons_self, ?_, ?_⟩
        · intro b hb
          show b < h₅.objs.size
          rw [hsz₅]
          rcases List.mem_cons.mp hb with rfl | hb
          · exact Nat.lt_succ_self _
          · rcases List.mem_cons.mp hb with rfl | hb
            · exact Nat.lt_succ_of_lt hag
            · exact Nat.lt_succ_of_lt (Nat.lt_trans (List.mem_range.mp hb) hag)
        · intro b hb
          rcases List.mem_cons.mp hb with rfl | hb
          · exact Nat.lt_of_le_of_lt (Nat.sub_le _ _) hsz
          · rcases List.mem_cons.mp hb with rfl | hb
            · exact Nat.sub_lt (Nat.lt_of_le_of_lt (Nat.zero_le _) hPlt) Nat.one_pos
            · cases hb
      rw [hlen] at X
      refine Gen.imp X fun j y hy => ?_
      obtain ⟨i, hi, hf⟩ := hy
      rw [passing_range] at hi
      have : i = j := by
        have hj := List.getElem?_eq_some_iff.mp hi
        obtain ⟨hj1, hj2⟩ := hj
        simpa using hj2.symm
      exact this ▸ hf
    · obtain ⟨_, _, _, _, _, _, _, _, _, op, _, _, _, _, _, _, _, hop, hpd, htr, _⟩ := hok₃
      exact htr
theorem accGen {K : Frag} {env : Env} {scope : Scope} {cl : List (Str × Addr)} {pos : Pos} {elt iter : Expr} {xa xb : Str} {pa pb pt : Pos} {kt : Nat} {h₀ : Heap} {L x dx P c bm : Addr} {m mg : Str → Option Value} {ob : Obj} {vs : List Value} {n k : Nat} {es : List DictEntry} {ps : Array Value} {news : List (Addr × Obj)} {Q : Value → Shared → Prop}
    (Ts : Nat → Addr) (va vb : Nat → Value) (Fv : Nat → Value → Prop)
    (hco : scope.isCoroutine = false) (hclos : closureFor scope env = pure cl) (hcell : ∀ y ∈ scope.names, y.2 ≠ .cell) (h0 : scope.names.lookup (".0" : Str) = some NameKind.local)
    (hxa : scope.names.lookup xa = some .local) (hxb : scope.names.lookup xb = some .local) (hab : xa ≠ xb) (hkind : scope.kind = .function) (hroom : A.depth < recursionLimit) (hs : ∀ x, genFold iter env x = pure x)
    (hself : ∀ (Q' : Value → Shared → Prop), Q' (.ref x) s → wpAny (model prog w) A (eval iter env) Q' E s)
    (hh : A.handled = none) (F : Fr h₀ L s.heap m) (X₀ : K.In h₀) (H : LCls K 178) (N : News h₀ L s.heap news) (h1 : (x, accO dx vs n) ∈ news) (h2 : (dx, dictOf es k) ∈ news) (hP : (P, tabO ps) ∈ news) (hxP : x ≠ P)
    (hcode : env.code = .ref c) (hok : s.heap.IsCode c P ps) (htab : s.heap.TableAt c P ps) (hlim : h₀.NoLimit) (M : BMod h₀ env.globals mg bm ob)
    (hvs : ∀ j, j < vs.length → vs[j]? = some (.ref (Ts j))) (htp : ∀ j, j < vs.length → h₀.get? (Ts j) = some (tup [va j, vb j] 0))
    (hq : ∀ (code : Value) (L₄ : Addr) (href : Heap), s.heap.objs.size < L₄ → (∀ b o, h₀.get? b = some o → href.get? b = some o) →
      QuietGenT prog w (genEnv scope cl L₄ code builtinsNs env) xa xb [] elt (List.range L₄) [s.heap.objs.size] (fun i v => v = #[va i, vb i]) (fun _ => true) Fv href)
    (hQ : ∀ a s₅ ps', Gen prog w A (s.heap.objs.size - 1) a vs.length Fv s₅ → (∀ b o, b ≠ P → s.heap.get? b = some o → s₅.heap.get? b = some o) → s₅.heap.get? P = some (tabO ps') → TriplesOk ps'.toList → s₅.os = s.os → (AllBare s.gens → AllBare s₅.gens) → Q (.ref a) s₅) :
    wpAny (model prog w) A (eval (.GeneratorExp elt [⟨.Tuple [.Name xa pa, .Name xb pb] kt pt, iter, [], 0⟩] scope pos) env) Q E s :=
  wpAny_GeneratorExp_walksQT hh hco hclos hcell h0 hxa hxb hab hkind hroom (hself _ (acc_iter F X₀ H N h1 h2 (genRest hh F N h1 hP hxP hcode hok htab hlim M hvs htp hq hQ))) hs
end
end
-- A11
section
open PySem PySem.W PySem.Spec PySem.Calls PyProof.Rows
set_option maxRecDepth 100000
set_option maxHeartbeats 2000000
def PartsAt (h : Heap) (vs : List Value) (ws : List Str) : Prop := ∃ (Ts : Nat → Addr) (u1 u2 : Nat → Tok), vs.length = ws.length ∧ ∀ j, j < vs.length → vs[j]? = some (.ref (Ts j)) ∧ h.get? (Ts j) = some (tup [.str sp (u1 j), .str (ws.getD j sp) (u2 j)] 0)
theorem keepG {s : Shared} {h₀ g : Heap} {L : Addr} {m : Str → Option Value} {news : List (Addr × Obj)} (F : Fr h₀ L s.heap m) (N : News h₀ L s.heap news) (Kg : ∀ b o, s.heap.get? b = some o → b ∉ news.map (·.1) → g.get? b = some o) : ∀ b o, h₀.get? b = some o → g.get? b = some o := fun b o e => Kg b o (F.keep b o e) fun hm => by
  obtain ⟨p, hp, rfl⟩ := List.mem_map.mp hm
  rw [(N p hp).2.2] at e
  cases e
theorem isCodeOf {K : Frag} {g h : Heap} {c P : Addr} {ps fs : Array Value} {d : Option Addr} {sl : Array (Option Value)} {file : Str} {tf : Tok} {flags text : Int} {tg tt : Tok} {inF : Bool} (X : K.In g) (hk : ∀ b o, g.get? b = some o → h.get? b = some o) (hl : K.lookup c = some ⟨.type "code", d, .fields fs, sl⟩) (h11 : fs.getD 11 .none = .ref P) (h11' : fs[11]? = some (.ref P))
    (h18 : fs.getD 18 .none = .str file tf) (h7 : fs.getD 7 .none = .int flags tg) (h9 : fs.getD 9 .none = .bool inF) (h10 : fs.getD 10 .none = .int text tt) (hP : h.get? P = some (tabO ps)) (htr : TriplesOk ps.toList) (hne : c ≠ P) : h.IsCode c P ps ∧ h.TableAt c P ps :=
  ⟨⟨_, fs, file, tf, flags, tg, inF, text, tt, _, hk _ _ (X _ _ hl), rfl, h11, h18, h7, h9, h10, hP, rfl, htr, hne⟩, ⟨_, fs, hk _ _ (X _ _ hl), rfl, rfl, h11'⟩, hP⟩
def lenv (ws : List Str) (j : Nat) : Int := ((sp.length : Nat) : Int) + (((ws.getD j sp).length : Nat) : Int)
theorem genFrame {prog : Program} {w : World} {A : Around} {K a : Addr} {n : Nat} {Fv : Nat → Value → Prop} {s : Shared} (X : Gen prog w A K a n Fv s) {h' : Heap} {tk : Nat} (ht : s.toks ≤ tk) (hk : ∀ b o, s.heap.get? b = some o → h'.get? b = some o) (hs : s.heap.objs.size ≤ h'.objs.size) : Gen prog w A K a n Fv { s with heap := h', toks := tk } := by
  obtain ⟨fp, wr, g, St, W, hst, hT, ha, hfp, hwr⟩ := X
  exact ⟨fp, wr, g, St, W, W.frame 0 s h' tk hst ht fun b _ o e => hk b o e, hT, ha, fun b hb => Nat.lt_of_lt_of_le (hfp b hb) hs, hwr⟩
theorem sum2Gen {prog : Program} {w : World} {A : Around} {K a : Addr} {n : Nat} {Fv : Nat → Value → Prop} {s : Shared} {tz : Tok} {E : Value → Shared → Prop} {Q : Value → Shared → Prop} (X : Gen prog w A K a n Fv s) (val : Nat → Int) (hval : ∀ j v, Fv j v → ∃ t, v = .int (val j) t) (hfit : ∀ j, j < n → InLong (val j) ∧ InLong (preSum val (j + 1)))
    (hQ : ∀ t' s', (∀ b o, b ≤ K → s.heap.get? b = some o → s'.heap.get? b = some o) → s'.os = s.os → (AllBare s.gens → AllBare s'.gens) → Q (.int (preSum val n) t') s') : wpAny (model prog w) A (call (.builtin "sum") [.ref a, .int 0 tz]) Q E s := by
  obtain ⟨fp, wr, g, St, W, hst, _, _, hfp, hwr⟩ := X
  have W := W.in4_1
  exact call_sum2 (W.self 0 _ _ _ hst ⟨a, _, _, _, _, _, _, val, rfl, W, hst, hfp, hval, hfit, fun s' t' hm => hQ t' s' (fun b o hb e => hm.heap b o (fun hmem => Nat.lt_irrefl _ (Nat.lt_of_lt_of_le (hwr b hmem) hb)) e) hm.os fun G => G.movedS hm⟩)
section
variable {M : Model} {prog : Program} {w : World} {A : Around} {E : Value → Shared → Prop} {s : Shared} {K : Frag} {h₀ : Heap} {m mg mb : Str → Option Value} {env : Env} {x : Str} {pos p1 p2 p3 p4 p5 p6 p7 : Pos} {v : Value} {Q : Value → Shared → Prop} {p : Program} {loose : List Str} {va vb : Str} {ua ub ue : Tok} {kt : Nat}
theorem gnL (hk : env.scope.kind = .function) (hx : env.kindOf x = some .local) (F : Fr h₀ env.locals s.heap m) (hv : m x = some v) (h : Q v s) (hd : (x == ("__debug__" : Str)) = false := by decide) : wpAny M A (eval (.Name x pos) env) Q E s := wpAny_Name (wpAny_loadName_local hk hx F.ns hv h) hd
theorem gnB (hk : env.scope.kind = .function) (hx : env.kindOf x = some .globalImplicit) (hg : env.globals = mainGlobals) (hb : env.builtins = builtinsNs) (F : Fr h₀ env.locals s.heap m) (X : K.In h₀) (T : TopRead p loose mg mb h₀) (e : nsIn K mainGlobals x = some none) (hv : bootBuiltins x = some v) (hn : x ≠ "__name__") (h : Q v s) (hd : (x == ("__debug__" : Str)) = false := by decide) : wpAny M A (eval (.Name x pos) env) Q E s :=
  Name_function_global hk hx (loadGlobal_builtin (env := env) (by rw [hg]; exact T.g.keeps F.keep) (mg_none_of X T.g e) (by rw [hb]; exact T.b.keeps F.keep) ((T.builtins x hn).trans hv) h) hd
theorem gnK (hk : env.scope.kind = .function) (hx : env.kindOf x = some .globalImplicit) (hg : env.globals = mainGlobals) (F : Fr h₀ env.locals s.heap m) (X : K.In h₀) (T : TopRead p loose mg mb h₀) (e : nsIn K mainGlobals x = some (some v)) (h : Q v s) (hd : (x == ("__debug__" : Str)) = false := by decide) : wpAny M A (eval (.Name x pos) env) Q E s :=
  Name_function_global hk hx (loadGlobal_global (env := env) (by rw [hg]; exact T.g.keeps F.keep) (mg_of X T.g e) h) hd
theorem gnLen1 {u : Tok} (hk : env.scope.kind = .function) (hl : env.kindOf "len" = some .globalImplicit) (hx : env.kindOf x = some .local) (hg : env.globals = mainGlobals) (hb : env.builtins = builtinsNs) (F : Fr h₀ env.locals s.heap m) (X : K.In h₀) (T : TopRead p loose mg mb h₀) (e : nsIn K mainGlobals "len" = some none) (hv : m x = some (.str va u)) (hz : va.length ≤ 1000)
    (h : ∀ t tk, Q (.int va.length t) { s with toks := tk }) (hd : (x == ("__debug__" : Str)) = false := by decide) : wpAny (model prog w) A (eval (.Call (.Name "len" p1) [.Name x p2] [] p3) env) Q E s :=
  Call_ (gnB hk hl hg hb F X T e boot_len (by decide) (callWith_builtin1 (args_cons (gnL hk hx F hv (args_nil (P.len_str (by omega) (h _ _))) hd))))
theorem gnLenSum (hk : env.scope.kind = .function) (hl : env.kindOf "len" = some .globalImplicit) (hxa : env.kindOf "fws" = some .local) (hxb : env.kindOf "part" = some .local) (hg : env.globals = mainGlobals) (hb : env.builtins = builtinsNs) (F : Fr h₀ env.locals s.heap m) (X : K.In h₀) (T : TopRead p loose mg mb h₀) (e : nsIn K mainGlobals "len" = some none)
    (hva : m "fws" = some (.str va ua)) (hvb : m "part" = some (.str vb ub)) (za : va.length ≤ 1000) (zb : vb.length ≤ 1000) :
    wpAny (model prog w) A (eval (.BinOp (.Call (.Name "len" p1) [.Name "fws" p2] [] p3) .Add (.Call (.Name "len" p4) [.Name "part" p5] [] p6) p7) env) (fun y s₃ => (∃ t, y = .int (((va.length : Nat) : Int) + ((vb.length : Nat) : Int)) t) ∧ Keeps s s₃) E s :=
  wpAny_BinOp (gnLen1 hk hl hxa hg hb F X T e hva za fun _ _ => gnLen1 (h₀ := h₀) (m := m) hk hl hxb hg hb F X T e hvb zb fun _ _ => PyProof.Rows.add_int ⟨⟨_, rfl⟩, s.heap, _, rfl, fun _ _ e => e⟩)
theorem gnJoin (hk : env.scope.kind = .function) (hl : env.kindOf "EMPTYSTRING" = some .globalImplicit) (hxa : env.kindOf "fws" = some .local) (hxb : env.kindOf "part" = some .local) (hg : env.globals = mainGlobals) (F : Fr h₀ env.locals s.heap m) (X : K.In h₀) (T : TopRead p loose mg mb h₀) (e : nsIn K mainGlobals "EMPTYSTRING" = some (some (.str (Str.ofString "") ue)))
    (hva : m "fws" = some (.str va ua)) (hvb : m "part" = some (.str vb ub)) (za : va.length ≤ 1000) (zb : vb.length ≤ 1000)
    (he : ∃ pl, eval (.Call (.Attribute (.Name "EMPTYSTRING" p1) "join" p2) [.Tuple [.Name "fws" p3, .Name "part" p4] kt p5] [] p6) env = (do
      let ov ← eval (.Name "EMPTYSTRING" p1) env
      standAt p2.atName
      let (f, first) ← holding [ov] (getMethod ov "join" pl)
      callWith p6 f first (backTo p6 (starEach [.Tuple [.Name "fws" p3, .Name "part" p4] kt p5] env)) [])) :
    wpAny (model prog w) A (eval (.Call (.Attribute (.Name "EMPTYSTRING" p1) "join" p2) [.Tuple [.Name "fws" p3, .Name "part" p4] kt p5] [] p6) env) (fun y s₃ => (∃ t, y = .str (va ++ vb) t) ∧ Keeps s s₃) E s := by
  obtain ⟨pl, he⟩ := he
  refine MethodCall_ (pl := pl) ?_ he
  refine gnK hk hl hg F X T e (PySem.GM.join (callWith_method1 (args_cons (Tuple_ (args_cons (gnL hk hxa F hva (args_cons (gnL hk hxb F hvb (args_nil ?_)))))))))
  refine newTuple_NK F News.nil fun h' F' N' k' => args_nil (join_tupleW (ys := [va, vb]) (N'.isTup (.head _)) (.cons _ _ (.cons _ _ .nil)) (by decide) (by simp; omega) fun t' k => ⟨⟨t', ?_⟩, h', k, rfl, k'⟩)
  rw [txt_join]
  exact congrArg (fun z => Value.str z t') (by apply cpl_inj; rw [cpl_join0, cpl_append]; simp)
end
end
-- A12
section
open PySem PySem.W PySem.Spec PySem.Calls PyProof.Rows
set_option maxRecDepth 100000
set_option maxHeartbeats 3000000
theorem extOut2 {s s' : Shared} {g h' h₀ : Heap} {L : Addr} {news : List (Addr × Obj)} {as : List Addr} (Kg : ∀ b o, s.heap.get? b = some o → b ∉ news.map (·.1) → g.get? b = some o) (K1 : ∀ b o, g.get? b = some o → h'.get? b = some o) (N : News h₀ L s.heap news)
    (sub : ∀ p ∈ news, p.1 ∈ as ∨ h'.get? p.1 = some p.2) (eh : s'.heap = h') (og : OG s s'.os s'.gens) : ExtBut as s s' := by
  refine ⟨fun b o hb e => ?_, og.1, og.2⟩
  rw [eh]
  by_cases hm : b ∈ news.map (·.1)
  · obtain ⟨p, hp, rfl⟩ := List.mem_map.mp hm
    have z := (N p hp).1
    rw [z] at e
    cases e
    rcases sub p hp with h | h
    · exact absurd h hb
    · exact h
  · exact K1 _ _ (Kg b o e hm)
theorem preSum_spc (ws : List Str) : preSum (lenv ws) ws.length = (((cpl (spc ws)).length : Nat) : Int) := by
  have main : ∀ n, n ≤ ws.length → preSum (lenv ws) n = (((cpl (spc (ws.take n))).length : Nat) : Int) := by
    intro n
    induction n with
    | zero => intro _; rfl
    | succ n ih =>
      intro h
      have hn : n < ws.length := h
      rw [preSum, ih (Nat.le_of_lt hn), List.take_succ_eq_append_getElem hn, spc_snoc, cpl_append, cpl_append, sp_is]
      unfold lenv
      rw [List.getD_eq_getElem?_getD, List.getElem?_eq_getElem hn, len_cpl, len_cpl]
      simp [cpl, sp_is]
      omega
  simpa using main ws.length (Nat.le_refl _)
theorem preSum_le (ws : List Str) (h : ∀ j, (ws.getD j sp).length ≤ 100) : ∀ n, 0 ≤ preSum (lenv ws) n ∧ preSum (lenv ws) n ≤ 101 * n
  | 0 => ⟨Int.le_refl _, Int.le_refl _⟩
  | n + 1 => by
    have a := preSum_le ws h n
    have b := h n
    have c : sp.length = 1 := by decide
    simp only [preSum, lenv, c]
    omega
theorem alen_spec {w : World} {mg mb : Str → Option Value} {x dx : Addr} {vs : List Value} {n k : Nat} {hh : Int} {kt t0 : Tok} {ps : Array Value} {ws : List Str} {bm : Addr} {ob : Obj}
  {dp un : Nat} {gd : Option (List Code)} {cn : Str} {cs : Scope} {a : Addr} {ccd : Value} {cl : List (Str × Addr)} {outer : List Env} {A₀ : Around} {base h₀ : Heap} {L : Addr} {m : Str → Option Value} {s : Shared} {Q E : Value → Shared → Prop} (B : Below A₀ base outer h₀) (F : Fr h₀ L s.heap m) (X : (KK w.params).In h₀) (N : News h₀ L s.heap [(x, accO dx vs n), (dx, dictOf [⟨hh, .str (Str.ofString "_initial_size") kt, .int 0 t0⟩] k), (140, tabO ps)]) (T : TopRead VV LL mg mb h₀) (hk : cs.kind = .function) (hdp : dp + 5 < recursionLimit) (hun : un + 60 < cLine) (M : BMod h₀ mainGlobals mg bm ob) (hps : TriplesOk ps.toList) (hp : PartsAt s.heap vs ws) (hz : vs.length < 1000) (hwl : ∀ v ∈ ws, v.length ≤ 100)
  (ret : ∀ t ps' s', ExtBut [140] s s' → s'.heap.get? 140 = some (tabO ps') → TriplesOk ps'.toList → Q (.int (cpl (spc ws)).length t) s') :
  wpAny (model PySem.Challenge.pw_oy0243_01 w) (ktrTop dp un gd cn cs L a ccd cl outer) (call (.ref 145) [.ref x]) Q E s := by
  refine wpAny_call ?_
  refine' enterM (binds := [(Str.ofString "self", .ref x)]) B F X N T rfl rfl hk ?ho ?hcd ?hroom ?hbind ?hloc ?hb ?c1 ?c2 ?c3 ?c4
  case ho => k_is
  case hcd => k_is
  case hroom => exact up0 hdp
  case hbind => exact BindsTo.of_eq rfl
  case hloc => exact locs rfl
  case c1 => decide
  case c2 => exact rfl
  case c3 => exact rfl
  case c4 => exact rfl
  intro g L' h₁ tk₁ Kg F₁ N₁ B₁ X₁ T₁ hlt₁ hsz₁ hL₁
  first | refine' execsIs ?ebL ?_ | refine' execsIsAt ?ebL ?_
  case ebL => conv => lhs; whnf
  have og₀ := OG.refl s
  (try dsimp only)
  (try k_fold)
  have hne : @Ne Nat x dx := accNe N (.head _) (.tail _ (.head _))
  have Mg := M.keeps (keepG F N Kg)
  obtain ⟨Ts, u1, u2, hlen, hparts⟩ := hp
  have hxT : @Ne Nat x 140 := fun e => by
    have z := (N _ (.head _)).1
    rw [show x = 140 from e, (N _ (mth 2 rfl)).1] at z
    cases z
  have hdT : @Ne Nat dx 140 := fun e => by
    have z := (N _ (.tail _ (.head _))).1
    rw [show dx = 140 from e, (N _ (mth 2 rfl)).1] at z
    cases z
  have htup : ∀ j, j < vs.length → g.get? (Ts j) = some (tup [.str sp (u1 j), .str (ws.getD j sp) (u2 j)] 0) := fun j hj => Kg _ _ (hparts j hj).2 fun hm => by
    obtain ⟨p, hp, he⟩ := List.mem_map.mp hm
    have z := (N p hp).1
    rw [he, (hparts j hj).2] at z
    rcases List.mem_cons.mp hp with rfl | hp
    · cases z
    · rcases List.mem_cons.mp hp with rfl | hp
      · exact absurd (Option.some.inj z) (by simp [tup])
      · rcases List.mem_cons.mp hp with rfl | hp
        · cases z
        · cases hp
  have hwl' : ∀ j, (ws.getD j sp).length ≤ 100 := fun j => by
    rw [List.getD_eq_getElem?_getD]
    cases e : ws[j]? with
    | none => exact (by decide : sp.length ≤ 100)
    | some v => exact hwl v (List.mem_of_getElem? e)
  k_steps
  have htwo : h₁.IsCode 144 140 ps ∧ h₁.TableAt 144 140 ps := by
    refine' isCodeOf X₁ F₁.keep ?hl ?h11 ?h11a ?h18 ?h7 ?h9 ?h10 ?hP ?htr ?hne
    case hl => k_is
    case h11 => exact rfl
    case h11a => exact rfl
    case h18 => exact rfl
    case h7 => exact rfl
    case h9 => exact rfl
    case h10 => exact rfl
    case hP => exact (N₁ _ (mth 2 rfl)).1
    case htr => exact hps
    case hne => decide
  refine' accGen (K := KK w.params) (h₀ := g) (s := { s with heap := h₁, toks := tk₁ }) (cl := []) (ps := ps) (x := x) (dx := dx) (P := 140) Ts (fun j => .str sp (u1 j)) (fun j => .str (ws.getD j sp) (u2 j)) (fun j y => ∃ t, y = .int (lenv ws j) t) ?hco ?hclos ?hcell ?h0 ?hxa ?hxb ?hab ?hkind ?hroom ?hs ?hself ?hh ?F ?X lcls ?N ?h1 ?h2 ?hP ?hxP ?hcode ?hok ?htab ?hlim ?M ?hvs ?htp ?hq ?hQ
  case F => k_asm
  case X => first | assumption | k_asm
  case N => k_asm
  case h1 => exact .head _
  case h2 => exact .tail _ (.head _)
  case hP => exact .tail _ (.tail _ (.head _))
  case hxP => exact hxT
  case hco => exact rfl
  case hclos => with_unfolding_all rfl
  case hcell => decide
  case h0 => exact rfl
  case hxa => exact rfl
  case hxb => exact rfl
  case hab => decide
  case hkind => exact rfl
  case hroom => (show dp + 1 < recursionLimit; omega)
  case hs => intro _; with_unfolding_all rfl
  case hself => (intro Q' hQ'; exact nameX_L F₁ rfl hQ')
  case hh => exact rfl
  case hcode => exact rfl
  case hok => exact htwo.1
  case htab => exact htwo.2
  case hlim => exact T₁.nolimit
  case M => exact Mg
  case hvs => exact fun j hj => (hparts j hj).1
  case htp => exact htup
  case hq =>
    intro code L₄ href hL₄ hgk
    refine ⟨fun A' E' i va vb s₂ m₂ hA hPt hn hma hmb hkp => wpAny_pure ⟨rfl, _, _, rfl, fun _ _ e => e⟩, fun A' E' i va vb s₂ m₂ hA hPt _ hn hma hmb hkp => ?_⟩
    have z := congrArg Array.toList hPt
    obtain rfl : va = .str sp (u1 i) := (List.cons.inj z).1
    obtain rfl : vb = .str (ws.getD i sp) (u2 i) := (List.cons.inj (List.cons.inj z).2).1
    refine gnLenSum (K := KK w.params) (h₀ := g) rfl rfl rfl rfl rfl rfl ⟨hn, ?_, Nat.le_of_lt (Nat.lt_of_le_of_lt F₁.above (Nat.lt_trans F₁.ns.lt hL₄))⟩ X₁ T₁ (by k_is) hma hmb (by decide) (Nat.le_trans (hwl' i) (by decide))
    exact fun b o e => hkp b (List.mem_range.mpr (Nat.lt_trans (Heap.lt_size (F₁.keep _ _ e)) hL₄)) (fun hm => by
      have z := Heap.lt_size (F₁.keep _ _ e)
      rcases List.mem_cons.mp hm with rfl | hm
      · exact Nat.lt_irrefl _ z
      · cases hm) o (hgk b o e)
  case hQ =>
    intro a₅ s₅ ps₅ X₅ k₅ t₅ tr₅ o₅ g₅
    have hLT : L' ≠ 140 := fun e => by
      have z := F₁.ns.lt
      exact (N₁ _ (mth 2 rfl)).2.1 e.symm
    have x₅ : ExtBut [140] { s with heap := h₁, toks := tk₁ } s₅ := ⟨fun b o hb e => k₅ b o (by simpa using hb) e, o₅, g₅⟩
    have F₅ := callF (as := [140]) F₁ x₅ (by simpa using hLT) (fun a ha => by obtain rfl : a = 140 := (by simpa using ha); exact (N₁ _ (mth 2 rfl)).2.2)
    have N₅ : News g L' s₅.heap [(x, accO dx vs n), (dx, dictOf [⟨hh, .str (Str.ofString "_initial_size") kt, .int 0 t0⟩] k), (140, tabO ps₅)] := allC (entK N₁ x₅ (.head _) (by simpa using hxT)) (allC (entK N₁ x₅ (.tail _ (.head _)) (by simpa using hdT)) (allC (entC (s := { s with heap := h₁, toks := tk₁ }) N₁ (mth 2 rfl) t₅) allN))
    have og₅ := OG.stepB (s₁ := { s with heap := h₁, toks := tk₁ }) og₀ x₅
    have lt₅ : h₁.objs.size - 1 + 1 = h₁.objs.size := Nat.sub_add_cancel (Nat.lt_of_le_of_lt (Nat.zero_le _) F₁.ns.lt)
    have k₁ := F₁.keep
    have nx := (N₁ _ (.head _)).1
    have nd := (N₁ _ (.tail _ (.head _))).1
    have nT := (N₁ _ (mth 2 rfl)).1
    clear F₁ N₁
    k_steps
    refine sum2Gen (genFrame X₅ ?ht ?hk ?hs) (lenv ws) (fun j v h => h) ?hfit ?_
    case ht => exact Nat.le_succ _
    case hk => exact fun _ _ e => e
    case hs => exact Nat.le_refl _
    case hfit =>
      intro j hj
      have a := preSum_le ws hwl' (j + 1)
      have b := hwl' j
      have c : sp.length = 1 := by decide
      refine ⟨?_, ?_⟩
      · unfold lenv InLong; omega
      · unfold InLong; omega
    intro t₆ s₆ k₆ o₆ g₆
    have hk6 : ∀ b o o', h₁.get? b = some o' → s₅.heap.get? b = some o → s₆.heap.get? b = some o := fun b o o' e e' => k₆ b o (Nat.le_of_lt_succ (by rw [Nat.succ_eq_add_one, lt₅]; exact Heap.lt_size e)) e'
    rw [show preSum (lenv ws) vs.length = (((cpl (spc ws)).length : Nat) : Int) from by rw [hlen]; exact preSum_spc ws]
    exact ret t₆ ps₅ s₆ (extOut2 Kg (fun b o e => hk6 b o o (k₁ b o e) (F₅.keep b o e)) N (allC (.inr (hk6 _ _ _ nx (N₅ _ (.head _)).1)) (allC (.inr (hk6 _ _ _ nd (N₅ _ (.tail _ (.head _))).1)) (allC (.inl (.head _)) allN))) rfl ⟨o₆.trans og₅.1, fun G => g₆ (og₅.2 G)⟩) (hk6 _ _ _ nT t₅) tr₅
end
-- A13
section
open PySem PySem.W PySem.Spec PySem.Calls PyProof.Rows
set_option maxRecDepth 100000
set_option maxHeartbeats 3000000
theorem joinGen2 {prog : Program} {w : World} {A : Around} {K a : Addr} {n : Nat} {Fv : Nat → Value → Prop} {s : Shared} {x : Str} {t : Tok} {E : Value → Shared → Prop} {Q : Value → Shared → Prop} (X : Gen prog w A K a n Fv s) (val : Nat → Str) (hval : ∀ j v, Fv j v → ∃ t, v = .str (val j) t) (hw : (((List.range n).map val).map (·.length)).sum + n ≤ 1048576) (hx : x.length ≤ 16)
    (hQ : ∀ t' s', (∀ b o, b ≤ K → s.heap.get? b = some o → s'.heap.get? b = some o) → s'.os = s.os → (AllBare s.gens → AllBare s'.gens) → Q (.str (Txt.join x ((List.range n).map val)) t') s') : wpAny (model prog w) A (call (.builtin "str.join") [.str x t, .ref a]) Q E s := by
  obtain ⟨fp, wr, g, St, W, hst, hT, ha, hfp, hwr⟩ := X
  have W := W.in4_2
  have hn : n ≤ sizeLine := Nat.le_trans (by omega) (by decide +kernel : 1048576 ≤ sizeLine)
  refine SC.joinGen W hT hst hfp ha (fun i v h => by obtain ⟨t, e⟩ := hval i v h; exact ⟨_, _, e⟩) (fun s' l hm hi => ?_) hn
  have el : l.map (·.1) = (List.range n).map val := by
    have hl : l.length = n := by simpa [strValues] using hi.1
    refine List.ext_getElem? fun j => ?_
    by_cases hj : j < n
    · have h1 : (strValues l).toArray[j]? = some (.str (l[j]'(by omega)).1 (l[j]'(by omega)).2) := by
        simp [strValues, List.getElem?_eq_getElem (show j < l.length by omega)]
      obtain ⟨t, e⟩ := hval j _ (hi.2 j _ h1)
      have e1 := (Value.str.inj e).1
      simp [List.getElem?_eq_getElem (show j < l.length by omega), hj, e1]
    · simp [List.getElem?_eq_none (show l.length ≤ j by omega), hj]
  rw [el]
  exact ⟨joinOk_of_weight (by simpa using hw) hx, fun t' k => hQ t' _ (fun b o hb e => hm.heap b o (fun hmem => Nat.lt_irrefl _ (Nat.lt_of_lt_of_le (hwr b hmem) hb)) e) hm.os fun G => by have z := AllBare.movedS G hm; exact z⟩
noncomputable def spw (ws : List Str) (j : Nat) : Str := sp ++ ws.getD j sp
theorem spw_join (ws : List Str) : Txt.join (Str.ofString "") ((List.range ws.length).map (spw ws)) = spc ws := by
  have main : ∀ n, n ≤ ws.length → cpl (Txt.join (Str.ofString "") ((List.range n).map (spw ws))) = cpl (spc (ws.take n)) := by
    intro n
    induction n with
    | zero => intro _; rfl
    | succ n ih =>
      intro h
      have hn : n < ws.length := h
      have z := ih (Nat.le_of_lt hn)
      rw [txt_join, cpl_join0] at z ⊢
      rw [List.range_succ, List.map_append, List.map_append, List.flatten_append, z, List.take_succ_eq_append_getElem hn, spc_snoc, cpl_append]
      simp [spw, List.getD_eq_getElem?_getD, List.getElem?_eq_getElem hn]
  have z := main ws.length (Nat.le_refl _)
  rw [List.take_length] at z
  exact cpl_inj z
theorem spw_weight (ws : List Str) (h : ∀ j, (ws.getD j sp).length ≤ 100) : ∀ n, (((List.range n).map (spw ws)).map (·.length)).sum ≤ 101 * n
  | 0 => Nat.le_refl _
  | n + 1 => by
    have a := spw_weight ws h n
    have b := h n
    have c : (spw ws n).length = 1 + (ws.getD n sp).length := by rw [len_cpl, len_cpl, spw, cpl_append, sp_is]; simp [cpl]; omega
    rw [List.range_succ, List.map_append, List.map_append, List.sum_append]
    simp only [List.map_cons, List.map_nil, List.sum_cons, List.sum_nil, c]
    omega
theorem astr_spec {w : World} {mg mb : Str → Option Value} {x dx : Addr} {vs : List Value} {n k : Nat} {hh : Int} {kt t0 : Tok} {ps : Array Value} {ws : List Str} {bm : Addr} {ob : Obj}
  {dp un : Nat} {gd : Option (List Code)} {cn : Str} {cs : Scope} {a : Addr} {ccd : Value} {cl : List (Str × Addr)} {outer : List Env} {A₀ : Around} {base h₀ : Heap} {L : Addr} {m : Str → Option Value} {s : Shared} {Q E : Value → Shared → Prop} (B : Below A₀ base outer h₀) (F : Fr h₀ L s.heap m) (X : (KK w.params).In h₀) (N : News h₀ L s.heap [(x, accO dx vs n), (dx, dictOf [⟨hh, .str (Str.ofString "_initial_size") kt, .int 0 t0⟩] k), (147, tabO ps)]) (T : TopRead VV LL mg mb h₀) (hk : cs.kind = .function) (hdp : dp + 5 < recursionLimit) (hun : un + 60 < cLine) (M : BMod h₀ mainGlobals mg bm ob) (hps : TriplesOk ps.toList) (hp : PartsAt s.heap vs ws) (hz : vs.length < 1000) (hwl : ∀ v ∈ ws, v.length ≤ 100)
  (ret : ∀ t ps' s', ExtBut [147] s s' → s'.heap.get? 147 = some (tabO ps') → TriplesOk ps'.toList → Q (.str (spc ws) t) s') :
  wpAny (model PySem.Challenge.pw_oy0243_01 w) (ktrTop dp un gd cn cs L a ccd cl outer) (call (.ref 152) [.ref x]) Q E s := by
  refine wpAny_call ?_
  refine' enterM (binds := [(Str.ofString "self", .ref x)]) B F X N T rfl rfl hk ?ho ?hcd ?hroom ?hbind ?hloc ?hb ?c1 ?c2 ?c3 ?c4
  case ho => k_is
  case hcd => k_is
  case hroom => exact up0 hdp
  case hbind => exact BindsTo.of_eq rfl
  case hloc => exact locs rfl
  case c1 => decide
  case c2 => exact rfl
  case c3 => exact rfl
  case c4 => exact rfl
  intro g L' h₁ tk₁ Kg F₁ N₁ B₁ X₁ T₁ hlt₁ hsz₁ hL₁
  first | refine' execsIs ?ebL ?_ | refine' execsIsAt ?ebL ?_
  case ebL => conv => lhs; whnf
  have og₀ := OG.refl s
  (try dsimp only)
  (try k_fold)
  have hne : @Ne Nat x dx := accNe N (.head _) (.tail _ (.head _))
  have Mg := M.keeps (keepG F N Kg)
  obtain ⟨Ts, u1, u2, hlen, hparts⟩ := hp
  have hxT : @Ne Nat x 147 := fun e => by
    have z := (N _ (.head _)).1
    rw [show x = 147 from e, (N _ (mth 2 rfl)).1] at z
    cases z
  have hdT : @Ne Nat dx 147 := fun e => by
    have z := (N _ (.tail _ (.head _))).1
    rw [show dx = 147 from e, (N _ (mth 2 rfl)).1] at z
    cases z
  have htup : ∀ j, j < vs.length → g.get? (Ts j) = some (tup [.str sp (u1 j), .str (ws.getD j sp) (u2 j)] 0) := fun j hj => Kg _ _ (hparts j hj).2 fun hm => by
    obtain ⟨p, hp, he⟩ := List.mem_map.mp hm
    have z := (N p hp).1
    rw [he, (hparts j hj).2] at z
    rcases List.mem_cons.mp hp with rfl | hp
    · cases z
    · rcases List.mem_cons.mp hp with rfl | hp
      · exact absurd (Option.some.inj z) (by simp [tup])
      · rcases List.mem_cons.mp hp with rfl | hp
        · cases z
        · cases hp
  have hwl' : ∀ j, (ws.getD j sp).length ≤ 100 := fun j => by
    rw [List.getD_eq_getElem?_getD]
    cases e : ws[j]? with
    | none => exact (by decide : sp.length ≤ 100)
    | some v => exact hwl v (List.mem_of_getElem? e)
  k_steps
  have htwo : h₁.IsCode 151 147 ps ∧ h₁.TableAt 151 147 ps := by
    refine' isCodeOf X₁ F₁.keep ?hl ?h11 ?h11a ?h18 ?h7 ?h9 ?h10 ?hP ?htr ?hne
    case hl => k_is
    case h11 => exact rfl
    case h11a => exact rfl
    case h18 => exact rfl
    case h7 => exact rfl
    case h9 => exact rfl
    case h10 => exact rfl
    case hP => exact (N₁ _ (mth 2 rfl)).1
    case htr => exact hps
    case hne => decide
  refine' accGen (K := KK w.params) (h₀ := g) (s := { s with heap := h₁, toks := tk₁ }) (cl := []) (ps := ps) (x := x) (dx := dx) (P := 147) Ts (fun j => .str sp (u1 j)) (fun j => .str (ws.getD j sp) (u2 j)) (fun j y => ∃ t, y = .str (spw ws j) t) ?hco ?hclos ?hcell ?h0 ?hxa ?hxb ?hab ?hkind ?hroom ?hs ?hself ?hh ?F ?X lcls ?N ?h1 ?h2 ?hP ?hxP ?hcode ?hok ?htab ?hlim ?M ?hvs ?htp ?hq ?hQ
  case F => k_asm
  case X => first | assumption | k_asm
  case N => k_asm
  case h1 => exact .head _
  case h2 => exact .tail _ (.head _)
  case hP => exact .tail _ (.tail _ (.head _))
  case hxP => exact hxT
  case hco => exact rfl
  case hclos => with_unfolding_all rfl
  case hcell => decide
  case h0 => exact rfl
  case hxa => exact rfl
  case hxb => exact rfl
  case hab => decide
  case hkind => exact rfl
  case hroom => (show dp + 1 < recursionLimit; omega)
  case hs => intro _; with_unfolding_all rfl
  case hself => (intro Q' hQ'; exact nameX_L F₁ rfl hQ')
  case hh => exact rfl
  case hcode => exact rfl
  case hok => exact htwo.1
  case htab => exact htwo.2
  case hlim => exact T₁.nolimit
  case M => exact Mg
  case hvs => exact fun j hj => (hparts j hj).1
  case htp => exact htup
  case hq =>
    intro code L₄ href hL₄ hgk
    refine ⟨fun A' E' i va vb s₂ m₂ hA hPt hn hma hmb hkp => wpAny_pure ⟨rfl, _, _, rfl, fun _ _ e => e⟩, fun A' E' i va vb s₂ m₂ hA hPt _ hn hma hmb hkp => ?_⟩
    have z := congrArg Array.toList hPt
    obtain rfl : va = .str sp (u1 i) := (List.cons.inj z).1
    obtain rfl : vb = .str (ws.getD i sp) (u2 i) := (List.cons.inj (List.cons.inj z).2).1
    refine gnJoin (K := KK w.params) (h₀ := g) rfl rfl rfl rfl rfl ⟨hn, ?_, Nat.le_of_lt (Nat.lt_of_le_of_lt F₁.above (Nat.lt_trans F₁.ns.lt hL₄))⟩ X₁ T₁ (by k_is) hma hmb (by decide) (Nat.le_trans (hwl' i) (by decide)) ⟨_, rfl⟩
    exact fun b o e => hkp b (List.mem_range.mpr (Nat.lt_trans (Heap.lt_size (F₁.keep _ _ e)) hL₄)) (fun hm => by
      have z := Heap.lt_size (F₁.keep _ _ e)
      rcases List.mem_cons.mp hm with rfl | hm
      · exact Nat.lt_irrefl _ z
      · cases hm) o (hgk b o e)
  case hQ =>
    intro a₅ s₅ ps₅ X₅ k₅ t₅ tr₅ o₅ g₅
    have hLT : L' ≠ 147 := fun e => by
      have z := F₁.ns.lt
      exact (N₁ _ (mth 2 rfl)).2.1 e.symm
    have x₅ : ExtBut [147] { s with heap := h₁, toks := tk₁ } s₅ := ⟨fun b o hb e => k₅ b o (by simpa using hb) e, o₅, g₅⟩
    have F₅ := callF (as := [147]) F₁ x₅ (by simpa using hLT) (fun a ha => by obtain rfl : a = 147 := (by simpa using ha); exact (N₁ _ (mth 2 rfl)).2.2)
    have N₅ : News g L' s₅.heap [(x, accO dx vs n), (dx, dictOf [⟨hh, .str (Str.ofString "_initial_size") kt, .int 0 t0⟩] k), (147, tabO ps₅)] := allC (entK N₁ x₅ (.head _) (by simpa using hxT)) (allC (entK N₁ x₅ (.tail _ (.head _)) (by simpa using hdT)) (allC (entC (s := { s with heap := h₁, toks := tk₁ }) N₁ (mth 2 rfl) t₅) allN))
    have og₅ := OG.stepB (s₁ := { s with heap := h₁, toks := tk₁ }) og₀ x₅
    have lt₅ : h₁.objs.size - 1 + 1 = h₁.objs.size := Nat.sub_add_cancel (Nat.lt_of_le_of_lt (Nat.zero_le _) F₁.ns.lt)
    have k₁ := F₁.keep
    have nx := (N₁ _ (.head _)).1
    have nd := (N₁ _ (.tail _ (.head _))).1
    have nT := (N₁ _ (mth 2 rfl)).1
    clear F₁ N₁
    k_steps
    refine joinGen2 X₅ (spw ws) (fun j v h => h) ?hw (by decide) ?_
    case hw =>
      have a := spw_weight ws hwl' vs.length
      omega
    intro t₆ s₆ k₆ o₆ g₆
    have hk6 : ∀ b o o', h₁.get? b = some o' → s₅.heap.get? b = some o → s₆.heap.get? b = some o := fun b o o' e e' => k₆ b o (Nat.le_of_lt_succ (by rw [Nat.succ_eq_add_one, lt₅]; exact Heap.lt_size e)) e'
    rw [show Txt.join (Str.ofString "") ((List.range vs.length).map (spw ws)) = spc ws from by rw [hlen]; exact spw_join ws]
    exact ret t₆ ps₅ s₆ (extOut2 Kg (fun b o e => hk6 b o o (k₁ b o e) (F₅.keep b o e)) N (allC (.inr (hk6 _ _ _ nx (N₅ _ (.head _)).1)) (allC (.inr (hk6 _ _ _ nd (N₅ _ (.tail _ (.head _))).1)) (allC (.inl (.head _)) allN))) rfl ⟨o₆.trans og₅.1, fun G => g₆ (og₅.2 G)⟩) (hk6 _ _ _ nT t₅) tr₅
end
-- A14
section
open PySem PySem.W PySem.Spec PySem.Calls PyProof.Rows
set_option maxRecDepth 100000
set_option maxHeartbeats 3000000
section
variable {prog : Program} {w : World} {A : Around} {E : Value → Shared → Prop} {s : Shared} {K : Frag} {x C L f : Addr} {h₀ : Heap} {m : Str → Option Value} {ox : Obj} {od : Option Obj}
def TruthBack (Q : Bool → Shared → Prop) (v : Value) (s' : Shared) : Prop := match v with
  | .int n _ => (0 ≤ n ∧ n < 2 ^ 63) ∧ Q (n != 0) { s' with toks := s'.toks + 1 }
  | _ => False
theorem truthy_KL {Q : Bool → Shared → Prop} (F : Fr h₀ L s.heap m) (X₀ : K.In h₀) (I : InstAt s.heap x ox C od) (hb : findIn K (.ref C) "__bool__" = some none) (hs : findIn K (.ref C) "__len__" = some (some (.ref f))) (hf : isFn K (.ref f) = true)
    (h : wpAny (model prog w) A.in1 (call (.ref f) [.ref x]) (TruthBack Q) E s) : wpAny (model prog w) A (truthy (.ref x)) Q E s := by
  have X := X₀.keeps F.keep
  have key : wpAny (model prog w) A (runValue (.builtin "len" ⟨[.ref x], []⟩)) (fun r s' => match r with | .int n _ => Q (n != 0) s' | _ => False) E s := by
    refine wpAny_runValue (codeAny_builtin entry_len ?_)
    rw [Around.under_plainId plain_len _]
    unfold Builtin.«len»
    refine wpAny_bind (m := oneArg "len" _) (wpAny_pure ?_)
    refine wpAny_bind (m := callSpecial? (.ref x) (Str.ofString "__len__")) (special_fn X I hs (beq_iff_eq.mp hf) (wpAny_mono h (fun r s' hr => ?_) fun _ _ y => y))
    cases r <;> first | exact hr.elim | skip
    rename_i n u
    obtain ⟨⟨h0, h1⟩, hq⟩ := hr
    refine wpAny_bind (wpAny_holding (wpAny_pure ?_))
    refine wpAny_bind (wpAny_letGo ?_)
    show wpAny _ _ (if n < 0 then _ else _) _ _ _
    rw [if_neg (by omega)]
    show wpAny _ _ (if n ≥ 2 ^ 63 then _ else _) _ _ _
    rw [if_neg (by omega)]
    exact wpAny_bind (wpAny_mkInt (wpAny_pure hq))
  unfold truthy
  refine wpAny_bind (m := callSpecial? (.ref x) (Str.ofString "__bool__")) (wpAny_bind (wpAny_bind (I.type.here ((looks_findIn X hb).here (wpAny_pure ?_)))))
  refine wpAny_bind (wpAny_bind (I.type.here ((looks_findIn X hs).here ?_)))
  refine wpAny_bind (wpAny_mono key (fun r s' hr => ?_) fun _ _ z => z)
  cases r <;> first | exact hr.elim | exact wpAny_pure hr
end
theorem entH {h₀ h h' : Heap} {L a : Addr} {news : List (Addr × Obj)} {o o' : Obj} (N : News h₀ L h news) (hm : (a, o) ∈ news) (hx : h'.get? a = some o') : Ent h₀ L h' (a, o') := ⟨hx, (N _ hm).2⟩
theorem notTupD {es : List DictEntry} {k : Nat} : (dictOf es k).cls ≠ .type "tuple" := show (Value.type "dict") ≠ Value.type "tuple" from by decide
theorem ne_of_get {h : Heap} {a b : Addr} {o o' : Obj} (ha : h.get? a = some o) (hb : h.get? b = some o') (hne : o ≠ o') : @Ne Nat a b := fun e => by
  rw [show a = b from e, hb] at ha
  exact hne (Option.some.inj ha).symm
theorem PartsAt.move {h h' : Heap} {vs : List Value} {ws : List Str} (hp : PartsAt h vs ws) (k : ∀ b us n, h.get? b = some (tup us n) → h'.get? b = some (tup us n)) : PartsAt h' vs ws := by
  obtain ⟨Ts, u1, u2, e, hq⟩ := hp
  exact ⟨Ts, u1, u2, e, fun j hj => ⟨(hq j hj).1, k _ _ _ (hq j hj).2⟩⟩
theorem PartsAt.news {h₀ g : Heap} {L : Addr} {s : Shared} {vs : List Value} {ws : List Str} {news : List (Addr × Obj)} (hp : PartsAt s.heap vs ws) (N : News h₀ L s.heap news) (Kg : ∀ b o, s.heap.get? b = some o → b ∉ news.map (·.1) → g.get? b = some o) (hn : ∀ p ∈ news, p.2.cls ≠ .type "tuple") : PartsAt g vs ws :=
  hp.move fun b us n e => Kg b _ e fun hm => by
    obtain ⟨p, hp, rfl⟩ := List.mem_map.mp hm
    have z := (N p hp).1
    rw [z] at e
    exact hn p hp (by rw [Option.some.inj e])
theorem PartsAt.ext {s s' : Shared} {vs : List Value} {ws : List Str} {as : List Addr} (hp : PartsAt s.heap vs ws) (x : ExtBut as s s') (hn : ∀ a ∈ as, ∃ o, s.heap.get? a = some o ∧ o.cls ≠ .type "tuple") : PartsAt s'.heap vs ws :=
  hp.move fun b us n e => x.heap b _ (fun hm => by
    obtain ⟨o, h1, h2⟩ := hn b hm
    rw [h1] at e
    exact h2 (by rw [Option.some.inj e])) e
theorem exF {h₀ : Heap} {L : Addr} {m : Str → Option Value} {s s' : Shared} {as : List Addr} (x : ExtBut as s s') (F : Fr h₀ L s.heap m) (hL : L ∉ as) (ha : ∀ a ∈ as, h₀.get? a = none) : Fr h₀ L s'.heap m := callF F x hL ha
theorem exK {h₀ : Heap} {L : Addr} {s s' : Shared} {as : List Addr} {news : List (Addr × Obj)} {p : Addr × Obj} (x : ExtBut as s s') (N : News h₀ L s.heap news) (hm : p ∈ news) (hn : p.1 ∉ as) : Ent h₀ L s'.heap p := entK N x hm hn
theorem exP {s s' : Shared} {vs : List Value} {ws : List Str} {as : List Addr} (x : ExtBut as s s') (hp : PartsAt s.heap vs ws) (hn : ∀ a ∈ as, ∃ o, s.heap.get? a = some o ∧ o.cls ≠ .type "tuple") : PartsAt s'.heap vs ws := hp.ext x hn
theorem spc_le (ws : List Str) (h : ∀ v ∈ ws, v.length ≤ 100) : (cpl (spc ws)).length ≤ 101 * ws.length := by
  have a := preSum_le ws (fun j => by
    rw [List.getD_eq_getElem?_getD]
    cases e : ws[j]? with
    | none => exact (by decide : sp.length ≤ 100)
    | some v => exact h v (List.mem_of_getElem? e)) ws.length
  rw [preSum_spc] at a
  omega
theorem onlyws_spec {w : World} {mg mb : Str → Option Value} {x dx : Addr} {vs : List Value} {n k : Nat} {hh : Int} {kt t0 : Tok} {p1 p2 : Array Value} {ws : List Str} {bm : Addr} {ob : Obj}
  {dp un : Nat} {gd : Option (List Code)} {cn : Str} {cs : Scope} {a : Addr} {ccd : Value} {cl : List (Str × Addr)} {outer : List Env} {A₀ : Around} {base h₀ : Heap} {L : Addr} {m : Str → Option Value} {s : Shared} {Q E : Value → Shared → Prop} (B : Below A₀ base outer h₀) (F : Fr h₀ L s.heap m) (X : (KK w.params).In h₀) (N : News h₀ L s.heap [(x, accO dx vs n), (dx, dictOf [⟨hh, .str (Str.ofString "_initial_size") kt, .int 0 t0⟩] k), (140, tabO p1), (147, tabO p2)]) (T : TopRead VV LL mg mb h₀) (hk : cs.kind = .function) (hdp : dp + 8 < recursionLimit) (hun : un + 100 < cLine) (M : BMod h₀ mainGlobals mg bm ob) (hp1 : TriplesOk p1.toList) (hp2 : TriplesOk p2.toList) (hp : PartsAt s.heap vs ws) (hz : vs.length < 1000) (hwl : ∀ v ∈ ws, v.length ≤ 100) (hne : (cpl (spc ws)).length ≠ 0) (hsp : Txt.isspace (spc ws) = false)
  (ret : ∀ p1' p2' s', ExtBut [140, 147] s s' → s'.heap.get? 140 = some (tabO p1') → s'.heap.get? 147 = some (tabO p2') → TriplesOk p1'.toList → TriplesOk p2'.toList → Q (.bool false) s') :
  wpAny (model PySem.Challenge.pw_oy0243_01 w) (ktrTop dp un gd cn cs L a ccd cl outer) (call (.ref 167) [.ref x]) Q E s := by
  refine wpAny_call ?_
  refine' enterM (binds := [(Str.ofString "self", .ref x)]) B F X N T rfl rfl hk ?ho ?hcd ?hroom ?hbind ?hloc ?hb ?c1 ?c2 ?c3 ?c4
  case ho => k_is
  case hcd => k_is
  case hroom => exact up0 hdp
  case hbind => exact BindsTo.of_eq rfl
  case hloc => exact locs rfl
  case c1 => decide
  case c2 => exact rfl
  case c3 => exact rfl
  case c4 => exact rfl
  intro g L' h₁ tk₁ Kg F₁ N₁ B₁ X₁ T₁ hlt₁ hsz₁ hL₁
  first | refine' execsIs ?ebL ?_ | refine' execsIsAt ?ebL ?_
  case ebL => conv => lhs; whnf
  have og₀ := OG.refl s
  (try dsimp only)
  (try k_fold)
  have hne : @Ne Nat x dx := accNe N (.head _) (.tail _ (.head _))
  have Mg := M.keeps (keepG F N Kg)
  have hpg : PartsAt h₁ vs ws := (hp.news N Kg (allC (fun e => nomatch e) (allC notTupD (allC (fun e => nomatch e) (allC (fun e => nomatch e) allN))))).move fun b _ _ e => F₁.keep b _ e
  have hle := spc_le ws hwl
  have hlen : vs.length = ws.length := let ⟨_, _, _, e, _⟩ := hp; e
  have hxL : @Ne Nat x L' := (N₁ _ (.head _)).2.1
  have hx140 : @Ne Nat x 140 := ne_of_get (N₁ _ (.head _)).1 (N₁ _ (mth 2 rfl)).1 (fun e => nomatch congrArg Obj.cls e)
  have hx147 : @Ne Nat x 147 := ne_of_get (N₁ _ (.head _)).1 (N₁ _ (mth 3 rfl)).1 (fun e => nomatch congrArg Obj.cls e)
  have hd140 : @Ne Nat dx 140 := ne_of_get (N₁ _ (.tail _ (.head _))).1 (N₁ _ (mth 2 rfl)).1 (fun e => nomatch congrArg Obj.cls e)
  have hd147 : @Ne Nat dx 147 := ne_of_get (N₁ _ (.tail _ (.head _))).1 (N₁ _ (mth 3 rfl)).1 (fun e => nomatch congrArg Obj.cls e)
  k_steps
  dsimp only
  refine' truthy_KL (f := 145) (C := 178) ?F ?X ?I ?kb ?kl ?kf ?_
  case F => k_asm
  case X => first | assumption | k_asm
  case I => k_inst
  case kb => k_is
  case kl => k_is
  case kf => k_is
  refine' alen_spec (ps := p1) (ws := ws) ?B ?F ?X (allC (N₁ _ (.head _)) (allC (N₁ _ (.tail _ (.head _))) (allC (N₁ _ (mth 2 rfl)) allN))) ?T ?hk ?hdp ?hun Mg hp1 hpg hz hwl ?_
  case B => first | assumption | k_asm
  case F => k_asm
  case X => first | assumption | k_asm
  case T => first | assumption | k_asm
  case hk => exact rfl
  case hdp => k_room
  case hun => k_room
  intro t q1 s9 x9 e9 r9
  have F9 := exF x9 F₁ (by simp; exact Ne.symm (N₁ _ (mth 2 rfl)).2.1) (fun a ha => by obtain rfl : a = 140 := (by simpa using ha); exact (N₁ _ (mth 2 rfl)).2.2)
  have N9 : News g L' s9.heap [(x, accO dx vs n), (dx, dictOf [⟨hh, .str (Str.ofString "_initial_size") kt, .int 0 t0⟩] k), (140, tabO q1), (147, tabO p2)] := allC (exK x9 N₁ (.head _) (by simpa using hx140)) (allC (exK x9 N₁ (.tail _ (.head _)) (by simpa using hd140)) (allC (entH N₁ (mth 2 rfl) e9) (allC (exK x9 N₁ (mth 3 rfl) (by simp)) allN)))
  have hpg9 := exP x9 hpg (allC ⟨_, (N₁ _ (mth 2 rfl)).1, fun e => nomatch e⟩ allN)
  have og9 := OG.stepB (by assumption) x9
  refine ⟨⟨by omega, by omega⟩, ?_⟩
  dsimp only
  rw [show ((((cpl (spc ws)).length : Nat) : Int) != 0) = true from by simpa using (by omega : (cpl (spc ws)).length ≠ 0)]
  k_steps
  (try dsimp only)
  refine' astr_spec (ps := p2) (ws := ws) ?B ?F ?X (allC (N9 _ (.head _)) (allC (N9 _ (.tail _ (.head _))) (allC (N9 _ (mth 3 rfl)) allN))) ?T ?hk ?hdp ?hun Mg hp2 hpg9 hz hwl ?_
  case B => first | assumption | k_asm
  case F => k_asm
  case X => first | assumption | k_asm
  case T => first | assumption | k_asm
  case hk => exact rfl
  case hdp => k_room
  case hun => k_room
  intro t' q2 s8 x8 e8 r8
  have F8 := exF x8 F9 (by simp; exact Ne.symm (N9 _ (mth 3 rfl)).2.1) (fun a ha => by obtain rfl : a = 147 := (by simpa using ha); exact (N9 _ (mth 3 rfl)).2.2)
  have N8 : News g L' s8.heap [(x, accO dx vs n), (dx, dictOf [⟨hh, .str (Str.ofString "_initial_size") kt, .int 0 t0⟩] k), (140, tabO q1), (147, tabO q2)] := allC (exK x8 N9 (.head _) (by simpa using hx147)) (allC (exK x8 N9 (.tail _ (.head _)) (by simpa using hd147)) (allC (exK x8 N9 (mth 2 rfl) (by simp)) (allC (entH N9 (mth 3 rfl) e8) allN)))
  have og8 := OG.stepB (by assumption) x8
  show StrBack _ _ _
  dsimp only [StrBack]
  k_steps
  rw [hsp]
  exact ret q1 q2 s8 (extOut2 Kg F8.keep N (allC (.inr (N8 _ (.head _)).1) (allC (.inr (N8 _ (.tail _ (.head _))).1) (allC (.inl (.head _)) (allC (.inl (.tail _ (.head _))) allN)))) rfl og8) (N8 _ (mth 2 rfl)).1 (N8 _ (mth 3 rfl)).1 r9 r8
end
-- A15
section
open PySem PySem.W PySem.Spec PySem.Calls PyProof.Rows
open PySem.Builtin PySem.Builtin.ObjectAttr PySem.Builtin.List
set_option maxRecDepth 100000
set_option maxHeartbeats 4000000
theorem chkArgsN (x : Value) : (match Manifest.signature? "list.__new__" with | some sig => Bind.checkArgs "list.__new__" sig ⟨[.ref 178, x], []⟩ | none => pure ()) = pure () := by kernel_rfl
theorem kindLN : builtinKind "list.__new__" = some .builtinFn := by decide +kernel
theorem splitLN : splitId "list.__new__" = some ("list", "__new__") := by decide +kernel
structure MakesL (M : Model) (h : Heap) (C : Addr) : Prop where
  obj : ∃ oc od cd sl, h.get? C = some ⟨oc, od, .cls cd, sl⟩ ∧ cd.hasDel = false ∧ cd.mro.isEmpty = false
  made : Looks M h (Bind.madeBy (.ref C)) (some "list.__new__")
  base : Looks M h (Bind.staticBase (.ref C)) (.ref C)
  self : Looks M h (isSubtype (.ref C) (.ref C)) true
  top : Looks M h (isSubtype (.ref C) (.type "list")) true
  call : Looks M h (specialOf (.ref C) "__call__") (some (.builtin "type.__call__"))
  typ : Looks M h (isInstance (.ref C) (.type "type")) true
def makesLIn (K : Frag) (C : Addr) : Bool := match K.lookup C with
  | some ⟨_, _, .cls cd, sl⟩ => !cd.hasDel && (sl.toList[4]?).join == some (.builtin "list.__new__") && !cd.mro.isEmpty && cd.mro.contains (.ref C) && cd.mro.contains (.type "list") &&
      specialIn K (.ref C) "__call__" == some (some (.builtin "type.__call__")) && instIn K (.ref C) (.type "type") == some true
  | _ => false
theorem makesL_of {K : Frag} {M : Model} {h : Heap} (X : K.In h) {C : Addr} (e : makesLIn K C = true) : MakesL M h C := by
  unfold makesLIn at e
  split at e
  · rename_i oc od cd sl ho
    simp only [Bool.and_eq_true, Bool.not_eq_true', beq_iff_eq] at e
    obtain ⟨⟨⟨⟨⟨⟨e2, e3⟩, e4⟩, e5⟩, e6⟩, e7⟩, e8⟩ := e
    have hc : clsIn K C = some cd := by unfold clsIn; rw [ho]
    have hm : Looks M h (mroOf (.ref C)) cd.mro := (looks_clsIn X hc).andThen .now
    obtain ⟨c, l, hl⟩ : ∃ c l, cd.mro = c :: l := by cases q : cd.mro with | nil => rw [q] at e4; cases e4 | cons c l => exact ⟨c, l, rfl⟩
    have made : Looks M h (Bind.madeBy (.ref C)) (some "list.__new__") := by
      intro A Q E s k q
      unfold Bind.madeBy
      refine wpAny_bind (hm A _ E s k ?_)
      rw [hl, List.forIn_cons]
      refine wpAny_bind (wpAny_bind (wpAny_bind (wpAny_bind (wpAny_loadPart (k _ _ (X _ _ ho)) (wpAny_pure ?_)))))
      dsimp only
      rw [← Array.getElem?_toList, e3]
      exact wpAny_pure (wpAny_pure (wpAny_pure q))
    refine ⟨⟨oc, od, cd, sl, X _ _ ho, e2, e4⟩, made, ?_, looks_mroIn X ?_, looks_mroIn X ?_, looks_specialIn X e7, looks_instIn X e8⟩
    · intro A Q E s k q
      unfold Bind.staticBase
      refine wpAny_bind (hm A _ E s k ?_)
      rw [hl, List.forIn_cons]
      exact wpAny_bind (wpAny_bind (wpAny_bind (made A _ E s k (wpAny_pure (wpAny_pure (wpAny_pure q))))))
    · unfold mroIn; rw [hc, Option.bind_some, if_neg (by rw [e4]; decide), e5]
    · unfold mroIn; rw [hc, Option.bind_some, if_neg (by rw [e4]; decide), e6]
  · cases e
section
variable {prog : Program} {w : World} {A : Around} {K : Frag} {R : Result → Shared → Prop} {h : Heap} {g : Array GenState} {d : Drawn} {t : Nat} {os : OsState}
theorem new_KL {x : Value} (Y : MakesL (model prog w) h 178)
    (hq : R (.ok (.ret (.ref (h.objs.size + 1)))) ⟨(h.push emptyDict).push (accO h.objs.size [] 0), g, d, t, os⟩) :
    codeAny (model prog w) A (.call (.builtin "list.__new__") ⟨[.ref 178, x], []⟩) R ⟨h, g, d, t, os⟩ := by
  obtain ⟨⟨oc, od, cd, sl, hC, e2, e4⟩, made, base, self, top, call, typ⟩ := Y
  have isT : ∀ {A : Around} {Q : Bool → Shared → Prop} {E : Value → Shared → Prop}, Q true ⟨h, g, d, t, os⟩ → wpAny (model prog w) A (isType (.ref 178)) Q E ⟨h, g, d, t, os⟩ := fun q => ks_wpAny_isType_cls hC rfl q
  refine codeAny_call_builtin_code (Code.quiet_builtin _ (by decide +kernel)) ?_
  have args := chkArgsN x
  unfold checkBuiltinCall
  generalize Manifest.signature? "list.__new__" = sig at args
  simp only [kindLN, splitLN]
  rw [if_pos (by decide)]
  refine wpAny_bind (isT ?_)
  simp only [Bool.not_true, Bool.false_eq_true, if_false]
  refine wpAny_bind (top.at ?_)
  simp only [Bool.not_true, Bool.false_eq_true, if_false]
  refine wpAny_bind (base.at (wpAny_bind (made.at ?_)))
  dsimp only
  rw [if_neg (by simp)]
  refine wpAny_of_eq (a := ()) (by cases sig <;> exact args) (codeAny_builtin_stack PySem.F.entry_list_new rfl fun p st => ?_)
  rw [Around.under_plainId PySem.F.plain_list_new _]
  dsimp only
  rw [owner_list_new]
  refine wpAny_bind (isT ?_)
  simp only [Bool.not_true, Bool.false_eq_true, if_false]
  refine wpAny_bind (top.at ?_)
  simp only [Bool.not_true, Bool.false_eq_true, if_false]
  refine wpAny_bind (wpAny_pure ?_)
  rw [if_neg (show ¬ ((!typeHasDict (.ref 178)) = true) from by decide)]
  refine wpAny_bind (wpAny_newObj_type ?_ (Nat.zero_le _))
  dsimp only
  refine wpAny_bind ?_
  show wpAny _ _ (newObj (.ref 178) (.seq #[]) (some h.objs.size)) _ _ ⟨h.push emptyDict, g, d, t, os⟩
  unfold newObj newObjAsIs classHasDel
  dsimp only
  rw [if_neg (by simp)]
  refine wpAny_bind (wpAny_alloc (wpAny_bind (wpAny_bind (wpAny_load (Heap.get?_push_of_some _ (Heap.get?_push_of_some _ hC)) (wpAny_pure ?_)))))
  rw [e2]
  refine wpAny_pure (wpAny_pure ?_)
  rw [Heap.size_push]
  exact hq
theorem make_core_L {x init : Value} (Y : MakesL (model prog w) h 178) (hi : Looks (model prog w) h (typeLookup (.ref 178) "__init__") (some init))
    (hb : ∀ self, Looks (model prog w) h (bindSpecial init self) (init, [self]))
    (hq : codeAny (model prog w) (A.under (.builtin "type.__call__" ⟨[.ref 178, x], []⟩)) (.call init ⟨[.ref (h.objs.size + 1), x], []⟩) (InitBack (h.objs.size + 1) R) ⟨(h.push emptyDict).push (accO h.objs.size [] 0), g, d, t, os⟩) :
    codeAny (model prog w) A (.call (.ref 178) ⟨[x], []⟩) R ⟨h, g, d, t, os⟩ := by
  have Y' := Y
  obtain ⟨⟨oc, od, cd, sl, hC, e2, e4⟩, made, base, self, top, call, typ⟩ := Y
  refine codeAny_of_tree ?_
  show wpAny _ _ (callAny (.ref 178) _) _ _ _
  refine nd_load hC ?_
  show wpAny _ _ (callAny.viaDunder (.ref 178) _) _ _ _
  unfold callAny.viaDunder
  refine wpAny_bind (call.at ?_)
  dsimp only
  rw [tc_bind]
  refine wpAny_bind (wpAny_pure (wpAny_bind (wpAny_pure ?_)))
  refine wpAny_pure (a := Fin.again (.call (.builtin "type.__call__") ⟨[.ref 178, x], []⟩)) (And.intro rfl ?_)
  refine codeAny_call_builtin_at (Code.quiet_builtin _ (by decide +kernel)) entry_typeCall (check_slot tc_kind tc_split typ (tc_args _ _ _) ?_)
  unfold Builtin.«type.__call__»
  have hm : Looks (model prog w) h (mroOf (.ref 178)) cd.mro := ((Looks.ld (part := none) hC).andThen .now).andThen .now
  repeat (first | simp only [e4, Bool.false_eq_true, if_false] | with_reducible refine wpAny_call ?_ | lk)
  refine new_KL Y' ?_
  have k : ∀ b o, h.get? b = some o → ((h.push emptyDict).push (accO h.objs.size [] 0)).get? b = some o := fun b o e => Heap.get?_push_of_some _ (Heap.get?_push_of_some _ e)
  have hx : ((h.push emptyDict).push (accO h.objs.size [] 0)).get? (h.objs.size + 1) = some (accO h.objs.size [] 0) := by heap_get
  have t1 : Looks (model prog w) ((h.push emptyDict).push (accO h.objs.size [] 0)) (typeOf (.ref (h.objs.size + 1))) (.ref 178) := (Looks.ld hx).andThen .now
  have s1 := self.keeps k
  have i1 := hi.keeps k
  have b1 := (hb (.ref (h.objs.size + 1))).keeps k
  unfold isInstance callSpecial? specialOf
  repeat (first | with_reducible refine wpAny_call ?_ | lk)
  refine codeAny_mono hq fun r s' z => ?_
  rcases r with e | (v | _ | _ | _) <;> first | exact z | exact z.elim | skip
  obtain ⟨rfl, z⟩ := z
  exact wpAny_pure (wpAny_pure z)
theorem make_L {x : Value} {s : Shared} {h₀ : Heap} {L : Addr} {m : Str → Option Value} {news : List (Addr × Obj)} (F : Fr h₀ L s.heap m) (N : News h₀ L s.heap news) (X : K.In s.heap) (hm : makesLIn K 178 = true)
    (hi : findIn K (.ref 178) "__init__" = some (some (.ref 115))) (hf : typeIn K (.ref 115) = some (.type "function"))
    (hq : ∀ y dy h', Fr h₀ L h' m → News h₀ L h' ((y, accO dy [] 0) :: (dy, dictOf [] 0) :: news) → (∀ p ∈ news, p.1 < dy) → dy < y →
      codeAny (model prog w) (A.under (.builtin "type.__call__" ⟨[.ref 178, x], []⟩)) (.call (.ref 115) ⟨[.ref y, x], []⟩) (InitBack y R) { s with heap := h' }) :
    codeAny (model prog w) A (.call (.ref 178) ⟨[x], []⟩) R s := by
  obtain ⟨hh, g, d, t, os⟩ := s
  refine make_core_L (makesL_of X hm) (looks_findIn X hi) (fun self => bind_fn X self hf) (hq _ hh.objs.size _ ((F.push _).push _) ?_ (fun p hp => Heap.lt_size (N p hp).1) (Nat.lt_succ_self _))
  have := (N.push F emptyDict).push (F.push _) (accO hh.objs.size [] 0)
  rwa [Heap.size_push] at this
theorem makesL_acc : makesLIn (KK w.params) 178 = true := by kernel_rfl
end
end
-- A16
section
open PySem PySem.W PySem.Spec PySem.Calls PyProof.Rows
set_option maxRecDepth 100000
set_option maxHeartbeats 4000000
section
variable {prog : Program} {w : World} {A : Around} {E : Value → Shared → Prop} {s : Shared} {h₀ : Heap} {L : Addr} {m : Str → Option Value} {env : Env}
/-- a for over a walk whose state is its iterator's alone, with an else -/
theorem forWE {x : Str} {px : Pos} {body orelse : List Stmt} {Q : Flow → Shared → Prop} {I : Addr} {fp : List Addr} {n : Nat} {P : Nat → Value → Prop} {St : Nat → Heap → Prop} {news : List (Addr × Obj)} (J : Nat → (Str → Option Value) → List (Addr × Obj) → Shared → Prop)
    (W : Walks prog w A I fp [I] n P St) (hIo : ∀ i h, St i h → ∃ o, h.get? I = some o) (hSt : ∀ i h h' o, St i h → h.get? I = some o → h'.get? I = some o → St i h') (hst : St 0 s.heap)
    (hL : env.locals = L) (hx : env.kindOf x = some .local) (hp : (env.scope.kind == .class || (env.scope.kind == .module && env.locals != env.globals)) = false)
    (F : Fr h₀ L s.heap m) (N : News h₀ L s.heap news) (hIL : L ≠ I) (hI₀ : h₀.get? I = none) (off : ∀ p ∈ news, p.1 ≠ I) (hJ : J 0 m news s)
    (turn : ∀ i v m₁ news₁ s₁ h₂ tk oI, i < n → P i v → J i m₁ news₁ s₁ → (∀ p ∈ news₁, p.1 ≠ I) → (∀ b o, b ≠ I → b ≠ L → s₁.heap.get? b = some o → h₂.get? b = some o) → Fr h₀ L h₂ (fun y => if y = x then some v else m₁ y) → News h₀ L h₂ ((I, oI) :: news₁) →
      wpAny (model prog w) A (execs body env) (fun f s₃ => match f with
        | .ret v => Q (.ret v) s₃
        | .brk => Q .next s₃
        | _ => Hold (∃ m' news', Fr h₀ L s₃.heap m' ∧ News h₀ L s₃.heap ((I, oI) :: news') ∧ (∀ p ∈ news', p.1 ≠ I) ∧ J (i + 1) m' news' s₃)) E { s₁ with heap := h₂, toks := tk })
    (done : ∀ m' news' s₁ h' tk, J n m' news' s₁ → St n s₁.heap → (∀ b o, b ≠ I → s₁.heap.get? b = some o → h'.get? b = some o) → Fr h₀ L h' m' → News h₀ L h' news' → wpAny (model prog w) A (execs orelse env) Q E { s₁ with heap := h', toks := tk })
    (hE : PassesOwn (model prog w) A env E) :
    codeAny (model prog w) A (.forLoop (.Name x px) (.ref I) body orelse env) (fun r s' => match r with | .ok f => Q f s' | .error e => cameBackBy (model prog w) A env E e s') s := by
  subst hL
  refine codeAny_forLoop (fun k s' => ∃ m₁ news₁ i, J i m₁ news₁ s' ∧ Fr h₀ env.locals s'.heap m₁ ∧ News h₀ env.locals s'.heap news₁ ∧ (∀ p ∈ news₁, p.1 ≠ I) ∧ St i s'.heap ∧ i ≤ n ∧ k = n + 1 - i) ?_ (n + 1)
    ⟨m, news, 0, hJ, F, N, off, hst, Nat.zero_le _, rfl⟩
  rintro k s₁ ⟨m₁, news₁, i, hJ₁, F₁, N₁, off₁, st₁, hi, rfl⟩
  by_cases hlt : i < n
  · refine W.item i _ _ _ hlt st₁ fun v h₂ tk₂ hPv st₂ hk => ?_
    have F₂ := LCg.fr_but F₁ hk hIL hI₀
    have N₂ := LCg.news_but N₁ hk off₁
    refine wpAny_assign_Name (wpAny_storeName_local hx F₂.ns (fun h₃ hn₃ hs₃ => ?_) hp)
    have F₃ := F₂.set hn₃ hs₃
    obtain ⟨oI, hoI⟩ := hIo _ _ st₂
    have hoI₃ := hs₃.extBut _ _ (Ne.symm hIL) hoI
    have N₃ : News h₀ env.locals h₃ ((I, oI) :: news₁) := fun p hp => by
      rcases List.mem_cons.mp hp with rfl | hp
      · exact ⟨hoI₃, Ne.symm hIL, hI₀⟩
      · exact N₂.set hs₃ p hp
    refine wpAny_passesOwn hE (wpAny_mono (turn i v m₁ news₁ s₁ h₃ _ oI hlt hPv hJ₁ off₁ (fun b o hb hbL e => hs₃.extBut b o hbL (hk b o (by simpa using hb) e)) F₃ N₃) (fun f s₄ h₄ => ?_) fun _ _ e => e)
    have fin : (∃ m' news', Fr h₀ env.locals s₄.heap m' ∧ News h₀ env.locals s₄.heap ((I, oI) :: news') ∧ (∀ p ∈ news', p.1 ≠ I) ∧ J (i + 1) m' news' s₄) →
        ∃ k', k' < n + 1 - i ∧ ∃ m₁ news₁ i, J i m₁ news₁ s₄ ∧ Fr h₀ env.locals s₄.heap m₁ ∧ News h₀ env.locals s₄.heap news₁ ∧ (∀ p ∈ news₁, p.1 ≠ I) ∧ St i s₄.heap ∧ i ≤ n ∧ k' = n + 1 - i := by
      rintro ⟨m', news', F', N', off', hJ'⟩
      exact ⟨n + 1 - (i + 1), by omega, m', news', i + 1, hJ', F', fun p hp => N' p (List.mem_cons_of_mem _ hp), off', hSt _ _ _ _ st₂ hoI (N' _ List.mem_cons_self).1, hlt, rfl⟩
    cases f with
    | ret v => exact h₄
    | brk => exact h₄
    | next => exact fin h₄
    | cont => exact fin h₄
  · obtain rfl : i = n := Nat.le_antisymm hi (Nat.not_lt.mp hlt)
    refine W.done _ _ _ st₁ fun h₂ tk₂ hk => wpAny_passesOwn hE ?_
    exact done m₁ news₁ s₁ h₂ _ hJ₁ st₁ (fun b o hb e => hk b o (by simpa using hb) e) (LCg.fr_but F₁ hk hIL hI₀) (LCg.news_but N₁ hk off₁)
/-- a for over a text of one sign -/
theorem forSign {x : Str} {px : Pos} {body orelse : List Stmt} {Q : Flow → Shared → Prop} {c : Nat} {z : Str} (hz : z = ⟨#[c]⟩) {t : Tok} {news : List (Addr × Obj)} (J : (Str → Option Value) → List (Addr × Obj) → Shared → Prop)
    (hh : A.handled = none) (hL : env.locals = L) (hx : env.kindOf x = some .local) (hp : (env.scope.kind == .class || (env.scope.kind == .module && env.locals != env.globals)) = false) (hc : c < 128)
    (F : Fr h₀ L s.heap m) (N : News h₀ L s.heap news)
    (turn : ∀ u h₂ tk I oI, (∀ p ∈ news, p.1 ≠ I) → (∀ b o, b ≠ L → s.heap.get? b = some o → h₂.get? b = some o) → Fr h₀ L h₂ (fun y => if y = x then some (.str z u) else m y) → News h₀ L h₂ ((I, oI) :: news) →
      wpAny (model prog w) A (execs body env) (fun f s₃ => match f with
        | .ret v => Q (.ret v) s₃
        | .brk => Q .next s₃
        | _ => Hold (∃ m' news', Fr h₀ L s₃.heap m' ∧ News h₀ L s₃.heap ((I, oI) :: news') ∧ (∀ p ∈ news', p.1 ≠ I) ∧ J m' news' s₃)) E { s with heap := h₂, toks := tk })
    (done : ∀ m' news' s₁ h' tk, J m' news' s₁ → (∀ b us n, s₁.heap.get? b = some (tup us n) → h'.get? b = some (tup us n)) → Fr h₀ L h' m' → News h₀ L h' news' → wpAny (model prog w) A (execs orelse env) Q E { s₁ with heap := h', toks := tk })
    (hE : PassesOwn (model prog w) A env E) :
    wpAny (model prog w) A (pyIter (.str z t)) (fun it s₂ => codeAny (model prog w) A (.forLoop (.Name x px) it body orelse env) (fun r s' => match r with | .ok f => Q f s' | .error e => cameBackBy (model prog w) A env E e s') s₂) E s := by
  subst hz
  have ha : ((⟨#[c]⟩ : Str).cps.all (· < 128)) = true := by simp [hc]
  refine wpAny_pyIter_ascii ha ?_
  have hI₀ : h₀.get? s.heap.objs.size = none := by
    cases q : h₀.get? s.heap.objs.size with
    | none => rfl
    | some o => exact absurd (Heap.lt_size (F.keep _ _ q)) (Nat.lt_irrefl _)
  refine forWE (fun i m₁ news₁ s₁ => (i = 0 ∧ m₁ = m ∧ news₁ = news ∧ s₁.gens = s.gens ∧ s₁.drawn = s.drawn ∧ s₁.os = s.os ∧ ∀ b o, s.heap.get? b = some o → s₁.heap.get? b = some o) ∨ (i = 1 ∧ J m₁ news₁ s₁))
    (Walks.strAscii hh s.heap.objs.size ⟨#[c]⟩ t) (fun i h st => let ⟨o, e, _⟩ := st; ⟨o, e⟩) (fun i h h' o st e e' => by obtain ⟨o', q, r⟩ := st; rw [e] at q; cases q; exact ⟨o, e', r⟩)
    ⟨_, Heap.get?_push_size _ rfl, rfl, rfl⟩ hL hx hp (F.push _) (fun p hp => ⟨Heap.get?_push_of_some _ (N p hp).1, (N p hp).2⟩) (hL ▸ Nat.ne_of_lt (hL ▸ F.ns.lt)) hI₀ (fun p hp => Nat.ne_of_lt (Heap.lt_size (N p hp).1))
    (.inl ⟨rfl, rfl, rfl, rfl, rfl, rfl, fun b o e => Heap.get?_push_of_some _ e⟩) ?_ ?_ hE
  · rintro i v m₁ news₁ s₁ h₂ tk oI hi ⟨c', u, hc', rfl⟩ hJ off hk F₁ N₁
    rcases hJ with ⟨rfl, rfl, rfl, hg, hd, ho, hk0⟩ | ⟨rfl, _⟩
    · obtain rfl : c = c' := by simpa using hc'
      have hI : ∀ b o, s.heap.get? b = some o → b ≠ s.heap.objs.size := fun b o e => Nat.ne_of_lt (Heap.lt_size e)
      rw [hg, hd, ho]
      refine wpAny_mono (turn u h₂ tk s.heap.objs.size oI off (fun b o hb e => hk b o (hI b o e) hb (hk0 b o e)) F₁ N₁) (fun f s₃ h₃ => ?_) fun _ _ e => e
      cases f with
      | ret v => exact h₃
      | brk => exact h₃
      | next => obtain ⟨m', n', a, b, c, d⟩ := Hold.out h₃; exact Hold.mk ⟨m', n', a, b, c, .inr ⟨rfl, d⟩⟩
      | cont => obtain ⟨m', n', a, b, c, d⟩ := Hold.out h₃; exact Hold.mk ⟨m', n', a, b, c, .inr ⟨rfl, d⟩⟩
    · exact absurd hi (by simp)
  · rintro m' news' s₁ h' tk hJ st hk F₁ N₁
    rcases hJ with ⟨h, _⟩ | ⟨_, hJ⟩
    · exact absurd h (by simp)
    · refine done m' news' s₁ h' tk hJ (fun b us n e => hk b _ (fun hb => ?_) e) F₁ N₁
      obtain ⟨o, e', c', _⟩ := st
      rw [← hb, e] at e'
      rw [← Option.some.inj e'] at c'
      exact absurd c' (show (Value.type "tuple") ≠ Value.type "str_ascii_iterator" from by decide)
/-- a for over a range whose first turn leaves, or that is empty -/
theorem forRange1 {x : Str} {px : Pos} {body orelse : List Stmt} {Q : Flow → Shared → Prop} {r : Addr} {a b c : Int} {t u v : Tok} {news : List (Addr × Obj)}
    (hh : A.handled = none) (hL : env.locals = L) (hx : env.kindOf x = some .local) (hp : (env.scope.kind == .class || (env.scope.kind == .module && env.locals != env.globals)) = false)
    (hr : IsRange s.heap r a b c t u v) (hsm : Builtin.Range.small a b c = true)
    (F : Fr h₀ L s.heap m) (N : News h₀ L s.heap news)
    (turn : Builtin.Range.rangeSize a b c ≠ 0 → ∀ u h₂ tk I oI, (∀ p ∈ news, p.1 ≠ I) → (∀ b o, b ≠ L → s.heap.get? b = some o → h₂.get? b = some o) → Fr h₀ L h₂ (fun y => if y = x then some (.int a u) else m y) → News h₀ L h₂ ((I, oI) :: news) →
      wpAny (model prog w) A (execs body env) (fun f s₃ => match f with
        | .ret v => Q (.ret v) s₃
        | .brk => Q .next s₃
        | _ => False) E { s with heap := h₂, toks := tk })
    (done : Builtin.Range.rangeSize a b c = 0 → ∀ h' tk, (∀ b o, s.heap.get? b = some o → h'.get? b = some o) → Fr h₀ L h' m → News h₀ L h' news → wpAny (model prog w) A (execs orelse env) Q E { s with heap := h', toks := tk })
    (hE : PassesOwn (model prog w) A env E) :
    wpAny (model prog w) A (pyIter (.ref r)) (fun it s₂ => codeAny (model prog w) A (.forLoop (.Name x px) it body orelse env) (fun r s' => match r with | .ok f => Q f s' | .error e => cameBackBy (model prog w) A env E e s') s₂) E s := by
  refine wpAny_pyIter_range hr hsm ?_
  have hI₀ : h₀.get? s.heap.objs.size = none := by
    cases q : h₀.get? s.heap.objs.size with
    | none => rfl
    | some o => exact absurd (Heap.lt_size (F.keep _ _ q)) (Nat.lt_irrefl _)
  have hI : ∀ b o, s.heap.get? b = some o → b ≠ s.heap.objs.size := fun b o e => Nat.ne_of_lt (Heap.lt_size e)
  refine forWE (fun i m₁ news₁ s₁ => i = 0 ∧ m₁ = m ∧ news₁ = news ∧ s₁.gens = s.gens ∧ s₁.drawn = s.drawn ∧ s₁.os = s.os ∧ ∀ b o, s.heap.get? b = some o → s₁.heap.get? b = some o)
    (Walks.range hh s.heap.objs.size a c (Builtin.Range.rangeSize a b c).toNat) (fun i h st => ⟨_, st⟩) (fun i h h' o st e e' => by rw [show h.get? s.heap.objs.size = _ from st] at e; rw [← Option.some.inj e] at e'; exact e')
    ?_ hL hx hp (F.push _) (fun p hp => ⟨Heap.get?_push_of_some _ (N p hp).1, (N p hp).2⟩) (hL ▸ Nat.ne_of_lt (hL ▸ F.ns.lt)) hI₀ (fun p hp => Nat.ne_of_lt (Heap.lt_size (N p hp).1))
    ⟨rfl, rfl, rfl, rfl, rfl, rfl, fun b o e => Heap.get?_push_of_some _ e⟩ ?_ ?_ hE
  · have e1 : a + ((0 : Nat) : Int) * c = a := by simp
    have e2 : (((Builtin.Range.rangeSize a b c).toNat : Nat) : Int) - ((0 : Nat) : Int) = Builtin.Range.rangeSize a b c := by rw [← rangeSize_toNat]; simp
    show IsRangeIter _ _ _ _ _
    rw [e1, e2]
    exact Heap.get?_push_size _ rfl
  · rintro i v m₁ news₁ s₁ h₂ tk oI hi ⟨u, rfl⟩ ⟨rfl, rfl, rfl, hg, hd, ho, hk0⟩ off hk F₁ N₁
    rw [hg, hd, ho]
    have e0 : a + ((0 : Nat) : Int) * c = a := by simp
    rw [e0] at F₁
    refine wpAny_mono (turn (fun h => by rw [h] at hi; exact absurd hi (by simp)) u h₂ tk s.heap.objs.size oI off (fun b o hb e => hk b o (hI b o e) hb (hk0 b o e)) F₁ N₁) (fun f s₃ h₃ => ?_) fun _ _ e => e
    cases f with
    | ret v => exact h₃
    | brk => exact h₃
    | next => exact h₃.elim
    | cont => exact h₃.elim
  · rintro m' news' s₁ h' tk ⟨h0, rfl, rfl, hg, hd, ho, hk0⟩ st hk F₁ N₁
    rw [hg, hd, ho]
    refine done ?_ h' tk (fun b o e => hk b o (hI b o e) (hk0 b o e)) F₁ N₁
    rw [rangeSize_toNat, h0]; rfl
end
end
-- A17
section
open PySem PySem.W PySem.Spec PySem.Calls PyProof.Rows
set_option maxRecDepth 100000
set_option maxHeartbeats 3000000
local macro_rules | `(tactic| walk_at "exec For Name Attribute cons cons") => `(tactic| refine Stop.mk ?_)
local macro_rules | `(tactic| walk_at "subscriptTail Name Name ref int") => `(tactic| refine Stop.mk ?_)
local macro_rules | `(tactic| walk_at "subscriptTail Attribute Name Name ref int") => `(tactic| (refine kba_turn (value' := PySem.Expr.Name (PySem.Str.ofString "_") ⟨0, 0, 0, 0⟩) (fun _ => rfl) ?_))
local macro_rules | `(tactic| walk_at "subscriptTail Name Constant str int") => `(tactic| ((refine KXi.item (by kxi_len) (by kxi_fact) (by kxi_fact) (by decide) ?_); intro kxiE))
local macro_rules | `(tactic| walk_at "call ref cons nil") => `(tactic| refine Stop.mk ?_)
local macro_rules | `(tactic| walk_at "call ref nil") => `(tactic| refine Stop.mk ?_)
local macro_rules | `(tactic| walk_at "pyIter ref") => `(tactic| refine Stop.mk ?_)
local macro_rules | `(tactic| walk_at "pyIter str") => `(tactic| refine Stop.mk ?_)
def kindO (o : Obj) : Nat := match o.cls, o.data with
  | .ref a, _ => a
  | _, .dict es _ => 1000 + es.size
  | .type T, .seq .. => if T = "tuple" then 3 else 1
  | _, _ => 2
theorem neO {h : Heap} {a b : Addr} {o o' : Obj} (ha : h.get? a = some o) (hb : h.get? b = some o') (hne : kindO o ≠ kindO o') : @Ne Nat a b := ne_of_get ha hb fun e => hne (congrArg kindO e)
theorem neNone {h : Heap} {a b : Addr} {o : Obj} (hn : h.get? a = none) (hb : h.get? b = some o) : @Ne Nat a b := fun e => by rw [show a = b from e, hb] at hn; cases hn
theorem newOut3 {s : Shared} {g h : Heap} {t : Addr} {news : List (Addr × Obj)} (Kg : ∀ b o, s.heap.get? b = some o → b ∉ news.map (·.1) → g.get? b = some o) (k : Keep g h) (hn : h.get? t = none) (hs : ∀ p ∈ news, ∃ o, h.get? p.1 = some o) : s.heap.get? t = none := by
  cases e : s.heap.get? t with
  | none => rfl
  | some o =>
    by_cases hm : t ∈ news.map (·.1)
    · obtain ⟨p, hp, rfl⟩ := List.mem_map.mp hm
      obtain ⟨o', e'⟩ := hs p hp
      rw [e'] at hn
      cases hn
    · have z := k _ _ (Kg t o e hm)
      rw [z] at hn
      cases hn
theorem nm1 {a b : Nat} (h : a ≠ b) : a ∉ [b] := by simpa using h
theorem nm2 {a b c : Nat} (h : a ≠ b) (h2 : a ≠ c) : a ∉ [b, c] := by simp [h, h2]
theorem nm3 {a b c d : Nat} (h : a ≠ b) (h2 : a ≠ c) (h3 : a ≠ d) : a ∉ [b, c, d] := by simp [h, h2, h3]
theorem exN {h₀ : Heap} {L t : Addr} {m : Str → Option Value} {s s' : Shared} {as : List Addr} {o : Obj} (_x : ExtBut as s s') (F : Fr h₀ L s.heap m) (hn : s.heap.get? t = none) (ht : s'.heap.get? t = some o) : Ent h₀ L s'.heap (t, o) := entF F hn ht
theorem PartsAt.snoc {g h : Heap} {vs : List Value} {ws : List Str} {w : Str} {t : Addr} {u1 u2 : Tok} (hp : PartsAt g vs ws) (k : Keep g h) (ht : h.get? t = some (tup [.str sp u1, .str w u2] 0)) : PartsAt h (vs ++ [.ref t]) (ws ++ [w]) := by
  obtain ⟨Ts, v1, v2, e, hq⟩ := hp
  refine ⟨fun j => if j < vs.length then Ts j else t, fun j => if j < vs.length then v1 j else u1, fun j => if j < vs.length then v2 j else u2, by simp [e], fun j hj => ?_⟩
  by_cases h1 : j < vs.length
  · have h2 : j < ws.length := e ▸ h1
    simp only [h1, if_true]
    rw [List.getElem?_append_left h1]
    refine ⟨(hq j h1).1, ?_⟩
    have z := k _ _ (hq j h1).2
    rw [List.getD_eq_getElem?_getD, List.getElem?_append_left h2, ← List.getD_eq_getElem?_getD]
    exact z
  · have h2 : j = vs.length := by simp at hj; omega
    subst h2
    simp only [Nat.lt_irrefl, if_false]
    refine ⟨by simp, ?_⟩
    rw [List.getD_eq_getElem?_getD, List.getElem?_append_right (by omega), e, Nat.sub_self]
    exact ht
theorem partsNil (h : Heap) : PartsAt h [] [] := ⟨fun _ => 0, fun _ => default, fun _ => default, rfl, fun j hj => absurd hj (Nat.not_lt_zero _)⟩
theorem notTupL {vs : List Value} {n : Nat} : (lst vs n).cls ≠ .type "tuple" := show (Value.type "list") ≠ Value.type "tuple" from by decide
abbrev fmtEs (H : Nat → Int) (T : Nat → Tok) (wd : Int) (tw tl : Tok) (c1 c2 : Tok) (ll x : Addr) : List DictEntry :=
  [⟨H 0, .str (Str.ofString "_maxlen") (T 0), .int wd tw⟩, ⟨H 1, .str (Str.ofString "_continuation_ws") (T 1), .str sp c1⟩, ⟨H 2, .str (Str.ofString "_continuation_ws_len") (T 2), .int 1 tl⟩, ⟨H 3, .str (Str.ofString "_splitchars") (T 3), .str sp c2⟩, ⟨H 4, .str (Str.ofString "_lines") (T 4), .ref ll⟩, ⟨H 5, .str (Str.ofString "_current_line") (T 5), .ref x⟩]
noncomputable def fstep (wd : Int) (st : List Str × List Str) (w : Str) : List Str × List Str :=
  if st.2 ≠ [] ∧ (((cpl (spc (st.2 ++ [w]))).length : Nat) : Int) > wd then (st.1 ++ [spc st.2], [w]) else (st.1, st.2 ++ [w])
theorem small_dn (n : Nat) (h : n < 1000) : Builtin.Range.small (n : Int) 0 (-1) = true := by
  have e : Builtin.Range.rangeSize (n : Int) 0 (-1) = n := by
    unfold Builtin.Range.rangeSize
    rw [if_neg (by omega)]
    by_cases h0 : (n : Int) > 0
    · rw [if_pos h0, show (-(-1 : Int)) = 1 from rfl, Int.ediv_one]; omega
    · rw [if_neg h0]; omega
  unfold Builtin.Range.small Builtin.Range.rangeFitsLong
  rw [e]
  simp
  omega
theorem size_dn (n : Nat) (h : n ≠ 0) : Builtin.Range.rangeSize (n : Int) 0 (-1) ≠ 0 := by
  unfold Builtin.Range.rangeSize
  rw [if_neg (by omega), if_pos (by omega), show (-(-1 : Int)) = 1 from rfl, Int.ediv_one]
  omega
theorem chunk_spec {w : World} {mg mb : Str → Option Value} {H : Nat → Int} {T0 : Nat → Tok} {wd : Int} {tw tl : Tok} {c1 c2 : Tok} {f df ll x dx : Addr} {kf : Nat} {lvs : List Value} {nl : Nat} {ls : List Str} {vs : List Value} {n k : Nat} {hh : Int} {kt t0 : Tok} {p1 p2 : Array Value} {ws : List Str} {bm : Addr} {ob : Obj} {w₀ : Str} {us uw : Tok}
  {dp un : Nat} {gd : Option (List Code)} {cn : Str} {cs : Scope} {a : Addr} {ccd : Value} {cl : List (Str × Addr)} {outer : List Env} {A₀ : Around} {base h₀ : Heap} {L : Addr} {m : Str → Option Value} {s : Shared} {Q E : Value → Shared → Prop} (B : Below A₀ base outer h₀) (F : Fr h₀ L s.heap m) (X : (KK w.params).In h₀) (N : News h₀ L s.heap [(f, instObj 94 df), (df, dictOf (fmtEs H T0 wd tw tl c1 c2 ll x) kf), (ll, lst lvs nl), (x, accO dx vs n), (dx, dictOf [⟨hh, .str (Str.ofString "_initial_size") kt, .int 0 t0⟩] k), (140, tabO p1), (147, tabO p2)]) (T : TopRead VV LL mg mb h₀) (hk : cs.kind = .function) (hdp : dp + 12 < recursionLimit) (hun : un + 200 < cLine) (M : BMod h₀ mainGlobals mg bm ob) (hp1 : TriplesOk p1.toList) (hp2 : TriplesOk p2.toList) (hp : PartsAt s.heap vs ws) (hz : vs.length < 300) (hwl : ∀ v ∈ ws, v.length ≤ 100) (hls : StrsAre lvs ls) (hlz : ls.length < 300) (hw : w₀.length ≤ 100)
  (ret : ∀ lvs' nl' vs' n' t' p1' p2' s', ExtBut [ll, x, dx, 140, 147] s s' → s'.heap.get? ll = some (lst lvs' nl') → StrsAre lvs' (fstep wd (ls, ws) w₀).1 → s'.heap.get? x = some (accO dx vs' n') → s'.heap.get? dx = some (dictOf [⟨hh, .str (Str.ofString "_initial_size") kt, .int 0 t'⟩] k) → PartsAt s'.heap vs' (fstep wd (ls, ws) w₀).2 → s'.heap.get? 140 = some (tabO p1') → s'.heap.get? 147 = some (tabO p2') → TriplesOk p1'.toList → TriplesOk p2'.toList → (∃ us' t₁ u₁ u₂, vs' = us' ++ [.ref t₁] ∧ s'.heap.get? t₁ = some (tup [.str sp u₁, .str w₀ u₂] 0) ∧ s.heap.get? t₁ = none) → Q .none s') :
  wpAny (model PySem.Challenge.pw_oy0243_01 w) (ktrTop dp un gd cn cs L a ccd cl outer) (call (.ref 91) [.ref f, .str sp us, .str w₀ uw]) Q E s := by
  refine wpAny_call ?_
  refine' enterM (binds := [(Str.ofString "self", .ref f), (Str.ofString "fws", .str sp us), (Str.ofString "string", .str w₀ uw)]) B F X N T rfl rfl hk ?ho ?hcd ?hroom ?hbind ?hloc ?hb ?c1 ?c2 ?c3 ?c4
  case ho => k_is
  case hcd => k_is
  case hroom => exact up0 hdp
  case hbind => exact BindsTo.of_eq rfl
  case hloc => exact locs rfl
  case c1 => decide
  case c2 => exact rfl
  case c3 => exact rfl
  case c4 => exact rfl
  intro g L' h₁ tk₁ Kg F₁ N₁ B₁ X₁ T₁ hlt₁ hsz₁ hL₁
  first | refine' execsIs ?ebL ?_ | refine' execsIsAt ?ebL ?_
  case ebL => conv => lhs; whnf
  have og₀ := OG.refl s
  (try dsimp only)
  refine wpAny_opqE PassesOwn.leaving fun Qo Eo hQo hEo => ?_
  (try k_fold)
  have Mg := M.keeps (keepG F N Kg)
  have hpg : PartsAt g vs ws := hp.news N Kg (allC (fun e => nomatch e) (allC notTupD (allC notTupL (allC (fun e => nomatch e) (allC notTupD (allC (fun e => nomatch e) (allC (fun e => nomatch e) allN)))))))
  have hle : (cpl (spc (ws ++ [w₀]))).length ≤ 101 * (ws.length + 1) := by simpa using spc_le (ws ++ [w₀]) (fun v hv => by rcases List.mem_append.mp hv with h | h; exact hwl v h; rw [List.mem_singleton.mp h]; exact hw)
  have hvl : vs.length = ws.length := let ⟨_, _, _, e, _⟩ := hp; e
  have ne_x_f : @Ne Nat x f := neO (N₁ _ (mth 3 rfl)).1 (N₁ _ (.head _)).1 (show (178 : Nat) ≠ 94 from by decide)
  have ne_f_x : @Ne Nat f x := neO (N₁ _ (.head _)).1 (N₁ _ (mth 3 rfl)).1 (show (94 : Nat) ≠ 178 from by decide)
  have ne_x_df : @Ne Nat x df := neO (N₁ _ (mth 3 rfl)).1 (N₁ _ (.tail _ (.head _))).1 (show (178 : Nat) ≠ 1006 from by decide)
  have ne_df_x : @Ne Nat df x := neO (N₁ _ (.tail _ (.head _))).1 (N₁ _ (mth 3 rfl)).1 (show (1006 : Nat) ≠ 178 from by decide)
  have ne_x_ll : @Ne Nat x ll := neO (N₁ _ (mth 3 rfl)).1 (N₁ _ (mth 2 rfl)).1 (show (178 : Nat) ≠ 1 from by decide)
  have ne_ll_x : @Ne Nat ll x := neO (N₁ _ (mth 2 rfl)).1 (N₁ _ (mth 3 rfl)).1 (show (1 : Nat) ≠ 178 from by decide)
  have ne_x_dx : @Ne Nat x dx := neO (N₁ _ (mth 3 rfl)).1 (N₁ _ (mth 4 rfl)).1 (show (178 : Nat) ≠ 1001 from by decide)
  have ne_dx_x : @Ne Nat dx x := neO (N₁ _ (mth 4 rfl)).1 (N₁ _ (mth 3 rfl)).1 (show (1001 : Nat) ≠ 178 from by decide)
  have ne_x_140 : @Ne Nat x 140 := neO (N₁ _ (mth 3 rfl)).1 (N₁ _ (mth 5 rfl)).1 (show (178 : Nat) ≠ 2 from by decide)
  have ne_140_x : @Ne Nat 140 x := neO (N₁ _ (mth 5 rfl)).1 (N₁ _ (mth 3 rfl)).1 (show (2 : Nat) ≠ 178 from by decide)
  have ne_x_147 : @Ne Nat x 147 := neO (N₁ _ (mth 3 rfl)).1 (N₁ _ (mth 6 rfl)).1 (show (178 : Nat) ≠ 2 from by decide)
  have ne_147_x : @Ne Nat 147 x := neO (N₁ _ (mth 6 rfl)).1 (N₁ _ (mth 3 rfl)).1 (show (2 : Nat) ≠ 178 from by decide)
  have ne_140_f : @Ne Nat 140 f := neO (N₁ _ (mth 5 rfl)).1 (N₁ _ (.head _)).1 (show (2 : Nat) ≠ 94 from by decide)
  have ne_f_140 : @Ne Nat f 140 := neO (N₁ _ (.head _)).1 (N₁ _ (mth 5 rfl)).1 (show (94 : Nat) ≠ 2 from by decide)
  have ne_140_df : @Ne Nat 140 df := neO (N₁ _ (mth 5 rfl)).1 (N₁ _ (.tail _ (.head _))).1 (show (2 : Nat) ≠ 1006 from by decide)
  have ne_df_140 : @Ne Nat df 140 := neO (N₁ _ (.tail _ (.head _))).1 (N₁ _ (mth 5 rfl)).1 (show (1006 : Nat) ≠ 2 from by decide)
  have ne_140_ll : @Ne Nat 140 ll := neO (N₁ _ (mth 5 rfl)).1 (N₁ _ (mth 2 rfl)).1 (show (2 : Nat) ≠ 1 from by decide)
  have ne_ll_140 : @Ne Nat ll 140 := neO (N₁ _ (mth 2 rfl)).1 (N₁ _ (mth 5 rfl)).1 (show (1 : Nat) ≠ 2 from by decide)
  have ne_140_dx : @Ne Nat 140 dx := neO (N₁ _ (mth 5 rfl)).1 (N₁ _ (mth 4 rfl)).1 (show (2 : Nat) ≠ 1001 from by decide)
  have ne_dx_140 : @Ne Nat dx 140 := neO (N₁ _ (mth 4 rfl)).1 (N₁ _ (mth 5 rfl)).1 (show (1001 : Nat) ≠ 2 from by decide)
  have ne_147_f : @Ne Nat 147 f := neO (N₁ _ (mth 6 rfl)).1 (N₁ _ (.head _)).1 (show (2 : Nat) ≠ 94 from by decide)
  have ne_f_147 : @Ne Nat f 147 := neO (N₁ _ (.head _)).1 (N₁ _ (mth 6 rfl)).1 (show (94 : Nat) ≠ 2 from by decide)
  have ne_147_df : @Ne Nat 147 df := neO (N₁ _ (mth 6 rfl)).1 (N₁ _ (.tail _ (.head _))).1 (show (2 : Nat) ≠ 1006 from by decide)
  have ne_df_147 : @Ne Nat df 147 := neO (N₁ _ (.tail _ (.head _))).1 (N₁ _ (mth 6 rfl)).1 (show (1006 : Nat) ≠ 2 from by decide)
  have ne_147_ll : @Ne Nat 147 ll := neO (N₁ _ (mth 6 rfl)).1 (N₁ _ (mth 2 rfl)).1 (show (2 : Nat) ≠ 1 from by decide)
  have ne_ll_147 : @Ne Nat ll 147 := neO (N₁ _ (mth 2 rfl)).1 (N₁ _ (mth 6 rfl)).1 (show (1 : Nat) ≠ 2 from by decide)
  have ne_147_dx : @Ne Nat 147 dx := neO (N₁ _ (mth 6 rfl)).1 (N₁ _ (mth 4 rfl)).1 (show (2 : Nat) ≠ 1001 from by decide)
  have ne_dx_147 : @Ne Nat dx 147 := neO (N₁ _ (mth 4 rfl)).1 (N₁ _ (mth 6 rfl)).1 (show (1001 : Nat) ≠ 2 from by decide)
  have ne_dx_f : @Ne Nat dx f := neO (N₁ _ (mth 4 rfl)).1 (N₁ _ (.head _)).1 (show (1001 : Nat) ≠ 94 from by decide)
  have ne_f_dx : @Ne Nat f dx := neO (N₁ _ (.head _)).1 (N₁ _ (mth 4 rfl)).1 (show (94 : Nat) ≠ 1001 from by decide)
  have ne_dx_df : @Ne Nat dx df := neO (N₁ _ (mth 4 rfl)).1 (N₁ _ (.tail _ (.head _))).1 (show (1001 : Nat) ≠ 1006 from by decide)
  have ne_df_dx : @Ne Nat df dx := neO (N₁ _ (.tail _ (.head _))).1 (N₁ _ (mth 4 rfl)).1 (show (1006 : Nat) ≠ 1001 from by decide)
  have ne_dx_ll : @Ne Nat dx ll := neO (N₁ _ (mth 4 rfl)).1 (N₁ _ (mth 2 rfl)).1 (show (1001 : Nat) ≠ 1 from by decide)
  have ne_ll_dx : @Ne Nat ll dx := neO (N₁ _ (mth 2 rfl)).1 (N₁ _ (mth 4 rfl)).1 (show (1 : Nat) ≠ 1001 from by decide)
  have ne_ll_f : @Ne Nat ll f := neO (N₁ _ (mth 2 rfl)).1 (N₁ _ (.head _)).1 (show (1 : Nat) ≠ 94 from by decide)
  have ne_f_ll : @Ne Nat f ll := neO (N₁ _ (.head _)).1 (N₁ _ (mth 2 rfl)).1 (show (94 : Nat) ≠ 1 from by decide)
  have ne_ll_df : @Ne Nat ll df := neO (N₁ _ (mth 2 rfl)).1 (N₁ _ (.tail _ (.head _))).1 (show (1 : Nat) ≠ 1006 from by decide)
  have ne_df_ll : @Ne Nat df ll := neO (N₁ _ (.tail _ (.head _))).1 (N₁ _ (mth 2 rfl)).1 (show (1006 : Nat) ≠ 1 from by decide)
  k_steps
  all_goals (try (with_reducible show Stop _; show wpAny _ _ _ _ _ _))
  (rename Fr _ _ _ _ => F₂)
  (rename News _ _ _ _ => N₂)
  refine' push_spec (vs := vs) ?B ?F ?X (allC (N₂ _ (mth 3 rfl)) (allC (N₂ _ (mth 4 rfl)) allN)) ?T ?hk ?hdp ?hun (by omega) ?_
  case B => first | assumption | k_asm
  case F => k_asm
  case X => first | assumption | k_asm
  case T => first | assumption | k_asm
  case hk => exact rfl
  case hdp => k_room
  case hun => k_room
  intro t s3 x3 e3 t3 n3
  have fr3 := newOut3 Kg F₂.keep n3 (allC ⟨_, (N₂ _ (.head _)).1⟩ (allC ⟨_, (N₂ _ (.tail _ (.head _))).1⟩ (allC ⟨_, (N₂ _ (mth 2 rfl)).1⟩ (allC ⟨_, (N₂ _ (mth 3 rfl)).1⟩ (allC ⟨_, (N₂ _ (mth 4 rfl)).1⟩ (allC ⟨_, (N₂ _ (mth 5 rfl)).1⟩ (allC ⟨_, (N₂ _ (mth 6 rfl)).1⟩ allN)))))))
  have F3 := exF x3 F₂ (nm1 (Ne.symm (N₂ _ (mth 3 rfl)).2.1)) (allC (N₂ _ (mth 3 rfl)).2.2 allN)
  have N3 : News g L' s3.heap [(t, tup [.str sp us, .str w₀ uw] 0), (f, instObj 94 df), (df, dictOf (fmtEs H T0 wd tw tl c1 c2 ll x) kf), (ll, lst lvs nl), (x, accO dx (vs ++ [.ref t]) (n + 1)), (dx, dictOf [⟨hh, .str (Str.ofString "_initial_size") kt, .int 0 t0⟩] k), (140, tabO p1), (147, tabO p2)] := (allC (exN x3 F₂ n3 t3) (allC (exK x3 N₂ (.head _) (nm1 ne_f_x)) (allC (exK x3 N₂ (.tail _ (.head _)) (nm1 ne_df_x)) (allC (exK x3 N₂ (mth 2 rfl) (nm1 ne_ll_x)) (allC (entH N₂ (mth 3 rfl) e3) (allC (exK x3 N₂ (mth 4 rfl) (nm1 ne_dx_x)) (allC (exK x3 N₂ (mth 5 rfl) (nm1 ne_140_x)) (allC (exK x3 N₂ (mth 6 rfl) (nm1 ne_147_x)) allN))))))))
  have og3 := OG.stepB (by assumption) x3
  have ne_t_x : @Ne Nat t x := neO (N3 _ (.head _)).1 (N3 _ (mth 4 rfl)).1 (show (3 : Nat) ≠ 178 from by decide)
  have ne_x_t : @Ne Nat x t := neO (N3 _ (mth 4 rfl)).1 (N3 _ (.head _)).1 (show (178 : Nat) ≠ 3 from by decide)
  have ne_t_dx : @Ne Nat t dx := neO (N3 _ (.head _)).1 (N3 _ (mth 5 rfl)).1 (show (3 : Nat) ≠ 1001 from by decide)
  have ne_dx_t : @Ne Nat dx t := neO (N3 _ (mth 5 rfl)).1 (N3 _ (.head _)).1 (show (1001 : Nat) ≠ 3 from by decide)
  have ne_t_140 : @Ne Nat t 140 := neO (N3 _ (.head _)).1 (N3 _ (mth 6 rfl)).1 (show (3 : Nat) ≠ 2 from by decide)
  have ne_140_t : @Ne Nat 140 t := neO (N3 _ (mth 6 rfl)).1 (N3 _ (.head _)).1 (show (2 : Nat) ≠ 3 from by decide)
  have ne_t_147 : @Ne Nat t 147 := neO (N3 _ (.head _)).1 (N3 _ (mth 7 rfl)).1 (show (3 : Nat) ≠ 2 from by decide)
  have ne_147_t : @Ne Nat 147 t := neO (N3 _ (mth 7 rfl)).1 (N3 _ (.head _)).1 (show (2 : Nat) ≠ 3 from by decide)
  have ne_t_ll : @Ne Nat t ll := neO (N3 _ (.head _)).1 (N3 _ (mth 3 rfl)).1 (show (3 : Nat) ≠ 1 from by decide)
  have ne_ll_t : @Ne Nat ll t := neO (N3 _ (mth 3 rfl)).1 (N3 _ (.head _)).1 (show (1 : Nat) ≠ 3 from by decide)
  have P3 := hpg.snoc F3.keep t3
  clear F₂ N₂
  k_steps
  all_goals (try (with_reducible show Stop _; show wpAny _ _ _ _ _ _))
  refine' alen_spec (ps := p1) (ws := ws ++ [w₀]) ?B ?F ?X (allC (N3 _ (mth 4 rfl)) (allC (N3 _ (mth 5 rfl)) (allC (N3 _ (mth 6 rfl)) allN))) ?T ?hk ?hdp ?hun Mg hp1 P3 (by simp; omega) (fun v hv => by rcases List.mem_append.mp hv with h | h; exact hwl v h; rw [List.mem_singleton.mp h]; exact hw) ?_
  case B => first | assumption | k_asm
  case F => k_asm
  case X => first | assumption | k_asm
  case T => first | assumption | k_asm
  case hk => exact rfl
  case hdp => k_room
  case hun => k_room
  intro t4 q1 s4 x4 e4 r4
  have F4 := exF x4 F3 (nm1 (Ne.symm (N3 _ (mth 6 rfl)).2.1)) (allC (N3 _ (mth 6 rfl)).2.2 allN)
  have N4 : News g L' s4.heap [(t, tup [.str sp us, .str w₀ uw] 0), (f, instObj 94 df), (df, dictOf (fmtEs H T0 wd tw tl c1 c2 ll x) kf), (ll, lst lvs nl), (x, accO dx (vs ++ [.ref t]) (n + 1)), (dx, dictOf [⟨hh, .str (Str.ofString "_initial_size") kt, .int 0 t0⟩] k), (140, tabO q1), (147, tabO p2)] := (allC (exK x4 N3 (.head _) (nm1 ne_t_140)) (allC (exK x4 N3 (.tail _ (.head _)) (nm1 ne_f_140)) (allC (exK x4 N3 (mth 2 rfl) (nm1 ne_df_140)) (allC (exK x4 N3 (mth 3 rfl) (nm1 ne_ll_140)) (allC (exK x4 N3 (mth 4 rfl) (nm1 ne_x_140)) (allC (exK x4 N3 (mth 5 rfl) (nm1 ne_dx_140)) (allC (entH N3 (mth 6 rfl) e4) (allC (exK x4 N3 (mth 7 rfl) (nm1 (show (147 : Nat) ≠ 140 from by decide))) allN))))))))
  have og4 := OG.stepB (by assumption) x4
  clear F3 N3 P3
  refine ⟨⟨by omega, by omega⟩, ?_⟩
  dsimp only
  k_steps
  all_goals (try (with_reducible show Stop _; show wpAny _ _ _ _ _ _))
  rotate_left
  · dsimp only
    rename_i hc
    have ef : fstep wd (ls, ws) w₀ = (ls, ws ++ [w₀]) := if_neg (fun h => hc h.2)
    refine hQo _ _ ?_
    exact ret lvs nl (vs ++ [.ref t]) (n + 1) t0 q1 p2 _ (extOut2 Kg F4.keep N (allC (.inr (N4 _ (.tail _ (.head _))).1) (allC (.inr (N4 _ (mth 2 rfl)).1) (allC (.inl (.head _)) (allC (.inl (.tail _ (.head _))) (allC (.inl (mth 2 rfl)) (allC (.inl (mth 3 rfl)) (allC (.inl (mth 4 rfl)) allN))))))) rfl og4) (N4 _ (mth 3 rfl)).1 (by rw [ef]; exact hls) (N4 _ (mth 4 rfl)).1 (N4 _ (mth 5 rfl)).1 (by rw [ef]; exact hpg.snoc F4.keep (N4 _ (.head _)).1) (N4 _ (mth 6 rfl)).1 (N4 _ (mth 7 rfl)).1 r4 hp2 ⟨_, _, _, _, rfl, (N4 _ (.head _)).1, fr3⟩
  refine wpAny_For ?_
  k_steps
  all_goals (try (with_reducible show Stop _; show wpAny _ _ _ _ _ _))
  rename_i hc
  rcases Classical.em (ws = []) with hws | hws
  · subst hws
    obtain rfl : vs = [] := List.eq_nil_of_length_eq_zero hvl
    (try dsimp only)
    refine forSign (L := L') sp_is (fun m' news' s₁ => (∃ u, m' = fun y => if y = Str.ofString "ch" then some (.str sp u) else List.lookup y [(Str.ofString "self", Value.ref f), (Str.ofString "fws", .str sp us), (Str.ofString "string", .str w₀ uw)].reverse) ∧ news' = [(t, tup [.str sp us, .str w₀ uw] 0), (f, instObj 94 df), (df, dictOf (fmtEs H T0 wd tw tl c1 c2 ll x) kf), (ll, lst lvs nl), (x, accO dx ([] ++ [.ref t]) (n + 1)), (dx, dictOf [⟨hh, .str (Str.ofString "_initial_size") kt, .int 0 t0⟩] k), (140, tabO q1), (147, tabO p2)] ∧ OG s s₁.os s₁.gens) rfl rfl rfl rfl (by decide) F4 N4 ?_ ?_ hEo
    · intro u h5 tk5 I oI offI k5 F5 N5
      clear F4 N4
      refine wpAny_opq fun Qo hQo => ?_
      refine wpAny_execs_cons (wpAny_For ?_)
      k_steps
      all_goals (try (with_reducible show Stop _; show wpAny _ _ _ _ _ _))
      dsimp only [List.append_nil]
      refine' pcount_spec (vs := [] ++ [.ref t]) ?B ?F ?X (allC (N5 _ (mth 5 rfl)) (allC (N5 _ (mth 6 rfl)) allN)) ?T ?hk ?hdp ?hun (by simp) ?_
      case B => first | assumption | k_asm
      case F => k_asm
      case X => first | assumption | k_asm
      case T => first | assumption | k_asm
      case hk => exact rfl
      case hdp => k_room
      case hun => k_room
      intro t6 s6 x6
      have F6 := Fr.keeps F5 x6.heap
      have N6 := newsKeep N5 x6.heap
      have og6 := OG.step (by assumption) x6
      clear F5 N5
      k_steps
      all_goals (try (with_reducible show Stop _; show wpAny _ _ _ _ _ _))
      (rename IsRange _ _ _ _ _ _ _ _ => hr7)
      (rename Fr _ _ _ _ => F7)
      (rename News _ _ _ _ => N7)
      refine forRange1 (L := L') rfl rfl rfl rfl hr7 (by decide : Builtin.Range.small 0 0 (-1) = true) F7 N7 (fun h => absurd (by decide : Builtin.Range.rangeSize 0 0 (-1) = 0) h) ?_ hEo
      intro _ h8 tk8 k8 F8 N8
      clear F7 N7
      k_steps
      all_goals (try (with_reducible show Stop _; show wpAny _ _ _ _ _ _))
      refine hQo _ _ ?_
      dsimp only
      exact Hold.mk ⟨_, _, F8, N8, offI, ⟨u, rfl⟩, rfl, og6⟩
    · rintro m' news' s9 h9 tk9 ⟨⟨u9, rfl⟩, rfl, og9⟩ k9 F9 N9
      clear F4 N4
      k_steps
      all_goals (try (with_reducible show Stop _; show wpAny _ _ _ _ _ _))
      dsimp only [List.append_nil]
      refine' pop_spec (us := []) (v := .ref t) ?B ?F ?X (allC (N9 _ (mth 4 rfl)) (allC (N9 _ (mth 5 rfl)) allN)) ?T ?hk ?hdp ?hun (by decide) ?_
      case B => first | assumption | k_asm
      case F => k_asm
      case X => first | assumption | k_asm
      case T => first | assumption | k_asm
      case hk => exact rfl
      case hdp => k_room
      case hun => k_room
      intro s10 x10 e10
      have F10 := exF x10 F9 (nm1 (Ne.symm (N9 _ (mth 4 rfl)).2.1)) (allC (N9 _ (mth 4 rfl)).2.2 allN)
      have N10 : News g L' s10.heap [(t, tup [.str sp us, .str w₀ uw] 0), (f, instObj 94 df), (df, dictOf (fmtEs H T0 wd tw tl c1 c2 ll x) kf), (ll, lst lvs nl), (x, accO dx [] (n + 1 + 1)), (dx, dictOf [⟨hh, .str (Str.ofString "_initial_size") kt, .int 0 t0⟩] k), (140, tabO q1), (147, tabO p2)] := (allC (exK x10 N9 (.head _) (nm1 ne_t_x)) (allC (exK x10 N9 (.tail _ (.head _)) (nm1 ne_f_x)) (allC (exK x10 N9 (mth 2 rfl) (nm1 ne_df_x)) (allC (exK x10 N9 (mth 3 rfl) (nm1 ne_ll_x)) (allC (entH N9 (mth 4 rfl) e10) (allC (exK x10 N9 (mth 5 rfl) (nm1 ne_dx_x)) (allC (exK x10 N9 (mth 6 rfl) (nm1 ne_140_x)) (allC (exK x10 N9 (mth 7 rfl) (nm1 ne_147_x)) allN))))))))
      have og10 := OG.stepB (by assumption) x10
      clear F9 N9
      k_steps
      all_goals (try (with_reducible show Stop _; show wpAny _ _ _ _ _ _))
      (rename Fr _ _ _ _ => F11)
      (rename News _ _ _ _ => N11)
      refine' push_spec (vs := []) ?B ?F ?X (allC (N11 _ (mth 4 rfl)) (allC (N11 _ (mth 5 rfl)) allN)) ?T ?hk ?hdp ?hun (by decide) ?_
      case B => first | assumption | k_asm
      case F => k_asm
      case X => first | assumption | k_asm
      case T => first | assumption | k_asm
      case hk => exact rfl
      case hdp => k_room
      case hun => k_room
      intro t12 s12 x12 e12 g12 n12
      have fr12 := newOut3 Kg F11.keep n12 (allC ⟨_, (N11 _ (.tail _ (.head _))).1⟩ (allC ⟨_, (N11 _ (mth 2 rfl)).1⟩ (allC ⟨_, (N11 _ (mth 3 rfl)).1⟩ (allC ⟨_, (N11 _ (mth 4 rfl)).1⟩ (allC ⟨_, (N11 _ (mth 5 rfl)).1⟩ (allC ⟨_, (N11 _ (mth 6 rfl)).1⟩ (allC ⟨_, (N11 _ (mth 7 rfl)).1⟩ allN)))))))
      have F12 := exF x12 F11 (nm1 (Ne.symm (N11 _ (mth 4 rfl)).2.1)) (allC (N11 _ (mth 4 rfl)).2.2 allN)
      have N12 : News g L' s12.heap [(t12, tup [.str sp us, .str w₀ uw] 0), (t, tup [.str sp us, .str w₀ uw] 0), (f, instObj 94 df), (df, dictOf (fmtEs H T0 wd tw tl c1 c2 ll x) kf), (ll, lst lvs nl), (x, accO dx ([] ++ [.ref t12]) (n + 1 + 1 + 1)), (dx, dictOf [⟨hh, .str (Str.ofString "_initial_size") kt, .int 0 t0⟩] k), (140, tabO q1), (147, tabO p2)] := (allC (exN x12 F11 n12 g12) (allC (exK x12 N11 (.head _) (nm1 ne_t_x)) (allC (exK x12 N11 (.tail _ (.head _)) (nm1 ne_f_x)) (allC (exK x12 N11 (mth 2 rfl) (nm1 ne_df_x)) (allC (exK x12 N11 (mth 3 rfl) (nm1 ne_ll_x)) (allC (entH N11 (mth 4 rfl) e12) (allC (exK x12 N11 (mth 5 rfl) (nm1 ne_dx_x)) (allC (exK x12 N11 (mth 6 rfl) (nm1 ne_140_x)) (allC (exK x12 N11 (mth 7 rfl) (nm1 ne_147_x)) allN)))))))))
      have og12 := OG.stepB (by assumption) x12
      clear F11 N11
      k_steps
      all_goals (try (with_reducible show Stop _; show wpAny _ _ _ _ _ _))
      refine hQo _ _ ?_
      have ef : fstep wd (ls, []) w₀ = (ls, [] ++ [w₀]) := if_neg (fun h => h.1 rfl)
      exact ret lvs nl ([] ++ [.ref t12]) (n + 1 + 1 + 1) t0 q1 p2 _ (extOut2 Kg F12.keep N (allC (.inr (N12 _ (mth 2 rfl)).1) (allC (.inr (N12 _ (mth 3 rfl)).1) (allC (.inl (.head _)) (allC (.inl (.tail _ (.head _))) (allC (.inl (mth 2 rfl)) (allC (.inl (mth 3 rfl)) (allC (.inl (mth 4 rfl)) allN))))))) rfl og12) (N12 _ (mth 4 rfl)).1 (by rw [ef]; exact hls) (N12 _ (mth 5 rfl)).1 (N12 _ (mth 6 rfl)).1 (by rw [ef]; exact hpg.snoc F12.keep g12) (N12 _ (mth 7 rfl)).1 (N12 _ (mth 8 rfl)).1 r4 hp2 ⟨_, _, _, _, rfl, g12, fr12⟩
  · refine forSign (L := L') sp_is (fun m' news' s₁ => False) rfl rfl rfl rfl (by decide) F4 N4 ?_ (fun _ _ _ _ _ h => h.elim) hEo
    intro u h5 tk5 I oI offI k5 F5 N5
    clear F4 N4
    refine wpAny_opq fun Qp hQp => ?_
    refine wpAny_execs_cons (wpAny_For ?_)
    k_steps
    all_goals (try (with_reducible show Stop _; show wpAny _ _ _ _ _ _))
    dsimp only [List.append_nil]
    refine' pcount_spec (vs := vs ++ [.ref t]) ?B ?F ?X (allC (N5 _ (mth 5 rfl)) (allC (N5 _ (mth 6 rfl)) allN)) ?T ?hk ?hdp ?hun (by simp; omega) ?_
    case B => first | assumption | k_asm
    case F => k_asm
    case X => first | assumption | k_asm
    case T => first | assumption | k_asm
    case hk => exact rfl
    case hdp => k_room
    case hun => k_room
    intro t6 s6 x6
    have F6 := Fr.keeps F5 x6.heap
    have N6 := newsKeep N5 x6.heap
    have og6 := OG.step (by assumption) x6
    clear F5 N5
    k_steps
    all_goals (try (with_reducible show Stop _; show wpAny _ _ _ _ _ _))
    (rename IsRange _ _ _ _ _ _ _ _ => hr7)
    (rename Fr _ _ _ _ => F7)
    (rename News _ _ _ _ => N7)
    have el : (((vs ++ [Value.ref t]).length : Nat) : Int) - 1 = (vs.length : Int) := by simp
    rw [el] at hr7
    refine forRange1 (L := L') rfl rfl rfl rfl hr7 (small_dn vs.length (by omega)) F7 N7 ?_ (fun h => absurd h (size_dn _ (fun h0 => hws (List.eq_nil_of_length_eq_zero (hvl ▸ h0))))) hEo
    intro _ u2 h8 tk8 I2 oI2 off2 k8 F8 N8
    clear F7 N7
    k_steps
    all_goals (try (with_reducible show Stop _; show wpAny _ _ _ _ _ _))
    refine' acc_tail (vs := vs ++ [.ref t]) (n := n + 1) ?X lcls ?I ?h ⟨_, rfl⟩ (fun _ => by with_unfolding_all rfl)
    case X => k_in
    case I => k_inst
    refine' acc_item (vs := vs ++ [.ref t]) (n := n + 1) (v := .ref t) ?F ?X lcls ?N ?m1 ?m2 (by omega) (by simp) (by omega) ?_
    case F => k_asm
    case X => first | assumption | k_asm
    case N => k_asm
    case m1 => k_mem
    case m2 => k_mem
    k_steps
    all_goals (try (with_reducible show Stop _; show wpAny _ _ _ _ _ _))
    dsimp only
    k_steps
    all_goals (try (with_reducible show Stop _; show wpAny _ _ _ _ _ _))
    refine hQp _ _ ?_
    dsimp only
    (rename Fr _ _ _ _ => F9)
    (rename News _ _ _ _ => N9)
    k_steps
    all_goals (try (with_reducible show Stop _; show wpAny _ _ _ _ _ _))
    have N9' : News g L' _ [(t, tup [.str sp us, .str w₀ uw] 0), (f, instObj 94 df), (df, dictOf (fmtEs H T0 wd tw tl c1 c2 ll x) kf), (ll, lst lvs nl), (x, accO dx (vs ++ [.ref t]) (n + 1)), (dx, dictOf [⟨hh, .str (Str.ofString "_initial_size") kt, .int 0 t0⟩] k), (140, tabO q1), (147, tabO p2)] := fun p hp => N9 p (.tail _ (.tail _ hp))
    clear N9
    refine' popfrom_spec (us := vs) (v := .ref t) ?B ?F ?X (allC (N9' _ (mth 4 rfl)) (allC (N9' _ (mth 5 rfl)) allN)) ?T ?hk ?hdp ?hun (by omega) ?_
    case B => first | assumption | k_asm
    case F => k_asm
    case X => first | assumption | k_asm
    case T => first | assumption | k_asm
    case hk => exact rfl
    case hdp => k_room
    case hun => k_room
    intro l s13 x13 e13 l13 n13
    have ne_l_x : @Ne Nat l x := neNone n13 (N9' _ (mth 4 rfl)).1
    have ne_x_l : @Ne Nat x l := Ne.symm ne_l_x
    have ne_l_dx : @Ne Nat l dx := neNone n13 (N9' _ (mth 5 rfl)).1
    have ne_dx_l : @Ne Nat dx l := Ne.symm ne_l_dx
    have ne_l_140 : @Ne Nat l 140 := neNone n13 (N9' _ (mth 6 rfl)).1
    have ne_140_l : @Ne Nat 140 l := Ne.symm ne_l_140
    have ne_l_147 : @Ne Nat l 147 := neNone n13 (N9' _ (mth 7 rfl)).1
    have ne_147_l : @Ne Nat 147 l := Ne.symm ne_l_147
    have ne_l_ll : @Ne Nat l ll := neNone n13 (N9' _ (mth 3 rfl)).1
    have ne_ll_l : @Ne Nat ll l := Ne.symm ne_l_ll
    have F13 := exF x13 F9 (nm1 (Ne.symm (N9' _ (mth 4 rfl)).2.1)) (allC (N9' _ (mth 4 rfl)).2.2 allN)
    have N13 : News g L' s13.heap [(l, lst [.ref t] 0), (t, tup [.str sp us, .str w₀ uw] 0), (f, instObj 94 df), (df, dictOf (fmtEs H T0 wd tw tl c1 c2 ll x) kf), (ll, lst lvs nl), (x, accO dx vs (n + 1 + 1)), (dx, dictOf [⟨hh, .str (Str.ofString "_initial_size") kt, .int 0 t0⟩] k), (140, tabO q1), (147, tabO p2)] := (allC (exN x13 F9 n13 l13) (allC (exK x13 N9' (.head _) (nm1 ne_t_x)) (allC (exK x13 N9' (.tail _ (.head _)) (nm1 ne_f_x)) (allC (exK x13 N9' (mth 2 rfl) (nm1 ne_df_x)) (allC (exK x13 N9' (mth 3 rfl) (nm1 ne_ll_x)) (allC (entH N9' (mth 4 rfl) e13) (allC (exK x13 N9' (mth 5 rfl) (nm1 ne_dx_x)) (allC (exK x13 N9' (mth 6 rfl) (nm1 ne_140_x)) (allC (exK x13 N9' (mth 7 rfl) (nm1 ne_147_x)) allN)))))))))
    have og13 := OG.stepB (by assumption) x13
    clear F9 N9'
    k_steps
    all_goals (try (with_reducible show Stop _; show wpAny _ _ _ _ _ _))
    (rename Fr _ _ _ _ => F14)
    (rename News _ _ _ _ => N14)
    (try dsimp only)
    refine' astr_spec (ps := p2) (ws := ws) ?B ?F ?X (allC (N14 _ (mth 5 rfl)) (allC (N14 _ (mth 6 rfl)) (allC (N14 _ (mth 8 rfl)) allN))) ?T ?hk ?hdp ?hun Mg hp2 (hpg.move fun b _ _ e => F14.keep b _ e) (by omega) hwl ?_
    case B => first | assumption | k_asm
    case F => k_asm
    case X => first | assumption | k_asm
    case T => first | assumption | k_asm
    case hk => exact rfl
    case hdp => k_room
    case hun => k_room
    intro t15 q2 s15 x15 e15 r15
    have F15 := exF x15 F14 (nm1 (Ne.symm (N14 _ (mth 8 rfl)).2.1)) (allC (N14 _ (mth 8 rfl)).2.2 allN)
    have N15 : News g L' s15.heap [(l, lst [.ref t] 0), (t, tup [.str sp us, .str w₀ uw] 0), (f, instObj 94 df), (df, dictOf (fmtEs H T0 wd tw tl c1 c2 ll x) kf), (ll, lst lvs nl), (x, accO dx vs (n + 1 + 1)), (dx, dictOf [⟨hh, .str (Str.ofString "_initial_size") kt, .int 0 t0⟩] k), (140, tabO q1), (147, tabO q2)] := (allC (exK x15 N14 (.head _) (nm1 ne_l_147)) (allC (exK x15 N14 (.tail _ (.head _)) (nm1 ne_t_147)) (allC (exK x15 N14 (mth 2 rfl) (nm1 ne_f_147)) (allC (exK x15 N14 (mth 3 rfl) (nm1 ne_df_147)) (allC (exK x15 N14 (mth 4 rfl) (nm1 ne_ll_147)) (allC (exK x15 N14 (mth 5 rfl) (nm1 ne_x_147)) (allC (exK x15 N14 (mth 6 rfl) (nm1 ne_dx_147)) (allC (exK x15 N14 (mth 7 rfl) (nm1 (show (140 : Nat) ≠ 147 from by decide))) (allC (entH N14 (mth 8 rfl) e15) allN)))))))))
    have og15 := OG.stepB (by assumption) x15
    clear F14 N14
    show W.StrBack _ _ _
    dsimp only [W.StrBack]
    k_steps
    all_goals (try (with_reducible show Stop _; show wpAny _ _ _ _ _ _))
    (rename Fr _ _ _ _ => F16)
    (rename News _ _ _ _ => N16)
    rw [show W.listOf (lvs.toArray.push (.str (spc ws) t15)) (nl + 1) = lst (lvs ++ [.str (spc ws) t15]) (nl + 1) from by simp] at N16
    refine' reset_spec (vs := vs) (ws := [.ref t]) (l := l) ?B ?F ?X (allC (N16 _ (mth 5 rfl)) (allC (N16 _ (mth 6 rfl)) allN)) ?T ?hk ?hdp ?hun (N16 _ (.head _)).1 (by simp; omega) ?_
    case B => first | assumption | k_asm
    case F => k_asm
    case X => first | assumption | k_asm
    case T => first | assumption | k_asm
    case hk => exact rfl
    case hdp => k_room
    case hun => k_room
    intro n17 t17 s17 x17 e17 d17
    have F17 := exF x17 F16 (nm2 (Ne.symm (N16 _ (mth 5 rfl)).2.1) (Ne.symm (N16 _ (mth 6 rfl)).2.1)) (allC (N16 _ (mth 5 rfl)).2.2 (allC (N16 _ (mth 6 rfl)).2.2 allN))
    have N17 : News g L' s17.heap [(l, lst [.ref t] 0), (t, tup [.str sp us, .str w₀ uw] 0), (f, instObj 94 df), (df, dictOf (fmtEs H T0 wd tw tl c1 c2 ll x) kf), (ll, lst (lvs ++ [.str (spc ws) t15]) (nl + 1)), (x, accO dx [.ref t] n17), (dx, dictOf [⟨hh, .str (Str.ofString "_initial_size") kt, .int 0 t17⟩] k), (140, tabO q1), (147, tabO q2)] := (allC (exK x17 N16 (.head _) (nm2 ne_l_x ne_l_dx)) (allC (exK x17 N16 (.tail _ (.head _)) (nm2 ne_t_x ne_t_dx)) (allC (exK x17 N16 (mth 2 rfl) (nm2 ne_f_x ne_f_dx)) (allC (exK x17 N16 (mth 3 rfl) (nm2 ne_df_x ne_df_dx)) (allC (exK x17 N16 (mth 4 rfl) (nm2 ne_ll_x ne_ll_dx)) (allC (entH N16 (mth 5 rfl) e17) (allC (entH N16 (mth 6 rfl) d17) (allC (exK x17 N16 (mth 7 rfl) (nm2 ne_140_x ne_140_dx)) (allC (exK x17 N16 (mth 8 rfl) (nm2 ne_147_x ne_147_dx)) allN)))))))))
    have og17 := OG.stepB (by assumption) x17
    clear F16 N16
    k_steps
    all_goals (try (with_reducible show Stop _; show wpAny _ _ _ _ _ _))
    refine hQo _ _ ?_
    have ef : fstep wd (ls, ws) w₀ = (ls ++ [spc ws], [w₀]) := if_pos ⟨hws, hc⟩
    exact ret (lvs ++ [.str (spc ws) t15]) (nl + 1) [.ref t] n17 t17 q1 q2 _ (extOut2 Kg F17.keep N (allC (.inr (N17 _ (mth 2 rfl)).1) (allC (.inr (N17 _ (mth 3 rfl)).1) (allC (.inl (.head _)) (allC (.inl (.tail _ (.head _))) (allC (.inl (mth 2 rfl)) (allC (.inl (mth 3 rfl)) (allC (.inl (mth 4 rfl)) allN))))))) rfl og17) (N17 _ (mth 4 rfl)).1 (by rw [ef]; exact StrsAre.append' hls (.cons _ _ .nil)) (N17 _ (mth 5 rfl)).1 (N17 _ (mth 6 rfl)).1 (by rw [ef]; exact (partsNil _).snoc (fun _ _ e => e) (N17 _ (.tail _ (.head _))).1) (N17 _ (mth 7 rfl)).1 (N17 _ (mth 8 rfl)).1 r4 r15 ⟨[], _, _, _, rfl, (N17 _ (.tail _ (.head _))).1, fr3⟩
end
-- B17
section
open PySem PySem.W PySem.Spec PySem.Calls PyProof.Rows
set_option maxRecDepth 100000
set_option maxHeartbeats 3000000
theorem pushR_spec {w : World} {mg mb : Str → Option Value} {x dx : Addr} {vs : List Value} {n k : Nat} {hh : Int} {kt t0 : Tok} {fv sv : Value}
  {dp un : Nat} {gd : Option (List Code)} {cn : Str} {cs : Scope} {a : Addr} {ccd : Value} {cl : List (Str × Addr)} {outer : List Env} {A₀ : Around} {base h₀ : Heap} {L : Addr} {m : Str → Option Value} {s : Shared} {R : Result → Shared → Prop} (B : Below A₀ base outer h₀) (F : Fr h₀ L s.heap m) (X : (KK w.params).In h₀) (N : News h₀ L s.heap [(x, accO dx vs n), (dx, dictOf [⟨hh, .str (Str.ofString "_initial_size") kt, .int 0 t0⟩] k)]) (T : TopRead VV LL mg mb h₀) (hk : cs.kind = .function) (hdp : dp + 3 < recursionLimit) (hun : un + 40 < cLine) (hz : vs.length < 1000)
  (ret : ∀ t s', ExtBut [x] s s' → s'.heap.get? x = some (accO dx (vs ++ [.ref t]) (n + 1)) → s'.heap.get? t = some (tup [fv, sv] 0) → s.heap.get? t = none → R (.ok (.ret .none)) s') :
  codeAny (model PySem.Challenge.pw_oy0243_01 w) (ktrTop dp un gd cn cs L a ccd cl outer) (.call (.ref 122) ⟨[.ref x, fv, sv], []⟩) R s := by
  refine' enterM (binds := [(Str.ofString "self", .ref x), (Str.ofString "fws", fv), (Str.ofString "string", sv)]) B F X N T rfl rfl hk ?ho ?hcd ?hroom ?hbind ?hloc ?hb ?c1 ?c2 ?c3 ?c4
  case ho => k_is
  case hcd => k_is
  case hroom => exact up0 hdp
  case hbind => exact BindsTo.of_eq rfl
  case hloc => exact locs rfl
  case c1 => decide
  case c2 => exact rfl
  case c3 => exact rfl
  case c4 => exact rfl
  intro g L' h₁ tk₁ Kg F₁ N₁ B₁ X₁ T₁ hlt₁ hsz₁ hL₁
  first | refine' execsIs ?ebL ?_ | refine' execsIsAt ?ebL ?_
  case ebL => conv => lhs; whnf
  have og₀ := OG.refl s
  (try dsimp only)
  refine wpAny_opqE PassesOwn.leaving fun Qo Eo hQo hEo => ?_
  (try k_fold)
  have hne : @Ne Nat x dx := accNe N (.head _) (.tail _ (.head _))
  k_steps
  refine' acc_append ?F ?X lcls ?N ?m1 ?m2 ?U ?hz ?_
  case F => k_asm
  case X => first | assumption | k_asm
  case N => k_asm
  case m1 => k_mem
  case m2 => k_mem
  case U => k_upd
  case hz => (have : (1000 : Nat) ≤ sizeLine := by decide +kernel); omega
  intro h' F' N'
  k_steps
  all_goals (try dsimp only)
  refine hQo _ _ ?_
  (rename News g _ _ _ => Nz)
  have z := Nz _ (List.Mem.head _)
  refine ret _ _ (extOut Kg (by assumption) N Nz (allC (.inl (.head _)) (allC (.inr (mth 2 rfl)) allN)) rfl (by assumption)) (Nz _ (List.Mem.tail _ (List.Mem.head _))).1 z.1 (newOut Kg z.2.2 (allC (And.left (by assumption)) (allC (And.right (by assumption)) allN)))
theorem ainitR_spec {w : World} {mg mb : Str → Option Value} {x dx : Addr} {n k : Nat} {ti : Tok}
  {dp un : Nat} {gd : Option (List Code)} {cn : Str} {cs : Scope} {a : Addr} {ccd : Value} {cl : List (Str × Addr)} {outer : List Env} {A₀ : Around} {base h₀ : Heap} {L : Addr} {m : Str → Option Value} {s : Shared} {R : Result → Shared → Prop} (B : Below A₀ base outer h₀) (F : Fr h₀ L s.heap m) (X : (KK w.params).In h₀) (N : News h₀ L s.heap [(x, accO dx [] n), (dx, dictOf [] k)]) (T : TopRead VV LL mg mb h₀) (hk : cs.kind = .function) (hdp : dp + 5 < recursionLimit) (hun : un + 60 < cLine)
  (ret : ∀ hh kt s', ExtBut [x, dx] s s' → s'.heap.get? x = some (accO dx [] n) → s'.heap.get? dx = some (dictOf [⟨hh, .str (Str.ofString "_initial_size") kt, .int 0 ti⟩] (k + 1)) → R (.ok (.ret .none)) s') :
  codeAny (model PySem.Challenge.pw_oy0243_01 w) (ktrTop dp un gd cn cs L a ccd cl outer) (.call (.ref 115) ⟨[.ref x, .int 0 ti], []⟩) R s := by
  refine' enterSM (binds := [(Str.ofString "self", .ref x), (Str.ofString "initial_size", .int 0 ti)]) B F X N T rfl rfl hk ?ho ?hcd ?hroom ?hbind ?hloc ?hb ?c1 ?c2 ?c3 ?c4
  case ho => k_is
  case hcd => k_is
  case hroom => exact up0 hdp
  case hbind => exact binds_K (Frag.In.keeps X F.keep) rfl (by k_is) rfl rfl rfl
  case hloc => exact locs rfl
  case c1 => decide
  case c2 => exact rfl
  case c3 => exact rfl
  case c4 => exact rfl
  intro g L' h₁ tk₁ Kg F₁ N₁ B₁ X₁ T₁ hlt₁ hsz₁ hL₁
  first | refine' execsIs ?ebL ?_ | refine' execsIsAt ?ebL ?_
  case ebL => conv => lhs; whnf
  have og₀ := OG.refl s
  (try dsimp only)
  have hne : @Ne Nat x dx := accNe (vs := []) N (.head _) (.tail _ (.head _))
  refine ks_wpAt_execs_cons (holdA (ks_wpAt_Assign_Attr ?_))
  refine wpAt_of_wpAny ?_
  (try k_fold)
  k_steps
  refine' acc_set ?F ?X lcls ?N ?m1 ?m2 ?hc ?hl ?e ?U ?hz ?_
  case F => k_asm
  case X => first | assumption | k_asm
  case N => k_asm
  case m1 => k_mem
  case m2 => k_mem
  case hc => k_is
  case hl => k_get
  case e => exact put_new _ _ _ _ _
  case U => k_upd
  case hz => exact Nat.le_of_ble_eq_true rfl
  intro h4 F4 N4
  (try k_sweep)
  refine Hold.mk ?_
  refine ks_wpAt_execs_cons (ks_wpAt_Expr_any (ks_wpAt_MethodCall (pl := _) ?_))
  refine' superCall (pl := _) sup_init ?F ?X lcls ?N ?T ?m1 ?m2 ?hf ?hp ?hv ?hcode ?hvs ?hfile ?hcell ?hD ?hsub ?hsuper ?hat ?hks ?hkc ?hka ?hk ?htop ?hboot ?ho ?hm ?hc ?_
  case F => k_asm
  case X => first | assumption | k_asm
  case N => k_asm
  case T => first | assumption | k_asm
  case m1 => k_mem
  case m2 => k_mem
  case hf => k_is
  case hp => exact rfl
  case hv => exact rfl
  case hcode => k_is
  case hvs => exact rfl
  case hfile => first | rfl | decide +kernel
  case hcell => k_is
  case hD => k_is
  case hsub => k_is
  case hsuper => k_is
  case hat => decide
  case hks => exact rfl
  case hkc => exact rfl
  case hka => exact rfl
  case hk => exact rfl
  case htop => decide +kernel
  case hboot => first | boot_by_name | rfl | kernel_rfl
  case ho => k_is
  case hm => exact rfl
  case hc => exact fun _ _ h => chk_init h
  intro so bo h' tk' F' N' l1 l2
  have l3 : @LT.lt Nat _ x so := l1 _ (.head _)
  have l4 : @LT.lt Nat _ dx so := l1 _ (.tail _ (.head _))
  have l5 : @LT.lt Nat _ so bo := l2
  refine' accB_init F' N' ?m1 ?U ?_
  case m1 => exact .tail _ (.tail _ (.head _))
  case U => k_upd
  intro h2 F2 N2
  refine wpAt_of_wpAny (wpAny_execs_nil ?_)
  exact ret _ _ _ (extOut Kg F2 N N2 (allC (.inl (.head _)) (allC (.inl (.tail _ (.head _))) allN)) rfl og₀) (N2 _ (mth 2 rfl)).1 (N2 _ (mth 3 rfl)).1
section
variable {M : Model} {prog : Program} {w : World} {A : Around} {E : Value → Shared → Prop} {s : Shared} {K : Frag} {h₀ : Heap} {L x dx f : Addr} {m : Str → Option Value} {vs : List Value} {n k : Nat} {es : List DictEntry} {news : List (Addr × Obj)} {name : Str} {Q : Value → Shared → Prop} {env : Env}
/-- a method of the accumulator's class as a value -/
theorem acc_getM (F : Fr h₀ L s.heap m) (X₀ : K.In h₀) (H : LCls K 178) (N : News h₀ L s.heap news) (h1 : (x, accO dx vs n) ∈ news) (h2 : (dx, dictOf es k) ∈ news)
    (ha : findIn K (.ref 178) name = some (some (.ref f))) (hf : isFn K (.ref f) = true) (hg : specialIn K (.ref f) "__get__" = some (some (.builtin "function.__get__"))) (ht : takesIn K (.ref f) = some false) (hc : copiedNames.contains name = false) (hl : lookIn name (dictOf es k) = some none)
    (h : ∀ q h', Fr h₀ L h' m → News h₀ L h' ((q, methodObj (.ref f) (.ref x)) :: news) → (∀ p ∈ news, p.1 < q) → Q (.ref q) { s with heap := h', toks := s.toks + 1 }) : wpAny (model prog w) A (getAttr (.ref x) name true) Q E s := by
  have X := X₀.keeps F.keep
  have I := acc_inst N h1 h2
  have L0 := I.type (M := model prog w)
  have L1 := looks_findIn (M := model prog w) X H.ga
  have LF := looks_find (M := model prog w) X I (findObj_fn H.has ha hg ht hc hl)
  unfold getAttr getAttrBy
  refine wpAny_bind (wpAny_mkText (wpAny_holding (wpAny_bind (L0 _ _ _ _ (fun _ _ e => e) (wpAny_bind (L1 _ _ _ _ (fun _ _ e => e) ?_))))))
  dsimp only
  rw [show (onTheHeap (Value.ref 178) && Value.builtin "list.__getattribute__" == Value.builtin "object.__getattribute__") = false from by rw [show (Value.builtin "list.__getattribute__" == Value.builtin "object.__getattribute__") = false from by decide +kernel, Bool.and_false], if_neg (by decide)]
  refine wpAny_bind ((looks_hook X (r := none) (by rw [if_pos (show onTheHeap (Value.ref 178) = true from rfl)]; exact H.gh)) _ _ _ _ (fun _ _ e => e) (wpAny_bind (wpAny_attempt (wpAny_holding ?_))))
  unfold callGetattribute
  rw [show (true && onTheHeap (Value.builtin "list.__getattribute__")) = false from rfl, if_neg (by decide)]
  unfold boundAndCalled
  rw [PySem.F.slot_list_getattribute.bind]
  refine wpAny_bind (wpAny_pure ?_)
  show wpAny _ _ (call (.builtin "list.__getattribute__") [.ref x, .str name s.toks]) _ _ _
  refine wpAny_call ?_
  refine codeAny_call_builtin PySem.F.slot_list_getattribute.plain PySem.F.entry_list_ga ?_
  refine @check_slot (model prog w) _ _ { s with toks := s.toks + 1 } "list.__getattribute__" "list" "__getattribute__" (.ref x) [.str name s.toks] [] _ (by decide +kernel) (by decide +kernel) (L0.andThen (looks_subIn X H.sub)) (PySem.F.args_list_getattribute_2 (.ref x) (.str name s.toks)) ?_
  unfold Builtin.«object.__getattribute__»
  refine wpAny_bind (wpAny_pure (wpAny_bind (wpAny_pure (wpAny_bind (L0 _ _ _ _ (fun _ _ e => e) (wpAny_bind (LF _ _ _ _ (fun _ _ e => e) ?_)))))))
  show wpAny _ _ (holding [.ref f] (call (.builtin "function.__get__") [.ref f, .ref x, .ref 178]) >>= ret) _ _ _
  refine wpAny_bind (wpAny_holding (wpAny_call (fn_get (s := { s with toks := s.toks + 1 }) X (beq_iff_eq.mp hf) ?_)))
  exact wpAny_pure (wpAny_pure (h s.heap.objs.size _ (F.push _) (N.push F _) fun p hp => Heap.lt_size (N p hp).1))
/-- a method call with a starred argument alone -/
theorem starCall {o' e : Expr} {at_ : Str} {p1 apos pos ps : Pos}
    (h : wpAny M A (eval (.Attribute o' at_ p1) env) (fun ov s₁ => wpAny M A (getAttr ov name true) (fun f s₂ => wpAny M A (callWith pos f [] (backTo pos (starEach [.Starred e ps] env)) []) Q E s₂) E s₁) E s) :
    wpAny M A (eval (.Call (.Attribute (.Attribute o' at_ p1) name apos) [.Starred e ps] [] pos) env) Q E s := by
  rw [arm_eval_Call]
  show wpAny M A (eval (.Attribute o' at_ p1) env >>= _) _ _ _
  refine wpAny_bind (wpAny_mono h (fun ov s₁ h₁ => wpAny_bind (wpAny_standAt ?_)) fun _ _ z => z)
  unfold methodCall
  have e1 : methodCallForm ([Expr.Starred e ps].length + ([] : List Keyword).length) (backTo pos (starEach [.Starred e ps] env)) (backToKw pos (keywordEach [] env)) = false := by rfl
  rw [e1]
  refine wpAny_bind (wpAny_holding ?_)
  show wpAny M A (getAttr ov name true >>= fun v => pure (v, [])) _ _ _
  refine wpAny_bind (wpAny_mono h₁ (fun f s₂ h₂ => wpAny_pure ?_) fun _ _ z => z)
  exact wpAny_bind (wpAny_pure h₂)
theorem starWith {e : Expr} {pos ps : Pos} {q g : Addr} {self : Value} (hf : fnIn K g = true) (h : wpAny M A (eval e env) (fun v s₁ => StarOf M A E v (fun vs s₂ => MethP K q g self s₂.heap ∧ wpAny M A (call (.ref q) vs) Q E s₂) s₁) E s) :
    wpAny M A (callWith pos (.ref q) [] (backTo pos (starEach [.Starred e ps] env)) []) Q E s := by
  rw [show starEach [.Starred e ps] env = [(true, eval e env)] from rfl]
  exact ks_call rfl (keeps_M hf) (ks_lone h)
end
end
-- A18
section
open PySem PySem.W PySem.Spec PySem.Calls PyProof.Rows
set_option maxRecDepth 100000
set_option maxHeartbeats 3000000
local macro_rules | `(tactic| walk_at "compareOp NotEq ref ref") => `(tactic| refine Stop.mk ?_)
local macro_rules | `(tactic| walk_at "call ref cons nil") => `(tactic| refine Stop.mk ?_)
local macro_rules | `(tactic| walk_at "call ref nil") => `(tactic| refine Stop.mk ?_)
theorem shaped2 (x y : Str) (hx : PyData.strOk x = true) (hy : PyData.strOk y = true) : SeqAt.shaped (.tuple [.str x, .str y]) = true := by simp [hx, hy, SeqAt.shaped, PyData.canLay0, PyData.canLayAll0, PyData.depth, PyData.depthAll]
theorem ne_word {w₀ : Str} (h : w₀.length ≠ 0) : (!PyData.eqv (.tuple [.str sp, .str w₀]) (.tuple [.str (Str.ofString " "), .str (Str.ofString "")])) = true := by
  have e : (w₀ == Str.ofString "") = false := by
    rw [beq_eq_false_iff_ne]
    intro e
    rw [e] at h
    exact h (by decide)
  simp [PyData.eqv, PyData.eqvAll, e]
theorem PartsAt.thru {h₀ g h : Heap} {L : Addr} {s : Shared} {vs : List Value} {ws : List Str} {news : List (Addr × Obj)} (hp : PartsAt s.heap vs ws) (Kg : ∀ b o, s.heap.get? b = some o → b ∉ news.map (·.1) → g.get? b = some o) (k : Keep g h) (N : News h₀ L s.heap news) (hn : ∀ p ∈ news, p.2.cls = .type "tuple" → h.get? p.1 = some p.2) : PartsAt h vs ws :=
  hp.move fun b us n e => by
    by_cases hm : b ∈ news.map (·.1)
    · obtain ⟨p, hp, rfl⟩ := List.mem_map.mp hm
      have z := (N p hp).1
      rw [z] at e
      rw [← Option.some.inj e]
      exact hn p hp (by rw [Option.some.inj e])
    · exact k _ _ (Kg b _ e hm)
theorem PartsAt.init {h : Heap} {us : List Value} {w0s : List Str} {t : Addr} {w₀ : Str} (hp : PartsAt h (us ++ [.ref t]) (w0s ++ [w₀])) : PartsAt h us w0s := by
  obtain ⟨Ts, v1, v2, e, hq⟩ := hp
  have e' : us.length = w0s.length := by simpa using e
  refine ⟨Ts, v1, v2, e', fun j hj => ?_⟩
  have z := hq j (by simp; omega)
  rw [List.getElem?_append_left hj] at z
  refine ⟨z.1, ?_⟩
  have z2 := z.2
  rw [List.getD_eq_getElem?_getD, List.getElem?_append_left (e' ▸ hj), ← List.getD_eq_getElem?_getD] at z2
  exact z2
theorem newline_spec {w : World} {mg mb : Str → Option Value} {H : Nat → Int} {T0 : Nat → Tok} {wd : Int} {tw tl : Tok} {c1 c2 : Tok} {f df ll x dx : Addr} {kf : Nat} {lvs : List Value} {nl : Nat} {ls : List Str} {us : List Value} {n k : Nat} {hh : Int} {kt t0 : Tok} {p1 p2 : Array Value} {w0s : List Str} {bm : Addr} {ob : Obj} {t : Addr} {u1 u2 : Tok} {w₀ : Str}
  {dp un : Nat} {gd : Option (List Code)} {cn : Str} {cs : Scope} {a : Addr} {ccd : Value} {cl : List (Str × Addr)} {outer : List Env} {A₀ : Around} {base h₀ : Heap} {L : Addr} {m : Str → Option Value} {s : Shared} {Q E : Value → Shared → Prop} (B : Below A₀ base outer h₀) (F : Fr h₀ L s.heap m) (X : (KK w.params).In h₀) (N : News h₀ L s.heap [(f, instObj 94 df), (df, dictOf (fmtEs H T0 wd tw tl c1 c2 ll x) kf), (ll, lst lvs nl), (x, accO dx (us ++ [.ref t]) n), (dx, dictOf [⟨hh, .str (Str.ofString "_initial_size") kt, .int 0 t0⟩] k), (140, tabO p1), (147, tabO p2), (t, tup [.str sp u1, .str w₀ u2] 0)]) (T : TopRead VV LL mg mb h₀) (hk : cs.kind = .function) (hdp : dp + 20 < recursionLimit) (hun : un + 300 < cLine) (M : BMod h₀ mainGlobals mg bm ob) (hp1 : TriplesOk p1.toList) (hp2 : TriplesOk p2.toList) (hp : PartsAt s.heap (us ++ [.ref t]) (w0s ++ [w₀])) (hz : us.length < 300) (hwl : ∀ v ∈ w0s ++ [w₀], v.length ≤ 100) (hls : StrsAre lvs ls) (hlz : ls.length < 300) (hw0 : w₀.length ≠ 0) (hok : PyData.strOk w₀ = true) (hsp : Txt.isspace (spc (w0s ++ [w₀])) = false)
  (ret : ∀ lvs' nl' n' t' p1' p2' s', ExtBut [ll, x, dx, 140, 147] s s' → s'.heap.get? ll = some (lst lvs' nl') → StrsAre lvs' (ls ++ [spc (w0s ++ [w₀])]) → s'.heap.get? x = some (accO dx [] n') → s'.heap.get? dx = some (dictOf [⟨hh, .str (Str.ofString "_initial_size") kt, .int 0 t'⟩] k) → s'.heap.get? 140 = some (tabO p1') → s'.heap.get? 147 = some (tabO p2') → TriplesOk p1'.toList → TriplesOk p2'.toList → Q .none s') :
  wpAny (model PySem.Challenge.pw_oy0243_01 w) (ktrTop dp un gd cn cs L a ccd cl outer) (call (.ref 56) [.ref f]) Q E s := by
  refine wpAny_call ?_
  refine' enterM (binds := [(Str.ofString "self", .ref f)]) B F X N T rfl rfl hk ?ho ?hcd ?hroom ?hbind ?hloc ?hb ?c1 ?c2 ?c3 ?c4
  case ho => k_is
  case hcd => k_is
  case hroom => exact up0 hdp
  case hbind => exact BindsTo.of_eq rfl
  case hloc => exact locs rfl
  case c1 => decide
  case c2 => exact rfl
  case c3 => exact rfl
  case c4 => exact rfl
  intro g L' h₁ tk₁ Kg F₁ N₁ B₁ X₁ T₁ hlt₁ hsz₁ hL₁
  first | refine' execsIs ?ebL ?_ | refine' execsIsAt ?ebL ?_
  case ebL => conv => lhs; whnf
  have og₀ := OG.refl s
  (try dsimp only)
  refine wpAny_opqE PassesOwn.leaving fun Qo Eo hQo hEo => ?_
  (try k_fold)
  have Mg := M.keeps (keepG F N Kg)
  have hvl : (us ++ [Value.ref t]).length = (w0s ++ [w₀]).length := let ⟨_, _, _, e, _⟩ := hp; e
  have hpi := hp.init
  have hle := spc_le (w0s ++ [w₀]) hwl
  have hwz : (w0s ++ [w₀]).length ≤ 300 := by rw [← hvl]; simp; omega
  have hpos : (cpl (spc (w0s ++ [w₀]))).length ≠ 0 := by rw [← len_cpl, len_spc_snoc]; omega
  have ne_x_f : Hold (@Ne Nat x f) := Hold.mk <| neO (N₁ _ (mth 3 rfl)).1 (N₁ _ (.head _)).1 (show (178 : Nat) ≠ 94 from by decide)
  have ne_f_x : Hold (@Ne Nat f x) := Hold.mk <| neO (N₁ _ (.head _)).1 (N₁ _ (mth 3 rfl)).1 (show (94 : Nat) ≠ 178 from by decide)
  have ne_x_df : Hold (@Ne Nat x df) := Hold.mk <| neO (N₁ _ (mth 3 rfl)).1 (N₁ _ (.tail _ (.head _))).1 (show (178 : Nat) ≠ 1006 from by decide)
  have ne_df_x : Hold (@Ne Nat df x) := Hold.mk <| neO (N₁ _ (.tail _ (.head _))).1 (N₁ _ (mth 3 rfl)).1 (show (1006 : Nat) ≠ 178 from by decide)
  have ne_x_ll : Hold (@Ne Nat x ll) := Hold.mk <| neO (N₁ _ (mth 3 rfl)).1 (N₁ _ (mth 2 rfl)).1 (show (178 : Nat) ≠ 1 from by decide)
  have ne_ll_x : Hold (@Ne Nat ll x) := Hold.mk <| neO (N₁ _ (mth 2 rfl)).1 (N₁ _ (mth 3 rfl)).1 (show (1 : Nat) ≠ 178 from by decide)
  have ne_x_dx : Hold (@Ne Nat x dx) := Hold.mk <| neO (N₁ _ (mth 3 rfl)).1 (N₁ _ (mth 4 rfl)).1 (show (178 : Nat) ≠ 1001 from by decide)
  have ne_dx_x : Hold (@Ne Nat dx x) := Hold.mk <| neO (N₁ _ (mth 4 rfl)).1 (N₁ _ (mth 3 rfl)).1 (show (1001 : Nat) ≠ 178 from by decide)
  have ne_x_140 : Hold (@Ne Nat x 140) := Hold.mk <| neO (N₁ _ (mth 3 rfl)).1 (N₁ _ (mth 5 rfl)).1 (show (178 : Nat) ≠ 2 from by decide)
  have ne_140_x : Hold (@Ne Nat 140 x) := Hold.mk <| neO (N₁ _ (mth 5 rfl)).1 (N₁ _ (mth 3 rfl)).1 (show (2 : Nat) ≠ 178 from by decide)
  have ne_x_147 : Hold (@Ne Nat x 147) := Hold.mk <| neO (N₁ _ (mth 3 rfl)).1 (N₁ _ (mth 6 rfl)).1 (show (178 : Nat) ≠ 2 from by decide)
  have ne_147_x : Hold (@Ne Nat 147 x) := Hold.mk <| neO (N₁ _ (mth 6 rfl)).1 (N₁ _ (mth 3 rfl)).1 (show (2 : Nat) ≠ 178 from by decide)
  have ne_140_f : Hold (@Ne Nat 140 f) := Hold.mk <| neO (N₁ _ (mth 5 rfl)).1 (N₁ _ (.head _)).1 (show (2 : Nat) ≠ 94 from by decide)
  have ne_f_140 : Hold (@Ne Nat f 140) := Hold.mk <| neO (N₁ _ (.head _)).1 (N₁ _ (mth 5 rfl)).1 (show (94 : Nat) ≠ 2 from by decide)
  have ne_140_df : Hold (@Ne Nat 140 df) := Hold.mk <| neO (N₁ _ (mth 5 rfl)).1 (N₁ _ (.tail _ (.head _))).1 (show (2 : Nat) ≠ 1006 from by decide)
  have ne_df_140 : Hold (@Ne Nat df 140) := Hold.mk <| neO (N₁ _ (.tail _ (.head _))).1 (N₁ _ (mth 5 rfl)).1 (show (1006 : Nat) ≠ 2 from by decide)
  have ne_140_ll : Hold (@Ne Nat 140 ll) := Hold.mk <| neO (N₁ _ (mth 5 rfl)).1 (N₁ _ (mth 2 rfl)).1 (show (2 : Nat) ≠ 1 from by decide)
  have ne_ll_140 : Hold (@Ne Nat ll 140) := Hold.mk <| neO (N₁ _ (mth 2 rfl)).1 (N₁ _ (mth 5 rfl)).1 (show (1 : Nat) ≠ 2 from by decide)
  have ne_140_dx : Hold (@Ne Nat 140 dx) := Hold.mk <| neO (N₁ _ (mth 5 rfl)).1 (N₁ _ (mth 4 rfl)).1 (show (2 : Nat) ≠ 1001 from by decide)
  have ne_dx_140 : Hold (@Ne Nat dx 140) := Hold.mk <| neO (N₁ _ (mth 4 rfl)).1 (N₁ _ (mth 5 rfl)).1 (show (1001 : Nat) ≠ 2 from by decide)
  have ne_147_f : Hold (@Ne Nat 147 f) := Hold.mk <| neO (N₁ _ (mth 6 rfl)).1 (N₁ _ (.head _)).1 (show (2 : Nat) ≠ 94 from by decide)
  have ne_f_147 : Hold (@Ne Nat f 147) := Hold.mk <| neO (N₁ _ (.head _)).1 (N₁ _ (mth 6 rfl)).1 (show (94 : Nat) ≠ 2 from by decide)
  have ne_147_df : Hold (@Ne Nat 147 df) := Hold.mk <| neO (N₁ _ (mth 6 rfl)).1 (N₁ _ (.tail _ (.head _))).1 (show (2 : Nat) ≠ 1006 from by decide)
  have ne_df_147 : Hold (@Ne Nat df 147) := Hold.mk <| neO (N₁ _ (.tail _ (.head _))).1 (N₁ _ (mth 6 rfl)).1 (show (1006 : Nat) ≠ 2 from by decide)
  have ne_147_ll : Hold (@Ne Nat 147 ll) := Hold.mk <| neO (N₁ _ (mth 6 rfl)).1 (N₁ _ (mth 2 rfl)).1 (show (2 : Nat) ≠ 1 from by decide)
  have ne_ll_147 : Hold (@Ne Nat ll 147) := Hold.mk <| neO (N₁ _ (mth 2 rfl)).1 (N₁ _ (mth 6 rfl)).1 (show (1 : Nat) ≠ 2 from by decide)
  have ne_147_dx : Hold (@Ne Nat 147 dx) := Hold.mk <| neO (N₁ _ (mth 6 rfl)).1 (N₁ _ (mth 4 rfl)).1 (show (2 : Nat) ≠ 1001 from by decide)
  have ne_dx_147 : Hold (@Ne Nat dx 147) := Hold.mk <| neO (N₁ _ (mth 4 rfl)).1 (N₁ _ (mth 6 rfl)).1 (show (1001 : Nat) ≠ 2 from by decide)
  have ne_dx_f : Hold (@Ne Nat dx f) := Hold.mk <| neO (N₁ _ (mth 4 rfl)).1 (N₁ _ (.head _)).1 (show (1001 : Nat) ≠ 94 from by decide)
  have ne_f_dx : Hold (@Ne Nat f dx) := Hold.mk <| neO (N₁ _ (.head _)).1 (N₁ _ (mth 4 rfl)).1 (show (94 : Nat) ≠ 1001 from by decide)
  have ne_dx_df : Hold (@Ne Nat dx df) := Hold.mk <| neO (N₁ _ (mth 4 rfl)).1 (N₁ _ (.tail _ (.head _))).1 (show (1001 : Nat) ≠ 1006 from by decide)
  have ne_df_dx : Hold (@Ne Nat df dx) := Hold.mk <| neO (N₁ _ (.tail _ (.head _))).1 (N₁ _ (mth 4 rfl)).1 (show (1006 : Nat) ≠ 1001 from by decide)
  have ne_dx_ll : Hold (@Ne Nat dx ll) := Hold.mk <| neO (N₁ _ (mth 4 rfl)).1 (N₁ _ (mth 2 rfl)).1 (show (1001 : Nat) ≠ 1 from by decide)
  have ne_ll_dx : Hold (@Ne Nat ll dx) := Hold.mk <| neO (N₁ _ (mth 2 rfl)).1 (N₁ _ (mth 4 rfl)).1 (show (1 : Nat) ≠ 1001 from by decide)
  have ne_ll_f : Hold (@Ne Nat ll f) := Hold.mk <| neO (N₁ _ (mth 2 rfl)).1 (N₁ _ (.head _)).1 (show (1 : Nat) ≠ 94 from by decide)
  have ne_f_ll : Hold (@Ne Nat f ll) := Hold.mk <| neO (N₁ _ (.head _)).1 (N₁ _ (mth 2 rfl)).1 (show (94 : Nat) ≠ 1 from by decide)
  have ne_ll_df : Hold (@Ne Nat ll df) := Hold.mk <| neO (N₁ _ (mth 2 rfl)).1 (N₁ _ (.tail _ (.head _))).1 (show (1 : Nat) ≠ 1006 from by decide)
  have ne_df_ll : Hold (@Ne Nat df ll) := Hold.mk <| neO (N₁ _ (.tail _ (.head _))).1 (N₁ _ (mth 2 rfl)).1 (show (1006 : Nat) ≠ 1 from by decide)
  have ne_t_x : Hold (@Ne Nat t x) := Hold.mk <| neO (N₁ _ (mth 7 rfl)).1 (N₁ _ (mth 3 rfl)).1 (show (3 : Nat) ≠ 178 from by decide)
  have ne_x_t : Hold (@Ne Nat x t) := Hold.mk <| neO (N₁ _ (mth 3 rfl)).1 (N₁ _ (mth 7 rfl)).1 (show (178 : Nat) ≠ 3 from by decide)
  have ne_t_dx : Hold (@Ne Nat t dx) := Hold.mk <| neO (N₁ _ (mth 7 rfl)).1 (N₁ _ (mth 4 rfl)).1 (show (3 : Nat) ≠ 1001 from by decide)
  have ne_dx_t : Hold (@Ne Nat dx t) := Hold.mk <| neO (N₁ _ (mth 4 rfl)).1 (N₁ _ (mth 7 rfl)).1 (show (1001 : Nat) ≠ 3 from by decide)
  have ne_t_140 : Hold (@Ne Nat t 140) := Hold.mk <| neO (N₁ _ (mth 7 rfl)).1 (N₁ _ (mth 5 rfl)).1 (show (3 : Nat) ≠ 2 from by decide)
  have ne_140_t : Hold (@Ne Nat 140 t) := Hold.mk <| neO (N₁ _ (mth 5 rfl)).1 (N₁ _ (mth 7 rfl)).1 (show (2 : Nat) ≠ 3 from by decide)
  have ne_t_147 : Hold (@Ne Nat t 147) := Hold.mk <| neO (N₁ _ (mth 7 rfl)).1 (N₁ _ (mth 6 rfl)).1 (show (3 : Nat) ≠ 2 from by decide)
  have ne_147_t : Hold (@Ne Nat 147 t) := Hold.mk <| neO (N₁ _ (mth 6 rfl)).1 (N₁ _ (mth 7 rfl)).1 (show (2 : Nat) ≠ 3 from by decide)
  have ne_t_ll : Hold (@Ne Nat t ll) := Hold.mk <| neO (N₁ _ (mth 7 rfl)).1 (N₁ _ (mth 2 rfl)).1 (show (3 : Nat) ≠ 1 from by decide)
  have ne_ll_t : Hold (@Ne Nat ll t) := Hold.mk <| neO (N₁ _ (mth 2 rfl)).1 (N₁ _ (mth 7 rfl)).1 (show (1 : Nat) ≠ 3 from by decide)
  k_steps
  all_goals (try (with_reducible show Stop _; show wpAny _ _ _ _ _ _))
  dsimp only [List.append_nil]
  refine' pop_spec (us := us) (v := .ref t) ?B ?F ?X (allC (N₁ _ (mth 3 rfl)) (allC (N₁ _ (mth 4 rfl)) allN)) ?T ?hk ?hdp ?hun (by omega) ?_
  case B => first | assumption | k_asm
  case F => k_asm
  case X => first | assumption | k_asm
  case T => first | assumption | k_asm
  case hk => exact rfl
  case hdp => k_room
  case hun => k_room
  intro s2 x2 e2
  have F2 := exF x2 F₁ (nm1 (Ne.symm (N₁ _ (mth 3 rfl)).2.1)) (allC (N₁ _ (mth 3 rfl)).2.2 allN)
  have N2 : News g L' s2.heap [(f, instObj 94 df), (df, dictOf (fmtEs H T0 wd tw tl c1 c2 ll x) kf), (ll, lst lvs nl), (x, accO dx us (n + 1)), (dx, dictOf [⟨hh, .str (Str.ofString "_initial_size") kt, .int 0 t0⟩] k), (140, tabO p1), (147, tabO p2), (t, tup [.str sp u1, .str w₀ u2] 0)] := (allC (exK x2 N₁ (.head _) (nm1 ne_f_x.out)) (allC (exK x2 N₁ (.tail _ (.head _)) (nm1 ne_df_x.out)) (allC (exK x2 N₁ (mth 2 rfl) (nm1 ne_ll_x.out)) (allC (entH N₁ (mth 3 rfl) e2) (allC (exK x2 N₁ (mth 4 rfl) (nm1 ne_dx_x.out)) (allC (exK x2 N₁ (mth 5 rfl) (nm1 ne_140_x.out)) (allC (exK x2 N₁ (mth 6 rfl) (nm1 ne_147_x.out)) (allC (exK x2 N₁ (mth 7 rfl) (nm1 ne_t_x.out)) allN))))))))
  have og2 := OG.stepB (by assumption) x2
  clear F₁ N₁
  k_steps
  all_goals (try (with_reducible show Stop _; show wpAny _ _ _ _ _ _))
  (rename News _ _ _ _ => N3)
  refine ne_dataH (reads_tuple_at (N3 _ (mth 8 rfl)).1 rfl rfl (.cons (.str _ _) (.cons (.str _ _) .nil))) (reads_tuple_at (N3 _ (.head _)).1 rfl rfl (.cons (.str _ _) (.cons (.str _ _) .nil))) (shaped2 _ _ (by decide +kernel) hok) (shaped2 _ _ (by decide +kernel) (by decide +kernel)) (by simp only [units_deeper]; omega) ?_
  rw [ne_word hw0]
  have N3' : News g L' _ [(f, instObj 94 df), (df, dictOf (fmtEs H T0 wd tw tl c1 c2 ll x) kf), (ll, lst lvs nl), (x, accO dx us (n + 1)), (dx, dictOf [⟨hh, .str (Str.ofString "_initial_size") kt, .int 0 t0⟩] k), (140, tabO p1), (147, tabO p2), (t, tup [.str sp u1, .str w₀ u2] 0)] := fun p hp => N3 p (.tail _ hp)
  clear N3
  k_steps
  all_goals (try (with_reducible show Stop _; show wpAny _ _ _ _ _ _))
  refine starCall ?_
  k_steps
  all_goals (try (with_reducible show Stop _; show wpAny _ _ _ _ _ _))
  refine' acc_getM (f := 122) ?F ?X lcls ?N ?m1 ?m2 ?ka ?kf ?kg ?kt ?kc ?kl ?_
  case F => k_asm
  case X => first | assumption | k_asm
  case N => k_asm
  case m1 => k_mem
  case m2 => k_mem
  case ka => k_is
  case kf => k_is
  case kg => k_is
  case kt => k_is
  case kc => decide +kernel
  case kl => (rw [lookIn_dict]; k_get)
  intro q h5 F5 N5 l5
  refine starWith (K := KK w.params) (g := 122) (self := .ref x) (by k_is) ?_
  k_steps
  all_goals (try (with_reducible show Stop _; show wpAny _ _ _ _ _ _))
  (rename Fr _ _ _ _ => F6)
  (rename News _ _ _ _ => N6)
  refine call_meth N6 (.head _) ?_
  have N6' : News g L' _ [(f, instObj 94 df), (df, dictOf (fmtEs H T0 wd tw tl c1 c2 ll x) kf), (ll, lst lvs nl), (x, accO dx us (n + 1)), (dx, dictOf [⟨hh, .str (Str.ofString "_initial_size") kt, .int 0 t0⟩] k), (140, tabO p1), (147, tabO p2), (t, tup [.str sp u1, .str w₀ u2] 0)] := fun p hp => N6 p (.tail _ hp)
  clear N6
  refine' pushR_spec (vs := us) ?B ?F ?X (allC (N6' _ (mth 3 rfl)) (allC (N6' _ (mth 4 rfl)) allN)) ?T ?hk ?hdp ?hun (by omega) ?_
  case B => first | assumption | k_asm
  case F => k_asm
  case X => first | assumption | k_asm
  case T => first | assumption | k_asm
  case hk => exact rfl
  case hdp => k_room
  case hun => k_room
  intro t7 s7 x7 e7 g7 n7
  have ne_t7_x : Hold (@Ne Nat t7 x) := Hold.mk <| neNone n7 (N6' _ (mth 3 rfl)).1
  have ne_x_t7 : Hold (@Ne Nat x t7) := Hold.mk (Ne.symm ne_t7_x.out)
  have ne_t7_dx : Hold (@Ne Nat t7 dx) := Hold.mk <| neNone n7 (N6' _ (mth 4 rfl)).1
  have ne_dx_t7 : Hold (@Ne Nat dx t7) := Hold.mk (Ne.symm ne_t7_dx.out)
  have ne_t7_140 : Hold (@Ne Nat t7 140) := Hold.mk <| neNone n7 (N6' _ (mth 5 rfl)).1
  have ne_140_t7 : Hold (@Ne Nat 140 t7) := Hold.mk (Ne.symm ne_t7_140.out)
  have ne_t7_147 : Hold (@Ne Nat t7 147) := Hold.mk <| neNone n7 (N6' _ (mth 6 rfl)).1
  have ne_147_t7 : Hold (@Ne Nat 147 t7) := Hold.mk (Ne.symm ne_t7_147.out)
  have ne_t7_ll : Hold (@Ne Nat t7 ll) := Hold.mk <| neNone n7 (N6' _ (mth 2 rfl)).1
  have ne_ll_t7 : Hold (@Ne Nat ll t7) := Hold.mk (Ne.symm ne_t7_ll.out)
  have F7 := exF x7 F6 (nm1 (Ne.symm (N6' _ (mth 3 rfl)).2.1)) (allC (N6' _ (mth 3 rfl)).2.2 allN)
  have N7 : News g L' s7.heap [(t7, tup [.str sp u1, .str w₀ u2] 0), (f, instObj 94 df), (df, dictOf (fmtEs H T0 wd tw tl c1 c2 ll x) kf), (ll, lst lvs nl), (x, accO dx (us ++ [.ref t7]) (n + 1 + 1)), (dx, dictOf [⟨hh, .str (Str.ofString "_initial_size") kt, .int 0 t0⟩] k), (140, tabO p1), (147, tabO p2), (t, tup [.str sp u1, .str w₀ u2] 0)] := (allC (exN x7 F6 n7 g7) (allC (exK x7 N6' (.head _) (nm1 ne_f_x.out)) (allC (exK x7 N6' (.tail _ (.head _)) (nm1 ne_df_x.out)) (allC (exK x7 N6' (mth 2 rfl) (nm1 ne_ll_x.out)) (allC (entH N6' (mth 3 rfl) e7) (allC (exK x7 N6' (mth 4 rfl) (nm1 ne_dx_x.out)) (allC (exK x7 N6' (mth 5 rfl) (nm1 ne_140_x.out)) (allC (exK x7 N6' (mth 6 rfl) (nm1 ne_147_x.out)) (allC (exK x7 N6' (mth 7 rfl) (nm1 ne_t_x.out)) allN)))))))))
  have og7 := OG.stepB (by assumption) x7
  clear F6 N6'
  dsimp only
  k_steps
  all_goals (try (with_reducible show Stop _; show wpAny _ _ _ _ _ _))
  refine' alen_spec (ps := p1) (ws := w0s ++ [w₀]) ?B ?F ?X (allC (N7 _ (mth 4 rfl)) (allC (N7 _ (mth 5 rfl)) (allC (N7 _ (mth 6 rfl)) allN))) ?T ?hk ?hdp ?hun Mg hp1 ((hpi.thru Kg F7.keep N (allC (fun e => nomatch e) (allC (fun e => absurd e notTupD) (allC (fun e => absurd e notTupL) (allC (fun e => nomatch e) (allC (fun e => absurd e notTupD) (allC (fun e => nomatch e) (allC (fun e => nomatch e) (allC (fun _ => (N7 _ (mth 8 rfl)).1) allN))))))))).snoc (fun _ _ e => e) (N7 _ (.head _)).1) (by simp; omega) hwl ?_
  case B => first | assumption | k_asm
  case F => k_asm
  case X => first | assumption | k_asm
  case T => first | assumption | k_asm
  case hk => exact rfl
  case hdp => k_room
  case hun => k_room
  intro t8 q1 s8 x8 e8 r8
  have F8 := exF x8 F7 (nm1 (Ne.symm (N7 _ (mth 6 rfl)).2.1)) (allC (N7 _ (mth 6 rfl)).2.2 allN)
  have N8 : News g L' s8.heap [(t7, tup [.str sp u1, .str w₀ u2] 0), (f, instObj 94 df), (df, dictOf (fmtEs H T0 wd tw tl c1 c2 ll x) kf), (ll, lst lvs nl), (x, accO dx (us ++ [.ref t7]) (n + 1 + 1)), (dx, dictOf [⟨hh, .str (Str.ofString "_initial_size") kt, .int 0 t0⟩] k), (140, tabO q1), (147, tabO p2), (t, tup [.str sp u1, .str w₀ u2] 0)] := (allC (exK x8 N7 (.head _) (nm1 ne_t7_140.out)) (allC (exK x8 N7 (.tail _ (.head _)) (nm1 ne_f_140.out)) (allC (exK x8 N7 (mth 2 rfl) (nm1 ne_df_140.out)) (allC (exK x8 N7 (mth 3 rfl) (nm1 ne_ll_140.out)) (allC (exK x8 N7 (mth 4 rfl) (nm1 ne_x_140.out)) (allC (exK x8 N7 (mth 5 rfl) (nm1 ne_dx_140.out)) (allC (entH N7 (mth 6 rfl) e8) (allC (exK x8 N7 (mth 7 rfl) (nm1 (show (147 : Nat) ≠ 140 from by decide))) (allC (exK x8 N7 (mth 8 rfl) (nm1 ne_t_140.out)) allN)))))))))
  have og8 := OG.stepB (by assumption) x8
  clear F7 N7
  refine ⟨⟨by omega, by omega⟩, ?_⟩
  dsimp only
  have hc0 : (0 : Int) < (((cpl (spc (w0s ++ [w₀]))).length : Nat) : Int) := Int.natCast_pos.mpr (Nat.pos_of_ne_zero hpos)
  k_steps
  all_goals (try (with_reducible show Stop _; show wpAny _ _ _ _ _ _))
  refine' onlyws_spec (p1 := q1) (p2 := p2) (ws := w0s ++ [w₀]) ?B ?F ?X (allC (N8 _ (mth 4 rfl)) (allC (N8 _ (mth 5 rfl)) (allC (N8 _ (mth 6 rfl)) (allC (N8 _ (mth 7 rfl)) allN)))) ?T ?hk ?hdp ?hun Mg r8 hp2 ((hpi.thru Kg F8.keep N (allC (fun e => nomatch e) (allC (fun e => absurd e notTupD) (allC (fun e => absurd e notTupL) (allC (fun e => nomatch e) (allC (fun e => absurd e notTupD) (allC (fun e => nomatch e) (allC (fun e => nomatch e) (allC (fun _ => (N8 _ (mth 8 rfl)).1) allN))))))))).snoc (fun _ _ e => e) (N8 _ (.head _)).1) (by simp; omega) hwl hpos hsp ?_
  case B => first | assumption | k_asm
  case F => k_asm
  case X => first | assumption | k_asm
  case T => first | assumption | k_asm
  case hk => exact rfl
  case hdp => k_room
  case hun => k_room
  intro q1' q2 s9 x9 e9 f9 r9 v9
  have F9 := exF x9 F8 (nm2 (Ne.symm (N8 _ (mth 6 rfl)).2.1) (Ne.symm (N8 _ (mth 7 rfl)).2.1)) (allC (N8 _ (mth 6 rfl)).2.2 (allC (N8 _ (mth 7 rfl)).2.2 allN))
  have N9 : News g L' s9.heap [(t7, tup [.str sp u1, .str w₀ u2] 0), (f, instObj 94 df), (df, dictOf (fmtEs H T0 wd tw tl c1 c2 ll x) kf), (ll, lst lvs nl), (x, accO dx (us ++ [.ref t7]) (n + 1 + 1)), (dx, dictOf [⟨hh, .str (Str.ofString "_initial_size") kt, .int 0 t0⟩] k), (140, tabO q1'), (147, tabO q2), (t, tup [.str sp u1, .str w₀ u2] 0)] := (allC (exK x9 N8 (.head _) (nm2 ne_t7_140.out ne_t7_147.out)) (allC (exK x9 N8 (.tail _ (.head _)) (nm2 ne_f_140.out ne_f_147.out)) (allC (exK x9 N8 (mth 2 rfl) (nm2 ne_df_140.out ne_df_147.out)) (allC (exK x9 N8 (mth 3 rfl) (nm2 ne_ll_140.out ne_ll_147.out)) (allC (exK x9 N8 (mth 4 rfl) (nm2 ne_x_140.out ne_x_147.out)) (allC (exK x9 N8 (mth 5 rfl) (nm2 ne_dx_140.out ne_dx_147.out)) (allC (entH N8 (mth 6 rfl) e9) (allC (entH N8 (mth 7 rfl) f9) (allC (exK x9 N8 (mth 8 rfl) (nm2 ne_t_140.out ne_t_147.out)) allN)))))))))
  have og9 := OG.stepB (by assumption) x9
  clear F8 N8
  k_steps
  all_goals (try (with_reducible show Stop _; show wpAny _ _ _ _ _ _))
  (rename Fr _ _ _ _ => F10)
  (rename News _ _ _ _ => N10)
  (try dsimp only)
  refine' astr_spec (ps := q2) (ws := w0s ++ [w₀]) ?B ?F ?X (allC (N10 _ (mth 4 rfl)) (allC (N10 _ (mth 5 rfl)) (allC (N10 _ (mth 7 rfl)) allN))) ?T ?hk ?hdp ?hun Mg v9 ((hpi.thru Kg F10.keep N (allC (fun e => nomatch e) (allC (fun e => absurd e notTupD) (allC (fun e => absurd e notTupL) (allC (fun e => nomatch e) (allC (fun e => absurd e notTupD) (allC (fun e => nomatch e) (allC (fun e => nomatch e) (allC (fun _ => (N10 _ (mth 8 rfl)).1) allN))))))))).snoc (fun _ _ e => e) (N10 _ (.head _)).1) (by simp; omega) hwl ?_
  case B => first | assumption | k_asm
  case F => k_asm
  case X => first | assumption | k_asm
  case T => first | assumption | k_asm
  case hk => exact rfl
  case hdp => k_room
  case hun => k_room
  intro t11 q3 s11 x11 e11 r11
  have F11 := exF x11 F10 (nm1 (Ne.symm (N10 _ (mth 7 rfl)).2.1)) (allC (N10 _ (mth 7 rfl)).2.2 allN)
  have N11 : News g L' s11.heap [(t7, tup [.str sp u1, .str w₀ u2] 0), (f, instObj 94 df), (df, dictOf (fmtEs H T0 wd tw tl c1 c2 ll x) kf), (ll, lst lvs nl), (x, accO dx (us ++ [.ref t7]) (n + 1 + 1)), (dx, dictOf [⟨hh, .str (Str.ofString "_initial_size") kt, .int 0 t0⟩] k), (140, tabO q1'), (147, tabO q3), (t, tup [.str sp u1, .str w₀ u2] 0)] := (allC (exK x11 N10 (.head _) (nm1 ne_t7_147.out)) (allC (exK x11 N10 (.tail _ (.head _)) (nm1 ne_f_147.out)) (allC (exK x11 N10 (mth 2 rfl) (nm1 ne_df_147.out)) (allC (exK x11 N10 (mth 3 rfl) (nm1 ne_ll_147.out)) (allC (exK x11 N10 (mth 4 rfl) (nm1 ne_x_147.out)) (allC (exK x11 N10 (mth 5 rfl) (nm1 ne_dx_147.out)) (allC (exK x11 N10 (mth 6 rfl) (nm1 (show (140 : Nat) ≠ 147 from by decide))) (allC (entH N10 (mth 7 rfl) e11) (allC (exK x11 N10 (mth 8 rfl) (nm1 ne_t_147.out)) allN)))))))))
  have og11 := OG.stepB (by assumption) x11
  clear F10 N10
  show W.StrBack _ _ _
  dsimp only [W.StrBack]
  have z_ll_t7 := ne_ll_t7.out
  have z_t7_ll := ne_t7_ll.out
  have z_ll_f := ne_ll_f.out
  have z_f_ll := ne_f_ll.out
  have z_ll_df := ne_ll_df.out
  have z_df_ll := ne_df_ll.out
  have z_ll_x := ne_ll_x.out
  have z_x_ll := ne_x_ll.out
  have z_ll_dx := ne_ll_dx.out
  have z_dx_ll := ne_dx_ll.out
  have z_ll_140 := ne_ll_140.out
  have z_140_ll := ne_140_ll.out
  have z_ll_147 := ne_ll_147.out
  have z_147_ll := ne_147_ll.out
  have z_ll_t := ne_ll_t.out
  have z_t_ll := ne_t_ll.out
  k_steps
  all_goals (try (with_reducible show Stop _; show wpAny _ _ _ _ _ _))
  clear z_ll_t7 z_t7_ll z_ll_f z_f_ll z_ll_df z_df_ll z_ll_x z_x_ll z_ll_dx z_dx_ll z_ll_140 z_140_ll z_ll_147 z_147_ll z_ll_t z_t_ll
  (rename Fr _ _ _ _ => F12)
  (rename News _ _ _ _ => N12)
  rw [show W.listOf (lvs.toArray.push (.str (spc (w0s ++ [w₀])) t11)) (nl + 1) = lst (lvs ++ [.str (spc (w0s ++ [w₀])) t11]) (nl + 1) from by simp] at N12
  dsimp only [List.append_nil]
  refine' reset0_spec (vs := us ++ [.ref t7]) ?B ?F ?X (allC (N12 _ (mth 4 rfl)) (allC (N12 _ (mth 5 rfl)) allN)) ?T ?hk ?hdp ?hun (by simp; omega) ?_
  case B => first | assumption | k_asm
  case F => k_asm
  case X => first | assumption | k_asm
  case T => first | assumption | k_asm
  case hk => exact rfl
  case hdp => k_room
  case hun => k_room
  intro n13 t13 s13 x13 e13 d13
  have F13 := exF x13 F12 (nm2 (Ne.symm (N12 _ (mth 4 rfl)).2.1) (Ne.symm (N12 _ (mth 5 rfl)).2.1)) (allC (N12 _ (mth 4 rfl)).2.2 (allC (N12 _ (mth 5 rfl)).2.2 allN))
  have N13 : News g L' s13.heap [(t7, tup [.str sp u1, .str w₀ u2] 0), (f, instObj 94 df), (df, dictOf (fmtEs H T0 wd tw tl c1 c2 ll x) kf), (ll, lst (lvs ++ [.str (spc (w0s ++ [w₀])) t11]) (nl + 1)), (x, accO dx [] n13), (dx, dictOf [⟨hh, .str (Str.ofString "_initial_size") kt, .int 0 t13⟩] k), (140, tabO q1'), (147, tabO q3), (t, tup [.str sp u1, .str w₀ u2] 0)] := (allC (exK x13 N12 (.head _) (nm2 ne_t7_x.out ne_t7_dx.out)) (allC (exK x13 N12 (.tail _ (.head _)) (nm2 ne_f_x.out ne_f_dx.out)) (allC (exK x13 N12 (mth 2 rfl) (nm2 ne_df_x.out ne_df_dx.out)) (allC (exK x13 N12 (mth 3 rfl) (nm2 ne_ll_x.out ne_ll_dx.out)) (allC (entH N12 (mth 4 rfl) e13) (allC (entH N12 (mth 5 rfl) d13) (allC (exK x13 N12 (mth 6 rfl) (nm2 ne_140_x.out ne_140_dx.out)) (allC (exK x13 N12 (mth 7 rfl) (nm2 ne_147_x.out ne_147_dx.out)) (allC (exK x13 N12 (mth 8 rfl) (nm2 ne_t_x.out ne_t_dx.out)) allN)))))))))
  have og13 := OG.stepB (by assumption) x13
  clear F12 N12
  k_steps
  all_goals (try (with_reducible show Stop _; show wpAny _ _ _ _ _ _))
  refine hQo _ _ ?_
  exact ret (lvs ++ [.str (spc (w0s ++ [w₀])) t11]) (nl + 1) n13 t13 q1' q3 _ (extOut2 Kg F13.keep N (allC (.inr (N13 _ (.tail _ (.head _))).1) (allC (.inr (N13 _ (mth 2 rfl)).1) (allC (.inl (.head _)) (allC (.inl (.tail _ (.head _))) (allC (.inl (mth 2 rfl)) (allC (.inl (mth 3 rfl)) (allC (.inl (mth 4 rfl)) (allC (.inr (N13 _ (mth 8 rfl)).1) allN)))))))) rfl og13) (N13 _ (mth 3 rfl)).1 (StrsAre.append' hls (.cons _ _ .nil)) (N13 _ (mth 4 rfl)).1 (N13 _ (mth 5 rfl)).1 (N13 _ (mth 6 rfl)).1 (N13 _ (mth 7 rfl)).1 r9 r11
end
-- A19
section
open PySem PySem.W PySem.Spec PySem.Calls PyProof.Rows
set_option maxRecDepth 100000
set_option maxHeartbeats 3000000
local macro_rules | `(tactic| walk_at "call ref cons nil") => `(tactic| refine Stop.mk ?_)
local macro_rules | `(tactic| walk_at "call ref nil") => `(tactic| refine Stop.mk ?_)
theorem nm5 {a b c d e f : Nat} (h : a ≠ b) (h2 : a ≠ c) (h3 : a ≠ d) (h4 : a ≠ e) (h5 : a ≠ f) : a ∉ [b, c, d, e, f] := by simp [h, h2, h3, h4, h5]
theorem str1_spec {w : World} {mg mb : Str → Option Value} {H : Nat → Int} {T0 : Nat → Tok} {wd : Int} {tw tl : Tok} {c1 c2 : Tok} {f df ll x dx : Addr} {kf : Nat} {lvs : List Value} {nl : Nat} {ls : List Str} {us : List Value} {n k : Nat} {hh : Int} {kt t0 : Tok} {p1 p2 : Array Value} {w0s : List Str} {bm : Addr} {ob : Obj} {t : Addr} {u1 u2 : Tok} {w₀ : Str} {ul : Tok}
  {dp un : Nat} {gd : Option (List Code)} {cn : Str} {cs : Scope} {a : Addr} {ccd : Value} {cl : List (Str × Addr)} {outer : List Env} {A₀ : Around} {base h₀ : Heap} {L : Addr} {m : Str → Option Value} {s : Shared} {Q E : Value → Shared → Prop} (B : Below A₀ base outer h₀) (F : Fr h₀ L s.heap m) (X : (KK w.params).In h₀) (N : News h₀ L s.heap [(f, instObj 94 df), (df, dictOf (fmtEs H T0 wd tw tl c1 c2 ll x) kf), (ll, lst lvs nl), (x, accO dx (us ++ [.ref t]) n), (dx, dictOf [⟨hh, .str (Str.ofString "_initial_size") kt, .int 0 t0⟩] k), (140, tabO p1), (147, tabO p2), (t, tup [.str sp u1, .str w₀ u2] 0)]) (T : TopRead VV LL mg mb h₀) (hk : cs.kind = .function) (hdp : dp + 25 < recursionLimit) (hun : un + 400 < cLine) (M : BMod h₀ mainGlobals mg bm ob) (hp1 : TriplesOk p1.toList) (hp2 : TriplesOk p2.toList) (hp : PartsAt s.heap (us ++ [.ref t]) (w0s ++ [w₀])) (hz : us.length < 300) (hwl : ∀ v ∈ w0s ++ [w₀], v.length ≤ 100) (hls : StrsAre lvs ls) (hlz : ls.length < 300) (hw0 : w₀.length ≠ 0) (hok : PyData.strOk w₀ = true) (hsp : Txt.isspace (spc (w0s ++ [w₀])) = false) (hjw : ((ls ++ [spc (w0s ++ [w₀])]).map (·.length)).sum + (ls ++ [spc (w0s ++ [w₀])]).length ≤ 1048576)
  (ret : ∀ p1' p2' tk s', ExtBut [ll, x, dx, 140, 147] s s' → s'.heap.get? 140 = some (tabO p1') → s'.heap.get? 147 = some (tabO p2') → TriplesOk p1'.toList → TriplesOk p2'.toList → Q (.str (Txt.join Mine.nl (ls ++ [spc (w0s ++ [w₀])])) tk) s') :
  wpAny (model PySem.Challenge.pw_oy0243_01 w) (ktrTop dp un gd cn cs L a ccd cl outer) (call (.ref 42) [.ref f, .str Mine.nl ul]) Q E s := by
  refine wpAny_call ?_
  refine' enterM (binds := [(Str.ofString "self", .ref f), (Str.ofString "linesep", .str Mine.nl ul)]) B F X N T rfl rfl hk ?ho ?hcd ?hroom ?hbind ?hloc ?hb ?c1 ?c2 ?c3 ?c4
  case ho => k_is
  case hcd => k_is
  case hroom => exact up0 hdp
  case hbind => exact BindsTo.of_eq rfl
  case hloc => exact locs rfl
  case c1 => decide
  case c2 => exact rfl
  case c3 => exact rfl
  case c4 => exact rfl
  intro g L' h₁ tk₁ Kg F₁ N₁ B₁ X₁ T₁ hlt₁ hsz₁ hL₁
  first | refine' execsIs ?ebL ?_ | refine' execsIsAt ?ebL ?_
  case ebL => conv => lhs; whnf
  have og₀ := OG.refl s
  (try dsimp only)
  refine wpAny_opqE PassesOwn.leaving fun Qo Eo hQo hEo => ?_
  (try k_fold)
  have Mg := M.keeps (keepG F N Kg)
  have hpt : PartsAt h₁ (us ++ [.ref t]) (w0s ++ [w₀]) := hp.thru Kg F₁.keep N (allC (fun e => nomatch e) (allC (fun e => absurd e notTupD) (allC (fun e => absurd e notTupL) (allC (fun e => nomatch e) (allC (fun e => absurd e notTupD) (allC (fun e => nomatch e) (allC (fun e => nomatch e) (allC (fun _ => (N₁ _ (mth 7 rfl)).1) allN))))))))
  have ne_x_f : Hold (@Ne Nat x f) := Hold.mk <| neO (N₁ _ (mth 3 rfl)).1 (N₁ _ (.head _)).1 (show (178 : Nat) ≠ 94 from by decide)
  have ne_f_x : Hold (@Ne Nat f x) := Hold.mk <| neO (N₁ _ (.head _)).1 (N₁ _ (mth 3 rfl)).1 (show (94 : Nat) ≠ 178 from by decide)
  have ne_x_df : Hold (@Ne Nat x df) := Hold.mk <| neO (N₁ _ (mth 3 rfl)).1 (N₁ _ (.tail _ (.head _))).1 (show (178 : Nat) ≠ 1006 from by decide)
  have ne_df_x : Hold (@Ne Nat df x) := Hold.mk <| neO (N₁ _ (.tail _ (.head _))).1 (N₁ _ (mth 3 rfl)).1 (show (1006 : Nat) ≠ 178 from by decide)
  have ne_x_ll : Hold (@Ne Nat x ll) := Hold.mk <| neO (N₁ _ (mth 3 rfl)).1 (N₁ _ (mth 2 rfl)).1 (show (178 : Nat) ≠ 1 from by decide)
  have ne_ll_x : Hold (@Ne Nat ll x) := Hold.mk <| neO (N₁ _ (mth 2 rfl)).1 (N₁ _ (mth 3 rfl)).1 (show (1 : Nat) ≠ 178 from by decide)
  have ne_x_dx : Hold (@Ne Nat x dx) := Hold.mk <| neO (N₁ _ (mth 3 rfl)).1 (N₁ _ (mth 4 rfl)).1 (show (178 : Nat) ≠ 1001 from by decide)
  have ne_dx_x : Hold (@Ne Nat dx x) := Hold.mk <| neO (N₁ _ (mth 4 rfl)).1 (N₁ _ (mth 3 rfl)).1 (show (1001 : Nat) ≠ 178 from by decide)
  have ne_x_140 : Hold (@Ne Nat x 140) := Hold.mk <| neO (N₁ _ (mth 3 rfl)).1 (N₁ _ (mth 5 rfl)).1 (show (178 : Nat) ≠ 2 from by decide)
  have ne_140_x : Hold (@Ne Nat 140 x) := Hold.mk <| neO (N₁ _ (mth 5 rfl)).1 (N₁ _ (mth 3 rfl)).1 (show (2 : Nat) ≠ 178 from by decide)
  have ne_x_147 : Hold (@Ne Nat x 147) := Hold.mk <| neO (N₁ _ (mth 3 rfl)).1 (N₁ _ (mth 6 rfl)).1 (show (178 : Nat) ≠ 2 from by decide)
  have ne_147_x : Hold (@Ne Nat 147 x) := Hold.mk <| neO (N₁ _ (mth 6 rfl)).1 (N₁ _ (mth 3 rfl)).1 (show (2 : Nat) ≠ 178 from by decide)
  have ne_140_f : Hold (@Ne Nat 140 f) := Hold.mk <| neO (N₁ _ (mth 5 rfl)).1 (N₁ _ (.head _)).1 (show (2 : Nat) ≠ 94 from by decide)
  have ne_f_140 : Hold (@Ne Nat f 140) := Hold.mk <| neO (N₁ _ (.head _)).1 (N₁ _ (mth 5 rfl)).1 (show (94 : Nat) ≠ 2 from by decide)
  have ne_140_df : Hold (@Ne Nat 140 df) := Hold.mk <| neO (N₁ _ (mth 5 rfl)).1 (N₁ _ (.tail _ (.head _))).1 (show (2 : Nat) ≠ 1006 from by decide)
  have ne_df_140 : Hold (@Ne Nat df 140) := Hold.mk <| neO (N₁ _ (.tail _ (.head _))).1 (N₁ _ (mth 5 rfl)).1 (show (1006 : Nat) ≠ 2 from by decide)
  have ne_140_ll : Hold (@Ne Nat 140 ll) := Hold.mk <| neO (N₁ _ (mth 5 rfl)).1 (N₁ _ (mth 2 rfl)).1 (show (2 : Nat) ≠ 1 from by decide)
  have ne_ll_140 : Hold (@Ne Nat ll 140) := Hold.mk <| neO (N₁ _ (mth 2 rfl)).1 (N₁ _ (mth 5 rfl)).1 (show (1 : Nat) ≠ 2 from by decide)
  have ne_140_dx : Hold (@Ne Nat 140 dx) := Hold.mk <| neO (N₁ _ (mth 5 rfl)).1 (N₁ _ (mth 4 rfl)).1 (show (2 : Nat) ≠ 1001 from by decide)
  have ne_dx_140 : Hold (@Ne Nat dx 140) := Hold.mk <| neO (N₁ _ (mth 4 rfl)).1 (N₁ _ (mth 5 rfl)).1 (show (1001 : Nat) ≠ 2 from by decide)
  have ne_147_f : Hold (@Ne Nat 147 f) := Hold.mk <| neO (N₁ _ (mth 6 rfl)).1 (N₁ _ (.head _)).1 (show (2 : Nat) ≠ 94 from by decide)
  have ne_f_147 : Hold (@Ne Nat f 147) := Hold.mk <| neO (N₁ _ (.head _)).1 (N₁ _ (mth 6 rfl)).1 (show (94 : Nat) ≠ 2 from by decide)
  have ne_147_df : Hold (@Ne Nat 147 df) := Hold.mk <| neO (N₁ _ (mth 6 rfl)).1 (N₁ _ (.tail _ (.head _))).1 (show (2 : Nat) ≠ 1006 from by decide)
  have ne_df_147 : Hold (@Ne Nat df 147) := Hold.mk <| neO (N₁ _ (.tail _ (.head _))).1 (N₁ _ (mth 6 rfl)).1 (show (1006 : Nat) ≠ 2 from by decide)
  have ne_147_ll : Hold (@Ne Nat 147 ll) := Hold.mk <| neO (N₁ _ (mth 6 rfl)).1 (N₁ _ (mth 2 rfl)).1 (show (2 : Nat) ≠ 1 from by decide)
  have ne_ll_147 : Hold (@Ne Nat ll 147) := Hold.mk <| neO (N₁ _ (mth 2 rfl)).1 (N₁ _ (mth 6 rfl)).1 (show (1 : Nat) ≠ 2 from by decide)
  have ne_147_dx : Hold (@Ne Nat 147 dx) := Hold.mk <| neO (N₁ _ (mth 6 rfl)).1 (N₁ _ (mth 4 rfl)).1 (show (2 : Nat) ≠ 1001 from by decide)
  have ne_dx_147 : Hold (@Ne Nat dx 147) := Hold.mk <| neO (N₁ _ (mth 4 rfl)).1 (N₁ _ (mth 6 rfl)).1 (show (1001 : Nat) ≠ 2 from by decide)
  have ne_dx_f : Hold (@Ne Nat dx f) := Hold.mk <| neO (N₁ _ (mth 4 rfl)).1 (N₁ _ (.head _)).1 (show (1001 : Nat) ≠ 94 from by decide)
  have ne_f_dx : Hold (@Ne Nat f dx) := Hold.mk <| neO (N₁ _ (.head _)).1 (N₁ _ (mth 4 rfl)).1 (show (94 : Nat) ≠ 1001 from by decide)
  have ne_dx_df : Hold (@Ne Nat dx df) := Hold.mk <| neO (N₁ _ (mth 4 rfl)).1 (N₁ _ (.tail _ (.head _))).1 (show (1001 : Nat) ≠ 1006 from by decide)
  have ne_df_dx : Hold (@Ne Nat df dx) := Hold.mk <| neO (N₁ _ (.tail _ (.head _))).1 (N₁ _ (mth 4 rfl)).1 (show (1006 : Nat) ≠ 1001 from by decide)
  have ne_dx_ll : Hold (@Ne Nat dx ll) := Hold.mk <| neO (N₁ _ (mth 4 rfl)).1 (N₁ _ (mth 2 rfl)).1 (show (1001 : Nat) ≠ 1 from by decide)
  have ne_ll_dx : Hold (@Ne Nat ll dx) := Hold.mk <| neO (N₁ _ (mth 2 rfl)).1 (N₁ _ (mth 4 rfl)).1 (show (1 : Nat) ≠ 1001 from by decide)
  have ne_ll_f : Hold (@Ne Nat ll f) := Hold.mk <| neO (N₁ _ (mth 2 rfl)).1 (N₁ _ (.head _)).1 (show (1 : Nat) ≠ 94 from by decide)
  have ne_f_ll : Hold (@Ne Nat f ll) := Hold.mk <| neO (N₁ _ (.head _)).1 (N₁ _ (mth 2 rfl)).1 (show (94 : Nat) ≠ 1 from by decide)
  have ne_ll_df : Hold (@Ne Nat ll df) := Hold.mk <| neO (N₁ _ (mth 2 rfl)).1 (N₁ _ (.tail _ (.head _))).1 (show (1 : Nat) ≠ 1006 from by decide)
  have ne_df_ll : Hold (@Ne Nat df ll) := Hold.mk <| neO (N₁ _ (.tail _ (.head _))).1 (N₁ _ (mth 2 rfl)).1 (show (1006 : Nat) ≠ 1 from by decide)
  have ne_t_ll : Hold (@Ne Nat t ll) := Hold.mk <| neO (N₁ _ (mth 7 rfl)).1 (N₁ _ (mth 2 rfl)).1 (show (3 : Nat) ≠ 1 from by decide)
  have ne_ll_t : Hold (@Ne Nat ll t) := Hold.mk <| neO (N₁ _ (mth 2 rfl)).1 (N₁ _ (mth 7 rfl)).1 (show (1 : Nat) ≠ 3 from by decide)
  have ne_t_x : Hold (@Ne Nat t x) := Hold.mk <| neO (N₁ _ (mth 7 rfl)).1 (N₁ _ (mth 3 rfl)).1 (show (3 : Nat) ≠ 178 from by decide)
  have ne_x_t : Hold (@Ne Nat x t) := Hold.mk <| neO (N₁ _ (mth 3 rfl)).1 (N₁ _ (mth 7 rfl)).1 (show (178 : Nat) ≠ 3 from by decide)
  have ne_t_dx : Hold (@Ne Nat t dx) := Hold.mk <| neO (N₁ _ (mth 7 rfl)).1 (N₁ _ (mth 4 rfl)).1 (show (3 : Nat) ≠ 1001 from by decide)
  have ne_dx_t : Hold (@Ne Nat dx t) := Hold.mk <| neO (N₁ _ (mth 4 rfl)).1 (N₁ _ (mth 7 rfl)).1 (show (1001 : Nat) ≠ 3 from by decide)
  have ne_t_140 : Hold (@Ne Nat t 140) := Hold.mk <| neO (N₁ _ (mth 7 rfl)).1 (N₁ _ (mth 5 rfl)).1 (show (3 : Nat) ≠ 2 from by decide)
  have ne_140_t : Hold (@Ne Nat 140 t) := Hold.mk <| neO (N₁ _ (mth 5 rfl)).1 (N₁ _ (mth 7 rfl)).1 (show (2 : Nat) ≠ 3 from by decide)
  have ne_t_147 : Hold (@Ne Nat t 147) := Hold.mk <| neO (N₁ _ (mth 7 rfl)).1 (N₁ _ (mth 6 rfl)).1 (show (3 : Nat) ≠ 2 from by decide)
  have ne_147_t : Hold (@Ne Nat 147 t) := Hold.mk <| neO (N₁ _ (mth 6 rfl)).1 (N₁ _ (mth 7 rfl)).1 (show (2 : Nat) ≠ 3 from by decide)
  k_steps
  all_goals (try (with_reducible show Stop _; show wpAny _ _ _ _ _ _))
  dsimp only [List.append_nil]
  refine' newline_spec (w0s := w0s) (w₀ := w₀) (ls := ls) ?B ?F ?X (allC (N₁ _ (.head _)) (allC (N₁ _ (.tail _ (.head _))) (allC (N₁ _ (mth 2 rfl)) (allC (N₁ _ (mth 3 rfl)) (allC (N₁ _ (mth 4 rfl)) (allC (N₁ _ (mth 5 rfl)) (allC (N₁ _ (mth 6 rfl)) (allC (N₁ _ (mth 7 rfl)) allN)))))))) ?T ?hk ?hdp ?hun Mg hp1 hp2 hpt hz hwl hls hlz hw0 hok hsp ?_
  case B => first | assumption | k_asm
  case F => k_asm
  case X => first | assumption | k_asm
  case T => first | assumption | k_asm
  case hk => exact rfl
  case hdp => k_room
  case hun => k_room
  intro lvs2 nl2 n2 t2 q1 q2 s2 x2 e2 sa2 f2 d2 g2 v2 r2 r2'
  have F2 := exF x2 F₁ (nm5 (Ne.symm (N₁ _ (mth 2 rfl)).2.1) (Ne.symm (N₁ _ (mth 3 rfl)).2.1) (Ne.symm (N₁ _ (mth 4 rfl)).2.1) (Ne.symm (N₁ _ (mth 5 rfl)).2.1) (Ne.symm (N₁ _ (mth 6 rfl)).2.1)) (allC (N₁ _ (mth 2 rfl)).2.2 (allC (N₁ _ (mth 3 rfl)).2.2 (allC (N₁ _ (mth 4 rfl)).2.2 (allC (N₁ _ (mth 5 rfl)).2.2 (allC (N₁ _ (mth 6 rfl)).2.2 allN)))))
  have N2 : News g L' s2.heap [(f, instObj 94 df), (df, dictOf (fmtEs H T0 wd tw tl c1 c2 ll x) kf), (ll, lst lvs2 nl2), (x, accO dx [] n2), (dx, dictOf [⟨hh, .str (Str.ofString "_initial_size") kt, .int 0 t2⟩] k), (140, tabO q1), (147, tabO q2), (t, tup [.str sp u1, .str w₀ u2] 0)] := (allC (exK x2 N₁ (.head _) (nm5 ne_f_ll.out ne_f_x.out ne_f_dx.out ne_f_140.out ne_f_147.out)) (allC (exK x2 N₁ (.tail _ (.head _)) (nm5 ne_df_ll.out ne_df_x.out ne_df_dx.out ne_df_140.out ne_df_147.out)) (allC (entH N₁ (mth 2 rfl) e2) (allC (entH N₁ (mth 3 rfl) f2) (allC (entH N₁ (mth 4 rfl) d2) (allC (entH N₁ (mth 5 rfl) g2) (allC (entH N₁ (mth 6 rfl) v2) (allC (exK x2 N₁ (mth 7 rfl) (nm5 ne_t_ll.out ne_t_x.out ne_t_dx.out ne_t_140.out ne_t_147.out)) allN))))))))
  have og2 := OG.stepB (by assumption) x2
  clear F₁ N₁
  k_steps
  all_goals (try (with_reducible show Stop _; show wpAny _ _ _ _ _ _))
  refine join_listW (ys := (ls ++ [spc (w0s ++ [w₀])])) (N2.isList (mth 2 rfl)) sa2 (by decide) (by simpa using hjw) fun t3 k3 => ?_
  k_steps
  all_goals (try (with_reducible show Stop _; show wpAny _ _ _ _ _ _))
  refine hQo _ _ ?_
  exact ret q1 q2 t3 _ (extOut2 Kg F2.keep N (allC (.inr (N2 _ (.head _)).1) (allC (.inr (N2 _ (.tail _ (.head _))).1) (allC (.inl (.head _)) (allC (.inl (.tail _ (.head _))) (allC (.inl (mth 2 rfl)) (allC (.inl (mth 3 rfl)) (allC (.inl (mth 4 rfl)) (allC (.inr (N2 _ (mth 7 rfl)).1) allN)))))))) rfl og2) (N2 _ (mth 5 rfl)).1 (N2 _ (mth 6 rfl)).1 r2 r2'
end
-- B19
section
open PySem PySem.W PySem.Spec PySem.Calls PyProof.Rows
set_option maxRecDepth 100000
set_option maxHeartbeats 3000000
local macro_rules | `(tactic| walk_at "call ref cons nil") => `(tactic| refine Stop.mk ?_)
local macro_rules | `(tactic| walk_at "call ref nil") => `(tactic| refine Stop.mk ?_)
theorem str2_spec {w : World} {mg mb : Str → Option Value} {H : Nat → Int} {T0 : Nat → Tok} {wd : Int} {tw tl : Tok} {c1 c2 : Tok} {f df ll x dx : Addr} {kf : Nat} {lvs : List Value} {nl : Nat} {ls : List Str} {us : List Value} {n k : Nat} {hh : Int} {kt t0 : Tok} {p1 p2 : Array Value} {w0s : List Str} {bm : Addr} {ob : Obj} {t : Addr} {u1 u2 : Tok} {w₀ : Str}
  {dp un : Nat} {gd : Option (List Code)} {cn : Str} {cs : Scope} {a : Addr} {ccd : Value} {cl : List (Str × Addr)} {outer : List Env} {A₀ : Around} {base h₀ : Heap} {L : Addr} {m : Str → Option Value} {s : Shared} {Q E : Value → Shared → Prop} (B : Below A₀ base outer h₀) (F : Fr h₀ L s.heap m) (X : (KK w.params).In h₀) (N : News h₀ L s.heap [(f, instObj 94 df), (df, dictOf (fmtEs H T0 wd tw tl c1 c2 ll x) kf), (ll, lst lvs nl), (x, accO dx (us ++ [.ref t]) n), (dx, dictOf [⟨hh, .str (Str.ofString "_initial_size") kt, .int 0 t0⟩] k), (140, tabO p1), (147, tabO p2), (t, tup [.str sp u1, .str w₀ u2] 0)]) (T : TopRead VV LL mg mb h₀) (hk : cs.kind = .function) (hdp : dp + 30 < recursionLimit) (hun : un + 500 < cLine) (M : BMod h₀ mainGlobals mg bm ob) (hp1 : TriplesOk p1.toList) (hp2 : TriplesOk p2.toList) (hp : PartsAt s.heap (us ++ [.ref t]) (w0s ++ [w₀])) (hz : us.length < 300) (hwl : ∀ v ∈ w0s ++ [w₀], v.length ≤ 100) (hls : StrsAre lvs ls) (hlz : ls.length < 300) (hw0 : w₀.length ≠ 0) (hok : PyData.strOk w₀ = true) (hsp : Txt.isspace (spc (w0s ++ [w₀])) = false) (hjw : ((ls ++ [spc (w0s ++ [w₀])]).map (·.length)).sum + (ls ++ [spc (w0s ++ [w₀])]).length ≤ 1048576)
  (ret : ∀ p1' p2' tk s', ExtBut [ll, x, dx, 140, 147] s s' → s'.heap.get? 140 = some (tabO p1') → s'.heap.get? 147 = some (tabO p2') → TriplesOk p1'.toList → TriplesOk p2'.toList → Q (.str (Txt.join Mine.nl (ls ++ [spc (w0s ++ [w₀])])) tk) s') :
  wpAny (model PySem.Challenge.pw_oy0243_01 w) (ktrTop dp un gd cn cs L a ccd cl outer) (call (.ref 49) [.ref f]) Q E s := by
  refine wpAny_call ?_
  refine' enterM (binds := [(Str.ofString "self", .ref f)]) B F X N T rfl rfl hk ?ho ?hcd ?hroom ?hbind ?hloc ?hb ?c1 ?c2 ?c3 ?c4
  case ho => k_is
  case hcd => k_is
  case hroom => exact up0 hdp
  case hbind => exact BindsTo.of_eq rfl
  case hloc => exact locs rfl
  case c1 => decide
  case c2 => exact rfl
  case c3 => exact rfl
  case c4 => exact rfl
  intro g L' h₁ tk₁ Kg F₁ N₁ B₁ X₁ T₁ hlt₁ hsz₁ hL₁
  first | refine' execsIs ?ebL ?_ | refine' execsIsAt ?ebL ?_
  case ebL => conv => lhs; whnf
  have og₀ := OG.refl s
  (try dsimp only)
  refine wpAny_opqE PassesOwn.leaving fun Qo Eo hQo hEo => ?_
  (try k_fold)
  have Mg := M.keeps (keepG F N Kg)
  have hpt : PartsAt h₁ (us ++ [.ref t]) (w0s ++ [w₀]) := hp.thru Kg F₁.keep N (allC (fun e => nomatch e) (allC (fun e => absurd e notTupD) (allC (fun e => absurd e notTupL) (allC (fun e => nomatch e) (allC (fun e => absurd e notTupD) (allC (fun e => nomatch e) (allC (fun e => nomatch e) (allC (fun _ => (N₁ _ (mth 7 rfl)).1) allN))))))))
  have ne_x_f : Hold (@Ne Nat x f) := Hold.mk <| neO (N₁ _ (mth 3 rfl)).1 (N₁ _ (.head _)).1 (show (178 : Nat) ≠ 94 from by decide)
  have ne_f_x : Hold (@Ne Nat f x) := Hold.mk <| neO (N₁ _ (.head _)).1 (N₁ _ (mth 3 rfl)).1 (show (94 : Nat) ≠ 178 from by decide)
  have ne_x_df : Hold (@Ne Nat x df) := Hold.mk <| neO (N₁ _ (mth 3 rfl)).1 (N₁ _ (.tail _ (.head _))).1 (show (178 : Nat) ≠ 1006 from by decide)
  have ne_df_x : Hold (@Ne Nat df x) := Hold.mk <| neO (N₁ _ (.tail _ (.head _))).1 (N₁ _ (mth 3 rfl)).1 (show (1006 : Nat) ≠ 178 from by decide)
  have ne_x_ll : Hold (@Ne Nat x ll) := Hold.mk <| neO (N₁ _ (mth 3 rfl)).1 (N₁ _ (mth 2 rfl)).1 (show (178 : Nat) ≠ 1 from by decide)
  have ne_ll_x : Hold (@Ne Nat ll x) := Hold.mk <| neO (N₁ _ (mth 2 rfl)).1 (N₁ _ (mth 3 rfl)).1 (show (1 : Nat) ≠ 178 from by decide)
  have ne_x_dx : Hold (@Ne Nat x dx) := Hold.mk <| neO (N₁ _ (mth 3 rfl)).1 (N₁ _ (mth 4 rfl)).1 (show (178 : Nat) ≠ 1001 from by decide)
  have ne_dx_x : Hold (@Ne Nat dx x) := Hold.mk <| neO (N₁ _ (mth 4 rfl)).1 (N₁ _ (mth 3 rfl)).1 (show (1001 : Nat) ≠ 178 from by decide)
  have ne_x_140 : Hold (@Ne Nat x 140) := Hold.mk <| neO (N₁ _ (mth 3 rfl)).1 (N₁ _ (mth 5 rfl)).1 (show (178 : Nat) ≠ 2 from by decide)
  have ne_140_x : Hold (@Ne Nat 140 x) := Hold.mk <| neO (N₁ _ (mth 5 rfl)).1 (N₁ _ (mth 3 rfl)).1 (show (2 : Nat) ≠ 178 from by decide)
  have ne_x_147 : Hold (@Ne Nat x 147) := Hold.mk <| neO (N₁ _ (mth 3 rfl)).1 (N₁ _ (mth 6 rfl)).1 (show (178 : Nat) ≠ 2 from by decide)
  have ne_147_x : Hold (@Ne Nat 147 x) := Hold.mk <| neO (N₁ _ (mth 6 rfl)).1 (N₁ _ (mth 3 rfl)).1 (show (2 : Nat) ≠ 178 from by decide)
  have ne_140_f : Hold (@Ne Nat 140 f) := Hold.mk <| neO (N₁ _ (mth 5 rfl)).1 (N₁ _ (.head _)).1 (show (2 : Nat) ≠ 94 from by decide)
  have ne_f_140 : Hold (@Ne Nat f 140) := Hold.mk <| neO (N₁ _ (.head _)).1 (N₁ _ (mth 5 rfl)).1 (show (94 : Nat) ≠ 2 from by decide)
  have ne_140_df : Hold (@Ne Nat 140 df) := Hold.mk <| neO (N₁ _ (mth 5 rfl)).1 (N₁ _ (.tail _ (.head _))).1 (show (2 : Nat) ≠ 1006 from by decide)
  have ne_df_140 : Hold (@Ne Nat df 140) := Hold.mk <| neO (N₁ _ (.tail _ (.head _))).1 (N₁ _ (mth 5 rfl)).1 (show (1006 : Nat) ≠ 2 from by decide)
  have ne_140_ll : Hold (@Ne Nat 140 ll) := Hold.mk <| neO (N₁ _ (mth 5 rfl)).1 (N₁ _ (mth 2 rfl)).1 (show (2 : Nat) ≠ 1 from by decide)
  have ne_ll_140 : Hold (@Ne Nat ll 140) := Hold.mk <| neO (N₁ _ (mth 2 rfl)).1 (N₁ _ (mth 5 rfl)).1 (show (1 : Nat) ≠ 2 from by decide)
  have ne_140_dx : Hold (@Ne Nat 140 dx) := Hold.mk <| neO (N₁ _ (mth 5 rfl)).1 (N₁ _ (mth 4 rfl)).1 (show (2 : Nat) ≠ 1001 from by decide)
  have ne_dx_140 : Hold (@Ne Nat dx 140) := Hold.mk <| neO (N₁ _ (mth 4 rfl)).1 (N₁ _ (mth 5 rfl)).1 (show (1001 : Nat) ≠ 2 from by decide)
  have ne_147_f : Hold (@Ne Nat 147 f) := Hold.mk <| neO (N₁ _ (mth 6 rfl)).1 (N₁ _ (.head _)).1 (show (2 : Nat) ≠ 94 from by decide)
  have ne_f_147 : Hold (@Ne Nat f 147) := Hold.mk <| neO (N₁ _ (.head _)).1 (N₁ _ (mth 6 rfl)).1 (show (94 : Nat) ≠ 2 from by decide)
  have ne_147_df : Hold (@Ne Nat 147 df) := Hold.mk <| neO (N₁ _ (mth 6 rfl)).1 (N₁ _ (.tail _ (.head _))).1 (show (2 : Nat) ≠ 1006 from by decide)
  have ne_df_147 : Hold (@Ne Nat df 147) := Hold.mk <| neO (N₁ _ (.tail _ (.head _))).1 (N₁ _ (mth 6 rfl)).1 (show (1006 : Nat) ≠ 2 from by decide)
  have ne_147_ll : Hold (@Ne Nat 147 ll) := Hold.mk <| neO (N₁ _ (mth 6 rfl)).1 (N₁ _ (mth 2 rfl)).1 (show (2 : Nat) ≠ 1 from by decide)
  have ne_ll_147 : Hold (@Ne Nat ll 147) := Hold.mk <| neO (N₁ _ (mth 2 rfl)).1 (N₁ _ (mth 6 rfl)).1 (show (1 : Nat) ≠ 2 from by decide)
  have ne_147_dx : Hold (@Ne Nat 147 dx) := Hold.mk <| neO (N₁ _ (mth 6 rfl)).1 (N₁ _ (mth 4 rfl)).1 (show (2 : Nat) ≠ 1001 from by decide)
  have ne_dx_147 : Hold (@Ne Nat dx 147) := Hold.mk <| neO (N₁ _ (mth 4 rfl)).1 (N₁ _ (mth 6 rfl)).1 (show (1001 : Nat) ≠ 2 from by decide)
  have ne_dx_f : Hold (@Ne Nat dx f) := Hold.mk <| neO (N₁ _ (mth 4 rfl)).1 (N₁ _ (.head _)).1 (show (1001 : Nat) ≠ 94 from by decide)
  have ne_f_dx : Hold (@Ne Nat f dx) := Hold.mk <| neO (N₁ _ (.head _)).1 (N₁ _ (mth 4 rfl)).1 (show (94 : Nat) ≠ 1001 from by decide)
  have ne_dx_df : Hold (@Ne Nat dx df) := Hold.mk <| neO (N₁ _ (mth 4 rfl)).1 (N₁ _ (.tail _ (.head _))).1 (show (1001 : Nat) ≠ 1006 from by decide)
  have ne_df_dx : Hold (@Ne Nat df dx) := Hold.mk <| neO (N₁ _ (.tail _ (.head _))).1 (N₁ _ (mth 4 rfl)).1 (show (1006 : Nat) ≠ 1001 from by decide)
  have ne_dx_ll : Hold (@Ne Nat dx ll) := Hold.mk <| neO (N₁ _ (mth 4 rfl)).1 (N₁ _ (mth 2 rfl)).1 (show (1001 : Nat) ≠ 1 from by decide)
  have ne_ll_dx : Hold (@Ne Nat ll dx) := Hold.mk <| neO (N₁ _ (mth 2 rfl)).1 (N₁ _ (mth 4 rfl)).1 (show (1 : Nat) ≠ 1001 from by decide)
  have ne_ll_f : Hold (@Ne Nat ll f) := Hold.mk <| neO (N₁ _ (mth 2 rfl)).1 (N₁ _ (.head _)).1 (show (1 : Nat) ≠ 94 from by decide)
  have ne_f_ll : Hold (@Ne Nat f ll) := Hold.mk <| neO (N₁ _ (.head _)).1 (N₁ _ (mth 2 rfl)).1 (show (94 : Nat) ≠ 1 from by decide)
  have ne_ll_df : Hold (@Ne Nat ll df) := Hold.mk <| neO (N₁ _ (mth 2 rfl)).1 (N₁ _ (.tail _ (.head _))).1 (show (1 : Nat) ≠ 1006 from by decide)
  have ne_df_ll : Hold (@Ne Nat df ll) := Hold.mk <| neO (N₁ _ (.tail _ (.head _))).1 (N₁ _ (mth 2 rfl)).1 (show (1006 : Nat) ≠ 1 from by decide)
  have ne_t_ll : Hold (@Ne Nat t ll) := Hold.mk <| neO (N₁ _ (mth 7 rfl)).1 (N₁ _ (mth 2 rfl)).1 (show (3 : Nat) ≠ 1 from by decide)
  have ne_ll_t : Hold (@Ne Nat ll t) := Hold.mk <| neO (N₁ _ (mth 2 rfl)).1 (N₁ _ (mth 7 rfl)).1 (show (1 : Nat) ≠ 3 from by decide)
  have ne_t_x : Hold (@Ne Nat t x) := Hold.mk <| neO (N₁ _ (mth 7 rfl)).1 (N₁ _ (mth 3 rfl)).1 (show (3 : Nat) ≠ 178 from by decide)
  have ne_x_t : Hold (@Ne Nat x t) := Hold.mk <| neO (N₁ _ (mth 3 rfl)).1 (N₁ _ (mth 7 rfl)).1 (show (178 : Nat) ≠ 3 from by decide)
  have ne_t_dx : Hold (@Ne Nat t dx) := Hold.mk <| neO (N₁ _ (mth 7 rfl)).1 (N₁ _ (mth 4 rfl)).1 (show (3 : Nat) ≠ 1001 from by decide)
  have ne_dx_t : Hold (@Ne Nat dx t) := Hold.mk <| neO (N₁ _ (mth 4 rfl)).1 (N₁ _ (mth 7 rfl)).1 (show (1001 : Nat) ≠ 3 from by decide)
  have ne_t_140 : Hold (@Ne Nat t 140) := Hold.mk <| neO (N₁ _ (mth 7 rfl)).1 (N₁ _ (mth 5 rfl)).1 (show (3 : Nat) ≠ 2 from by decide)
  have ne_140_t : Hold (@Ne Nat 140 t) := Hold.mk <| neO (N₁ _ (mth 5 rfl)).1 (N₁ _ (mth 7 rfl)).1 (show (2 : Nat) ≠ 3 from by decide)
  have ne_t_147 : Hold (@Ne Nat t 147) := Hold.mk <| neO (N₁ _ (mth 7 rfl)).1 (N₁ _ (mth 6 rfl)).1 (show (3 : Nat) ≠ 2 from by decide)
  have ne_147_t : Hold (@Ne Nat 147 t) := Hold.mk <| neO (N₁ _ (mth 6 rfl)).1 (N₁ _ (mth 7 rfl)).1 (show (2 : Nat) ≠ 3 from by decide)
  k_steps
  all_goals (try (with_reducible show Stop _; show wpAny _ _ _ _ _ _))
  refine' str1_spec (w0s := w0s) (w₀ := w₀) (ls := ls) ?B ?F ?X (allC (N₁ _ (.head _)) (allC (N₁ _ (.tail _ (.head _))) (allC (N₁ _ (mth 2 rfl)) (allC (N₁ _ (mth 3 rfl)) (allC (N₁ _ (mth 4 rfl)) (allC (N₁ _ (mth 5 rfl)) (allC (N₁ _ (mth 6 rfl)) (allC (N₁ _ (mth 7 rfl)) allN)))))))) ?T ?hk ?hdp ?hun Mg hp1 hp2 hpt hz hwl hls hlz hw0 hok hsp hjw ?_
  case B => first | assumption | k_asm
  case F => k_asm
  case X => first | assumption | k_asm
  case T => first | assumption | k_asm
  case hk => exact rfl
  case hdp => k_room
  case hun => k_room
  intro q1 q2 t2 s2 x2 g2 v2 r2 r2'
  have F2 := exF x2 F₁ (nm5 (Ne.symm (N₁ _ (mth 2 rfl)).2.1) (Ne.symm (N₁ _ (mth 3 rfl)).2.1) (Ne.symm (N₁ _ (mth 4 rfl)).2.1) (Ne.symm (N₁ _ (mth 5 rfl)).2.1) (Ne.symm (N₁ _ (mth 6 rfl)).2.1)) (allC (N₁ _ (mth 2 rfl)).2.2 (allC (N₁ _ (mth 3 rfl)).2.2 (allC (N₁ _ (mth 4 rfl)).2.2 (allC (N₁ _ (mth 5 rfl)).2.2 (allC (N₁ _ (mth 6 rfl)).2.2 allN)))))
  have N2 : News g L' s2.heap [(f, instObj 94 df), (df, dictOf (fmtEs H T0 wd tw tl c1 c2 ll x) kf), (140, tabO q1), (147, tabO q2), (t, tup [.str sp u1, .str w₀ u2] 0)] := (allC (exK x2 N₁ (.head _) (nm5 ne_f_ll.out ne_f_x.out ne_f_dx.out ne_f_140.out ne_f_147.out)) (allC (exK x2 N₁ (.tail _ (.head _)) (nm5 ne_df_ll.out ne_df_x.out ne_df_dx.out ne_df_140.out ne_df_147.out)) (allC (entH N₁ (mth 5 rfl) g2) (allC (entH N₁ (mth 6 rfl) v2) (allC (exK x2 N₁ (mth 7 rfl) (nm5 ne_t_ll.out ne_t_x.out ne_t_dx.out ne_t_140.out ne_t_147.out)) allN)))))
  have og2 := OG.stepB (by assumption) x2
  clear F₁ N₁
  k_steps
  all_goals (try (with_reducible show Stop _; show wpAny _ _ _ _ _ _))
  refine hQo _ _ ?_
  exact ret q1 q2 t2 _ (extOut2 Kg F2.keep N (allC (.inr (N2 _ (.head _)).1) (allC (.inr (N2 _ (.tail _ (.head _))).1) (allC (.inl (.head _)) (allC (.inl (.tail _ (.head _))) (allC (.inl (mth 2 rfl)) (allC (.inl (mth 3 rfl)) (allC (.inl (mth 4 rfl)) (allC (.inr (N2 _ (mth 4 rfl)).1) allN)))))))) rfl og2) g2 v2 r2 r2'
end
-- A20
section
open PySem PySem.W PySem.Spec PySem.Calls PyProof.Rows
set_option maxRecDepth 100000
set_option maxHeartbeats 3000000
local macro_rules | `(tactic| walk_at "call ref cons nil") => `(tactic| refine Stop.mk ?_)
local macro_rules | `(tactic| walk_at "call ref nil") => `(tactic| refine Stop.mk ?_)
theorem wt178 (x : Value) : (Code.builtin "type.__call__" { pos := [Value.ref 178, x] }).weight = 1 := by kernel_rfl
theorem ut178 (x : Value) : (Code.builtin "type.__call__" { pos := [Value.ref 178, x] }).cUnits = 1 := by kernel_rfl
theorem newOut4 {s : Shared} {g : Heap} {t : Addr} {news : List (Addr × Obj)} (Kg : ∀ b o, s.heap.get? b = some o → b ∉ news.map (·.1) → g.get? b = some o) (hg : g.get? t = none) (hn : ∀ p ∈ news, @Ne Nat p.1 t) : s.heap.get? t = none := by
  cases e : s.heap.get? t with
  | none => rfl
  | some o =>
    refine absurd (Kg t o e fun hm => ?_) (by rw [hg]; exact fun h => nomatch h)
    obtain ⟨p, hp, he⟩ := List.mem_map.mp hm
    exact hn p hp he
theorem newsOver {h₀ : Heap} {L y dy : Addr} {s s' : Shared} {o1 o2 o1' o2' : Obj} {news : List (Addr × Obj)} (x : ExtBut [y, dy] s s') (N : News h₀ L s.heap ((y, o1) :: (dy, o2) :: news)) (l : ∀ p ∈ news, p.1 < dy) (l' : dy < y) (e : s'.heap.get? y = some o1') (d : s'.heap.get? dy = some o2') : News h₀ L s'.heap ((y, o1') :: (dy, o2') :: news) :=
  allC (entH N (.head _) e) (allC (entH N (.tail _ (.head _)) d) fun p hp => ⟨x.heap _ _ (nm2 (Nat.ne_of_lt (Nat.lt_trans (l p hp) l')) (Nat.ne_of_lt (l p hp))) (N p (.tail _ (.tail _ hp))).1, (N p (.tail _ (.tail _ hp))).2⟩)
theorem fmtIs {h : Heap} {df ll x : Addr} {a0 a1 a2 a3 a4 a5 : Int} {b0 b1 b2 b3 b4 b5 tw tl c1 c2 : Tok} {wd : Int} {kf : Nat} (e : h.get? df = some (dictOf [⟨a0, .str (Str.ofString "_maxlen") b0, .int wd tw⟩, ⟨a1, .str (Str.ofString "_continuation_ws") b1, .str sp c1⟩, ⟨a2, .str (Str.ofString "_continuation_ws_len") b2, .int 1 tl⟩, ⟨a3, .str (Str.ofString "_splitchars") b3, .str sp c2⟩, ⟨a4, .str (Str.ofString "_lines") b4, .ref ll⟩, ⟨a5, .str (Str.ofString "_current_line") b5, .ref x⟩] kf)) :
    ∃ H T0, h.get? df = some (dictOf (fmtEs H T0 wd tw tl c1 c2 ll x) kf) := ⟨fun j => [a0, a1, a2, a3, a4, a5].getD j 0, fun j => [b0, b1, b2, b3, b4, b5].getD j 0, e⟩
theorem finit_spec {w : World} {mg mb : Str → Option Value} {f df : Addr} {wd : Int} {t0 tw c1 c2 : Tok}
  {dp un : Nat} {gd : Option (List Code)} {cn : Str} {cs : Scope} {a : Addr} {ccd : Value} {cl : List (Str × Addr)} {outer : List Env} {A₀ : Around} {base h₀ : Heap} {L : Addr} {m : Str → Option Value} {s : Shared} {R : Result → Shared → Prop} (B : Below A₀ base outer h₀) (F : Fr h₀ L s.heap m) (X : (KK w.params).In h₀) (N : News h₀ L s.heap [(f, instObj 94 df), (df, dictOf [] 0)]) (T : TopRead VV LL mg mb h₀) (hk : cs.kind = .function) (hdp : dp + 10 < recursionLimit) (hun : un + 100 < cLine)
  (ret : ∀ H T0 tl ll x dx kf n k hh kt t1 s', ExtBut [df] s s' → s'.heap.get? df = some (dictOf (fmtEs H T0 wd tw tl c1 c2 ll x) kf) → s'.heap.get? ll = some (lst [] 0) → s'.heap.get? x = some (accO dx [] n) → s'.heap.get? dx = some (dictOf [⟨hh, .str (Str.ofString "_initial_size") kt, .int 0 t1⟩] k) → s.heap.get? ll = none → s.heap.get? x = none → s.heap.get? dx = none → R (.ok (.ret .none)) s') :
  codeAny (model PySem.Challenge.pw_oy0243_01 w) (ktrTop dp un gd cn cs L a ccd cl outer) (.call (.ref 35) ⟨[.ref f, .int 0 t0, .int wd tw, .str sp c1, .str sp c2], []⟩) R s := by
  refine' enterM (binds := [(Str.ofString "self", .ref f), (Str.ofString "headerlen", .int 0 t0), (Str.ofString "maxlen", .int wd tw), (Str.ofString "continuation_ws", .str sp c1), (Str.ofString "splitchars", .str sp c2)]) B F X N T rfl rfl hk ?ho ?hcd ?hroom ?hbind ?hloc ?hb ?c1 ?c2 ?c3 ?c4
  case ho => k_is
  case hcd => k_is
  case hroom => exact up0 hdp
  case hbind => exact BindsTo.of_eq rfl
  case hloc => exact locs rfl
  case c1 => decide
  case c2 => exact rfl
  case c3 => exact rfl
  case c4 => exact rfl
  intro g L' h₁ tk₁ Kg F₁ N₁ B₁ X₁ T₁ hlt₁ hsz₁ hL₁
  first | refine' execsIs ?ebL ?_ | refine' execsIsAt ?ebL ?_
  case ebL => conv => lhs; whnf
  have og₀ := OG.refl s
  (try dsimp only)
  refine wpAny_opqE PassesOwn.leaving fun Qo Eo hQo hEo => ?_
  (try k_fold)
  have ne_f_df : Hold (@Ne Nat f df) := Hold.mk <| neO (N₁ _ (.head _)).1 (N₁ _ (.tail _ (.head _))).1 (show (94 : Nat) ≠ 1000 from by decide)
  have ne_df_f : Hold (@Ne Nat df f) := Hold.mk <| neO (N₁ _ (.tail _ (.head _))).1 (N₁ _ (.head _)).1 (show (1000 : Nat) ≠ 94 from by decide)
  have z_f_df := ne_f_df.out
  have z_df_f := ne_df_f.out
  k_steps
  all_goals (try (with_reducible show Stop _; show wpAny _ _ _ _ _ _))
  (rename Fr _ _ _ _ => F5)
  (rename News _ _ _ _ => N5)
  dsimp only at F5 N5
  refine wpAny_call (make_L F5 N5 (by k_in) makesL_acc ?ki ?kf ?_)
  case ki => k_is
  case kf => k_is
  intro y dy h6 F6 N6 l6 l6'
  refine' ainitR_spec (n := 0) (k := 0) ?B ?F ?X (allC (N6 _ (.head _)) (allC (N6 _ (.tail _ (.head _))) allN)) ?T ?hk ?hdp ?hun ?_
  case B => first | assumption | k_asm
  case F => k_asm
  case X => first | assumption | k_asm
  case T => first | assumption | k_asm
  case hk => exact rfl
  case hdp => (rw [wt178]; show dp + 1 + 1 + 5 < recursionLimit; omega)
  case hun => (rw [ut178]; simp only [units_deeper]; omega)
  intro hh7 kt7 s7 x7 e7 d7
  refine ⟨rfl, ?_⟩
  dsimp only
  have F7 := exF x7 F6 (nm2 (Ne.symm (N6 _ (.head _)).2.1) (Ne.symm (N6 _ (.tail _ (.head _))).2.1)) (allC (N6 _ (.head _)).2.2 (allC (N6 _ (.tail _ (.head _))).2.2 allN))
  have N7 := newsOver x7 N6 l6 l6' e7 d7
  have og7 := OG.stepB (by assumption) x7
  clear F6 N6 F5 N5
  (try k_lt l6)
  (try k_lt2 l6')
  k_steps
  all_goals (try (with_reducible show Stop _; show wpAny _ _ _ _ _ _))
  (rename Fr _ _ _ _ => F8)
  (rename News _ _ _ _ => N8)
  refine hQo _ _ ?_
  obtain ⟨H, T0, e9⟩ := fmtIs (N8 _ (mth 4 rfl)).1
  refine ret H T0 _ _ _ _ _ _ _ _ _ _ _ (extOut2 Kg F8.keep N (allC (.inr (N8 _ (mth 3 rfl)).1) (allC (.inl (.head _)) allN)) rfl (by assumption)) e9 (N8 _ (mth 2 rfl)).1 (N8 _ (.head _)).1 (N8 _ (.tail _ (.head _))).1 (newOut4 Kg (N8 _ (mth 2 rfl)).2.2 (allC (neO (N8 _ (mth 3 rfl)).1 (N8 _ (mth 2 rfl)).1 (show (94 : Nat) ≠ 1 from by decide)) (allC (neO (N8 _ (mth 4 rfl)).1 (N8 _ (mth 2 rfl)).1 (show (1006 : Nat) ≠ 1 from by decide)) allN))) (newOut4 Kg (N8 _ (.head _)).2.2 (allC (neO (N8 _ (mth 3 rfl)).1 (N8 _ (.head _)).1 (show (94 : Nat) ≠ 178 from by decide)) (allC (neO (N8 _ (mth 4 rfl)).1 (N8 _ (.head _)).1 (show (1006 : Nat) ≠ 178 from by decide)) allN))) (newOut4 Kg (N8 _ (.tail _ (.head _))).2.2 (allC (neO (N8 _ (mth 3 rfl)).1 (N8 _ (.tail _ (.head _))).1 (show (94 : Nat) ≠ 1001 from by decide)) (allC (neO (N8 _ (mth 4 rfl)).1 (N8 _ (.tail _ (.head _))).1 (show (1006 : Nat) ≠ 1001 from by decide)) allN)))
end
-- A21
section
open PySem PySem.W PySem.Spec PySem.Calls PyProof.Rows
set_option maxRecDepth 100000
set_option maxHeartbeats 4000000
section
variable {prog : Program} {w : World} {A : Around} {E : Value → Shared → Prop} {s : Shared} {h₀ : Heap} {L : Addr} {m : Str → Option Value} {env : Env}
/-- a for over a walk whose state is its iterator's alone, with an else, tuples kept -/
theorem forWT {x : Str} {px : Pos} {body orelse : List Stmt} {Q : Flow → Shared → Prop} {I : Addr} {fp : List Addr} {n : Nat} {P : Nat → Value → Prop} {St : Nat → Heap → Prop} {news : List (Addr × Obj)} (J : Nat → (Str → Option Value) → List (Addr × Obj) → Shared → Prop)
    (W : Walks prog w A I fp [I] n P St) (hIo : ∀ i h, St i h → ∃ o, h.get? I = some o) (hSt : ∀ i h h' o, St i h → h.get? I = some o → h'.get? I = some o → (∀ b o, h₀.get? b = some o → h'.get? b = some o) → St i h') (hTu : ∀ i h o, St i h → h.get? I = some o → o.cls ≠ .type "tuple") (hst : St 0 s.heap)
    (hL : env.locals = L) (hx : env.kindOf x = some .local) (hp : (env.scope.kind == .class || (env.scope.kind == .module && env.locals != env.globals)) = false)
    (F : Fr h₀ L s.heap m) (N : News h₀ L s.heap news) (hIL : L ≠ I) (hI₀ : h₀.get? I = none) (off : ∀ p ∈ news, p.1 ≠ I) (hJ : J 0 m news s)
    (turn : ∀ i v m₁ news₁ s₁ h₂ tk oI, i < n → P i v → J i m₁ news₁ s₁ → (∀ p ∈ news₁, p.1 ≠ I) → (∀ b us n, s₁.heap.get? b = some (tup us n) → h₂.get? b = some (tup us n)) → Fr h₀ L h₂ (fun y => if y = x then some v else m₁ y) → News h₀ L h₂ ((I, oI) :: news₁) →
      wpAny (model prog w) A (execs body env) (fun f s₃ => match f with
        | .ret v => Q (.ret v) s₃
        | .brk => Q .next s₃
        | _ => Hold (∃ m' news', Fr h₀ L s₃.heap m' ∧ News h₀ L s₃.heap ((I, oI) :: news') ∧ (∀ p ∈ news', p.1 ≠ I) ∧ J (i + 1) m' news' s₃)) E { s₁ with heap := h₂, toks := tk })
    (done : ∀ m' news' s₁ h' tk, J n m' news' s₁ → (∀ b us n, s₁.heap.get? b = some (tup us n) → h'.get? b = some (tup us n)) → Fr h₀ L h' m' → News h₀ L h' news' → wpAny (model prog w) A (execs orelse env) Q E { s₁ with heap := h', toks := tk })
    (hE : PassesOwn (model prog w) A env E) :
    codeAny (model prog w) A (.forLoop (.Name x px) (.ref I) body orelse env) (fun r s' => match r with | .ok f => Q f s' | .error e => cameBackBy (model prog w) A env E e s') s := by
  subst hL
  refine codeAny_forLoop (fun k s' => ∃ m₁ news₁ i, J i m₁ news₁ s' ∧ Fr h₀ env.locals s'.heap m₁ ∧ News h₀ env.locals s'.heap news₁ ∧ (∀ p ∈ news₁, p.1 ≠ I) ∧ St i s'.heap ∧ i ≤ n ∧ k = n + 1 - i) ?_ (n + 1)
    ⟨m, news, 0, hJ, F, N, off, hst, Nat.zero_le _, rfl⟩
  rintro k s₁ ⟨m₁, news₁, i, hJ₁, F₁, N₁, off₁, st₁, hi, rfl⟩
  have tupI : ∀ b us n, s₁.heap.get? b = some (tup us n) → b ≠ I := fun b us n e hb => by
    obtain ⟨oI, q⟩ := hIo _ _ st₁
    rw [hb, q] at e
    exact hTu _ _ _ st₁ q (by rw [Option.some.inj e])
  by_cases hlt : i < n
  · refine W.item i _ _ _ hlt st₁ fun v h₂ tk₂ hPv st₂ hk => ?_
    have F₂ := LCg.fr_but F₁ hk hIL hI₀
    have N₂ := LCg.news_but N₁ hk off₁
    refine wpAny_assign_Name (wpAny_storeName_local hx F₂.ns (fun h₃ hn₃ hs₃ => ?_) hp)
    have F₃ := F₂.set hn₃ hs₃
    obtain ⟨oI, hoI⟩ := hIo _ _ st₂
    have hoI₃ := hs₃.extBut _ _ (Ne.symm hIL) hoI
    have N₃ : News h₀ env.locals h₃ ((I, oI) :: news₁) := fun p hp => by
      rcases List.mem_cons.mp hp with rfl | hp
      · exact ⟨hoI₃, Ne.symm hIL, hI₀⟩
      · exact N₂.set hs₃ p hp
    refine wpAny_passesOwn hE (wpAny_mono (turn i v m₁ news₁ s₁ h₃ _ oI hlt hPv hJ₁ off₁ (fun b us n e => hs₃.extBut b _ (fun hb => by obtain ⟨oL, es, ep, q, r, _⟩ := F₁.ns; rw [hb, q] at e; rw [Option.some.inj e] at r; cases r) (hk b _ (by simpa using tupI b us n e) e)) F₃ N₃) (fun f s₄ h₄ => ?_) fun _ _ e => e)
    have fin : (∃ m' news', Fr h₀ env.locals s₄.heap m' ∧ News h₀ env.locals s₄.heap ((I, oI) :: news') ∧ (∀ p ∈ news', p.1 ≠ I) ∧ J (i + 1) m' news' s₄) →
        ∃ k', k' < n + 1 - i ∧ ∃ m₁ news₁ i, J i m₁ news₁ s₄ ∧ Fr h₀ env.locals s₄.heap m₁ ∧ News h₀ env.locals s₄.heap news₁ ∧ (∀ p ∈ news₁, p.1 ≠ I) ∧ St i s₄.heap ∧ i ≤ n ∧ k' = n + 1 - i := by
      rintro ⟨m', news', F', N', off', hJ'⟩
      exact ⟨n + 1 - (i + 1), by omega, m', news', i + 1, hJ', F', fun p hp => N' p (List.mem_cons_of_mem _ hp), off', hSt _ _ _ _ st₂ hoI (N' _ List.mem_cons_self).1 F'.keep, hlt, rfl⟩
    cases f with
    | ret v => exact h₄
    | brk => exact h₄
    | next => exact fin h₄
    | cont => exact fin h₄
  · obtain rfl : i = n := Nat.le_antisymm hi (Nat.not_lt.mp hlt)
    refine W.done _ _ _ st₁ fun h₂ tk₂ hk => wpAny_passesOwn hE ?_
    exact done m₁ news₁ s₁ h₂ _ hJ₁ (fun b us n e => hk b _ (by simpa using tupI b us n e) e) (LCg.fr_but F₁ hk hIL hI₀) (LCg.news_but N₁ hk off₁)
/-- a for over a list that stood before -/
theorem forLT {x : Str} {px : Pos} {body : List Stmt} {Q : Flow → Shared → Prop} {l : Addr} {vs : List Value} {nv : Nat} {news : List (Addr × Obj)} (J : Nat → (Str → Option Value) → List (Addr × Obj) → Shared → Prop)
    (hh : A.handled = none) (hL : env.locals = L) (hx : env.kindOf x = some .local) (hp : (env.scope.kind == .class || (env.scope.kind == .module && env.locals != env.globals)) = false)
    (F : Fr h₀ L s.heap m) (N : News h₀ L s.heap news) (hl : h₀.get? l = some (lst vs nv)) (hJ : ∀ h', Keep s.heap h' → J 0 m news { s with heap := h' })
    (turn : ∀ i v m₁ news₁ s₁ h₂ tk I oI, vs[i]? = some v → J i m₁ news₁ s₁ → (∀ p ∈ news₁, p.1 ≠ I) → (∀ b us n, s₁.heap.get? b = some (tup us n) → h₂.get? b = some (tup us n)) → Fr h₀ L h₂ (fun y => if y = x then some v else m₁ y) → News h₀ L h₂ ((I, oI) :: news₁) →
      wpAny (model prog w) A (execs body env) (fun f s₃ => match f with
        | .ret v => Q (.ret v) s₃
        | .brk => Q .next s₃
        | _ => Hold (∃ m' news', Fr h₀ L s₃.heap m' ∧ News h₀ L s₃.heap ((I, oI) :: news') ∧ (∀ p ∈ news', p.1 ≠ I) ∧ J (i + 1) m' news' s₃)) E { s₁ with heap := h₂, toks := tk })
    (done : ∀ m' news' s₁ h' tk, J vs.length m' news' s₁ → (∀ b us n, s₁.heap.get? b = some (tup us n) → h'.get? b = some (tup us n)) → Fr h₀ L h' m' → News h₀ L h' news' → Q .next { s₁ with heap := h', toks := tk })
    (hE : PassesOwn (model prog w) A env E) :
    wpAny (model prog w) A (pyIter (.ref l)) (fun it s₂ => codeAny (model prog w) A (.forLoop (.Name x px) it body [] env) (fun r s' => match r with | .ok f => Q f s' | .error e => cameBackBy (model prog w) A env E e s') s₂) E s := by
  have hls : s.heap.IsList l vs.toArray := ⟨_, F.keep _ _ hl, rfl, _, rfl⟩
  refine wpAny_pyIter_list hls ?_
  have hlt : l < s.heap.objs.size := Heap.lt_size (F.keep _ _ hl)
  have hI₀ : h₀.get? s.heap.objs.size = none := by
    cases q : h₀.get? s.heap.objs.size with
    | none => rfl
    | some o => exact absurd (Heap.lt_size (F.keep _ _ q)) (Nat.lt_irrefl _)
  refine forWT J (Walks.list hh s.heap.objs.size l (Nat.ne_of_lt hlt) vs.toArray) (fun i h st => let ⟨⟨o, e, _⟩, _⟩ := st; ⟨o, e⟩)
    (fun i h h' o st e e' k => by
      obtain ⟨⟨o', q, r⟩, _⟩ := st
      rw [e] at q
      cases q
      exact ⟨⟨o, e', r⟩, ⟨_, k _ _ hl, rfl, _, rfl⟩⟩)
    (fun i h o st e => by
      obtain ⟨⟨o', q, r, _⟩, _⟩ := st
      rw [e] at q
      cases q
      rw [r]
      exact (by decide : Value.type "list_iterator" ≠ Value.type "tuple"))
    ?_ hL hx hp (F.push _) (fun p hp => ⟨Heap.get?_push_of_some _ (N p hp).1, (N p hp).2⟩) (Nat.ne_of_lt F.ns.lt) hI₀ (fun p hp => Nat.ne_of_lt (Heap.lt_size (N p hp).1)) (hJ _ fun b o e => Heap.get?_push_of_some _ e) ?_ ?_ hE
  · exact ⟨⟨_, Heap.get?_push_size _ rfl, rfl, rfl⟩, ⟨_, Heap.get?_push_of_some _ (F.keep _ _ hl), rfl, _, rfl⟩⟩
  · rintro i v m₁ news₁ s₁ h₂ tk oI hi hv hJ₁ off hk F₁ N₁
    exact turn i v m₁ news₁ s₁ h₂ tk _ oI (by simpa using hv) hJ₁ off hk F₁ N₁
  · rintro m' news' s₁ h' tk hJ₁ hk F₁ N₁
    exact wpAny_execs_nil (done m' news' s₁ h' tk (by simpa using hJ₁) hk F₁ N₁)
end
end
-- P5
section
open PySem PySem.W PySem.Spec PySem.Calls PyProof.Rows
set_option maxRecDepth 100000
set_option maxHeartbeats 1000000
noncomputable def foldF (wd : Int) (ws : List Str) : List Str × List Str := ws.foldl (fstep wd) ([], [])
theorem foldF_snoc (wd : Int) (ws : List Str) (w : Str) : foldF wd (ws ++ [w]) = fstep wd (foldF wd ws) w := by simp [foldF]
theorem spc_ne (us : List Str) : us ≠ [] ↔ spc us ≠ Str.ofString "" := by
  cases us with
  | nil => simp [spc]
  | cons w r =>
    refine ⟨fun _ e => ?_, fun _ => by simp⟩
    have z := congrArg cpl e
    rw [cpl_spc] at z
    have e0 : cpl (Str.ofString "") = [] := by decide
    rw [e0] at z
    simp at z
theorem fold_lines (wd : Int) (ws : List Str) : (foldF wd ws).1 = (lfold wd ws).1 ∧ spc (foldF wd ws).2 = (lfold wd ws).2 := by
  induction ws using snocRec with
  | nil => exact ⟨rfl, rfl⟩
  | append_singleton ws w ih =>
    obtain ⟨i1, i2⟩ := ih
    rw [foldF_snoc, lfold_snoc]
    unfold fstep lstep
    rw [← i1, ← i2]
    have e : (((cpl (spc ((foldF wd ws).2 ++ [w]))).length : Nat) : Int) = (((spc (foldF wd ws).2).length : Nat) : Int) + 1 + ((w.length : Nat) : Int) := by rw [← len_cpl, len_spc_snoc]; omega
    rw [e]
    by_cases h : (foldF wd ws).2 ≠ [] ∧ (((spc (foldF wd ws).2).length : Nat) : Int) + 1 + ((w.length : Nat) : Int) > wd
    · rw [if_pos h, if_pos ⟨(spc_ne _).mp h.1, h.2⟩]
      refine ⟨rfl, ?_⟩
      apply cpl_inj
      rw [cpl_spc, cpl_append, sp_is]
      simp [cpl]
    · rw [if_neg h, if_neg (fun q => h ⟨(spc_ne _).mpr q.1, q.2⟩)]
      exact ⟨rfl, spc_snoc _ _⟩
theorem fold_last (wd : Int) (st : List Str × List Str) (w : Str) : ∃ us, (fstep wd st w).2 = us ++ [w] := by
  unfold fstep
  split
  · exact ⟨[], rfl⟩
  · exact ⟨_, rfl⟩
theorem fold_sub (wd : Int) (ws : List Str) : (∀ v ∈ (foldF wd ws).2, v ∈ ws) ∧ (foldF wd ws).2.length ≤ ws.length ∧ (foldF wd ws).1.length ≤ ws.length := by
  induction ws using snocRec with
  | nil => exact ⟨fun v h => h, Nat.le_refl _, Nat.le_refl _⟩
  | append_singleton ws w ih =>
    obtain ⟨i1, i2, i3⟩ := ih
    rw [foldF_snoc]
    unfold fstep
    split
    · refine ⟨fun v h => ?_, by simp, by simp; omega⟩
      rw [List.mem_singleton.mp h]; simp
    · refine ⟨fun v h => ?_, by simp; omega, by simp; omega⟩
      rcases List.mem_append.mp h with h | h
      · exact List.mem_append.mpr (.inl (i1 v h))
      · exact List.mem_append.mpr (.inr h)
theorem sum_len (l : List Str) : (l.map (·.length)).sum = (l.map cpl).flatten.length := by
  induction l with
  | nil => rfl
  | cons a r ih => rw [List.map_cons, List.sum_cons, ih, List.map_cons, List.flatten_cons, List.length_append, len_cpl]
theorem lawLines_weight (wd : Int) (ws : List Str) : ((lawLines wd ws).map (·.length)).sum = (spc ws).length := by
  have z := congrArg List.length (lines_flat wd ws)
  rw [List.length_append, ← sum_len, ← len_cpl, ← len_cpl] at z
  simpa [lawLines] using z
def GoodW (w : Str) : Prop := w.length ≠ 0 ∧ w.length ≤ 100 ∧ ∀ c ∈ cpl w, 42 < c ∧ c < 123
theorem GoodW.sp {w : Str} (h : GoodW w) : 32 ∉ cpl w := fun q => by have := h.2.2 _ q; omega
theorem GoodW.nl {w : Str} (h : GoodW w) : 10 ∉ cpl w := fun q => by have := h.2.2 _ q; omega
theorem GoodW.ok {w : Str} (h : GoodW w) : PyData.strOk w = true := by
  unfold PyData.strOk
  rw [Array.all_eq_true']
  intro x hx
  have := h.2.2 x (by simpa [cpl] using hx)
  simp; omega
theorem GoodW.space {ws : List Str} {w : Str} (h : GoodW w) : Txt.isspace (spc (ws ++ [w])) = false := by
  have hs : ∀ c, 42 < c → c < 123 → Unicode.isSpace c = false := by
    intro c h1 h2
    have : ∀ d : Fin 123, 42 < d.val → Unicode.isSpace d.val = false := by decide +kernel
    exact this ⟨c, h2⟩ h1
  obtain ⟨c, r, e⟩ : ∃ c r, cpl w = c :: r := by
    cases q : cpl w with
    | nil => exact absurd (by rw [len_cpl, q]; rfl) h.1
    | cons c r => exact ⟨c, r, rfl⟩
  have hc := h.2.2 c (by rw [e]; simp)
  unfold Txt.isspace
  rw [Bool.and_eq_false_iff]
  right
  rw [Bool.eq_false_iff]
  intro q
  rw [Array.all_eq_true'] at q
  have hm : c ∈ (spc (ws ++ [w])).cps := by
    have : c ∈ cpl (spc (ws ++ [w])) := by rw [cpl_spc]; simp [e]
    simpa [cpl] using this
  exact absurd (q c hm) (by rw [hs c hc.1 hc.2]; decide)
end
-- P9
section
open PySem PySem.W PySem.Spec PySem.Calls PySem.SeqAt PyProof.Rows
theorem e64_in {v : Int} (h : 0 ≤ v) (h' : v < 64) : 42 < e64 v ∧ e64 v < 123 := by
  unfold e64
  have hk : ∀ x ∈ b64ks, 42 < x ∧ x < 123 := by decide
  have hl : v.toNat < b64ks.length := (Int.toNat_lt h).mpr h'
  rw [List.getD_eq_getElem?_getD, List.getElem?_eq_getElem hl]
  exact hk _ (List.getElem_mem hl)
theorem e64_ok {v : Int} (h : 0 ≤ v ∧ v < 64) : 42 < e64 v ∧ e64 v < 123 := e64_in h.1 h.2
theorem enc_in : ∀ (l : List Int), (∀ a ∈ l, 0 ≤ a ∧ a < 256) → ∀ x ∈ enc l, 42 < x ∧ x < 123
  | [], _, x, h => nomatch h
  | [a], hl, x, q => by
    rcases List.mem_cons.mp q with rfl | q
    · exact e64_ok (q_bd (by decide) (hl a (.head _)))
    rcases List.mem_cons.mp q with rfl | q
    · exact e64_ok (q_sh (k := 4) (by decide) (q_bm a (by decide)))
    rcases List.mem_cons.mp q with rfl | q
    · decide
    cases List.eq_of_mem_singleton q
    decide
  | [a, b], hl, x, q => by
    have hb := q_bd (n := 16) (m := 16) (by decide) (hl b (.tail _ (.head _)))
    rcases List.mem_cons.mp q with rfl | q
    · exact e64_ok (q_bd (by decide) (hl a (.head _)))
    rcases List.mem_cons.mp q with rfl | q
    · exact e64_ok (q_lt (k := 4) (q_bm a (by decide)) hb)
    rcases List.mem_cons.mp q with rfl | q
    · exact e64_ok (q_sh (k := 16) (by decide) (q_bm b (by decide)))
    cases List.eq_of_mem_singleton q
    decide
  | a :: b :: c :: r, hl, x, q => by
    have hb := q_bd (n := 16) (m := 16) (by decide) (hl b (.tail _ (.head _)))
    have hc := q_bd (n := 64) (m := 4) (by decide) (hl c (mth 2 rfl))
    rcases List.mem_cons.mp q with rfl | q
    · exact e64_ok (q_bd (by decide) (hl a (.head _)))
    rcases List.mem_cons.mp q with rfl | q
    · exact e64_ok (q_lt (k := 4) (q_bm a (by decide)) hb)
    rcases List.mem_cons.mp q with rfl | q
    · exact e64_ok (q_lt (k := 16) (q_bm b (by decide)) hc)
    rcases List.mem_cons.mp q with rfl | q
    · exact e64_ok (q_bm c (by decide))
    exact enc_in r (fun y hy => hl y (.tail _ (.tail _ (.tail _ hy)))) x q
theorem word_len (x : Int) : (word x).length = (wordI x).length := by
  show ((wordI x).map Int.toNat).toArray.size = _
  simp
theorem word_good (x : Int) : GoodW (word x) := by
  have hl := wordI_len x
  refine ⟨by rw [word_len]; exact Nat.ne_of_gt (Nat.lt_of_lt_of_le (by decide) hl.1), by rw [word_len]; exact Nat.le_trans hl.2 (by decide), fun c hc => ?_⟩
  have hc : c ∈ (wordI x).map Int.toNat := hc
  obtain ⟨n, hn, rfl⟩ := List.mem_map.mp hc
  have := enc_in _ (octs_range x) n hn
  omega
theorem word_count (x : Int) : ((word x).length : Int) = (x.fmod 7 + 3).fdiv 3 * 4 := by
  have h1 := Int.fmod_nonneg_of_pos x (b := 7) (by decide)
  have h2 := Int.fmod_lt_of_pos x (b := 7) (by decide)
  rw [word_len, wordI, enc_len, octs_len, Int.fdiv_eq_ediv_of_nonneg _ (by decide : (0 : Int) ≤ 3)]
  generalize x.fmod 7 = r at h1 h2 ⊢
  obtain ⟨n, rfl⟩ := Int.eq_ofNat_of_zero_le h1
  have : ∀ n : Nat, n < 7 → (((((n : Int) + 1).toNat + 2) / 3 * 4 : Nat) : Int) = ((n : Int) + 3) / 3 * 4 := by decide
  exact this n (Int.ofNat_lt.mp h2)
theorem ints_at : ∀ {vs : List Value} {ns : List Int} {i : Nat} {v : Value}, IntsAre vs ns → vs[i]? = some v → ∃ k u, v = .int k u ∧ ns.getD i 0 = k
  | _, _, _, _, .nil, h => nomatch h
  | _, _, 0, _, .cons k u r, h => by cases h; exact ⟨k, u, rfl, rfl⟩
  | _, _, i + 1, _, .cons k u r, h => by obtain ⟨a, b, c, d⟩ := ints_at r h; exact ⟨a, b, c, d⟩
theorem ints_of : ∀ {vs : List Value}, (∀ (i : Nat) (y : Value), vs[i]? = some y → ∃ k t, y = .int k t) → ∃ ks, IntsAre vs ks
  | [], _ => ⟨[], .nil⟩
  | v :: vs, h => by
    obtain ⟨k, t, rfl⟩ := h 0 v rfl
    obtain ⟨ks, hk⟩ := ints_of (vs := vs) fun i y e => h (i + 1) y e
    exact ⟨k :: ks, .cons k t hk⟩
theorem strs_map (f : Int → Str) : ∀ {vs : List Value} {ns : List Int}, vs.length = ns.length → (∀ (i : Nat) (y : Value), vs[i]? = some y → ∃ t, y = .str (f (ns.getD i 0)) t) → StrsAre vs (ns.map f)
  | [], [], _, _ => .nil
  | v :: vs, n :: ns, hl, h => by
    obtain ⟨t, rfl⟩ := h 0 v rfl
    exact .cons _ t (strs_map f (by simpa using hl) fun i y e => h (i + 1) y e)
theorem strs_words : ∀ {vs : List Value}, (∀ v ∈ vs, ∃ x t, v = .str (word x) t) → ∃ ws, StrsAre vs ws ∧ ws.length = vs.length ∧ ∀ w ∈ ws, GoodW w
  | [], _ => ⟨[], .nil, rfl, fun _ h => nomatch h⟩
  | v :: vs, h => by
    obtain ⟨x, t, rfl⟩ := h v (.head _)
    obtain ⟨ws, a, b, c⟩ := strs_words (vs := vs) fun y hy => h y (.tail _ hy)
    exact ⟨word x :: ws, .cons _ t a, by simp [b], fun w hw => by
      rcases List.mem_cons.mp hw with rfl | hw
      · exact word_good x
      · exact c w hw⟩
theorem pick_mem {vs : Array Value} {lo hi st : Option Int} {v : Value} (h : v ∈ (slicePick vs lo hi st).toList) : v ∈ vs.toList := by
  unfold slicePick at h
  obtain ⟨i, _, e⟩ := List.mem_filterMap.mp h
  obtain ⟨hi, rfl⟩ := Array.getElem?_eq_some_iff.mp e
  exact Array.mem_toList_iff.mpr (Array.getElem_mem hi)
theorem SameL.of {vs us : List Value} (hl : vs.length = us.length) (h : ∀ (i : Nat) (v u : Value), vs[i]? = some v → us[i]? = some u → (∃ x t t', v = .int x t ∧ u = .int x t') ∨ ∃ x t t', v = .bytes x t ∧ u = .bytes x t') : SameL vs us :=
  ⟨hl, fun A s i v u e e' => by
    rcases h i v u e e' with ⟨x, t, t', rfl, rfl⟩ | ⟨x, t, t', rfl, rfl⟩
    · exact same_int A s x t t'
    · exact same_bytes A s x t t'⟩
theorem joinInt {M : Model} {A : Around} {t : Sem Value} {Q E : Value → Shared → Prop} {s : Shared} (lo hi : Int) (h1 : ∀ Q' : Value → Shared → Prop, (∀ k u tk', lo ≤ k → k ≤ hi → Q' (.int k u) { s with toks := tk' }) → wpAny M A t Q' E s) (h2 : ∀ k u tk', lo ≤ k → k ≤ hi → Q (.int k u) { s with toks := tk' }) : wpAny M A t Q E s := h1 Q h2
theorem strs_word_at (f : Int → Str) : ∀ {vs : List Value} {ns : List Int} {i : Nat} {v : Value}, StrsAre vs (ns.map f) → vs[i]? = some v → ∃ t, v = .str (f (ns.getD i 0)) t
  | [], [], _, _, _, h => nomatch h
  | _ :: _, _ :: _, 0, _, .cons _ t _, h => by cases h; exact ⟨t, rfl⟩
  | _ :: _, _ :: _, i + 1, _, .cons _ _ r, h => strs_word_at f (i := i) r h
theorem lawLines_len (wd : Int) (ws : List Str) : (lawLines wd ws).length ≤ ws.length + 1 := by
  have := lines_count wd ws
  simp [lawLines]
  exact this
theorem spc_len : ∀ (ws : List Str), (∀ w ∈ ws, w.length ≤ 100) → (spc ws).length ≤ 101 * ws.length
  | [], _ => by decide
  | w :: ws, h => by
    have ih := spc_len ws fun x hx => h x (.tail _ hx)
    have hw := h w (.head _)
    rw [len_cpl, cpl_spc] at ih ⊢
    rw [len_cpl] at hw
    simp only [List.flatMap_cons, List.length_append, List.length_cons, cpl] at ih hw ⊢
    omega
theorem words_room (wd : Int) (ws : List Str) (h : ∀ w ∈ ws, GoodW w) (hl : ws.length ≤ 20) : ((lawLines wd ws).map (·.length)).sum + (lawLines wd ws).length * 64 ≤ 1000000 ∧ (spc ws).length ≤ 1000000 := by
  have a := lawLines_len wd ws
  have b := spc_len ws fun w hw => (h w hw).2.1
  rw [lawLines_weight]
  omega
end
-- A22
section
open PySem PySem.W PySem.Spec PySem.Calls PyProof.Rows
set_option maxRecDepth 100000
set_option maxHeartbeats 3000000
local macro_rules | `(tactic| walk_at "exec For Name Name cons nil") => `(tactic| refine Stop.mk ?_)
local macro_rules | `(tactic| walk_at "call builtin:str.split cons nil") => `(tactic| refine Stop.mk ?_)
local macro_rules | `(tactic| walk_at "call ref cons nil") => `(tactic| refine Stop.mk ?_)
local macro_rules | `(tactic| walk_at "call ref nil") => `(tactic| refine Stop.mk ?_)
local macro_rules | `(tactic| walk_at "pyIter ref") => `(tactic| refine Stop.mk ?_)
theorem jl_len (c : Nat) : ∀ ls : List (List Nat), (jl c ls).length ≤ (ls.map List.length).sum + ls.length
  | [] => by simp [jl]
  | [a] => by simp [jl]
  | a :: b :: r => by
    have z := jl_len c (b :: r)
    simp [jl] at z ⊢
    omega
theorem join_len (l : List Str) : (Txt.join Mine.nl l).length ≤ (l.map (·.length)).sum + l.length := by
  rw [txt_join, nl_is, len_cpl, cpl_join, sum_len]
  have z := jl_len 10 (l.map cpl)
  rw [List.length_map, ← List.length_flatten] at z
  exact z
theorem split_lines (wd : Int) (ws : List Str) (h : ∀ w ∈ ws, GoodW w) : Txt.split (Txt.join Mine.nl (lawLines wd ws)) (Str.ofString "\n") = lawLines wd ws := by
  rw [txt_join]
  show Txt.split (Str.join Mine.nl (lawLines wd ws)) Mine.nl = _
  rw [nl_is]
  exact split_join_one 10 _ (by simp [lawLines]) (lawLines_free wd ws fun w hw => (h w hw).nl)
theorem wt94 (a b c d : Value) : (Code.builtin "type.__call__" { pos := [Value.ref 94, a, b, c, d] }).weight = 1 := by kernel_rfl
theorem ut94 (a b c d : Value) : (Code.builtin "type.__call__" { pos := [Value.ref 94, a, b, c, d] }).cUnits = 1 := by kernel_rfl
inductive FoldInv (s0 : Shared) (g : Heap) (L' : Addr) (wd : Int) (wsl : List Str) (H : Nat → Int) (T0 : Nat → Tok) (tw tl c1 c2 : Tok) (f df ll x dx : Addr) (kf k : Nat) (hh : Int) (kt : Tok) (i : Nat) (m : Str → Option Value) (news : List (Addr × Obj)) (s : Shared) : Prop
  | mk : ∀ lvs nl vs n t0 p1 p2, (news = [(f, instObj 94 df), (df, dictOf (fmtEs H T0 wd tw tl c1 c2 ll x) kf), (ll, lst lvs nl), (x, accO dx vs n), (dx, dictOf [⟨hh, .str (Str.ofString "_initial_size") kt, .int 0 t0⟩] k), (140, tabO p1), (147, tabO p2)]) → (m (Str.ofString "formatter") = some (.ref f)) → (StrsAre lvs (foldF wd (wsl.take i)).1) → (PartsAt s.heap vs (foldF wd (wsl.take i)).2) → (TriplesOk p1.toList) → (TriplesOk p2.toList) → (OG s0 s.os s.gens) → ((i ≠ 0 → ∃ us t u₁ u₂ w, vs = us ++ [.ref t] ∧ s.heap.get? t = some (tup [.str sp u₁, .str w u₂] 0) ∧ t ≠ L' ∧ g.get? t = none ∧ wsl[i - 1]? = some w)) → FoldInv s0 g L' wd wsl H T0 tw tl c1 c2 f df ll x dx kf k hh kt i m news s
theorem folded_spec {w : World} {mg mb : Str → Option Value} {lw : Addr} {wd : Int} {tw : Tok} {wvs : List Value} {nw : Nat} {wsl : List Str} {p1 p2 : Array Value} {bm : Addr} {ob : Obj}
  {dp un : Nat} {gd : Option (List Code)} {cn : Str} {cs : Scope} {a : Addr} {ccd : Value} {cl : List (Str × Addr)} {outer : List Env} {A₀ : Around} {base h₀ : Heap} {L : Addr} {m : Str → Option Value} {s : Shared} {Q E : Value → Shared → Prop} (B : Below A₀ base outer h₀) (F : Fr h₀ L s.heap m) (X : (KK w.params).In h₀) (N : News h₀ L s.heap [(140, tabO p1), (147, tabO p2)]) (T : TopRead VV LL mg mb h₀) (hk : cs.kind = .function) (hdp : dp + 50 < recursionLimit) (hun : un + 800 < cLine) (M : BMod h₀ mainGlobals mg bm ob) (hp1 : TriplesOk p1.toList) (hp2 : TriplesOk p2.toList) (hlw : s.heap.get? lw = some (lst wvs nw)) (hws : StrsAre wvs wsl) (hne : wsl ≠ []) (hlen : wsl.length ≤ 20) (hgood : ∀ v ∈ wsl, GoodW v)
  (ret : ∀ l p1' p2' s', ExtBut [140, 147] s s' → SL s'.heap l (lawLines wd wsl) → s.heap.get? l = none → s'.heap.get? 140 = some (tabO p1') → s'.heap.get? 147 = some (tabO p2') → TriplesOk p1'.toList → TriplesOk p2'.toList → Q (.ref l) s') :
  wpAny (model PySem.Challenge.pw_oy0243_01 w) (ktrTop dp un gd cn cs L a ccd cl outer) (call (.ref 303) [.ref lw, .int wd tw]) Q E s := by
  refine wpAny_call ?_
  refine' enterM (binds := [(Str.ofString "words", .ref lw), (Str.ofString "width", .int wd tw)]) B F X N T rfl rfl hk ?ho ?hcd ?hroom ?hbind ?hloc ?hb ?c1 ?c2 ?c3 ?c4
  case ho => k_is
  case hcd => k_is
  case hroom => exact up0 hdp
  case hbind => exact BindsTo.of_eq rfl
  case hloc => exact locs rfl
  case c1 => decide
  case c2 => exact rfl
  case c3 => exact rfl
  case c4 => exact rfl
  intro g L' h₁ tk₁ Kg F₁ N₁ B₁ X₁ T₁ hlt₁ hsz₁ hL₁
  first | refine' execsIs ?ebL ?_ | refine' execsIsAt ?ebL ?_
  case ebL => conv => lhs; whnf
  have og₀ := OG.refl s
  (try dsimp only)
  refine wpAny_opqE PassesOwn.leaving fun Qo Eo hQo hEo => ?_
  (try k_fold)
  have hwg : g.get? lw = some (lst wvs nw) := Kg _ _ hlw fun hm => by
    obtain ⟨p, hp, he⟩ := List.mem_map.mp hm
    have z := (N p hp).1
    rw [he, hlw] at z
    rcases List.mem_cons.mp hp with rfl | hp
    · exact absurd (congrArg Obj.cls (Option.some.inj z)) (by decide : (Value.type "list") ≠ Value.none)
    · rcases List.mem_cons.mp hp with rfl | hp
      · exact absurd (congrArg Obj.cls (Option.some.inj z)) (by decide : (Value.type "list") ≠ Value.none)
      · cases hp
  have Mg := M.keeps (keepG F N Kg)
  k_steps
  all_goals (try (with_reducible show Stop _; show wpAny _ _ _ _ _ _))
  (rename Fr _ _ _ _ => F2)
  (rename News _ _ _ _ => N2)
  refine wpAny_call (make_K (fI := 35) F2 N2 (by k_in) (by k_is) ?ki ?kf ?_)
  case ki => k_is
  case kf => k_is
  intro f df h3 F3 N3 l3 l3'
  refine' finit_spec ?B ?F ?X (allC (N3 _ (.head _)) (allC (N3 _ (.tail _ (.head _))) allN)) ?T ?hk ?hdp ?hun ?_
  case B => first | assumption | k_asm
  case F => k_asm
  case X => first | assumption | k_asm
  case T => first | assumption | k_asm
  case hk => exact rfl
  case hdp => (rw [wt94]; show dp + 1 + 1 + 10 < recursionLimit; omega)
  case hun => (rw [ut94]; simp only [units_deeper]; omega)
  intro H T0 tl ll x dx kf n k hh kt t1 s4 x4 e4 l4 a4 d4 n1 n2 n3
  refine ⟨rfl, ?_⟩
  dsimp only
  have F4 := exF x4 F3 (nm1 (Ne.symm (N3 _ (.tail _ (.head _))).2.1)) (allC (N3 _ (.tail _ (.head _))).2.2 allN)
  have hfd : @Ne Nat f df := neO (N3 _ (.head _)).1 (N3 _ (.tail _ (.head _))).1 (show (94 : Nat) ≠ 1000 from by decide)
  have h14 : @Ne Nat 140 df := neO (N3 _ (mth 2 rfl)).1 (N3 _ (.tail _ (.head _))).1 (show (2 : Nat) ≠ 1000 from by decide)
  have h17 : @Ne Nat 147 df := neO (N3 _ (mth 3 rfl)).1 (N3 _ (.tail _ (.head _))).1 (show (2 : Nat) ≠ 1000 from by decide)
  have N4 : News g L' s4.heap [(f, instObj 94 df), (df, dictOf (fmtEs H T0 wd tw tl _ _ ll x) kf), (ll, lst [] 0), (x, accO dx [] n), (dx, dictOf [⟨hh, .str (Str.ofString "_initial_size") kt, .int 0 t1⟩] k), (140, tabO p1), (147, tabO p2)] := allC (exK x4 N3 (.head _) (nm1 hfd)) (allC (entH N3 (.tail _ (.head _)) e4) (allC (exN x4 F3 n1 l4) (allC (exN x4 F3 n2 a4) (allC (exN x4 F3 n3 d4) (allC (exK x4 N3 (mth 2 rfl) (nm1 h14)) (allC (exK x4 N3 (mth 3 rfl) (nm1 h17)) allN))))))
  have og4 := OG.stepB (by assumption) x4
  clear F3 N3 F2 N2 hfd h14 h17
  k_steps
  all_goals (try (with_reducible show Stop _; show wpAny _ _ _ _ _ _))
  refine wpAny_For ?_
  k_steps
  all_goals (try (with_reducible show Stop _; show wpAny _ _ _ _ _ _))
  (rename Fr _ _ _ _ => F5)
  (rename News _ _ _ _ => N5)
  refine forLT (L := L') (FoldInv s g L' wd wsl H T0 tw tl (tk₁ + 1) (tk₁ + 1 + 1) f df ll x dx kf k hh kt) rfl rfl rfl rfl F5 N5 hwg ?_ ?_ ?_ hEo
  · intro h' _
    exact ⟨[], 0, [], n, t1, p1, p2, rfl, rfl, .nil, partsNil _, hp1, hp2, og4, fun h => absurd rfl h⟩
  · intro i v m₁ news₁ s₆ h6 tk6 I oI hv hJ offI kT F6 N6
    obtain ⟨lvs, nl, vs, n, t0, q1, q2, rfl, hm, hls, hpa, hq1, hq2, og6, hlast⟩ := hJ
    obtain ⟨y, ty, rfl, hy⟩ := hws.item i v hv
    have F6 := Fr_know (Str.ofString "formatter") F6 ((if_neg (by decide)).trans hm)
    have F6 := Fr_know (Str.ofString "word") F6 ((if_neg (by decide)).trans (if_pos rfl))
    have hsub := fold_sub wd (wsl.take i)
    have hvl : vs.length = (foldF wd (wsl.take i)).2.length := let ⟨_, _, _, e, _⟩ := hpa; e
    have htl : (wsl.take i).length ≤ 20 := Nat.le_trans (List.length_take_le' _ _) hlen
    have hg1 : ∀ v ∈ (foldF wd (wsl.take i)).2, v.length ≤ 100 := fun v hv => (hgood v (List.mem_of_mem_take (hsub.1 v hv))).2.1
    have hfs : foldF wd (wsl.take (i + 1)) = fstep wd (foldF wd (wsl.take i)) y := by
      rw [List.take_succ, hy, Option.toList_some, foldF_snoc]
    refine wpAny_opq fun Qp hQp => ?_
    k_steps
    all_goals (try (with_reducible show Stop _; show wpAny _ _ _ _ _ _))
    (rename Fr _ _ _ _ => F7)
    (rename News _ _ _ _ => N7)
    refine' chunk_spec (ls := (foldF wd (wsl.take i)).1) (ws := (foldF wd (wsl.take i)).2) (w₀ := y) ?B ?F ?X (allC (N7 _ (.tail _ (.head _))) (allC (N7 _ (mth 2 rfl)) (allC (N7 _ (mth 3 rfl)) (allC (N7 _ (mth 4 rfl)) (allC (N7 _ (mth 5 rfl)) (allC (N7 _ (mth 6 rfl)) (allC (N7 _ (mth 7 rfl)) allN))))))) ?T ?hk ?hdp ?hun Mg hq1 hq2 (hpa.move kT) (by omega) hg1 hls (by omega) (hgood y (List.mem_of_getElem? hy)).2.1 ?_
    case B => first | assumption | k_asm
    case F => k_asm
    case X => first | assumption | k_asm
    case T => first | assumption | k_asm
    case hk => exact rfl
    case hdp => k_room
    case hun => k_room
    intro lvs' nl' vs' n' t' p1' p2' s8 x8 e8 sa8 a8 d8 pa8 g8 v8 r8 r8' hl8
    have ne_x_f : Hold (@Ne Nat x f) := Hold.mk <| neO ((fun p hp => N7 p (.tail _ hp)) _ (mth 3 rfl)).1 ((fun p hp => N7 p (.tail _ hp)) _ (.head _)).1 (show (178 : Nat) ≠ 94 from by decide)
    have ne_f_x : Hold (@Ne Nat f x) := Hold.mk <| neO ((fun p hp => N7 p (.tail _ hp)) _ (.head _)).1 ((fun p hp => N7 p (.tail _ hp)) _ (mth 3 rfl)).1 (show (94 : Nat) ≠ 178 from by decide)
    have ne_x_df : Hold (@Ne Nat x df) := Hold.mk <| neO ((fun p hp => N7 p (.tail _ hp)) _ (mth 3 rfl)).1 ((fun p hp => N7 p (.tail _ hp)) _ (.tail _ (.head _))).1 (show (178 : Nat) ≠ 1006 from by decide)
    have ne_df_x : Hold (@Ne Nat df x) := Hold.mk <| neO ((fun p hp => N7 p (.tail _ hp)) _ (.tail _ (.head _))).1 ((fun p hp => N7 p (.tail _ hp)) _ (mth 3 rfl)).1 (show (1006 : Nat) ≠ 178 from by decide)
    have ne_x_ll : Hold (@Ne Nat x ll) := Hold.mk <| neO ((fun p hp => N7 p (.tail _ hp)) _ (mth 3 rfl)).1 ((fun p hp => N7 p (.tail _ hp)) _ (mth 2 rfl)).1 (show (178 : Nat) ≠ 1 from by decide)
    have ne_ll_x : Hold (@Ne Nat ll x) := Hold.mk <| neO ((fun p hp => N7 p (.tail _ hp)) _ (mth 2 rfl)).1 ((fun p hp => N7 p (.tail _ hp)) _ (mth 3 rfl)).1 (show (1 : Nat) ≠ 178 from by decide)
    have ne_x_dx : Hold (@Ne Nat x dx) := Hold.mk <| neO ((fun p hp => N7 p (.tail _ hp)) _ (mth 3 rfl)).1 ((fun p hp => N7 p (.tail _ hp)) _ (mth 4 rfl)).1 (show (178 : Nat) ≠ 1001 from by decide)
    have ne_dx_x : Hold (@Ne Nat dx x) := Hold.mk <| neO ((fun p hp => N7 p (.tail _ hp)) _ (mth 4 rfl)).1 ((fun p hp => N7 p (.tail _ hp)) _ (mth 3 rfl)).1 (show (1001 : Nat) ≠ 178 from by decide)
    have ne_x_140 : Hold (@Ne Nat x 140) := Hold.mk <| neO ((fun p hp => N7 p (.tail _ hp)) _ (mth 3 rfl)).1 ((fun p hp => N7 p (.tail _ hp)) _ (mth 5 rfl)).1 (show (178 : Nat) ≠ 2 from by decide)
    have ne_140_x : Hold (@Ne Nat 140 x) := Hold.mk <| neO ((fun p hp => N7 p (.tail _ hp)) _ (mth 5 rfl)).1 ((fun p hp => N7 p (.tail _ hp)) _ (mth 3 rfl)).1 (show (2 : Nat) ≠ 178 from by decide)
    have ne_x_147 : Hold (@Ne Nat x 147) := Hold.mk <| neO ((fun p hp => N7 p (.tail _ hp)) _ (mth 3 rfl)).1 ((fun p hp => N7 p (.tail _ hp)) _ (mth 6 rfl)).1 (show (178 : Nat) ≠ 2 from by decide)
    have ne_147_x : Hold (@Ne Nat 147 x) := Hold.mk <| neO ((fun p hp => N7 p (.tail _ hp)) _ (mth 6 rfl)).1 ((fun p hp => N7 p (.tail _ hp)) _ (mth 3 rfl)).1 (show (2 : Nat) ≠ 178 from by decide)
    have ne_140_f : Hold (@Ne Nat 140 f) := Hold.mk <| neO ((fun p hp => N7 p (.tail _ hp)) _ (mth 5 rfl)).1 ((fun p hp => N7 p (.tail _ hp)) _ (.head _)).1 (show (2 : Nat) ≠ 94 from by decide)
    have ne_f_140 : Hold (@Ne Nat f 140) := Hold.mk <| neO ((fun p hp => N7 p (.tail _ hp)) _ (.head _)).1 ((fun p hp => N7 p (.tail _ hp)) _ (mth 5 rfl)).1 (show (94 : Nat) ≠ 2 from by decide)
    have ne_140_df : Hold (@Ne Nat 140 df) := Hold.mk <| neO ((fun p hp => N7 p (.tail _ hp)) _ (mth 5 rfl)).1 ((fun p hp => N7 p (.tail _ hp)) _ (.tail _ (.head _))).1 (show (2 : Nat) ≠ 1006 from by decide)
    have ne_df_140 : Hold (@Ne Nat df 140) := Hold.mk <| neO ((fun p hp => N7 p (.tail _ hp)) _ (.tail _ (.head _))).1 ((fun p hp => N7 p (.tail _ hp)) _ (mth 5 rfl)).1 (show (1006 : Nat) ≠ 2 from by decide)
    have ne_140_ll : Hold (@Ne Nat 140 ll) := Hold.mk <| neO ((fun p hp => N7 p (.tail _ hp)) _ (mth 5 rfl)).1 ((fun p hp => N7 p (.tail _ hp)) _ (mth 2 rfl)).1 (show (2 : Nat) ≠ 1 from by decide)
    have ne_ll_140 : Hold (@Ne Nat ll 140) := Hold.mk <| neO ((fun p hp => N7 p (.tail _ hp)) _ (mth 2 rfl)).1 ((fun p hp => N7 p (.tail _ hp)) _ (mth 5 rfl)).1 (show (1 : Nat) ≠ 2 from by decide)
    have ne_140_dx : Hold (@Ne Nat 140 dx) := Hold.mk <| neO ((fun p hp => N7 p (.tail _ hp)) _ (mth 5 rfl)).1 ((fun p hp => N7 p (.tail _ hp)) _ (mth 4 rfl)).1 (show (2 : Nat) ≠ 1001 from by decide)
    have ne_dx_140 : Hold (@Ne Nat dx 140) := Hold.mk <| neO ((fun p hp => N7 p (.tail _ hp)) _ (mth 4 rfl)).1 ((fun p hp => N7 p (.tail _ hp)) _ (mth 5 rfl)).1 (show (1001 : Nat) ≠ 2 from by decide)
    have ne_147_f : Hold (@Ne Nat 147 f) := Hold.mk <| neO ((fun p hp => N7 p (.tail _ hp)) _ (mth 6 rfl)).1 ((fun p hp => N7 p (.tail _ hp)) _ (.head _)).1 (show (2 : Nat) ≠ 94 from by decide)
    have ne_f_147 : Hold (@Ne Nat f 147) := Hold.mk <| neO ((fun p hp => N7 p (.tail _ hp)) _ (.head _)).1 ((fun p hp => N7 p (.tail _ hp)) _ (mth 6 rfl)).1 (show (94 : Nat) ≠ 2 from by decide)
    have ne_147_df : Hold (@Ne Nat 147 df) := Hold.mk <| neO ((fun p hp => N7 p (.tail _ hp)) _ (mth 6 rfl)).1 ((fun p hp => N7 p (.tail _ hp)) _ (.tail _ (.head _))).1 (show (2 : Nat) ≠ 1006 from by decide)
    have ne_df_147 : Hold (@Ne Nat df 147) := Hold.mk <| neO ((fun p hp => N7 p (.tail _ hp)) _ (.tail _ (.head _))).1 ((fun p hp => N7 p (.tail _ hp)) _ (mth 6 rfl)).1 (show (1006 : Nat) ≠ 2 from by decide)
    have ne_147_ll : Hold (@Ne Nat 147 ll) := Hold.mk <| neO ((fun p hp => N7 p (.tail _ hp)) _ (mth 6 rfl)).1 ((fun p hp => N7 p (.tail _ hp)) _ (mth 2 rfl)).1 (show (2 : Nat) ≠ 1 from by decide)
    have ne_ll_147 : Hold (@Ne Nat ll 147) := Hold.mk <| neO ((fun p hp => N7 p (.tail _ hp)) _ (mth 2 rfl)).1 ((fun p hp => N7 p (.tail _ hp)) _ (mth 6 rfl)).1 (show (1 : Nat) ≠ 2 from by decide)
    have ne_147_dx : Hold (@Ne Nat 147 dx) := Hold.mk <| neO ((fun p hp => N7 p (.tail _ hp)) _ (mth 6 rfl)).1 ((fun p hp => N7 p (.tail _ hp)) _ (mth 4 rfl)).1 (show (2 : Nat) ≠ 1001 from by decide)
    have ne_dx_147 : Hold (@Ne Nat dx 147) := Hold.mk <| neO ((fun p hp => N7 p (.tail _ hp)) _ (mth 4 rfl)).1 ((fun p hp => N7 p (.tail _ hp)) _ (mth 6 rfl)).1 (show (1001 : Nat) ≠ 2 from by decide)
    have ne_dx_f : Hold (@Ne Nat dx f) := Hold.mk <| neO ((fun p hp => N7 p (.tail _ hp)) _ (mth 4 rfl)).1 ((fun p hp => N7 p (.tail _ hp)) _ (.head _)).1 (show (1001 : Nat) ≠ 94 from by decide)
    have ne_f_dx : Hold (@Ne Nat f dx) := Hold.mk <| neO ((fun p hp => N7 p (.tail _ hp)) _ (.head _)).1 ((fun p hp => N7 p (.tail _ hp)) _ (mth 4 rfl)).1 (show (94 : Nat) ≠ 1001 from by decide)
    have ne_dx_df : Hold (@Ne Nat dx df) := Hold.mk <| neO ((fun p hp => N7 p (.tail _ hp)) _ (mth 4 rfl)).1 ((fun p hp => N7 p (.tail _ hp)) _ (.tail _ (.head _))).1 (show (1001 : Nat) ≠ 1006 from by decide)
    have ne_df_dx : Hold (@Ne Nat df dx) := Hold.mk <| neO ((fun p hp => N7 p (.tail _ hp)) _ (.tail _ (.head _))).1 ((fun p hp => N7 p (.tail _ hp)) _ (mth 4 rfl)).1 (show (1006 : Nat) ≠ 1001 from by decide)
    have ne_dx_ll : Hold (@Ne Nat dx ll) := Hold.mk <| neO ((fun p hp => N7 p (.tail _ hp)) _ (mth 4 rfl)).1 ((fun p hp => N7 p (.tail _ hp)) _ (mth 2 rfl)).1 (show (1001 : Nat) ≠ 1 from by decide)
    have ne_ll_dx : Hold (@Ne Nat ll dx) := Hold.mk <| neO ((fun p hp => N7 p (.tail _ hp)) _ (mth 2 rfl)).1 ((fun p hp => N7 p (.tail _ hp)) _ (mth 4 rfl)).1 (show (1 : Nat) ≠ 1001 from by decide)
    have ne_ll_f : Hold (@Ne Nat ll f) := Hold.mk <| neO ((fun p hp => N7 p (.tail _ hp)) _ (mth 2 rfl)).1 ((fun p hp => N7 p (.tail _ hp)) _ (.head _)).1 (show (1 : Nat) ≠ 94 from by decide)
    have ne_f_ll : Hold (@Ne Nat f ll) := Hold.mk <| neO ((fun p hp => N7 p (.tail _ hp)) _ (.head _)).1 ((fun p hp => N7 p (.tail _ hp)) _ (mth 2 rfl)).1 (show (94 : Nat) ≠ 1 from by decide)
    have ne_ll_df : Hold (@Ne Nat ll df) := Hold.mk <| neO ((fun p hp => N7 p (.tail _ hp)) _ (mth 2 rfl)).1 ((fun p hp => N7 p (.tail _ hp)) _ (.tail _ (.head _))).1 (show (1 : Nat) ≠ 1006 from by decide)
    have ne_df_ll : Hold (@Ne Nat df ll) := Hold.mk <| neO ((fun p hp => N7 p (.tail _ hp)) _ (.tail _ (.head _))).1 ((fun p hp => N7 p (.tail _ hp)) _ (mth 2 rfl)).1 (show (1006 : Nat) ≠ 1 from by decide)
    have F8 := exF x8 F7 (nm5 (Ne.symm ((fun p hp => N7 p (.tail _ hp)) _ (mth 2 rfl)).2.1) (Ne.symm ((fun p hp => N7 p (.tail _ hp)) _ (mth 3 rfl)).2.1) (Ne.symm ((fun p hp => N7 p (.tail _ hp)) _ (mth 4 rfl)).2.1) (Ne.symm ((fun p hp => N7 p (.tail _ hp)) _ (mth 5 rfl)).2.1) (Ne.symm ((fun p hp => N7 p (.tail _ hp)) _ (mth 6 rfl)).2.1)) (allC ((fun p hp => N7 p (.tail _ hp)) _ (mth 2 rfl)).2.2 (allC ((fun p hp => N7 p (.tail _ hp)) _ (mth 3 rfl)).2.2 (allC ((fun p hp => N7 p (.tail _ hp)) _ (mth 4 rfl)).2.2 (allC ((fun p hp => N7 p (.tail _ hp)) _ (mth 5 rfl)).2.2 (allC ((fun p hp => N7 p (.tail _ hp)) _ (mth 6 rfl)).2.2 allN)))))
    have N8 : News g L' s8.heap [(f, instObj 94 df), (df, dictOf (fmtEs H T0 wd tw tl (tk₁ + 1) (tk₁ + 1 + 1) ll x) kf), (ll, lst lvs' nl'), (x, accO dx vs' n'), (dx, dictOf [⟨hh, .str (Str.ofString "_initial_size") kt, .int 0 t'⟩] k), (140, tabO p1'), (147, tabO p2')] := (allC (exK x8 (fun p hp => N7 p (.tail _ hp)) (.head _) (nm5 ne_f_ll.out ne_f_x.out ne_f_dx.out ne_f_140.out ne_f_147.out)) (allC (exK x8 (fun p hp => N7 p (.tail _ hp)) (.tail _ (.head _)) (nm5 ne_df_ll.out ne_df_x.out ne_df_dx.out ne_df_140.out ne_df_147.out)) (allC (entH (fun p hp => N7 p (.tail _ hp)) (mth 2 rfl) e8) (allC (entH (fun p hp => N7 p (.tail _ hp)) (mth 3 rfl) a8) (allC (entH (fun p hp => N7 p (.tail _ hp)) (mth 4 rfl) d8) (allC (entH (fun p hp => N7 p (.tail _ hp)) (mth 5 rfl) g8) (allC (entH (fun p hp => N7 p (.tail _ hp)) (mth 6 rfl) v8) allN)))))))
    have og8 := OG.stepB (by assumption) x8
    have hI8 := exK x8 N7 (.head _) (nm5 (Ne.symm (offI _ (mth 2 rfl))) (Ne.symm (offI _ (mth 3 rfl))) (Ne.symm (offI _ (mth 4 rfl))) (Ne.symm (offI _ (mth 5 rfl))) (Ne.symm (offI _ (mth 6 rfl))))
    obtain ⟨us8, t8, u8, u8', hv8, ht8, hn8⟩ := hl8
    have htL : t8 ≠ L' := by
      obtain ⟨oL, _, _, q, _⟩ := F7.ns
      exact neNone hn8 q
    have htg : g.get? t8 = none := by
      cases q : g.get? t8 with
      | none => rfl
      | some o => rw [F7.keep _ _ q] at hn8; cases hn8
    have sa9 : StrsAre lvs' (foldF wd (wsl.take (i + 1))).1 := by rw [hfs]; exact sa8
    have pa9 : PartsAt s8.heap vs' (foldF wd (wsl.take (i + 1))).2 := by rw [hfs]; exact pa8
    clear F7 N7
    k_steps
    all_goals (try (with_reducible show Stop _; show wpAny _ _ _ _ _ _))
    refine hQp _ _ ?_
    dsimp only
    exact Hold.mk ⟨_, _, F8, allC hI8 N8, (allC (offI (f, instObj 94 df) (.head _)) (allC (offI (df, dictOf (fmtEs H T0 wd tw tl (tk₁ + 1) (tk₁ + 1 + 1) ll x) kf) (.tail _ (.head _))) (allC (offI (ll, lst lvs nl) (mth 2 rfl)) (allC (offI (x, accO dx vs n) (mth 3 rfl)) (allC (offI (dx, dictOf [⟨hh, .str (Str.ofString "_initial_size") kt, .int 0 t0⟩] k) (mth 4 rfl)) (allC (offI (140, tabO q1) (mth 5 rfl)) (allC (offI (147, tabO q2) (mth 6 rfl)) allN))))))), lvs', nl', vs', n', t', p1', p2', rfl, (if_neg (by decide)).trans (if_pos rfl), sa9, pa9, r8, r8', og8, fun _ => ⟨us8, t8, u8, u8', y, hv8, ht8, htL, htg, hy⟩⟩
  · rintro m' news' s₉ h9 tk9 hJ kT F9 N9
    obtain ⟨lvs, nl, vs, n, t0, q1, q2, rfl, hm, hls, hpa, hq1, hq2, og9, hlast⟩ := hJ
    have hwl : wvs.length = wsl.length := hws.len_eq
    obtain ⟨us, t, u₁, u₂, w₀, rfl, ht, htL, htg, hw₀⟩ := hlast (by rw [hwl]; exact fun e => hne (List.eq_nil_of_length_eq_zero e))
    rw [hwl, List.take_length] at hls hpa
    rw [hwl] at hw₀
    obtain ⟨w0s, hfl⟩ : ∃ w0s, (foldF wd wsl).2 = w0s ++ [w₀] := by
      have e : wsl = wsl.dropLast ++ [w₀] := by
        have e1 := List.dropLast_concat_getLast hne
        rw [List.getLast_eq_getElem, (List.getElem?_eq_some_iff.mp hw₀).2] at e1
        exact e1.symm
      rw [e, foldF_snoc]
      exact fold_last _ _ _
    have hsub := fold_sub wd wsl
    have hgw : GoodW w₀ := hgood w₀ (List.mem_of_getElem? hw₀)
    rw [hfl] at hpa hsub
    have hlw2 : (foldF wd wsl).1 ++ [spc (w0s ++ [w₀])] = lawLines wd wsl := by rw [lawLines, ← (fold_lines wd wsl).1, ← (fold_lines wd wsl).2, hfl]
    have hvl : (us ++ [Value.ref t]).length = (w0s ++ [w₀]).length := let ⟨_, _, _, e, _⟩ := hpa; e
    have hw2 : (spc wsl).length ≤ 101 * wsl.length := by rw [len_cpl]; exact spc_le wsl fun v hv => (hgood v hv).2.1
    have hjw : (((foldF wd wsl).1 ++ [spc (w0s ++ [w₀])]).map (·.length)).sum + ((foldF wd wsl).1 ++ [spc (w0s ++ [w₀])]).length ≤ 1048576 := by
      have e2 : ((foldF wd wsl).1 ++ [spc (w0s ++ [w₀])]).length = (foldF wd wsl).1.length + 1 := by simp
      rw [e2, hlw2, lawLines_weight]
      omega
    have hus : us.length < 300 := by simp at hvl; have := hsub.2.1; simp at this; omega
    have F9 := Fr_know (Str.ofString "formatter") F9 hm
    have hpm : PartsAt h9 (us ++ [.ref t]) (w0s ++ [w₀]) := hpa.move kT
    dsimp only
    k_steps
    all_goals (try (with_reducible show Stop _; show wpAny _ _ _ _ _ _))
    (rename Fr _ _ _ _ => F11)
    (try dsimp only)
    refine' str2_spec (w0s := w0s) (w₀ := w₀) (ls := (foldF wd wsl).1) ?B ?F ?X (allC (N9 _ (.head _)) (allC (N9 _ (.tail _ (.head _))) (allC (N9 _ (mth 2 rfl)) (allC (N9 _ (mth 3 rfl)) (allC (N9 _ (mth 4 rfl)) (allC (N9 _ (mth 5 rfl)) (allC (N9 _ (mth 6 rfl)) (allC ⟨kT _ _ _ ht, htL, htg⟩ allN)))))))) ?T ?hk ?hdp ?hun Mg hq1 hq2 hpm hus (fun v hv => (hgood v (hsub.1 v hv)).2.1) hls (by have := hsub.2.2; omega) hgw.1 hgw.ok hgw.space hjw ?_
    case B => first | assumption | k_asm
    case F => k_asm
    case X => first | assumption | k_asm
    case T => first | assumption | k_asm
    case hk => exact rfl
    case hdp => k_room
    case hun => k_room
    intro p1' p2' tk' s12 x12 g12 v12 r12 r12'
    rw [hlw2]
    have ne_x_f : Hold (@Ne Nat x f) := Hold.mk <| neO (N9 _ (mth 3 rfl)).1 (N9 _ (.head _)).1 (show (178 : Nat) ≠ 94 from by decide)
    have ne_f_x : Hold (@Ne Nat f x) := Hold.mk <| neO (N9 _ (.head _)).1 (N9 _ (mth 3 rfl)).1 (show (94 : Nat) ≠ 178 from by decide)
    have ne_x_df : Hold (@Ne Nat x df) := Hold.mk <| neO (N9 _ (mth 3 rfl)).1 (N9 _ (.tail _ (.head _))).1 (show (178 : Nat) ≠ 1006 from by decide)
    have ne_df_x : Hold (@Ne Nat df x) := Hold.mk <| neO (N9 _ (.tail _ (.head _))).1 (N9 _ (mth 3 rfl)).1 (show (1006 : Nat) ≠ 178 from by decide)
    have ne_x_ll : Hold (@Ne Nat x ll) := Hold.mk <| neO (N9 _ (mth 3 rfl)).1 (N9 _ (mth 2 rfl)).1 (show (178 : Nat) ≠ 1 from by decide)
    have ne_ll_x : Hold (@Ne Nat ll x) := Hold.mk <| neO (N9 _ (mth 2 rfl)).1 (N9 _ (mth 3 rfl)).1 (show (1 : Nat) ≠ 178 from by decide)
    have ne_x_dx : Hold (@Ne Nat x dx) := Hold.mk <| neO (N9 _ (mth 3 rfl)).1 (N9 _ (mth 4 rfl)).1 (show (178 : Nat) ≠ 1001 from by decide)
    have ne_dx_x : Hold (@Ne Nat dx x) := Hold.mk <| neO (N9 _ (mth 4 rfl)).1 (N9 _ (mth 3 rfl)).1 (show (1001 : Nat) ≠ 178 from by decide)
    have ne_x_140 : Hold (@Ne Nat x 140) := Hold.mk <| neO (N9 _ (mth 3 rfl)).1 (N9 _ (mth 5 rfl)).1 (show (178 : Nat) ≠ 2 from by decide)
    have ne_140_x : Hold (@Ne Nat 140 x) := Hold.mk <| neO (N9 _ (mth 5 rfl)).1 (N9 _ (mth 3 rfl)).1 (show (2 : Nat) ≠ 178 from by decide)
    have ne_x_147 : Hold (@Ne Nat x 147) := Hold.mk <| neO (N9 _ (mth 3 rfl)).1 (N9 _ (mth 6 rfl)).1 (show (178 : Nat) ≠ 2 from by decide)
    have ne_147_x : Hold (@Ne Nat 147 x) := Hold.mk <| neO (N9 _ (mth 6 rfl)).1 (N9 _ (mth 3 rfl)).1 (show (2 : Nat) ≠ 178 from by decide)
    have ne_140_f : Hold (@Ne Nat 140 f) := Hold.mk <| neO (N9 _ (mth 5 rfl)).1 (N9 _ (.head _)).1 (show (2 : Nat) ≠ 94 from by decide)
    have ne_f_140 : Hold (@Ne Nat f 140) := Hold.mk <| neO (N9 _ (.head _)).1 (N9 _ (mth 5 rfl)).1 (show (94 : Nat) ≠ 2 from by decide)
    have ne_140_df : Hold (@Ne Nat 140 df) := Hold.mk <| neO (N9 _ (mth 5 rfl)).1 (N9 _ (.tail _ (.head _))).1 (show (2 : Nat) ≠ 1006 from by decide)
    have ne_df_140 : Hold (@Ne Nat df 140) := Hold.mk <| neO (N9 _ (.tail _ (.head _))).1 (N9 _ (mth 5 rfl)).1 (show (1006 : Nat) ≠ 2 from by decide)
    have ne_140_ll : Hold (@Ne Nat 140 ll) := Hold.mk <| neO (N9 _ (mth 5 rfl)).1 (N9 _ (mth 2 rfl)).1 (show (2 : Nat) ≠ 1 from by decide)
    have ne_ll_140 : Hold (@Ne Nat ll 140) := Hold.mk <| neO (N9 _ (mth 2 rfl)).1 (N9 _ (mth 5 rfl)).1 (show (1 : Nat) ≠ 2 from by decide)
    have ne_140_dx : Hold (@Ne Nat 140 dx) := Hold.mk <| neO (N9 _ (mth 5 rfl)).1 (N9 _ (mth 4 rfl)).1 (show (2 : Nat) ≠ 1001 from by decide)
    have ne_dx_140 : Hold (@Ne Nat dx 140) := Hold.mk <| neO (N9 _ (mth 4 rfl)).1 (N9 _ (mth 5 rfl)).1 (show (1001 : Nat) ≠ 2 from by decide)
    have ne_147_f : Hold (@Ne Nat 147 f) := Hold.mk <| neO (N9 _ (mth 6 rfl)).1 (N9 _ (.head _)).1 (show (2 : Nat) ≠ 94 from by decide)
    have ne_f_147 : Hold (@Ne Nat f 147) := Hold.mk <| neO (N9 _ (.head _)).1 (N9 _ (mth 6 rfl)).1 (show (94 : Nat) ≠ 2 from by decide)
    have ne_147_df : Hold (@Ne Nat 147 df) := Hold.mk <| neO (N9 _ (mth 6 rfl)).1 (N9 _ (.tail _ (.head _))).1 (show (2 : Nat) ≠ 1006 from by decide)
    have ne_df_147 : Hold (@Ne Nat df 147) := Hold.mk <| neO (N9 _ (.tail _ (.head _))).1 (N9 _ (mth 6 rfl)).1 (show (1006 : Nat) ≠ 2 from by decide)
    have ne_147_ll : Hold (@Ne Nat 147 ll) := Hold.mk <| neO (N9 _ (mth 6 rfl)).1 (N9 _ (mth 2 rfl)).1 (show (2 : Nat) ≠ 1 from by decide)
    have ne_ll_147 : Hold (@Ne Nat ll 147) := Hold.mk <| neO (N9 _ (mth 2 rfl)).1 (N9 _ (mth 6 rfl)).1 (show (1 : Nat) ≠ 2 from by decide)
    have ne_147_dx : Hold (@Ne Nat 147 dx) := Hold.mk <| neO (N9 _ (mth 6 rfl)).1 (N9 _ (mth 4 rfl)).1 (show (2 : Nat) ≠ 1001 from by decide)
    have ne_dx_147 : Hold (@Ne Nat dx 147) := Hold.mk <| neO (N9 _ (mth 4 rfl)).1 (N9 _ (mth 6 rfl)).1 (show (1001 : Nat) ≠ 2 from by decide)
    have ne_dx_f : Hold (@Ne Nat dx f) := Hold.mk <| neO (N9 _ (mth 4 rfl)).1 (N9 _ (.head _)).1 (show (1001 : Nat) ≠ 94 from by decide)
    have ne_f_dx : Hold (@Ne Nat f dx) := Hold.mk <| neO (N9 _ (.head _)).1 (N9 _ (mth 4 rfl)).1 (show (94 : Nat) ≠ 1001 from by decide)
    have ne_dx_df : Hold (@Ne Nat dx df) := Hold.mk <| neO (N9 _ (mth 4 rfl)).1 (N9 _ (.tail _ (.head _))).1 (show (1001 : Nat) ≠ 1006 from by decide)
    have ne_df_dx : Hold (@Ne Nat df dx) := Hold.mk <| neO (N9 _ (.tail _ (.head _))).1 (N9 _ (mth 4 rfl)).1 (show (1006 : Nat) ≠ 1001 from by decide)
    have ne_dx_ll : Hold (@Ne Nat dx ll) := Hold.mk <| neO (N9 _ (mth 4 rfl)).1 (N9 _ (mth 2 rfl)).1 (show (1001 : Nat) ≠ 1 from by decide)
    have ne_ll_dx : Hold (@Ne Nat ll dx) := Hold.mk <| neO (N9 _ (mth 2 rfl)).1 (N9 _ (mth 4 rfl)).1 (show (1 : Nat) ≠ 1001 from by decide)
    have ne_ll_f : Hold (@Ne Nat ll f) := Hold.mk <| neO (N9 _ (mth 2 rfl)).1 (N9 _ (.head _)).1 (show (1 : Nat) ≠ 94 from by decide)
    have ne_f_ll : Hold (@Ne Nat f ll) := Hold.mk <| neO (N9 _ (.head _)).1 (N9 _ (mth 2 rfl)).1 (show (94 : Nat) ≠ 1 from by decide)
    have ne_ll_df : Hold (@Ne Nat ll df) := Hold.mk <| neO (N9 _ (mth 2 rfl)).1 (N9 _ (.tail _ (.head _))).1 (show (1 : Nat) ≠ 1006 from by decide)
    have ne_df_ll : Hold (@Ne Nat df ll) := Hold.mk <| neO (N9 _ (.tail _ (.head _))).1 (N9 _ (mth 2 rfl)).1 (show (1006 : Nat) ≠ 1 from by decide)
    have F12 := exF x12 F11 (nm5 (Ne.symm (N9 _ (mth 2 rfl)).2.1) (Ne.symm (N9 _ (mth 3 rfl)).2.1) (Ne.symm (N9 _ (mth 4 rfl)).2.1) (Ne.symm (N9 _ (mth 5 rfl)).2.1) (Ne.symm (N9 _ (mth 6 rfl)).2.1)) (allC (N9 _ (mth 2 rfl)).2.2 (allC (N9 _ (mth 3 rfl)).2.2 (allC (N9 _ (mth 4 rfl)).2.2 (allC (N9 _ (mth 5 rfl)).2.2 (allC (N9 _ (mth 6 rfl)).2.2 allN)))))
    have N12 : News g L' s12.heap [(f, instObj 94 df), (df, dictOf (fmtEs H T0 wd tw tl (tk₁ + 1) (tk₁ + 1 + 1) ll x) kf), (140, tabO p1'), (147, tabO p2')] := (allC (exK x12 N9 (.head _) (nm5 ne_f_ll.out ne_f_x.out ne_f_dx.out ne_f_140.out ne_f_147.out)) (allC (exK x12 N9 (.tail _ (.head _)) (nm5 ne_df_ll.out ne_df_x.out ne_df_dx.out ne_df_140.out ne_df_147.out)) (allC (entH N9 (mth 5 rfl) g12) (allC (entH N9 (mth 6 rfl) v12) allN))))
    have og12 := OG.stepB (by assumption) x12
    clear F11 N9
    show W.StrBack _ _ _
    dsimp only [W.StrBack]
    k_steps
    all_goals (try (with_reducible show Stop _; show wpAny _ _ _ _ _ _))
    refine splitN1A (hsz := ?hsz) F12 N12 (by first | rfl | assumption) ?_
    case hsz =>
      have z := join_len (lawLines wd wsl)
      have e2 : (lawLines wd wsl).length = (foldF wd wsl).1.length + 1 := by rw [← hlw2]; simp
      rw [lawLines_weight, e2] at z
      have z2 := hsub.2.2
      exact Nat.le_trans (by omega : _ ≤ 1048576) (by decide +kernel : 1048576 ≤ sizeLine)
    intro l13 h13 k13 e13 sa13 _ _ F13 N13
    rw [split_lines wd wsl hgood] at e13
    k_steps
    all_goals (try (with_reducible show Stop _; show wpAny _ _ _ _ _ _))
    refine hQo _ _ ?_
    exact ret _ p1' p2' _ (extOut2 Kg F13.keep N (allC (.inl (.head _)) (allC (.inl (.tail _ (.head _))) allN)) rfl og12) ⟨_, _, (N13 _ (.head _)).1, e13 ▸ sa13⟩ (newOut4 Kg (N13 _ (.head _)).2.2 (allC (fun e => by have z := (N13 _ (mth 3 rfl)).1; rw [show (140 : Nat) = _ from e, (N13 _ (.head _)).1] at z; cases z) (allC (fun e => by have z := (N13 _ (mth 4 rfl)).1; rw [show (147 : Nat) = _ from e, (N13 _ (.head _)).1] at z; cases z) allN))) (N13 _ (mth 3 rfl)).1 (N13 _ (mth 4 rfl)).1 r12 r12'
end
end
-- A23
section
open PySem PySem.W PySem.Spec PySem.Calls PyProof.Rows
set_option maxRecDepth 100000
set_option maxHeartbeats 4000000
/-- the addresses of the frames of a stack -/
def frs (l : List Env) : List Addr := l.filterMap (·.frame)
/-- kept, but what stands at as; the frames at fs may have other slots -/
structure ExtS (fs as : List Addr) (s s' : Shared) : Prop where
  heap : ∀ b o, b ∉ as → s.heap.get? b = some o → (∃ sl, s'.heap.get? b = some { o with slots := sl }) ∧ (b ∉ fs → s'.heap.get? b = some o)
  os : s'.os = s.os
  gens : AllBare s.gens → AllBare s'.gens
theorem ExtBut.toS {as fs : List Addr} {s s' : Shared} (x : ExtBut as s s') : ExtS fs as s s' := ⟨fun b o hb e => ⟨⟨o.slots, x.heap b o hb e⟩, fun _ => x.heap b o hb e⟩, x.os, x.gens⟩
theorem OG.stepS {s s₁ s₂ : Shared} {fs as : List Addr} (og : OG s s₁.os s₁.gens) (x : ExtS fs as s₁ s₂) : OG s s₂.os s₂.gens := ⟨x.os.trans og.1, fun g => x.gens (og.2 g)⟩
theorem slotsEx {h : Heap} : ∀ (as : List Addr) (g : Heap), (∀ a ∈ as, ∀ o, g.get? a = some o → ∃ sl, h.get? a = some { o with slots := sl }) →
    ∃ g', Heap.SlotsOnly as g g' ∧ (∀ a ∈ as, ∀ o, g'.get? a = some o → h.get? a = some o) ∧ ∀ b, g.get? b = none → g'.get? b = none
  | [], g, _ => ⟨g, Heap.SlotsOnly.refl _ g, (fun a hm => nomatch hm), fun _ e => e⟩
  | a :: r, g, hs => by
    obtain ⟨g₁, S₁, k₁, n₁⟩ := slotsEx (h := h) r g fun a' hm => hs a' (.tail _ hm)
    have S₂ := S₁.mono (T := a :: r) fun b hb => .tail _ hb
    cases e : g.get? a with
    | none =>
      refine ⟨g₁, S₂, fun a' hm o ho => ?_, n₁⟩
      rcases List.mem_cons.mp hm with rfl | hm
      · rw [n₁ _ e] at ho; cases ho
      · exact k₁ a' hm o ho
    | some o =>
      obtain ⟨sl₁, e₁⟩ := S₁.2.2 a o e
      obtain ⟨sl, hh⟩ := hs a (.head _) o e
      have S₃ := Heap.SlotsOnly.update e₁ (fun _ => sl)
      have e₃ : (g₁.update a fun o => { o with slots := sl }).get? a = some { o with slots := sl } := by
        obtain ⟨sl', z⟩ := S₃.2.2 a _ e₁
        refine (Heap.get?_update_self (o := { o with slots := sl₁ }) (fun o => { o with slots := sl }) e₁ ?_)
        have hx := (Heap.get?_some_iff.mp e₁).2
        obtain ⟨c, d, dt, s0⟩ := o
        cases dt <;> first | rfl | (simp [Obj.isFreed] at hx)
      refine ⟨_, S₂.trans (S₃.mono fun b hb => by rw [List.mem_singleton.mp hb]; exact .head _), fun a' hm o' ho => ?_, fun b hb => ?_⟩
      · by_cases q : a' = a
        · rw [q, e₃] at ho
          rw [q, hh, Option.some.inj ho]
        · rw [S₃.2.1 a' (fun z => q (List.mem_singleton.mp z))] at ho
          rcases List.mem_cons.mp hm with rfl | hm
          · exact absurd rfl q
          · exact k₁ a' hm o' ho
      · have q : b ≠ a := fun q => by rw [q, e] at hb; cases hb
        rw [S₃.2.1 b (fun z => q (List.mem_singleton.mp z))]
        exact n₁ b hb
/-- the same view of the heap behind a call that has changed frames' slots -/
structure ReG (outer : List Env) (g g' : Heap) : Prop where
  slots : Heap.SlotsOnly (frs outer) g g'
  none : ∀ b, g.get? b = none → g'.get? b = none
theorem ReG.refl (outer : List Env) (g : Heap) : ReG outer g g := ⟨Heap.SlotsOnly.refl _ g, fun _ e => e⟩
theorem ReG.trans {outer : List Env} {a b c : Heap} (x : ReG outer a b) (y : ReG outer b c) : ReG outer a c := ⟨x.slots.trans y.slots, fun _ e => y.none _ (x.none _ e)⟩
theorem reG {A : Around} {base g h h' : Heap} {outer : List Env} {L : Addr} {m : Str → Option Value} {as : List Addr} (K : Below A base outer g) (F : Fr g L h m)
    (hx : ∀ b o, b ∉ as → h.get? b = some o → (∃ sl, h'.get? b = some { o with slots := sl }) ∧ (b ∉ L :: frs outer → h'.get? b = some o))
    (hL : L ∉ as) (ha : ∀ a ∈ as, g.get? a = none) :
    ∃ g', ReG outer g g' ∧ Below A base outer g' ∧ Fr g' L h' m ∧ (∀ b o, base.get? b = some o → g'.get? b = some o) ∧
      ∀ p : Addr × Obj, h.get? p.1 = some p.2 → p.1 ≠ L → g.get? p.1 = none → p.1 ∉ as → Ent g' L h' p := by
  have hno : ∀ b o, g.get? b = some o → b ≠ L := fun b o e => Nat.ne_of_lt (Nat.lt_of_lt_of_le (Heap.lt_size e) F.above)
  have hna : ∀ b o, g.get? b = some o → b ∉ as := fun b o e hm => by rw [ha b hm] at e; cases e
  obtain ⟨g', S, k, n⟩ := slotsEx (h := h') (frs outer) g fun a _ o e => (hx a o (hna a o e) (F.keep _ _ e)).1
  have up : ∀ b o, g'.get? b = some o → h'.get? b = some o := fun b o e => by
    by_cases hm : b ∈ frs outer
    · exact k b hm o e
    · rw [S.2.1 b hm] at e
      refine (hx b o (hna b o e) (F.keep _ _ e)).2 fun hm' => ?_
      rcases List.mem_cons.mp hm' with rfl | hm'
      · exact hno _ _ e rfl
      · exact hm hm'
  have bs : ∀ b o, base.get? b = some o → g'.get? b = some o := fun b o e => by
    rw [S.2.1 b fun hm => by rw [(K.frames.mem hm).1] at e; cases e]
    exact K.stays _ _ e
  refine ⟨g', ⟨S, n⟩, ⟨K.stack, bs, K.frames.of_slotsOnly S⟩, ⟨?_, up, Nat.le_trans (Nat.le_of_eq S.1) F.above⟩, bs, fun p hp hpL hpn hpa => ⟨?_, hpL, n _ hpn⟩⟩
  · obtain ⟨o, es, ep, ho, hd, r⟩ := F.ns
    obtain ⟨sl, e⟩ := (hx L o hL ho).1
    exact ⟨_, es, ep, e, hd, r⟩
  · refine (hx _ _ hpa hp).2 fun hm => ?_
    rcases List.mem_cons.mp hm with q | hm
    · exact hpL q
    · obtain ⟨o, e, _⟩ := (K.frames.mem hm).2
      rw [hpn] at e; cases e
section
variable {prog : Program} {w : World} {A₀ : Around} {E : Value → Shared → Prop} {s' : Shared} {base g h : Heap} {outer : List Env} {L a e : Addr} {m : Str → Option Value} {name : Str} {scope : Scope} {cd : Value}
  {b₀ : Stmt} {suite : List Stmt} {pos np : Pos} {rest : List ExceptHandler} {Q : Flow → Shared → Prop} {news : List (Addr × Obj)}
  {p : Program} {loose : List Str} {mg mb : Str → Option Value} {x : Str} {X T' : String}
/-- a new exception of this very frame, caught here by a built-in name -/
theorem caught_here (K : Below A₀ base outer g) (F : Fr g L h m) (N : News g L h news) (hx : Heap.NewExc h s'.heap e X)
    (T : TopRead p loose mg mb base) (hfree : mg x = none) (hv : bootBuiltins x = some (.type T')) (hn : x ≠ "__name__")
    (hexc : isSubtype (.type T') (.type "BaseException") = pure true) (hnt : isSubtype (.type ((Manifest.find? T').elim "type" fun y => y.metatype)) (.type "tuple") = pure false) (hsub : isSubtype (.type X) (.type T') = pure true)
    (k : ∀ g' h', ReG outer g g' → Below A₀ base outer g' → Fr g' L h' m → News g' L h' news → (∀ b o, base.get? b = some o → g'.get? b = some o) →
      wpAny (model prog w) ((A₀.deeper (envOf name scope L a cd)).mark (some (.ref e))) (execs (b₀ :: suite) (envOf name scope L a cd)) Q E { s' with heap := h' })
    (hk : scope.kind = .function := by rfl) (hxk : (envOf name scope L a cd).kindOf x = some .globalImplicit := by rfl) (hd : (x == ("__debug__" : Str)) = false := by decide)
    (hE : PassesOwnAt (model prog w) ((A₀.deeper (envOf name scope L a cd)).mark (some (.ref e))) (A₀.deeper (envOf name scope L a cd)) (envOf name scope L a cd) E := by passes_own) :
    wpAny (model prog w) (A₀.deeper (envOf name scope L a cd)) (noteFrame (.ref e) (envOf name scope L a cd))
      (fun _ s₂ => wpAny (model prog w) (A₀.deeper (envOf name scope L a cd)) (setFlight (.ref e) none) (fun _ s₃ =>
        wpAny (model prog w) (A₀.deeper (envOf name scope L a cd)) (handleBy (.ref e) (envOf name scope L a cd) (.ExceptHandler (some (.Name x np)) none (b₀ :: suite) pos :: rest)) Q E s₃) E s₂) E s' := by
  have K' := K.push (name := name) (a := a) (cd := cd) F hk
  have hin : ∀ env ∈ (envOf name scope L a cd :: outer), ∀ b, env.frame = some b → b ∈ (envOf name scope L a cd :: outer).filterMap (·.frame) := fun env he b hb => List.mem_filterMap.mpr ⟨env, he, hb⟩
  obtain ⟨ob, tp, he, hcls, hd'⟩ := hx.there
  have hen : (hideAll h ((envOf name scope L a cd :: outer).filterMap (·.frame))).get? e = none := by
    cases q : (hideAll h ((envOf name scope L a cd :: outer).filterMap (·.frame))).get? e with
    | none => rfl
    | some o => have := of_hideAll _ q; rw [hx.new] at this; cases this
  have hne : ∀ vs, ob.data = .fields vs → e ∉ (envOf name scope L a cd :: outer).filterMap (·.frame) := fun vs hv hm => by
    obtain ⟨o, q, _⟩ := (K'.frames.mem hm).2
    rw [hx.new] at q; cases q
  unfold noteFrame
  simp only [show (envOf name scope L a cd).frame = some L from rfl]
  refine wpAny_bind (wpAny_field he hd' (x := .none) rfl ?_)
  rw [if_neg (by decide)]
  refine wpAny_entryW (a0 := tp) K'.stack ((funFrames_hide K'.frames hin).of_keeps fun b o hb _ => ⟨o, hx.keeps b o hb, rfl⟩) rfl he (fun b o hb => hx.keeps b o (of_hideAll _ hb)) hen hd' (by show 1 < 6; decide) rfl fun h₄ hN => ?_
  obtain ⟨k1, k2, k3, k4⟩ := hN
  rw [hcls] at k3
  have hheld₄ : Heap.HeldW (hideAll h ((envOf name scope L a cd :: outer).filterMap (·.frame))) (envOf name scope L a cd :: outer) e (.type X) tp L h₄ := ⟨k1, hen, k2, k3⟩
  have hsm₄ : h.UpToSlots h₄ := (Heap.UpToSlots.of_keeps hx.keeps).trans k4
  refine wpAny_landsW hheld₄ fun h₅ hheld₅ hsm₅ => ?_
  have re : ∀ h₆, Heap.StaysIn (hideAll h ((envOf name scope L a cd :: outer).filterMap (·.frame))) h₆ → h.UpToSlots h₆ → ∃ g', ReG outer g g' ∧ Below A₀ base outer g' ∧ Fr g' L h₆ m ∧ (∀ b o, base.get? b = some o → g'.get? b = some o) ∧ News g' L h₆ news := by
    intro h₆ st up
    obtain ⟨g', a1, a2, a3, a4, a5⟩ := reG (as := []) (h' := h₆) K F (fun b o _ eb => by
      by_cases hm : b ∈ (envOf name scope L a cd :: outer).filterMap (·.frame)
      · obtain ⟨o', q, r⟩ := (K'.frames.mem hm).2
        rw [eb] at q
        cases q
        exact ⟨up b o eb r, fun hn => absurd hm hn⟩
      · have z := st b o (hideAll_get _ eb hm)
        exact ⟨⟨o.slots, z⟩, fun _ => z⟩) (fun h => nomatch h) (fun _ h => nomatch h)
    exact ⟨g', a1, a2, a3, a4, fun p hp => a5 p (N p hp).1 (N p hp).2.1 (N p hp).2.2 (fun h => nomatch h)⟩
  obtain ⟨g₅, _, _, F₅, b₅, _⟩ := re h₅ hheld₅.1 (hsm₄.trans hsm₅)
  have T₅ := T.keeps b₅
  obtain ⟨ob', hob, hobc⟩ := hheld₅.there
  refine wpAny_handleBy_builtin (X := X) (T := T') (b := true) hexc hnt hsub (ld_builtin_at F₅ T₅.g hfree T₅.b ((T.builtins x hn).trans hv) ⟨rfl, ⟨ob', hob, hobc⟩, ?_⟩ hk hxk hd)
  refine lands_againW hheld₅ fun h₆ hfl₆ hsm₆ => ?_
  obtain ⟨g', a1, a2, a3, a4, a5⟩ := re h₆ hfl₆.1 ((hsm₄.trans hsm₅).trans hsm₆)
  exact wpAny_passesOwnAt hE (k g' h₆ a1 a2 a3 a5 a4)
/-- a while by an invariant over the state -/
theorem whileS {A : Around} {s : Shared} {env : Env} {test : Expr} {body : List Stmt} {pos : Pos} (J : Nat → Shared → Prop) (n₀ : Nat) (hJ : J n₀ s)
    (turn : ∀ n s₁, J n s₁ → wpAny (model prog w) A (isTrue test env (eval test env)) (fun b s₂ =>
        if b = true then wpAny (model prog w) A (execs body env) (fun f s₃ => match f with
          | .brk => Q .next s₃
          | .ret v => Q (.ret v) s₃
          | _ => Hold (∃ n', n' < n ∧ J n' s₃)) E s₂ else Q .next s₂) E s₁)
    (hE : PassesOwn (model prog w) A env E) :
    wpAny (model prog w) A (exec (.While test body [] pos) env) Q E s := by
  refine wpAny_While (codeAny_whileLoop J ?_ n₀ hJ)
  intro n s₁ J₁
  refine wpAny_mono (turn n s₁ J₁) (fun b s₂ h₂ => ?_) hE
  cases b with
  | false =>
    simp only [Bool.false_eq_true, if_false] at h₂ ⊢
    exact wpAny_execs_nil h₂
  | true =>
    simp only [if_true] at h₂ ⊢
    refine wpAny_mono h₂ (fun f s₃ h₃ => ?_) hE
    cases f with
    | next => exact h₃.out
    | cont => exact h₃.out
    | brk => exact h₃
    | ret v => exact h₃
end
end
section
-- A24
section
open PySem PySem.W PySem.Spec PySem.Calls PyProof.Rows
set_option maxRecDepth 100000
set_option maxHeartbeats 3000000
local macro_rules | `(tactic| walk_at "call builtin:list.append cons nil") => `(tactic| refine Stop.mk ?_)
local macro_rules | `(tactic| walk_at "exec While Name cons nil") => `(tactic| refine Stop.mk ?_)
local macro_rules | `(tactic| walk_at "exec While Constant cons nil") => `(tactic| refine Stop.mk ?_)
local macro_rules | `(tactic| walk_at "exec While Compare cons nil") => `(tactic| refine Stop.mk ?_)
theorem strs_snocE {vs : List Value} {ys : List Str} {y : Str} (h : StrsAre vs (ys ++ [y])) : ∃ vi t, vs = vi ++ [.str y t] ∧ StrsAre vi ys := by
  rcases PyProof.Rows.strs_nil_or_snoc h with ⟨_, e⟩ | ⟨vi, yi, y', t, rfl, e, h'⟩
  · simp at e
  · obtain ⟨rfl, e⟩ := List.append_inj' e rfl
    rw [(List.cons.inj (List.append_cancel_left e)).1]
    exact ⟨vi, t, rfl, h'⟩
noncomputable def unS (st : List Str × List Str) (e : Str) : List Str × List Str := if e ∈ st.2 then (st.1, st.2.erase e) else (st.1 ++ [e], st.2)
noncomputable def unF (es as : List Str) : List Str × List Str := es.reverse.foldl unS ([], as)
theorem unF_drop (es as : List Str) (n : Nat) (y : Str) (h : es[n]? = some y) : unF (es.drop n) as = unS (unF (es.drop (n + 1)) as) y := by
  obtain ⟨hn, e⟩ := List.getElem?_eq_some_iff.mp h
  unfold unF
  rw [List.drop_eq_getElem_cons hn, List.reverse_cons, List.foldl_append, e]
  rfl
theorem unS_len (st : List Str × List Str) (e : Str) : (unS st e).1.length ≤ st.1.length + 1 ∧ (unS st e).2.length ≤ st.2.length := by
  unfold unS
  split
  · exact ⟨Nat.le_succ _, by rw [List.length_erase]; split <;> simp <;> omega⟩
  · exact ⟨by simp, Nat.le_refl _⟩
theorem unFold_len : ∀ (l : List Str) (st : List Str × List Str), (l.foldl unS st).1.length ≤ st.1.length + l.length ∧ (l.foldl unS st).2.length ≤ st.2.length
  | [], st => ⟨Nat.le_refl _, Nat.le_refl _⟩
  | e :: l, st => by
    have a := unS_len st e
    have b := unFold_len l (unS st e)
    rw [List.foldl_cons]
    exact ⟨by simp; omega, by omega⟩
theorem unF_len (es as : List Str) : (unF es as).1.length ≤ es.length ∧ (unF es as).2.length ≤ as.length := by
  have z := unFold_len es.reverse ([], as)
  simpa [unF] using z
theorem erase_strs (y : Str) : ∀ {vs : List Value} {ws : List Str}, StrsAre vs ws → y ∈ ws → ∃ j, ∃ hj : j < vs.length, isStrOf y vs[j] = true ∧ (∀ k (hk : k < vs.length), k < j → isStrOf y vs[k] = false) ∧ StrsAre (vs.eraseIdx j) (ws.erase y)
  | _, _, .nil, hm => nomatch hm
  | _, _, .cons (vs := vs) (ys := ws) x t h, hm => by
    by_cases e : x = y
    · subst e
      refine ⟨0, Nat.succ_pos _, by simp [isStrOf], fun k _ hk => absurd hk (Nat.not_lt_zero _), ?_⟩
      simpa using h
    · have hm' : y ∈ ws := by
        rcases List.mem_cons.mp hm with q | q
        · exact absurd q.symm e
        · exact q
      obtain ⟨j, hj, a, b, c⟩ := erase_strs y h hm'
      refine ⟨j + 1, Nat.succ_lt_succ hj, by simpa using a, fun k hk hkj => ?_, ?_⟩
      · cases k with
        | zero => simp [isStrOf, e]
        | succ k => exact b k (Nat.lt_of_succ_lt_succ hk) (Nat.lt_of_succ_lt_succ hkj)
      · rw [List.eraseIdx_cons_succ, List.erase_cons_tail (by simpa using e)]
        exact .cons x t c
section
variable {prog : Program} {w : World} {A : Around} {E : Value → Shared → Prop} {s : Shared} {h₀ : Heap} {L D : Addr} {m : Str → Option Value} {pre post : List (Addr × Obj)} {vs : List Value} {ws : List Str} {n : Nat} {y : Str} {t : Tok}
theorem lst_remove {Q : Value → Shared → Prop} (F : Fr h₀ L s.heap m) (N : News h₀ L s.heap (pre ++ (D, lst vs n) :: post)) (a : ∀ p ∈ pre, p.1 ≠ D) (b : ∀ p ∈ post, p.1 ≠ D) (hs : StrsAre vs ws) (hm : y ∈ ws) (hz : vs.length ≤ 1000)
    (h : ∀ vs' h', StrsAre vs' (ws.erase y) → Fr h₀ L h' m → News h₀ L h' (pre ++ (D, lst vs' (n + 1)) :: post) → Q .none { s with heap := h' }) : wpAny (model prog w) A (call (.builtin "list.remove") [.ref D, .str y t]) Q E s := by
  obtain ⟨j, hj, e1, e2, e3⟩ := erase_strs y hs hm
  have z := N (D, lst vs n) (List.mem_append.mpr (.inr (.head _)))
  have hz' : vs.toArray.size ≤ sizeLine := by rw [List.size_toArray]; exact Nat.le_trans hz (by decide +kernel : 1000 ≤ sizeLine)
  have hz2 : 1000 ≤ sizeLine := by decide +kernel
  refine call_meets PySem.F.slot_list_remove ⟨_, z.1, rfl⟩ PySem.F.entry_list_remove (PySem.F.args_list_remove_2 _ _)
    (MeetsSeq.list_remove D vs.toArray n (.str y t) (isStrOf y) (fun x hx => eq_isStrOf y t hs x (by simpa using hx)) j (by simpa using hj) (by simpa using e1) (fun i hi hlt => by simpa using e2 i (by simpa using hi) hlt) hz')
    ⟨z.1, h (vs.eraseIdx j) _ e3 (F.change (Heap.SameBut.update ..) z.2.1 z.2.2) (ki_turn _ N a b ?_ ?_)⟩
  · show vs.toArray.eraseIdxIfInBounds j = (vs.eraseIdx j).toArray
    apply Array.toList_inj.mp
    simp [Array.toList_eraseIdxIfInBounds]
  · have hq : (vs.eraseIdx j).toArray.size ≠ vs.toArray.size := by rw [List.size_toArray, List.size_toArray, List.length_eraseIdx, if_pos hj]; omega
    rw [if_neg (by simpa using hq)]
theorem lst_remove_none {Q : Value → Shared → Prop} (N : News h₀ L s.heap (pre ++ (D, lst vs n) :: post)) (hs : StrsAre vs ws) (hm : y ∉ ws) (hh : A.handled = none)
    (h : ∀ h' tk e, Heap.NewExc s.heap h' e "ValueError" → E (.ref e) { s with heap := h', toks := tk }) : wpAny (model prog w) A (call (.builtin "list.remove") [.ref D, .str y t]) Q E s := by
  have z := N (D, lst vs n) (List.mem_append.mpr (.inr (.head _)))
  refine call_meets PySem.F.slot_list_remove ⟨_, z.1, rfl⟩ PySem.F.entry_list_remove (PySem.F.args_list_remove_2 _ _)
    (MeetsSeq.list_remove_none D vs.toArray n (.str y t) (isStrOf y) (fun x hx => eq_isStrOf y t hs x (by simpa using hx)) (fun i hi => ?_)) ⟨z.1, hh, h⟩
  have z := any_isStrOf y hs
  have z2 : ws.any (· == y) = false := by
    rw [List.any_eq_false]
    intro x hx q
    exact hm (eq_of_beq q ▸ hx)
  rw [z2, List.any_eq_false] at z
  have := z vs.toArray[i] (by simp)
  simpa using this
theorem lst_append {Q : Value → Shared → Prop} {v : Value} (F : Fr h₀ L s.heap m) (N : News h₀ L s.heap (pre ++ (D, lst vs n) :: post)) (a : ∀ p ∈ pre, p.1 ≠ D) (b : ∀ p ∈ post, p.1 ≠ D) (hz : vs.length ≤ 1000)
    (h : ∀ h', Fr h₀ L h' m → News h₀ L h' (pre ++ (D, lst (vs ++ [v]) (n + 1)) :: post) → Q .none { s with heap := h' }) : wpAny (model prog w) A (call (.builtin "list.append") [.ref D, v]) Q E s := by
  have z := N (D, lst vs n) (List.mem_append.mpr (.inr (.head _)))
  have hz' : vs.toArray.size ≤ sizeLine := by rw [List.size_toArray]; exact Nat.le_trans hz (by decide +kernel : 1000 ≤ sizeLine)
  refine call_meets PySem.F.slot_list_append ⟨_, z.1, rfl⟩ PySem.F.entry_list_append (PySem.F.args_list_append_2 _ _) (PySem.list_append D vs.toArray n v hz') ⟨z.1, h _ (F.change (Heap.SameBut.update ..) z.2.1 z.2.2) (ki_turn _ N a b ?_ ?_)⟩
  · show vs.toArray.push v = (vs ++ [v]).toArray
    simp
  · have hq : (vs ++ [v]).toArray.size ≠ vs.toArray.size := by rw [List.size_toArray, List.size_toArray, List.length_append]; simp
    rw [if_neg (by simpa using hq)]
theorem lst_pop {Q : Value → Shared → Prop} {v : Value} (F : Fr h₀ L s.heap m) (N : News h₀ L s.heap (pre ++ (D, lst (vs ++ [v]) n) :: post)) (a : ∀ p ∈ pre, p.1 ≠ D) (b : ∀ p ∈ post, p.1 ≠ D) (hz : vs.length < 1000)
    (h : ∀ h', Fr h₀ L h' m → News h₀ L h' (pre ++ (D, lst vs (n + 1)) :: post) → Q v { s with heap := h' }) : wpAny (model prog w) A (call (.builtin "list.pop") [.ref D]) Q E s := by
  have z := N (D, lst (vs ++ [v]) n) (List.mem_append.mpr (.inr (.head _)))
  have hz' : (vs ++ [v]).toArray.size ≤ sizeLine := by
    rw [List.size_toArray, List.length_append]
    exact Nat.le_trans (Nat.succ_le_of_lt hz) (by decide +kernel : 1000 ≤ sizeLine)
  have hk : (vs ++ [v]).toArray.size - 1 = vs.length := by rw [List.size_toArray, List.length_append]; rfl
  have hy : (vs ++ [v]).toArray[(vs ++ [v]).toArray.size - 1]? = some v := by rw [hk]; simp
  refine call_meets PySem.F.slot_list_pop ⟨_, z.1, rfl⟩ PySem.F.entry_list_pop (PySem.F.args_list_pop_1 _) (PySem.MeetsSeq.list_pop_last D _ n v hy hz') ⟨z.1, h _ (F.change (Heap.SameBut.update ..) z.2.1 z.2.2) (kl_turn _ N a b ?_ ?_)⟩
  · show (vs ++ [v]).toArray.eraseIdxIfInBounds ((vs ++ [v]).toArray.size - 1) = vs.toArray
    rw [hk, kl_erase, List.append_nil]
  · rw [List.size_toArray, List.size_toArray, List.length_append]
    simp
end
theorem regBack {outer : List Env} {g g' : Heap} (R : ReG outer g g') {b : Addr} (h : g'.get? b = none) : g.get? b = none := by
  cases e : g.get? b with
  | none => rfl
  | some o =>
    obtain ⟨sl, z⟩ := R.slots.2.2 b o e
    rw [h] at z; cases z
theorem extOutS {s s' : Shared} {g g' h' h₀ : Heap} {L : Addr} {outer : List Env} {news : List (Addr × Obj)} {as fs : List Addr} (Kg : ∀ b o, s.heap.get? b = some o → b ∉ news.map (·.1) → g.get? b = some o) (R : ReG outer g g') (K1 : ∀ b o, g'.get? b = some o → h'.get? b = some o) (N : News h₀ L s.heap news)
    (hf : ∀ b, b ∈ frs outer → b ∈ fs) (sub : ∀ p ∈ news, p.1 ∈ as ∨ h'.get? p.1 = some p.2) (eh : s'.heap = h') (og : OG s s'.os s'.gens) : ExtS fs as s s' := by
  refine ⟨fun b o hb e => ?_, og.1, og.2⟩
  rw [eh]
  by_cases hm : b ∈ news.map (·.1)
  · obtain ⟨p, hp, rfl⟩ := List.mem_map.mp hm
    rcases sub p hp with q | q
    · exact absurd q hb
    · rw [(N p hp).1] at e
      cases e
      exact ⟨⟨_, q⟩, fun _ => q⟩
  · have z := Kg b o e hm
    obtain ⟨sl, z2⟩ := R.slots.2.2 b o z
    exact ⟨⟨sl, K1 _ _ z2⟩, fun hn => K1 _ _ ((R.slots.2.1 b fun q => hn (hf b q)).trans z)⟩
inductive UnInv (s0 : Shared) (A : Around) (base g : Heap) (outer : List Env) (L' le la lm : Addr) (es as : List Str) (n : Nat) (s : Shared) : Prop
  | mk : ∀ g' m evs ne avs na mvs nm, (ReG outer g g') → (Below A base outer g') → ((∀ b o, base.get? b = some o → g'.get? b = some o)) → (OG s0 s.os s.gens) → (Fr g' L' s.heap m) → (News g' L' s.heap [(lm, lst mvs nm), (le, lst evs ne), (la, lst avs na)]) → ((m (Str.ofString "expected") = some (.ref le) ∧ m (Str.ofString "actual") = some (.ref la) ∧ m (Str.ofString "missing") = some (.ref lm))) → (lm ≠ le) → (lm ≠ la) → (le ≠ la) → (StrsAre evs (es.take n)) → (n ≤ es.length) → (StrsAre mvs (unF (es.drop n) as).1) → (StrsAre avs (unF (es.drop n) as).2) → UnInv s0 A base g outer L' le la lm es as n s
theorem unord_spec {w : World} {mg mb : Str → Option Value} {le la : Addr} {evs avs : List Value} {ne na : Nat} {es as : List Str}
  {dp un : Nat} {gd : Option (List Code)} {cn : Str} {cs : Scope} {a : Addr} {ccd : Value} {cl : List (Str × Addr)} {outer : List Env} {A₀ : Around} {base h₀ : Heap} {L : Addr} {m : Str → Option Value} {s : Shared} {Q E : Value → Shared → Prop} (B : Below A₀ base outer h₀) (F : Fr h₀ L s.heap m) (X : (KK w.params).In h₀) (N : News h₀ L s.heap [(le, lst evs ne), (la, lst avs na)]) (T : TopRead VV LL mg mb h₀) (hk : cs.kind = .function) (hdp : dp + 10 < recursionLimit) (hun : un + 100 < cLine) (XB : (KK w.params).In base) (TB : TopRead VV LL mg mb base) (hla : @Ne Nat le la) (hes : StrsAre evs es) (has : StrsAre avs as) (hel : es.length ≤ 20) (hal : as.length ≤ 20)
  (ret : ∀ r lm s', ExtS (L :: frs outer) [le, la] s s' → s'.heap.get? r = some (tup [.ref lm, .ref la] 0) → s.heap.get? r = none → s.heap.get? lm = none → SL s'.heap lm (unF es as).1 → SL s'.heap la (unF es as).2 → Q (.ref r) s') :
  wpAny (model PySem.Challenge.pw_oy0243_01 w) (ktrTop dp un gd cn cs L a ccd cl outer) (call (.ref 277) [.ref le, .ref la]) Q E s := by
  refine wpAny_call ?_
  refine' enterM (binds := [(Str.ofString "expected", .ref le), (Str.ofString "actual", .ref la)]) B F X N T rfl rfl hk ?ho ?hcd ?hroom ?hbind ?hloc ?hb ?c1 ?c2 ?c3 ?c4
  case ho => k_is
  case hcd => k_is
  case hroom => exact up0 hdp
  case hbind => exact BindsTo.of_eq rfl
  case hloc => exact locs rfl
  case c1 => decide
  case c2 => exact rfl
  case c3 => exact rfl
  case c4 => exact rfl
  intro g L' h₁ tk₁ Kg F₁ N₁ B₁ X₁ T₁ hlt₁ hsz₁ hL₁
  first | refine' execsIs ?ebL ?_ | refine' execsIsAt ?ebL ?_
  case ebL => conv => lhs; whnf
  have og₀ := OG.refl s
  (try dsimp only)
  (try k_fold)
  refine wpAny_opq fun Qo hQo => ?_
  k_steps
  all_goals (try (with_reducible show Stop _; show wpAny _ _ _ _ _ _))
  (rename Fr _ _ _ _ => F2)
  (rename News _ _ _ _ => N2)
  show wpAny _ _ _ _ _ _
  refine whileS (UnInv s (ktrTop dp un gd cn cs L a ccd cl outer) base g (envX cn cs L a ccd cl :: outer) L' le la _ es as) es.length ⟨g, _, evs, ne, avs, na, [], 0, ReG.refl _ _, B₁, B₁.stays, og₀, F2, N2, ⟨rfl, rfl, rfl⟩, by (show @Ne Nat _ _; omega), by (show @Ne Nat _ _; omega), hla, by rw [List.take_length]; exact hes, Nat.le_refl _, by rw [List.drop_length]; exact .nil, by rw [List.drop_length]; exact has⟩ ?_ ?_
  case refine_2 => passes_own
  clear F2 N2
  intro n s₁ J
  obtain ⟨g', m₁, evs, ne, avs, na, mvs, nm, rG, B₂, bs, og₁, F3, N3, ⟨he, ha, hm⟩, n1, n2, n3, hes, hn, hms, has⟩ := J
  have X₂ := XB.keeps bs
  have T₂ := TB.keeps bs
  have F3 := Fr_know (Str.ofString "expected") F3 he
  have F3 := Fr_know (Str.ofString "actual") F3 ha
  have F3 := Fr_know (Str.ofString "missing") F3 hm
  clear he ha hm
  obtain ⟨h3, ge3, dr3, tk3, os3⟩ := s₁
  cases n with
  | zero =>
    cases hes
    k_steps
    all_goals (try (with_reducible show Stop _; show wpAny _ _ _ _ _ _))
    (rename Fr _ _ _ _ => F4)
    (rename News _ _ _ _ => N4)
    refine hQo _ _ ?_
    refine ret _ _ _ (extOutS Kg rG F4.keep N (fun b hb => hb) (allC (.inl (.head _)) (allC (.inl (.tail _ (.head _))) allN)) rfl og₁) (N4 _ (.head _)).1 (newOut4 Kg (regBack rG (N4 _ (.head _)).2.2) (allC (by show @Ne Nat _ _; omega) (allC (by show @Ne Nat _ _; omega) allN))) (newOut4 Kg (regBack rG (N4 _ (.tail _ (.head _))).2.2) (allC (Ne.symm n1) (allC (Ne.symm n2) allN))) ⟨_, _, (N4 _ (.tail _ (.head _))).1, hms⟩ ⟨_, _, (N4 _ (mth 3 rfl)).1, has⟩
  | succ n =>
    have hlt : n < es.length := hn
    obtain ⟨y, hy⟩ : ∃ y, es[n]? = some y := ⟨_, List.getElem?_eq_getElem hlt⟩
    rw [List.take_succ, hy, Option.toList_some] at hes
    obtain ⟨vi, t, rfl, hvi⟩ := strs_snocE hes
    have hfs := unF_drop es as n y hy
    have hvl : vi.length ≤ 20 := by
      have z := hvi.len_eq
      rw [z, List.length_take]
      omega
    refine wpAny_opq fun Qp hQp => ?_
    k_steps
    all_goals (try (with_reducible show Stop _; show wpAny _ _ _ _ _ _))
    refine kgr_truthy (vs := vi ++ [.str y t]) N3 (.tail _ (.head _)) rfl rfl (by rw [List.length_append]; simp; omega) ?_
    rw [show (!(vi ++ [Value.str y t]).isEmpty) = true by simp]
    refine hQp _ _ ?_
    dsimp only
    rw [if_pos rfl]
    refine wpAny_opq fun Qp hQp => ?_
    k_steps
    all_goals (try (with_reducible show Stop _; show wpAny _ _ _ _ _ _))
    refine lst_pop (pre := [(_, lst mvs nm)]) (post := [(la, lst avs na)]) F3 N3 (allC n1 allN) (allC (Ne.symm n3) allN) (by omega) ?_
    intro h4 F4 N4
    dsimp only [List.cons_append, List.nil_append] at N4
    clear F3 N3
    k_steps
    all_goals (try (with_reducible show Stop _; show wpAny _ _ _ _ _ _))
    (rename Fr _ _ _ _ => F5)
    (rename News _ _ _ _ => N5)
    by_cases hmem : y ∈ (unF (es.drop (n + 1)) as).2
    · rw [unS, if_pos hmem] at hfs
      have hlen := (unF_len (es.drop (n + 1)) as).2
      have hal2 := has.len_eq
      refine lst_remove (pre := [(_, lst mvs nm), (le, lst vi (ne + 1))]) (post := []) F5 N5 (allC n2 (allC n3 allN)) allN has hmem (by omega) ?_
      intro avs' h6 hs' F6 N6
      dsimp only [List.cons_append, List.nil_append] at N6
      k_steps
      all_goals (try (with_reducible show Stop _; show wpAny _ _ _ _ _ _))
      refine hQp _ _ ?_
      exact Hold.mk ⟨n, Nat.lt_succ_self n, g', _, vi, _, avs', _, mvs, _, rG, B₂, bs, og₁, F6, N6, ⟨rfl, rfl, rfl⟩, n1, n2, n3, hvi, Nat.le_of_lt hlt, hfs ▸ hms, hfs ▸ hs'⟩
    · rw [unS, if_neg hmem] at hfs
      refine lst_remove_none (pre := [(_, lst mvs nm), (le, lst vi (ne + 1))]) (post := []) N5 has hmem rfl ?_
      intro h6 tk6 e6 hx6
      refine caught_here (T' := "ValueError") B₂ F5 N5 hx6 TB ?hfree PyProof.Rows.Boot.«ValueError» (by decide) PySem.F.isExc_ValueError PySem.F.notTuple_ValueError ?hsub ?_
      case hfree => exact TB.free _ (by decide +kernel) (by decide +kernel) (by decide +kernel) (by decide +kernel) (by decide +kernel)
      case hsub => exact rfl
      intro g2 h7 rG2 B₃ F7 N7 bs2
      have X₃ := XB.keeps bs2
      have T₃ := TB.keeps bs2
      k_steps
      all_goals (try (with_reducible show Stop _; show wpAny _ _ _ _ _ _))
      have hml : mvs.length ≤ 20 := by
        have z := hms.len_eq
        have z2 := (unF_len (es.drop (n + 1)) as).1
        rw [List.length_drop] at z2
        omega
      refine lst_append (pre := []) (post := [(le, lst vi (ne + 1)), (la, lst avs na)]) F7 N7 allN (allC (Ne.symm n1) (allC (Ne.symm n2) allN)) (by omega) ?_
      intro h8 F8 N8
      dsimp only [List.cons_append, List.nil_append] at N8
      clear F7 N7
      k_steps
      all_goals (try (with_reducible show Stop _; show wpAny _ _ _ _ _ _))
      refine hQp _ _ ?_
      exact Hold.mk ⟨n, Nat.lt_succ_self n, g2, _, vi, _, avs, _, mvs ++ [.str y t], _, rG.trans rG2, B₃, bs2, og₁, F8, N8, ⟨rfl, rfl, rfl⟩, n1, n2, n3, hvi, Nat.le_of_lt hlt, hfs ▸ hms.append' (.cons _ _ .nil), hfs ▸ has⟩
end
-- P8
section
open PySem PyProof.Rows
theorem un1 (a b c : Nat) (h : 0 < c) : a + (b - (c - 1)) = a + (b + 1 - c) := by
  cases c with
  | zero => exact absurd h (Nat.lt_irrefl 0)
  | succ c => rw [Nat.add_sub_cancel, Nat.add_sub_add_right]
theorem un2 (b c : Nat) (h : 0 < c) : c - 1 - b = c - (b + 1) := by rw [Nat.sub_sub, Nat.add_comm]
theorem unS_count (x : Str) : ∀ (es : List Str) (st : List Str × List Str), (es.foldl unS st).1.count x = st.1.count x + (es.count x - st.2.count x) ∧ (es.foldl unS st).2.count x = st.2.count x - es.count x
  | [], st => ⟨by rw [List.count_nil, Nat.zero_sub]; rfl, rfl⟩
  | e :: es, st => by
    have ih := unS_count x es (unS st e)
    rw [List.foldl_cons, ih.1, ih.2]
    unfold unS
    by_cases hm : e ∈ st.2
    · rw [if_pos hm]
      by_cases hx : e = x
      · subst hx
        have hp : 0 < st.2.count e := List.count_pos_iff.mpr hm
        rw [List.count_erase_self, List.count_cons_self]
        exact ⟨un1 _ _ _ hp, un2 _ _ hp⟩
      · have hb : (e == x) = false := beq_eq_false_iff_ne.mpr hx
        rw [List.count_erase_of_ne (fun q => hx q.symm), List.count_cons, hb]
        exact ⟨rfl, rfl⟩
    · rw [if_neg hm]
      by_cases hx : e = x
      · subst hx
        have hp : st.2.count e = 0 := List.count_eq_zero.mpr hm
        rw [List.count_append, List.count_cons_self, List.count_cons_self, List.count_nil, hp, Nat.sub_zero, Nat.sub_zero, Nat.zero_sub, Nat.zero_sub, Nat.add_assoc, Nat.add_comm 0 1, Nat.add_zero, Nat.add_comm 1]
        exact ⟨rfl, rfl⟩
      · have hb : (e == x) = false := beq_eq_false_iff_ne.mpr hx
        rw [List.count_append, List.count_cons, List.count_cons, hb]
        exact ⟨rfl, rfl⟩
theorem unS_perm {es es' : List Str} (h : es.Perm es') (as : List Str) : (es.foldl unS ([], as)).1.Perm (es'.foldl unS ([], as)).1 ∧ (es.foldl unS ([], as)).2.Perm (es'.foldl unS ([], as)).2 := by
  constructor <;> refine List.perm_iff_count.mpr fun x => ?_
  · rw [(unS_count x es _).1, (unS_count x es' _).1, h.count_eq]
  · rw [(unS_count x es _).2, (unS_count x es' _).2, h.count_eq]
end
-- A25
section
open PySem PySem.W PySem.Spec PySem.Calls PyProof.Rows
set_option maxRecDepth 100000
set_option maxHeartbeats 4000000
/-- an exception's object -/
def excO (X : String) (t0 tb ctx : Value) (o : Obj) : Prop := o.cls = .type X ∧ o.data = .fields #[t0, tb, ctx, .none, .bool false, .none]
/-- a traceback's first entry, with its frame in flight -/
def tbO (fl : Value) (o : Obj) : Prop := ∃ ts, o.data = .fields ts ∧ ts[3]? = some fl
theorem excO.map {X : String} {t0 tb ctx v : Value} {o : Obj} (h : excO X t0 tb ctx o) : excO X t0 v ctx (Obj.mapFields (·.setIfInBounds 1 v) o) := ⟨(Obj.cls_mapFields _ _).trans h.1, (Obj.data_mapFields h.2 _).trans rfl⟩
section
variable {M : Model} {A₀ : Around} {E : Value → Shared → Prop} {s' : Shared} {base g h : Heap} {outer : List Env} {L a e : Addr} {m : Str → Option Value} {name : Str} {scope : Scope} {cd : Value} {news : List (Addr × Obj)} {X : String}
/-- a new exception is noted in the frame where it was raised -/
theorem noteNew {Q : Unit → Shared → Prop} {oe : Obj} {t0 ctx : Value} {A : Around} (hA : A.frames = some (envOf name scope L a cd :: outer)) (K : Below A₀ base outer g) (F : Fr g L h m) (N : News g L h news) (hkeep : ∀ b o, h.get? b = some o → s'.heap.get? b = some o) (hnew : h.get? e = none)
    (he : s'.heap.get? e = some oe) (hx : excO X t0 .none ctx oe)
    (k : ∀ g' h' T oe' oT, ReG outer g g' → Below A₀ base outer g' → (∀ b o, base.get? b = some o → g'.get? b = some o) → Fr g' L h' m → excO X t0 (.ref T) ctx oe' → tbO (rawInt L) oT → e ≠ T → (∀ b o, h.get? b = some o → b ≠ T) → News g' L h' ((e, oe') :: (T, oT) :: news) → Q () { s' with heap := h' })
    (hk : scope.kind = .function := by rfl) : wpAny M A (noteFrame (.ref e) (envOf name scope L a cd)) Q E s' := by
  have K' := K.push (name := name) (a := a) (cd := cd) F hk
  unfold noteFrame
  simp only [show (envOf name scope L a cd).frame = some L from rfl]
  refine wpAny_bind (wpAny_field he hx.2 (x := .none) rfl ?_)
  rw [if_neg (by decide)]
  refine wpAny_bind (wpAny_frameOf_fun hA (K'.frames.of_keeps fun b o hb _ => ⟨o, hkeep b o hb, rfl⟩) rfl fun h₁ hs₁ => ?_)
  refine wpAny_bind (wpAny_entryPlaceOf fun pl hpl => ?_)
  unfold EntryCells.newEntry newFields
  refine wpAny_bind (wpAny_newObj_type ?_ (hpl.sizeOk5 _ _ _ _ _))
  have hene : e ∉ (envOf name scope L a cd :: outer).filterMap (·.frame) := fun hm => by
    obtain ⟨_, o, ho, hnf⟩ := K'.frames.mem hm
    rw [hnew] at ho; cases ho
  have he₁ : h₁.get? e = some oe := (hs₁.2.1 e hene).trans he
  have he₂ := Heap.get?_push_of_some (h := h₁) { cls := .type "traceback", dict := none, data := .fields ([.none, .ref L, .none, rawInt L, .none] ++ (if pl.isEmpty then List.replicate 6 Value.none else pl)).toArray } he₁
  refine wpAny_setField he₂ hx.2 (by show 1 < 6; decide) ?_
  have hTe : h₁.objs.size ≠ e := Nat.ne_of_gt (Heap.lt_size he₁)
  have hx₃ := hx.map (v := Value.ref h₁.objs.size)
  have he₃ := Heap.get?_update_self (Obj.mapFields (·.setIfInBounds 1 (Value.ref h₁.objs.size))) he₂ (Obj.isFreed_of_fields hx₃.2)
  have hT₃ := (Heap.get?_update_other (h₁.push { cls := .type "traceback", dict := none, data := .fields ([.none, .ref L, .none, rawInt L, .none] ++ (if pl.isEmpty then List.replicate 6 Value.none else pl)).toArray })
    (Obj.mapFields (·.setIfInBounds 1 (Value.ref h₁.objs.size))) (Ne.symm hTe)).trans (Heap.get?_push_size h₁ rfl)
  have keep : ∀ b o, b ≠ e → h₁.get? b = some o →
      ((h₁.push { cls := .type "traceback", dict := none, data := .fields ([.none, .ref L, .none, rawInt L, .none] ++ (if pl.isEmpty then List.replicate 6 Value.none else pl)).toArray }).update e (Obj.mapFields (·.setIfInBounds 1 (Value.ref h₁.objs.size)))).get? b = some o :=
    fun b o hbe hb => by
      rw [Heap.get?_update_other _ _ (Ne.symm hbe)]
      exact Heap.get?_push_of_some _ hb
  have hT0 : h.get? h₁.objs.size = none := by
    cases q : h.get? h₁.objs.size with
    | none => rfl
    | some o => exact absurd (Heap.lt_size (hkeep _ _ q)) (by rw [hs₁.1]; exact Nat.lt_irrefl _)
  obtain ⟨g', r1, r2, r3, r4, r5⟩ := reG (as := []) K F (fun b o _ hb => by
    have hbe : b ≠ e := fun q => by rw [q, hnew] at hb; cases hb
    obtain ⟨sl, hs⟩ := hs₁.2.2 b o (hkeep b o hb)
    refine ⟨⟨sl, keep b _ hbe hs⟩, fun hn => keep b o hbe ?_⟩
    exact (hs₁.2.1 b hn).trans (hkeep b o hb)) (fun h => nomatch h) (fun _ h => nomatch h)
  have gn : ∀ b, h.get? b = none → b ≠ L ∧ g'.get? b = none := fun b hb => by
    refine ⟨fun q => ?_, ?_⟩
    · obtain ⟨o, _, _, ho, _⟩ := F.ns
      rw [q, ho] at hb; cases hb
    · refine r1.none b ?_
      cases q : g.get? b with
      | none => rfl
      | some o => rw [F.keep b o q] at hb; cases hb
  refine k g' _ h₁.objs.size _ _ r1 r2 r4 r3 hx₃ ⟨_, rfl, ?_⟩ (Ne.symm hTe) (fun b o eb q => by rw [q, hT0] at eb; cases eb) (allC ⟨he₃, gn e hnew⟩ (allC ⟨hT₃, gn _ hT0⟩ fun p hp => r5 p (N p hp).1 (N p hp).2.1 (N p hp).2.2 fun h => nomatch h))
  first | (simp; done) | (rcases hpl with rfl | ⟨_, _, _, _, _, _, _, rfl⟩ <;> simp)
/-- an exception in flight in this frame is noted again: nothing happens -/
theorem noteSame {Q : Unit → Shared → Prop} {oe oT : Obj} {T : Addr} {t0 ctx : Value} {A : Around} (he : s'.heap.get? e = some oe) (hT : s'.heap.get? T = some oT) (hx : excO X t0 (.ref T) ctx oe) (ht : tbO (rawInt L) oT) (k : Q () s') :
    wpAny M A (noteFrame (.ref e) (envOf name scope L a cd)) Q E s' := by
  obtain ⟨ts, hd, h3⟩ := ht
  unfold noteFrame
  simp only [show (envOf name scope L a cd).frame = some L from rfl]
  refine wpAny_bind (wpAny_field he hx.2 (x := .ref T) rfl ?_)
  rw [if_pos (show (Value.ref T != Value.none) = true from by simp)]
  refine wpAny_bind (wpAny_field hT hd h3 ?_)
  rw [if_pos (show ((rawInt L == rawInt L) = true) from by simp [rawInt])]
  exact wpAny_pure k
/-- the flight of an exception of the ledger is set -/
theorem flightL {Q : Unit → Shared → Prop} {oe oT : Obj} {T : Addr} {t0 ctx fl : Value} {A : Around} {fr : Option Addr} (F : Fr g L s'.heap m) (N : News g L s'.heap ((e, oe) :: (T, oT) :: news)) (hx : excO X t0 (.ref T) ctx oe) (ht : tbO fl oT) (hne : e ≠ T) (hnT : ∀ p ∈ news, p.1 ≠ T)
    (k : ∀ h' oT', tbO (fr.elim .none fun f => rawInt f) oT' → Fr g L h' m → News g L h' ((e, oe) :: (T, oT') :: news) → Q () { s' with heap := h' }) :
    wpAny M A (setFlight (.ref e) fr) Q E s' := by
  obtain ⟨ts, hd, h3⟩ := ht
  have zT := N (T, oT) (.tail _ (.head _))
  have hsz := (Array.getElem?_eq_some_iff.mp h3).1
  unfold setFlight
  refine wpAny_bind (wpAny_field (N (e, oe) (.head _)).1 hx.2 (x := .ref T) rfl ?_)
  rw [if_pos (show (Value.ref T != Value.none) = true from by simp)]
  have hd' := Obj.data_mapFields hd (·.setIfInBounds 3 (fr.elim Value.none fun f => rawInt f))
  refine wpAny_setField zT.1 hd hsz (k _ (Obj.mapFields (·.setIfInBounds 3 (fr.elim Value.none fun f => rawInt f)) oT) ⟨_, hd', by simp [hsz]⟩ (F.change (Heap.SameBut.update ..) zT.2.1 zT.2.2) (allC ⟨?_, (N (e, oe) (.head _)).2⟩ (allC ⟨Heap.get?_update_self _ zT.1 (Obj.isFreed_of_fields hd'), zT.2⟩ fun p hp => ⟨?_, (N p (.tail _ (.tail _ hp))).2⟩)))
  · exact (Heap.get?_update_other _ _ (Ne.symm hne)).trans (N (e, oe) (.head _)).1
  · exact (Heap.get?_update_other _ _ (Ne.symm (hnT p hp))).trans (N p (.tail _ (.tail _ hp))).1
end
end
-- A26
section
open PySem PySem.W PySem.Spec PySem.Calls PyProof.Rows
set_option maxRecDepth 100000
set_option maxHeartbeats 4000000
theorem plain_unchain : plainId "proto.unchain" = true := by decide +kernel
theorem entry_unchain : entryFor table "proto.unchain" = some Builtin.«proto.unchain» := entryFor_of_tree (by kernel_rfl)
section
variable {prog : Program} {w : World} {A : Around} {E : Value → Shared → Prop} {s : Shared}
/-- a new exception raised while another one is handled -/
theorem raise_in {α : Type} {cls msg : String} {Q : α → Shared → Prop} {b : Addr} {ob : Obj} {X : String} {t0 tb : Value} (hp : PlainExc cls) (hh : A.handled = some (.ref b)) (hb : s.heap.get? b = some ob) (hob : excO X t0 tb .none ob)
    (h : ∀ h' tk e o' t, (∀ c o, s.heap.get? c = some o → h'.get? c = some o) → s.heap.get? e = none → h'.get? e = some o' → excO cls t .none (.ref b) o' → E (.ref e) { s with heap := h', toks := tk }) :
    wpAny (model prog w) A (raiseErrorWords cls msg : Sem α) Q E s := by
  unfold raiseErrorWords
  refine wpAny_bind (wpAny_mkText (wpAny_bind ?_))
  unfold newExc newTuple
  refine wpAny_bind (wpAny_newObj_type ?_)
  refine wpAny_bind (m := firstArgMember _ _) (wpAny_of_eq (a := Value.none) (by simp only [firstArgMember, hp.first]; rfl) ?_)
  rw [hp.own]
  refine wpAny_newObj_type ?_
  unfold raiseNew
  refine wpAny_bind (wpAny_handled ?_)
  rw [hh]
  have hb2 : (s.heap.push { cls := .type "tuple", data := .seq #[Value.str msg s.toks] 0 }).get? b = some ob := Heap.get?_push_of_some _ hb
  have k2 : ∀ c o, s.heap.get? c = some o → (s.heap.push { cls := .type "tuple", data := .seq #[Value.str msg s.toks] 0 }).get? c = some o := fun c o e => Heap.get?_push_of_some _ e
  have n2 : s.heap.get? (s.heap.push { cls := .type "tuple", data := .seq #[Value.str msg s.toks] 0 }).objs.size = none := Heap.get?_none_of_le (by simp)
  generalize (s.heap.push { cls := .type "tuple", data := .seq #[Value.str msg s.toks] 0 }) = h1 at *
  dsimp only
  have hne : b ≠ h1.objs.size := Nat.ne_of_lt (Heap.lt_size hb2)
  rw [if_pos (show (Value.ref b != Value.ref h1.objs.size) = true by simpa using hne)]
  have hb3 : ∀ o, (h1.push o).get? b = some ob := fun o => Heap.get?_push_of_some _ hb2
  refine wpAny_bind (wpAny_holding (wpAny_runValue (codeAny_builtin entry_unchain ?_)))
  rw [Around.under_plainId plain_unchain _]
  unfold Builtin.«proto.unchain»
  refine wpAny_bind (wpAny_field (hb3 _) hob.2 (x := .none) rfl ?_)
  rw [if_pos (by decide)]
  refine wpAny_pure ?_
  have he : ∀ o, o.isFreed = false → (h1.push o).get? h1.objs.size = some o := fun o ho => Heap.get?_push_size _ ho
  refine wpAny_bind (wpAny_setField (he _ rfl) rfl (by show 2 < 6; decide) (wpAny_throw ?_))
  refine h _ _ _ _ (.ref s.heap.objs.size) (fun c o e => ?_) n2 (Heap.get?_update_self _ (he _ rfl) rfl) ⟨rfl, rfl⟩
  rw [Heap.get?_update_other _ _ (fun q => by rw [← q, n2] at e; cases e)]
  exact Heap.get?_push_of_some _ (k2 _ _ e)
theorem getItem_out_in {l b : Addr} {items : Array Value} {k : Int} {t : Tok} {ob : Obj} {X : String} {t0 tb : Value} {Q : Value → Shared → Prop} (hh : A.handled = some (.ref b)) (hb : s.heap.get? b = some ob) (hob : excO X t0 tb .none ob) (hl : s.heap.IsList l items)
    (hout : (items.size : Int) ≤ k) (hlo : -(2 ^ 63) ≤ k) (hhi : k < 2 ^ 63)
    (h : ∀ h' tk e o' t, (∀ c o, s.heap.get? c = some o → h'.get? c = some o) → s.heap.get? e = none → h'.get? e = some o' → excO "IndexError" t .none (.ref b) o' → E (.ref e) { s with heap := h', toks := tk }) :
    wpAny (model prog w) A (getItem (.ref l) (.int k t)) Q E s := by
  obtain ⟨o, ho, hc, ne, hd⟩ := id hl
  unfold getItem
  try with_reducible refine wpAny_holding ?_
  first | refine wpAny_bind (wpAny_pure ?_) | skip
  refine wpAny_bind (wpAny_sequenceKey hl.typeIs (by decide) ?_)
  refine wpAny_bind (wpAny_callSpecial?_slot (name := Str.ofString "__getitem__") hl.typeIs slot_list_getitem
    (wpAny_call_entry slot_list_getitem hl.typeIs entry_list_getitem ?_ (args_list_getitem _ _)))
  show wpAny _ _ (Builtin.List.listSubscript? (.int k t) >>= _) _ _ s
  refine wpAny_bind (wpAny_listSubscript_int (fitsIndex_both hlo hhi) ?_)
  clear hlo hhi
  cases k with
  | ofNat j =>
    have hx : items[j]? = none := Array.getElem?_eq_none (by have : (items.size : Int) ≤ (j : Int) := hout; omega)
    show wpAny _ _ ((seqItemAt l j >>= fun r => pure (r.map (j, ·))) >>= _) _ _ s
    refine wpAny_bind (wpAny_bind (wpAny_seqItemAt ho hd (wpAny_pure ?_)))
    rw [hx]
    first
      | exact wpAny_bind (wpAny_rule (by exact raise_in plainExc_IndexError hh hb hob h))
      | exact wpAny_bind (wpAny_rule (wpAny_bind (by exact raise_in plainExc_IndexError hh hb hob h)))
      | exact wpAny_bind (wpAny_bind (wpAny_rule (by exact raise_in plainExc_IndexError hh hb hob h)))
      | exact wpAny_rule (by exact raise_in plainExc_IndexError hh hb hob h)
  | negSucc j => exact absurd hout (by have := Int.negSucc_lt_zero j; omega)
end
end
-- A27
section
open PySem PySem.W PySem.Spec PySem.Calls PyProof.Rows
set_option maxRecDepth 100000
set_option maxHeartbeats 4000000
section
variable {prog : Program} {w : World} {A₀ : Around} {E : Value → Shared → Prop} {s' : Shared} {base g h : Heap} {outer : List Env} {L a e T : Addr} {m : Str → Option Value} {name : Str} {scope : Scope} {cd : Value}
  {b₀ : Stmt} {suite : List Stmt} {pos np : Pos} {rest : List ExceptHandler} {Q : Flow → Shared → Prop} {news : List (Addr × Obj)} {oe oT : Obj} {t0 ctx fl : Value}
  {p : Program} {loose : List Str} {mg mb : Str → Option Value} {x : Str} {X T' : String}
/-- a noted exception is handled by a built-in name -/
theorem handleL (F : Fr g L s'.heap m) (N : News g L s'.heap ((e, oe) :: (T, oT) :: news)) (hx : excO X t0 (.ref T) ctx oe) (ht : tbO fl oT) (hne : e ≠ T) (hnT : ∀ p ∈ news, p.1 ≠ T)
    (TG : TopRead p loose mg mb g) (hfree : mg x = none) (hv : bootBuiltins x = some (.type T')) (hn : x ≠ "__name__")
    (hexc : isSubtype (.type T') (.type "BaseException") = pure true) (hnt : isSubtype (.type ((Manifest.find? T').elim "type" fun y => y.metatype)) (.type "tuple") = pure false) (hsub : isSubtype (.type X) (.type T') = pure true)
    (k : ∀ h' oT', Fr g L h' m → News g L h' ((e, oe) :: (T, oT') :: news) →
      wpAny (model prog w) ((A₀.deeper (envOf name scope L a cd)).mark (some (.ref e))) (execs (b₀ :: suite) (envOf name scope L a cd)) Q E { s' with heap := h' })
    (hE : PassesOwnAt (model prog w) ((A₀.deeper (envOf name scope L a cd)).mark (some (.ref e))) (A₀.deeper (envOf name scope L a cd)) (envOf name scope L a cd) E)
    (hk : scope.kind = .function := by rfl) (hxk : (envOf name scope L a cd).kindOf x = some .globalImplicit := by rfl) (hd : (x == ("__debug__" : Str)) = false := by decide) :
    wpAny (model prog w) (A₀.deeper (envOf name scope L a cd)) (setFlight (.ref e) none) (fun _ s₃ =>
        wpAny (model prog w) (A₀.deeper (envOf name scope L a cd)) (handleBy (.ref e) (envOf name scope L a cd) (.ExceptHandler (some (.Name x np)) none (b₀ :: suite) pos :: rest)) Q E s₃) E s' := by
  refine flightL F N hx ht hne hnT fun h₅ oT₅ t₅ F₅ N₅ => ?_
  refine wpAny_handleBy_builtin (X := X) (T := T') (b := true) hexc hnt hsub (ld_builtin_at F₅ TG.g hfree TG.b ((TG.builtins x hn).trans hv) ⟨rfl, ⟨oe, (N₅ _ (.head _)).1, hx.1⟩, ?_⟩ hk hxk hd)
  refine flightL (s' := { s' with heap := h₅ }) F₅ N₅ hx t₅ hne hnT fun h₆ oT₆ t₆ F₆ N₆ => ?_
  exact wpAny_passesOwnAt hE (k h₆ oT₆ F₆ N₆)
/-- the exception goes on behind a finally -/
theorem passOnL {α : Type} {A : Around} {Q : α → Shared → Prop} {what : String} (F : Fr g L s'.heap m) (N : News g L s'.heap ((e, oe) :: (T, oT) :: news)) (hx : excO X t0 (.ref T) ctx oe) (ht : tbO fl oT) (hne : e ≠ T) (hnT : ∀ p ∈ news, p.1 ≠ T)
    (k : ∀ h' oT', tbO (rawInt L) oT' → Fr g L h' m → News g L h' ((e, oe) :: (T, oT') :: news) → E (.ref e) { s' with heap := h' }) :
    wpAny (model prog w) A (PySem.passOn what (.ref e) (envOf name scope L a cd) : Sem α) Q E s' := by
  unfold PySem.passOn
  refine wpAny_bind (wpAny_field (N _ (.head _)).1 hx.2 (x := .ref T) rfl ?_)
  rw [if_neg (show ¬ ((Value.ref T == Value.none) = true) from by simp)]
  show wpAny _ _ (do setFlight (.ref e) (some L); throw (.ref e)) _ _ _
  refine wpAny_bind (flightL (fr := some L) F N hx ht hne hnT fun h' oT' t' F' N' => wpAny_throw (k h' oT' t' F' N'))
/-- a new exception under a finally -/
theorem finallyNew {f₀ : Stmt} {fs : List Stmt} (K : Below A₀ base outer g) (F : Fr g L h m) (N : News g L h news) (hkeep : ∀ b o, h.get? b = some o → s'.heap.get? b = some o) (hnew : h.get? e = none)
    (he : s'.heap.get? e = some oe) (hx : excO X t0 .none ctx oe)
    (k : ∀ g' h' T oe' oT, ReG outer g g' → Below A₀ base outer g' → (∀ b o, base.get? b = some o → g'.get? b = some o) → Fr g' L h' m → excO X t0 (.ref T) ctx oe' → tbO .none oT → e ≠ T → (∀ p ∈ news, p.1 ≠ T) → News g' L h' ((e, oe') :: (T, oT) :: news) →
      wpAny (model prog w) ((A₀.deeper (envOf name scope L a cd)).mark (some (.ref e))) (execs (f₀ :: fs) (envOf name scope L a cd))
      (fun g s₂ => match g with | .next => wpAny (model prog w) (A₀.deeper (envOf name scope L a cd)) (PySem.passOn "try.finally" (.ref e) (envOf name scope L a cd)) Q E s₂ | g => wpAny (model prog w) (A₀.deeper (envOf name scope L a cd)) (setFlight (.ref e) none) (fun _ s₃ => Q g s₃) E s₂) E { s' with heap := h' })
    (hE : PassesOwnAt (model prog w) ((A₀.deeper (envOf name scope L a cd)).mark (some (.ref e))) (A₀.deeper (envOf name scope L a cd)) (envOf name scope L a cd) E)
    (hk : scope.kind = .function := by rfl) :
    wpAny (model prog w) (A₀.deeper (envOf name scope L a cd)) (noteFrame (.ref e) (envOf name scope L a cd)) (fun _ s₂ => FinallyRaised prog w (A₀.deeper (envOf name scope L a cd)) E (envOf name scope L a cd) (f₀ :: fs) Q (.ref e) s₂) (FinallyRaised prog w (A₀.deeper (envOf name scope L a cd)) E (envOf name scope L a cd) (f₀ :: fs) Q) s' := by
  have hA : (A₀.deeper (envOf name scope L a cd)).frames = some (envOf name scope L a cd :: outer) := Around.frames_deeper K.stack
  refine noteNew hA K F N hkeep hnew he hx (fun g' h' T oe' oT r1 r2 r3 F' hx' ht' hne hn' N' => ?_) hk
  have hnT : ∀ p ∈ news, p.1 ≠ T := fun p hp => hn' _ _ (N p hp).1
  refine ⟨ref_ne_byPass e, noteSame (N' _ (.head _)).1 (N' _ (.tail _ (.head _))).1 hx' ht' ?_⟩
  refine flightL (s' := { s' with heap := h' }) F' N' hx' ht' hne hnT fun h₅ oT₅ t₅ F₅ N₅ => ?_
  exact wpAny_passesOwnAt hE (k g' h₅ T oe' oT₅ r1 r2 r3 F₅ hx' t₅ hne hnT N₅)
end
section
variable {prog : Program} {w : World} {A₀ : Around} {E : Value → Shared → Prop} {s' : Shared} {base g h : Heap} {outer : List Env} {L a e : Addr} {m : Str → Option Value} {name : Str} {scope : Scope} {cd : Value} {news : List (Addr × Obj)} {oe : Obj} {t0 ctx : Value} {X : String}
/-- new, or noted here before -/
def ExcCase (g h : Heap) (L e : Addr) (X : String) (oe : Obj) (t0 ctx : Value) (news : List (Addr × Obj)) (s' : Shared) : Prop :=
  ((∀ b o, h.get? b = some o → s'.heap.get? b = some o) ∧ h.get? e = none ∧ s'.heap.get? e = some oe ∧ excO X t0 .none ctx oe) ∨
    (h = s'.heap ∧ ∃ T oT, Ent g L h (e, oe) ∧ Ent g L h (T, oT) ∧ excO X t0 (.ref T) ctx oe ∧ tbO (rawInt L) oT ∧ e ≠ T ∧ ∀ p ∈ news, p.1 ≠ T)
theorem noteEither {Q : Unit → Shared → Prop} (K : Below A₀ base outer g) (bs : ∀ b o, base.get? b = some o → g.get? b = some o) (F : Fr g L h m) (N : News g L h news) (hc : ExcCase g h L e X oe t0 ctx news s')
    (k : ∀ g' h' T oe' oT, ReG outer g g' → Below A₀ base outer g' → (∀ b o, base.get? b = some o → g'.get? b = some o) → Fr g' L h' m → excO X t0 (.ref T) ctx oe' → tbO (rawInt L) oT → e ≠ T → (∀ p ∈ news, p.1 ≠ T) → News g' L h' ((e, oe') :: (T, oT) :: news) → Q () { s' with heap := h' })
    (hk : scope.kind = .function := by rfl) :
    wpAny (model prog w) (A₀.deeper (envOf name scope L a cd)) (noteFrame (.ref e) (envOf name scope L a cd)) Q E s' := by
  rcases hc with ⟨h1, h2, h3, h4⟩ | ⟨rfl, T, oT, e1, e2, hx, ht, hne, hnT⟩
  · exact noteNew (Around.frames_deeper K.stack) K F N h1 h2 h3 h4 (fun g' h' T oe' oT r1 r2 r3 F' hx' ht' hne hn' N' => k g' h' T oe' oT r1 r2 r3 F' hx' ht' hne (fun p hp => hn' _ _ (N p hp).1) N') hk
  · exact noteSame e1.1 e2.1 hx ht (k g s'.heap T oe oT (ReG.refl _ _) K bs F hx ht hne hnT (allC e1 (allC e2 N)))
end
end
-- A28
section
open PySem PySem.W PySem.Spec PySem.Calls PyProof.Rows
set_option maxRecDepth 100000
set_option maxHeartbeats 4000000
theorem opqX {M : Model} {A : Around} {env : Env} {t : List Stmt} {Q : Flow → Shared → Prop} {E : Value → Shared → Prop} {s : Shared} (P : Value → Shared → Prop) (hX : ∀ e s, P e s → E e s) (hP : PassesOwn M A env E) (hA : ∀ b, PassesOwnAt M (A.mark (some b)) A env E) (h : ∀ E', (∀ e s, P e s → E' e s) → PassesOwn M A env E' → (∀ b, PassesOwnAt M (A.mark (some b)) A env E') → wpAny M A (execs t env) Q E' s) : wpAny M A (execs t env) Q E s := h E hX hP hA
theorem pick_from (vs : List Value) (i : Nat) (h : i ≤ vs.length) : kms_pick vs (some (i : Int)) none = vs.drop i := by
  unfold kms_pick kms_lo kms_hi
  have h0 : ¬ (i : Int) < 0 := by omega
  simp only [if_neg h0]
  rw [Int.toNat_natCast, Nat.min_eq_left h, List.take_of_length_le (by simp)]
theorem strs_drop {vs : List Value} {ws : List Str} (h : StrsAre vs ws) (i : Nat) : StrsAre (vs.drop i) (ws.drop i) := by
  induction h generalizing i with
  | nil => simpa using StrsAre.nil
  | cons x t h ih =>
    cases i with
    | zero => exact .cons x t h
    | succ i => exact ih i
section
variable {prog : Program} {w : World} {A : Around} {E : Value → Shared → Prop} {s : Shared} {h₀ : Heap} {L D : Addr} {m : Str → Option Value} {pre post : List (Addr × Obj)} {vs ws : List Value} {n n2 : Nat} {b : Addr}
theorem lst_extend {Q : Value → Shared → Prop} (F : Fr h₀ L s.heap m) (N : News h₀ L s.heap (pre ++ (D, lst vs n) :: post)) (a : ∀ p ∈ pre, p.1 ≠ D) (b' : ∀ p ∈ post, p.1 ≠ D) (hb : s.heap.get? b = some (lst ws n2)) (hz : vs.length ≤ 1000) (hz2 : ws.length ≤ 1000)
    (h : ∀ n' h', Fr h₀ L h' m → News h₀ L h' (pre ++ (D, lst (vs ++ ws) n') :: post) → Q .none { s with heap := h' }) : wpAny (model prog w) A (call (.builtin "list.extend") [.ref D, .ref b]) Q E s := by
  have z := N (D, lst vs n) (List.mem_append.mpr (.inr (.head _)))
  have hs2 : 2000 ≤ sizeLine := by decide +kernel
  have hz' : vs.toArray.size ≤ sizeLine := by rw [List.size_toArray]; omega
  have hz3 : vs.toArray.size + ws.toArray.size ≤ sizeLine + 1 := by rw [List.size_toArray, List.size_toArray]; omega
  have hdoor : ¬(!vs.toArray.isEmpty && Builtin.List.listTooLong (vs.toArray.size + ws.toArray.size)) = true := by
    have hd : Builtin.List.listTooLong (vs.toArray.size + ws.toArray.size) = false := by
      unfold Builtin.List.listTooLong
      rw [List.size_toArray, List.size_toArray]
      exact decide_eq_false (by omega)
    rw [hd, Bool.and_false]
    exact Bool.false_ne_true
  refine call_meets PySem.F.slot_list_extend ⟨_, z.1, rfl⟩ PySem.F.entry_list_extend (PySem.F.args_list_extend_2 _ _) (AutoSeq1.list_extend_list_list_0 D vs.toArray n b ws.toArray n2 hdoor hz' hz3) ⟨z.1, hb, h _ _ (F.change (Heap.SameBut.update ..) z.2.1 z.2.2) (ki_turn _ N a b' ?_ rfl)⟩
  show vs.toArray ++ ws.toArray = (vs ++ ws).toArray
  simp
end
theorem neExc {h : Heap} {a b : Addr} {o : Obj} {vs : List Value} {n : Nat} {X : String} {t0 tb ctx : Value} (ha : h.get? a = some o) (hx : excO X t0 tb ctx o) (hb : h.get? b = some (lst vs n)) : @Ne Nat a b := ne_of_get ha hb fun e => by
  have z := hx.2
  rw [e] at z
  cases z
theorem neTb {h : Heap} {a b : Addr} {o : Obj} {vs : List Value} {n : Nat} {fl : Value} (ha : h.get? a = some o) (hx : tbO fl o) (hb : h.get? b = some (lst vs n)) : @Ne Nat a b := ne_of_get ha hb fun e => by
  obtain ⟨ts, z, _⟩ := hx
  rw [e] at z
  cases z
structure SdC (A : Around) (base g : Heap) (outer : List Env) (L' le la lm lu : Addr) (evs avs : List Value) (ne na : Nat) (es as : List Str) (g' : Heap) (m : Str → Option Value) (i j : Nat) (mis unx : List Str) (ex : List (Addr × Obj)) (h : Heap) : Prop where
  rG : ReG outer g g'
  B : Below A base outer g'
  bs : ∀ b o, base.get? b = some o → g'.get? b = some o
  F : Fr g' L' h m
  N : ∃ mvs nm uvs nu, News g' L' h ((lu, lst uvs nu) :: (lm, lst mvs nm) :: (le, lst evs ne) :: (la, lst avs na) :: ex) ∧ StrsAre mvs mis ∧ StrsAre uvs unx
  he : m (Str.ofString "expected") = some (.ref le)
  ha : m (Str.ofString "actual") = some (.ref la)
  hm : m (Str.ofString "missing") = some (.ref lm)
  hu : m (Str.ofString "unexpected") = some (.ref lu)
  hi : ∃ t, m (Str.ofString "i") = some (.int (i : Nat) t)
  hj : ∃ t, m (Str.ofString "j") = some (.int (j : Nat) t)
  hil : i ≤ es.length
  hjl : j ≤ as.length
  hml : mis.length ≤ i
  hul : unx.length ≤ j
inductive SdInv (s0 : Shared) (A : Around) (base g : Heap) (outer : List Env) (L' le la lm lu : Addr) (evs avs : List Value) (ne na : Nat) (es as : List Str) (n : Nat) (s : Shared) : Prop
  | mk : ∀ g' m i j mis unx, (SdC A base g outer L' le la lm lu evs avs ne na es as g' m i j mis unx [] s.heap) → (OG s0 s.os s.gens) → (n = (es.length - i) + (as.length - j)) → (sd es as = (mis ++ (sd (es.drop i) (as.drop j)).1, unx ++ (sd (es.drop i) (as.drop j)).2)) → SdInv s0 A base g outer L' le la lm lu evs avs ne na es as n s
inductive SdExc (s0 : Shared) (A : Around) (base g : Heap) (outer : List Env) (L' le la lm lu : Addr) (evs avs : List Value) (ne na : Nat) (es as : List Str) (x : Value) (s : Shared) : Prop
  | mk : ∀ g' m i j mis unx h e oe t0 ctx, (x = .ref e) → (SdC A base g outer L' le la lm lu evs avs ne na es as g' m i j mis unx [] h) → (OG s0 s.os s.gens) → (sd es as = (mis ++ es.drop i, unx ++ as.drop j)) → (∀ news, News g' L' h news → (∀ p ∈ news, p ∈ [(lu, p.2), (lm, p.2), (le, p.2), (la, p.2)]) → ExcCase g' h L' e "IndexError" oe t0 ctx news s) → SdExc s0 A base g outer L' le la lm lu evs avs ne na es as x s
end
-- A29
section
open PySem PySem.W PySem.Spec PySem.Calls PyProof.Rows
set_option maxRecDepth 100000
set_option maxHeartbeats 3000000
local macro_rules | `(tactic| walk_at "subscriptTail Name Name ref int") => `(tactic| refine Stop.mk ?_)
local macro_rules | `(tactic| walk_at "exec While Compare cons nil") => `(tactic| refine Stop.mk ?_)
theorem Fr_un {h₀ h : Heap} {L : Addr} {m : Str → Option Value} {a x : Str} {v : Value} {v1 : Option Value} (F : Fr h₀ L h (fun y => if y = a then v1 else if y = x then some v else m y)) (hv : m x = some v) : Fr h₀ L h (fun y => if y = a then v1 else m y) := by
  have e : (fun y => if y = a then v1 else if y = x then some v else m y) = (fun y => if y = a then v1 else m y) := by
    funext y
    by_cases h : y = x
    · subst h; rw [if_pos rfl, hv]
    · rw [if_neg h]
  rwa [e] at F
theorem dropE {w : World} {mg mb : Str → Option Value} {le la lm lu L' : Addr} {evs avs : List Value} {ne na : Nat} {es as mis unx : List Str} {ex : List (Addr × Obj)} {A₀ A : Around} {base g g' : Heap} {outer : List Env} {m : Str → Option Value} {i j : Nat} {E : Value → Shared → Prop} {Q : Flow → Shared → Prop} {s : Shared} {p1 p2 p3 p4 p5 p6 p7 p8 p9 : Pos} {y : Str} {ty : Tok} {ctx : Value}
  (X : (KK w.params).In g') (T : TopRead VV LL mg mb g') (c : SdC A₀ base g outer L' le la lm lu evs avs ne na es as g' m i j mis unx ex s.heap) (hes : StrsAre evs es) (has : StrsAre avs as) (hel : es.length ≤ 20) (hal : as.length ≤ 20) (hy : m (Str.ofString "e") = some (.str y ty))
  (hget : ∀ (s₁ : Shared) (m' : Str → Option Value) (t : Tok) (Q1 : Value → Shared → Prop), SdC A₀ base g outer L' le la lm lu evs avs ne na es as g' m' es.length j mis unx ex s₁.heap → (∀ h' tk e oe t0, (∀ b o, s₁.heap.get? b = some o → h'.get? b = some o) → s₁.heap.get? e = none → h'.get? e = some oe → excO "IndexError" t0 .none ctx oe → E (.ref e) { s₁ with heap := h', toks := tk }) →
    wpAny (model PySem.Challenge.pw_oy0243_01 w) A (getItem (.ref le) (.int (es.length : Nat) t)) Q1 E s₁)
  (done : ∀ m' k h' tk, SdC A₀ base g outer L' le la lm lu evs avs ne na es as g' m' k j mis unx ex h' → (∀ x, x ≠ Str.ofString "i" → m' x = m x) → i ≤ k → es.drop k = (es.drop i).dropWhile (· == y) → Q .next { s with heap := h', toks := tk })
  (out : ∀ m' h' h₂ tk e oe t0, SdC A₀ base g outer L' le la lm lu evs avs ne na es as g' m' es.length j mis unx ex h' → (∀ x, x ≠ Str.ofString "i" → m' x = m x) → (es.drop i).dropWhile (· == y) = [] → (∀ b o, h'.get? b = some o → h₂.get? b = some o) → h'.get? e = none → h₂.get? e = some oe → excO "IndexError" t0 .none ctx oe → E (.ref e) { s with heap := h₂, toks := tk })
  (hE : PassesOwn (model PySem.Challenge.pw_oy0243_01 w) A (envOf (Str.ofString "sorted_list_difference") { kind := ScopeKind.function, names := [(Str.ofString "expected", NameKind.local), (Str.ofString "actual", NameKind.local), (Str.ofString "i", NameKind.local), (Str.ofString "j", NameKind.local), (Str.ofString "missing", NameKind.local), (Str.ofString "unexpected", NameKind.local), (Str.ofString "e", NameKind.local), (Str.ofString "a", NameKind.local), (Str.ofString "IndexError", NameKind.globalImplicit)], isGenerator := false, isCoroutine := false } L' 270 (Value.ref 269)) E) :
  wpAny (model PySem.Challenge.pw_oy0243_01 w) A (exec (.While (.Compare (.Subscript (.Name (Str.ofString "expected") p1) (.Name (Str.ofString "i") p2) p3) [.Eq] [.Name (Str.ofString "e") p4] p5) [.AugAssign (.Name (Str.ofString "i") p6) .Add (.Constant (.int 1) 0 p7) p8] [] p9) (envOf (Str.ofString "sorted_list_difference") { kind := ScopeKind.function, names := [(Str.ofString "expected", NameKind.local), (Str.ofString "actual", NameKind.local), (Str.ofString "i", NameKind.local), (Str.ofString "j", NameKind.local), (Str.ofString "missing", NameKind.local), (Str.ofString "unexpected", NameKind.local), (Str.ofString "e", NameKind.local), (Str.ofString "a", NameKind.local), (Str.ofString "IndexError", NameKind.globalImplicit)], isGenerator := false, isCoroutine := false } L' 270 (Value.ref 269))) Q E s := by
  refine whileS (fun n s₁ => ∃ m' k, SdC A₀ base g outer L' le la lm lu evs avs ne na es as g' m' k j mis unx ex s₁.heap ∧ s₁ = { s with heap := s₁.heap, toks := s₁.toks } ∧ (∀ x, x ≠ Str.ofString "i" → m' x = m x) ∧ n = es.length - k ∧ (es.drop k).dropWhile (· == y) = (es.drop i).dropWhile (· == y) ∧ i ≤ k) (es.length - i) ⟨m, i, c, rfl, fun _ _ => rfl, rfl, rfl, Nat.le_refl _⟩ ?_ hE
  rintro n s₁ ⟨m', k, c', es1, hm', hn, hdw, hik⟩
  obtain ⟨h3, ge3, dr3, tk3, os3⟩ := s₁
  obtain ⟨h0, ge0, dr0, tk0, os0⟩ := s
  injection es1 with q1 q2 q3 q4 q5
  subst q2 q3 q5
  clear q1 q4
  have hc := c'
  obtain ⟨rG, B₂, bs, F3, ⟨mvs, nm, uvs, nu, N3, hms, hus⟩, he, ha, hm, hu, ⟨ti, hi⟩, ⟨tj, hj⟩, hil, hjl, hml, hul⟩ := c'
  have F3 := Fr_know (Str.ofString "expected") F3 he
  have F3 := Fr_know (Str.ofString "e") F3 ((if_neg (by decide)).trans ((hm' _ (by decide)).trans hy))
  have F3 := Fr_know (Str.ofString "i") F3 hi
  refine wpAny_opq fun Qp hQp => ?_
  k_steps
  all_goals (try (with_reducible show Stop _; show wpAny _ _ _ _ _ _))
  by_cases hlt : k < es.length
  · refine KTb.item_list (ws := es) ⟨_, (N3 _ (mth 2 rfl)).1, rfl, _, rfl⟩ hes (by omega) (by omega) (by omega) fun t' _ => ?_
    k_steps
    all_goals (try (with_reducible show Stop _; show wpAny _ _ _ _ _ _))
    refine hQp _ _ ?_
    rw [Int.toNat_natCast, List.getD_eq_getElem?_getD, List.getElem?_eq_getElem hlt, Option.getD_some]
    have hdk : es.drop k = es[k] :: es.drop (k + 1) := List.drop_eq_getElem_cons hlt
    cases hb : es[k] == y with
    | false =>
      rw [if_neg (by decide)]
      refine done m' k h3 tk3 hc hm' hik ?_
      rw [← hdw, hdk, List.dropWhile_cons, hb]
      rfl
    | true =>
      rw [if_pos rfl]
      rw [hdk, List.dropWhile_cons, hb, if_pos rfl] at hdw
      clear hc
      refine wpAny_opq fun Qr hQr => ?_
      k_steps
      all_goals (try (with_reducible show Stop _; show wpAny _ _ _ _ _ _))
      (rename Fr _ _ _ _ => F9)
      (rename News _ _ _ _ => N9)
      have F9 := Fr_un F9 ((if_neg (by decide)).trans ((if_neg (by decide)).trans hi))
      have F9 := Fr_un F9 ((if_neg (by decide)).trans ((hm' _ (by decide)).trans hy))
      have F9 := Fr_un F9 he
      refine hQr _ _ ?_
      exact Hold.mk ⟨_, by omega, _, k + 1, ⟨rG, B₂, bs, F9, ⟨mvs, nm, uvs, nu, N9, hms, hus⟩, (if_neg (by decide)).trans he, (if_neg (by decide)).trans ha, (if_neg (by decide)).trans hm, (if_neg (by decide)).trans hu, ⟨_, if_pos rfl⟩, ⟨tj, (if_neg (by decide)).trans hj⟩, by omega, by omega, by omega, by omega⟩, rfl, fun x hx => (if_neg hx).trans (hm' x hx), rfl, hdw, by omega⟩
  · have hk : k = es.length := by omega
    subst hk
    refine tail_any (T := "list") ⟨_, (N3 _ (mth 2 rfl)).1, rfl⟩ slot_list_getitem.lookup (hget _ _ _ _ hc fun h' tk e oe t0 e1 e2 e3 e4 => ?_) (by with_unfolding_all rfl)
    refine out _ _ _ _ _ _ _ hc hm' ?_ e1 e2 e3 e4
    rw [← hdw]
    simp
theorem dropA {w : World} {mg mb : Str → Option Value} {le la lm lu L' : Addr} {evs avs : List Value} {ne na : Nat} {es as mis unx : List Str} {ex : List (Addr × Obj)} {A₀ A : Around} {base g g' : Heap} {outer : List Env} {m : Str → Option Value} {i j : Nat} {E : Value → Shared → Prop} {Q : Flow → Shared → Prop} {s : Shared} {p1 p2 p3 p4 p5 p6 p7 p8 p9 : Pos} {y : Str} {ty : Tok} {ctx : Value}
  (X : (KK w.params).In g') (T : TopRead VV LL mg mb g') (c : SdC A₀ base g outer L' le la lm lu evs avs ne na es as g' m i j mis unx ex s.heap) (hes : StrsAre evs es) (has : StrsAre avs as) (hel : es.length ≤ 20) (hal : as.length ≤ 20) (hy : m (Str.ofString "a") = some (.str y ty))
  (hget : ∀ (s₁ : Shared) (m' : Str → Option Value) (t : Tok) (Q1 : Value → Shared → Prop), SdC A₀ base g outer L' le la lm lu evs avs ne na es as g' m' i as.length mis unx ex s₁.heap → (∀ h' tk e oe t0, (∀ b o, s₁.heap.get? b = some o → h'.get? b = some o) → s₁.heap.get? e = none → h'.get? e = some oe → excO "IndexError" t0 .none ctx oe → E (.ref e) { s₁ with heap := h', toks := tk }) →
    wpAny (model PySem.Challenge.pw_oy0243_01 w) A (getItem (.ref la) (.int (as.length : Nat) t)) Q1 E s₁)
  (done : ∀ m' k h' tk, SdC A₀ base g outer L' le la lm lu evs avs ne na es as g' m' i k mis unx ex h' → (∀ x, x ≠ Str.ofString "j" → m' x = m x) → j ≤ k → as.drop k = (as.drop j).dropWhile (· == y) → Q .next { s with heap := h', toks := tk })
  (out : ∀ m' h' h₂ tk e oe t0, SdC A₀ base g outer L' le la lm lu evs avs ne na es as g' m' i as.length mis unx ex h' → (∀ x, x ≠ Str.ofString "j" → m' x = m x) → (as.drop j).dropWhile (· == y) = [] → (∀ b o, h'.get? b = some o → h₂.get? b = some o) → h'.get? e = none → h₂.get? e = some oe → excO "IndexError" t0 .none ctx oe → E (.ref e) { s with heap := h₂, toks := tk })
  (hE : PassesOwn (model PySem.Challenge.pw_oy0243_01 w) A (envOf (Str.ofString "sorted_list_difference") { kind := ScopeKind.function, names := [(Str.ofString "expected", NameKind.local), (Str.ofString "actual", NameKind.local), (Str.ofString "i", NameKind.local), (Str.ofString "j", NameKind.local), (Str.ofString "missing", NameKind.local), (Str.ofString "unexpected", NameKind.local), (Str.ofString "e", NameKind.local), (Str.ofString "a", NameKind.local), (Str.ofString "IndexError", NameKind.globalImplicit)], isGenerator := false, isCoroutine := false } L' 270 (Value.ref 269)) E) :
  wpAny (model PySem.Challenge.pw_oy0243_01 w) A (exec (.While (.Compare (.Subscript (.Name (Str.ofString "actual") p1) (.Name (Str.ofString "j") p2) p3) [.Eq] [.Name (Str.ofString "a") p4] p5) [.AugAssign (.Name (Str.ofString "j") p6) .Add (.Constant (.int 1) 0 p7) p8] [] p9) (envOf (Str.ofString "sorted_list_difference") { kind := ScopeKind.function, names := [(Str.ofString "expected", NameKind.local), (Str.ofString "actual", NameKind.local), (Str.ofString "i", NameKind.local), (Str.ofString "j", NameKind.local), (Str.ofString "missing", NameKind.local), (Str.ofString "unexpected", NameKind.local), (Str.ofString "e", NameKind.local), (Str.ofString "a", NameKind.local), (Str.ofString "IndexError", NameKind.globalImplicit)], isGenerator := false, isCoroutine := false } L' 270 (Value.ref 269))) Q E s := by
  refine whileS (fun n s₁ => ∃ m' k, SdC A₀ base g outer L' le la lm lu evs avs ne na es as g' m' i k mis unx ex s₁.heap ∧ s₁ = { s with heap := s₁.heap, toks := s₁.toks } ∧ (∀ x, x ≠ Str.ofString "j" → m' x = m x) ∧ n = as.length - k ∧ (as.drop k).dropWhile (· == y) = (as.drop j).dropWhile (· == y) ∧ j ≤ k) (as.length - j) ⟨m, j, c, rfl, fun _ _ => rfl, rfl, rfl, Nat.le_refl _⟩ ?_ hE
  rintro n s₁ ⟨m', k, c', es1, hm', hn, hdw, hik⟩
  obtain ⟨h3, ge3, dr3, tk3, os3⟩ := s₁
  obtain ⟨h0, ge0, dr0, tk0, os0⟩ := s
  injection es1 with q1 q2 q3 q4 q5
  subst q2 q3 q5
  clear q1 q4
  have hc := c'
  obtain ⟨rG, B₂, bs, F3, ⟨mvs, nm, uvs, nu, N3, hms, hus⟩, he, ha, hm, hu, ⟨ti, hi⟩, ⟨tj, hj⟩, hil, hjl, hml, hul⟩ := c'
  have F3 := Fr_know (Str.ofString "actual") F3 ha
  have F3 := Fr_know (Str.ofString "a") F3 ((if_neg (by decide)).trans ((hm' _ (by decide)).trans hy))
  have F3 := Fr_know (Str.ofString "j") F3 hj
  refine wpAny_opq fun Qp hQp => ?_
  k_steps
  all_goals (try (with_reducible show Stop _; show wpAny _ _ _ _ _ _))
  by_cases hlt : k < as.length
  · refine KTb.item_list (ws := as) ⟨_, (N3 _ (mth 3 rfl)).1, rfl, _, rfl⟩ has (by omega) (by omega) (by omega) fun t' _ => ?_
    k_steps
    all_goals (try (with_reducible show Stop _; show wpAny _ _ _ _ _ _))
    refine hQp _ _ ?_
    rw [Int.toNat_natCast, List.getD_eq_getElem?_getD, List.getElem?_eq_getElem hlt, Option.getD_some]
    have hdk : as.drop k = as[k] :: as.drop (k + 1) := List.drop_eq_getElem_cons hlt
    cases hb : as[k] == y with
    | false =>
      rw [if_neg (by decide)]
      refine done m' k h3 tk3 hc hm' hik ?_
      rw [← hdw, hdk, List.dropWhile_cons, hb]
      rfl
    | true =>
      rw [if_pos rfl]
      rw [hdk, List.dropWhile_cons, hb, if_pos rfl] at hdw
      clear hc
      refine wpAny_opq fun Qr hQr => ?_
      k_steps
      all_goals (try (with_reducible show Stop _; show wpAny _ _ _ _ _ _))
      (rename Fr _ _ _ _ => F9)
      (rename News _ _ _ _ => N9)
      have F9 := Fr_un F9 ((if_neg (by decide)).trans ((if_neg (by decide)).trans hj))
      have F9 := Fr_un F9 ((if_neg (by decide)).trans ((hm' _ (by decide)).trans hy))
      have F9 := Fr_un F9 ha
      refine hQr _ _ ?_
      exact Hold.mk ⟨_, by omega, _, k + 1, ⟨rG, B₂, bs, F9, ⟨mvs, nm, uvs, nu, N9, hms, hus⟩, (if_neg (by decide)).trans he, (if_neg (by decide)).trans ha, (if_neg (by decide)).trans hm, (if_neg (by decide)).trans hu, ⟨ti, (if_neg (by decide)).trans hi⟩, ⟨_, if_pos rfl⟩, by omega, by omega, by omega, by omega⟩, rfl, fun x hx => (if_neg hx).trans (hm' x hx), rfl, hdw, by omega⟩
  · have hk : k = as.length := by omega
    subst hk
    refine tail_any (T := "list") ⟨_, (N3 _ (mth 3 rfl)).1, rfl⟩ slot_list_getitem.lookup (hget _ _ _ _ hc fun h' tk e oe t0 e1 e2 e3 e4 => ?_) (by with_unfolding_all rfl)
    refine out _ _ _ _ _ _ _ hc hm' ?_ e1 e2 e3 e4
    rw [← hdw]
    simp
theorem incJ {w : World} {mg mb : Str → Option Value} {le la lm lu L' : Addr} {evs avs : List Value} {ne na : Nat} {es as mis unx : List Str} {ex : List (Addr × Obj)} {A₀ A : Around} {base g g' : Heap} {outer : List Env} {m : Str → Option Value} {i j : Nat} {E : Value → Shared → Prop} {Q : Flow → Shared → Prop} {s : Shared} {p1 p2 p3 : Pos}
  (X : (KK w.params).In g') (T : TopRead VV LL mg mb g') (c : SdC A₀ base g outer L' le la lm lu evs avs ne na es as g' m i j mis unx ex s.heap) (hal : as.length ≤ 20) (hlt : j < as.length)
  (k : ∀ m' h' tk, SdC A₀ base g outer L' le la lm lu evs avs ne na es as g' m' i (j + 1) mis unx ex h' → (∀ x, x ≠ Str.ofString "j" → m' x = m x) → Q .next { s with heap := h', toks := tk }) :
  wpAny (model PySem.Challenge.pw_oy0243_01 w) A (exec (.AugAssign (.Name (Str.ofString "j") p1) .Add (.Constant (.int 1) 0 p2) p3) (envOf (Str.ofString "sorted_list_difference") { kind := ScopeKind.function, names := [(Str.ofString "expected", NameKind.local), (Str.ofString "actual", NameKind.local), (Str.ofString "i", NameKind.local), (Str.ofString "j", NameKind.local), (Str.ofString "missing", NameKind.local), (Str.ofString "unexpected", NameKind.local), (Str.ofString "e", NameKind.local), (Str.ofString "a", NameKind.local), (Str.ofString "IndexError", NameKind.globalImplicit)], isGenerator := false, isCoroutine := false } L' 270 (Value.ref 269))) Q E s := by
  obtain ⟨rG, B₂, bs, F3, ⟨mvs, nm, uvs, nu, N3, hms, hus⟩, he, ha, hm, hu, ⟨ti, hi⟩, ⟨tj, hj⟩, hil, hjl, hml, hul⟩ := c
  obtain ⟨h0, ge0, dr0, tk0, os0⟩ := s
  have F4 := Fr_know (Str.ofString "j") F3 hj
  clear F3
  refine wpAny_opq fun Qr hQr => ?_
  k_steps
  all_goals (try (with_reducible show Stop _; show wpAny _ _ _ _ _ _))
  (rename Fr _ _ _ _ => F9)
  (rename News _ _ _ _ => N9)
  have F9 := Fr_un F9 hj
  refine hQr _ _ ?_
  exact k _ _ _ ⟨rG, B₂, bs, F9, ⟨mvs, nm, uvs, nu, N9, hms, hus⟩, (if_neg (by decide)).trans he, (if_neg (by decide)).trans ha, (if_neg (by decide)).trans hm, (if_neg (by decide)).trans hu, ⟨ti, (if_neg (by decide)).trans hi⟩, ⟨_, if_pos rfl⟩, by omega, by omega, by omega, by omega⟩ (fun x hx => if_neg hx)
theorem SdC.noEx {A : Around} {base g g' h : Heap} {outer : List Env} {le la lm lu L' : Addr} {evs avs : List Value} {ne na : Nat} {es as mis unx : List Str} {ex : List (Addr × Obj)} {m : Str → Option Value} {i j : Nat} (c : SdC A base g outer L' le la lm lu evs avs ne na es as g' m i j mis unx ex h) : SdC A base g outer L' le la lm lu evs avs ne na es as g' m i j mis unx [] h := by
  obtain ⟨mvs, nm, uvs, nu, N3, hms, hus⟩ := c.N
  exact ⟨c.rG, c.B, c.bs, c.F, ⟨mvs, nm, uvs, nu, allC (N3 _ (.head _)) (allC (N3 _ (.tail _ (.head _))) (allC (N3 _ (mth 2 rfl)) (allC (N3 _ (mth 3 rfl)) allN))), hms, hus⟩, c.he, c.ha, c.hm, c.hu, c.hi, c.hj, c.hil, c.hjl, c.hml, c.hul⟩
end
-- A30
section
open PySem PySem.W PySem.Spec PySem.Calls PyProof.Rows
set_option maxRecDepth 100000
set_option maxHeartbeats 3000000
local macro_rules | `(tactic| walk_at "subscriptTail Name Name ref int") => `(tactic| refine Stop.mk ?_)
local macro_rules | `(tactic| walk_at "subscriptTail Name Slice ref ref") => `(tactic| refine Stop.mk ?_)
local macro_rules | `(tactic| walk_at "exec Try") => `(tactic| refine Stop.mk ?_)
local macro_rules | `(tactic| walk_at "exec While Name cons nil") => `(tactic| refine Stop.mk ?_)
local macro_rules | `(tactic| walk_at "exec While Constant cons nil") => `(tactic| refine Stop.mk ?_)
local macro_rules | `(tactic| walk_at "exec While Compare cons nil") => `(tactic| refine Stop.mk ?_)
theorem opqX2 {M : Model} {A : Around} {env : Env} {t : List Stmt} {Q : Flow → Shared → Prop} {E : Value → Shared → Prop} {s : Shared} (P : Value → Shared → Prop) (hX : ∀ e s, P e s → E e s) (hP : PassesOwn M A env E) (hA : ∀ b, PassesOwnAt M (A.mark (some b)) A env E) (hB : ∀ b, PassesOwnAt M (A.mark (some b)) (A.mark (some b)) env E) (h : ∀ E', (∀ e s, P e s → E' e s) → PassesOwn M A env E' → (∀ b, PassesOwnAt M (A.mark (some b)) A env E') → (∀ b, PassesOwn M (A.mark (some b)) env E') → wpAny M A (execs t env) Q E' s) : wpAny M A (execs t env) Q E s := h E hX hP hA hB
def Hsd (es as M U : List Str) (i j : Nat) : Prop := sd es as = (M ++ (sd (es.drop i) (as.drop j)).1, U ++ (sd (es.drop i) (as.drop j)).2)
section
variable {es as M U : List Str} {i j k l : Nat} {xe xa : Str}
theorem Hsd.lt (h : Hsd es as M U i j) (he : es.drop i = xe :: es.drop (i + 1)) (ha : as.drop j = xa :: as.drop (j + 1)) (hc : cpl xe < cpl xa) (hk : es.drop k = (es.drop (i + 1)).dropWhile (· == xe)) : Hsd es as (M ++ [xe]) U k j := by
  unfold Hsd at *
  rw [he, ha, sd_cons, if_pos hc] at h
  rw [h, hk, ha]
  simp
theorem Hsd.gt (h : Hsd es as M U i j) (he : es.drop i = xe :: es.drop (i + 1)) (ha : as.drop j = xa :: as.drop (j + 1)) (hc : ¬ cpl xe < cpl xa) (hd : cpl xa < cpl xe) (hk : as.drop k = (as.drop (j + 1)).dropWhile (· == xa)) : Hsd es as M (U ++ [xa]) i k := by
  unfold Hsd at *
  rw [he, ha, sd_cons, if_neg hc, if_pos hd] at h
  rw [h, hk, he]
  simp
theorem Hsd.eq (h : Hsd es as M U i j) (he : es.drop i = xe :: es.drop (i + 1)) (ha : as.drop j = xa :: as.drop (j + 1)) (hc : ¬ cpl xe < cpl xa) (hd : ¬ cpl xa < cpl xe) (hk : es.drop k = (es.drop (i + 1)).dropWhile (· == xe)) (hl : as.drop l = (as.drop (j + 1)).dropWhile (· == xa)) : Hsd es as M U k l := by
  unfold Hsd at *
  rw [he, ha, sd_cons, if_neg hc, if_neg hd] at h
  rw [h, hk, hl]
theorem Hsd.outE (h : Hsd es as M U es.length j) : sd es as = (M ++ es.drop es.length, U ++ as.drop j) := by
  unfold Hsd at h
  rw [List.drop_length, sd_nil] at h
  rw [h, List.drop_length]
theorem Hsd.outA (h : Hsd es as M U i as.length) : sd es as = (M ++ es.drop i, U ++ as.drop as.length) := by
  unfold Hsd at h
  rw [List.drop_length, sd_nil'] at h
  rw [h, List.drop_length]
end
theorem getE {prog : Program} {w : World} {A : Around} {E Q : Value → Shared → Prop} {s : Shared} {l : Addr} {vs : List Value} {k n : Nat} {t : Tok} (hA : A.handled = none) (hl : s.heap.get? l = some (lst vs n)) (hlen : vs.length = k) (hk : k ≤ 20)
    (h : ∀ h' tk e oe t0, (∀ b o, s.heap.get? b = some o → h'.get? b = some o) → s.heap.get? e = none → h'.get? e = some oe → excO "IndexError" t0 .none .none oe → E (.ref e) { s with heap := h', toks := tk }) : wpAny (model prog w) A (getItem (.ref l) (.int (k : Nat) t)) Q E s := by
  refine wpAny_getItem_list_out hA ⟨_, hl, rfl, _, rfl⟩ (.inr (by rw [List.size_toArray]; omega)) (by omega) (by omega) fun h' tk e hx => ?_
  obtain ⟨ob, t0, h1, h2, h3⟩ := hx.there
  exact h h' tk e ob t0 hx.keeps hx.new h1 ⟨h2, h3⟩
theorem sdiff_spec {w : World} {mg mb : Str → Option Value} {le la : Addr} {evs avs : List Value} {ne na : Nat} {es as : List Str}
  {dp un : Nat} {gd : Option (List Code)} {cn : Str} {cs : Scope} {a : Addr} {ccd : Value} {cl : List (Str × Addr)} {outer : List Env} {A₀ : Around} {base h₀ : Heap} {L : Addr} {m : Str → Option Value} {s : Shared} {Q E : Value → Shared → Prop} (B : Below A₀ base outer h₀) (F : Fr h₀ L s.heap m) (X : (KK w.params).In h₀) (N : News h₀ L s.heap [(le, lst evs ne), (la, lst avs na)]) (T : TopRead VV LL mg mb h₀) (hk : cs.kind = .function) (hdp : dp + 10 < recursionLimit) (hun : un + 100 < cLine) (XB : (KK w.params).In base) (TB : TopRead VV LL mg mb base) (hes : StrsAre evs es) (has : StrsAre avs as) (hel : es.length ≤ 20) (hal : as.length ≤ 20)
  (ret : ∀ r lm lu s', ExtS (L :: frs outer) [] s s' → s'.heap.get? r = some (tup [.ref lm, .ref lu] 0) → s.heap.get? r = none → s.heap.get? lm = none → s.heap.get? lu = none → SL s'.heap lm (sd es as).1 → SL s'.heap lu (sd es as).2 → Q (.ref r) s') :
  wpAny (model PySem.Challenge.pw_oy0243_01 w) (ktrTop dp un gd cn cs L a ccd cl outer) (call (.ref 270) [.ref le, .ref la]) Q E s := by
  refine wpAny_call ?_
  refine' enterM (binds := [(Str.ofString "expected", .ref le), (Str.ofString "actual", .ref la)]) B F X N T rfl rfl hk ?ho ?hcd ?hroom ?hbind ?hloc ?hb ?c1 ?c2 ?c3 ?c4
  case ho => k_is
  case hcd => k_is
  case hroom => exact up0 hdp
  case hbind => exact BindsTo.of_eq rfl
  case hloc => exact locs rfl
  case c1 => decide
  case c2 => exact rfl
  case c3 => exact rfl
  case c4 => exact rfl
  intro g L' h₁ tk₁ Kg F₁ N₁ B₁ X₁ T₁ hlt₁ hsz₁ hL₁
  first | refine' execsIs ?ebL ?_ | refine' execsIsAt ?ebL ?_
  case ebL => conv => lhs; whnf
  have og₀ := OG.refl s
  (try dsimp only)
  (try k_fold)
  refine wpAny_opq fun Qo hQo => ?_
  k_steps
  all_goals (try (with_reducible show Stop _; show wpAny _ _ _ _ _ _))
  (rename Fr _ _ _ _ => F2)
  (rename News _ _ _ _ => N2)
  rename_i lm hq3 lq1 hq2 tkq lu hq1 lq2 hq0
  show wpAny _ _ _ _ _ _
  refine whileS (SdInv s (ktrTop dp un gd cn cs L a ccd cl outer) base g (envX cn cs L a ccd cl :: outer) L' le la lm lu evs avs ne na es as) (es.length + as.length) ⟨g, _, 0, 0, [], [], ⟨ReG.refl _ _, B₁, B₁.stays, F2, ⟨[], 0, [], 0, N2, .nil, .nil⟩, rfl, rfl, rfl, rfl, ⟨_, rfl⟩, ⟨_, rfl⟩, Nat.zero_le _, Nat.zero_le _, Nat.le_refl _, Nat.le_refl _⟩, og₀, rfl, rfl⟩ ?_ ?_
  case refine_2 => passes_own
  have hlu : Hold (@Ne Nat lu lm) := Hold.mk (by omega)
  have hle : Hold (@Ne Nat le lm) := Hold.mk (by omega)
  have hla : Hold (@Ne Nat la lm) := Hold.mk (by omega)
  have hle2 : Hold (@Ne Nat le lu) := Hold.mk (by omega)
  have hla2 : Hold (@Ne Nat la lu) := Hold.mk (by omega)
  clear F2 N2
  intro n s₁ J
  obtain ⟨g', m₁, i, j, mis, unx, ⟨rG, B₂, bs, F3, ⟨mvs, nm, uvs, nu, N3, hms, hus⟩, he, ha, hm, hu, ⟨ti, hi⟩, ⟨tj, hj⟩, hil, hjl, hml, hul⟩, og₁, hn, hsd⟩ := J
  have hsd : Hsd es as mis unx i j := hsd
  have X₂ := XB.keeps bs
  have T₂ := TB.keeps bs
  have F4 := Fr_know (Str.ofString "i") (Fr_know (Str.ofString "j") (Fr_know (Str.ofString "expected") (Fr_know (Str.ofString "actual") (Fr_know (Str.ofString "missing") (Fr_know (Str.ofString "unexpected") F3 hu) hm) ha) he) hj) hi
  clear F3 he ha hm hu hi hj
  obtain ⟨h3, ge3, dr3, tk3, os3⟩ := s₁
  refine wpAny_opq fun Qp hQp => ?_
  k_steps
  all_goals (try (with_reducible show Stop _; show wpAny _ _ _ _ _ _))
  refine hQp _ _ ?_
  dsimp only
  rw [if_pos rfl]
  refine wpAny_opq fun Qp hQp => ?_
  k_steps
  all_goals (try (with_reducible show Stop _; show wpAny _ _ _ _ _ _))
  show wpAny _ _ (exec _ _) _ _ _
  refine wpAny_Try_except ?_
  refine opqX2 (SdExc s (ktrTop dp un gd cn cs L a ccd cl outer) base g (envX cn cs L a ccd cl :: outer) L' le la lm lu evs avs ne na es as) ?hX ?hP ?hA ?hB fun E1 hE1 hP1 hA1 hB1 => ?_
  case hX =>
    clear F4 N3 X₂ T₂ B₂ hms hus hil hjl hml hul og₁ hn hsd rG bs
    rintro x s₂ ⟨g', m₁, i, j, mis, unx, h, e, oe, t0, ctx, rfl, ⟨rG, B₂, bs, F3, ⟨mvs, nm, uvs, nu, N3, hms, hus⟩, he, ha, hm, hu, ⟨ti, hi⟩, ⟨tj, hj⟩, hil, hjl, hml, hul⟩, og₁, hsd, hcase⟩
    refine noteEither B₂ bs F3 N3 (hcase _ N3 ?hnn) ?_
    case hnn => exact allC (.head _) (allC (.tail _ (.head _)) (allC (mth 2 rfl) (allC (mth 3 rfl) allN)))
    intro g2 h4 T oe4 oT4 rG2 B3 bs3 F4 hx4 t4 ne4 hnT4 N4
    refine handleL (T' := "IndexError") F4 N4 hx4 t4 ne4 hnT4 (TB.keeps bs3) ?hfree PyProof.Rows.Boot.«IndexError» (by decide) PySem.F.isExc_IndexError PySem.F.notTuple_IndexError rfl ?_ ?hPA
    case hfree => exact TB.free _ (by decide +kernel) (by decide +kernel) (by decide +kernel) (by decide +kernel) (by decide +kernel)
    case hPA => passes_own
    intro h5 oT5 F5 N5
    have X5 := XB.keeps bs3
    have T5 := TB.keeps bs3
    have F5 := Fr_know (Str.ofString "expected") F5 he
    have F5 := Fr_know (Str.ofString "actual") F5 ha
    have F5 := Fr_know (Str.ofString "missing") F5 hm
    have F5 := Fr_know (Str.ofString "unexpected") F5 hu
    have F5 := Fr_know (Str.ofString "i") F5 hi
    have F5 := Fr_know (Str.ofString "j") F5 hj
    clear F3 N3 F4 N4
    k_steps
    all_goals (try (with_reducible show Stop _; show wpAny _ _ _ _ _ _))
    refine kms_slice_lit (its := evs.toArray) (lo := some (i : Int)) (hi := none) (zs := evs.drop i) F5 N5 ?hl ?hp ?hq (pick_from evs i (by rw [hes.len_eq]; exact hil)) ?_ ?hs ?ht ?hz
    case hl => exact ⟨_, (N5 _ (mth 4 rfl)).1, rfl, _, rfl⟩
    case hp => kmk_part
    case hq => kmk_part
    case hs => with_unfolding_all rfl
    case ht => kmk_pure
    case hz => (have := hes.len_eq; rw [List.size_toArray]; exact Nat.le_trans (show evs.length ≤ 1000 by omega) (by decide +kernel : 1000 ≤ sizeLine))
    intro D1 h6 F6 N6 lt6
    k_steps
    all_goals (try (with_reducible show Stop _; show wpAny _ _ _ _ _ _))
    have hvl := hms.len_eq
    have hul2 := hus.len_eq
    have ne1 : D1 ≠ lm := Ne.symm (Nat.ne_of_lt (lt6 _ (mth 3 rfl)))
    have ne2 : e ≠ lm := neExc (N6 _ (.tail _ (.head _))).1 hx4 (N6 _ (mth 4 rfl)).1
    have ne3 : T ≠ lm := Ne.symm (hnT4 _ (.tail _ (.head _)))
    refine lst_extend (pre := [(D1, _), (e, oe4), (T, oT5), (lu, lst uvs nu)]) (post := [(le, lst evs ne), (la, lst avs na)]) (ws := evs.drop i) (n2 := 0) F6 N6 (allC ne1 (allC ne2 (allC ne3 (allC hlu.out allN)))) (allC hle.out (allC hla.out allN)) (N6 _ (.head _)).1 (by omega) (by rw [List.length_drop]; have := hes.len_eq; omega) ?_
    intro n7 h7 F7 N7
    dsimp only [List.cons_append, List.nil_append] at N7
    clear F6 N6 F5 N5
    k_steps
    all_goals (try (with_reducible show Stop _; show wpAny _ _ _ _ _ _))
    refine kms_slice_lit (its := avs.toArray) (lo := some (j : Int)) (hi := none) (zs := avs.drop j) F7 N7 ?hl ?hp ?hq (pick_from avs j (by rw [has.len_eq]; exact hjl)) ?_ ?hs ?ht ?hz
    case hl => exact ⟨_, (N7 _ (mth 6 rfl)).1, rfl, _, rfl⟩
    case hp => kmk_part
    case hq => kmk_part
    case hs => with_unfolding_all rfl
    case ht => kmk_pure
    case hz => (have := has.len_eq; rw [List.size_toArray]; exact Nat.le_trans (show avs.length ≤ 1000 by omega) (by decide +kernel : 1000 ≤ sizeLine))
    intro D2 h8 F8 N8 lt8
    k_steps
    all_goals (try (with_reducible show Stop _; show wpAny _ _ _ _ _ _))
    have nf1 : D2 ≠ lu := Ne.symm (Nat.ne_of_lt (lt8 _ (mth 3 rfl)))
    have nf2 : D1 ≠ lu := Ne.symm (Nat.ne_of_lt (lt6 _ (mth 2 rfl)))
    have nf3 : e ≠ lu := neExc (N8 _ (mth 2 rfl)).1 hx4 (N8 _ (mth 4 rfl)).1
    have nf4 : T ≠ lu := Ne.symm (hnT4 _ (.head _))
    refine lst_extend (pre := [(D2, _), (D1, _), (e, oe4), (T, oT5)]) (post := [(lm, lst (mvs ++ evs.drop i) n7), (le, lst evs ne), (la, lst avs na)]) (ws := avs.drop j) (n2 := 0) F8 N8 (allC nf1 (allC nf2 (allC nf3 (allC nf4 allN)))) (allC (Ne.symm hlu.out) (allC hle2.out (allC hla2.out allN))) (N8 _ (.head _)).1 (by omega) (by rw [List.length_drop]; have := has.len_eq; omega) ?_
    intro n9 h9 F9 N9
    dsimp only [List.cons_append, List.nil_append] at N9
    clear F8 N8 F7 N7
    k_steps
    all_goals (try (with_reducible show Stop _; show wpAny _ _ _ _ _ _))
    dsimp only
    refine hQp _ _ ?_
    dsimp only
    k_steps
    all_goals (try (with_reducible show Stop _; show wpAny _ _ _ _ _ _))
    (rename Fr _ _ _ _ => F10)
    (rename News _ _ _ _ => N10)
    refine hQo _ _ ?_
    refine ret _ lm lu _ (extOutS Kg (rG.trans rG2) F10.keep N (fun b hb => hb) (allC (.inr ?k1) (allC (.inr ?k2) allN)) rfl og₁) (N10 _ (.head _)).1 (newOut4 Kg (regBack (rG.trans rG2) (N10 _ (.head _)).2.2) (allC (by show @Ne Nat _ _; omega) (allC (by show @Ne Nat _ _; omega) allN))) (newOut4 Kg (regBack (rG.trans rG2) (N10 _ (mth 6 rfl)).2.2) (allC hle.out (allC hla.out allN))) (newOut4 Kg (regBack (rG.trans rG2) (N10 _ (mth 5 rfl)).2.2) (allC hle2.out (allC hla2.out allN))) ⟨_, _, (N10 _ (mth 6 rfl)).1, ?s1⟩ ⟨_, _, (N10 _ (mth 5 rfl)).1, ?s2⟩
    case k1 => exact (N10 _ (mth 7 rfl)).1
    case k2 => exact (N10 _ (mth 8 rfl)).1
    case s1 => (rw [hsd]; exact hms.append' (strs_drop hes i))
    case s2 => (rw [hsd]; exact hus.append' (strs_drop has j))
  case hP => passes_own
  case hA => intro b; passes_own
  case hB => intro b; passes_own
  refine wpAny_opq fun Qt hQt => ?_
  k_steps
  all_goals (try (with_reducible show Stop _; show wpAny _ _ _ _ _ _))
  by_cases hi1 : i < es.length
  case neg =>
    have hie : i = es.length := by omega
    subst hie
    (rename Fr _ _ _ _ => F5)
    (rename News _ _ _ _ => N5)
    refine tail_any (T := "list") ⟨_, (N5 _ (mth 2 rfl)).1, rfl⟩ slot_list_getitem.lookup (getE rfl (N5 _ (mth 2 rfl)).1 hes.len_eq hel fun h' tk e oe t0 e1 e2 e3 e4 => ?_) (by with_unfolding_all rfl)
    exact hE1 _ _ ⟨g', _, es.length, j, mis, unx, _, e, oe, t0, .none, rfl, ⟨rG, B₂, bs, F5, ⟨mvs, nm, uvs, nu, N5, hms, hus⟩, rfl, rfl, rfl, rfl, ⟨_, rfl⟩, ⟨_, rfl⟩, hil, hjl, hml, hul⟩, og₁, hsd.outE, fun news _ _ => .inl ⟨e1, e2, e3, e4⟩⟩
  (rename Fr _ _ _ _ => F5)
  (rename News _ _ _ _ => N5)
  refine KTb.item_list (ws := es) ⟨_, (N5 _ (mth 2 rfl)).1, rfl, _, rfl⟩ hes (by omega) (by omega) (by omega) fun t1 _ => ?_
  rw [Int.toNat_natCast, List.getD_eq_getElem?_getD, List.getElem?_eq_getElem hi1, Option.getD_some]
  have hdi : es.drop i = es[i] :: es.drop (i + 1) := List.drop_eq_getElem_cons hi1
  generalize es[i] = xe at hdi ⊢
  k_steps
  all_goals (try (with_reducible show Stop _; show wpAny _ _ _ _ _ _))
  by_cases hj1 : j < as.length
  case neg =>
    have hje : j = as.length := by omega
    subst hje
    (rename Fr _ _ _ _ => F6)
    (rename News _ _ _ _ => N6)
    refine tail_any (T := "list") ⟨_, (N6 _ (mth 3 rfl)).1, rfl⟩ slot_list_getitem.lookup (getE rfl (N6 _ (mth 3 rfl)).1 has.len_eq hal fun h' tk e oe t0 e1 e2 e3 e4 => ?_) (by with_unfolding_all rfl)
    exact hE1 _ _ ⟨g', _, i, as.length, mis, unx, _, e, oe, t0, .none, rfl, ⟨rG, B₂, bs, F6, ⟨mvs, nm, uvs, nu, N6, hms, hus⟩, rfl, rfl, rfl, rfl, ⟨_, rfl⟩, ⟨_, rfl⟩, hil, hjl, hml, hul⟩, og₁, hsd.outA, fun news _ _ => .inl ⟨e1, e2, e3, e4⟩⟩
  (rename Fr _ _ _ _ => F6)
  (rename News _ _ _ _ => N6)
  refine KTb.item_list (ws := as) ⟨_, (N6 _ (mth 3 rfl)).1, rfl, _, rfl⟩ has (by omega) (by omega) (by omega) fun t2 _ => ?_
  rw [Int.toNat_natCast, List.getD_eq_getElem?_getD, List.getElem?_eq_getElem hj1, Option.getD_some]
  have hdj : as.drop j = as[j] :: as.drop (j + 1) := List.drop_eq_getElem_cons hj1
  generalize as[j] = xa at hdj ⊢
  k_steps
  all_goals (try (with_reducible show Stop _; show wpAny _ _ _ _ _ _))
  · (rename Fr _ _ _ _ => F7)
    (rename News _ _ _ _ => N7)
    simp only [List.push_toArray] at N7
    have hcmp : cpl xe < cpl xa := by assumption
    show wpAny _ _ _ _ _ _
    refine dropE (mis := mis ++ [xe]) (unx := unx) (i := i + 1) (j := j) (ctx := .none) (ex := []) X₂ T₂ ⟨rG, B₂, bs, F7, ⟨mvs ++ [.str xe t1], nm + 1, uvs, nu, N7, hms.append' (.cons _ _ .nil), hus⟩, rfl, rfl, rfl, rfl, ⟨_, rfl⟩, ⟨_, rfl⟩, by omega, hjl, by simp; omega, hul⟩ hes has hel hal rfl ?hget ?done ?out hP1
    case hget =>
      intro s₅ m' t Q1 c hk
      obtain ⟨mv', nm', uv', nu', N', _, _⟩ := c.N
      exact getE rfl (N' _ (mth 2 rfl)).1 hes.len_eq hel hk
    case done =>
      intro m' k h' tk c hm hik hd
      have hs' := hsd.lt hdi hdj hcmp hd
      clear F7 N7
      dsimp only
      (repeat (refine wpAny_execs_nil ?_; try dsimp only))
      refine hQt _ _ ?_
      dsimp only
      (repeat (refine wpAny_execs_nil ?_; try dsimp only))
      refine hQp _ _ ?_
      dsimp only
      exact Hold.mk ⟨_, (by have := c.hil; omega : (es.length - k) + (as.length - j) < n), g', m', k, j, mis ++ [xe], unx, c, og₁, rfl, hs'⟩
    case out =>
      intro m' h' h₂ tk e oe t0 c hm hd k1 k2 k3 k4
      exact hE1 _ _ ⟨g', m', es.length, j, mis ++ [xe], unx, h', e, oe, t0, .none, rfl, c, og₁, (hsd.lt hdi hdj hcmp (by rw [hd, List.drop_length])).outE, fun news _ _ => .inl ⟨k1, k2, k3, k4⟩⟩
  · (rename Fr _ _ _ _ => F7)
    (rename News _ _ _ _ => N7)
    simp only [List.push_toArray] at N7
    have hcmp : ¬ cpl xe < cpl xa := by assumption
    have hcmp2 : cpl xa < cpl xe := by assumption
    show wpAny _ _ _ _ _ _
    refine dropA (mis := mis) (unx := unx ++ [xa]) (i := i) (j := j + 1) (ctx := .none) (ex := []) X₂ T₂ ⟨rG, B₂, bs, F7, ⟨mvs, nm, uvs ++ [.str xa t2], nu + 1, N7, hms, hus.append' (.cons _ _ .nil)⟩, rfl, rfl, rfl, rfl, ⟨_, rfl⟩, ⟨_, rfl⟩, hil, by omega, hml, by simp; omega⟩ hes has hel hal rfl ?hget ?done ?out hP1
    case hget =>
      intro s₅ m' t Q1 c hk
      obtain ⟨mv', nm', uv', nu', N', _, _⟩ := c.N
      exact getE rfl (N' _ (mth 3 rfl)).1 has.len_eq hal hk
    case done =>
      intro m' k h' tk c hm hik hd
      have hs' := hsd.gt hdi hdj hcmp hcmp2 hd
      clear F7 N7
      dsimp only
      (repeat (refine wpAny_execs_nil ?_; try dsimp only))
      refine hQt _ _ ?_
      dsimp only
      (repeat (refine wpAny_execs_nil ?_; try dsimp only))
      refine hQp _ _ ?_
      dsimp only
      exact Hold.mk ⟨_, (by have := c.hjl; omega : (es.length - i) + (as.length - k) < n), g', m', i, k, mis, unx ++ [xa], c, og₁, rfl, hs'⟩
    case out =>
      intro m' h' h₂ tk e oe t0 c hm hd k1 k2 k3 k4
      exact hE1 _ _ ⟨g', m', i, as.length, mis, unx ++ [xa], h', e, oe, t0, .none, rfl, c, og₁, (hsd.gt hdi hdj hcmp hcmp2 (by rw [hd, List.drop_length])).outA, fun news _ _ => .inl ⟨k1, k2, k3, k4⟩⟩
  · (rename Fr _ _ _ _ => F7)
    (rename News _ _ _ _ => N7)
    have hcmp : ¬ cpl xe < cpl xa := by assumption
    have hcmp2 : ¬ cpl xa < cpl xe := by assumption
    show wpAny _ _ _ _ _ _
    refine dropE (mis := mis) (unx := unx) (i := i + 1) (j := j) (ctx := .none) (ex := []) X₂ T₂ ⟨rG, B₂, bs, F7, ⟨mvs, nm, uvs, nu, N7, hms, hus⟩, rfl, rfl, rfl, rfl, ⟨_, rfl⟩, ⟨_, rfl⟩, by omega, hjl, by omega, hul⟩ hes has hel hal rfl ?hget ?done ?out ?hE
    case hE => passes_own
    case hget =>
      intro s₅ m' t Q1 c hk
      obtain ⟨mv', nm', uv', nu', N', _, _⟩ := c.N
      exact getE rfl (N' _ (mth 2 rfl)).1 hes.len_eq hel hk
    case done =>
      intro m1 k1 h4 tk4 c1 hm1 hik1 hd1
      clear F7 N7
      dsimp only
      (repeat (refine wpAny_execs_nil ?_; try dsimp only))
      refine wpAny_passesOwn hP1 ?_
      refine wpAny_execs_cons ?_
      refine incJ X₂ T₂ c1 hal hj1 ?_
      intro m2 h5 tk5 c2 hm2
      dsimp only
      refine wpAny_execs_cons ?_
      refine dropA (y := xa) (ctx := .none) (ex := []) X₂ T₂ c2 hes has hel hal ((hm2 _ (by decide)).trans ((hm1 _ (by decide)).trans rfl)) ?hget1 ?done1 ?out1 hP1
      case hget1 =>
        intro s₅ m' t Q1 c hk
        obtain ⟨mv', nm', uv', nu', N', _, _⟩ := c.N
        exact getE rfl (N' _ (mth 3 rfl)).1 has.len_eq hal hk
      case done1 =>
        intro m' k h' tk c hm hik hd
        have hs' := hsd.eq hdi hdj hcmp hcmp2 hd1 hd
        dsimp only
        (repeat (refine wpAny_execs_nil ?_; try dsimp only))
        refine hQt _ _ ?_
        dsimp only
        (repeat (refine wpAny_execs_nil ?_; try dsimp only))
        refine hQp _ _ ?_
        dsimp only
        exact Hold.mk ⟨_, (by have := c.hjl; have := c.hil; omega : (es.length - k1) + (as.length - k) < n), g', m', k1, k, mis, unx, c, og₁, rfl, hs'⟩
      case out1 =>
        intro m' h' h₂ tk e oe t0 c hm hd k1' k2 k3 k4
        exact hE1 _ _ ⟨g', m', k1, as.length, mis, unx, h', e, oe, t0, .none, rfl, c, og₁, (hsd.eq hdi hdj hcmp hcmp2 hd1 (by rw [hd, List.drop_length])).outA, fun news _ _ => .inl ⟨k1', k2, k3, k4⟩⟩
    case out =>
      intro m1 h4 h₂ tk e oe t0 c1 hm1 hd1 k1 k2 k3 k4
      clear F7 N7
      obtain ⟨mv', nm', uv', nu', N4, hms4, hus4⟩ := c1.N
      refine finallyNew c1.B c1.F N4 k1 k2 k3 k4 ?_ (hA1 _)
      intro g2 h5 T oe5 oT5 rG2 B3 bs3 F5 hx5 ht5 hne5 hnT5 N5
      have X₃ := XB.keeps bs3
      have T₃ := TB.keeps bs3
      have c2 : SdC (ktrTop dp un gd cn cs L a ccd cl outer) base g (envX cn cs L a ccd cl :: outer) L' le la lm lu evs avs ne na es as g2 m1 es.length j mis unx [(e, oe5), (T, oT5)] h5 := ⟨rG.trans rG2, B3, bs3, F5, ⟨mv', nm', uv', nu', allC (N5 _ (mth 2 rfl)) (allC (N5 _ (mth 3 rfl)) (allC (N5 _ (mth 4 rfl)) (allC (N5 _ (mth 5 rfl)) (allC (N5 _ (.head _)) (allC (N5 _ (.tail _ (.head _))) allN))))), hms4, hus4⟩, c1.he, c1.ha, c1.hm, c1.hu, c1.hi, c1.hj, c1.hil, c1.hjl, c1.hml, c1.hul⟩
      have nT : @Ne Nat lu T ∧ @Ne Nat lm T ∧ @Ne Nat le T ∧ @Ne Nat la T := ⟨hnT5 (lu, _) (.head _), hnT5 (lm, _) (.tail _ (.head _)), hnT5 (le, _) (mth 2 rfl), hnT5 (la, _) (mth 3 rfl)⟩
      clear F5 N5 N4
      refine wpAny_execs_cons ?_
      refine incJ X₃ T₃ c2 hal hj1 ?_
      intro m2 h6 tk6 c3 hm2
      dsimp only
      refine wpAny_execs_cons ?_
      refine dropA (y := xa) (ctx := .ref e) (ex := [(e, oe5), (T, oT5)]) X₃ T₃ c3 hes has hel hal ((hm2 _ (by decide)).trans ((hm1 _ (by decide)).trans rfl)) ?hget2 ?done2 ?out2 (hB1 _)
      case hget2 =>
        intro s₅ m' t Q1 c hk
        obtain ⟨mv', nm', uv', nu', N', _, _⟩ := c.N
        exact getItem_out_in rfl (N' _ (mth 4 rfl)).1 hx5 ⟨_, (N' _ (mth 3 rfl)).1, rfl, _, rfl⟩ (by have := has.len_eq; rw [List.size_toArray]; omega) (by omega) (by omega) fun h' tk e' oe' t0' q1 q2 q3 q4 => hk h' tk e' oe' t0' q1 q2 q3 q4
      case done2 =>
        intro m' k h' tk c hm hik hd
        have hs' := hsd.eq hdi hdj hcmp hcmp2 (k := es.length) (by rw [hd1, List.drop_length]) hd
        obtain ⟨mv', nm', uv', nu', N7, hms7, hus7⟩ := c.N
        dsimp only
        (repeat (refine wpAny_execs_nil ?_; try dsimp only))
        refine passOnL (news := [(lu, lst uv' nu'), (lm, lst mv' nm'), (le, lst evs ne), (la, lst avs na)]) c.F (allC (N7 _ (mth 4 rfl)) (allC (N7 _ (mth 5 rfl)) (allC (N7 _ (.head _)) (allC (N7 _ (.tail _ (.head _))) (allC (N7 _ (mth 2 rfl)) (allC (N7 _ (mth 3 rfl)) allN)))))) hx5 ht5 hne5 (allC nT.1 (allC nT.2.1 (allC nT.2.2.1 (allC nT.2.2.2 allN)))) ?_
        intro h8 oT8 ht8 F8 N8
        refine hE1 _ _ ⟨g2, m', es.length, k, mis, unx, h8, e, oe5, _, .none, rfl, ⟨c.rG, c.B, c.bs, F8, ⟨mv', nm', uv', nu', fun p hp => N8 p (.tail _ (.tail _ hp)), hms7, hus7⟩, c.he, c.ha, c.hm, c.hu, c.hi, c.hj, c.hil, c.hjl, c.hml, c.hul⟩, og₁, hs'.outE, fun news _ hn => .inr ⟨rfl, T, oT8, N8 _ (.head _), N8 _ (.tail _ (.head _)), hx5, ht8, hne5, fun p hp => ?_⟩⟩
        have z := hn p hp
        simp only [List.mem_cons, List.not_mem_nil, or_false] at z
        rcases z with z | z | z | z <;> rw [z]
        · exact nT.1
        · exact nT.2.1
        · exact nT.2.2.1
        · exact nT.2.2.2
      case out2 =>
        intro m' h' h₂' tk' e' oe' t0' c hm hd q1 q2 q3 q4
        exact hE1 _ _ ⟨g2, m', es.length, as.length, mis, unx, h', e', oe', t0', .ref e, rfl, c.noEx, og₁, (hsd.eq hdi hdj hcmp hcmp2 (k := es.length) (by rw [hd1, List.drop_length]) (by rw [hd, List.drop_length])).outE, fun news _ _ => .inl ⟨q1, q2, q3, q4⟩⟩
end
-- A31
section
open PySem PySem.W PySem.Spec PySem.Calls PyProof.Rows
set_option maxRecDepth 100000
set_option maxHeartbeats 3000000
local macro_rules | `(tactic| walk_at "none 1") => `(tactic| skip)
local macro_rules | `(tactic| walk_at "exec For Name Name cons nil") => `(tactic| k_dflt (refine wpAny_For ?_))
def StopA (p : Prop) : Prop := p
theorem StopA.mk {p : Prop} (h : StopA p) : p := h
local macro_rules | `(tactic| walk_at "exec For Name Call cons nil") => `(tactic| k_dflt (refine wpAny_For ?_))
local macro_rules | `(tactic| walk_at "execs cons Assign cons") => `(tactic| ((with_reducible refine wpAny_execs_cons ?_); try dsimp only))
local macro_rules | `(tactic| walk_at "call builtin:sorted") => `(tactic| refine StopA.mk ?_)
local macro_rules | `(tactic| walk_at "call builtin:max") => `(tactic| refine StopA.mk ?_)
local macro_rules | `(tactic| walk_at "compareOp NotIn") => `(tactic| refine StopA.mk ?_)
inductive AlInv (s0 : Shared) (lt ls al : Addr) (svs : List Value) (e3 : Nat) (bs ss : List Str) (i : Nat) (m : Str → Option Value) (news : List (Addr × Obj)) (s : Shared) : Prop
  | mk : ∀ avs na, (OG s0 s.os s.gens) → (m (Str.ofString "others") = some (.ref lt)) → (m (Str.ofString "alone") = some (.ref al)) → (news = [(ls, lst svs e3), (al, lst avs na)]) → (StrsAre avs ((ss.take i).foldl (alS bs) [])) → (avs.length ≤ i) → AlInv s0 lt ls al svs e3 bs ss i m news s
theorem alS_in {B acc : List Str} {a : Str} (h : a ∈ B) : alS B acc a = acc := if_neg fun q => q.1 h
theorem alS_new {B acc : List Str} {a : Str} (h : a ∉ B) (h2 : a ∉ acc) : alS B acc a = acc ++ [a] := if_pos ⟨h, .inl h2⟩
theorem alS_max {B acc : List Str} {a mx : Str} (h : a ∉ B) (hm : mx ∈ B) (hx : ∀ y ∈ B, ¬ cpl mx < cpl y) (h2 : cpl mx < cpl a) : alS B acc a = acc ++ [a] := if_pos ⟨h, .inr ((lt_max hm hx).mp h2)⟩
theorem alS_old {B acc : List Str} {a mx : Str} (h1 : a ∈ acc) (hm : mx ∈ B) (hx : ∀ y ∈ B, ¬ cpl mx < cpl y) (h2 : ¬ cpl mx < cpl a) : alS B acc a = acc := if_neg fun q => q.2.elim (fun z => z h1) fun z => h2 ((lt_max hm hx).mpr z)
theorem of_any {l : List Str} {x : Str} (h : (l.any (· == x)) = true) : x ∈ l := by
  obtain ⟨y, hy, e⟩ := List.any_eq_true.mp h
  exact eq_of_beq e ▸ hy
theorem any_in {l : List Str} {x : Str} (h : x ∈ l) : (l.any (· == x)) = true := List.any_eq_true.mpr ⟨x, h, by simp⟩
theorem any_not {l : List Str} {x : Str} (h : x ∉ l) : (l.any (· == x)) = false := List.any_eq_false.mpr fun y hy e => h (eq_of_beq e ▸ hy)
theorem alone_spec {w : World} {mg mb : Str → Option Value} {lo lt : Addr} {as bs : List Str}
  {dp un : Nat} {gd : Option (List Code)} {cn : Str} {cs : Scope} {a : Addr} {ccd : Value} {cl : List (Str × Addr)} {outer : List Env} {A₀ : Around} {base h₀ : Heap} {L : Addr} {m : Str → Option Value} {s : Shared} {Q E : Value → Shared → Prop} (B : Below A₀ base outer h₀) (F : Fr h₀ L s.heap m) (X : (KK w.params).In h₀) (T : TopRead VV LL mg mb h₀) (hk : cs.kind = .function) (hdp : dp + 3 < recursionLimit) (hun : un + 60 < cLine) (hl : SL s.heap lo as) (hl2 : SL s.heap lt bs) (hn : as.length ≤ 20) (hn2 : bs.length ≤ 20) (hne : 0 < bs.length)
  (ret : ∀ r s', Ext s s' → (∀ ss, ss.Perm as → Asc ss → SL s'.heap r (alP bs none ss)) → s.heap.get? r = none → Q (.ref r) s') :
  wpAny (model PySem.Challenge.pw_oy0243_01 w) (ktrTop dp un gd cn cs L a ccd cl outer) (call (.ref 317) [.ref lo, .ref lt]) Q E s := by
  refine wpAny_call ?_
  refine' enterP (binds := [(Str.ofString "ones", .ref lo), (Str.ofString "others", .ref lt)]) B F X T rfl rfl hk ?ho ?hcd ?hroom ?hbind ?hloc ?hb ?c1 ?c2 ?c3 ?c4
  case ho => k_is
  case hcd => k_is
  case hroom => exact up0 hdp
  case hbind => exact BindsTo.of_eq rfl
  case hloc => exact locs rfl
  case c1 => decide
  case c2 => exact rfl
  case c3 => exact rfl
  case c4 => exact rfl
  intro L' h₁ tk₁ F₁ N₁ B₁ X₁ T₁ hL₁
  first | refine' execsIs ?ebL ?_ | refine' execsIsAt ?ebL ?_
  case ebL => conv => lhs; whnf
  have og₀ := OG.refl s
  (try dsimp only)
  (try k_fold)
  obtain ⟨vs, n, hget, hstrs⟩ := hl
  obtain ⟨vs2, n2, hget2, hstrs2⟩ := hl2
  have hlst : s.heap.IsList lo vs.toArray := ⟨_, hget, rfl, _, rfl⟩
  have hlen : vs.length = as.length := hstrs.len_eq
  have hlen2 : vs2.length = bs.length := hstrs2.len_eq
  refine wpAny_opq fun Qo hQo => ?_
  k_steps
  (rename Fr _ _ _ _ => F2)
  (rename News _ _ _ _ => N2)
  show wpAny _ _ _ _ _ _
  have hlst2 : (show Heap from _).IsList lo vs.toArray := hlst.at fun o e => F2.keep lo o e
  rename_i al hq3 lq1 hq2
  refine sorted_L F2 N2 hlst2 hstrs (by omega) ?_
  intro h3 ls svs ss e3 F3 N3 lsn lsne lsk hss hperm hasc
  have hlsal : @Ne Nat ls al := Ne.symm (lsne _ (.head _))
  have hsl : ss.length ≤ 20 := by rw [hperm.length_eq]; exact hn
  clear F2 N2 hlst2 lsn lsne lsk
  k_steps
  refine forL (AlInv s lt ls al svs e3 bs ss) rfl rfl rfl rfl F3 N3 (.inr ⟨_, .head _, rfl, _, rfl⟩) ?_ ?_ ?_ ?_
  · exact ⟨[], 0, by assumption, rfl, rfl, rfl, .nil, Nat.le_refl _⟩
  · clear F3 N3
    rintro i v m₁ news₁ s₁ h₂ tk I oI hv ⟨avs, na, og1, hm1, hm2, rfl, hav, hal⟩ off S F4 N4
    obtain ⟨w9, tw9, rfl, hw9⟩ := SL.at hss hv
    have F5 := Fr_know (Str.ofString "others") (Fr_know (Str.ofString "alone") F4 (show m₁ _ = _ from hm2)) (show m₁ _ = _ from hm1)
    clear F4
    have hIal : @Ne Nat I al := Ne.symm (off _ (.tail _ (.head _)))
    have o1 : @Ne Nat ls I := off (ls, lst svs e3) (.head _)
    have o2 : @Ne Nat al I := off (al, lst avs na) (.tail _ (.head _))
    have off' : ∀ x, ∀ p ∈ [(ls, lst svs e3), (al, x)], p.1 ≠ I := fun x => allC o1 (allC o2 allN)
    have hi : i < ss.length := by
      rcases Nat.lt_or_ge i ss.length with h | h
      · exact h
      · rw [List.getElem?_eq_none h] at hw9; cases hw9
    refine wpAny_opq fun Qp hQp => ?_
    k_steps
    refine notin_list_strs ⟨_, F5.keep _ _ hget2, rfl, _, rfl⟩ hstrs2 ?_
    by_cases hb : w9 ∈ bs
    · rw [any_in hb]
      k_steps
      refine hQp _ _ ?_
      show Hold _
      exact Hold.mk ⟨_, [(ls, lst svs e3), (al, lst avs na)], by assumption, by assumption, off' _, .inr ⟨_, .head _, rfl, _, rfl⟩, avs, na, by assumption, rfl, rfl, rfl, by rw [take_snoc hw9, List.foldl_append, List.foldl_cons, List.foldl_nil, alS_in hb]; exact hav, by omega⟩
    · rw [any_not hb]
      k_steps
      · rename_i hany
        have hc : w9 ∈ (ss.take i).foldl (alS bs) [] := of_any hany
        show wpAny _ _ _ _ _ _
        refine max_strs rfl F5 N4 ⟨_, F5.keep _ _ hget2, rfl, _, rfl⟩ hstrs2 hne ?_
        intro h6 tk6 t6 mx hmx hmx2 F6 N6
        clear F5 N4
        k_steps
        · refine hQp _ _ ?_
          show Hold _
          (rename News _ _ _ _ => Nz)
          simp only [List.push_toArray] at Nz
          exact Hold.mk ⟨_, [(ls, lst svs e3), (al, lst (avs ++ [_]) _)], by assumption, Nz, off' _, .inr ⟨_, .head _, rfl, _, rfl⟩, avs ++ [_], _, by assumption, rfl, rfl, rfl, by rw [take_snoc hw9, List.foldl_append, List.foldl_cons, List.foldl_nil, alS_max hb hmx hmx2 (by assumption)]; exact hav.append' (.cons _ _ .nil), by simp; omega⟩
        · refine hQp _ _ ?_
          show Hold _
          exact Hold.mk ⟨_, [(ls, lst svs e3), (al, lst avs na)], by assumption, by assumption, off' _, .inr ⟨_, .head _, rfl, _, rfl⟩, avs, na, by assumption, rfl, rfl, rfl, by rw [take_snoc hw9, List.foldl_append, List.foldl_cons, List.foldl_nil, alS_old hc hmx hmx2 (by assumption)]; exact hav, by omega⟩
      · have hc : w9 ∉ (ss.take i).foldl (alS bs) [] := fun q => absurd ((any_in q).symm.trans (show _ = false from by assumption)) (by decide)
        refine hQp _ _ ?_
        show Hold _
        (rename News _ _ _ _ => Nz)
        simp only [List.push_toArray] at Nz
        exact Hold.mk ⟨_, [(ls, lst svs e3), (al, lst (avs ++ [_]) _)], by assumption, Nz, off' _, .inr ⟨_, .head _, rfl, _, rfl⟩, avs ++ [_], _, by assumption, rfl, rfl, rfl, by rw [take_snoc hw9, List.foldl_append, List.foldl_cons, List.foldl_nil, alS_new hb hc]; exact hav.append' (.cons _ _ .nil), by simp; omega⟩
  · clear F3 N3
    rintro m₁ news₁ s₁ h₂ ⟨avs, na, og1, hm1, hm2, rfl, hav, hal⟩ F4 N4
    have F5 := Fr_know (Str.ofString "alone") F4 (show m₁ _ = _ from hm2)
    clear F4
    rw [hss.len_eq, List.take_length, alS_law bs ss [] hasc .nil (fun x hx => absurd hx List.not_mem_nil), List.nil_append, List.getLast?_nil] at hav
    k_steps
    refine hQo _ _ ?_
    have z := N4 (al, lst avs na) (.tail _ (.head _))
    refine ret al _ (Ext.mk2 (Fr.keep F5) og1) (fun ss' hp' ha' => ?_) z.2.2
    rw [asc_unique (hp'.trans hperm.symm) ha' hasc]
    exact ⟨avs, na, z.1, hav⟩
  · passes_own
end
-- A32
section
open PySem PySem.W PySem.Spec PySem.Calls PyProof.Rows
set_option maxRecDepth 100000
set_option maxHeartbeats 3000000
local macro_rules | `(tactic| walk_at "none 2") => `(tactic| skip)
local macro_rules | `(tactic| walk_at "call ref cons nil") => `(tactic| refine Stop.mk ?_)
local macro_rules | `(tactic| walk_at "call ref nil") => `(tactic| refine Stop.mk ?_)
local macro_rules | `(tactic| walk_at "pyIter ref") => `(tactic| refine Stop.mk ?_)
local macro_rules | `(tactic| walk_at "call builtin:sorted") => `(tactic| refine Stop.mk ?_)
local macro_rules | `(tactic| walk_at "compareOp NotEq ref ref") => `(tactic| refine Stop.mk ?_)
local macro_rules | `(tactic| walk_at "compareOp Eq ref ref") => `(tactic| refine Stop.mk ?_)
local macro_rules | `(tactic| walk_at "exec For Name Name cons nil") => `(tactic| refine Stop.mk ?_)
theorem entNewS {g g' h h' : Heap} {outer : List Env} {L t : Addr} {m : Str → Option Value} {o : Obj} (F : Fr g L h m) (R : ReG outer g g') (hn : h.get? t = none) (ht : h'.get? t = some o) : Ent g' L h' (t, o) := by
  refine ⟨ht, fun e => ?_, R.none _ ?_⟩
  · obtain ⟨oL, es, ep, q, _⟩ := F.ns
    rw [show t = L from e, q] at hn
    cases hn
  · cases e : g.get? t with
    | none => rfl
    | some o => rw [F.keep _ _ e] at hn; cases hn
inductive DfInv (s0 : Shared) (lo lt rt mr : Addr) (vs vs2 : List Value) (n n2 : Nat) (as bs : List Str) (i : Nat) (m : Str → Option Value) (news : List (Addr × Obj)) (s : Shared) : Prop
  | mk : ∀ mv nm rv nr, (OG s0 s.os s.gens) → (m (Str.ofString "ones") = some (.ref lo)) → (m (Str.ofString "others") = some (.ref lt)) → (m (Str.ofString "rest") = some (.ref rt)) → (m (Str.ofString "more") = some (.ref mr)) → (news = [(mr, lst mv nm), (rt, lst rv nr), (lo, lst vs n), (lt, lst vs2 n2)]) → (StrsAre mv ((as.take i).foldl unS ([], bs)).1) → (StrsAre rv ((as.take i).foldl unS ([], bs)).2) → DfInv s0 lo lt rt mr vs vs2 n n2 as bs i m news s
theorem alP_perm {B B' as : List Str} {p : Option Str} (h : B.Perm B') : alP B p as = alP B' p as := alP_congr as p fun x _ => ⟨h.mem_iff, fun q y hy => q y (h.mem_iff.mpr hy), fun q y hy => q y (h.mem_iff.mp hy)⟩
theorem entNewX {g h h' : Heap} {L t : Addr} {m : Str → Option Value} {o : Obj} (F : Fr g L h m) (hn : h.get? t = none) (ht : h'.get? t = some o) : Ent g L h' (t, o) := entNewS F (ReG.refl [] g) hn ht
theorem differ_spec {w : World} {mg mb : Str → Option Value} {lo lt : Addr} {vs vs2 : List Value} {n n2 : Nat} {as bs : List Str}
  {dp un : Nat} {gd : Option (List Code)} {cn : Str} {cs : Scope} {a : Addr} {ccd : Value} {cl : List (Str × Addr)} {outer : List Env} {A₀ : Around} {base h₀ : Heap} {L : Addr} {m : Str → Option Value} {s : Shared} {Q E : Value → Shared → Prop} (B : Below A₀ base outer h₀) (F : Fr h₀ L s.heap m) (X : (KK w.params).In h₀) (N : News h₀ L s.heap [(lo, lst vs n), (lt, lst vs2 n2)]) (T : TopRead VV LL mg mb h₀) (hk : cs.kind = .function) (hdp : dp + 20 < recursionLimit) (hun : un + 200 < cLine) (XB : (KK w.params).In base) (TB : TopRead VV LL mg mb base) (hstrs : StrsAre vs as) (hstrs2 : StrsAre vs2 bs) (hal : as.length ≤ 20) (hbl : bs.length ≤ 20) (hane : 0 < as.length) (hbne : 0 < bs.length)
  (ret : ∀ s', ExtS (L :: frs outer) [] s s' → Q (.bool true) s') :
  wpAny (model PySem.Challenge.pw_oy0243_01 w) (ktrTop dp un gd cn cs L a ccd cl outer) (call (.ref 324) [.ref lo, .ref lt]) Q E s := by
  refine wpAny_call ?_
  refine' enterM (binds := [(Str.ofString "ones", .ref lo), (Str.ofString "others", .ref lt)]) B F X N T rfl rfl hk ?ho ?hcd ?hroom ?hbind ?hloc ?hb ?c1 ?c2 ?c3 ?c4
  case ho => k_is
  case hcd => k_is
  case hroom => exact up0 hdp
  case hbind => exact BindsTo.of_eq rfl
  case hloc => exact locs rfl
  case c1 => decide
  case c2 => exact rfl
  case c3 => exact rfl
  case c4 => exact rfl
  intro g L' h₁ tk₁ Kg F₁ N₁ B₁ X₁ T₁ hlt₁ hsz₁ hL₁
  first | refine' execsIs ?ebL ?_ | refine' execsIsAt ?ebL ?_
  case ebL => conv => lhs; whnf
  have og₀ := OG.refl s
  (try dsimp only)
  (try k_fold)
  have hlen : vs.length = as.length := hstrs.len_eq
  have hlen2 : vs2.length = bs.length := hstrs2.len_eq
  refine wpAny_opq fun Qo hQo => ?_
  k_steps
  all_goals (try (with_reducible show Stop _; show wpAny _ _ _ _ _ _))
  (rename Fr _ _ _ _ => F2)
  (rename News _ _ _ _ => N2)
  show wpAny _ _ _ _ _ _
  refine sorted_L F2 N2 ⟨_, (N2 _ (.head _)).1, rfl, _, rfl⟩ hstrs (by omega) ?_
  intro h3 s1 sv1 ss1 e1 F3 N3 _ _ _ hs1 hp1 ha1
  clear F2 N2
  k_steps
  all_goals (try (with_reducible show Stop _; show wpAny _ _ _ _ _ _))
  (rename Fr _ _ _ _ => F4)
  (rename News _ _ _ _ => N4)
  show wpAny _ _ _ _ _ _
  refine sorted_L F4 N4 ⟨_, (N4 _ (mth 2 rfl)).1, rfl, _, rfl⟩ hstrs2 (by omega) ?_
  intro h5 s2 sv2 ss2 e2 F5 N5 _ _ _ hs2 hp2 ha2
  clear F4 N4
  k_steps
  all_goals (try (with_reducible show Stop _; show wpAny _ _ _ _ _ _))
  have hsl1 := hp1.length_eq
  have hsl2 := hp2.length_eq
  refine' sdiff_spec ?B ?F ?X (allC (N5 _ (.tail _ (.head _))) (allC (N5 _ (.head _)) allN)) ?T ?hk ?hdp ?hun XB TB hs1 hs2 (by omega) (by omega) ?_
  case B => first | assumption | k_asm
  case F => k_asm
  case X => first | assumption | k_asm
  case T => first | assumption | k_asm
  case hk => exact rfl
  case hdp => k_room
  case hun => k_room
  intro r lm lu s6 x6 r6 rn lmn lun sl1 sl2
  obtain ⟨mv, nm, hm6, hms⟩ := sl1
  obtain ⟨uv, nu, hu6, hus⟩ := sl2
  obtain ⟨g6, rG6, B6, F6, bs6, ent6⟩ := reG (as := []) B₁ F5 (fun b o hb e => x6.heap b o hb e) (fun h => nomatch h) (fun _ h => nomatch h)
  have N6 : News g6 L' s6.heap [(r, tup [.ref lm, .ref lu] 0), (lm, lst mv nm), (lu, lst uv nu), (lo, lst vs n), (lt, lst vs2 n2)] :=
    allC (entNewS F5 rG6 rn r6) (allC (entNewS F5 rG6 lmn hm6) (allC (entNewS F5 rG6 lun hu6) (allC (ent6 (lo, lst vs n) (N5 _ (mth 2 rfl)).1 (N5 _ (mth 2 rfl)).2.1 (N5 _ (mth 2 rfl)).2.2 (fun h => nomatch h)) (allC (ent6 (lt, lst vs2 n2) (N5 _ (mth 3 rfl)).1 (N5 _ (mth 3 rfl)).2.1 (N5 _ (mth 3 rfl)).2.2 (fun h => nomatch h)) allN))))
  have og6 := OG.stepS (by assumption) x6
  have X6 := XB.keeps bs6
  have T6 := TB.keeps bs6
  clear F5 N5 X₁ T₁ B₁ ent6 og₀
  k_steps
  all_goals (try (with_reducible show Stop _; show wpAny _ _ _ _ _ _))
  refine' alone_spec ?B ?F ?X  ?T ?hk ?hdp ?hun ⟨_, _, (N6 _ (mth 3 rfl)).1, hstrs⟩ ⟨_, _, (N6 _ (mth 4 rfl)).1, hstrs2⟩ hal hbl hbne ?_
  case B => first | assumption | k_asm
  case F => k_asm
  case X => first | assumption | k_asm
  case T => first | assumption | k_asm
  case hk => exact rfl
  case hdp => k_room
  case hun => k_room
  intro q1 s7 x7 hq1 qn1
  obtain ⟨wv1, nw1, hw1, hws1⟩ := hq1 ss1 hp1 ha1
  have F7 := F6.keeps x7.heap
  have N7 : News g6 L' s7.heap ((q1, lst wv1 nw1) :: _) := allC (entNewX F6 qn1 hw1) (newsKeep N6 x7.heap)
  have og7 := OG.step (by assumption) x7
  clear F6 N6 og6
  k_steps
  all_goals (try (with_reducible show Stop _; show wpAny _ _ _ _ _ _))
  refine' alone_spec ?B ?F ?X  ?T ?hk ?hdp ?hun ⟨_, _, (N7 _ (mth 5 rfl)).1, hstrs2⟩ ⟨_, _, (N7 _ (mth 4 rfl)).1, hstrs⟩ hbl hal hane ?_
  case B => first | assumption | k_asm
  case F => k_asm
  case X => first | assumption | k_asm
  case T => first | assumption | k_asm
  case hk => exact rfl
  case hdp => k_room
  case hun => k_room
  intro q2 s8 x8 hq2 qn2
  obtain ⟨wv2, nw2, hw2, hws2⟩ := hq2 ss2 hp2 ha2
  have F8 := F7.keeps x8.heap
  have N8 : News g6 L' s8.heap ((q2, lst wv2 nw2) :: _) := allC (entNewX F7 qn2 hw2) (newsKeep N7 x8.heap)
  have og8 := OG.step (by assumption) x8
  clear F7 N7 og7
  rw [sd_law (ss1.length + ss2.length) ss1 ss2 (Nat.le_refl _) ha1 ha2] at hms hus
  rw [alP_perm hp2.symm] at hws1
  rw [alP_perm hp1.symm] at hws2
  k_steps
  all_goals (try (with_reducible show Stop _; show wpAny _ _ _ _ _ _))
  (rename Fr _ _ _ _ => F9)
  (rename News _ _ _ _ => N9)
  show wpAny _ _ _ _ _ _
  refine ne_pairs (N9 _ (mth 3 rfl)).1 (N9 _ (.head _)).1 (SameL.strs hms hws1) (SameL.strs hus hws2) ⟨_, (N9 _ (mth 4 rfl)).1, rfl, _, rfl⟩ ⟨_, (N9 _ (mth 2 rfl)).1, rfl, _, rfl⟩ ⟨_, (N9 _ (mth 5 rfl)).1, rfl, _, rfl⟩ ⟨_, (N9 _ (.tail _ (.head _))).1, rfl, _, rfl⟩ (by simp only [units_in1, units_deeper]; omega) ?_
  clear hms hus hws1 hws2
  have N10 : News g6 L' _ [(lo, lst vs n), (lt, lst vs2 n2)] := allC (N9 _ (mth 6 rfl)) (allC (N9 _ (mth 7 rfl)) allN)
  clear N9
  k_steps
  all_goals (try (with_reducible show Stop _; show wpAny _ _ _ _ _ _))
  (rename Fr _ _ _ _ => F11)
  (rename News _ _ _ _ => N11)
  show wpAny _ _ _ _ _ _
  rename_i dq1 dq2 dq3 rt cr dq4 lqr dq5 mr dq6 lqm dq7
  have nmr : Hold (@Ne Nat mr rt ∧ @Ne Nat lo rt ∧ @Ne Nat lt rt ∧ @Ne Nat lo mr ∧ @Ne Nat lt mr) := Hold.mk ⟨by omega, by omega, by omega, by omega, by omega⟩
  clear dq3 lqr lqm
  refine wpAny_For ?_
  k_steps
  all_goals (try (with_reducible show Stop _; show wpAny _ _ _ _ _ _))
  refine forL (DfInv s lo lt rt mr vs vs2 n n2 as bs) rfl rfl rfl rfl F11 N11 (.inr ⟨_, (mth 2 rfl), rfl, _, rfl⟩) ?_ ?_ ?_ ?_
  · exact ⟨[], 0, vs2, cr, by assumption, rfl, rfl, rfl, rfl, rfl, .nil, hstrs2⟩
  · clear F11 N11
    rintro i v m₁ news₁ s₁ h₂ tk I oI hv ⟨mv, nm, rv, nr, og1, hm1, hm2, hm3, hm4, rfl, hmv, hrv⟩ off S F12 N12
    obtain ⟨w9, tw9, rfl, hw9⟩ := SL.at hstrs hv
    have F13 := Fr_know (Str.ofString "ones") (Fr_know (Str.ofString "others") (Fr_know (Str.ofString "rest") (Fr_know (Str.ofString "more") F12 (show m₁ _ = _ from hm4)) (show m₁ _ = _ from hm3)) (show m₁ _ = _ from hm2)) (show m₁ _ = _ from hm1)
    clear F12
    have oI1 : @Ne Nat mr I := off (mr, lst mv nm) (.head _)
    have oI2 : @Ne Nat rt I := off (rt, lst rv nr) (.tail _ (.head _))
    have oI3 : @Ne Nat lo I := off (lo, lst vs n) (mth 2 rfl)
    have oI4 : @Ne Nat lt I := off (lt, lst vs2 n2) (mth 3 rfl)
    have off' : ∀ x y, ∀ p ∈ [(mr, x), (rt, y), (lo, lst vs n), (lt, lst vs2 n2)], p.1 ≠ I := fun x y => allC oI1 (allC oI2 (allC oI3 (allC oI4 allN)))
    have hi : i < as.length := by
      rcases Nat.lt_or_ge i as.length with h | h
      · exact h
      · rw [List.getElem?_eq_none h] at hw9; cases hw9
    have hlens := unFold_len (as.take i) ([], bs)
    have hmvl := hmv.len_eq
    have hrvl := hrv.len_eq
    have htl : (as.take i).length ≤ 20 := by rw [List.length_take]; omega
    simp only [List.length_nil] at hlens
    refine wpAny_opq fun Qp hQp => ?_
    k_steps
    all_goals (try (with_reducible show Stop _; show wpAny _ _ _ _ _ _))
    · have hm := of_any (show _ = true from by assumption)
      (rename Fr _ _ _ _ => F14)
      (rename News _ _ _ _ => N14)
      refine lst_remove (pre := [(I, oI), (mr, lst mv nm)]) (post := [(lo, lst vs n), (lt, lst vs2 n2)]) F14 N14 (allC (Ne.symm oI2) (allC nmr.out.1 allN)) (allC nmr.out.2.1 (allC nmr.out.2.2.1 allN)) hrv hm (by omega) ?_
      intro rv' h15 hrv' F15 N15
      dsimp only [List.cons_append, List.nil_append] at N15
      clear F14 N14
      k_steps
      all_goals (try (with_reducible show Stop _; show wpAny _ _ _ _ _ _))
      refine hQp _ _ ?_
      show Hold _
      exact Hold.mk ⟨_, [(mr, lst mv nm), (rt, lst rv' (nr + 1)), (lo, lst vs n), (lt, lst vs2 n2)], by assumption, by assumption, off' _ _, .inr ⟨_, (mth 2 rfl), rfl, _, rfl⟩, mv, nm, rv', nr + 1, by assumption, rfl, rfl, rfl, rfl, rfl, by rw [take_snoc hw9, List.foldl_append, List.foldl_cons, List.foldl_nil, unS, if_pos hm]; exact hmv, by rw [take_snoc hw9, List.foldl_append, List.foldl_cons, List.foldl_nil, unS, if_pos hm]; exact hrv'⟩
    · have hm : w9 ∉ ((as.take i).foldl unS ([], bs)).2 := fun q => absurd ((any_in q).symm.trans (show _ = false from by assumption)) (by decide)
      (rename Fr _ _ _ _ => F14)
      (rename News _ _ _ _ => N14)
      refine lst_append (pre := [(I, oI)]) (post := [(rt, lst rv nr), (lo, lst vs n), (lt, lst vs2 n2)]) F14 N14 (allC (Ne.symm oI1) allN) (allC (Ne.symm nmr.out.1) (allC nmr.out.2.2.2.1 (allC nmr.out.2.2.2.2 allN))) (by omega) ?_
      intro h15 F15 N15
      dsimp only [List.cons_append, List.nil_append] at N15
      clear F14 N14
      k_steps
      all_goals (try (with_reducible show Stop _; show wpAny _ _ _ _ _ _))
      refine hQp _ _ ?_
      show Hold _
      exact Hold.mk ⟨_, [(mr, lst (mv ++ [.str w9 tw9]) (nm + 1)), (rt, lst rv nr), (lo, lst vs n), (lt, lst vs2 n2)], by assumption, by assumption, off' _ _, .inr ⟨_, (mth 2 rfl), rfl, _, rfl⟩, mv ++ [.str w9 tw9], nm + 1, rv, nr, by assumption, rfl, rfl, rfl, rfl, rfl, by rw [take_snoc hw9, List.foldl_append, List.foldl_cons, List.foldl_nil, unS, if_neg hm]; exact hmv.append' (.cons _ _ .nil), by rw [take_snoc hw9, List.foldl_append, List.foldl_cons, List.foldl_nil, unS, if_neg hm]; exact hrv⟩
  · clear F11 N11
    rintro m₁ news₁ s₁ h₂ ⟨mv, nm, rv, nr, og1, hm1, hm2, hm3, hm4, rfl, hmv, hrv⟩ F12 N12
    have F13 := Fr_know (Str.ofString "ones") (Fr_know (Str.ofString "others") (Fr_know (Str.ofString "rest") (Fr_know (Str.ofString "more") F12 (show m₁ _ = _ from hm4)) (show m₁ _ = _ from hm3)) (show m₁ _ = _ from hm2)) (show m₁ _ = _ from hm1)
    clear F12
    rw [hlen, List.take_length] at hmv hrv
    k_steps
    all_goals (try (with_reducible show Stop _; show wpAny _ _ _ _ _ _))
    (rename Fr _ _ _ _ => F14)
    (rename News _ _ _ _ => N14)
    rename_i le ce dq8 lq8 la ca dq9 lq9
    have F14 : Fr g6 L' _ _ := F14
    have N14 : News g6 L' _ _ := N14
    have hla2 : @Ne Nat le la := by omega
    have nab : Hold (mr ∉ [le, la] ∧ rt ∉ [le, la] ∧ lo ∉ [le, la] ∧ lt ∉ [le, la]) := Hold.mk ⟨nm2 (by omega) (by omega), nm2 (by omega) (by omega), nm2 (by omega) (by omega), nm2 (by omega) (by omega)⟩
    clear lq8 lq9
    refine' unord_spec ?B ?F ?X (allC (N14 _ (.tail _ (.head _))) (allC (N14 _ (.head _)) allN)) ?T ?hk ?hdp ?hun XB TB hla2 hstrs hstrs2 hal hbl ?_
    case B => first | assumption | k_asm
    case F => k_asm
    case X => first | assumption | k_asm
    case T => first | assumption | k_asm
    case hk => exact rfl
    case hdp => k_room
    case hun => k_room
    intro r2 lc s9 x9 r9 rn9 lcn sl1 sl2
    obtain ⟨cv, nc, hc9, hcv⟩ := sl1
    obtain ⟨lv, nl, hl9, hlv⟩ := sl2
    obtain ⟨g9, rG9, B9, F15, bs9, ent9⟩ := reG (as := [le, la]) B6 F14 (fun b o hb e => x9.heap b o hb e) (nm2 (Ne.symm (N14 _ (.tail _ (.head _))).2.1) (Ne.symm (N14 _ (.head _)).2.1)) (allC (N14 _ (.tail _ (.head _))).2.2 (allC (N14 _ (.head _)).2.2 (fun _ h => nomatch h)))
    have N15 : News g9 L' s9.heap [(r2, tup [.ref lc, .ref la] 0), (lc, lst cv nc), (la, lst lv nl), (mr, lst mv nm), (rt, lst rv nr), (lo, lst vs n), (lt, lst vs2 n2)] :=
      allC (entNewS F14 rG9 rn9 r9) (allC (entNewS F14 rG9 lcn hc9) (allC ⟨hl9, (N14 _ (.head _)).2.1, rG9.none _ (N14 _ (.head _)).2.2⟩ (allC (ent9 (mr, lst mv nm) (N14 _ (mth 2 rfl)).1 (N14 _ (mth 2 rfl)).2.1 (N14 _ (mth 2 rfl)).2.2 nab.out.1) (allC (ent9 (rt, lst rv nr) (N14 _ (mth 3 rfl)).1 (N14 _ (mth 3 rfl)).2.1 (N14 _ (mth 3 rfl)).2.2 nab.out.2.1) (allC (ent9 (lo, lst vs n) (N14 _ (mth 4 rfl)).1 (N14 _ (mth 4 rfl)).2.1 (N14 _ (mth 4 rfl)).2.2 nab.out.2.2.1) (allC (ent9 (lt, lst vs2 n2) (N14 _ (mth 5 rfl)).1 (N14 _ (mth 5 rfl)).2.1 (N14 _ (mth 5 rfl)).2.2 nab.out.2.2.2) allN))))))
    have og9 := OG.stepS (by assumption) x9
    have X9 := XB.keeps bs9
    have T9 := TB.keeps bs9
    have pm := unS_perm (List.reverse_perm as) bs
    have hul := unF_len as bs
    have hfl := unFold_len as ([], bs)
    have hcl := hcv.len_eq
    have hll := hlv.len_eq
    have hml := hmv.len_eq
    have hrl := hrv.len_eq
    simp only [List.length_nil] at hfl
    clear F14 N14 ent9 nab og1 X6 T6
    k_steps
    all_goals (try (with_reducible show Stop _; show wpAny _ _ _ _ _ _))
    (rename Fr _ _ _ _ => F16)
    (rename News _ _ _ _ => N16)
    show wpAny _ _ _ _ _ _
    refine sorted_L F16 N16 ⟨_, (N16 _ (.tail _ (.head _))).1, rfl, _, rfl⟩ hcv (by omega) ?_
    clear F16 N16
    intro h16' t1 tv1 ts1 te1 F16' N16' _ _ _ hts1 htp1 hta1
    k_steps
    all_goals (try (with_reducible show Stop _; show wpAny _ _ _ _ _ _))
    (rename Fr _ _ _ _ => F17)
    (rename News _ _ _ _ => N17)
    show wpAny _ _ _ _ _ _
    refine sorted_L F17 N17 ⟨_, (N17 _ (mth 4 rfl)).1, rfl, _, rfl⟩ hmv (by omega) ?_
    clear F17 N17
    intro h17' t2 tv2 ts2 te2 F17' N17' _ _ _ hts2 htp2 hta2
    k_steps
    all_goals (try (with_reducible show Stop _; show wpAny _ _ _ _ _ _))
    (rename Fr _ _ _ _ => F18)
    (rename News _ _ _ _ => N18)
    show wpAny _ _ _ _ _ _
    refine SameL.eq (SameL.strs hts1 (asc_unique (htp1.trans (pm.1.trans htp2.symm)) hta1 hta2 ▸ hts2)) ⟨_, (N18 _ (.tail _ (.head _))).1, rfl, _, rfl⟩ ⟨_, (N18 _ (.head _)).1, rfl, _, rfl⟩ (by simp only [units_in1, units_deeper]; omega) ?_
    clear hts1 hts2 htp1 htp2 hta1 hta2
    k_steps
    all_goals (try (with_reducible show Stop _; show wpAny _ _ _ _ _ _))
    (rename Fr _ _ _ _ => F20)
    (rename News _ _ _ _ => N20)
    show wpAny _ _ _ _ _ _
    refine sorted_L F20 N20 ⟨_, (N20 _ (mth 4 rfl)).1, rfl, _, rfl⟩ hlv (by omega) ?_
    clear F20 N20
    intro h20' t3 tv3 ts3 te3 F20' N20' _ _ _ hts3 htp3 hta3
    k_steps
    all_goals (try (with_reducible show Stop _; show wpAny _ _ _ _ _ _))
    (rename Fr _ _ _ _ => F21)
    (rename News _ _ _ _ => N21)
    show wpAny _ _ _ _ _ _
    refine sorted_L F21 N21 ⟨_, (N21 _ (mth 7 rfl)).1, rfl, _, rfl⟩ hrv (by omega) ?_
    clear F21 N21
    intro h21' t4 tv4 ts4 te4 F21' N21' _ _ _ hts4 htp4 hta4
    k_steps
    all_goals (try (with_reducible show Stop _; show wpAny _ _ _ _ _ _))
    (rename Fr _ _ _ _ => F22)
    (rename News _ _ _ _ => N22)
    show wpAny _ _ _ _ _ _
    refine SameL.eq (SameL.strs hts3 (asc_unique (htp3.trans (pm.2.trans htp4.symm)) hta3 hta4 ▸ hts4)) ⟨_, (N22 _ (.tail _ (.head _))).1, rfl, _, rfl⟩ ⟨_, (N22 _ (.head _)).1, rfl, _, rfl⟩ (by simp only [units_in1, units_deeper]; omega) ?_
    clear hts3 hts4 htp3 htp4 hta3 hta4
    k_steps
    all_goals (try (with_reducible show Stop _; show wpAny _ _ _ _ _ _))
    (rename Fr _ _ _ _ => F23)
    (rename News _ _ _ _ => N23)
    refine hQo _ _ ?_
    exact ret _ (extOutS Kg (rG6.trans rG9) F23.keep N (fun b hb => hb) (allC (.inr (N23 _ (mth 9 rfl)).1) (allC (.inr (N23 _ (mth 10 rfl)).1) allN)) rfl (by assumption))
  · passes_own
end
end
-- A33
section
open PySem PySem.W PySem.Spec PySem.Calls PyProof.Rows
set_option maxRecDepth 100000
set_option maxHeartbeats 3000000
local macro_rules | `(tactic| walk_at "none 3") => `(tactic| skip)
local macro_rules | `(tactic| walk_at "call builtin:len cons nil") => `(tactic| ((with_reducible show wpAny _ _ (call (Value.builtin "len") [Value.ref _]) _ _ _); refine Stop.mk ?_))
local macro_rules | `(tactic| walk_at "call ref cons nil") => `(tactic| refine Stop.mk ?_)
local macro_rules | `(tactic| walk_at "call ref nil") => `(tactic| refine Stop.mk ?_)
local macro_rules | `(tactic| walk_at "eval IfExp") => `(tactic| refine Stop.mk ?_)
local macro_rules | `(tactic| walk_at "eval ListComp") => `(tactic| refine Stop.mk ?_)
local macro_rules | `(tactic| walk_at "CompSrc") => `(tactic| refine Stop.mk ?_)
local macro_rules | `(tactic| walk_at "compareOp NotEq ref ref") => `(tactic| refine Stop.mk ?_)
local macro_rules | `(tactic| walk_at "compareOp Eq ref ref") => `(tactic| refine Stop.mk ?_)
theorem ldB {M : Model} {A : Around} {E : Value → Shared → Prop} {s : Shared} {K : Frag} {h₀ : Heap} {L C : Addr} {m mg mb : Str → Option Value} {scope : Scope} {cl : List (Str × Addr)} {env : Env} {p : Program} {loose : List Str} {x : Str} {pos : Pos} {v : Value} {Q : Value → Shared → Prop}
    (F : Fr h₀ L s.heap m) (X : K.In h₀) (T : TopRead p loose mg mb h₀) (e : nsIn K mainGlobals x = some none) (hv : bootBuiltins x = some v) (hn : x ≠ "__name__") (h : Q v s) (hg : env.globals = mainGlobals := by rfl) (hb : env.builtins = builtinsNs := by rfl)
    (hk : (compEnvC scope cl C env).scope.kind = .function := by rfl) (hx : (compEnvC scope cl C env).kindOf x = some .globalImplicit := by rfl) (hd : (x == ("__debug__" : Str)) = false := by decide) :
    wpAny M A (eval (.Name x pos) (compEnvC scope cl C env)) Q E s :=
  Name_function_global hk hx (loadGlobal_builtin (env := compEnvC scope cl C env) (show s.heap.Ns env.globals mg from hg ▸ (T.g.keeps F.keep)) (mg_none_of X T.g e) (show s.heap.Ns env.builtins mb from hb ▸ (T.b.keeps F.keep)) ((T.builtins x hn).trans hv) h) hd
theorem joinC {M : Model} {A : Around} {t : Sem Value} {Q E : Value → Shared → Prop} {s : Shared} (c : Int) (h1 : ∀ Q' : Value → Shared → Prop, (∀ u tk', Q' (.int c u) { s with toks := tk' }) → wpAny M A t Q' E s) (h2 : ∀ u tk', Q (.int c u) { s with toks := tk' }) : wpAny M A t Q E s := h1 Q h2
theorem len_led {prog : Program} {w : World} {A : Around} {E Q : Value → Shared → Prop} {s : Shared} {h₀ : Heap} {L l : Addr} {news : List (Addr × Obj)} {vs : List Value} {n : Nat} (N : News h₀ L s.heap news) (hm : (l, lst vs n) ∈ news) (hz : vs.length ≤ 1000) (h : ∀ t tk, Q (.int vs.length t) { s with toks := tk }) : wpAny (model prog w) A (call (.builtin "len") [.ref l]) Q E s :=
  len_list (items := vs.toArray) ⟨_, (N _ hm).1, rfl, _, rfl⟩ (by rw [List.size_toArray]; omega) (h _ _)
theorem same2 {x y y' : Int} {t1 t2 u1 u2 : Tok} (e : y = y') : SameL [.int x t1, .int y t2] [.int x u1, .int y' u2] := SameL.of rfl fun i v u a b => by
  subst e
  match i, a, b with
  | 0, rfl, rfl => exact .inl ⟨_, _, _, rfl, rfl⟩
  | 1, rfl, rfl => exact .inl ⟨_, _, _, rfl, rfl⟩
theorem cmpv_neg (x y : Int) : cmpv y x = -cmpv x y := by
  unfold cmpv
  (repeat' split) <;> omega
theorem law_walk {w : World} {mg mb : Str → Option Value} {base : Heap} {L fa ls : Addr} {ccd : Value} {p1 p2 : Array Value} {bm : Addr} {ob : Obj} {vs : List Value} {ns : List Int} {s : Shared} {Q : Flow → Shared → Prop} {E : Value → Shared → Prop}
  (XB : (KK w.params).In base) (TB : TopRead VV LL mg mb base) (M : BMod base mainGlobals mg bm ob) (hp1 : TriplesOk p1.toList) (hp2 : TriplesOk p2.toList)
  (F : Fr base L s.heap (fun x => [(Str.ofString "script", Value.ref ls)].reverse.lookup x)) (N : News base L s.heap [(140, tabO p1), (147, tabO p2)]) (hls : base.IsList ls vs.toArray) (hI : IntsAre vs ns) (h63 : ns.length ≤ 63)
  (ret : ∀ s', (∀ b o, base.get? b = some o → s'.heap.get? b = some o) → (∃ p, s'.heap.get? 140 = some (tabO p)) → (∃ p, s'.heap.get? 147 = some (tabO p)) → OG s s'.os s'.gens → Q (.ret (.bool true)) s') :
  wpAny (model PySem.Challenge.pw_oy0243_01 w) (callerA.deeper (envOf (Str.ofString "law") (scS (topS 33)) L fa ccd)) (execs (bodyS (topS 33)) (envOf (Str.ofString "law") (scS (topS 33)) L fa ccd)) Q E s := by
  have hsc : ∃ sc, sc = scS (topS 33) ∧ sc = { kind := .function, names := [(Str.ofString "script", NameKind.local), (Str.ofString "numbers", NameKind.local),
              (Str.ofString "words", NameKind.local), (Str.ofString "seconds", NameKind.local),
              (Str.ofString "width", NameKind.local), (Str.ofString "lines", NameKind.local),
              (Str.ofString "others", NameKind.local), (Str.ofString "order", NameKind.local),
              (Str.ofString "_law_folded", NameKind.globalImplicit),
              (Str.ofString "_law_lines", NameKind.globalImplicit),
              (Str.ofString "_law_words", NameKind.globalImplicit), (Str.ofString "len", NameKind.globalImplicit),
              (Str.ofString "three_way_cmp", NameKind.globalImplicit),
              (Str.ofString "_law_differ", NameKind.globalImplicit)], isGenerator := false, isCoroutine := false, more := (scS (topS 33)).more } := ⟨_, rfl, rfl⟩
  obtain ⟨sc, e1, e2⟩ := hsc
  rw [← e1, e2]
  generalize (scS (topS 33)).more = mo
  clear e1 e2 sc
  have B : Below callerA base [] base := ⟨rfl, fun _ _ e => e, trivial⟩
  have og₀ := OG.refl s
  refine' execsIs ?eb ?_
  case eb => conv => lhs; whnf
  refine wpAny_opq fun Qo hQo => ?_
  k_steps
  all_goals (try (with_reducible show Stop _; show wpAny _ _ _ _ _ _))
  (rename Fr _ _ _ _ => F2)
  (rename News _ _ _ _ => N2)
  show LCg.CompSrc _ _ _ _ _ _ _ _ _ _ _ _ _ _
  rename_i l0 hq1 lq1 l1 wv1 hq2 hI1 hC1 hL1 lq2 ln wvn hq3 hIn lq3 hq4
  have hnl : ([4, 22, 4, 9, 13] ++ List.take (min 6 ns.length - 1) (List.drop 1 ns)).length ≤ 10 ∧ 5 ≤ ([4, 22, 4, 9, 13] ++ List.take (min 6 ns.length - 1) (List.drop 1 ns)).length := by simp; omega
  generalize hnm : [4, 22, 4, 9, 13] ++ List.take (min 6 ns.length - 1) (List.drop 1 ns) = nums at hIn hnl
  have hwl := hIn.length
  refine LCg.CompSrc.ledger rfl F2 N2 (.head _) (by rw [List.size_toArray, sizeLine_eq]; omega) fun g => compAll (G := fun i y => ∃ t, y = .str (word (nums.getD i 0)) t) (.inr ⟨_, .head _, rfl, _, rfl⟩) ?elem ?fin
  case elem =>
    intro i v I oI C oC D ys m₂ h tk E' hi hv hC hx F3 N3
    obtain ⟨k, u, rfl, hk⟩ := ints_at hIn (show wvn[i]? = some v by simpa using hv)
    clear F2 N2
    k_steps
    all_goals (try (with_reducible show Stop _; show wpAny _ _ _ _ _ _))
    refine' writing_spec ?B ?F ?X ?T ?hk ?hdp ?hun ?_
    case B => first | assumption | k_asm
    case F => k_asm
    case X => first | assumption | k_asm
    case T => first | assumption | k_asm
    case hk => exact rfl
    case hdp => decide +kernel
    case hun => decide +kernel
    intro t9 s9 x9
    exact ⟨s9.heap, s9.toks, x9.eq, x9.heap, t9, by rw [hk]⟩
  case fin =>
    intro ys hyl hG
    clear F2 N2
    have hgw : ∀ v ∈ ys, ∃ x t, v = .str (word x) t := fun v hv => by
      obtain ⟨i, hi, rfl⟩ := List.mem_iff_getElem.mp hv
      obtain ⟨t, e⟩ := hG i _ (List.getElem?_eq_getElem hi)
      exact ⟨_, t, e⟩
    have hys : StrsAre ys (nums.map word) := strs_map word (by rw [hyl, List.size_toArray, hwl]) hG
    have hyg : ∀ v ∈ nums.map word, GoodW v := fun v hv => by
      obtain ⟨x, _, rfl⟩ := List.mem_map.mp hv
      exact word_good x
    intro Dw h3w tkw Fw Nw ow
    k_steps
    all_goals (try (with_reducible show Stop _; show wpAny _ _ _ _ _ _))
    (rename Fr _ _ _ _ => F3)
    (rename News _ _ _ _ => N3)
    show wpAny _ _ _ _ _ _
    refine LCg.ListComp_U (F₀ := F3) (by with_unfolding_all rfl) (by decide) (by rfl) (by decide) (by rfl) ?_
    k_steps
    all_goals (try (with_reducible show Stop _; show wpAny _ _ _ _ _ _))
    (rename Fr _ _ _ _ => F4)
    (rename News _ _ _ _ => N4)
    show wpAny _ _ _ _ _ _
    refine LCg.ListComp_U (F₀ := F4) (by with_unfolding_all rfl) (by decide) (by rfl) (by decide) (by rfl) ?_
    k_steps
    all_goals (try (with_reducible show Stop _; show wpAny _ _ _ _ _ _))
    (rename Fr _ _ _ _ => F5)
    (rename News _ _ _ _ => N5)
    show LCg.CompSrc _ _ _ _ _ _ _ _ _ _ _ _ _ _
    rename_i wv3 hq9 hI3 hC3 hL3 lq9
    have hw3 := hI3.length
    refine LCg.CompSrc.ledger rfl F5 N5 (.head _) (by rw [List.size_toArray, sizeLine_eq]; omega) fun g => compAll (G := fun i y => ∃ k t, y = .int k t) (.inr ⟨_, .head _, rfl, _, rfl⟩) ?elem2 ?fin2
    case elem2 =>
      intro i v I oI C oC D ys' m₂ h tk E' hi hv hC hx F3 N3
      obtain ⟨k, u, rfl, hk⟩ := ints_at hI3 (show _ = some v by simpa using hv)
      clear F5 N5
      refine wpAny_opq fun Qr hQr => ?_
      k_steps
      all_goals (try (with_reducible show Stop _; show wpAny _ _ _ _ _ _))
      exact hQr _ _ ⟨h, _, rfl, fun _ _ e => e, _, _, rfl⟩
    case fin2 =>
      intro ys2 hyl2 hG2
      obtain ⟨ks2, hI4⟩ := ints_of hG2
      have hw4 := hI4.length
      have hk2 : ks2.length ≤ 2 := by rw [← hw4, hyl2, List.size_toArray, hw3, List.length_take]; omega
      clear F5 N5
      k_steps
      all_goals (try (with_reducible show Stop _; show wpAny _ _ _ _ _ _))
      (rename Fr _ _ _ _ => F6)
      (rename News _ _ _ _ => N6)
      show LCg.CompSrc _ _ _ _ _ _ _ _ _ _ _ _ _ _
      (rename IntsAre _ _ => hI5)
      have hw5 := hI5.length
      refine LCg.CompSrc.ledger rfl F6 N6 (.head _) (by rw [List.size_toArray, sizeLine_eq]; simp only [List.length_append, List.length_cons, List.length_nil] at hw5; omega) fun g => compAll (G := fun i y => ∃ x t, y = .str (word x) t) (.inr ⟨_, .head _, rfl, _, rfl⟩) ?elem3 ?fin3
      case elem3 =>
        intro i v I oI C oC D ys' m₂ h tk E' hi hv hC hx F3 N3
        obtain ⟨k, u, rfl, hk⟩ := ints_at hI5 (show _ = some v by simpa using hv)
        clear F6 N6
        k_steps
        all_goals (try (with_reducible show Stop _; show wpAny _ _ _ _ _ _))
        refine' writing_spec ?B ?F ?X ?T ?hk ?hdp ?hun ?_
        case B => first | assumption | k_asm
        case F => k_asm
        case X => first | assumption | k_asm
        case T => first | assumption | k_asm
        case hk => exact rfl
        case hdp => decide +kernel
        case hun => decide +kernel
        intro t9 s9 x9
        exact ⟨s9.heap, s9.toks, x9.eq, x9.heap, _, t9, rfl⟩
      case fin3 =>
        intro ys3 hyl3 hG3
        clear F6 N6
        intro D3 h7 tk7 F7 N7 o7
        k_steps
        all_goals (try (with_reducible show Stop _; show wpAny _ _ _ _ _ _))
        have hszs := slicePick_size_le ys.toArray none none (some 2)
        have hyl0 : ys.length = nums.length := by rw [hyl, List.size_toArray, hwl]
        have hyl4 : ys3.length ≤ 3 ∧ 1 ≤ ys3.length := by
          rw [hyl3, List.size_toArray, hw5, List.length_append, List.length_cons, List.length_nil]
          omega
        refine kmk_add_lit (zs := (slicePick ys.toArray none none (some 2)).toList ++ ys3) F7 N7 ⟨_, (N7 _ (mth 5 rfl)).1, rfl, _, rfl⟩ ⟨_, (N7 _ (.head _)).1, rfl, _, rfl⟩ rfl ?_ ?hz
        case hz =>
          rw [sizeLine_eq, Array.length_toList]
          simp only [List.size_toArray] at hszs ⊢
          omega
        intro D4 h8 F8 N8 lt8
        clear F7 N7
        k_steps
        all_goals (try (with_reducible show Stop _; show wpAny _ _ _ _ _ _))
        (rename Fr _ _ _ _ => F9)
        (rename News _ _ _ _ => N9)
        show wpAny _ _ _ _ _ _
        refine joinInt 0 19 (fun Q' hQ' => ?ife) fun kw uw tkw hk0 hk1 => ?_
        case ife =>
          refine wpAny_IfExp ?_
          k_steps
          all_goals (try (with_reducible show Stop _; show wpAny _ _ _ _ _ _))
          · exact hQ' _ _ _ (Int.fmod_nonneg_of_pos _ (by decide)) (by have := Int.fmod_lt_of_pos (ns.getD (Int.toNat 0) 0) (b := 20) (by decide); omega)
          · exact hQ' _ _ _ (by decide) (by decide)
        k_steps
        all_goals (try (with_reducible show Stop _; show wpAny _ _ _ _ _ _))
        (rename Fr _ _ _ _ => F10)
        (rename News _ _ _ _ => N10)
        obtain ⟨sws, hss, hsl, hsg⟩ := strs_words (vs := (slicePick ys.toArray none none (some 2)).toList ++ ys3) fun v hv => by
          rcases List.mem_append.mp hv with q | q
          · exact hgw v (by simpa using pick_mem q)
          · obtain ⟨i, hi, rfl⟩ := List.mem_iff_getElem.mp q
            exact hG3 i _ (List.getElem?_eq_getElem hi)
        rw [List.length_append, Array.length_toList (xs := slicePick ys.toArray none none (some 2))] at hsl
        simp only [List.size_toArray] at hszs
        have hsl0 : 1 ≤ sws.length ∧ sws.length ≤ 13 := ⟨by rw [hsl]; have := hyl4.2; omega, by rw [hsl]; have := hyl4.1; omega⟩
        clear hsl
        generalize (slicePick ys.toArray none none (some 2)).toList ++ ys3 = vsec at hss N10
        have q8 : Hold (Dw ∉ [140, 147] ∧ D4 ∉ [140, 147] ∧ ln ∉ [140, 147]) := Hold.mk ⟨nm2 (Ne.symm ow.2.2.2.1) (Ne.symm ow.2.2.2.2.1), nm2 (Nat.ne_of_gt (lt8 _ (mth 10 rfl))) (Nat.ne_of_gt (lt8 _ (mth 11 rfl))), nm2 (by omega) (by omega)⟩
        have N11 : News base L _ [(140, tabO p1), (147, tabO p2), (Dw, lst ys ys.length), (D4, lst vsec 0), (ln, lst wvn 0)] := allC (N10 _ (mth 11 rfl)) (allC (N10 _ (mth 12 rfl)) (allC (N10 _ (mth 7 rfl)) (allC (N10 _ (.head _)) (allC (N10 _ (mth 8 rfl)) allN))))
        clear lt8 N10 lq1 lq2 lq3 ow o7
        have hyne : nums.map word ≠ [] := fun e => by
          have := congrArg List.length e
          rw [List.length_map, List.length_nil] at this
          omega
        have hsne : sws ≠ [] := fun e => by
          have := congrArg List.length e
          rw [List.length_nil] at this
          omega
        refine' folded_spec ?B ?F ?X (allC (N11 _ (.head _)) (allC (N11 _ (.tail _ (.head _))) allN)) ?T ?hk ?hdp ?hun M hp1 hp2 (N11 _ (mth 2 rfl)).1 hys hyne (by rw [List.length_map]; omega) hyg ?_
        case B => first | assumption | k_asm
        case F => k_asm
        case X => first | assumption | k_asm
        case T => first | assumption | k_asm
        case hk => exact rfl
        case hdp => decide +kernel
        case hun => decide +kernel
        intro la p3 p4 s12 x12 sl12 n12 g12 v12 hp3 hp4
        obtain ⟨av, an, ga, hla⟩ := sl12
        have F12 := exF x12 F10 (nm2 (Ne.symm (N11 _ (.head _)).2.1) (Ne.symm (N11 _ (.tail _ (.head _))).2.1)) (allC (N11 _ (.head _)).2.2 (allC (N11 _ (.tail _ (.head _))).2.2 allN))
        have N12 : News base L s12.heap [(la, lst av an), (140, tabO p3), (147, tabO p4), (Dw, lst ys ys.length), (D4, lst vsec 0), (ln, lst wvn 0)] := allC (exN x12 F10 n12 ga) (allC (entH N11 (.head _) g12) (allC (entH N11 (.tail _ (.head _)) v12) (allC (exK x12 N11 (mth 2 rfl) q8.out.1) (allC (exK x12 N11 (mth 3 rfl) q8.out.2.1) (allC (exK x12 N11 (mth 4 rfl) q8.out.2.2) allN)))))
        have qla : Hold (la ∉ [140, 147]) := Hold.mk (nm2 (neNone n12 (N11 _ (.head _)).1) (neNone n12 (N11 _ (.tail _ (.head _))).1))
        have og12 := OG.stepB (by assumption) x12
        clear F10 N11
        k_steps
        all_goals (try (with_reducible show Stop _; show wpAny _ _ _ _ _ _))
        refine' folded_spec ?B ?F ?X (allC (N12 _ (.tail _ (.head _))) (allC (N12 _ (mth 2 rfl)) allN)) ?T ?hk ?hdp ?hun M hp3 hp4 (N12 _ (mth 4 rfl)).1 hss hsne (by omega) hsg ?_
        case B => first | assumption | k_asm
        case F => k_asm
        case X => first | assumption | k_asm
        case T => first | assumption | k_asm
        case hk => exact rfl
        case hdp => decide +kernel
        case hun => decide +kernel
        intro lb p5 p6 s14 x14 sl14 n14 g14 v14 hp5 hp6
        obtain ⟨bv, bn, gb, hlb⟩ := sl14
        have F14 := exF x14 F12 (nm2 (Ne.symm (N12 _ (.tail _ (.head _))).2.1) (Ne.symm (N12 _ (mth 2 rfl)).2.1)) (allC (N12 _ (.tail _ (.head _))).2.2 (allC (N12 _ (mth 2 rfl)).2.2 allN))
        have N14 : News base L s14.heap [(lb, lst bv bn), (la, lst av an), (Dw, lst ys ys.length), (D4, lst vsec 0), (ln, lst wvn 0), (140, tabO p5), (147, tabO p6)] := allC (exN x14 F12 n14 gb) (allC (exK x14 N12 (.head _) qla.out) (allC (exK x14 N12 (mth 3 rfl) q8.out.1) (allC (exK x14 N12 (mth 4 rfl) q8.out.2.1) (allC (exK x14 N12 (mth 5 rfl) q8.out.2.2) (allC (entH N12 (.tail _ (.head _)) g14) (allC (entH N12 (mth 2 rfl) v14) allN))))))
        have og14 := OG.stepB (by assumption) x14
        clear F12 N12 q8 qla
        k_steps
        all_goals (try (with_reducible show Stop _; show wpAny _ _ _ _ _ _))
        (rename Fr _ _ _ _ => F15)
        (rename News _ _ _ _ => N15)
        refine' lines_spec (ws := nums.map word) ?B ?F ?X ?T ?hk ?hdp ?hun ⟨_, _, (N15 _ (mth 3 rfl)).1, hys⟩ ?_ (by first | omega | (rw [List.length_map]; omega)) (by constructor <;> omega) ?_
        case B => first | assumption | k_asm
        case F => k_asm
        case X => first | assumption | k_asm
        case T => first | assumption | k_asm
        case hk => exact rfl
        case hdp => decide +kernel
        case hun => decide +kernel
        · exact fun w hw => (hyg w hw).2.1
        intro r16 s16 x16 sl16 n16
        obtain ⟨v16, e16, g16, h16⟩ := sl16
        have F16 := F15.keeps x16.heap
        have N16 : News base L s16.heap ((r16, lst v16 e16) :: _) := allC (entNewX F15 n16 g16) (newsKeep N15 x16.heap)
        have og16 := OG.step (by assumption) x16
        clear F15 N15
        k_steps
        all_goals (try (with_reducible show Stop _; show wpAny _ _ _ _ _ _))
        (rename Fr _ _ _ _ => F17)
        (rename News _ _ _ _ => N17)
        show wpAny _ _ _ _ _ _
        refine SameL.ne (SameL.strs hla h16) ⟨_, (N17 _ (mth 3 rfl)).1, rfl, _, rfl⟩ ⟨_, (N17 _ (.head _)).1, rfl, _, rfl⟩ (by simp only [units_in1, units_deeper]; decide +kernel) ?_
        k_steps
        all_goals (try (with_reducible show Stop _; show wpAny _ _ _ _ _ _))
        (rename Fr _ _ _ _ => F18)
        (rename News _ _ _ _ => N18)
        refine' lines_spec (ws := sws) ?B ?F ?X ?T ?hk ?hdp ?hun ⟨_, _, (N18 _ (mth 5 rfl)).1, hss⟩ ?_ (by first | omega | (rw [List.length_map]; omega)) (by constructor <;> omega) ?_
        case B => first | assumption | k_asm
        case F => k_asm
        case X => first | assumption | k_asm
        case T => first | assumption | k_asm
        case hk => exact rfl
        case hdp => decide +kernel
        case hun => decide +kernel
        · exact fun w hw => (hsg w hw).2.1
        intro r19 s19 x19 sl19 n19
        obtain ⟨v19, e19, g19, h19⟩ := sl19
        have F19 := F18.keeps x19.heap
        have N19 : News base L s19.heap ((r19, lst v19 e19) :: _) := allC (entNewX F18 n19 g19) (newsKeep N18 x19.heap)
        have og19 := OG.step (by assumption) x19
        clear F18 N18
        k_steps
        all_goals (try (with_reducible show Stop _; show wpAny _ _ _ _ _ _))
        (rename Fr _ _ _ _ => F20)
        (rename News _ _ _ _ => N20)
        show wpAny _ _ _ _ _ _
        refine SameL.ne (SameL.strs hlb h19) ⟨_, (N20 _ (mth 3 rfl)).1, rfl, _, rfl⟩ ⟨_, (N20 _ (.head _)).1, rfl, _, rfl⟩ (by simp only [units_in1, units_deeper]; decide +kernel) ?_
        have N21 : News base L _ [(lb, lst bv bn), (la, lst av an), (Dw, lst ys ys.length), (ln, lst wvn 0), (140, tabO p5), (147, tabO p6)] := allC (N20 _ (mth 3 rfl)) (allC (N20 _ (mth 4 rfl)) (allC (N20 _ (mth 5 rfl)) (allC (N20 _ (mth 7 rfl)) (allC (N20 _ (mth 8 rfl)) (allC (N20 _ (mth 9 rfl)) allN)))))
        clear N20
        k_steps
        all_goals (try (with_reducible show Stop _; show wpAny _ _ _ _ _ _))
        (rename Fr _ _ _ _ => F22)
        (rename News _ _ _ _ => N22)
        show wpAny _ _ _ _ _ _
        refine LCg.ListComp_U (F₀ := F22) (by with_unfolding_all rfl) (by decide) (by rfl) (by decide) (by rfl) ?_
        k_steps
        all_goals (try (with_reducible show Stop _; show wpAny _ _ _ _ _ _))
        refine' words_spec (ws := nums.map word) (ts := lawLines (8 + kw) (nums.map word)) ?B ?F ?X ?T ?hk ?hdp ?hun ⟨_, _, (N22 _ (.tail _ (.head _))).1, hla⟩ (words_room _ _ hyg (by rw [List.length_map]; omega)).1 (lines_join _ _) (fun w hw => (hyg w hw).sp) (words_room (8 + kw) _ hyg (by rw [List.length_map]; omega)).2 ?_
        case B => first | assumption | k_asm
        case F => k_asm
        case X => first | assumption | k_asm
        case T => first | assumption | k_asm
        case hk => exact rfl
        case hdp => decide +kernel
        case hun => decide +kernel
        intro r24 s24 x24 sl24 n24
        obtain ⟨v24, e24, g24, h24⟩ := sl24
        have F24 := F22.keeps x24.heap
        have N24 : News base L s24.heap ((r24, lst v24 e24) :: _) := allC (entNewX F22 n24 g24) (newsKeep N22 x24.heap)
        have og24 := OG.step (by assumption) x24
        clear F22 N22
        k_steps
        all_goals (try (with_reducible show Stop _; show wpAny _ _ _ _ _ _))
        show LCg.CompSrc _ _ _ _ _ _ _ _ _ _ _ _ _ _
        have hl24 : v24.length = nums.length := by rw [h24.len_eq, List.length_map]
        refine LCg.CompSrc.ledger rfl F24 N24 (.head _) (by rw [List.size_toArray, sizeLine_eq]; omega) fun g => compAll (G := fun i y => ∃ t, y = .bytes (octets (nums.getD i 0)) t) (.inr ⟨_, .head _, rfl, _, rfl⟩) ?el5 ?fi5
        case el5 =>
          intro i v I oI C oC D ys' m₂ h tk E' hi hv hC hx F3 N3
          obtain ⟨u, rfl⟩ := strs_word_at word h24 (show v24[i]? = some v by simpa using hv)
          clear F24 N24
          k_steps
          all_goals (try (with_reducible show Stop _; show wpAny _ _ _ _ _ _))
          refine' b64dec_spec ?B ?F ?X ?T ?hk ?hdp ?hun ?_
          case B => first | assumption | k_asm
          case F => k_asm
          case X => first | assumption | k_asm
          case T => first | assumption | k_asm
          case hk => exact rfl
          case hdp => decide +kernel
          case hun => decide +kernel
          intro t9 s9 x9
          exact ⟨s9.heap, s9.toks, x9.eq, x9.heap, t9, rfl⟩
        case fi5 =>
          intro ys5 hyl5 hG5
          clear F24 N24
          intro D5 h5 tk5 F25 N25 o5
          k_steps
          all_goals (try (with_reducible show Stop _; show wpAny _ _ _ _ _ _))
          (rename Fr _ _ _ _ => F26)
          (rename News _ _ _ _ => N26)
          show wpAny _ _ _ _ _ _
          refine LCg.ListComp_U (F₀ := F26) (by with_unfolding_all rfl) (by decide) (by rfl) (by decide) (by rfl) ?_
          k_steps
          all_goals (try (with_reducible show Stop _; show wpAny _ _ _ _ _ _))
          (rename Fr _ _ _ _ => F27)
          (rename News _ _ _ _ => N27)
          show LCg.CompSrc _ _ _ _ _ _ _ _ _ _ _ _ _ _
          refine LCg.CompSrc.ledger rfl F27 N27 (mth 5 rfl) (by rw [List.size_toArray, sizeLine_eq]; omega) fun g => compAll (G := fun i y => ∃ t, y = .bytes (octets (nums.getD i 0)) t) (.inr ⟨_, (mth 5 rfl), rfl, _, rfl⟩) ?el6 ?fi6
          case el6 =>
            intro i v I oI C oC D ys' m₂ h tk E' hi hv hC hx F3 N3
            obtain ⟨k, u, rfl, hk⟩ := ints_at hIn (show wvn[i]? = some v by simpa using hv)
            clear F27 N27
            k_steps
            all_goals (try (with_reducible show Stop _; show wpAny _ _ _ _ _ _))
            refine' octets_spec ?B ?F ?X ?T ?hk ?hdp ?hun ?_
            case B => first | assumption | k_asm
            case F => k_asm
            case X => first | assumption | k_asm
            case T => first | assumption | k_asm
            case hk => exact rfl
            case hdp => decide +kernel
            case hun => decide +kernel
            intro t9 s9 x9
            exact ⟨s9.heap, s9.toks, x9.eq, x9.heap, t9, by rw [hk]⟩
          case fi6 =>
            intro ys6 hyl6 hG6
            clear F27 N27
            intro D6 h6 tk6 F28 N28 o6
            k_steps
            all_goals (try (with_reducible show Stop _; show wpAny _ _ _ _ _ _))
            (rename Fr _ _ _ _ => F29)
            (rename News _ _ _ _ => N29)
            show wpAny _ _ _ _ _ _
            refine SameL.ne (SameL.of (vs := ys5) (us := ys6) (by rw [hyl5, hyl6, List.size_toArray, List.size_toArray]; omega) fun i v u e e' => by
              obtain ⟨t, rfl⟩ := hG5 i v e
              obtain ⟨t', rfl⟩ := hG6 i u e'
              exact .inr ⟨_, t, t', rfl, rfl⟩) ⟨_, (N29 _ (.tail _ (.head _))).1, rfl, _, rfl⟩ ⟨_, (N29 _ (.head _)).1, rfl, _, rfl⟩ (by simp only [units_in1, units_deeper]; decide +kernel) ?_
            have N30 : News base L _ [(lb, lst bv bn), (la, lst av an), (Dw, lst ys ys.length), (ln, lst wvn 0), (140, tabO p5), (147, tabO p6)] := allC (N29 _ (mth 3 rfl)) (allC (N29 _ (mth 4 rfl)) (allC (N29 _ (mth 5 rfl)) (allC (N29 _ (mth 6 rfl)) (allC (N29 _ (mth 7 rfl)) (allC (N29 _ (mth 8 rfl)) allN)))))
            clear N29
            k_steps
            all_goals (try (with_reducible show Stop _; show wpAny _ _ _ _ _ _))
            (rename Fr _ _ _ _ => F31)
            (rename News _ _ _ _ => N31)
            show wpAny _ _ _ _ _ _
            refine LCg.ListComp_U (F₀ := F31) (by with_unfolding_all rfl) (by decide) (by rfl) (by decide) (by rfl) ?_
            k_steps
            all_goals (try (with_reducible show Stop _; show wpAny _ _ _ _ _ _))
            (rename Fr _ _ _ _ => F32)
            (rename News _ _ _ _ => N32)
            show LCg.CompSrc _ _ _ _ _ _ _ _ _ _ _ _ _ _
            refine LCg.CompSrc.ledger rfl F32 N32 (mth 2 rfl) (by rw [List.size_toArray, sizeLine_eq]; omega) fun g => compAll (G := fun i y => ∃ t, y = .int ((word (nums.getD i 0)).length : Nat) t) (.inr ⟨_, (mth 2 rfl), rfl, _, rfl⟩) ?el7 ?fi7
            case el7 =>
              intro i v I oI C oC D ys' m₂ h tk E' hi hv hC hx F3 N3
              obtain ⟨u, rfl⟩ := strs_word_at word hys (show ys[i]? = some v by simpa using hv)
              clear F32 N32
              have hgl := (word_good (nums.getD i 0)).2.1
              (try (k_unfold; (try dsimp only)))
              walk1
              (rename Fr _ _ _ _ => F3')
              refine ldB (x := Str.ofString "len") F3' XB TB (by k_is) PyProof.Rows.Boot.«len» (by decide) ?_
              refine wpAny_opq fun Qr hQr => ?_
              k_steps
              all_goals (try (with_reducible show Stop _; show wpAny _ _ _ _ _ _))
              exact hQr _ _ ⟨h, _, rfl, fun _ _ e => e, _, rfl⟩
            case fi7 =>
              intro ys7 hyl7 hG7
              clear F32 N32
              intro D7 h7 tk7 F33 N33 o7
              k_steps
              all_goals (try (with_reducible show Stop _; show wpAny _ _ _ _ _ _))
              (rename Fr _ _ _ _ => F34)
              (rename News _ _ _ _ => N34)
              show wpAny _ _ _ _ _ _
              refine LCg.ListComp_U (F₀ := F34) (by with_unfolding_all rfl) (by decide) (by rfl) (by decide) (by rfl) ?_
              k_steps
              all_goals (try (with_reducible show Stop _; show wpAny _ _ _ _ _ _))
              (rename Fr _ _ _ _ => F35)
              (rename News _ _ _ _ => N35)
              show LCg.CompSrc _ _ _ _ _ _ _ _ _ _ _ _ _ _
              refine LCg.CompSrc.ledger rfl F35 N35 (mth 4 rfl) (by rw [List.size_toArray, sizeLine_eq]; omega) fun g => compAll (G := fun i y => ∃ t, y = .int (((nums.getD i 0).fmod 7 + 3).fdiv 3 * 4) t) (.inr ⟨_, (mth 4 rfl), rfl, _, rfl⟩) ?el8 ?fi8
              case el8 =>
                intro i v I oI C oC D ys' m₂ h tk E' hi hv hC hx F3 N3
                obtain ⟨k, u, rfl, hk⟩ := ints_at hIn (show wvn[i]? = some v by simpa using hv)
                clear F35 N35
                refine wpAny_opq fun Qr hQr => ?_
                k_steps
                all_goals (try (with_reducible show Stop _; show wpAny _ _ _ _ _ _))
                exact hQr _ _ ⟨h, _, rfl, fun _ _ e => e, _, by subst hk; rfl⟩
              case fi8 =>
                intro ys8 hyl8 hG8
                clear F35 N35
                intro D8 h8 tk8 F36 N36 o8
                k_steps
                all_goals (try (with_reducible show Stop _; show wpAny _ _ _ _ _ _))
                (rename Fr _ _ _ _ => F37)
                (rename News _ _ _ _ => N37)
                show wpAny _ _ _ _ _ _
                refine SameL.ne (SameL.of (vs := ys7) (us := ys8) (by rw [hyl7, hyl8, List.size_toArray, List.size_toArray]; omega) fun i v u e e' => by
                  obtain ⟨t, rfl⟩ := hG7 i v e
                  obtain ⟨t', rfl⟩ := hG8 i u e'
                  exact .inl ⟨_, t, t', rfl, by rw [word_count]⟩) ⟨_, (N37 _ (.tail _ (.head _))).1, rfl, _, rfl⟩ ⟨_, (N37 _ (.head _)).1, rfl, _, rfl⟩ (by simp only [units_in1, units_deeper]; decide +kernel) ?_
                have N38 : News base L _ [(lb, lst bv bn), (la, lst av an), (140, tabO p5), (147, tabO p6)] := allC (N37 _ (mth 2 rfl)) (allC (N37 _ (mth 3 rfl)) (allC (N37 _ (mth 6 rfl)) (allC (N37 _ (mth 7 rfl)) allN)))
                clear N37
                k_steps
                all_goals (try (with_reducible show Stop _; show wpAny _ _ _ _ _ _))
                (rename Fr _ _ _ _ => F39)
                (rename News _ _ _ _ => N39)
                show wpAny _ _ _ _ _ _
                have hav : av.length ≤ 12 := by have := hla.len_eq; have := lawLines_len (8 + kw) (nums.map word); rw [List.length_map] at this; omega
                have hbv : bv.length ≤ 14 := by have := hlb.len_eq; have := lawLines_len 30 sws; omega
                refine joinC (c := cmpv av.length bv.length) (fun Q' hQ' => ?ord) fun uo tko => ?_
                case ord =>
                  refine wpAny_IfExp ?_
                  k_steps
                  all_goals (try (with_reducible show Stop _; show wpAny _ _ _ _ _ _))
                  refine len_led N39 (.tail _ (.head _)) (by omega) fun u1 k1 => ?_
                  k_steps
                  all_goals (try (with_reducible show Stop _; show wpAny _ _ _ _ _ _))
                  refine len_led N39 (.head _) (by omega) fun u2 k2 => ?_
                  k_steps
                  all_goals (try (with_reducible show Stop _; show wpAny _ _ _ _ _ _))
                  · have e : cmpv (av.length : Int) bv.length = 1 := by
                      unfold cmpv
                      (repeat' split) <;> omega
                    rw [e] at hQ'
                    exact hQ' _ _
                  · show wpAny _ _ _ _ _ _
                    refine wpAny_IfExp ?_
                    k_steps
                    all_goals (try (with_reducible show Stop _; show wpAny _ _ _ _ _ _))
                    refine len_led N39 (.tail _ (.head _)) (by omega) fun u3 k3 => ?_
                    k_steps
                    all_goals (try (with_reducible show Stop _; show wpAny _ _ _ _ _ _))
                    refine len_led N39 (.head _) (by omega) fun u4 k4 => ?_
                    k_steps
                    all_goals (try (with_reducible show Stop _; show wpAny _ _ _ _ _ _))
                    · have e : cmpv (av.length : Int) bv.length = -1 := by
                        unfold cmpv
                        (repeat' split) <;> omega
                      rw [e] at hQ'
                      exact hQ' _ _
                    · have e : cmpv (av.length : Int) bv.length = 0 := by
                        unfold cmpv
                        (repeat' split) <;> omega
                      rw [e] at hQ'
                      exact hQ' _ _
                k_steps
                all_goals (try (with_reducible show Stop _; show wpAny _ _ _ _ _ _))
                (rename Fr _ _ _ _ => F40)
                (rename News _ _ _ _ => N40)
                refine len_led N40 (.tail _ (.head _)) (by omega) fun u5 k5 => ?_
                k_steps
                all_goals (try (with_reducible show Stop _; show wpAny _ _ _ _ _ _))
                refine len_led N40 (.head _) (by omega) fun u6 k6 => ?_
                k_steps
                all_goals (try (with_reducible show Stop _; show wpAny _ _ _ _ _ _))
                refine' cmp_spec ?B ?F ?X ?T ?hk ?hdp ?hun ?_
                case B => first | assumption | k_asm
                case F => k_asm
                case X => first | assumption | k_asm
                case T => first | assumption | k_asm
                case hk => exact rfl
                case hdp => decide +kernel
                case hun => decide +kernel
                intro t41 s41 x41
                have F41 := F40.keeps x41.heap
                have N41 := newsKeep N40 x41.heap
                have og41 := OG.step (by assumption) x41.ext
                clear F40 N40
                k_steps
                all_goals (try (with_reducible show Stop _; show wpAny _ _ _ _ _ _))
                refine len_led N41 (.head _) (by omega) fun u7 k7 => ?_
                k_steps
                all_goals (try (with_reducible show Stop _; show wpAny _ _ _ _ _ _))
                refine len_led N41 (.tail _ (.head _)) (by omega) fun u8 k8 => ?_
                k_steps
                all_goals (try (with_reducible show Stop _; show wpAny _ _ _ _ _ _))
                refine' cmp_spec ?B ?F ?X ?T ?hk ?hdp ?hun ?_
                case B => first | assumption | k_asm
                case F => k_asm
                case X => first | assumption | k_asm
                case T => first | assumption | k_asm
                case hk => exact rfl
                case hdp => decide +kernel
                case hun => decide +kernel
                intro t42 s42 x42
                have F42 := F41.keeps x42.heap
                have N42 := newsKeep N41 x42.heap
                have og42 := OG.step (by assumption) x42.ext
                clear F41 N41
                k_steps
                all_goals (try (with_reducible show Stop _; show wpAny _ _ _ _ _ _))
                (rename Fr _ _ _ _ => F43)
                (rename News _ _ _ _ => N43)
                show wpAny _ _ _ _ _ _
                refine SameL.ne (same2 (cmpv_neg _ _)) ⟨_, (N43 _ (.tail _ (.head _))).1, rfl, _, rfl⟩ ⟨_, (N43 _ (.head _)).1, rfl, _, rfl⟩ (by simp only [units_in1, units_deeper]; decide +kernel) ?_
                have N44 : News base L _ [(lb, lst bv bn), (la, lst av an), (140, tabO p5), (147, tabO p6)] := allC (N43 _ (mth 2 rfl)) (allC (N43 _ (mth 3 rfl)) (allC (N43 _ (mth 4 rfl)) (allC (N43 _ (mth 5 rfl)) allN)))
                clear N43
                k_steps
                all_goals (try (with_reducible show Stop _; show wpAny _ _ _ _ _ _))
                (rename Fr _ _ _ _ => F45)
                (rename News _ _ _ _ => N45)
                refine' words_spec (ws := nums.map word) (ts := lawLines (8 + kw) (nums.map word)) ?B ?F ?X ?T ?hk ?hdp ?hun ⟨_, _, (N45 _ (.tail _ (.head _))).1, hla⟩ (words_room _ _ hyg (by rw [List.length_map]; omega)).1 (lines_join _ _) (fun w hw => (hyg w hw).sp) (words_room (8 + kw) _ hyg (by rw [List.length_map]; omega)).2 ?_
                case B => first | assumption | k_asm
                case F => k_asm
                case X => first | assumption | k_asm
                case T => first | assumption | k_asm
                case hk => exact rfl
                case hdp => decide +kernel
                case hun => decide +kernel
                intro r46 s46 x46 sl46 n46
                obtain ⟨v46, e46, g46, h46⟩ := sl46
                have F46 := F45.keeps x46.heap
                have N46 : News base L s46.heap ((r46, lst v46 e46) :: _) := allC (entNewX F45 n46 g46) (newsKeep N45 x46.heap)
                have og46 := OG.step (by assumption) x46
                clear F45 N45
                k_steps
                all_goals (try (with_reducible show Stop _; show wpAny _ _ _ _ _ _))
                refine' words_spec (ws := sws) (ts := lawLines 30 sws) ?B ?F ?X ?T ?hk ?hdp ?hun ⟨_, _, (N46 _ (.tail _ (.head _))).1, hlb⟩ (words_room _ _ hsg (by omega)).1 (lines_join _ _) (fun w hw => (hsg w hw).sp) (words_room 30 _ hsg (by omega)).2 ?_
                case B => first | assumption | k_asm
                case F => k_asm
                case X => first | assumption | k_asm
                case T => first | assumption | k_asm
                case hk => exact rfl
                case hdp => decide +kernel
                case hun => decide +kernel
                intro r47 s47 x47 sl47 n47
                obtain ⟨v47, e47, g47, h47⟩ := sl47
                have F47 := F46.keeps x47.heap
                have N47 : News base L s47.heap ((r47, lst v47 e47) :: _) := allC (entNewX F46 n47 g47) (newsKeep N46 x47.heap)
                have og47 := OG.step (by assumption) x47
                clear F46 N46
                k_steps
                all_goals (try (with_reducible show Stop _; show wpAny _ _ _ _ _ _))
                have hl46 := h46.len_eq
                have hl47 := h47.len_eq
                rw [List.length_map] at hl46
                refine' differ_spec ?B ?F ?X (allC (N47 _ (.tail _ (.head _))) (allC (N47 _ (.head _)) allN)) ?T ?hk ?hdp ?hun XB TB h46 h47 (by rw [List.length_map]; omega) (by omega) (by rw [List.length_map]; omega) (by omega) ?_
                case B => first | assumption | k_asm
                case F => k_asm
                case X => first | assumption | k_asm
                case T => first | assumption | k_asm
                case hk => exact rfl
                case hdp => decide +kernel
                case hun => decide +kernel
                intro s48 x48
                have og48 := OG.stepS (by assumption) x48
                k_steps
                all_goals (try (with_reducible show Stop _; show wpAny _ _ _ _ _ _))
                refine hQo _ _ ?_
                refine ret _ (fun b o e => (x48.heap b o (fun h => nomatch h) (F47.keep _ _ e)).2 ?nb) ⟨_, (x48.heap 140 _ (fun h => nomatch h) (N47 _ (mth 4 rfl)).1).2 ?n1⟩ ⟨_, (x48.heap 147 _ (fun h => nomatch h) (N47 _ (mth 5 rfl)).1).2 ?n2⟩ (by assumption)
                case nb =>
                  intro hm
                  rcases List.mem_cons.mp hm with q | q
                  · exact absurd (Heap.lt_size e) (Nat.not_lt.mpr (by rw [q]; exact F47.above))
                  · cases q
                case n1 =>
                  intro hm
                  rcases List.mem_cons.mp hm with q | q
                  · exact (N47 _ (mth 4 rfl)).2.1 q
                  · cases q
                case n2 =>
                  intro hm
                  rcases List.mem_cons.mp hm with q | q
                  · exact (N47 _ (mth 5 rfl)).2.1 q
                  · cases q
end
end
section
open PySem PySem.W PySem.Spec PySem.Calls PyProof.Rows
set_option maxRecDepth 100000
set_option maxHeartbeats 8000000
theorem kk_no140 (P : Params) : (KK P).lookup 140 = none := by kernel_rfl
theorem kk_no147 (P : Params) : (KK P).lookup 147 = none := by kernel_rfl
theorem kt_in {P : Params} {h : Heap} (X : (KT P).In h) : (KK P).In h := fun a o e => X a o (by
  have h1 : a ≠ 140 := fun q => by rw [q, kk_no140] at e; cases e
  have h2 : a ≠ 147 := fun q => by rw [q, kk_no147] at e; cases e
  show List.lookup a ((140, _) :: (147, _) :: KK P) = some o
  rw [List.lookup_cons, show (a == 140) = false by simpa using h1]
  show List.lookup a ((147, _) :: KK P) = some o
  rw [List.lookup_cons, show (a == 147) = false by simpa using h2]
  exact e)
theorem trip_nil : TriplesOk (#[] : Array Value).toList := by first | trivial | exact .nil | decide
theorem post_true (args ds : List WData) : PySem.Challenge.rw_oy0243_01.row.claim.post args (.bool true) ds = true := by
  unfold RowW.claim
  dsimp only [OpenLaw.row]
  simp [WShape.has, WTm.holds, WTm.value, WShape.arms, W.same]
theorem joined : PySem.Challenge.rw_oy0243_01.Holds := by
  refine holds_law law_said fun said => ?_
  refine holds_open (q := Mine.VV) (loose := Mine.LO) (Xt := fun s => xlAt Mine.VV [] s && recOk (RowW.records PySem.Challenge.rw_oy0243_01.row.toRowW) s) (XP := XL Mine.VV []) (Yf := Hook.obs Mine.HH) (Ya := Hook.val Mine.HH) (YP := Hook.says Mine.HH) (N := 4012) Mine.left_top (Hook.of Mine.HH) (Hook.keeps Mine.HH) (fun s e => xl_of s (Bool.and_eq_true_iff.mp e).1) XL.keeps (by rfl) (by rfl) (by rfl) (fun s e => recFacts_of (Bool.and_eq_true_iff.mp e).2) (by rfl) said law_open ⟨rfl, rfl, rfl, rfl, rfl, by decide +kernel⟩ ?hw ?hc
  case hw => w_witness2
  case hc =>
    intro w s₀ s₁ mg mb G Y fa o pm cd doc dV kV ho hd hcd hD hmg hg args vals as hpre hlay hrd hwl hlo
    have KX := kIn_of Y
    have V := (Ground.X G).2
    refine Ground.open G ?_
    intro T B D TE TW
    try (refine guard_noD D (by decide +kernel) ?_; clear D)
    obtain ⟨bm, ob, M⟩ := bmod_of_top T
    have TA := at_of_top T
    try (obtain ⟨_, _, he, B0⟩ := based_of_top T rfl hmg ho hd; have he' : cd = _ := he; subst he'; clear he)
    clear hmg
    wrow_args hpre hlay hrd hwl hlo
    all_goals (first | refine callC_kw (enter_call ?_) | refine enter_call ?_ | refine callC_kw (enter_callW ?_) | refine enter_callW ?_ | w_how)
    w_top on
    have K0 := below_caller (Top.heap T)
    w_call any ho hd hcd hD T F
    clear hd TA
    rename_i cA cP ns hs0 hly hLy hrr hl2 la1 la2 ls vs la3 hLs raa w1 r0 hI hr1 hc1 hc2 h₁ N0
    have g140 : s₁.heap.get? 140 = some (tabO #[]) := KX 140 _ rfl
    have g147 : s₁.heap.get? 147 = some (tabO #[]) := KX 147 _ rfl
    have KS : (KK w.params).In s₁.heap := kt_in KX
    have KB : (KK w.params).In (hideAll s₁.heap [140, 147]) := fun a o e => hideAll_get _ (KS a o e) (nm2 (fun q => by rw [show a = 140 from q, kk_no140] at e; cases e) (fun q => by rw [show a = 147 from q, kk_no147] at e; cases e))
    have nt : ∀ b o, s₁.heap.get? b = some o → o.cls ≠ .none → b ∉ [140, 147] := fun b o e hc => nm2 (fun q => by rw [show b = 140 from q, g140] at e; cases e; exact hc rfl) (fun q => by rw [show b = 147 from q, g147] at e; cases e; exact hc rfl)
    obtain ⟨mc, nc1, nc2⟩ := T.nolimit
    have TB : TopRead VV LL mg mb (hideAll s₁.heap [140, 147]) := ⟨T.g.at' fun o e => hideAll_get _ e (by decide), T.b.at' fun o e => hideAll_get _ e (by decide), ⟨mc, nc1.at' fun o e => hideAll_get _ e (by decide), nc2⟩, T.builtins, T.free⟩
    have MB : BMod (hideAll s₁.heap [140, 147]) mainGlobals mg bm ob := ⟨TB.g, M.name, M.ne, hideAll_get _ M.obj (nt _ _ M.obj (by rw [M.cls]; intro q; cases q)), M.cls, M.dict, M.data⟩
    have F' : Fr (hideAll s₁.heap [140, 147]) s₁.heap.objs.size h₁ (fun x => [(Str.ofString "script", Value.ref ls)].reverse.lookup x) := ⟨F.ns, fun b o e => F.keep b o (of_hideAll _ e), Nat.le_trans (Nat.le_of_eq (hideAll_size _ _)) F.above⟩
    have N' : News (hideAll s₁.heap [140, 147]) s₁.heap.objs.size h₁ [(140, tabO #[]), (147, tabO #[])] := allC ⟨F.keep _ _ g140, Nat.ne_of_lt (Heap.lt_size g140), hideAll_none _ (.head _)⟩ (allC ⟨F.keep _ _ g147, Nat.ne_of_lt (Heap.lt_size g147), hideAll_none _ (.tail _ (.head _))⟩ allN)
    obtain ⟨ol, el, lc, ln, ld⟩ := id hLs
    have hls' : (hideAll s₁.heap [140, 147]).IsList ls vs.toArray := ⟨ol, hideAll_get _ el (nt _ _ el (by rw [lc]; intro q; cases q)), lc, ln, ld⟩
    have c140 : s₁.heap.TableAt 144 140 #[] := by
      refine' (isCodeOf KS (fun _ _ e => e) ?hl ?h11 ?h11a ?h18 ?h7 ?h9 ?h10 ?hP ?htr ?hne).2
      case hl => k_is
      case h11 => exact rfl
      case h11a => exact rfl
      case h18 => exact rfl
      case h7 => exact rfl
      case h9 => exact rfl
      case h10 => exact rfl
      case hP => exact g140
      case htr => exact trip_nil
      case hne => decide
    have c147 : s₁.heap.TableAt 151 147 #[] := by
      refine' (isCodeOf KS (fun _ _ e => e) ?hl ?h11 ?h11a ?h18 ?h7 ?h9 ?h10 ?hP ?htr ?hne).2
      case hl => k_is
      case h11 => exact rfl
      case h11a => exact rfl
      case h18 => exact rfl
      case h7 => exact rfl
      case h9 => exact rfl
      case h10 => exact rfl
      case hP => exact g147
      case htr => exact trip_nil
      case hne => decide
    refine law_walk (p1 := #[]) (p2 := #[]) (ns := ns) KB TB MB trip_nil trip_nil F' N' hls' hI (by omega) ?_
    rintro s' hk ⟨q1, e1⟩ ⟨q2, e2⟩ og
    have old : OldK s₁.heap s'.heap := by
      refine ⟨fun b o e => ?_, fun b o e => ?_⟩
      · by_cases h1 : b = 140
        · subst h1
          rw [g140] at e
          cases e
          exact .inr (.inl ⟨c140.isCodeTable, rfl, #[], q1, rfl, by rw [e1]; simp [tabO]⟩)
        · by_cases h2 : b = 147
          · subst h2
            rw [g147] at e
            cases e
            exact .inr (.inl ⟨c147.isCodeTable, rfl, #[], q2, rfl, by rw [e2]; simp [tabO]⟩)
          · exact .inl (hk _ _ (hideAll_get _ e (nm2 h1 h2)))
      · by_cases h1 : b = 140
        · exact ⟨_, h1 ▸ e1⟩
        · by_cases h2 : b = 147
          · exact ⟨_, h2 ▸ e2⟩
          · exact ⟨_, hk _ _ (hideAll_get _ e (nm2 h1 h2))⟩
    have hbare : AllBare s'.gens := og.2 (.of_eq hg)
    refine ⟨.inl ⟨.bool true, .bool true, [], rfl, fun cls => ?ra, .bool true, ?po, fun _ => ⟨.nil, fun _ h => nomatch h⟩⟩, old, og.1, hbare⟩
    case ra => first | rfl | (cases cls <;> rfl)
    case po => exact post_true _ _
end
end Mine
theorem PySem.Challenge.cw_oy0243_01_holds : PySem.Challenge.rw_oy0243_01.Holds :=
  Mine.joined
