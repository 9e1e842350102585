import PyProof.Rows.All
import Wide.All
import OpenK.AllK
import Wide.FinOn
import PySem.Challenge.RW_in0303_01
open PySem PySem.W PySem.Spec PySem.Calls PyProof.Rows
set_option Elab.async false
set_option linter.unusedVariables false
set_option linter.unusedSimpArgs false
section
set_option maxRecDepth 100000
set_option maxRecDepth 100000
set_option maxHeartbeats 0
namespace Mine
noncomputable def stAt : List Stmt → Nat → Stmt
  | [], _ => .Pass default
  | s :: _, 0 => s
  | _ :: r, n + 1 => stAt r n
noncomputable def clsBody : Stmt → List Stmt
  | .ClassDef _ _ _ b _ _ _ _ _ _ _ => b
  | _ => []
noncomputable def partsOf : Stmt → Arguments × List Stmt × Scope
  | .FunctionDef _ a b _ _ _ s _ _ _ => (a, b, s)
  | _ => ({ posonlyargs := [], args := [], vararg := none, kwonlyargs := [], kw_defaults := [], kwarg := none, defaults := [] }, [], { kind := .module, names := [], isGenerator := false, isCoroutine := false })
noncomputable def heapK : Params → Frag :=
  (fun (a21 : Arguments) (b21 : List Stmt) (s21 : Scope) (_ : partsOf (stAt PySem.Challenge.pw_in0303_01.main.body 0) = (a21, b21, s21))
    (a35 : Arguments) (b35 : List Stmt) (s35 : Scope) (_ : partsOf (stAt (clsBody (stAt PySem.Challenge.pw_in0303_01.main.body 2)) 0) = (a35, b35, s35))
    (a42 : Arguments) (b42 : List Stmt) (s42 : Scope) (_ : partsOf (stAt (clsBody (stAt PySem.Challenge.pw_in0303_01.main.body 2)) 1) = (a42, b42, s42))
    (a49 : Arguments) (b49 : List Stmt) (s49 : Scope) (_ : partsOf (stAt (clsBody (stAt PySem.Challenge.pw_in0303_01.main.body 2)) 2) = (a49, b49, s49))
    (a56 : Arguments) (b56 : List Stmt) (s56 : Scope) (_ : partsOf (stAt (clsBody (stAt PySem.Challenge.pw_in0303_01.main.body 2)) 3) = (a56, b56, s56))
    (a75 : Arguments) (b75 : List Stmt) (s75 : Scope) (_ : partsOf (stAt PySem.Challenge.pw_in0303_01.main.body 5) = (a75, b75, s75))
    (a82 : Arguments) (b82 : List Stmt) (s82 : Scope) (_ : partsOf (stAt PySem.Challenge.pw_in0303_01.main.body 7) = (a82, b82, s82))
    (a89 : Arguments) (b89 : List Stmt) (s89 : Scope) (_ : partsOf (stAt PySem.Challenge.pw_in0303_01.main.body 8) = (a89, b89, s89))
    (a96 : Arguments) (b96 : List Stmt) (s96 : Scope) (_ : partsOf (stAt PySem.Challenge.pw_in0303_01.main.body 10) = (a96, b96, s96))
    (a103 : Arguments) (b103 : List Stmt) (s103 : Scope) (_ : partsOf (stAt PySem.Challenge.pw_in0303_01.main.body 11) = (a103, b103, s103))
    (a111 : Arguments) (b111 : List Stmt) (s111 : Scope) (_ : partsOf (stAt PySem.Challenge.pw_in0303_01.main.body 13) = (a111, b111, s111))
    (a119 : Arguments) (b119 : List Stmt) (s119 : Scope) (_ : partsOf (stAt PySem.Challenge.pw_in0303_01.main.body 15) = (a119, b119, s119))
    (a126 : Arguments) (b126 : List Stmt) (s126 : Scope) (_ : partsOf (stAt PySem.Challenge.pw_in0303_01.main.body 17) = (a126, b126, s126))
    (a133 : Arguments) (b133 : List Stmt) (s133 : Scope) (_ : partsOf (stAt PySem.Challenge.pw_in0303_01.main.body 18) = (a133, b133, s133))
    (a140 : Arguments) (b140 : List Stmt) (s140 : Scope) (_ : partsOf (stAt PySem.Challenge.pw_in0303_01.main.body 19) = (a140, b140, s140))
    (a147 : Arguments) (b147 : List Stmt) (s147 : Scope) (_ : partsOf (stAt PySem.Challenge.pw_in0303_01.main.body 20) = (a147, b147, s147))
    (a154 : Arguments) (b154 : List Stmt) (s154 : Scope) (_ : partsOf (stAt PySem.Challenge.pw_in0303_01.main.body 22) = (a154, b154, s154))
    (a159 : Arguments) (b159 : List Stmt) (s159 : Scope) (_ : partsOf (stAt PySem.Challenge.pw_in0303_01.main.body 23) = (a159, b159, s159))
    (a166 : Arguments) (b166 : List Stmt) (s166 : Scope) (_ : partsOf (stAt PySem.Challenge.pw_in0303_01.main.body 24) = (a166, b166, s166))
    (a173 : Arguments) (b173 : List Stmt) (s173 : Scope) (_ : partsOf (stAt PySem.Challenge.pw_in0303_01.main.body 25) = (a173, b173, s173))
    (a178 : Arguments) (b178 : List Stmt) (s178 : Scope) (_ : partsOf (stAt PySem.Challenge.pw_in0303_01.main.body 26) = (a178, b178, s178))
    (a183 : Arguments) (b183 : List Stmt) (s183 : Scope) (_ : partsOf (stAt PySem.Challenge.pw_in0303_01.main.body 27) = (a183, b183, s183))
    (a190 : Arguments) (b190 : List Stmt) (s190 : Scope) (_ : partsOf (stAt PySem.Challenge.pw_in0303_01.main.body 28) = (a190, b190, s190))
    (a195 : Arguments) (b195 : List Stmt) (s195 : Scope) (_ : partsOf (stAt PySem.Challenge.pw_in0303_01.main.body 29) = (a195, b195, s195)) (P : Params) =>
    (nat_lit 2, { cls := Value.none, data := Data.dict (Array.mk []) }) ::
    (nat_lit 3, { cls := Value.type "dict", data := Data.dict (Array.mk ({ hash := PyData.keyHash P (Str.ofString "__name__"), key := Value.str (Str.ofString "__name__") 165, val := Value.str (Str.ofString "law_in0303_01") 523 } :: { hash := PyData.keyHash P (Str.ofString "__doc__"), key := Value.str (Str.ofString "__doc__") 166, val := Value.none } :: { hash := PyData.keyHash P (Str.ofString "__package__"), key := Value.str (Str.ofString "__package__") 167, val := Value.none } :: { hash := PyData.keyHash P (Str.ofString "__loader__"), key := Value.str (Str.ofString "__loader__") 168, val := Value.builtin "__main__.__loader__#opaque" } :: { hash := PyData.keyHash P (Str.ofString "__spec__"), key := Value.str (Str.ofString "__spec__") 169, val := Value.none } :: { hash := PyData.keyHash P (Str.ofString "__annotations__"), key := Value.str (Str.ofString "__annotations__") 170, val := Value.ref 6 } :: { hash := PyData.keyHash P (Str.ofString "__builtins__"), key := Value.str (Str.ofString "__builtins__") 171, val := Value.ref 4 } :: { hash := PyData.keyHash P (Str.ofString "__file__"), key := Value.str (Str.ofString "__file__") 173, val := Value.str (Str.ofString "/claim/cut.py") 172 } :: { hash := PyData.keyHash P (Str.ofString "__cached__"), key := Value.str (Str.ofString "__cached__") 174, val := Value.none } :: { hash := PyData.keyHash P (Str.ofString "_wall"), key := Value.str (Str.ofString "_wall") 193, val := Value.ref 21 } :: { hash := PyData.keyHash P (Str.ofString "Entry"), key := Value.str (Str.ofString "Entry") 257, val := Value.ref 59 } :: { hash := PyData.keyHash P (Str.ofString "_special_chars_map"), key := Value.str (Str.ofString "_special_chars_map") 405, val := Value.ref 65 } :: { hash := PyData.keyHash P (Str.ofString "escape"), key := Value.str (Str.ofString "escape") 412, val := Value.ref 75 } :: { hash := PyData.keyHash P (Str.ofString "translate_pattern"), key := Value.str (Str.ofString "translate_pattern") 423, val := Value.ref 82 } :: { hash := PyData.keyHash P (Str.ofString "merge_entries"), key := Value.str (Str.ofString "merge_entries") 432, val := Value.ref 89 } :: { hash := PyData.keyHash P (Str.ofString "_buffer"), key := Value.str (Str.ofString "_buffer") 442, val := Value.ref 96 } :: { hash := PyData.keyHash P (Str.ofString "_truth"), key := Value.str (Str.ofString "_truth") 450, val := Value.ref 103 } :: { hash := PyData.keyHash P (Str.ofString "_B64"), key := Value.str (Str.ofString "_B64") 452, val := Value.bytes (Array.mk (65 :: 66 :: 67 :: 68 :: 69 :: 70 :: 71 :: 72 :: 73 :: 74 :: 75 :: 76 :: 77 :: 78 :: 79 :: 80 :: 81 :: 82 :: 83 :: 84 :: 85 :: 86 :: 87 :: 88 :: 89 :: 90 :: 97 :: 98 :: 99 :: 100 :: 101 :: 102 :: 103 :: 104 :: 105 :: 106 :: 107 :: 108 :: 109 :: 110 :: 111 :: 112 :: 113 :: 114 :: 115 :: 116 :: 117 :: 118 :: 119 :: 120 :: 121 :: 122 :: 48 :: 49 :: 50 :: 51 :: 52 :: 53 :: 54 :: 55 :: 56 :: 57 :: 43 :: 47 :: [])) 451 } :: { hash := PyData.keyHash P (Str.ofString "b2a_base64"), key := Value.str (Str.ofString "b2a_base64") 466, val := Value.ref 111 } :: { hash := PyData.keyHash P (Str.ofString "b64encode"), key := Value.str (Str.ofString "b64encode") 477, val := Value.ref 119 } :: { hash := PyData.keyHash P (Str.ofString "heappop"), key := Value.str (Str.ofString "heappop") 488, val := Value.ref 126 } :: { hash := PyData.keyHash P (Str.ofString "heapify"), key := Value.str (Str.ofString "heapify") 497, val := Value.ref 133 } :: { hash := PyData.keyHash P (Str.ofString "_siftdown"), key := Value.str (Str.ofString "_siftdown") 509, val := Value.ref 140 } :: { hash := PyData.keyHash P (Str.ofString "_siftup"), key := Value.str (Str.ofString "_siftup") 522, val := Value.ref 147 } :: { hash := PyData.keyHash P (Str.ofString "_law_octets"), key := Value.str (Str.ofString "_law_octets") 531, val := Value.ref 154 } :: { hash := PyData.keyHash P (Str.ofString "_law_writing"), key := Value.str (Str.ofString "_law_writing") 537, val := Value.ref 159 } :: { hash := PyData.keyHash P (Str.ofString "_law_rule"), key := Value.str (Str.ofString "_law_rule") 545, val := Value.ref 166 } :: { hash := PyData.keyHash P (Str.ofString "_law_record"), key := Value.str (Str.ofString "_law_record") 556, val := Value.ref 173 } :: { hash := PyData.keyHash P (Str.ofString "_law_allowed"), key := Value.str (Str.ofString "_law_allowed") 562, val := Value.ref 178 } :: { hash := PyData.keyHash P (Str.ofString "_law_pattern"), key := Value.str (Str.ofString "_law_pattern") 568, val := Value.ref 183 } :: { hash := PyData.keyHash P (Str.ofString "_law_off"), key := Value.str (Str.ofString "_law_off") 578, val := Value.ref 190 } :: { hash := PyData.keyHash P (Str.ofString "law"), key := Value.str (Str.ofString "law") 584, val := Value.ref 195 } :: [])) 32 }) ::
    (nat_lit 20, { cls := Value.type "code", data := Data.fields (Array.mk (Value.str (Str.ofString "_wall") 187 :: Value.str (Str.ofString "_wall") 188 :: Value.str (Str.ofString "/claim/cut.py") 189 :: Value.int 1 0 :: Value.int 1 0 :: Value.int 0 0 :: Value.int 0 0 :: Value.int 3 0 :: Value.ref 15 :: Value.bool true :: Value.int 181 0 :: Value.ref 16 :: Value.none :: Value.ref 17 :: Value.ref 18 :: Value.ref 19 :: Value.int 191 0 :: Value.int 1 0 :: Value.str (Str.ofString "/claim/cut.py") 192 :: [])) }) ::
    (nat_lit 21, { cls := Value.type "function", data := Data.func { name := Str.ofString "_wall", qualname := Str.ofString "_wall", params := a21, body := FuncBody.stmts b21, scope := s21, globals := 3, closure := [], defaults := Value.none, kwdefaults := Value.none, pyModule := Value.str (Str.ofString "__main__") 164, code := Value.ref 20 } }) ::
    (nat_lit 34, { cls := Value.type "code", data := Data.fields (Array.mk (Value.str (Str.ofString "__init__") 208 :: Value.str (Str.ofString "Entry.__init__") 209 :: Value.str (Str.ofString "/claim/cut.py") 210 :: Value.int 7 0 :: Value.int 1 0 :: Value.int 0 0 :: Value.int 0 0 :: Value.int 3 0 :: Value.ref 29 :: Value.bool true :: Value.int 181 0 :: Value.ref 30 :: Value.none :: Value.ref 31 :: Value.ref 32 :: Value.ref 33 :: Value.int 212 0 :: Value.int 7 0 :: Value.str (Str.ofString "/claim/cut.py") 213 :: [])) }) ::
    (nat_lit 35, { cls := Value.type "function", data := Data.func { name := Str.ofString "__init__", qualname := Str.ofString "Entry.__init__", params := a35, body := FuncBody.stmts b35, scope := s35, globals := 3, closure := [], defaults := Value.none, kwdefaults := Value.none, pyModule := Value.str (Str.ofString "cpy313.urllib.robotparser") 194, code := Value.ref 34 } }) ::
    (nat_lit 41, { cls := Value.type "code", data := Data.fields (Array.mk (Value.str (Str.ofString "__str__") 215 :: Value.str (Str.ofString "Entry.__str__") 216 :: Value.str (Str.ofString "/claim/cut.py") 217 :: Value.int 13 0 :: Value.int 1 0 :: Value.int 0 0 :: Value.int 0 0 :: Value.int 3 0 :: Value.ref 36 :: Value.bool true :: Value.int 181 0 :: Value.ref 37 :: Value.none :: Value.ref 38 :: Value.ref 39 :: Value.ref 40 :: Value.int 222 0 :: Value.int 13 0 :: Value.str (Str.ofString "/claim/cut.py") 223 :: [])) }) ::
    (nat_lit 42, { cls := Value.type "function", data := Data.func { name := Str.ofString "__str__", qualname := Str.ofString "Entry.__str__", params := a42, body := FuncBody.stmts b42, scope := s42, globals := 3, closure := [], defaults := Value.none, kwdefaults := Value.none, pyModule := Value.str (Str.ofString "cpy313.urllib.robotparser") 194, code := Value.ref 41 } }) ::
    (nat_lit 48, { cls := Value.type "code", data := Data.fields (Array.mk (Value.str (Str.ofString "applies_to") 225 :: Value.str (Str.ofString "Entry.applies_to") 226 :: Value.str (Str.ofString "/claim/cut.py") 227 :: Value.int 30 0 :: Value.int 2 0 :: Value.int 0 0 :: Value.int 0 0 :: Value.int 3 0 :: Value.ref 43 :: Value.bool true :: Value.int 181 0 :: Value.ref 44 :: Value.none :: Value.ref 45 :: Value.ref 46 :: Value.ref 47 :: Value.int 231 0 :: Value.int 30 0 :: Value.str (Str.ofString "/claim/cut.py") 232 :: [])) }) ::
    (nat_lit 49, { cls := Value.type "function", data := Data.func { name := Str.ofString "applies_to", qualname := Str.ofString "Entry.applies_to", params := a49, body := FuncBody.stmts b49, scope := s49, globals := 3, closure := [], defaults := Value.none, kwdefaults := Value.none, pyModule := Value.str (Str.ofString "cpy313.urllib.robotparser") 194, code := Value.ref 48 } }) ::
    (nat_lit 55, { cls := Value.type "code", data := Data.fields (Array.mk (Value.str (Str.ofString "allowance") 234 :: Value.str (Str.ofString "Entry.allowance") 235 :: Value.str (Str.ofString "/claim/cut.py") 236 :: Value.int 41 0 :: Value.int 2 0 :: Value.int 0 0 :: Value.int 0 0 :: Value.int 3 0 :: Value.ref 50 :: Value.bool true :: Value.int 181 0 :: Value.ref 51 :: Value.none :: Value.ref 52 :: Value.ref 53 :: Value.ref 54 :: Value.int 243 0 :: Value.int 41 0 :: Value.str (Str.ofString "/claim/cut.py") 244 :: [])) }) ::
    (nat_lit 56, { cls := Value.type "function", data := Data.func { name := Str.ofString "allowance", qualname := Str.ofString "Entry.allowance", params := a56, body := FuncBody.stmts b56, scope := s56, globals := 3, closure := [], defaults := Value.none, kwdefaults := Value.none, pyModule := Value.str (Str.ofString "cpy313.urllib.robotparser") 194, code := Value.ref 55 } }) ::
    (nat_lit 58, { cls := Value.type "dict", data := Data.dict (Array.mk ({ hash := PyData.keyHash P (Str.ofString "__module__"), key := Value.str (Str.ofString "__module__") 203, val := Value.str (Str.ofString "cpy313.urllib.robotparser") 194 } :: { hash := PyData.keyHash P (Str.ofString "__firstlineno__"), key := Value.str (Str.ofString "__firstlineno__") 207, val := Value.int 5 206 } :: { hash := PyData.keyHash P (Str.ofString "__init__"), key := Value.str (Str.ofString "__init__") 214, val := Value.ref 35 } :: { hash := PyData.keyHash P (Str.ofString "__str__"), key := Value.str (Str.ofString "__str__") 224, val := Value.ref 42 } :: { hash := PyData.keyHash P (Str.ofString "applies_to"), key := Value.str (Str.ofString "applies_to") 233, val := Value.ref 49 } :: { hash := PyData.keyHash P (Str.ofString "allowance"), key := Value.str (Str.ofString "allowance") 245, val := Value.ref 56 } :: { hash := PyData.keyHash P (Str.ofString "__static_attributes__"), key := Value.str (Str.ofString "__static_attributes__") 250, val := Value.ref 57 } :: { hash := PyData.keyHash P (Str.ofString "__dict__"), key := Value.str (Str.ofString "__dict__") 252, val := Value.ref 60 } :: { hash := PyData.keyHash P (Str.ofString "__weakref__"), key := Value.str (Str.ofString "__weakref__") 254, val := Value.ref 61 } :: { hash := PyData.keyHash P (Str.ofString "__doc__"), key := Value.str (Str.ofString "__doc__") 255, val := Value.none } :: [])) 4 }) ::
    (nat_lit 59, { cls := Value.type "type", data := Data.cls { name := Str.ofString "Entry", bases := (Value.type "object" :: []), mro := (Value.ref 59 :: Value.type "object" :: []), ns := 58, qualname := Str.ofString "Entry" }, slots := (Array.mk (none :: none :: some (Value.str (Str.ofString "Entry") 196) :: some (Value.str (Str.ofString "Entry") 204) :: some (Value.builtin "object.__new__") :: some (Value.bool true) :: [])) }) ::
    (nat_lit 60, { cls := Value.type "getset_descriptor", data := Data.fields (Array.mk (Value.str (Str.ofString "__dict__") 251 :: Value.ref 59 :: Value.builtin "function.__dict__" :: Value.builtin "function.__dict__#set" :: [])) }) ::
    (nat_lit 61, { cls := Value.type "getset_descriptor", data := Data.fields (Array.mk (Value.str (Str.ofString "__weakref__") 253 :: Value.ref 59 :: Value.builtin "ExceptionGroup.__weakref__" :: Value.none :: [])) }) ::
    (nat_lit 65, { cls := Value.type "dict", data := Data.dict (Array.mk ({ hash := 40, key := Value.int 40 261, val := Value.str (Str.ofString "\\(") 265 } :: { hash := 41, key := Value.int 41 267, val := Value.str (Str.ofString "\\)") 271 } :: { hash := 91, key := Value.int 91 273, val := Value.str (Str.ofString "\\[") 277 } :: { hash := 93, key := Value.int 93 279, val := Value.str (Str.ofString "\\]") 283 } :: { hash := 123, key := Value.int 123 285, val := Value.str (Str.ofString "\\{") 289 } :: { hash := 125, key := Value.int 125 291, val := Value.str (Str.ofString "\\}") 295 } :: { hash := 63, key := Value.int 63 297, val := Value.str (Str.ofString "\\?") 301 } :: { hash := 42, key := Value.int 42 303, val := Value.str (Str.ofString "\\*") 307 } :: { hash := 43, key := Value.int 43 309, val := Value.str (Str.ofString "\\+") 313 } :: { hash := 45, key := Value.int 45 315, val := Value.str (Str.ofString "\\-") 319 } :: { hash := 124, key := Value.int 124 321, val := Value.str (Str.ofString "\\|") 325 } :: { hash := 94, key := Value.int 94 327, val := Value.str (Str.ofString "\\^") 331 } :: { hash := 36, key := Value.int 36 333, val := Value.str (Str.ofString "\\$") 337 } :: { hash := 92, key := Value.int 92 339, val := Value.str (Str.ofString "\\\\") 343 } :: { hash := 46, key := Value.int 46 345, val := Value.str (Str.ofString "\\.") 349 } :: { hash := 38, key := Value.int 38 351, val := Value.str (Str.ofString "\\&") 355 } :: { hash := 126, key := Value.int 126 357, val := Value.str (Str.ofString "\\~") 361 } :: { hash := 35, key := Value.int 35 363, val := Value.str (Str.ofString "\\#") 367 } :: { hash := 32, key := Value.int 32 369, val := Value.str (Str.ofString "\\ ") 373 } :: { hash := 9, key := Value.int 9 375, val := Value.str (Str.ofString "\\\t") 379 } :: { hash := 10, key := Value.int 10 381, val := Value.str (Str.ofString "\\\n") 385 } :: { hash := 13, key := Value.int 13 387, val := Value.str (Str.ofString "\\\x0d") 391 } :: { hash := 11, key := Value.int 11 393, val := Value.str (Str.ofString "\\\x0b") 397 } :: { hash := 12, key := Value.int 12 399, val := Value.str (Str.ofString "\\\x0c") 403 } :: [])) 24 }) ::
    (nat_lit 74, { cls := Value.type "code", data := Data.fields (Array.mk (Value.str (Str.ofString "escape") 406 :: Value.str (Str.ofString "escape") 407 :: Value.str (Str.ofString "/claim/cut.py") 408 :: Value.int 55 0 :: Value.int 1 0 :: Value.int 0 0 :: Value.int 0 0 :: Value.int 3 0 :: Value.ref 69 :: Value.bool true :: Value.int 181 0 :: Value.ref 70 :: Value.none :: Value.ref 71 :: Value.ref 72 :: Value.ref 73 :: Value.int 410 0 :: Value.int 55 0 :: Value.str (Str.ofString "/claim/cut.py") 411 :: [])) }) ::
    (nat_lit 75, { cls := Value.type "function", data := Data.func { name := Str.ofString "escape", qualname := Str.ofString "escape", params := a75, body := FuncBody.stmts b75, scope := s75, globals := 3, closure := [], defaults := Value.none, kwdefaults := Value.none, pyModule := Value.str (Str.ofString "re") 258, code := Value.ref 74 } }) ::
    (nat_lit 81, { cls := Value.type "code", data := Data.fields (Array.mk (Value.str (Str.ofString "translate_pattern") 415 :: Value.str (Str.ofString "translate_pattern") 416 :: Value.str (Str.ofString "/claim/cut.py") 417 :: Value.int 62 0 :: Value.int 1 0 :: Value.int 0 0 :: Value.int 0 0 :: Value.int 3 0 :: Value.ref 76 :: Value.bool true :: Value.int 181 0 :: Value.ref 77 :: Value.none :: Value.ref 78 :: Value.ref 79 :: Value.ref 80 :: Value.int 421 0 :: Value.int 62 0 :: Value.str (Str.ofString "/claim/cut.py") 422 :: [])) }) ::
    (nat_lit 82, { cls := Value.type "function", data := Data.func { name := Str.ofString "translate_pattern", qualname := Str.ofString "translate_pattern", params := a82, body := FuncBody.stmts b82, scope := s82, globals := 3, closure := [], defaults := Value.none, kwdefaults := Value.none, pyModule := Value.str (Str.ofString "cpy313.urllib.robotparser") 413, code := Value.ref 81 } }) ::
    (nat_lit 88, { cls := Value.type "code", data := Data.fields (Array.mk (Value.str (Str.ofString "merge_entries") 424 :: Value.str (Str.ofString "merge_entries") 425 :: Value.str (Str.ofString "/claim/cut.py") 426 :: Value.int 68 0 :: Value.int 2 0 :: Value.int 0 0 :: Value.int 0 0 :: Value.int 3 0 :: Value.ref 83 :: Value.bool true :: Value.int 181 0 :: Value.ref 84 :: Value.none :: Value.ref 85 :: Value.ref 86 :: Value.ref 87 :: Value.int 430 0 :: Value.int 68 0 :: Value.str (Str.ofString "/claim/cut.py") 431 :: [])) }) ::
    (nat_lit 89, { cls := Value.type "function", data := Data.func { name := Str.ofString "merge_entries", qualname := Str.ofString "merge_entries", params := a89, body := FuncBody.stmts b89, scope := s89, globals := 3, closure := [], defaults := Value.none, kwdefaults := Value.none, pyModule := Value.str (Str.ofString "cpy313.urllib.robotparser") 413, code := Value.ref 88 } }) ::
    (nat_lit 95, { cls := Value.type "code", data := Data.fields (Array.mk (Value.str (Str.ofString "_buffer") 435 :: Value.str (Str.ofString "_buffer") 436 :: Value.str (Str.ofString "/claim/cut.py") 437 :: Value.int 76 0 :: Value.int 1 0 :: Value.int 0 0 :: Value.int 0 0 :: Value.int 3 0 :: Value.ref 90 :: Value.bool true :: Value.int 181 0 :: Value.ref 91 :: Value.none :: Value.ref 92 :: Value.ref 93 :: Value.ref 94 :: Value.int 440 0 :: Value.int 76 0 :: Value.str (Str.ofString "/claim/cut.py") 441 :: [])) }) ::
    (nat_lit 96, { cls := Value.type "function", data := Data.func { name := Str.ofString "_buffer", qualname := Str.ofString "_buffer", params := a96, body := FuncBody.stmts b96, scope := s96, globals := 3, closure := [], defaults := Value.none, kwdefaults := Value.none, pyModule := Value.str (Str.ofString "binascii") 433, code := Value.ref 95 } }) ::
    (nat_lit 102, { cls := Value.type "code", data := Data.fields (Array.mk (Value.str (Str.ofString "_truth") 443 :: Value.str (Str.ofString "_truth") 444 :: Value.str (Str.ofString "/claim/cut.py") 445 :: Value.int 83 0 :: Value.int 1 0 :: Value.int 0 0 :: Value.int 0 0 :: Value.int 3 0 :: Value.ref 97 :: Value.bool true :: Value.int 181 0 :: Value.ref 98 :: Value.none :: Value.ref 99 :: Value.ref 100 :: Value.ref 101 :: Value.int 448 0 :: Value.int 83 0 :: Value.str (Str.ofString "/claim/cut.py") 449 :: [])) }) ::
    (nat_lit 103, { cls := Value.type "function", data := Data.func { name := Str.ofString "_truth", qualname := Str.ofString "_truth", params := a103, body := FuncBody.stmts b103, scope := s103, globals := 3, closure := [], defaults := Value.none, kwdefaults := Value.none, pyModule := Value.str (Str.ofString "binascii") 433, code := Value.ref 102 } }) ::
    (nat_lit 104, { cls := Value.type "dict", data := Data.dict (Array.mk ({ hash := PyData.keyHash P (Str.ofString "newline"), key := Value.str (Str.ofString "newline") 453, val := Value.bool true } :: [])) 1 }) ::
    (nat_lit 110, { cls := Value.type "code", data := Data.fields (Array.mk (Value.str (Str.ofString "b2a_base64") 454 :: Value.str (Str.ofString "b2a_base64") 455 :: Value.str (Str.ofString "/claim/cut.py") 456 :: Value.int 89 0 :: Value.int 1 0 :: Value.int 1 0 :: Value.int 1 0 :: Value.int 3 0 :: Value.ref 105 :: Value.bool true :: Value.int 181 0 :: Value.ref 106 :: Value.none :: Value.ref 107 :: Value.ref 108 :: Value.ref 109 :: Value.int 464 0 :: Value.int 89 0 :: Value.str (Str.ofString "/claim/cut.py") 465 :: [])) }) ::
    (nat_lit 111, { cls := Value.type "function", data := Data.func { name := Str.ofString "b2a_base64", qualname := Str.ofString "b2a_base64", params := a111, body := FuncBody.stmts b111, scope := s111, globals := 3, closure := [], defaults := Value.none, kwdefaults := Value.ref 104, pyModule := Value.str (Str.ofString "binascii") 433, code := Value.ref 110 } }) ::
    (nat_lit 112, { cls := Value.type "tuple", data := Data.seq (Array.mk (Value.none :: [])) }) ::
    (nat_lit 118, { cls := Value.type "code", data := Data.fields (Array.mk (Value.str (Str.ofString "b64encode") 469 :: Value.str (Str.ofString "b64encode") 470 :: Value.str (Str.ofString "/claim/cut.py") 471 :: Value.int 112 0 :: Value.int 2 0 :: Value.int 0 0 :: Value.int 0 0 :: Value.int 3 0 :: Value.ref 113 :: Value.bool true :: Value.int 181 0 :: Value.ref 114 :: Value.none :: Value.ref 115 :: Value.ref 116 :: Value.ref 117 :: Value.int 475 0 :: Value.int 112 0 :: Value.str (Str.ofString "/claim/cut.py") 476 :: [])) }) ::
    (nat_lit 119, { cls := Value.type "function", data := Data.func { name := Str.ofString "b64encode", qualname := Str.ofString "b64encode", params := a119, body := FuncBody.stmts b119, scope := s119, globals := 3, closure := [], defaults := Value.ref 112, kwdefaults := Value.none, pyModule := Value.str (Str.ofString "cpy313.base64") 467, code := Value.ref 118 } }) ::
    (nat_lit 125, { cls := Value.type "code", data := Data.fields (Array.mk (Value.str (Str.ofString "heappop") 480 :: Value.str (Str.ofString "heappop") 481 :: Value.str (Str.ofString "/claim/cut.py") 482 :: Value.int 119 0 :: Value.int 1 0 :: Value.int 0 0 :: Value.int 0 0 :: Value.int 3 0 :: Value.ref 120 :: Value.bool true :: Value.int 181 0 :: Value.ref 121 :: Value.none :: Value.ref 122 :: Value.ref 123 :: Value.ref 124 :: Value.int 486 0 :: Value.int 119 0 :: Value.str (Str.ofString "/claim/cut.py") 487 :: [])) }) ::
    (nat_lit 126, { cls := Value.type "function", data := Data.func { name := Str.ofString "heappop", qualname := Str.ofString "heappop", params := a126, body := FuncBody.stmts b126, scope := s126, globals := 3, closure := [], defaults := Value.none, kwdefaults := Value.none, pyModule := Value.str (Str.ofString "cpy313.heapq") 478, code := Value.ref 125 } }) ::
    (nat_lit 132, { cls := Value.type "code", data := Data.fields (Array.mk (Value.str (Str.ofString "heapify") 489 :: Value.str (Str.ofString "heapify") 490 :: Value.str (Str.ofString "/claim/cut.py") 491 :: Value.int 127 0 :: Value.int 1 0 :: Value.int 0 0 :: Value.int 0 0 :: Value.int 3 0 :: Value.ref 127 :: Value.bool true :: Value.int 181 0 :: Value.ref 128 :: Value.none :: Value.ref 129 :: Value.ref 130 :: Value.ref 131 :: Value.int 495 0 :: Value.int 127 0 :: Value.str (Str.ofString "/claim/cut.py") 496 :: [])) }) ::
    (nat_lit 133, { cls := Value.type "function", data := Data.func { name := Str.ofString "heapify", qualname := Str.ofString "heapify", params := a133, body := FuncBody.stmts b133, scope := s133, globals := 3, closure := [], defaults := Value.none, kwdefaults := Value.none, pyModule := Value.str (Str.ofString "cpy313.heapq") 478, code := Value.ref 132 } }) ::
    (nat_lit 139, { cls := Value.type "code", data := Data.fields (Array.mk (Value.str (Str.ofString "_siftdown") 498 :: Value.str (Str.ofString "_siftdown") 499 :: Value.str (Str.ofString "/claim/cut.py") 500 :: Value.int 131 0 :: Value.int 3 0 :: Value.int 0 0 :: Value.int 0 0 :: Value.int 3 0 :: Value.ref 134 :: Value.bool true :: Value.int 181 0 :: Value.ref 135 :: Value.none :: Value.ref 136 :: Value.ref 137 :: Value.ref 138 :: Value.int 507 0 :: Value.int 131 0 :: Value.str (Str.ofString "/claim/cut.py") 508 :: [])) }) ::
    (nat_lit 140, { cls := Value.type "function", data := Data.func { name := Str.ofString "_siftdown", qualname := Str.ofString "_siftdown", params := a140, body := FuncBody.stmts b140, scope := s140, globals := 3, closure := [], defaults := Value.none, kwdefaults := Value.none, pyModule := Value.str (Str.ofString "cpy313.heapq") 478, code := Value.ref 139 } }) ::
    (nat_lit 146, { cls := Value.type "code", data := Data.fields (Array.mk (Value.str (Str.ofString "_siftup") 510 :: Value.str (Str.ofString "_siftup") 511 :: Value.str (Str.ofString "/claim/cut.py") 512 :: Value.int 142 0 :: Value.int 2 0 :: Value.int 0 0 :: Value.int 0 0 :: Value.int 3 0 :: Value.ref 141 :: Value.bool true :: Value.int 181 0 :: Value.ref 142 :: Value.none :: Value.ref 143 :: Value.ref 144 :: Value.ref 145 :: Value.int 520 0 :: Value.int 142 0 :: Value.str (Str.ofString "/claim/cut.py") 521 :: [])) }) ::
    (nat_lit 147, { cls := Value.type "function", data := Data.func { name := Str.ofString "_siftup", qualname := Str.ofString "_siftup", params := a147, body := FuncBody.stmts b147, scope := s147, globals := 3, closure := [], defaults := Value.none, kwdefaults := Value.none, pyModule := Value.str (Str.ofString "cpy313.heapq") 478, code := Value.ref 146 } }) ::
    (nat_lit 153, { cls := Value.type "code", data := Data.fields (Array.mk (Value.str (Str.ofString "_law_octets") 525 :: Value.str (Str.ofString "_law_octets") 526 :: Value.str (Str.ofString "/claim/cut.py") 527 :: Value.int 157 0 :: Value.int 1 0 :: Value.int 0 0 :: Value.int 0 0 :: Value.int 3 0 :: Value.ref 148 :: Value.bool true :: Value.int 181 0 :: Value.ref 149 :: Value.none :: Value.ref 150 :: Value.ref 151 :: Value.ref 152 :: Value.int 529 0 :: Value.int 157 0 :: Value.str (Str.ofString "/claim/cut.py") 530 :: [])) }) ::
    (nat_lit 154, { cls := Value.type "function", data := Data.func { name := Str.ofString "_law_octets", qualname := Str.ofString "_law_octets", params := a154, body := FuncBody.stmts b154, scope := s154, globals := 3, closure := [], defaults := Value.none, kwdefaults := Value.none, pyModule := Value.str (Str.ofString "law_in0303_01") 523, code := Value.ref 153 } }) ::
    (nat_lit 158, { cls := Value.type "code", data := Data.fields (Array.mk (Value.str (Str.ofString "_law_writing") 532 :: Value.str (Str.ofString "_law_writing") 533 :: Value.str (Str.ofString "/claim/cut.py") 534 :: Value.int 159 0 :: Value.int 1 0 :: Value.int 0 0 :: Value.int 0 0 :: Value.int 3 0 :: Value.ref 155 :: Value.bool true :: Value.int 181 0 :: Value.ref 156 :: Value.none :: Value.none :: Value.none :: Value.ref 157 :: Value.int 535 0 :: Value.int 159 0 :: Value.str (Str.ofString "/claim/cut.py") 536 :: [])) }) ::
    (nat_lit 159, { cls := Value.type "function", data := Data.func { name := Str.ofString "_law_writing", qualname := Str.ofString "_law_writing", params := a159, body := FuncBody.stmts b159, scope := s159, globals := 3, closure := [], defaults := Value.none, kwdefaults := Value.none, pyModule := Value.str (Str.ofString "law_in0303_01") 523, code := Value.ref 158 } }) ::
    (nat_lit 165, { cls := Value.type "code", data := Data.fields (Array.mk (Value.str (Str.ofString "_law_rule") 538 :: Value.str (Str.ofString "_law_rule") 539 :: Value.str (Str.ofString "/claim/cut.py") 540 :: Value.int 166 0 :: Value.int 2 0 :: Value.int 0 0 :: Value.int 0 0 :: Value.int 3 0 :: Value.ref 160 :: Value.bool true :: Value.int 181 0 :: Value.ref 161 :: Value.none :: Value.ref 162 :: Value.ref 163 :: Value.ref 164 :: Value.int 543 0 :: Value.int 166 0 :: Value.str (Str.ofString "/claim/cut.py") 544 :: [])) }) ::
    (nat_lit 166, { cls := Value.type "function", data := Data.func { name := Str.ofString "_law_rule", qualname := Str.ofString "_law_rule", params := a166, body := FuncBody.stmts b166, scope := s166, globals := 3, closure := [], defaults := Value.none, kwdefaults := Value.none, pyModule := Value.str (Str.ofString "law_in0303_01") 523, code := Value.ref 165 } }) ::
    (nat_lit 172, { cls := Value.type "code", data := Data.fields (Array.mk (Value.str (Str.ofString "_law_record") 546 :: Value.str (Str.ofString "_law_record") 547 :: Value.str (Str.ofString "/claim/cut.py") 548 :: Value.int 168 0 :: Value.int 1 0 :: Value.int 0 0 :: Value.int 0 0 :: Value.int 3 0 :: Value.ref 167 :: Value.bool true :: Value.int 181 0 :: Value.ref 168 :: Value.none :: Value.ref 169 :: Value.ref 170 :: Value.ref 171 :: Value.int 554 0 :: Value.int 168 0 :: Value.str (Str.ofString "/claim/cut.py") 555 :: [])) }) ::
    (nat_lit 173, { cls := Value.type "function", data := Data.func { name := Str.ofString "_law_record", qualname := Str.ofString "_law_record", params := a173, body := FuncBody.stmts b173, scope := s173, globals := 3, closure := [], defaults := Value.none, kwdefaults := Value.none, pyModule := Value.str (Str.ofString "law_in0303_01") 523, code := Value.ref 172 } }) ::
    (nat_lit 177, { cls := Value.type "code", data := Data.fields (Array.mk (Value.str (Str.ofString "_law_allowed") 557 :: Value.str (Str.ofString "_law_allowed") 558 :: Value.str (Str.ofString "/claim/cut.py") 559 :: Value.int 176 0 :: Value.int 2 0 :: Value.int 0 0 :: Value.int 0 0 :: Value.int 3 0 :: Value.ref 174 :: Value.bool true :: Value.int 181 0 :: Value.ref 175 :: Value.none :: Value.none :: Value.none :: Value.ref 176 :: Value.int 560 0 :: Value.int 176 0 :: Value.str (Str.ofString "/claim/cut.py") 561 :: [])) }) ::
    (nat_lit 178, { cls := Value.type "function", data := Data.func { name := Str.ofString "_law_allowed", qualname := Str.ofString "_law_allowed", params := a178, body := FuncBody.stmts b178, scope := s178, globals := 3, closure := [], defaults := Value.none, kwdefaults := Value.none, pyModule := Value.str (Str.ofString "law_in0303_01") 523, code := Value.ref 177 } }) ::
    (nat_lit 182, { cls := Value.type "code", data := Data.fields (Array.mk (Value.str (Str.ofString "_law_pattern") 563 :: Value.str (Str.ofString "_law_pattern") 564 :: Value.str (Str.ofString "/claim/cut.py") 565 :: Value.int 183 0 :: Value.int 1 0 :: Value.int 0 0 :: Value.int 0 0 :: Value.int 3 0 :: Value.ref 179 :: Value.bool true :: Value.int 181 0 :: Value.ref 180 :: Value.none :: Value.none :: Value.none :: Value.ref 181 :: Value.int 566 0 :: Value.int 183 0 :: Value.str (Str.ofString "/claim/cut.py") 567 :: [])) }) ::
    (nat_lit 183, { cls := Value.type "function", data := Data.func { name := Str.ofString "_law_pattern", qualname := Str.ofString "_law_pattern", params := a183, body := FuncBody.stmts b183, scope := s183, globals := 3, closure := [], defaults := Value.none, kwdefaults := Value.none, pyModule := Value.str (Str.ofString "law_in0303_01") 523, code := Value.ref 182 } }) ::
    (nat_lit 189, { cls := Value.type "code", data := Data.fields (Array.mk (Value.str (Str.ofString "_law_off") 569 :: Value.str (Str.ofString "_law_off") 570 :: Value.str (Str.ofString "/claim/cut.py") 571 :: Value.int 186 0 :: Value.int 1 0 :: Value.int 0 0 :: Value.int 0 0 :: Value.int 3 0 :: Value.ref 184 :: Value.bool true :: Value.int 181 0 :: Value.ref 185 :: Value.none :: Value.ref 186 :: Value.ref 187 :: Value.ref 188 :: Value.int 576 0 :: Value.int 186 0 :: Value.str (Str.ofString "/claim/cut.py") 577 :: [])) }) ::
    (nat_lit 190, { cls := Value.type "function", data := Data.func { name := Str.ofString "_law_off", qualname := Str.ofString "_law_off", params := a190, body := FuncBody.stmts b190, scope := s190, globals := 3, closure := [], defaults := Value.none, kwdefaults := Value.none, pyModule := Value.str (Str.ofString "law_in0303_01") 523, code := Value.ref 189 } }) ::
    (nat_lit 194, { cls := Value.type "code", data := Data.fields (Array.mk (Value.str (Str.ofString "law") 579 :: Value.str (Str.ofString "law") 580 :: Value.str (Str.ofString "/claim/cut.py") 581 :: Value.int 197 0 :: Value.int 1 0 :: Value.int 0 0 :: Value.int 0 0 :: Value.int 3 0 :: Value.ref 191 :: Value.bool true :: Value.int 181 0 :: Value.ref 192 :: Value.none :: Value.none :: Value.none :: Value.ref 193 :: Value.int 582 0 :: Value.int 197 0 :: Value.str (Str.ofString "/claim/cut.py") 583 :: [])) }) ::
    (nat_lit 195, { cls := Value.type "function", data := Data.func { name := Str.ofString "law", qualname := Str.ofString "law", params := a195, body := FuncBody.stmts b195, scope := s195, globals := 3, closure := [], defaults := Value.none, kwdefaults := Value.none, pyModule := Value.str (Str.ofString "law_in0303_01") 523, code := Value.ref 194 } }) :: [])
  _ _ _ rfl _ _ _ rfl _ _ _ rfl _ _ _ rfl _ _ _ rfl _ _ _ rfl _ _ _ rfl _ _ _ rfl _ _ _ rfl _ _ _ rfl _ _ _ rfl _ _ _ rfl _ _ _ rfl _ _ _ rfl _ _ _ rfl _ _ _ rfl _ _ _ rfl _ _ _ rfl _ _ _ rfl _ _ _ rfl _ _ _ rfl _ _ _ rfl _ _ _ rfl _ _ _ rfl

noncomputable def adrs : List Addr := [2, 3, 20, 21, 34, 35, 41, 42, 48, 49, 55, 56, 58, 59, 60, 61, 65, 74, 75, 81, 82, 88, 89, 95, 96, 102, 103, 104, 110, 111, 112, 118, 119, 125, 126, 132, 133, 139, 140, 146, 147, 153, 154, 158, 159, 165, 166, 172, 173, 177, 178, 182, 183, 189, 190, 194, 195]
theorem adrs_is (P : Params) : adrs = (heapK P).map (·.1) := by kernel_rfl!

noncomputable def view : Program := { PySem.Challenge.pw_in0303_01 with main := { PySem.Challenge.pw_in0303_01.main with body := [0, 2, 4, 5, 7, 8, 10, 11, 12, 17, 18, 19, 20, 22, 23, 24, 25, 26, 27, 28, 29].map (stAt PySem.Challenge.pw_in0303_01.main.body) } }
noncomputable abbrev LOl : List Str := [Str.ofString "_special_chars_map", Str.ofString "b2a_base64", Str.ofString "b64encode"]

end Mine

end
section
set_option maxRecDepth 100000
set_option maxRecDepth 100000
set_option maxHeartbeats 0
namespace Mine
noncomputable abbrev leftP (w : World) : Prop :=
  (openEnds treeTable PySem.Challenge.rw_in0303_01.row.toRowW.prog w 4650).map (fun s => (openSeen view LOl (importedModules PySem.Challenge.rw_in0303_01.row.toRowW.prog.main.body) (fun s => xlAt view [] s && recOk (RowW.records PySem.Challenge.rw_in0303_01.row.toRowW) s) true s, (kHook heapK adrs adrs_is).obs s)) = some (openGood view LOl, (kHook heapK adrs adrs_is).val w)
/-- the top's end, the library's functions held apart: they have quicker twins in the library -/
noncomputable def topF (tr : type_of% @topRun) (nm : type_of% @Heap.nsMap) (im : type_of% @importedModules) (tb : String → Option Builtin) (p : Program) (w : World) (N : Nat) (s₀ : Shared) : Option Shared :=
  match s₀.heap.isNs mainGlobals && s₀.gens.size == 0 with
  | true => (tr tb p w s₀.heap.objs.size (nm s₀.heap mainGlobals "__annotations__") N s₀ (topStub p)).bind fun s₁ =>
      match staticsOk (im p.main.body) s₀.heap s₁.heap && namesBound p s₁.heap && gensDone s₁ && laidKept s₀.heap s₁.heap with
      | true => some s₁
      | false => none
  | false => none
theorem topF_is : topFrom = topF topRun Heap.nsMap importedModules := by
  funext tb p w N s₀
  unfold topFrom topF
  cases s₀.heap.isNs mainGlobals && s₀.gens.size == 0 with
  | false => rfl
  | true => rfl
noncomputable abbrev leftF (tt : type_of% @treeTable) (ie : type_of% @importEnds) (st : type_of% @start) (fm : type_of% @fenceModules?) (tr : type_of% @topRun) (nm : type_of% @Heap.nsMap) (im : type_of% @importedModules) (os : type_of% @openSeen) (p : Program) (w : World) : Prop :=
  (((ie tt (opening p) w 4650 (st (opening p)).1 (st (opening p)).2).bind (fm p)).bind (topF tr nm im tt p w 4650)).map (fun s => (os view LOl (im p.main.body) (fun s => xlAt view [] s && recOk (RowW.records PySem.Challenge.rw_in0303_01.row.toRowW) s) true s, (kHook heapK adrs adrs_is).obs s)) = some (openGood view LOl, (kHook heapK adrs adrs_is).val w)
noncomputable abbrev leftQ (w : World) : Prop :=
  leftF PySem.W.Fast.tw14364793385576792824 PySem.W.Fast.tw10274390034422433532 PySem.W.Fast.tw1435165496053646825 PySem.W.Fast.tw14289696077712309145 PySem.W.Fast.tw14082659384304107361 PySem.W.Fast.tw8920871248978507458 PySem.W.Fast.tw5923862056798008813 PySem.W.Fast.tw4187177175401517315 PySem.Challenge.rw_in0303_01.row.toRowW.prog w
theorem leftQ_is (w : World) : leftQ w = leftP w := by
  have h : leftP w = leftF treeTable importEnds start fenceModules? topRun Heap.nsMap importedModules openSeen PySem.Challenge.rw_in0303_01.row.toRowW.prog w := by
    unfold leftP leftF openEnds fencedOpening
    rewrite [topF_is]
    rfl
  rewrite [h]
  unfold leftQ
  rewrite [PySem.W.Fast.te14364793385576792824, PySem.W.Fast.te10274390034422433532, PySem.W.Fast.te1435165496053646825, PySem.W.Fast.te14289696077712309145, PySem.W.Fast.te14082659384304107361, PySem.W.Fast.te8920871248978507458, PySem.W.Fast.te5923862056798008813, PySem.W.Fast.te4187177175401517315]
  rfl
theorem left_ff (w : World) : leftQ ((w.withFollow "special-get-raises" false).withFollow "comprehension-iter-twice" false) := by kernel_rfl
theorem left_tf (w : World) : leftQ ((w.withFollow "special-get-raises" true).withFollow "comprehension-iter-twice" false) := by kernel_rfl
theorem left_ft (w : World) : leftQ ((w.withFollow "special-get-raises" false).withFollow "comprehension-iter-twice" true) := by kernel_rfl
theorem left_tt (w : World) : leftQ ((w.withFollow "special-get-raises" true).withFollow "comprehension-iter-twice" true) := by kernel_rfl
theorem left (w : World) : leftP w :=
  byRow2 (P := leftP) "comprehension-iter-twice"
    (byRow2 (P := fun w => leftP (w.withFollow "comprehension-iter-twice" false)) "special-get-raises" (fun w => (leftQ_is _).mp (left_ff w)) (fun w => (leftQ_is _).mp (left_tf w)))
    (byRow2 (P := fun w => leftP (w.withFollow "comprehension-iter-twice" true)) "special-get-raises" (fun w => (leftQ_is _).mp (left_ft w)) (fun w => (leftQ_is _).mp (left_tt w))) w
end Mine

end
section
set_option maxRecDepth 100000
set_option maxRecDepth 100000
set_option maxHeartbeats 8000000
namespace Mine
theorem hd {d : DefRec} {kwd : List (Str × PySem.Expr)} (hdef : defOf view PySem.Challenge.rw_in0303_01.row.toRowW.name = some (d, kwd)) (hp : PySem.Challenge.rw_in0303_01.row.toRowW.prog.theDef PySem.Challenge.rw_in0303_01.row.toRowW.name = some (d.params, d.body, d.scope)) (hk : kwWritten? d.params.kwonlyargs d.params.kw_defaults = some kwd)
    (call : WalkO view LOl (XL view []) (kHook heapK adrs adrs_is).says PySem.Challenge.rw_in0303_01.row.toRowW d kwd (fun f vs => PySem.call f vs)) : PySem.Challenge.rw_in0303_01.Holds := by
  skip
  refine holds_law (by kernel_rfl) (fun said => ?_)
  refine holds_open (q := view) (loose := LOl) (Xt := fun s => xlAt view [] s && recOk (RowW.records PySem.Challenge.rw_in0303_01.row.toRowW) s) (XP := XL view []) (Yf := Hook.obs (kHook heapK adrs adrs_is)) (Ya := Hook.val (kHook heapK adrs adrs_is)) (YP := Hook.says (kHook heapK adrs adrs_is)) (N := 4650) left (Hook.of (kHook heapK adrs adrs_is)) (Hook.keeps (kHook heapK adrs adrs_is)) (fun s e => xl_of s (Bool.and_eq_true_iff.mp e).1) XL.keeps hdef hp hk (fun s e => recFacts_of (Bool.and_eq_true_iff.mp e).2) (by rfl) (by first | assumption | decide +kernel) (by decide +kernel) ⟨rfl, rfl, rfl, rfl, rfl, by decide +kernel⟩ ?hw ?hc
  case hw => w_witness2
  case hc => exact call
end Mine

end
section
set_option maxRecDepth 100000
set_option maxRecDepth 100000
namespace Mine
theorem fillIt : (PySem.Challenge.rw_in0303_01.row.prog = PySem.Challenge.rw_in0303_01.row.prog) ∧ (Mine.heapK = Mine.heapK) := by
  k_fill
  exact ⟨rfl, rfl⟩

noncomputable abbrev LO : List Str := looseW Mine.view LOl

/-- a tree, in any def's frame, over a ledger: what it gives back -/
noncomputable def Does (k : Nat) (w : World) (mean : ExcName → Option Value) (mg mb : Str → Option Value) (news : List (Addr × Obj)) (t : Sem Value) (post : Value → List (Addr × Obj) → Prop) : Prop :=
  ∀ (dp un : Nat) (gd : Option (List Code)) (cn : Str) (cs : Scope) (a : Addr) (ccd : Value) (cl : List (Str × Addr)) (outer : List Env) (A₀ : Around) (base h₀ : Heap) (L : Addr) (m : Str → Option Value) (s : Shared) (Q E : Value → Shared → Prop),
    Below A₀ base outer h₀ → Fr h₀ L s.heap m → (Mine.heapK w.params).In h₀ → News h₀ L s.heap news → Top Mine.view LO mean mg mb h₀ → cs.kind = .function → dp + k < recursionLimit → un + 8 * k < cLine →
    (∀ v h' tk' news', Fr h₀ L h' m → News h₀ L h' news' → post v news' → Q v { s with heap := h', toks := tk' }) →
    wpAny (model PySem.Challenge.rw_in0303_01.row.prog w) (ktrTop dp un gd cn cs L a ccd cl outer) t Q E s

theorem Does.use {k : Nat} {w : World} {mean : ExcName → Option Value} {mg mb : Str → Option Value} {news : List (Addr × Obj)} {t : Sem Value} {post : Value → List (Addr × Obj) → Prop}
    {dp un : Nat} {gd : Option (List Code)} {cn : Str} {cs : Scope} {a : Addr} {ccd : Value} {cl : List (Str × Addr)} {outer : List Env} {A₀ : Around} {base h₀ : Heap} {L : Addr} {m : Str → Option Value} {s : Shared} {Q E : Value → Shared → Prop}
    (D : Does k w mean mg mb news t post)
    (B : Below A₀ base outer h₀) (F : Fr h₀ L s.heap m) (X : (Mine.heapK w.params).In h₀) (N : News h₀ L s.heap news) (T : Top Mine.view LO mean mg mb h₀) (hk : cs.kind = .function) (hd : dp + k < recursionLimit) (hu : un + 8 * k < cLine)
    (h : ∀ v h' tk' news', Fr h₀ L h' m → News h₀ L h' news' → post v news' → Q v { s with heap := h', toks := tk' }) :
    wpAny (model PySem.Challenge.rw_in0303_01.row.prog w) (ktrTop dp un gd cn cs L a ccd cl outer) t Q E s :=
  D dp un gd cn cs a ccd cl outer A₀ base h₀ L m s Q E B F X N T hk hd hu h
end Mine

end
section
set_option maxRecDepth 100000
set_option maxRecDepth 100000
namespace Mine
noncomputable def tab64 : List Int := [65, 66, 67, 68, 69, 70, 71, 72, 73, 74, 75, 76, 77, 78, 79, 80, 81, 82, 83, 84, 85, 86, 87, 88, 89, 90, 97, 98, 99, 100, 101, 102, 103, 104, 105, 106, 107, 108, 109, 110, 111, 112, 113, 114, 115, 116, 117, 118, 119, 120, 121, 122, 48, 49, 50, 51, 52, 53, 54, 55, 56, 57, 43, 47]
@[irreducible] noncomputable def at64 (i : Int) : Int := tab64.getD i.toNat 0

theorem neAll_of {d : Addr} {l : List (Addr × Obj)} (h : AllLt d l) : ∀ p ∈ l, p.1 ≠ d := fun p hp => Nat.ne_of_lt (ktn_ltOf h p hp)
theorem neAll_le {d d' : Nat} {l : List (Addr × Obj)} (h : AllLt d l) (hd : @LE.le Nat _ d d') : ∀ p ∈ l, p.1 ≠ d' := fun p hp => Nat.ne_of_lt (Nat.lt_of_lt_of_le (ktn_ltOf h p hp) hd)
theorem or_shift {a m : Int} (ha : 0 ≤ a) (h0 : 0 ≤ m) (h1 : m < 256) : Builtin.bitOr (a * 256) m = a * 256 + m := by
  rw [bitOr_and, bitAnd_pp (by omega) h0]
  have e : (a * 256).toNat = 2 ^ 8 * a.toNat := by omega
  have hz : (2 ^ 8 * a.toNat &&& m.toNat) = 0 := by
    apply Nat.eq_of_testBit_eq
    intro i
    rw [Nat.testBit_and, Nat.zero_testBit]
    by_cases hi : i < 8
    · rw [Nat.testBit_two_pow_mul]
      simp [Nat.not_le.mpr hi]
    · have : m.toNat < 2 ^ i := Nat.lt_of_lt_of_le (by omega : m.toNat < 2 ^ 8) (Nat.pow_le_pow_right (by decide) (Nat.le_of_not_lt hi))
      rw [Nat.testBit_lt_two_pow this, Bool.and_false]
  rw [e, hz]; simp

section
variable {prog : Program} {w : World} {A : Around} {E : Value → Shared → Prop} {s : Shared} {a b m : Int} {t u : Tok} {Q : Value → Shared → Prop}
theorem r_shl8 (h0 : 0 ≤ a) (h1 : a < 65536) (h : Q (.int (a * 256) s.toks) { s with toks := s.toks + 1 }) : wpAny (model prog w) A (binaryOp .LShift (.int a t) (.int 8 u)) Q E s :=
  lshift_int_small (by decide) (by decide) (by omega) h
theorem r_shl4 (h0 : 0 ≤ a) (h1 : a < 65536) (h : Q (.int (a * 16) s.toks) { s with toks := s.toks + 1 }) : wpAny (model prog w) A (binaryOp .LShift (.int a t) (.int 4 u)) Q E s :=
  lshift_int_small (by decide) (by decide) (by omega) h
theorem r_shl2 (h0 : 0 ≤ a) (h1 : a < 65536) (h : Q (.int (a * 4) s.toks) { s with toks := s.toks + 1 }) : wpAny (model prog w) A (binaryOp .LShift (.int a t) (.int 2 u)) Q E s :=
  lshift_int_small (by decide) (by decide) (by omega) h
theorem r_or (h0 : 0 ≤ a) (h1 : 0 ≤ m) (h2 : m < 256) (h : Q (.int (a * 256 + m) s.toks) { s with toks := s.toks + 1 }) : wpAny (model prog w) A (binaryOp .BitOr (.int (a * 256) t) (.int m u)) Q E s :=
  or_int (by rw [or_shift h0 h1 h2]; exact h)
theorem r_and16 (h0 : 0 ≤ a) (h1 : a < 65536) (h : Q (.int a s.toks) { s with toks := s.toks + 1 }) : wpAny (model prog w) A (binaryOp .BitAnd (.int a t) (.int 65535 u)) Q E s :=
  and_int (by rw [bitAnd_m16, Int.emod_eq_of_lt h0 h1]; exact h)
theorem r_and6 (h : Q (.int (a % 64) s.toks) { s with toks := s.toks + 1 }) : wpAny (model prog w) A (binaryOp .BitAnd (.int a t) (.int 63 u)) Q E s :=
  and_int (by rw [bitAnd_m6]; exact h)
theorem r_and4 (h : Q (.int (a % 16) s.toks) { s with toks := s.toks + 1 }) : wpAny (model prog w) A (binaryOp .BitAnd (.int a t) (.int 15 u)) Q E s :=
  and_int (by rw [bitAnd_m4]; exact h)
theorem r_and2 (h : Q (.int (a % 4) s.toks) { s with toks := s.toks + 1 }) : wpAny (model prog w) A (binaryOp .BitAnd (.int a t) (.int 3 u)) Q E s :=
  and_int (by rw [bitAnd_m2]; exact h)
theorem r_shr2 {n : Int} (hn : n = 2) (h : Q (.int (a / 4) s.toks) { s with toks := s.toks + 1 }) : wpAny (model prog w) A (binaryOp .RShift (.int a t) (.int n u)) Q E s := by
  subst hn
  refine rshift_int (by decide) ?_
  rw [Int.fdiv_eq_ediv_of_nonneg _ (by decide)]; exact h
theorem r_shr4 {n : Int} (hn : n = 4) (h : Q (.int (a / 16) s.toks) { s with toks := s.toks + 1 }) : wpAny (model prog w) A (binaryOp .RShift (.int a t) (.int n u)) Q E s := by
  subst hn
  refine rshift_int (by decide) ?_
  rw [Int.fdiv_eq_ediv_of_nonneg _ (by decide)]; exact h
theorem at64_in (i : Int) : 0 ≤ at64 i ∧ at64 i < 256 := by
  unfold at64
  exact KBw.getD_in (ks := tab64) (by decide)
theorem r_at64 {value slice : PySem.Expr} {b : Array UInt8} {t : Tok} {i : Int} (hk : KBw.bInts b = tab64) (h0 : 0 ≤ i) (h1 : i < 64) (h : ∀ t' k, Q (.int (at64 i) t') { s with toks := k })
    (hs : subscripted slice false (.bytes b t) (.int i u) = operate [.bytes b t, .int i u] (getItem (.bytes b t) (.int i u)) := by with_unfolding_all rfl)
    (ht : ∀ r, letTemporaryGo value (.bytes b t) r = pure () := by intro _; with_unfolding_all rfl) :
    wpAny (model prog w) A (subscriptTail value slice (.bytes b t) (.int i u)) Q E s := by
  refine KBw.item_K (ks := tab64) hk (by decide) h0 (by show i < 64; exact h1) (fun t' k _ _ => ?_) hs ht
  have := h t' k
  unfold at64 at this
  exact this
theorem r_shr {n k : Int} (hn : n = k) (hk : 0 ≤ k) {v : Int} (hv : a.fdiv (2 ^ k.toNat) = v) (h : Q (.int v s.toks) { s with toks := s.toks + 1 }) : wpAny (model prog w) A (binaryOp .RShift (.int a t) (.int n u)) Q E s := by
  subst hn; subst hv
  exact rshift_int hk h
theorem r_bytes4 {h₀ : Heap} {L D : Addr} {mm : PySem.Str → Option Value} {news : List (Addr × Obj)} {e : Nat} {a b c d : Int} {ta tb tc td : Tok} {xs : Array Value} (hx : xs = [Value.int a ta, Value.int b tb, Value.int c tc, Value.int d td].toArray)
    (F : Fr h₀ L s.heap mm) (N : News h₀ L s.heap news) (hm : (D, W.listOf xs e) ∈ news) (hh : A.handled = none) (hr : KBa.In [a, b, c, d])
    (h : ∀ h' t' k, Fr h₀ L h' mm → News h₀ L h' news → Q (.bytes (byteArr [a, b, c, d]) t') { s with heap := h', toks := k }) : wpAny (model prog w) A (call (.type "bytes") [.ref D]) Q E s := by
  subst hx
  exact KBa.make_K F N hh (News.isList N hm) (.cons _ _ (.cons _ _ (.cons _ _ (.cons _ _ .nil)))) hr (by simp) fun h' t' k F' N' _ => h h' t' k F' N'
theorem in4 {a b : Int} {c d : Int} (hc : 0 ≤ c ∧ c < 256) (hd : 0 ≤ d ∧ d < 256) : KBa.In [at64 a, at64 b, c, d] := by
  intro n hn
  rcases List.mem_cons.mp hn with rfl | hn
  · exact at64_in _
  rcases List.mem_cons.mp hn with rfl | hn
  · exact at64_in _
  rcases List.mem_cons.mp hn with rfl | hn
  · exact hc
  rcases List.mem_cons.mp hn with rfl | hn
  · exact hd
  · cases hn
end
end Mine

end
section
set_option maxRecDepth 100000
set_option maxRecDepth 100000
namespace Mine
section
variable {prog : Program} {w : World} {A : Around} {E : Value → Shared → Prop} {s : Shared} {Q : Value → Shared → Prop} {h₀ : Heap} {L D : Addr} {m : PySem.Str → Option Value} {news : List (Addr × Obj)} {vs : List Value} {c : Nat}
theorem r_len {n : Nat} (N : News h₀ L s.heap news) (hm : (D, W.listOf vs.toArray c) ∈ news) (hn : vs.length = n) (hf : n < 2 ^ 62) (h : Q (.int (n : Nat) (s.toks + 1)) { s with toks := s.toks + 1 + 1 }) :
    wpAny (model prog w) A (call (.builtin "len") [.ref D]) Q E s :=
  KM.len_K N hm (by rw [List.size_toArray]; exact hn) hf h
end

noncomputable def Hold (P : Prop) : Prop := P
theorem hold {P : Prop} (h : Hold P) : P := h

/-- entering a def over a part of the ledger, the cells too; the rest of the heap is the new ground -/
theorem code_defGC {prog : Program} {w : World} {A₀ A : Around} {s : Shared} {base h₀ : Heap} {outer : List Env} {L : Addr} {m : Str → Option Value} {env : Env} {news : List (Addr × Obj)}
    {K : Frag} {p : Program} {loose : List Str} {mean : ExcName → Option Value} {mg mb : Str → Option Value} {R : Result → Shared → Prop} {name qual : Str} {params : Arguments} {body : List Stmt} {scope : Scope} {dV kV doc pm cdv ct oc : Value} {an od : Option Addr} {osl : Array (Option Value)} {f : Addr} {args : Args} {binds : List (Str × Value)}
    (B : Below A₀ base outer h₀) (F : Fr h₀ L s.heap m) (X₀ : K.In h₀) (N : News h₀ L s.heap news) (T : Top p loose mean mg mb h₀) (hA : A.frames = some (env :: outer)) (hf : env.frame = some L) (hke : env.scope.kind = .function)
    (ho : K.lookup f = some ⟨oc, od, .func (fnOf name qual params body scope dV kV doc pm an cdv ct), osl⟩) (hcd : codeIn K cdv qual = true) (hroom : A.depth < recursionLimit)
    (hbind : BindsTo s (fnOf name qual params body scope dV kV doc pm an cdv ct) args binds) (hkind : (binds.all fun y => scope.names.lookup y.1 == some .local || scope.names.lookup y.1 == some .cell) = true)
    (hnd : ((cellsFrom 0 scope.names []).map (·.1)).Nodup)
    (h : ∀ g L' h₁ tk cells, Fr h₀ L g m → Fr g L' h₁ (bindL (envOfC qual scope L' f cdv).kindOf binds fun _ => none) → News g L' h₁ (cells ++ news) →
      CellsAre (bindC (envOfC qual scope L' f cdv).kindOf binds fun _ => none) (cellsFrom (L' + 1) scope.names []) cells → Below A base (env :: outer) g → K.In g → Top p loose mean mg mb g → (∀ p ∈ news, p.1 < L') → GSub s.heap g (news.map (·.1)) →
      wpAny (model prog w) (A.deeper (envOfC qual scope L' f cdv)) (execs body (envOfC qual scope L' f cdv))
        (fun fl s' => LeaveK h₀ L m g R (match fl with | .ret v => v | _ => .none) s')
        (fun e s' => wpAny (model prog w) (A.deeper (envOfC qual scope L' f cdv)) (leaving (envOfC qual scope L' f cdv) e) (fun _ s'' => R (.error e) s'') (fun e' s'' => R (.error e') s'') s')
        { s with heap := h₁, toks := tk })
    (hco : scope.isCoroutine = false) (hgen : scope.isGenerator = false) (hk : scope.kind = .function) : codeAny (model prog w) A (.call (.ref f) args) R s := by
  obtain ⟨FG, BG, st, lv⟩ := groundX (R := R) B F N hA hf hke
  refine codeAny_call_function hroom ((X₀.keeps F.keep) _ _ ho) rfl hco hgen rfl (codeRec_of (X₀.keeps F.keep) hcd) (hbind _ _ _ _ ?_)
  refine wpAny_newFunctionEnv_cells hk (kindsX hkind _) fun env' he s' x => ?_
  subst he
  refine ⟨(T.nolimit.keeps F.keep).keeps x.toInCall.keep, codeAny_func ?_⟩
  obtain ⟨h₁, tk, rfl, _⟩ := x.done
  have hk₁ := x.toInCall.keep
  obtain ⟨cells, NC, Y⟩ := Cl.news (h₀ := s.heap) (Nat.le_refl _) fun n c hm => ⟨x.cell n c (lookup_of_mem_nodup (cellsFrom_names scope.names 0 (s.heap.objs.size + 1) [] [] rfl ▸ hnd) hm), x.above n c hm⟩
  refine wpAny_mono (h _ s.heap.objs.size h₁ tk cells FG ⟨x.toInCall.ns, fun b o e => hk₁ b o (of_hideAll _ e), Nat.le_of_eq (hideAll_size _ _)⟩ (fun p hp => ?_) Y BG (X₀.keeps st) (T.keeps st) (fun p hp => Heap.lt_size (N p hp).1)
    (fun b o e n => hideAll_get _ e n)) (fun fl s' hl => lv _ _ hl) fun _ _ y => y
  rcases List.mem_append.mp hp with hp | hp
  · refine ⟨(NC p hp).1, (NC p hp).2.1, ?_⟩
    cases q : (hideAll s.heap (news.map (·.1))).get? p.1 with
    | none => rfl
    | some o => have := of_hideAll _ q; rw [(NC p hp).2.2] at this; cases this
  · exact ⟨hk₁ _ _ (N p hp).1, Nat.ne_of_lt (Heap.lt_size (N p hp).1), hideAll_none _ (List.mem_map_of_mem hp)⟩

/-- what stood in the ledger stands still: the def read a part of it and left the rest alone -/
theorem ro_news {h₀ g H h' : Heap} {L L' : Addr} {m' : Str → Option Value} {news news' muts : List (Addr × Obj)} (N : News h₀ L H news) (G : GSub H g (muts.map (·.1))) (hm : ∀ p ∈ muts, p ∈ news) (F' : Fr g L' h' m') (kN : News h₀ L h' news') (hs : ∀ p ∈ muts, p ∈ news') :
    News h₀ L h' (news' ++ news) := by
  intro p hp
  rcases List.mem_append.mp hp with hp | hp
  · exact kN p hp
  · by_cases hq : p.1 ∈ muts.map (·.1)
    · obtain ⟨q, hq1, hq2⟩ := List.mem_map.mp hq
      have e1 := (N p hp).1
      have e2 := (N q (hm q hq1)).1
      rw [hq2, e1] at e2
      have e3 : p = q := Prod.ext hq2.symm (Option.some.inj e2)
      rw [e3]
      exact kN q (hs q hq1)
    · exact ⟨F'.keep _ _ (G _ _ (N p hp).1 hq), (N p hp).2⟩
theorem ro_off {h₀ g H h' : Heap} {L L' D : Addr} {o : Obj} {news nn muts : List (Addr × Obj)} (N : News h₀ L H news) (G : GSub H g (muts.map (·.1))) (N' : News g L' h' nn) (hD : (D, o) ∈ nn) (hq : ∀ q ∈ muts, q.1 ≠ D) : ∀ p ∈ news, p.1 ≠ D := by
  intro p hp e
  by_cases hm : p.1 ∈ muts.map (·.1)
  · obtain ⟨q, hq1, hq2⟩ := List.mem_map.mp hm
    exact hq q hq1 (hq2.trans e)
  · have h1 := G _ _ (N p hp).1 hm
    have h2 : g.get? D = none := (N' (D, o) hD).2.2
    have h3 : g.get? D = some p.2 := e ▸ h1
    exact Option.some_ne_none _ (h3.symm.trans h2)
theorem off1_of {D : Addr} : ∀ {l : List (Addr × Obj)}, (∀ p ∈ l, p.1 ≠ D) → LCg.Off1 D l
  | [], _ => trivial
  | _ :: _, h => ⟨h _ List.mem_cons_self, off1_of fun p hp => h p (List.mem_cons_of_mem _ hp)⟩
theorem neAll_off1 {D : Addr} {l : List (Addr × Obj)} (h : LCg.Off1 D l) : ∀ p ∈ l, p.1 ≠ D := by
  induction l with
  | nil => intro p hp; cases hp
  | cons q r ih =>
    intro p hp
    rcases List.mem_cons.mp hp with e | hp
    · rw [e]; exact h.1
    · exact ih h.2 p hp
/-- the rest of the ledger stands where a part of it was turned -/
theorem rw_news {h₀ g H h' : Heap} {L L' : Addr} {m' : Str → Option Value} {rest news' muts : List (Addr × Obj)} (N : News h₀ L H rest) (G : GSub H g (muts.map (·.1))) (hm : ∀ p ∈ rest, ∀ q ∈ muts, p.1 ≠ q.1) (F' : Fr g L' h' m') (kN : News h₀ L h' news') :
    News h₀ L h' (news' ++ rest) := by
  intro p hp
  rcases List.mem_append.mp hp with hp | hp
  · exact kN p hp
  · refine ⟨F'.keep _ _ (G _ _ (N p hp).1 fun hq => ?_), (N p hp).2⟩
    obtain ⟨q, hq1, hq2⟩ := List.mem_map.mp hq
    exact hm p hp q hq1 hq2.symm
end Mine

end
section
set_option maxRecDepth 100000
set_option maxRecDepth 100000
namespace Mine
/-- the sign of a six -/
noncomputable def sgn (i : Int) : Str := ⟨#[(at64 i).toNat]⟩
noncomputable def signsS : Str := Str.ofString "ABCDEFGHIJKLMNOPQRSTUVWXYZabcdefghijklmnopqrstuvwxyz0123456789+/"
theorem item_sgn {i : Int} (h0 : 0 ≤ i) (h1 : i < 64) : Txt.item signsS i = sgn i := by
  have key : ∀ k : Fin 64, Txt.item signsS (k.val : Int) = ⟨#[(tab64.getD k.val 0).toNat]⟩ := by decide +kernel
  have := key ⟨i.toNat, by omega⟩
  have e : ((i.toNat : Nat) : Int) = i := by omega
  unfold sgn at64
  simp only [e] at this
  exact this
theorem len_signsS : signsS.length = 64 := by decide +kernel
section
variable {prog : Program} {w : World} {A : Around} {E : Value → Shared → Prop} {s : Shared} {Q : Value → Shared → Prop} {h₀ : Heap} {L D : Addr} {m : PySem.Str → Option Value} {news : List (Addr × Obj)} {vs : List Value} {c : Nat} {t u : Tok}
theorem r_sign {value slice : PySem.Expr} {i : Int} (h0 : 0 ≤ i) (h1 : i < 64) (h : Q (.str (sgn i) s.toks) { s with toks := s.toks + 1 })
    (hs : subscripted slice false (.str signsS t) (.int i u) = operate [.str signsS t, .int i u] (getItem (.str signsS t) (.int i u)) := by with_unfolding_all rfl)
    (ht : ∀ r, letTemporaryGo value (.str signsS t) r = pure () := by intro _; with_unfolding_all rfl) :
    wpAny (model prog w) A (subscriptTail value slice (.str signsS t) (.int i u)) Q E s := by
  have hl := len_signsS
  refine item_str (fitsSsize_of (N := 9223372036854775808) (by omega) (by omega) (Int.le_refl _)) (by omega) (by omega) (fun _ => ?_) hs ht
  rw [item_sgn h0 h1]
  exact h
theorem strs_values : ∀ {vs : List Value} {ys : List Str}, StrsAre vs ys → ∃ l : List (Str × Tok), vs = strValues l ∧ l.map (·.1) = ys
  | _, _, .nil => ⟨[], rfl, rfl⟩
  | _, _, .cons y t h => by
    obtain ⟨l, e1, e2⟩ := strs_values h
    exact ⟨(y, t) :: l, by rw [e1]; rfl, by rw [List.map_cons, e2]⟩
theorem r_join {x : Str} {ys : List Str} (N : News h₀ L s.heap news) (hm : (D, W.listOf vs.toArray c) ∈ news) (hv : StrsAre vs ys) (hok : (ys.map (·.length)).sum + ys.length * x.length ≤ 16777216)
    (h : ∀ t' k, Q (.str (Txt.join x ys) t') { s with toks := k }) : wpAny (model prog w) A (call (.builtin "str.join") [.str x t, .ref D]) Q E s := by
  obtain ⟨l, rfl, e⟩ := strs_values hv
  exact SC.join (News.isList N hm) e (joinOk_of hok) h
theorem r_pow {a n v : Int} (hv : a ^ n.toNat = v) (hn : 0 ≤ n) (hn2 : n ≤ 1000000) (ha : a.natAbs < 2 ^ 64) (h : Q (.int v s.toks) { s with toks := s.toks + 1 }) : wpAny (model prog w) A (binaryOp .Pow (.int a t) (.int n u)) Q E s := by
  subst hv
  exact pow_int_small hn hn2 ha h
theorem r_fdiv {a b : Int} (hb : 0 < b) (hl : b.natAbs.log2 < 9000) (h : Q (.int (a / b) s.toks) { s with toks := s.toks + 1 }) : wpAny (model prog w) A (binaryOp .FloorDiv (.int a t) (.int b u)) Q E s := by
  refine floordiv_int (by omega) ?_ (Or.inl (PyProof.noPylong_of_log2 hl))
  rw [Int.fdiv_eq_ediv_of_nonneg _ (by omega)]; exact h
theorem r_fmod {a b : Int} (hb : 0 < b) (h : Q (.int (a % b) s.toks) { s with toks := s.toks + 1 }) : wpAny (model prog w) A (binaryOp .Mod (.int a t) (.int b u)) Q E s := by
  refine mod_int' (by omega) ?_
  rw [Int.fmod_eq_emod_of_nonneg _ (by omega)]; exact h
end
end Mine

end
section
set_option maxRecDepth 100000
set_option maxRecDepth 100000
namespace Mine
section
open Builtin
variable {b : Array UInt8} {c : UInt8} {cs : List UInt8} {t u : Tok} {x : PySem.Str} {n : Nat}
theorem road_ascii {id : String} : _codecs.decodeRoad id b (PySem.Str.ofString "ascii") none [] = (_codecs.runDecoder id _codecs.asciiDecoder none true b 0 [] >>= fun r => mkStr ⟨r.1⟩) := by kernel_rfl
theorem entry_ascii : «bytes.decode» ⟨[.bytes (c :: cs).toArray t, .str (PySem.Str.ofString "ascii") u], []⟩ = (mkStr (PySem.Str.ofString "utf-8") >>= fun _ => mkStr (PySem.Str.ofString "ascii") >>= fun e => mkStr (PySem.Str.ofString "bytes.decode") >>= fun d =>
    call (.builtin "_codecs.decode.text") [.bytes (c :: cs).toArray t, e, .none, d] >>= fun v => ret v) := by kernel_rfl
theorem run_ascii {id : String} {a b c d : UInt8} (ha : a.toNat < 128) (hb : b.toNat < 128) (hc : c.toNat < 128) (hd : d.toNat < 128) :
    _codecs.runDecoder id _codecs.asciiDecoder none true [a, b, c, d].toArray 0 [] = pure (#[a.toNat, b.toNat, c.toNat, d.toNat], 4) := by
  unfold _codecs.runDecoder _codecs.asciiDecoder
  simp [Std.Legacy.Range.forIn_eq_forIn_range', List.range', ha, hb, hc, hd, _codecs.Found.char, Std.Legacy.Range.size, sizeLine]
theorem meets_textA {t1 t2 : Tok} {d : PySem.Str} (hd : ∀ id, _codecs.runDecoder id _codecs.asciiDecoder none true b 0 [] = pure (x.cps, n)) :
    Meets («_codecs.decode.text» ⟨[.bytes b t, .str (PySem.Str.ofString "ascii") t1, .none, .str d t2], []⟩) (fun _ R s => x.length ≤ sizeLine ∧ R (.ok (.ret (.str x s.toks))) { s with toks := s.toks + 1 }) := by
  refine .of_wp fun prog w A R s hS => ?_
  obtain ⟨hsz, h⟩ := hS
  show wpAny _ _ (Bytes.bytesLike _ (.bytes b t) >>= fun r => _) _ _ s
  refine wpAny_bind (wpAny_of_eq KBd.like_eq ?_)
  refine wpAny_bind (wpAny_of_eq KBd.held_eq ?_)
  show wpAny _ _ (_codecs.decodeRoad _ b (PySem.Str.ofString "ascii") none [] >>= fun v => _) _ _ s
  rw [road_ascii, hd]
  refine wpAny_bind (wpAny_bind (wpAny_pure ?_))
  exact wpAny_mkStr (wpAny_pure ⟨_, rfl, h⟩) hsz
theorem meets_decodeA (hd : ∀ id, _codecs.runDecoder id _codecs.asciiDecoder none true (c :: cs).toArray 0 [] = pure (x.cps, n)) :
    Meets («bytes.decode» ⟨[.bytes (c :: cs).toArray t, .str (PySem.Str.ofString "ascii") u], []⟩) (fun _ R s => x.length ≤ sizeLine ∧ ∀ t' k, R (.ok (.ret (.str x t'))) { s with toks := k }) := by
  refine .of_wp fun prog w A R s hS => ?_
  obtain ⟨hsz, h⟩ := hS
  rw [entry_ascii]
  refine wpAny_bind (wpAny_mkStr ?_ (by decide))
  refine wpAny_bind (wpAny_mkStr ?_ (by decide))
  refine wpAny_bind (wpAny_mkStr ?_ (by decide))
  exact wpAny_bind (call_function_meets KBd.kind_text KBd.plain_text KBd.entry_text (KBd.args_text _ _ _ _) (meets_textA hd) ⟨hsz, wpAny_pure ⟨_, rfl, h _ _⟩⟩)
end
section
variable {prog : Program} {w : World} {A : Around} {E : Value → Shared → Prop} {s : Shared} {t u : Tok}
theorem args_bytes_decode_2 (a b : Value) : argsOk "bytes.decode" ⟨[a, b], []⟩ := by unfold argsOk; kernel_rfl
/-- four signs of ASCII -/
theorem decode4 {Q : Value → Shared → Prop} {a b c d : UInt8} (ha : a.toNat < 128) (hb : b.toNat < 128) (hc : c.toNat < 128) (hd : d.toNat < 128)
    (h : ∀ t' k, Q (.str ⟨#[a.toNat, b.toNat, c.toNat, d.toNat]⟩ t') { s with toks := k }) :
    wpAny (model prog w) A (call (.builtin "bytes.decode") [.bytes [a, b, c, d].toArray t, .str (PySem.Str.ofString "ascii") u]) Q E s :=
  call_meets FB.slot_bytes_decode (typeIs_bytes _ _ _) FB.entry_bytes_decode (args_bytes_decode_2 _ _) (meets_decodeA (x := ⟨#[a.toNat, b.toNat, c.toNat, d.toNat]⟩) (n := 4) (fun id => run_ascii ha hb hc hd)) ⟨by rw [sizeLine_eq]; show 4 ≤ _; decide, h⟩
end
end Mine

end
section
set_option maxRecDepth 100000
set_option maxRecDepth 100000
namespace Mine
theorem at64_lt (i : Int) : 0 ≤ at64 i ∧ at64 i < 128 := by
  unfold at64
  have key : ∀ k ∈ (0 :: tab64), 0 ≤ k ∧ k < 128 := by decide
  rcases Nat.lt_or_ge i.toNat tab64.length with h | h
  · rw [List.getD_eq_getElem?_getD, List.getElem?_eq_getElem h]
    exact key _ (List.mem_cons_of_mem _ (List.getElem_mem h))
  · rw [List.getD_eq_getElem?_getD, List.getElem?_eq_none h]
    exact key _ List.mem_cons_self

/-- the four numbers of a writing -/
noncomputable def b64l : List Int → List Int
  | [n] => [at64 ((0 * 256 + n) / 4 % 64), at64 ((0 * 256 + n) % 4 * 16), 61, 61]
  | [n, k] => [at64 ((0 * 256 + n) / 4 % 64), at64 (((0 * 256 + n) * 256 + k) / 16 % 64), at64 (((0 * 256 + n) * 256 + k) % 16 * 4), 61]
  | _ => []
noncomputable def strl (l : List Int) : Str := ⟨(l.map Int.toNat).toArray⟩
/-- the writing of octets -/
noncomputable def wrl (ns : List Int) : Str := strl (b64l ns)
noncomputable def Octs (ns : List Int) : Prop := (ns.length = 1 ∨ ns.length = 2) ∧ KBa.In ns
noncomputable def octs (x : Int) : List Int := List.take (1 + x.fmod 2).toNat [x.fmod 256, (x.fdiv 256).fmod 256]
theorem octs_ok (x : Int) : Octs (octs x) := by
  have h2 := Int.fmod_nonneg_of_pos x (show (0:Int) < 2 by decide)
  have h2' := Int.fmod_lt_of_pos x (show (0:Int) < 2 by decide)
  have h0 := Int.fmod_nonneg_of_pos x (show (0:Int) < 256 by decide)
  have h0' := Int.fmod_lt_of_pos x (show (0:Int) < 256 by decide)
  have h1 := Int.fmod_nonneg_of_pos (x.fdiv 256) (show (0:Int) < 256 by decide)
  have h1' := Int.fmod_lt_of_pos (x.fdiv 256) (show (0:Int) < 256 by decide)
  unfold octs Octs
  have hc : (1 + x.fmod 2).toNat = 1 ∨ (1 + x.fmod 2).toNat = 2 := by omega
  rcases hc with hc | hc <;> rw [hc]
  · refine ⟨.inl rfl, fun n hn => ?_⟩
    simp at hn
    subst hn; exact ⟨h0, h0'⟩
  · refine ⟨.inr rfl, fun n hn => ?_⟩
    simp at hn
    rcases hn with rfl | rfl
    · exact ⟨h0, h0'⟩
    · exact ⟨h1, h1'⟩
theorem Octs.cases {ns : List Int} (h : Octs ns) : (∃ n, ns = [n] ∧ 0 ≤ n ∧ n < 256) ∨ ∃ n k, ns = [n, k] ∧ 0 ≤ n ∧ n < 256 ∧ 0 ≤ k ∧ k < 256 := by
  obtain ⟨h1, h2⟩ := h
  match ns, h1 with
  | [n], _ => exact .inl ⟨n, rfl, h2 n List.mem_cons_self⟩
  | [n, k], _ => exact .inr ⟨n, k, rfl, (h2 n List.mem_cons_self).1, (h2 n List.mem_cons_self).2, h2 k (List.mem_cons_of_mem _ List.mem_cons_self)⟩
theorem b64_in {ns : List Int} (h : Octs ns) : ∃ a b c d, b64l ns = [a, b, c, d] ∧ (0 ≤ a ∧ a < 128) ∧ (0 ≤ b ∧ b < 128) ∧ (0 ≤ c ∧ c < 128) ∧ (0 ≤ d ∧ d < 128) := by
  rcases h.cases with ⟨n, rfl, _⟩ | ⟨n, k, rfl, _⟩
  · exact ⟨_, _, _, _, rfl, at64_lt _, at64_lt _, ⟨by decide, by decide⟩, ⟨by decide, by decide⟩⟩
  · exact ⟨_, _, _, _, rfl, at64_lt _, at64_lt _, at64_lt _, ⟨by decide, by decide⟩⟩
theorem u8_of {n : Int} (h : 0 ≤ n ∧ n < 128) : (n.toNat.toUInt8).toNat = n.toNat := by
  have : n.toNat < 256 := by omega
  show (UInt8.ofNat n.toNat).toNat = n.toNat
  rw [UInt8.toNat_ofNat']; omega
section
variable {prog : Program} {w : World} {A : Around} {E : Value → Shared → Prop} {s : Shared} {t u : Tok} {Q : Value → Shared → Prop}
theorem r_decode {ns : List Int} (ho : Octs ns) (h : ∀ t' k, Q (.str (wrl ns) t') { s with toks := k }) :
    wpAny (model prog w) A (call (.builtin "bytes.decode") [.bytes (byteArr (b64l ns)) t, .str (PySem.Str.ofString "ascii") u]) Q E s := by
  obtain ⟨a, b, c, d, e, ha, hb, hc, hd⟩ := b64_in ho
  unfold wrl at h
  rw [e] at h ⊢
  refine decode4 (a := a.toNat.toUInt8) (b := b.toNat.toUInt8) (c := c.toNat.toUInt8) (d := d.toNat.toUInt8) (by rw [u8_of ha]; omega) (by rw [u8_of hb]; omega) (by rw [u8_of hc]; omega) (by rw [u8_of hd]; omega) fun t' k => ?_
  rw [u8_of ha, u8_of hb, u8_of hc, u8_of hd]
  exact h t' k
end
/-- what the law's own writing makes -/
theorem writing1 {n : Int} (h0 : 0 ≤ n) (h1 : n < 256) : Txt.join (Str.ofString "") [sgn ((((0 * 256 + n) * 256 + 0) * 256 + 0) / 262144 % 64), sgn ((((0 * 256 + n) * 256 + 0) * 256 + 0) / 4096 % 64)] ++ Txt.mul (Str.ofString "=") (3 - 1) = wrl [n] := by
  have e1 : (((0 * 256 + n) * 256 + 0) * 256 + 0) / 262144 % 64 = (0 * 256 + n) / 4 % 64 := by omega
  have e2 : (((0 * 256 + n) * 256 + 0) * 256 + 0) / 4096 % 64 = (0 * 256 + n) % 4 * 16 := by omega
  rw [e1, e2]
  rfl
theorem writing2 {n k : Int} (h0 : 0 ≤ n) (h1 : n < 256) (h2 : 0 ≤ k) (h3 : k < 256) : Txt.join (Str.ofString "") [sgn ((((0 * 256 + n) * 256 + k) * 256 + 0) / 262144 % 64), sgn ((((0 * 256 + n) * 256 + k) * 256 + 0) / 4096 % 64), sgn ((((0 * 256 + n) * 256 + k) * 256 + 0) / 64 % 64)] ++ Txt.mul (Str.ofString "=") (3 - 2) = wrl [n, k] := by
  have e1 : (((0 * 256 + n) * 256 + k) * 256 + 0) / 262144 % 64 = (0 * 256 + n) / 4 % 64 := by omega
  have e2 : (((0 * 256 + n) * 256 + k) * 256 + 0) / 4096 % 64 = ((0 * 256 + n) * 256 + k) / 16 % 64 := by omega
  have e3 : (((0 * 256 + n) * 256 + k) * 256 + 0) / 64 % 64 = ((0 * 256 + n) * 256 + k) % 16 * 4 := by omega
  rw [e1, e2, e3]
  rfl
end Mine

end
section
set_option maxRecDepth 100000
set_option maxRecDepth 100000
namespace Mine
/-- the table of the special signs, as the top left it -/
noncomputable def specials : List DictEntry := ({ hash := 40, key := Value.int 40 261, val := Value.str (Str.ofString "\\(") 265 } :: { hash := 41, key := Value.int 41 267, val := Value.str (Str.ofString "\\)") 271 } :: { hash := 91, key := Value.int 91 273, val := Value.str (Str.ofString "\\[") 277 } :: { hash := 93, key := Value.int 93 279, val := Value.str (Str.ofString "\\]") 283 } :: { hash := 123, key := Value.int 123 285, val := Value.str (Str.ofString "\\{") 289 } :: { hash := 125, key := Value.int 125 291, val := Value.str (Str.ofString "\\}") 295 } :: { hash := 63, key := Value.int 63 297, val := Value.str (Str.ofString "\\?") 301 } :: { hash := 42, key := Value.int 42 303, val := Value.str (Str.ofString "\\*") 307 } :: { hash := 43, key := Value.int 43 309, val := Value.str (Str.ofString "\\+") 313 } :: { hash := 45, key := Value.int 45 315, val := Value.str (Str.ofString "\\-") 319 } :: { hash := 124, key := Value.int 124 321, val := Value.str (Str.ofString "\\|") 325 } :: { hash := 94, key := Value.int 94 327, val := Value.str (Str.ofString "\\^") 331 } :: { hash := 36, key := Value.int 36 333, val := Value.str (Str.ofString "\\$") 337 } :: { hash := 92, key := Value.int 92 339, val := Value.str (Str.ofString "\\\\") 343 } :: { hash := 46, key := Value.int 46 345, val := Value.str (Str.ofString "\\.") 349 } :: { hash := 38, key := Value.int 38 351, val := Value.str (Str.ofString "\\&") 355 } :: { hash := 126, key := Value.int 126 357, val := Value.str (Str.ofString "\\~") 361 } :: { hash := 35, key := Value.int 35 363, val := Value.str (Str.ofString "\\#") 367 } :: { hash := 32, key := Value.int 32 369, val := Value.str (Str.ofString "\\ ") 373 } :: { hash := 9, key := Value.int 9 375, val := Value.str (Str.ofString "\\\t") 379 } :: { hash := 10, key := Value.int 10 381, val := Value.str (Str.ofString "\\\n") 385 } :: { hash := 13, key := Value.int 13 387, val := Value.str (Str.ofString "\\\x0d") 391 } :: { hash := 11, key := Value.int 11 393, val := Value.str (Str.ofString "\\\x0b") 397 } :: { hash := 12, key := Value.int 12 399, val := Value.str (Str.ofString "\\\x0c") 403 } :: [])
theorem specials_in {w : World} : (Mine.heapK w.params).lookup 65 = some ⟨.type "dict", none, .dict (Array.mk specials) 24, #[]⟩ := by
  kernel_rfl
/-- the signs of a writing -/
noncomputable def signB (c : Nat) : Bool := c == 43 || c == 47 || c == 61 || (48 ≤ c && c ≤ 57) || (65 ≤ c && c ≤ 90) || (97 ≤ c && c ≤ 122)
theorem special_none {c : Nat} (h : signB c = true) (hc : c ≠ 43) : findBy Value.isInt (Array.mk specials) (c : Int) = none := by
  have key : ∀ k : Fin 128, signB k.val = true → k.val ≠ 43 → findBy Value.isInt (Array.mk specials) ((k.val : Nat) : Int) = none := by decide +kernel
  have h128 : c < 128 := by
    simp only [signB, Bool.or_eq_true, Bool.and_eq_true, decide_eq_true_eq, beq_iff_eq] at h
    omega
  exact key ⟨c, h128⟩ h hc
theorem special_plus : findBy Value.isInt (Array.mk specials) (43 : Int) = some (.str (Str.ofString "\\+") 313) := by decide +kernel
theorem special_map {prog : Program} {w : World} {h : Heap} (X : (Mine.heapK w.params).In h) : h.MapOf (intKind prog w) 65 (fun k => findBy Value.isInt (Array.mk specials) k) := by
  refine ⟨_, _, _, X _ _ specials_in, ⟨rfl, rfl, rfl⟩, rfl, ?_, fun _ => rfl⟩
  intro e he
  have key : specials.all (fun e => match e.key with | .int k _ => e.hash == hashInt k | _ => false) = true := by decide +kernel
  have := List.all_eq_true.mp key e (Array.mem_toList_iff.mpr he)
  split at this
  · rename_i k t hk
    exact ⟨k, by rw [hk]; exact intKind_is prog w k t, beq_iff_eq.mp this⟩
  · cases this

section
variable {prog : Program} {w : World} {A : Around} {E : Value → Shared → Prop} {s : Shared}
open Builtin Builtin.Str
theorem look_keep {c : Nat} {Q : Mapped → Shared → Prop} (hh : A.handled = none) (X : (Mine.heapK w.params).In s.heap) (hs : signB c = true) (hc : c ≠ 43)
    (h : ∀ h' k, (∀ b o, s.heap.get? b = some o → h'.get? b = some o) → Q .keep { s with heap := h', toks := k }) : wpAny (model prog w) A (tableLookup (.ref 65) c) Q E s := by
  unfold tableLookup
  refine wpAny_bind (wpAny_attempt (wpAny_bind (wpAny_mkInt ?_)))
  refine wpAny_getItem_missing_of (intKind_is prog w _ _) (by decide) hh (special_map (prog := prog) X) (special_none hs hc) fun h' e x => ?_
  dsimp only
  obtain ⟨ob, t, he, hcl, _⟩ := x.there
  refine wpAny_bind (wpAny_isInstance (T := "KeyError") (U := "LookupError") (b := true) ⟨ob, he, hcl⟩ ?_ ?_)
  · rw [isSubtype_type]; kernel_rfl
  · exact wpAny_bind (wpAny_rule (wpAny_pure (h h' _ x.keeps)))
theorem look_plus {Q : Mapped → Shared → Prop} (X : (Mine.heapK w.params).In s.heap)
    (h : ∀ k, Q (.text (Str.ofString "\\+")) { s with toks := k }) : wpAny (model prog w) A (tableLookup (.ref 65) 43) Q E s := by
  unfold tableLookup
  refine wpAny_bind (wpAny_attempt (wpAny_bind (wpAny_mkInt ?_)))
  refine wpAny_getItem_of (s := { s with toks := s.toks + 1 }) (intKind_is prog w _ _) (special_map (prog := prog) X) special_plus ?_
  exact wpAny_of_eq rfl (h _)
/-- a text with its pluses behind backslashes -/
noncomputable def escL (l : List Nat) : List Nat := l.flatMap fun c => if c = 43 then [92, 43] else [c]
theorem strOne_eq {x : PySem.Str} {t : Tok} {v : Value} : strOneArg "translate" ⟨[.str x t, v], []⟩ = pure (.str x t, x, v) := by kernel_rfl
theorem escL_append (a b : List Nat) : escL (a ++ b) = escL a ++ escL b := by simp [escL]
noncomputable def flatS (ps : List PySem.Str) : Array Nat := ps.foldl (fun acc p => acc ++ p.cps) #[]
theorem flat_snoc (ps : List PySem.Str) (p : PySem.Str) : flatS (ps ++ [p]) = flatS ps ++ p.cps := by simp [flatS]
/-- what the turns of translate keep -/
noncomputable def TrInv (s₀ : Shared) (x : List Nat) (rest : List Nat) (b : List PySem.Str × Nat × Bool × List (Nat × Option Nat) × Bool) (s : Shared) : Prop :=
  ∃ done, x = done ++ rest ∧ flatS b.1.reverse = (escL done).toArray ∧ b.2.1 ≤ 2 * done.length ∧ (∀ c a, b.2.2.2.1.lookup c = some a → a = some c ∧ c ≠ 43) ∧ b.2.2.2.2 = false ∧
    ∃ h k, s = { s₀ with heap := h, toks := k } ∧ ∀ b o, s₀.heap.get? b = some o → h.get? b = some o
theorem TrInv.plain {s₀ : Shared} {x rest : List Nat} {b s c} (i : TrInv s₀ x (c :: rest) b s) (hc : c ≠ 43) {h' k' f' kn'} (hk : ∀ b o, s.heap.get? b = some o → h'.get? b = some o)
    (hkn : ∀ c a, kn'.lookup c = some a → a = some c ∧ c ≠ 43) : TrInv s₀ x rest (⟨#[c]⟩ :: b.1, b.2.1 + 1, f', kn', false) { s with heap := h', toks := k' } := by
  obtain ⟨done, h1, h2, h3, h4, h5, h, k, rfl, h6⟩ := i
  refine ⟨done ++ [c], by rw [h1]; simp, ?_, ?_, hkn, rfl, _, _, rfl, fun b o e => hk b o (h6 b o e)⟩
  · show flatS ((⟨#[c]⟩ : PySem.Str) :: b.1).reverse = _
    rw [List.reverse_cons, flat_snoc, h2, escL_append]
    simp [escL, hc]
  · show b.2.1 + 1 ≤ _
    rw [List.length_append, List.length_singleton]; omega
theorem TrInv.plus {s₀ : Shared} {x rest : List Nat} {b s} (i : TrInv s₀ x (43 :: rest) b s) {h' k' f' kn'} (hk : ∀ b o, s.heap.get? b = some o → h'.get? b = some o)
    (hkn : ∀ c a, kn'.lookup c = some a → a = some c ∧ c ≠ 43) : TrInv s₀ x rest (Str.ofString "\\+" :: b.1, b.2.1 + 2, f', kn', false) { s with heap := h', toks := k' } := by
  obtain ⟨done, h1, h2, h3, h4, h5, h, k, rfl, h6⟩ := i
  refine ⟨done ++ [43], by rw [h1]; simp, ?_, ?_, hkn, rfl, _, _, rfl, fun b o e => hk b o (h6 b o e)⟩
  · show flatS (Str.ofString "\\+" :: b.1).reverse = _
    rw [List.reverse_cons, flat_snoc, h2, escL_append]
    have : (Str.ofString "\\+").cps = [92, 43].toArray := by decide +kernel
    rw [this]; simp [escL]
  · show b.2.1 + 2 ≤ _
    rw [List.length_append, List.length_singleton]; omega
theorem known_cons {c : Nat} {kn : List (Nat × Option Nat)} (hc : c ≠ 43) (h : ∀ c a, kn.lookup c = some a → a = some c ∧ c ≠ 43) : ∀ c' a, List.lookup c' ((c, some c) :: kn) = some a → a = some c' ∧ c' ≠ 43 := by
  intro c' a e
  rw [List.lookup_cons] at e
  by_cases hq : c' = c
  · subst hq; simp at e; exact ⟨e.symm, hc⟩
  · have : (c' == c) = false := by simpa using hq
    rw [this] at e; exact h _ _ e
theorem tooLong_small {n m : Nat} (h : n ≤ m) (hm : m ≤ 1000) : tooLong n = false := by
  unfold tooLong
  rw [sizeLine_eq]
  simp; omega
theorem translate_tree {x : PySem.Str} {t : Tok} {R : Fin → Shared → Prop} (hh : A.handled = none) (X : (Mine.heapK w.params).In s.heap) (hx : ∀ c ∈ x.cps.toList, signB c = true) (hl0 : 0 < x.length) (hl : x.length ≤ 100)
    (h : ∀ h' t' k, (∀ b o, s.heap.get? b = some o → h'.get? b = some o) → R (.done (.ret (.str ⟨(escL x.cps.toList).toArray⟩ t'))) { s with heap := h', toks := k }) :
    wpAny (model prog w) A (Builtin.«str.translate» ⟨[.str x t, .ref 65], []⟩) R E s := by
  unfold Builtin.«str.translate»
  rw [strOne_eq]
  refine wpAny_bind (wpAny_pure ?_)
  dsimp only
  rw [if_neg (by simp; omega)]
  have hlen : x.cps.toList.length ≤ 100 := by rw [Array.length_toList]; exact hl
  refine wpAny_bind (forIn_array_ _ (TrInv s x.cps.toList) _ ?_ ?_ x.cps _ ⟨[], rfl, rfl, Nat.zero_le _, (fun c a e => by cases e), rfl, _, _, rfl, fun b o e => e⟩)
  · rintro c rest ⟨ps, tot, fast, kn, ad⟩ s' I
    have I' := I
    obtain ⟨done, h1, h2, h3, h4, h5, h', k', rfl, h6⟩ := I
    have hs : signB c = true := hx c (by rw [h1]; exact List.mem_append_right _ List.mem_cons_self)
    have hd : done.length ≤ 100 := by have := congrArg List.length h1; rw [List.length_append] at this; omega
    have X' : (Mine.heapK w.params).In h' := fun a o e => h6 _ _ (X a o e)
    dsimp only at h2 h3 h4 h5 ⊢
    subst h5
    rw [if_neg (by rw [tooLong_small h3 (by omega)]; decide)]
    by_cases hc : c = 43
    · subst hc
      have hkl : List.lookup 43 kn = none := by
        cases e : List.lookup 43 kn with
        | none => rfl
        | some a => exact absurd rfl (h4 _ _ e).2
      rw [hkl]
      dsimp only
      rw [if_neg Bool.false_ne_true]
      cases fast with
      | true =>
        rw [if_pos rfl]
        refine wpAny_bind (look_plus X' fun k1 => ?_)
        dsimp only
        rw [if_neg (by decide +kernel)]
        dsimp only
        refine wpAny_bind (wpAny_pure ?_)
        dsimp only
        refine wpAny_bind (wpAny_rule ?_)
        refine wpAny_bind (look_plus (s := { s with heap := h', toks := k1 }) X' fun k2 => ?_)
        exact wpAny_pure (I'.plus (fun b o e => e) h4)
      | false =>
        rw [if_neg Bool.false_ne_true]
        refine wpAny_bind (look_plus X' fun k2 => ?_)
        exact wpAny_pure (I'.plus (fun b o e => e) h4)
    · cases fast with
      | true =>
        rw [if_pos rfl]
        cases e : List.lookup c kn with
        | some a =>
          obtain ⟨rfl, _⟩ := h4 _ _ e
          dsimp only
          refine wpAny_bind (wpAny_pure ?_)
          exact wpAny_pure (I'.plain hc (fun b o e => e) h4)
        | none =>
          dsimp only
          refine wpAny_bind (look_keep hh X' hs hc fun h3 k3 hk3 => ?_)
          dsimp only
          refine wpAny_bind (wpAny_pure ?_)
          exact wpAny_pure (I'.plain hc hk3 (known_cons hc h4))
      | false =>
        rw [if_neg Bool.false_ne_true, if_neg Bool.false_ne_true]
        refine wpAny_bind (look_keep hh X' hs hc fun h3 k3 hk3 => ?_)
        exact wpAny_pure (I'.plain hc hk3 h4)
  · rintro ⟨ps, tot, fast, kn, ad⟩ s' ⟨done, h1, h2, h3, h4, h5, h', k', rfl, h6⟩
    rw [List.append_nil] at h1
    dsimp only at h2 h3 ⊢
    have hd : done.length ≤ 100 := by rw [← h1]; exact hlen
    rw [if_neg (by rw [tooLong_small h3 (by omega)]; decide)]
    have e : (⟨flatS ps.reverse⟩ : PySem.Str) = ⟨(escL x.cps.toList).toArray⟩ := by rw [h2, h1]
    show wpAny _ _ (retStr ⟨flatS ps.reverse⟩) _ _ _
    rw [e]
    refine wpAny_bind (wpAny_mkStr ?_ ?_)
    · exact wpAny_pure (h _ _ _ h6)
    · rw [sizeLine_eq]
      show (escL x.cps.toList).toArray.size ≤ _
      have : ∀ l : List Nat, (escL l).length ≤ 2 * l.length := by
        intro l
        induction l with
        | nil => exact Nat.le_refl _
        | cons a l ih =>
          show (_ ++ escL l).length ≤ _
          rw [List.length_append, List.length_cons]
          have : ((fun c => if c = 43 then [92, 43] else [c]) a : List Nat).length ≤ 2 := by dsimp only; split <;> simp
          omega
      rw [List.size_toArray]
      have := this x.cps.toList
      omega
theorem r_translate {x : PySem.Str} {t : Tok} {Q : Value → Shared → Prop} (hh : A.handled = none) (X : (Mine.heapK w.params).In s.heap) (hx : ∀ c ∈ x.cps.toList, signB c = true) (hl0 : 0 < x.length) (hl : x.length ≤ 100)
    (h : ∀ h' t' k, (∀ b o, s.heap.get? b = some o → h'.get? b = some o) → Q (.str ⟨(escL x.cps.toList).toArray⟩ t') { s with heap := h', toks := k }) :
    wpAny (model prog w) A (call (.builtin "str.translate") [.str x t, .ref 65]) Q E s :=
  wpAny_call_entry PySem.F.slot_str_translate (typeIs_str _ _ _) PySem.F.entry_str_translate (translate_tree hh X hx hl0 hl fun h' t' k hk => ⟨_, rfl, h h' t' k hk⟩) (PySem.F.args_str_translate_2 _ _)
theorem news_kept {h₀ h h' : Heap} {L : Addr} {news : List (Addr × Obj)} (N : News h₀ L h news) (hk : ∀ b o, h.get? b = some o → h'.get? b = some o) : News h₀ L h' news :=
  fun p hp => ⟨hk _ _ (N p hp).1, (N p hp).2⟩
theorem r_trans {h₀ : Heap} {L : Addr} {m : PySem.Str → Option Value} {news : List (Addr × Obj)} {x : PySem.Str} {t : Tok} {Q : Value → Shared → Prop} (F : Fr h₀ L s.heap m) (N : News h₀ L s.heap news) (X : (Mine.heapK w.params).In h₀) (hh : A.handled = none) (hx : ∀ c ∈ x.cps.toList, signB c = true) (hl0 : 0 < x.length) (hl : x.length ≤ 100)
    (h : ∀ h' t' k, Fr h₀ L h' m → News h₀ L h' news → Q (.str ⟨(escL x.cps.toList).toArray⟩ t') { s with heap := h', toks := k }) :
    wpAny (model prog w) A (call (.builtin "str.translate") [.str x t, .ref 65]) Q E s :=
  r_translate hh (X.keeps F.keep) hx hl0 hl fun h' t' k hk => h h' t' k (F.keptAll hk) (news_kept N hk)
theorem m_translate {M : Model} {pl : Sem Bool} {x : PySem.Str} {t : Tok} {Q : Value × List Value → Shared → Prop} (h : Q (.builtin "str.translate", [.str x t]) s) : wpAny M A (getMethod (.str x t) (PySem.Str.ofString "translate") pl) Q E s := by
  with_reducible exact GM.of (.str x t) (typeIs_str _ _ _) PySem.F.slot_str_translate PySem.F.type_str_translate GM.noRef h
end
end Mine

end
section
set_option maxRecDepth 100000
set_option maxRecDepth 100000
namespace Mine
noncomputable abbrev gS (ys : List Str) (k : Nat) : Str := ys.getD k Str.empty
theorem strs_at : ∀ {vs : List Value} {ys : List Str}, StrsAre vs ys → ∀ k : Nat, k < ys.length → ∃ t, vs[k]? = some (.str (gS ys k) t)
  | _, _, .nil, _, h => absurd h (Nat.not_lt_zero _)
  | _, _, .cons y t _, 0, _ => ⟨t, rfl⟩
  | _, _, .cons _ _ h, k + 1, hk => by
    obtain ⟨t, e⟩ := strs_at h k (Nat.lt_of_succ_lt_succ hk)
    exact ⟨t, e⟩
theorem strs_set {x : Str} {t : Tok} : ∀ {vs : List Value} {ys : List Str}, StrsAre vs ys → ∀ k : Nat, StrsAre (vs.set k (.str x t)) (ys.set k x)
  | _, _, .nil, _ => .nil
  | _, _, .cons _ _ h, 0 => .cons x t h
  | _, _, .cons y u h, k + 1 => .cons y u (strs_set h k)
section
variable {prog : Program} {w : World} {A : Around} {E : Value → Shared → Prop} {s : Shared} {h₀ : Heap} {L D l : Addr} {m : Str → Option Value} {news news' : List (Addr × Obj)} {vs : List Value} {ys : List Str} {n : Nat} {k : Int} {t u : Tok} {x : Str}
theorem r_sget {value slice : PySem.Expr} {Q : Value → Shared → Prop} (N : News h₀ L s.heap news) (hm : (D, listOf vs.toArray n) ∈ news) (hb : StrsAre vs ys) (h0 : 0 ≤ k) (h1 : k < ys.length) (hfit : k < 2 ^ 63) (h : ∀ t, Q (.str (gS ys k.toNat) t) s)
    (hs : subscripted slice false (.ref D) (.int k u) = operate [.ref D, .int k u] (getItem (.ref D) (.int k u)) := by with_unfolding_all rfl) :
    wpAny (model prog w) A (subscriptTail value slice (.ref D) (.int k u)) Q E s := by
  obtain ⟨t, hx⟩ := strs_at hb k.toNat (by omega)
  exact tail_any (PySem.IsL.isList (n := n) (N _ hm).1).typeIs slot_list_getitem.lookup (wpAny_getItem_list (PySem.IsL.isList (n := n) (N _ hm).1) h0 hfit (by simpa using hx) (h t)) hs
theorem r_sset {rest : List (Addr × Obj)} {Q : Unit → Shared → Prop} (F : Fr h₀ L s.heap m) (N : News h₀ L s.heap ((D, listOf vs.toArray n) :: rest)) (ho : ∀ p ∈ rest, p.1 ≠ D) (hb : StrsAre vs ys) (h0 : 0 ≤ k) (h1 : k < ys.length) (hfit : k < 2 ^ 63)
    (h : ∀ h', Fr h₀ L h' m → News h₀ L h' ((D, listOf (vs.set k.toNat (.str x u)).toArray n) :: rest) → StrsAre (vs.set k.toNat (.str x u)) (ys.set k.toNat x) → Q () { s with heap := h' }) :
    wpAny (model prog w) A (setItem (.ref D) (.int k t) (.str x u)) Q E s := by
  have z := N (D, listOf vs.toArray n) (.head _)
  have hl : vs.length = ys.length := StrsAre.length hb
  have hs : vs.toArray.size = ys.length := by rw [List.size_toArray]; exact hl
  refine ki_setAt z.1 h0 hfit (by omega) (h _ (F.change (Heap.SameBut.update ..) z.2.1 z.2.2) (ki_turn (pre := []) (post := rest) _ N (List.forall_mem_nil _) ho ?_ ?_) (strs_set hb _))
  · show vs.toArray.setIfInBounds k.toNat (.str x u) = (vs.set k.toNat (.str x u)).toArray
    apply Array.toList_inj.mp
    simp
  · simp
theorem r_slen {Q : Value → Shared → Prop} (N : News h₀ L s.heap news) (hm : (D, listOf vs.toArray n) ∈ news) (hb : StrsAre vs ys) (hf : ys.length < 2 ^ 62) (h : Q (.int (ys.length : Nat) (s.toks + 1)) { s with toks := s.toks + 1 + 1 }) :
    wpAny (model prog w) A (call (.builtin "len") [.ref D]) Q E s :=
  KM.len_K N hm (by rw [List.size_toArray]; exact StrsAre.length hb) hf h
theorem r_par {p : Nat} {Q : Value → Shared → Prop} (hp : 0 < p) (h : Q (.int ((((p - 1) / 2 : Nat)) : Int) s.toks) { s with toks := s.toks + 1 }) : wpAny (model prog w) A (binaryOp .RShift (.int ((p : Nat) - 1) t) (.int 1 u)) Q E s := by
  refine rshift_int (by decide) ?_
  rw [Int.fdiv_eq_ediv_of_nonneg _ (by decide)]
  have e : ((p : Int) - 1) / 2 ^ (1 : Int).toNat = (((p - 1) / 2 : Nat) : Int) := by
    show ((p : Int) - 1) / 2 = _
    omega
  rw [e]; exact h
end
noncomputable def pinM (m : Str → Option Value) : List (Str × Value) → Str → Option Value
  | [], z => m z
  | (a, v) :: r, z => if z = a then some v else pinM m r z
theorem pinM_eq {m : Str → Option Value} : ∀ {l : List (Str × Value)}, (∀ p ∈ l, m p.1 = some p.2) → pinM m l = m
  | [], _ => rfl
  | (a, v) :: r, h => by
    funext z
    show (if z = a then some v else pinM m r z) = m z
    rw [pinM_eq fun p hp => h p (List.mem_cons_of_mem _ hp)]
    by_cases e : z = a
    · rw [if_pos e, e]; exact (h _ List.mem_cons_self).symm
    · rw [if_neg e]
theorem fr_pin {h₀ h : Heap} {L : Addr} {m : Str → Option Value} (F : Fr h₀ L h m) (l : List (Str × Value)) (hl : ∀ p ∈ l, m p.1 = some p.2) : Fr h₀ L h (pinM m l) := by
  rw [pinM_eq hl]; exact F
/-- the order of texts -/
noncomputable def ltS (x y : Str) : Bool := decide (x.cps.toList < y.cps.toList)
/-- _siftdown -/
noncomputable def sdF : Nat → List Str → Str → Nat → Nat → List Str
  | 0, ys, x, _, p => ys.set p x
  | f + 1, ys, x, st, p => if st < p then (if ltS x (gS ys ((p - 1) / 2)) = true then sdF f (ys.set p (gS ys ((p - 1) / 2))) x st ((p - 1) / 2) else ys.set p x) else ys.set p x
/-- the way down in _siftup -/
noncomputable def suF : Nat → List Str → Nat → List Str × Nat
  | 0, ys, p => (ys, p)
  | f + 1, ys, p => if 2 * p + 1 < ys.length then
      (if 2 * p + 2 < ys.length ∧ ltS (gS ys (2 * p + 1)) (gS ys (2 * p + 2)) = false then suF f (ys.set p (gS ys (2 * p + 2))) (2 * p + 2) else suF f (ys.set p (gS ys (2 * p + 1))) (2 * p + 1)) else (ys, p)
noncomputable def siftup (ys : List Str) (p : Nat) : List Str :=
  let r := suF ys.length ys p
  sdF r.2 (r.1.set r.2 (gS ys p)) (gS ys p) p r.2
noncomputable def hpF : Nat → List Str → List Str
  | 0, ys => ys
  | k + 1, ys => hpF k (siftup ys k)
end Mine

end
section
set_option maxRecDepth 100000
set_option maxRecDepth 100000
namespace Mine
local macro_rules | `(tactic| omega) => `(tactic| lia)
noncomputable def leS (x y : Str) : Prop := x.cps.toList ≤ y.cps.toList
theorem leS_trans {x y z : Str} (h : leS x y) (k : leS y z) : leS x z := List.le_trans h k
theorem leS_refl (x : Str) : leS x x := List.le_refl _
theorem leS_anti {x y : Str} (h : leS x y) (k : leS y x) : x = y := by
  have e : x.cps.toList = y.cps.toList := List.le_antisymm h k
  cases x; cases y
  exact congrArg _ (Array.toList_inj.mp e)
theorem leS_of_not {x y : Str} (h : ¬ ltS x y = true) : leS y x := List.not_lt.mp fun k => h (decide_eq_true k)
theorem leS_of_lt {x y : Str} (h : ltS x y = true) : leS x y := List.le_of_lt (of_decide_eq_true h)
theorem leS_of_false {x y : Str} (h : ltS x y = false) : leS y x := leS_of_not (by rw [h]; exact Bool.false_ne_true)
theorem gS_set_eq {ys : List Str} {p : Nat} {x : Str} (h : p < ys.length) : gS (ys.set p x) p = x := by
  simp [gS, List.getD_eq_getElem?_getD, h]
theorem gS_set_ne {ys : List Str} {p q : Nat} {x : Str} (h : p ≠ q) : gS (ys.set p x) q = gS ys q := by
  simp [gS, List.getD_eq_getElem?_getD, h]
theorem gS_at {ys : List Str} {p : Nat} (h : p < ys.length) : gS ys p = ys[p] := by
  simp [gS, List.getD_eq_getElem?_getD, h]
theorem swap_perm {ys : List Str} {p q : Nat} {x : Str} (hp : p < ys.length) (hq : q < ys.length) (hne : p ≠ q) : ((ys.set p (gS ys q)).set q x).Perm (ys.set p x) := by
  have h := List.set_set_perm (as := ys.set p x) (i := p) (j := q) (by simpa using hp) (by simpa using hq)
  have e1 : (ys.set p x)[q]'(by simpa using hq) = gS ys q := by
    rw [gS_at hq]; simp [List.getElem_set_ne hne]
  have e2 : (ys.set p x)[p]'(by simpa using hp) = x := by simp
  rw [e1, e2, List.set_set] at h
  exact h
theorem sdF_perm : ∀ (f : Nat) (ys : List Str) (x : Str) (st p : Nat), p < ys.length → (sdF f ys x st p).Perm (ys.set p x)
  | 0, ys, x, st, p, _ => List.Perm.refl _
  | f + 1, ys, x, st, p, hp => by
    rw [sdF]
    split
    · rename_i h
      split
      · refine (sdF_perm f _ x st _ (by rw [List.length_set]; omega)).trans (swap_perm hp (by omega) (by omega))
      · exact List.Perm.refl _
    · exact List.Perm.refl _
theorem suF_perm : ∀ (f : Nat) (ys : List Str) (x : Str) (p : Nat), p < ys.length → (suF f ys p).2 < ys.length ∧ ((suF f ys p).1.set (suF f ys p).2 x).Perm (ys.set p x)
  | 0, ys, x, p, hp => ⟨hp, List.Perm.refl _⟩
  | f + 1, ys, x, p, hp => by
    rw [suF]
    split
    · rename_i h
      split
      · rename_i h2
        have := suF_perm f (ys.set p (gS ys (2 * p + 2))) x (2 * p + 2) (by rw [List.length_set]; omega)
        rw [List.length_set] at this
        exact ⟨this.1, this.2.trans (swap_perm hp (by omega) (by omega))⟩
      · have := suF_perm f (ys.set p (gS ys (2 * p + 1))) x (2 * p + 1) (by rw [List.length_set]; omega)
        rw [List.length_set] at this
        exact ⟨this.1, this.2.trans (swap_perm hp (by omega) (by omega))⟩
    · exact ⟨hp, List.Perm.refl _⟩
theorem set_gS {ys : List Str} {p : Nat} (hp : p < ys.length) : ys.set p (gS ys p) = ys := by
  rw [gS_at hp]; exact List.set_getElem_self hp
theorem suF_len' : ∀ (f : Nat) (ys : List Str) (p : Nat), (suF f ys p).1.length = ys.length
  | 0, ys, p => by rw [suF]
  | f + 1, ys, p => by
    rw [suF]
    split
    · split
      · rw [suF_len' f, List.length_set]
      · rw [suF_len' f, List.length_set]
    · rfl
theorem siftup_perm {ys : List Str} {p : Nat} (hp : p < ys.length) : (siftup ys p).Perm ys := by
  unfold siftup
  obtain ⟨h1, h2⟩ := suF_perm ys.length ys (gS ys p) p hp
  have h3 := sdF_perm (suF ys.length ys p).2 ((suF ys.length ys p).1.set (suF ys.length ys p).2 (gS ys p)) (gS ys p) p (suF ys.length ys p).2 (by rw [List.length_set, suF_len']; exact h1)
  rw [List.set_set] at h3
  rw [set_gS hp] at h2
  exact h3.trans h2
theorem hpF_perm : ∀ (k : Nat) (ys : List Str), k ≤ ys.length → (hpF k ys).Perm ys
  | 0, ys, _ => List.Perm.refl _
  | k + 1, ys, h => by
    rw [hpF]
    have := siftup_perm (ys := ys) (p := k) (by omega)
    exact (hpF_perm k _ (by rw [this.length_eq]; omega)).trans this

/-- a hole's place below p -/
inductive Desc (p : Nat) : Nat → Prop
  | here : Desc p p
  | left {q : Nat} : Desc p q → Desc p (2 * q + 1)
  | right {q : Nat} : Desc p q → Desc p (2 * q + 2)
theorem Desc.le {p q : Nat} (h : Desc p q) : p ≤ q := by
  induction h with
  | here => exact Nat.le_refl _
  | left _ ih => omega
  | right _ ih => omega
theorem Desc.up {p q : Nat} (h : Desc p q) (hne : q ≠ p) : 0 < q ∧ Desc p ((q - 1) / 2) := by
  cases h with
  | here => exact absurd rfl hne
  | @left q h => exact ⟨by omega, by rw [show (2 * q + 1 - 1) / 2 = q by omega]; exact h⟩
  | @right q h => exact ⟨by omega, by rw [show (2 * q + 2 - 1) / 2 = q by omega]; exact h⟩
/-- a heap from the place a on -/
noncomputable def Hp (ys : List Str) (a : Nat) : Prop := ∀ i, 0 < i → i < ys.length → a ≤ (i - 1) / 2 → leS (gS ys ((i - 1) / 2)) (gS ys i)
/-- a heap from p on, but for a hole at q -/
structure Hole (ys : List Str) (p q : Nat) : Prop where
  lt : q < ys.length
  desc : Desc p q
  off : ∀ i, 0 < i → i < ys.length → p ≤ (i - 1) / 2 → i ≠ q → (i - 1) / 2 ≠ q → leS (gS ys ((i - 1) / 2)) (gS ys i)
  over : ∀ i, 0 < i → i < ys.length → (i - 1) / 2 = q → q ≠ p → leS (gS ys ((q - 1) / 2)) (gS ys i)
theorem Hole.start {ys : List Str} {p : Nat} (hp : p < ys.length) (h : Hp ys (p + 1)) : Hole ys p p :=
  ⟨hp, .here, fun i h0 h1 h2 h3 h4 => h i h0 h1 (by omega), fun i _ _ _ h => absurd rfl h⟩
theorem Hole.down {ys : List Str} {p q c : Nat} (H : Hole ys p q) (hc : c < ys.length) (hd : c = 2 * q + 1 ∨ c = 2 * q + 2) (hmin : ∀ i, 0 < i → i < ys.length → (i - 1) / 2 = q → i ≠ c → leS (gS ys c) (gS ys i)) :
    Hole (ys.set q (gS ys c)) p c := by
  have hcq : (c - 1) / 2 = q := by omega
  have hqc : q ≠ c := by omega
  refine ⟨by rw [List.length_set]; exact hc, ?_, ?_, ?_⟩
  · rcases hd with rfl | rfl
    · exact .left H.desc
    · exact .right H.desc
  · intro i h0 h1 h2 h3 h4
    rw [List.length_set] at h1
    by_cases hi : (i - 1) / 2 = q
    · rw [hi, gS_set_eq H.lt, gS_set_ne (by omega)]
      exact hmin i h0 h1 hi h3
    · rw [gS_set_ne (p := q) (q := (i - 1) / 2) (fun e => hi e.symm)]
      by_cases hiq : i = q
      · subst hiq
        rw [gS_set_eq H.lt]
        have hqp : i ≠ p := by
          intro e
          have := H.desc.le
          omega
        exact H.over c (by omega) hc hcq hqp
      · rw [gS_set_ne (fun e => hiq e.symm)]
        exact H.off i h0 h1 h2 hiq hi
  · intro i h0 h1 h2 h3
    rw [List.length_set] at h1
    rw [hcq, gS_set_eq H.lt, gS_set_ne (by omega)]
    have := H.off i h0 h1 (by rw [h2]; have := H.desc.le; omega) (by omega) (by rw [h2]; exact fun e => hqc e.symm)
    rw [h2] at this
    exact this
theorem suF_hole : ∀ (f : Nat) (ys : List Str) (p q : Nat), Hole ys p q → ys.length ≤ f + q → Hole (suF f ys q).1 p (suF f ys q).2 ∧ (suF f ys q).1.length ≤ 2 * (suF f ys q).2 + 1
  | 0, ys, p, q, H, hf => absurd H.lt (by omega)
  | f + 1, ys, p, q, H, hf => by
    rw [suF]
    split
    · rename_i h
      split
      · rename_i h2
        refine suF_hole f _ p _ (H.down h2.1 (.inr rfl) fun i h0 h1 h3 h4 => ?_) (by rw [List.length_set]; omega)
        have : i = 2 * q + 1 := by omega
        subst this
        exact leS_of_false h2.2
      · rename_i h2
        refine suF_hole f _ p _ (H.down h (.inl rfl) fun i h0 h1 h3 h4 => ?_) (by rw [List.length_set]; omega)
        have : i = 2 * q + 2 := by omega
        subst this
        refine leS_of_lt ?_
        cases e : ltS (gS ys (2 * q + 1)) (gS ys (2 * q + 2)) with
        | true => rfl
        | false => exact absurd ⟨h1, e⟩ h2
    · rename_i h
      exact ⟨H, by show ys.length ≤ 2 * q + 1; omega⟩
theorem Hole.fill {ys : List Str} {p q : Nat} {x : Str} (H : Hole ys p q) (hx : ∀ i, 0 < i → i < ys.length → (i - 1) / 2 = q → leS x (gS ys i)) (hu : q ≠ p → leS (gS ys ((q - 1) / 2)) x) : Hp (ys.set q x) p := by
  intro i h0 h1 h2
  rw [List.length_set] at h1
  by_cases hi : (i - 1) / 2 = q
  · rw [hi, gS_set_eq H.lt, gS_set_ne (by omega)]
    exact hx i h0 h1 hi
  · rw [gS_set_ne (p := q) (q := (i - 1) / 2) (fun e => hi e.symm)]
    by_cases hiq : i = q
    · subst hiq
      rw [gS_set_eq H.lt]
      exact hu (by omega)
    · rw [gS_set_ne (fun e => hiq e.symm)]
      exact H.off i h0 h1 h2 hiq hi
theorem Hole.rise {ys : List Str} {p q : Nat} (H : Hole ys p q) (hne : q ≠ p) : Hole (ys.set q (gS ys ((q - 1) / 2))) p ((q - 1) / 2) := by
  obtain ⟨hq0, hD⟩ := H.desc.up hne
  have hl := hD.le
  refine ⟨by rw [List.length_set]; have := H.lt; omega, hD, ?_, ?_⟩
  · intro i h0 h1 h2 h3 h4
    rw [List.length_set] at h1
    by_cases hi : (i - 1) / 2 = q
    · rw [hi, gS_set_eq H.lt, gS_set_ne (by omega)]
      exact H.over i h0 h1 hi hne
    · rw [gS_set_ne (p := q) (q := (i - 1) / 2) (fun e => hi e.symm)]
      have hiq : i ≠ q := fun e => h4 (by rw [e])
      rw [gS_set_ne (fun e => hiq e.symm)]
      exact H.off i h0 h1 h2 hiq hi
  · intro i h0 h1 h2 h3
    rw [List.length_set] at h1
    obtain ⟨hr0, hDr⟩ := hD.up h3
    have hlr := hDr.le
    have hrr := H.off ((q - 1) / 2) hr0 (by have := H.lt; omega) hlr (by omega) (by omega)
    rw [gS_set_ne (p := q) (by omega)]
    by_cases hiq : i = q
    · subst hiq
      rw [gS_set_eq H.lt]
      exact hrr
    · rw [gS_set_ne (fun e => hiq e.symm)]
      have := H.off i h0 h1 (by omega) hiq (by omega)
      rw [h2] at this
      exact leS_trans hrr this
theorem sdF_hp : ∀ (f : Nat) (ys : List Str) (x : Str) (p q : Nat), Hole ys p q → q ≤ f + p → (∀ i, 0 < i → i < ys.length → (i - 1) / 2 = q → leS x (gS ys i)) → Hp (sdF f ys x p q) p
  | 0, ys, x, p, q, H, hf, hx => by
    have := H.desc.le
    exact H.fill hx fun h => absurd (by omega) h
  | f + 1, ys, x, p, q, H, hf, hx => by
    rw [sdF]
    split
    · rename_i h
      have hne : q ≠ p := by omega
      obtain ⟨hq0, hD⟩ := H.desc.up hne
      have hl := hD.le
      split
      · rename_i h2
        have hx1 : leS x (gS ys ((q - 1) / 2)) := leS_of_lt h2
        refine sdF_hp f _ x p _ (H.rise hne) (by omega) fun i h0 h1 h3 => ?_
        rw [List.length_set] at h1
        by_cases hiq : i = q
        · subst hiq
          rw [gS_set_eq H.lt]; exact hx1
        · rw [gS_set_ne (fun e => hiq e.symm)]
          have := H.off i h0 h1 (by omega) hiq (by omega)
          rw [h3] at this
          exact leS_trans hx1 this
      · rename_i h2
        exact H.fill hx fun _ => leS_of_not h2
    · rename_i h
      have := H.desc.le
      exact H.fill hx fun h => absurd (by omega) h
theorem siftup_hp {ys : List Str} {p : Nat} (hp : p < ys.length) (h : Hp ys (p + 1)) : Hp (siftup ys p) p := by
  obtain ⟨H, hleaf⟩ := suF_hole ys.length ys p p (Hole.start hp h) (by omega)
  unfold siftup
  have hl := H.lt
  have H' : Hole ((suF ys.length ys p).1.set (suF ys.length ys p).2 (gS ys p)) p (suF ys.length ys p).2 := by
    refine ⟨by rw [List.length_set]; exact hl, H.desc, ?_, ?_⟩
    · intro i h0 h1 h2 h3 h4
      rw [List.length_set] at h1
      rw [gS_set_ne (fun e => h4 e.symm), gS_set_ne (fun e => h3 e.symm)]
      exact H.off i h0 h1 h2 h3 h4
    · intro i h0 h1 h2 h3
      rw [List.length_set] at h1
      omega
  refine sdF_hp _ _ _ _ _ H' (by omega) fun i h0 h1 h2 => ?_
  rw [List.length_set] at h1
  omega
theorem hpF_hp : ∀ (k : Nat) (ys : List Str), k ≤ ys.length → Hp ys k → Hp (hpF k ys) 0
  | 0, ys, _, h => h
  | k + 1, ys, hk, h => by
    rw [hpF]
    have := siftup_perm (ys := ys) (p := k) (by omega)
    exact hpF_hp k _ (by rw [this.length_eq]; omega) (siftup_hp (by omega) h)
theorem Hp.half (ys : List Str) : Hp ys (ys.length / 2) := fun i h0 h1 h2 => by omega
theorem Hp.least {ys : List Str} (h : Hp ys 0) : ∀ i, i < ys.length → leS (gS ys 0) (gS ys i) := by
  intro i
  induction i using Nat.strongRecOn with
  | ind i ih =>
    intro hi
    by_cases h0 : i = 0
    · subst h0; exact leS_refl _
    · exact leS_trans (ih ((i - 1) / 2) (by omega) (by omega)) (h i (by omega) hi (Nat.zero_le _))
noncomputable def popL (ys : List Str) : List Str := if ys.dropLast = [] then [] else siftup (ys.dropLast.set 0 (gS ys (ys.length - 1))) 0
/-- the names in the order in which they go off -/
noncomputable def offF : Nat → List Str → List Str
  | 0, _ => []
  | k + 1, ys => if ys = [] then [] else gS ys 0 :: offF k (popL ys)
theorem popL_snoc {us : List Str} {z : Str} (h : us ≠ []) : popL (us ++ [z]) = siftup (us.set 0 z) 0 := by
  unfold popL
  rw [List.dropLast_concat, if_neg h]
  have : gS (us ++ [z]) ((us ++ [z]).length - 1) = z := by simp [gS, List.getD_eq_getElem?_getD]
  rw [this]
theorem popL_perm {ys : List Str} (h : ys ≠ []) : (gS ys 0 :: popL ys).Perm ys := by
  obtain ⟨us, z, rfl⟩ : ∃ us z, ys = us ++ [z] := ⟨ys.dropLast, ys.getLast h, (List.dropLast_concat_getLast h).symm⟩
  cases us with
  | nil =>
    have : popL ([] ++ [z]) = [] := by unfold popL; rw [List.dropLast_concat, if_pos rfl]
    rw [this]; exact List.Perm.refl _
  | cons u us =>
    rw [popL_snoc (List.cons_ne_nil _ _)]
    have := siftup_perm (ys := (u :: us).set 0 z) (p := 0) (by rw [List.length_set]; exact Nat.succ_pos _)
    show (u :: _).Perm (u :: (us ++ [z]))
    refine List.Perm.cons u (this.trans ?_)
    show (z :: us).Perm (us ++ [z])
    exact (List.perm_append_singleton z us).symm
theorem popL_hp {ys : List Str} (h : Hp ys 0) : Hp (popL ys) 0 := by
  by_cases hn : ys = []
  · subst hn; intro i h0 h1; cases h1
  obtain ⟨us, z, rfl⟩ : ∃ us z, ys = us ++ [z] := ⟨ys.dropLast, ys.getLast hn, (List.dropLast_concat_getLast hn).symm⟩
  cases us with
  | nil =>
    have : popL ([] ++ [z]) = [] := by unfold popL; rw [List.dropLast_concat, if_pos rfl]
    rw [this]; intro i h0 h1; cases h1
  | cons u us =>
    rw [popL_snoc (List.cons_ne_nil _ _)]
    refine siftup_hp (by rw [List.length_set]; exact Nat.succ_pos _) fun i h0 h1 h2 => ?_
    rw [List.length_set] at h1
    rw [gS_set_ne (by omega), gS_set_ne (by omega)]
    have := h i h0 (by rw [List.length_append]; omega) (Nat.zero_le _)
    have e : ∀ j, j < (u :: us).length → gS ((u :: us) ++ [z]) j = gS (u :: us) j := fun j hj => by
      simp only [gS, List.getD_eq_getElem?_getD]
      rw [List.getElem?_append_left hj]
    rw [e _ (by omega), e _ h1] at this
    exact this
theorem offF_spec : ∀ (k : Nat) (ys : List Str), ys.length ≤ k → Hp ys 0 → (offF k ys).Perm ys ∧ (offF k ys).Pairwise leS
  | 0, ys, hk, _ => by
    have : ys = [] := List.length_eq_zero_iff.mp (by omega)
    subst this
    exact ⟨List.Perm.refl _, List.Pairwise.nil⟩
  | k + 1, ys, hk, h => by
    rw [offF]
    split
    · rename_i e; subst e
      exact ⟨List.Perm.refl _, List.Pairwise.nil⟩
    · rename_i e
      have hp := popL_perm e
      have hl := hp.length_eq
      rw [List.length_cons] at hl
      obtain ⟨h1, h2⟩ := offF_spec k (popL ys) (by omega) (popL_hp h)
      refine ⟨(List.Perm.cons _ h1).trans hp, List.pairwise_cons.mpr ⟨fun y hy => ?_, h2⟩⟩
      have hy2 : y ∈ ys := hp.mem_iff.mp (List.mem_cons_of_mem _ (h1.mem_iff.mp hy))
      obtain ⟨i, hi, e2⟩ := List.getElem_of_mem hy2
      rw [← e2, ← gS_at hi]
      exact h.least i hi
theorem off_perm (ys : List Str) : (offF ys.length (hpF (ys.length / 2) ys)).Perm ys ∧ (offF ys.length (hpF (ys.length / 2) ys)).Pairwise leS := by
  have hp := hpF_perm (ys.length / 2) ys (by omega)
  obtain ⟨h1, h2⟩ := offF_spec ys.length (hpF (ys.length / 2) ys) (by rw [hp.length_eq]; exact Nat.le_refl _) (hpF_hp _ _ (by omega) (Hp.half ys))
  exact ⟨h1.trans hp, h2⟩
end Mine

end
section
set_option maxRecDepth 100000
set_option maxRecDepth 100000
namespace Mine
section
open Builtin
variable {prog : Program} {w : World} {A : Around} {E : Value → Shared → Prop} {s : Shared} {r : Addr} {t u v : Tok} {n : Nat}
noncomputable abbrev rngObj (x left : Int) : Obj := { cls := .type "range_iterator", dict := none, data := .fields #[rawInt x, rawInt left, rawInt (-1)], slots := #[] }
theorem call_range_rev {Q : Value → Shared → Prop} (hr : IsRange s.heap r 0 (n : Nat) 1 t u v) (hn : n ≤ 1000)
    (h : Q (.ref s.heap.objs.size) { s with heap := s.heap.push (rngObj ((n : Int) - 1) n) }) : wpAny (model prog w) A (call (.builtin "range.__reversed__") [.ref r]) Q E s := by
  have hT : s.TypeIs (.ref r) "range" := ⟨_, hr, rfl⟩
  refine wpAny_call_entry F.slot_range_reversed hT F.entry_range_reversed ?_ (F.args_range_reversed_1 _)
  unfold Builtin.«range.__reversed__»
  refine wpAny_bind (wpAny_of_eq (a := Value.ref r) rfl ?_)
  have hf : wpAny (model prog w) A.in1 (Range.rangeFields (.ref r)) (fun p s' => p = (0, (n : Int), 1) ∧ s' = s) E s := by
    unfold Range.rangeFields
    refine wpAny_bind (wpAny_field hr rfl (x := .int 0 t) rfl ?_)
    refine wpAny_bind (wpAny_of_eq (a := some 0) rfl ?_)
    refine wpAny_bind (wpAny_field hr rfl (x := .int n u) rfl ?_)
    refine wpAny_bind (wpAny_of_eq (a := some (n : Int)) rfl ?_)
    refine wpAny_bind (wpAny_field hr rfl (x := .int 1 v) rfl ?_)
    refine wpAny_bind (wpAny_of_eq (a := some 1) rfl ?_)
    exact wpAny_pure ⟨rfl, rfl⟩
  refine wpAny_bind (wpAny_mono hf (fun p s' hp => ?_) fun _ _ e => e)
  obtain ⟨rfl, rfl⟩ := hp
  dsimp only
  have e : Range.rangeSize 0 (n : Int) 1 = n := by
    unfold Range.rangeSize
    rw [if_pos (by decide)]
    split <;> omega
  have fits : ∀ i : Int, -2000 ≤ i → i ≤ 2000 → Range.rangeFitsLong i = true := by
    intro i h1 h2
    unfold Range.rangeFitsLong
    simp only [Bool.and_eq_true, decide_eq_true_eq]
    omega
  have hs : (Range.rangeFitsLong 0 && Range.rangeFitsLong (n : Int) && Range.rangeFitsLong 1 && Range.rangeFitsLong (-1) && Range.rangeFitsLong (0 - 1) && Range.rangeFitsLong (n : Int)) = true := by
    rw [fits 0 (by omega) (by omega), fits n (by omega) (by omega), fits 1 (by omega) (by omega), fits (-1) (by omega) (by omega), fits (0 - 1) (by omega) (by omega)]
    rfl
  rw [e, hs]
  have e2 : (0 : Int) + ((n : Int) - 1) * 1 = (n : Int) - 1 := by omega
  rw [e2]
  unfold newFields
  exact wpAny_bind (wpAny_newObj_type (wpAny_pure ⟨_, rfl, h⟩))
theorem code_revrange {Q₁ : Value → Shared → Prop} (hr : IsRange s.heap r 0 (n : Nat) 1 t u v) (hn : n ≤ 1000)
    (h : Q₁ (.ref s.heap.objs.size) { s with heap := s.heap.push (rngObj ((n : Int) - 1) n) }) :
    codeAny (model prog w) A (.call (.builtin "reversed.__new__") ⟨[.type "reversed", .ref r], []⟩) (wants Q₁ E) s := by
  have hT : s.TypeIs (.ref r) "range" := ⟨_, hr, rfl⟩
  refine codeAny_of_tree ?_
  show wpAny _ A.in1 (do checkBuiltinCall "reversed.__new__" ⟨[.type "reversed", .ref r], []⟩; again (.builtin "reversed.__new__" ⟨[.type "reversed", .ref r], []⟩)) _ _ s
  refine wpAny_bind (wpAny_of_eq (F.newCall_reversed_1 _) (wpAny_pure ⟨plainId_quiet F.plain_reversed_new _, codeAny_builtin F.entry_reversed_new ?_⟩))
  rw [Around.under_plainId F.plain_reversed_new _]
  unfold Builtin.«reversed.__new__»
  refine wpAny_bind (wpAny_of_eq (newClass_reversed _) ?_)
  try dsimp only
  refine wpAny_bind (wpAny_of_eq (a := ()) (by first | rfl | kernel_rfl) ?_)
  refine wpAny_bind (wpAny_of_eq (a := ()) (by first | rfl | kernel_rfl) ?_)
  try dsimp only
  refine wpAny_bind (wpAny_specialOf hT F.slot_range_reversed.lookup ?_)
  try dsimp only
  refine wpAny_bind (wpAny_of_eq (F.slot_range_reversed.bind _) ?_)
  try dsimp only
  first
  | rw [if_neg (show ¬ ((Value.builtin "range.__reversed__" == Value.none) = true) from Bool.false_ne_true)]
  | (show wpAny _ _ (if (Value.builtin "range.__reversed__" == Value.none) = true then _ else _) _ _ _; rw [if_neg (show ¬ ((Value.builtin "range.__reversed__" == Value.none) = true) from Bool.false_ne_true)])
  refine wpAny_bind (wpAny_rule ?_)
  refine wpAny_bind (m := runValue (.call (.builtin "range.__reversed__") ⟨[.ref r], []⟩)) (show wpAny _ _ (call (.builtin "range.__reversed__") [.ref r]) _ _ _ from call_range_rev hr hn ?_)
  first
  | exact wpAny_pure h
  | exact wpAny_bind (wpAny_pure (wpAny_pure h))
theorem sub_ri_reversed : isSubtype (.type "range_iterator") (.type "reversed") = pure false := by rw [isSubtype_type]; kernel_rfl
theorem call_revrange {Q : Value → Shared → Prop} (hr : IsRange s.heap r 0 (n : Nat) 1 t u v) (hn : n ≤ 1000)
    (h : Q (.ref s.heap.objs.size) { s with heap := s.heap.push (rngObj ((n : Int) - 1) n) }) : wpAny (model prog w) A (call (.type "reversed") [.ref r]) Q E s := by
  refine callType_other (U := "range_iterator") (Q₁ := fun obj s₁ => obj = .ref s.heap.objs.size ∧ s₁ = { s with heap := s.heap.push (rngObj ((n : Int) - 1) n) }) (by decide +kernel) F.create_reversed ⟨_, _, F.mro_reversed⟩ F.made_reversed sub_ri_reversed (F.typeCall_reversed_1 _) (code_revrange hr hn ⟨rfl, rfl⟩) ?_
  rintro obj s₁ ⟨rfl, rfl⟩
  exact ⟨⟨_, Heap.get?_push_size _ rfl, rfl⟩, h⟩
end
section
variable {prog : Program} {w : World} {A : Around} {E : Value → Shared → Prop} {s : Shared} {h₀ : Heap} {L r : Addr} {m : Str → Option Value} {news : List (Addr × Obj)} {t u v : Tok} {n : Nat}
theorem r_revrange {Q : Value → Shared → Prop} (F : Fr h₀ L s.heap m) (N : News h₀ L s.heap news) (hr : IsRange s.heap r 0 (n : Nat) 1 t u v) (hn : n ≤ 1000)
    (h : ∀ D h', Fr h₀ L h' m → News h₀ L h' ((D, rngObj ((n : Int) - 1) n) :: news) → (∀ p ∈ news, p.1 < D) → Q (.ref D) { s with heap := h' }) : wpAny (model prog w) A (call (.type "reversed") [.ref r]) Q E s :=
  call_revrange hr hn (h _ _ (F.push _) (News.push F N _) fun p hp => Heap.lt_size (N p hp).1)
/-- a loop over a range from above -/
theorem rr_iter {I : Addr} {env : Env} {x : Str} {body : List Stmt} {Q : Flow → Shared → Prop} {m₀ : Str → Option Value} (J : Nat → (Str → Option Value) → List (Addr × Obj) → Prop)
    (hh : A.handled = none) (F : Fr h₀ env.locals s.heap m₀) (N : News h₀ env.locals s.heap ((I, rngObj ((n : Int) - 1) n) :: news)) (off : ∀ p ∈ news, p.1 ≠ I) (hj : J 0 m₀ news)
    (turn : ∀ i t m₁ news₁ h tk o, i < n → (∀ p ∈ news₁, p.1 ≠ I) → J i m₁ news₁ → Fr h₀ env.locals h (fun y => if y = x then some (.int ((n : Int) - 1 - i) t) else m₁ y) → News h₀ env.locals h (news₁ ++ [(I, o)]) →
      wpAny (model prog w) A (execs body env) (InvPostG h₀ env.locals (J (i + 1)) [(I, o)] { s with heap := h, toks := tk } Q) E { s with heap := h, toks := tk })
    (done : ∀ m₁ news₁ h tk, J n m₁ news₁ → Fr h₀ env.locals h m₁ → News h₀ env.locals h news₁ → Q .next { s with heap := h, toks := tk }) :
    wpAny (model prog w) A (pyIter (.ref I)) (fun it s₂ => LoopAtV prog w A h₀ env x body Q E it s₂) E s := by
  have zI := N (I, rngObj ((n : Int) - 1) n) (.head _)
  have hI : IsRangeIter s.heap I ((n : Int) - 1) n (-1) := zI.1
  have hIL : I ≠ env.locals := zI.2.1
  have hI0 : h₀.get? I = none := zI.2.2
  refine wpAny_pyIter_rangeiter hI ?_
  have W := Walks.range (prog := prog) (w := w) hh I ((n : Int) - 1) (-1) n
  refine ⟨I, [I], [I], n, _, _, m₀, news, J, rfl, W, ?_, ?_, ?_, ?_, F, fun p hp => N p (List.mem_cons_of_mem _ hp), hj, ?_, ?_⟩
  · intro hm; exact hIL (List.mem_singleton.mp hm).symm
  · intro b hb; rw [List.mem_singleton.mp hb]; exact hI0
  · intro p hp hm; exact off p hp (List.mem_singleton.mp hm)
  · show IsRangeIter _ _ _ _ _
    simpa using hI
  · rintro i v m₁ news₁ s₁ own ⟨hh', tk', rfl⟩ hin ⟨t, rfl⟩ hJ hoff hown hget hfp hst F₁ N₁
    obtain ⟨oI, hoI⟩ : ∃ oI, hh'.get? I = some oI := ⟨_, hst⟩
    have hmem : (I, oI) ∈ own := hfp I (List.mem_singleton.mpr rfl) hI0 _ hoI
    have e : (n : Int) - 1 + (i : Int) * (-1) = (n : Int) - 1 - i := by omega
    rw [e] at F₁
    have offI : ∀ p ∈ news₁, p.1 ≠ I := fun p hp e => hoff p hp (List.mem_singleton.mpr e)
    refine wpAny_mono (turn i t m₁ news₁ hh' tk' oI hin offI hJ F₁ (fun p hp => N₁ p ?_)) (fun f s₂ p => ?_) fun _ _ e => e
    · rcases List.mem_append.mp hp with hp | hp
      · exact List.mem_append.mpr (.inr hp)
      · rw [List.mem_singleton.mp hp]; exact List.mem_append.mpr (.inl hmem)
    · have fin : InvEndG h₀ env.locals (J (i + 1)) [(I, oI)] { s with heap := hh', toks := tk' } s₂ →
          LoopStepU h₀ env.locals [I] own (J (i + 1)) { s with heap := hh', toks := tk' } .next s₂ := by
        rintro ⟨h', tk, m', news', nx, e, F', N', hn, ho, ha, hm⟩
        refine ⟨rfl, h', tk, m', nx, e, F', fun p hp => ?_, fun p hp hq => ?_, hm⟩
        · rcases List.mem_append.mp hp with h | h
          · have h1 : p.1 = I := List.mem_singleton.mp (hown p h)
            have h2 : hh'.get? p.1 = some p.2 := hget p h
            rw [h1, hoI] at h2
            have h3 : p = (I, oI) := Prod.ext h1 (Option.some.inj h2).symm
            rw [h3]
            exact N' _ (ho _ List.mem_cons_self)
          · exact N' p (hn p h)
        · exact ha _ List.mem_cons_self p.1 (List.mem_map.mpr ⟨p, hp, rfl⟩) (List.mem_singleton.mp hq).symm
      cases f with
      | ret v => exact .ret p
      | brk => exact .brk p
      | next => exact .next (fin p)
      | cont => exact .cont (fin p)
  · intro h' tk m' news' F' N' _ hJ
    exact done m' news' h' tk hJ F' N'
theorem r_half {Q : Value → Shared → Prop} {k : Nat} (h : Q (.int ((k / 2 : Nat) : Int) s.toks) { s with toks := s.toks + 1 }) : wpAny (model prog w) A (binaryOp .FloorDiv (.int (k : Nat) t) (.int 2 u)) Q E s := by
  refine r_fdiv (by decide) (by decide +kernel) ?_
  have e : (k : Int) / 2 = ((k / 2 : Nat) : Int) := by omega
  rw [e]; exact h
end
theorem sdF_len : ∀ (f : Nat) (ys : List Str) (x : Str) (st p : Nat), (sdF f ys x st p).length = ys.length
  | 0, ys, x, st, p => by rw [sdF, List.length_set]
  | f + 1, ys, x, st, p => by
    rw [sdF]
    split
    · split
      · rw [sdF_len f, List.length_set]
      · rw [List.length_set]
    · rw [List.length_set]
theorem suF_len : ∀ (f : Nat) (ys : List Str) (p : Nat), (suF f ys p).1.length = ys.length
  | 0, ys, p => by rw [suF]
  | f + 1, ys, p => by
    rw [suF]
    split
    · split
      · rw [suF_len f, List.length_set]
      · rw [suF_len f, List.length_set]
    · rfl
theorem siftup_len (ys : List Str) (p : Nat) : (siftup ys p).length = ys.length := by
  unfold siftup
  rw [sdF_len, List.length_set, suF_len]
theorem hpF_len : ∀ (k : Nat) (ys : List Str), (hpF k ys).length = ys.length
  | 0, ys => rfl
  | k + 1, ys => by rw [hpF, hpF_len k, siftup_len]
theorem kl_last_snoc (p : List Value) (y : Value) : kl_last (p ++ [y]) = some (p, y) := by
  induction p with
  | nil => rfl
  | cons x p ih => rw [List.cons_append, kl_last, ih]
theorem strs_snoc : ∀ {zs : List Str} {z : Str} {vs : List Value}, StrsAre vs (zs ++ [z]) → ∃ ps t, vs = ps ++ [.str z t] ∧ StrsAre ps zs
  | [], z, _, .cons _ t .nil => ⟨[], t, rfl, .nil⟩
  | y :: zs, z, _, .cons _ t h => by
    obtain ⟨ps, u, e, hp⟩ := strs_snoc h
    exact ⟨.str y t :: ps, u, by rw [e]; rfl, .cons y t hp⟩
theorem r_pop {prog : Program} {w : World} {A : Around} {E : Value → Shared → Prop} {s : Shared} {h₀ : Heap} {L D : Addr} {m : Str → Option Value} {rest : List (Addr × Obj)} {n : Nat} {p : List Value} {y : Value} {Q : Value → Shared → Prop}
    (F : Fr h₀ L s.heap m) (N : News h₀ L s.heap ((D, listOf (p ++ [y]).toArray n) :: rest)) (ho : ∀ p ∈ rest, p.1 ≠ D) (hz : p.length < 64)
    (h : ∀ h', Fr h₀ L h' m → News h₀ L h' ((D, listOf p.toArray (n + 1)) :: rest) → Q y { s with heap := h' }) : wpAny (model prog w) A (call (.builtin "list.pop") [.ref D]) Q E s := by
  have z := N (D, listOf (p ++ [y]).toArray n) (.head _)
  refine call_meets PySem.F.slot_list_pop ⟨_, z.1, rfl⟩ PySem.F.entry_list_pop (PySem.F.args_list_pop_1 _) (PySem.MeetsSeq.list_pop_last D _ n y ?_ ?_) ⟨z.1, h _ (F.change (Heap.SameBut.update ..) z.2.1 z.2.2) (kl_turn (pre := []) (post := rest) _ N (List.forall_mem_nil _) ho ?_ ?_)⟩
  · simp
  · rw [sizeLine_eq, List.size_toArray, List.length_append]
    show p.length + 1 ≤ _
    omega
  · show (p ++ [y]).toArray.eraseIdxIfInBounds ((p ++ [y]).toArray.size - 1) = p.toArray
    have hk : (p ++ [y]).toArray.size - 1 = p.length := by rw [List.size_toArray, List.length_append]; rfl
    rw [hk, kl_erase, List.append_nil]
  · simp
theorem strs_dat {news : List (Addr × Obj)} : ∀ {vs : List Value} {ys : List Str}, StrsAre vs ys → DatAll news vs (ys.map Dat.str)
  | _, _, .nil => .nil
  | _, _, .cons y t h => .cons (.str y t) (strs_dat h)
theorem popL_len {ys : List Str} (h : ys ≠ []) : (popL ys).length = ys.length - 1 := by
  unfold popL
  split
  · rename_i e
    have h2 := congrArg List.length e
    rw [List.length_dropLast, List.length_nil] at h2
    rw [h2, List.length_nil]
  · rw [siftup_len, List.length_set, List.length_dropLast]
theorem r_ne_nil {prog : Program} {w : World} {A : Around} {E : Value → Shared → Prop} {s : Shared} {h₀ : Heap} {L a b : Addr} {news : List (Addr × Obj)} {vs : List Value} {ys : List Str} {n k : Nat} {Q : Value → Shared → Prop} (N : News h₀ L s.heap news)
    (ma : (a, listOf vs.toArray n) ∈ news) (hs : StrsAre vs ys) (hok : ∀ y ∈ ys, PyData.strOk y = true) (mb : (b, listOf #[] k) ∈ news) (hu : A.units + 64 < cLine) (h : Q (.bool (!decide (ys = []))) s) : wpAny (model prog w) A (compareOp .NotEq (.ref a) (.ref b)) Q E s := by
  refine kqd_ne (es := []) (ys := []) N ma rfl rfl (strs_dat (news := news) hs) (fun _ h => h) mb rfl rfl (DatAll.nil (news := news)) (fun _ h => h) ?_ (List.forall_mem_nil _) hu ?_
  · intro d hd
    obtain ⟨y, hy, rfl⟩ := List.mem_map.mp hd
    exact hok y hy
  · have e : decide (ys.map Dat.str = []) = decide (ys = []) := by
      cases ys <;> simp
    rw [e]; exact h
end Mine

end
section
set_option maxRecDepth 100000
set_option maxRecDepth 100000
namespace Mine
section
variable {prog : Program} {w : World} {A : Around} {E : Value → Shared → Prop} {s : Shared} {env : Env} {h₀ : Heap} {target : Expr} {body : List Stmt} {Q : Flow → Shared → Prop}
set_option maxHeartbeats 3200000 in
/-- a loop over a list of the ledger, whatever its items and whatever the target -/
theorem tt_iter {l : Addr} {vs : List Value} {nn : Nat} {m₀ : Str → Option Value} {news : List (Addr × Obj)} (J : Nat → (Str → Option Value) → List (Addr × Obj) → Prop)
    (hh : A.handled = none) (hl : (l, listOf vs.toArray nn) ∈ news) (F : Fr h₀ env.locals s.heap m₀) (N : News h₀ env.locals s.heap news) (hj : J 0 m₀ news)
    (turn : ∀ i v m₁ news₁ h tk I oI, vs[i]? = some v → (∀ p ∈ news₁, p.1 ≠ I) → (l, listOf vs.toArray nn) ∈ news₁ → J i m₁ news₁ → Fr h₀ env.locals h m₁ → News h₀ env.locals h ((I, oI) :: news₁) →
      wpAny (model prog w) A (assign target env v) (fun _ s₃ => wpAny (model prog w) A (execs body env) (InvPostG h₀ env.locals (fun m' nx => (l, listOf vs.toArray nn) ∈ nx ∧ J (i + 1) m' nx) [(I, oI)] { s with heap := h, toks := tk } Q) E s₃) E { s with heap := h, toks := tk })
    (done : ∀ m₁ news₁ h tk, J vs.length m₁ news₁ → Fr h₀ env.locals h m₁ → News h₀ env.locals h news₁ → Q .next { s with heap := h, toks := tk }) :
    wpAny (model prog w) A (pyIter (.ref l)) (fun it s₂ => TurnsAt prog w A h₀ env target body Q E it s₂) E s := by
  have hol : s.heap.get? l = some (listOf vs.toArray nn) := (N _ hl).1
  have hls : s.heap.IsList l vs.toArray := ⟨_, hol, rfl, nn, rfl⟩
  have hne : l ≠ s.heap.objs.size := Nat.ne_of_lt (Heap.lt_size hol)
  refine wpAny_pyIter_list hls ?_
  have W := KTurns.ofWalks (target := target) (Walks.list (prog := prog) (w := w) hh s.heap.objs.size l hne vs.toArray) fun i v s Q E st q => letGo_listiter st.1 q
  have hlen : vs.toArray.size = vs.length := by simp
  rw [hlen] at W
  refine ⟨_, _, _, vs.length, _, _, _, m₀, news, (fun i m nx => (l, listOf vs.toArray nn) ∈ nx ∧ J i m nx), rfl, W, ?_, ?_, ?_, ⟨⟨_, Heap.get?_push_size _ rfl, rfl, rfl⟩, hls.at fun o e => Heap.get?_push_of_some _ e⟩, F.push _, (fun p hp => ⟨Heap.get?_push_of_some _ (N p hp).1, (N p hp).2⟩), ⟨hl, hj⟩, ?_, ?_⟩
  · intro hm
    rcases List.mem_cons.mp hm with e | hm
    · exact absurd F.ns.lt (e ▸ Nat.lt_irrefl _)
    · exact (N _ hl).2.1 ((List.mem_singleton.mp hm).symm)
  · intro b hb
    rw [List.mem_singleton.mp hb]
    exact next_is_new F
  · intro p hp hI
    exact absurd (Heap.lt_size (N p hp).1) ((List.mem_singleton.mp hI) ▸ Nat.lt_irrefl _)
  · rintro i v m₁ news₁ hh' tk' own hin hP ⟨hl₁, hJ⟩ hoff hown hget hfp hst F₁ N₁
    have hP' : vs[i]? = some v := by simpa using hP
    have hI0 : h₀.get? s.heap.objs.size = none := next_is_new F
    obtain ⟨⟨oI, hoI, _⟩, _⟩ := id hst
    have hmem : (s.heap.objs.size, oI) ∈ own := hfp _ (List.mem_cons.mpr (.inl rfl)) hI0 _ hoI
    have offI : ∀ p ∈ news₁, p.1 ≠ s.heap.objs.size := fun p hp e => hoff p hp (List.mem_singleton.mpr e)
    have N₂ : News h₀ env.locals hh' ((s.heap.objs.size, oI) :: news₁) := fun p hp => N₁ p ((List.mem_cons.mp hp).elim (fun h => List.mem_append.mpr (.inl (h ▸ hmem))) fun h => List.mem_append.mpr (.inr h))
    have hlo : hh'.get? l = some (listOf vs.toArray nn) := (N₁ _ (List.mem_append.mpr (.inr hl₁))).1
    refine wpAny_mono (turn i v m₁ news₁ hh' tk' _ oI hP' offI hl₁ hJ F₁ N₂) (fun _ s₂ p => wpAny_mono p (fun f s₃ p => ?_) fun _ _ e => e) fun _ _ e => e
    have fin : InvEndG h₀ env.locals (fun m' nx => (l, listOf vs.toArray nn) ∈ nx ∧ J (i + 1) m' nx) [(s.heap.objs.size, oI)] { s with heap := hh', toks := tk' } s₃ →
        LoopStepU h₀ env.locals [s.heap.objs.size] own (fun m nx => (l, listOf vs.toArray nn) ∈ nx ∧ J (i + 1) m nx) { s with heap := hh', toks := tk' } .next s₃ := by
      rintro ⟨h', tk, m', news', nx, e, F', N', hn, ho, ha, hm⟩
      refine ⟨rfl, h', tk, m', nx, e, F', fun p hp => ?_, fun p hp hq => ?_, hm⟩
      · rcases List.mem_append.mp hp with h | h
        · have h2 : hh'.get? p.1 = some p.2 := hget p h
          rcases List.mem_cons.mp (hown p h) with h1 | h1
          · rw [h1, hoI] at h2
            have h3 : p = (s.heap.objs.size, oI) := Prod.ext h1 (Option.some.inj h2).symm
            rw [h3]
            exact N' _ (ho _ List.mem_cons_self)
          · have h1 := List.mem_singleton.mp h1
            rw [h1, hlo] at h2
            have h3 : p = (l, listOf vs.toArray nn) := Prod.ext h1 (Option.some.inj h2).symm
            rw [h3]
            exact N' _ (hn _ hm.1)
        · exact N' p (hn p h)
      · exact ha _ List.mem_cons_self p.1 (List.mem_map.mpr ⟨p, hp, rfl⟩) (List.mem_singleton.mp hq).symm
    cases f with
    | ret v => exact .ret p
    | brk => exact .brk p
    | next => exact .next (fin p)
    | cont => exact .cont (fin p)
  · rintro h' tk m' news' F' N' _ ⟨_, hJ⟩
    exact done m' news' h' tk hJ F' N'
end
/-- items one by one -/
inductive AllR {α : Type} (P : Value → α → Prop) : List Value → List α → Prop
  | nil : AllR P [] []
  | cons {v : Value} {a : α} {vs : List Value} {as : List α} : P v a → AllR P vs as → AllR P (v :: vs) (a :: as)
section
variable {α β : Type} {P R : Value → α → Prop} {vs ws : List Value} {as bs : List α}
theorem AllR.mono (f : ∀ v a, P v a → R v a) (h : AllR P vs as) : AllR R vs as := by
  induction h with
  | nil => exact .nil
  | cons h _ ih => exact .cons (f _ _ h) ih
theorem AllR.length (h : AllR P vs as) : vs.length = as.length := by
  induction h with
  | nil => rfl
  | cons _ _ ih => rw [List.length_cons, List.length_cons, ih]
theorem AllR.append (h : AllR P vs as) (k : AllR P ws bs) : AllR P (vs ++ ws) (as ++ bs) := by
  induction h with
  | nil => exact k
  | cons h _ ih => exact .cons h ih
theorem AllR.one {v : Value} {a : α} (h : P v a) : AllR P [v] [a] := .cons h .nil
theorem AllR.get (h : AllR P vs as) : ∀ (i : Nat) (v : Value), vs[i]? = some v → ∃ a, as[i]? = some a ∧ P v a := by
  induction h with
  | nil => intro i v e; cases i <;> cases e
  | cons h _ ih =>
    intro i v e
    cases i with
    | zero => cases e; exact ⟨_, rfl, h⟩
    | succ i => exact ih i v e
theorem AllR.take (h : AllR P vs as) : ∀ k, AllR P (vs.take k) (as.take k) := by
  induction h with
  | nil => intro k; cases k <;> exact .nil
  | cons h _ ih =>
    intro k
    cases k with
    | zero => exact .nil
    | succ k => exact .cons h (ih k)
theorem AllR.drop (h : AllR P vs as) : ∀ k, AllR P (vs.drop k) (as.drop k) := by
  induction h with
  | nil => intro k; cases k <;> exact .nil
  | cons h r ih =>
    intro k
    cases k with
    | zero => exact .cons h r
    | succ k => exact ih k
theorem take_snoc {as : List α} {i : Nat} {a : α} (h : as[i]? = some a) : as.take (i + 1) = as.take i ++ [a] := by
  rw [List.take_add_one, h]; rfl
end
noncomputable abbrev tupO (a : Str) (t : Tok) (b : Bool) : Obj := { cls := .type "tuple", data := .seq #[.str a t, .bool b] }
/-- a rule of the law: a pair -/
noncomputable def RuleIs (news : List (Addr × Obj)) (v : Value) (r : Str × Bool) : Prop := ∃ T t, v = .ref T ∧ (T, tupO r.1 t r.2) ∈ news
theorem RuleIs.mono {n₁ n₂ : List (Addr × Obj)} (hs : ∀ p ∈ n₁, p ∈ n₂) {v r} (h : RuleIs n₁ v r) : RuleIs n₂ v r := let ⟨T, t, e, m⟩ := h; ⟨T, t, e, hs _ m⟩
noncomputable abbrev dE (w : World) (n : String) (t : Tok) (v : Value) : DictEntry := { hash := PyData.keyHash w.params (Str.ofString n), key := .str (Str.ofString n) t, val := v }
noncomputable abbrev recD (w : World) (t1 t2 t3 t4 : Tok) (U R : Addr) : Obj := dictOf [dE w "useragents" t1 (.ref U), dE w "rulelines" t2 (.ref R), dE w "delay" t3 .none, dE w "req_rate" t4 .none] 4
noncomputable abbrev entD (w : World) (t1 t2 t3 t4 t5 : Tok) (U R : Addr) (b : Bool) : Obj := dictOf [dE w "useragents" t1 (.ref U), dE w "rulelines" t2 (.ref R), dE w "delay" t3 .none, dE w "req_rate" t4 .none, dE w "allowance" t5 (.bool b)] 5
/-- an Entry of one agent -/
noncomputable def EntIs (w : World) (news : List (Addr × Obj)) (v : Value) (r : Str × Bool) : Prop :=
  ∃ x d U R t1 t2 t3 t4 t5 t, v = .ref x ∧ (x, instObj 59 d) ∈ news ∧ (d, entD w t1 t2 t3 t4 t5 U R r.2) ∈ news ∧ (U, W.listOf #[.str r.1 t] 0) ∈ news
theorem EntIs.mono {w : World} {n₁ n₂ : List (Addr × Obj)} (hs : ∀ p ∈ n₁, p ∈ n₂) {v r} (h : EntIs w n₁ v r) : EntIs w n₂ v r :=
  let ⟨x, d, U, R, t1, t2, t3, t4, t5, t, e, a, b, c⟩ := h; ⟨x, d, U, R, t1, t2, t3, t4, t5, t, e, hs _ a, hs _ b, hs _ c⟩
/-- a record: its rules in a list -/
noncomputable def RecIs (w : World) (news : List (Addr × Obj)) (x : Addr) (rs : List (Str × Bool)) : Prop :=
  ∃ d U R t1 t2 t3 t4 es c cU, (x, instObj 59 d) ∈ news ∧ (d, recD w t1 t2 t3 t4 U R) ∈ news ∧ (U, W.listOf #[] cU) ∈ news ∧ (R, W.listOf (List.toArray es) c) ∈ news ∧ AllR (EntIs w news) es rs
theorem RecIs.mono {w : World} {n₁ n₂ : List (Addr × Obj)} (hs : ∀ p ∈ n₁, p ∈ n₂) {x rs} (h : RecIs w n₁ x rs) : RecIs w n₂ x rs :=
  let ⟨d, U, R, t1, t2, t3, t4, es, c, cU, a, b, e, f, g⟩ := h; ⟨d, U, R, t1, t2, t3, t4, es, c, cU, hs _ a, hs _ b, hs _ e, hs _ f, g.mono fun _ _ k => k.mono hs⟩
theorem inv_fin {h₀ h' : Heap} {L : Addr} {J : (Str → Option Value) → List (Addr × Obj) → Prop} {I : Addr} {oI : Obj} {s₁ : Shared} {m' : Str → Option Value} {led : List (Addr × Obj)} {tk : Nat} (F : Fr h₀ L h' m') (N : News h₀ L h' led) (hI : (I, oI) ∈ led)
    (hj : J m' (led.filter fun p => decide (p.1 ≠ I))) : InvEndG h₀ L J [(I, oI)] s₁ { s₁ with heap := h', toks := tk } := by
  refine InvEndG.intro F N hj (fun p hp b hb => ?_) (fun p hp => (List.mem_filter.mp hp).1) fun p hp => by rw [List.mem_singleton.mp hp]; exact hI
  obtain ⟨q, hq, rfl⟩ := List.mem_map.mp hb
  rw [List.mem_singleton.mp hp]
  exact Ne.symm (of_decide_eq_true (List.mem_filter.mp hq).2)
theorem mem_off {led : List (Addr × Obj)} {I : Addr} {p : Addr × Obj} (h : p ∈ led) (n : p.1 ≠ I) : p ∈ led.filter fun p => decide (p.1 ≠ I) := List.mem_filter.mpr ⟨h, decide_eq_true n⟩
theorem off_filter (R : Addr) (led : List (Addr × Obj)) : LCg.Off1 R (led.filter fun p => decide (p.1 ≠ R)) := off1_of fun _ hp => of_decide_eq_true (List.mem_filter.mp hp).2
theorem inv_fin2 {h₀ h' : Heap} {L : Addr} {J : (Str → Option Value) → List (Addr × Obj) → Prop} {I : Addr} {oI : Obj} {s₁ : Shared} {m' : Str → Option Value} {led tl : List (Addr × Obj)} {tk : Nat} (F : Fr h₀ L h' m') (N : News h₀ L h' led) (hI : (I, oI) ∈ led)
    (hc : ∀ p ∈ tl, p ∈ led) (ho : ∀ p ∈ tl, p.1 ≠ I) (hj : (∀ p ∈ tl, p ∈ led.filter fun p => decide (p.1 ≠ I)) → J m' (led.filter fun p => decide (p.1 ≠ I))) : InvEndG h₀ L J [(I, oI)] s₁ { s₁ with heap := h', toks := tk } :=
  inv_fin F N hI (hj fun p hp => mem_off (hc p hp) (ho p hp))
end Mine

end
section
set_option maxRecDepth 100000
set_option maxRecDepth 100000
namespace Mine
noncomputable def SetO (o : Obj) : Prop := o.cls = .type "set" ∧ o.dict = none ∧ ∃ es ep t, o.data = .set es ep t
section
variable {prog : Program} {w : World} {A : Around} {E : Value → Shared → Prop} {s : Shared} {h₀ : Heap} {L : Addr} {m : Str → Option Value} {news : List (Addr × Obj)}
theorem r_set0 {l : Addr} {n : Nat} {Q : Value → Shared → Prop} (F : Fr h₀ L s.heap m) (N : News h₀ L s.heap news) (hh : A.handled = none) (hm : (l, W.listOf #[] n) ∈ news)
    (h : ∀ D o h' tk, Fr h₀ L h' m → News h₀ L h' ((D, o) :: news) → SetO o → (∀ p ∈ news, p.1 < D) → Q (.ref D) { s with heap := h', toks := tk }) : wpAny (model prog w) A (call (.type "set") [.ref l]) Q E s := by
  refine PySem.call_set_list (items := #[]) (ns := []) hh ⟨_, (N _ hm).1, rfl, n, rfl⟩ .nil (by unfold scanBound; decide) fun h' tk hS hk => ?_
  obtain ⟨o, ho, hso⟩ := hS.objOf
  obtain ⟨oL, _, _, hL, _⟩ := F.ns
  have hLlt : L < s.heap.objs.size := Heap.lt_size hL
  refine h _ o h' tk ⟨F.ns.at' fun o' e => hk L o' hLlt e, fun b o' e => hk b o' (Heap.lt_size (F.keep b o' e)) (F.keep b o' e), F.above⟩ (fun p hp => ?_) ⟨hso.1.1, hso.1.2.1, let ⟨_, es, ep, t, hd, _⟩ := hso; ⟨es, ep, t, hd⟩⟩ fun p hp => Heap.lt_size (N p hp).1
  rcases List.mem_cons.mp hp with rfl | hp
  · refine ⟨ho, Nat.ne_of_gt hLlt, ?_⟩
    cases hq : h₀.get? s.heap.objs.size with
    | none => rfl
    | some o' => exact absurd (Heap.lt_size (F.keep _ _ hq)) (Nat.lt_irrefl _)
  · exact ⟨hk _ _ (Heap.lt_size (N p hp).1) (N p hp).1, (N p hp).2.1, (N p hp).2.2⟩
end
end Mine

end
section
set_option maxRecDepth 100000
set_option maxRecDepth 100000
namespace Mine
theorem slot_filter_next : Slot "filter" "__next__" "filter.__next__" :=
  .of (owner := "filter") (n := "__next__") (by rw [typeLookup_type, builtinLookup_eq_fast]; kernel_rfl) (by decide +kernel) (by decide +kernel) (by decide +kernel)
    (by first | exact .inl (by decide +kernel) | exact .inr (by decide +kernel)) (by rw [isSubtype_type]; kernel_rfl)
theorem slot_filter_iter : Slot "filter" "__iter__" "filter.__iter__" :=
  .of (owner := "filter") (n := "__iter__") (by rw [typeLookup_type, builtinLookup_eq_fast]; kernel_rfl) (by decide +kernel) (by decide +kernel) (by decide +kernel)
    (by first | exact .inl (by decide +kernel) | exact .inr (by decide +kernel)) (by rw [isSubtype_type]; kernel_rfl)
theorem slot_filter_init : Slot "filter" "__init__" "object.__init__" :=
  .of (owner := "object") (n := "__init__") (by rw [typeLookup_type, builtinLookup_eq_fast]; kernel_rfl) (by decide +kernel) (by decide +kernel) (by decide +kernel)
    (by first | exact .inl (by decide +kernel) | exact .inr (by decide +kernel)) (by rw [isSubtype_type]; kernel_rfl)
theorem owner_filter : Manifest.owners.lookup (String.ofList ['r', 'e', 't', 'l', 'i', 'f'].reverse) = some Manifest.sig_filter := by kernel_rfl
theorem entry_filter_next : entryFor table "filter.__next__" = some Builtin.«filter.__next__» := entryFor_of_tree (by kernel_rfl)
theorem args_filter_next_1 (a : Value) : argsOk "filter.__next__" ⟨[a], []⟩ := by
  unfold argsOk; rw [signature?_of (id := "filter.__next__") (n := ['_', '_', 't', 'x', 'e', 'n', '_', '_']) (o := ['r', 'e', 't', 'l', 'i', 'f']) (by kernel_rfl) owner_filter]; kernel_rfl
theorem args_filter_iter_1 (a : Value) : argsOk "filter.__iter__" ⟨[a], []⟩ := by
  unfold argsOk; rw [signature?_of (id := "filter.__iter__") (n := ['_', '_', 'r', 'e', 't', 'i', '_', '_']) (o := ['r', 'e', 't', 'l', 'i', 'f']) (by kernel_rfl) owner_filter]; kernel_rfl
theorem entry_filter_iter : entryFor table "filter.__iter__" = some Builtin.«dict_keyiterator.__iter__» :=
  entryFor_alias (id' := "dict_keyiterator.__iter__") (by rw [fastTable_eq_tree]; kernel_rfl) (by first | rfl | decide +kernel | (unfold String.splitOn; simp +decide [String.splitOnAux])) (by rw [PySem.W.Fast.canonicalQ_eq]; kernel_rfl) (by rw [fastTable_eq_tree]; kernel_rfl)
theorem mro_filter : mroOf (.type "filter") = pure [.type "filter", .type "object"] := by rw [mroOf_type]; kernel_rfl
theorem lookup_filter_new : typeLookup (.type "filter") "__new__" = pure (some (.builtin "filter.__new__")) := by rw [typeLookup_type, builtinLookup_eq_fast]; kernel_rfl
theorem called_filter : TypeCalled "filter" "filter.__new__" "object.__init__" :=
  ⟨by decide +kernel, by decide +kernel, ⟨_, _, mro_filter⟩, madeBy_type mro_filter lookup_filter_new (by decide +kernel), by decide +kernel, by rw [isSubtype_type]; kernel_rfl, slot_filter_init⟩
theorem typeCall_filter_2 (a b : Value) : checkTypeCall "filter" ⟨[a, b], []⟩ = pure () := by rw [PySem.W.Fast.te11612656972197000677]; kernel_rfl
theorem newCall_filter_2 (a b : Value) : checkBuiltinCall "filter.__new__" ⟨[.type "filter", a, b], []⟩ = pure () := by rw [PySem.W.Fast.te10254737850608025244]; kernel_rfl
theorem entry_filter_new : entryFor table "filter.__new__" = some Builtin.«filter.__new__» := entryFor_of_tree (by kernel_rfl)
theorem sub_filter : isSubtype (.type "filter") (.type "filter") = pure true := by rw [isSubtype_type]; kernel_rfl
theorem slot_map_next : Slot "map" "__next__" "map.__next__" :=
  .of (owner := "map") (n := "__next__") (by rw [typeLookup_type, builtinLookup_eq_fast]; kernel_rfl) (by decide +kernel) (by decide +kernel) (by decide +kernel)
    (by first | exact .inl (by decide +kernel) | exact .inr (by decide +kernel)) (by rw [isSubtype_type]; kernel_rfl)
theorem slot_map_iter : Slot "map" "__iter__" "map.__iter__" :=
  .of (owner := "map") (n := "__iter__") (by rw [typeLookup_type, builtinLookup_eq_fast]; kernel_rfl) (by decide +kernel) (by decide +kernel) (by decide +kernel)
    (by first | exact .inl (by decide +kernel) | exact .inr (by decide +kernel)) (by rw [isSubtype_type]; kernel_rfl)
theorem slot_map_init : Slot "map" "__init__" "object.__init__" :=
  .of (owner := "object") (n := "__init__") (by rw [typeLookup_type, builtinLookup_eq_fast]; kernel_rfl) (by decide +kernel) (by decide +kernel) (by decide +kernel)
    (by first | exact .inl (by decide +kernel) | exact .inr (by decide +kernel)) (by rw [isSubtype_type]; kernel_rfl)
theorem owner_map : Manifest.owners.lookup (String.ofList ['p', 'a', 'm'].reverse) = some Manifest.sig_map := by kernel_rfl
theorem entry_map_next : entryFor table "map.__next__" = some Builtin.«map.__next__» := entryFor_of_tree (by kernel_rfl)
theorem args_map_next_1 (a : Value) : argsOk "map.__next__" ⟨[a], []⟩ := by
  unfold argsOk; rw [signature?_of (id := "map.__next__") (n := ['_', '_', 't', 'x', 'e', 'n', '_', '_']) (o := ['p', 'a', 'm']) (by kernel_rfl) owner_map]; kernel_rfl
theorem args_map_iter_1 (a : Value) : argsOk "map.__iter__" ⟨[a], []⟩ := by
  unfold argsOk; rw [signature?_of (id := "map.__iter__") (n := ['_', '_', 'r', 'e', 't', 'i', '_', '_']) (o := ['p', 'a', 'm']) (by kernel_rfl) owner_map]; kernel_rfl
theorem entry_map_iter : entryFor table "map.__iter__" = some Builtin.«dict_keyiterator.__iter__» :=
  entryFor_alias (id' := "dict_keyiterator.__iter__") (by rw [fastTable_eq_tree]; kernel_rfl) (by first | rfl | decide +kernel | (unfold String.splitOn; simp +decide [String.splitOnAux])) (by rw [PySem.W.Fast.canonicalQ_eq]; kernel_rfl) (by rw [fastTable_eq_tree]; kernel_rfl)
theorem mro_map : mroOf (.type "map") = pure [.type "map", .type "object"] := by rw [mroOf_type]; kernel_rfl
theorem lookup_map_new : typeLookup (.type "map") "__new__" = pure (some (.builtin "map.__new__")) := by rw [typeLookup_type, builtinLookup_eq_fast]; kernel_rfl
theorem called_map : TypeCalled "map" "map.__new__" "object.__init__" :=
  ⟨by decide +kernel, by decide +kernel, ⟨_, _, mro_map⟩, madeBy_type mro_map lookup_map_new (by decide +kernel), by decide +kernel, by rw [isSubtype_type]; kernel_rfl, slot_map_init⟩
theorem typeCall_map_2 (a b : Value) : checkTypeCall "map" ⟨[a, b], []⟩ = pure () := by rw [PySem.W.Fast.te11612656972197000677]; kernel_rfl
theorem newCall_map_2 (a b : Value) : checkBuiltinCall "map.__new__" ⟨[.type "map", a, b], []⟩ = pure () := by rw [PySem.W.Fast.te10254737850608025244]; kernel_rfl
theorem entry_map_new : entryFor table "map.__new__" = some Builtin.«map.__new__» := entryFor_of_tree (by kernel_rfl)
theorem sub_map : isSubtype (.type "map") (.type "map") = pure true := by rw [isSubtype_type]; kernel_rfl
end Mine

end
section
set_option maxRecDepth 100000
set_option maxRecDepth 100000
namespace Mine
theorem no_len_filter : typeLookup (.type "filter") "__len__" = pure none := by rw [typeLookup_type, builtinLookup_eq_fast]; kernel_rfl
theorem no_hint_filter : typeLookup (.type "filter") "__length_hint__" = pure none := by rw [typeLookup_type, builtinLookup_eq_fast]; kernel_rfl
theorem no_len_map : typeLookup (.type "map") "__len__" = pure none := by rw [typeLookup_type, builtinLookup_eq_fast]; kernel_rfl
theorem no_hint_map : typeLookup (.type "map") "__length_hint__" = pure none := by rw [typeLookup_type, builtinLookup_eq_fast]; kernel_rfl
section
variable {prog : Program} {w : World} {A : Around} {E : Value → Shared → Prop} {s : Shared} {T : String} {r : Addr}
theorem ss_hint {Q : Bool → Shared → Prop} (hT : s.TypeIs (.ref r) T) (h1 : typeLookup (.type T) "__len__" = pure none) (h2 : typeLookup (.type T) "__length_hint__" = pure none) (h : Q true s) : wpAny (model prog w) A (Builtin.List.listLengthHint (.ref r)) Q E s := by
  unfold Builtin.List.listLengthHint
  refine wpAny_bind (wpAny_specialOf hT h1 ?_)
  dsimp only
  rw [if_neg (by decide)]
  refine wpAny_bind (wpAny_specialOf hT h2 ?_)
  exact wpAny_pure h
/-- a source that is its own iterator -/
structure SelfSrc (prog : Program) (w : World) (T : String) (r : Addr) (n : Nat) (P : Nat → Value → Prop) (fp wr : List Addr) (St : Nat → Heap → Prop) : Prop where
  type : ∀ s : Shared, St 0 s.heap → s.TypeIs (.ref r) T
  notList : (Value.type T == Value.type "list") = false
  notTuple : (Value.type T == Value.type "tuple") = false
  noLen : typeLookup (.type T) "__len__" = pure none
  noHint : typeLookup (.type T) "__length_hint__" = pure none
  mem : r ∈ fp
variable {n : Nat} {P : Nat → Value → Prop} {fp wr : List Addr} {St : Nat → Heap → Prop}
theorem ss_extend {R : Result → Shared → Prop} (K : SelfSrc prog w T r n P fp wr St) (W : Walks prog w A.in1 r fp wr n P St) (st : St 0 s.heap) (S : Addr) (hSf : S ∉ fp) (res : Value) (c₀ : Nat) (hS : s.heap.get? S = some { cls := .type "list", data := .seq #[] c₀ })
    (hR : ∀ h' tk acc' c', (∀ b o, b ≠ S → b ∉ wr → s.heap.get? b = some o → h'.get? b = some o) → h'.get? S = some { cls := .type "list", dict := none, data := .seq acc' c', slots := #[] } → ItemsOf P acc' n → R (.ok (.ret res)) { s with heap := h', toks := tk }) (hn : n ≤ sizeLine) :
    wpAny (model prog w) A.in1 (Builtin.List.listExtendWith (.ref S) (.ref r) res)
      (fun fin s' => match fin with | .done f => R (.ok f) s' | .again c' => c'.quiet = true ∧ codeAny (model prog w) A c' R s') (fun e s' => R (.error e) s') s := by
  have key : ∀ (h : Heap) (c₁ tk : Nat), St 0 h → (∀ b o, b ≠ S → s.heap.get? b = some o → h.get? b = some o) →
      h.get? S = some { cls := .type "list", data := .seq #[] c₁ } → codeAny (model prog w) A (.builtin "list.extend.loop" ⟨[.ref S, .ref r, res], []⟩) R { s with heap := h, toks := tk } := by
    intro h c₁ tk hst hk hS₁
    refine codeAny_extend_loopS W.toS hn S hSf res n 0 _ #[] c₁ rfl (Nat.zero_le _) hst hS₁ (ItemsOf.nil _) fun s' acc' c' hm hS' hacc => ?_
    rw [Moved.eq_with hm]
    exact hR s'.heap s'.toks acc' c' (fun b o hb hw e => hm.heap b o (fun hmem => (List.mem_cons.mp hmem).elim hb hw) (hk b o hb e)) hS' hacc
  have hSr : S ≠ r := fun e => hSf (e ▸ K.mem)
  unfold Builtin.List.listExtendWith
  refine wpAny_bind (wpAny_typeOf (T := T) (K.type s st) ?_)
  have h1 : Builtin.List.listSameRef (.ref S) (.ref r) = false := by simp [Builtin.List.listSameRef, hSr]
  simp only [h1, K.notList, K.notTuple, Bool.or_false, Bool.false_eq_true, if_false]
  refine wpAny_bind (W.self 0 _ _ _ st ?_)
  refine wpAny_bind (wpAny_holding (ss_hint (K.type s st) K.noLen K.noHint ?_))
  refine wpAny_ite_split (fun _ => ?_) (fun _ => wpAny_pure ⟨plainId_quiet PySem.F.plain_extend_loop _, key _ c₀ _ st (fun b o _ e => e) hS⟩)
  refine wpAny_bind (wpAny_rule ?_)
  refine wpAny_bind ?_
  show wpAny _ _ (updateSeq S (·.push .none) >>= fun _ => updateSeq S (·.pop)) _ _ _
  refine wpAny_bind (wpAny_updateSeq hS rfl ?_)
  have hS₂ := Heap.get?_update_self (Obj.mapSeq (·.push Value.none)) hS rfl
  refine wpAny_updateSeq (hz := by seq_fits) hS₂ rfl ?_
  have hS₃ := Heap.get?_update_self (Obj.mapSeq (·.pop)) hS₂ rfl
  refine wpAny_pure ⟨plainId_quiet PySem.F.plain_extend_loop _, key _ _ _ ?_ (fun b o hb e => ?_) hS₃⟩
  · refine W.frame 0 _ _ st fun b hb o e => ?_
    have hbS : b ≠ S := fun h => hSf (h ▸ hb)
    exact (Heap.get?_update_other _ _ (Ne.symm hbS)).trans ((Heap.get?_update_other _ _ (Ne.symm hbS)).trans e)
  · exact (Heap.get?_update_other _ _ (Ne.symm hb)).trans ((Heap.get?_update_other _ _ (Ne.symm hb)).trans e)
theorem ss_init {R : Result → Shared → Prop} (K : SelfSrc prog w T r n P fp wr St) (W : Walks prog w A.in1 r fp wr n P St) (st : St 0 s.heap) (S : Addr) (hSf : S ∉ fp) (hS : s.heap.get? S = some { cls := .type "list", data := .seq #[] })
    (hR : ∀ h' tk acc' c', (∀ b o, b ≠ S → b ∉ wr → s.heap.get? b = some o → h'.get? b = some o) → h'.get? S = some { cls := .type "list", dict := none, data := .seq acc' c', slots := #[] } → ItemsOf P acc' n → R (.ok (.ret .none)) { s with heap := h', toks := tk }) (hn : n ≤ sizeLine) :
    wpAny (model prog w) A.in1 (Builtin.«list.__init__» ⟨[.ref S, .ref r], []⟩)
      (fun fin s' => match fin with | .done f => R (.ok f) s' | .again c' => c'.quiet = true ∧ codeAny (model prog w) A c' R s') (fun e s' => R (.error e) s') s := by
  show wpAny _ _ (do let old ← Builtin.List.listItems (.ref S); Builtin.List.listUpdate (.ref S) (fun _ => #[]); letGo old.toList.reverse; Builtin.List.listExtendWith (.ref S) (.ref r) .none) _ _ s
  refine wpAny_bind ?_
  unfold Builtin.List.listItems
  refine wpAny_bind (wpAny_seqItems hS rfl (wpAny_pure ?_))
  show wpAny _ _ (updateSeq S (fun _ => #[]) >>= fun _ => letGo (#[] : Array Value).toList.reverse >>= fun _ => Builtin.List.listExtendWith (.ref S) (.ref r) .none) _ _ s
  refine wpAny_bind (wpAny_updateSeq hS rfl ?_)
  have hS₂ := Heap.get?_update_self (Obj.mapSeq (fun _ => (#[] : Array Value))) hS rfl
  have oth : ∀ b o, b ≠ S → s.heap.get? b = some o → (s.heap.update S (Obj.mapSeq (fun _ => (#[] : Array Value)))).get? b = some o :=
    fun b o hb e => (Heap.get?_update_other _ _ (Ne.symm hb)).trans e
  refine wpAny_bind (wpAny_letGo ?_)
  refine ss_extend K W (W.frame 0 _ _ st fun b hb o e => oth b o (fun h => hSf (h ▸ hb)) e) S hSf .none _ hS₂ (fun h' tk acc' c' hk hS' hacc => ?_) hn
  exact hR h' tk acc' c' (fun b o hb hw e => hk b o hb hw (oth b o hb e)) hS' hacc
theorem ss_call {Q : Value → Shared → Prop} (K : SelfSrc prog w T r n P fp wr St) (W : Walks prog w A.in1.in1 r fp wr n P St) (st : St 0 s.heap) (hlt : ∀ b ∈ fp, b < s.heap.objs.size) (hn : n ≤ sizeLine)
    (hQ : ∀ h' tk acc' c', (∀ b o, b ∉ wr → s.heap.get? b = some o → h'.get? b = some o) → h'.get? s.heap.objs.size = some { cls := .type "list", dict := none, data := .seq acc' c', slots := #[] } → ItemsOf P acc' n → Q (.ref s.heap.objs.size) { s with heap := h', toks := tk }) :
    wpAny (model prog w) A (call (.type "list") [.ref r]) Q E s := by
  refine callType_codes (Q₁ := fun obj s₁ => obj = .ref s.heap.objs.size ∧ s₁ = { s with heap := s.heap.push { cls := .type "list", data := .seq #[] } }) PySem.F.called_list (PySem.F.typeCall_list_1 _) PySem.F.entry_list_init
    (code_list_new _ ⟨rfl, rfl⟩) fun obj s₁ h₁ => ?_
  obtain ⟨rfl, rfl⟩ := h₁
  have hS : (s.heap.push { cls := .type "list", data := .seq #[] }).get? s.heap.objs.size = some { cls := .type "list", data := .seq #[] } := Heap.get?_push_size _ rfl
  have hSf : s.heap.objs.size ∉ fp := fun h => Nat.lt_irrefl _ (hlt _ h)
  refine ⟨⟨_, hS, rfl⟩, PySem.F.args_list_init_2 _ _, ss_init (A := A.in1) K W (W.frame 0 _ _ st fun b _ o e => Heap.get?_push_of_some _ e) _ hSf hS (fun h' tk acc' c' hk hS' hacc => ?_) hn⟩
  exact ⟨rfl, hQ h' tk acc' c' (fun b o hw e => hk b o (Nat.ne_of_lt (Heap.lt_size e)) hw (Heap.get?_push_of_some _ e)) hS' hacc⟩
end
end Mine

end
section
set_option maxRecDepth 100000
set_option maxRecDepth 100000
namespace Mine
theorem args_obj_init_3 (a b c : Value) : argsOk "object.__init__" ⟨[a, b, c], []⟩ := F.args_object_init_3 a b c
noncomputable abbrev litO (l : Addr) : Obj := { cls := .type "list_iterator", data := .fields #[.ref l, .int 0 0] }
noncomputable abbrev filtO (f : Value) (it : Addr) : Obj := { cls := .type "filter", data := .fields #[f, .ref it] }
theorem meets_filter_new (f : Value) (l : Addr) (xs : Array Value) :
    Meets (Builtin.«filter.__new__» ⟨[.type "filter", f, .ref l], []⟩) (fun _ R s => s.heap.IsList l xs ∧
      R (.ok (.ret (.ref (s.heap.push (litO l)).objs.size))) { s with heap := (s.heap.push (litO l)).push (filtO f s.heap.objs.size) }) :=
  .of_wp fun prog w A R s h => by
    obtain ⟨hp, g, d, tk, os⟩ := s; obtain ⟨hl, h⟩ := h
    have hsub := sub_filter
    have hL1 : Heap.IsList (Shared.heap ⟨hp, g, d, tk, os⟩) l xs := hl
    wp_walk using wpAny_pyIter_list hL1
    exact ⟨_, rfl, h⟩
section
variable {prog : Program} {w : World} {A : Around} {E : Value → Shared → Prop} {s : Shared} {h₀ : Heap} {L : Addr} {m : Str → Option Value} {news : List (Addr × Obj)}
theorem call_filter {f : Value} {l : Addr} {xs : Array Value} {Q : Value → Shared → Prop} (hl : s.heap.IsList l xs)
    (h : Q (.ref (s.heap.push (litO l)).objs.size) { s with heap := (s.heap.push (litO l)).push (filtO f s.heap.objs.size) }) :
    wpAny (model prog w) A (call (.type "filter") [f, .ref l]) Q E s := by
  refine callType_new called_filter (by decide) (typeCall_filter_2 _ _) (newCall_filter_2 _ _) (fun obj => args_obj_init_3 obj _ _) entry_filter_new
    (meets_filter_new f l xs) ⟨hl, ?_⟩
  exact ⟨⟨_, Heap.get?_push_size _ rfl, rfl⟩, h⟩
theorem r_filter {f : Value} {l : Addr} {n : Nat} {Q : Value → Shared → Prop} (F : Fr h₀ L s.heap m) (N : News h₀ L s.heap news) (hm : (l, W.listOf #[] n) ∈ news)
    (h : ∀ M it h', Fr h₀ L h' m → News h₀ L h' ((M, filtO f it) :: (it, litO l) :: news) → (∀ p ∈ news, p.1 < it) → @LT.lt Nat _ it M → Q (.ref M) { s with heap := h' }) :
    wpAny (model prog w) A (call (.type "filter") [f, .ref l]) Q E s := by
  refine call_filter ⟨_, (N _ hm).1, rfl, n, rfl⟩ (h _ _ _ ((F.push _).push _) (News.push (F.push _) (News.push F N _) _) (fun p hp => Heap.lt_size (N p hp).1) ?_)
  rw [Heap.size_push]; exact Nat.lt_succ_self _
/-- a list's walker at its end -/
theorem special_end {it l : Addr} {i : Nat} {items : Array Value} {Q : Option Value → Shared → Prop} (hh : A.handled = none) (hit : s.heap.IsListIter it l i) (hl : s.heap.IsList l items) (hx : items[i]? = none)
    (hE : ∀ h' e, Heap.ExtBut it s.heap h' → (∃ o, h'.get? e = some o ∧ o.cls = .type "StopIteration") → E (.ref e) { s with heap := h' }) :
    wpAny (model prog w) A (callSpecial? (.ref it) (Str.ofString "__next__")) Q E s := by
  obtain ⟨o, ho, hc, hd⟩ := id hit
  obtain ⟨ol, hol, _, nl, hdl⟩ := hl
  refine wpAny_callSpecial?_slot (name := Str.ofString "__next__") hit.typeIs slot_listiter_next (wpAny_call_entry slot_listiter_next hit.typeIs entry_listiter_next ?_ (args_listiter_next _))
  show wpAny _ _ (field (.ref it) 0 >>= _) _ _ s
  refine wpAny_bind (wpAny_field ho hd (x := .ref l) rfl ?_)
  show wpAny _ _ (field (.ref it) 1 >>= _) _ _ s
  refine wpAny_bind (wpAny_field ho hd (x := .int i 0) rfl ?_)
  show wpAny _ _ (seqItems? (.ref l) >>= _) _ _ s
  refine wpAny_bind (wpAny_seqItems hol hdl ?_)
  rw [show (Int.toNat (i : Int)) = i from rfl]
  simp only [hx]
  refine wpAny_bind (wpAny_rule (wpAny_bind (wpAny_setField ho hd (by simp) ?_)))
  refine wpAny_bind (m := newExc (.type "StopIteration") []) ?_
  unfold newExc
  simp only [newTuple]
  refine wpAny_bind (wpAny_newObj_type ?_ (by size_fits))
  refine wpAny_bind (m := firstArgMember _ _) (wpAny_of_eq (a := Value.none) (by first | rfl | (simp only [firstArgMember]; rfl)) ?_)
  refine wpAny_newObj_type ?_ (by size_fits)
  unfold raiseNew
  refine wpAny_bind (wpAny_handled ?_)
  have h1 : A.in1.handled = none := hh
  rw [h1]
  exact wpAny_bind (wpAny_pure (wpAny_throw (hE _ _ (((Heap.SameBut.update ..).extBut.push _).push _) ⟨_, Heap.get?_push_size _ rfl, rfl⟩)))
theorem filter_next_end {M it l : Addr} {f : Value} {Q : Option Value → Shared → Prop} (hh : A.handled = none) (hM : s.heap.get? M = some (filtO f it)) (hi : s.heap.IsListIter it l 0) (hl : s.heap.IsList l #[])
    (hQ : ∀ h', Heap.ExtBut it s.heap h' → Q none { s with heap := h' }) : wpAny (model prog w) A (pyNext (.ref M)) Q E s := by
  have hT : s.TypeIs (.ref M) "filter" := ⟨_, hM, rfl⟩
  unfold pyNext
  refine wpAny_bind (wpAny_attempt (wpAny_callSpecial?_slot (name := Str.ofString "__next__") hT slot_filter_next
    (wpAny_call_entry slot_filter_next hT entry_filter_next ?_ (args_filter_next_1 _))))
  show wpAny _ _ (field (.ref M) 0 >>= _) _ _ _
  refine wpAny_bind (wpAny_field hM rfl (x := f) rfl ?_)
  show wpAny _ _ (field (.ref M) 1 >>= _) _ _ _
  refine wpAny_bind (wpAny_field hM rfl (x := .ref it) rfl ?_)
  refine wpAny_bind (special_end (by exact hh) hi hl rfl fun h' e hk he => ?_)
  obtain ⟨o, ho, hc⟩ := he
  refine wpAny_bind (wpAny_isInstance (T := "StopIteration") (b := true) ⟨o, ho, hc⟩ isSubtype_stop ?_)
  exact wpAny_pure (hQ _ hk)
theorem filter_iter {M it : Addr} {f : Value} {Q : Value → Shared → Prop} (hM : s.heap.get? M = some (filtO f it)) (h : Q (.ref M) s) : wpAny (model prog w) A (pyIter (.ref M)) Q E s := by
  have hT : s.TypeIs (.ref M) "filter" := ⟨_, hM, rfl⟩
  refine wpAny_pyIter_slot hT slot_filter_iter (wpAny_call_entry slot_filter_iter hT entry_filter_iter ?_ (args_filter_iter_1 _))
  exact wpAny_pure ⟨_, rfl, "filter", _, hT, slot_filter_next.lookup, h⟩
noncomputable def FiSt (M it l : Addr) (f : Value) (i : Nat) (h : Heap) : Prop := i = 0 ∧ h.get? M = some (filtO f it) ∧ h.IsListIter it l 0 ∧ h.IsList l #[]
theorem filter_walks {M it l : Addr} {f : Value} (hh : A.handled = none) : Walks prog w A M [M, it, l] [it] 0 (fun _ _ => True) (FiSt M it l f) where
  sub := fun b hb => by simp at hb ⊢; simp [hb]
  frame := fun i h h' st hk => ⟨st.1, hk M (by simp) _ st.2.1, st.2.2.1.at fun o e => hk it (by simp) o e, st.2.2.2.at fun o e => hk l (by simp) o e⟩
  item := fun i s Q E hi => absurd hi (Nat.not_lt_zero _)
  done := fun s Q E st hQ => filter_next_end hh st.2.1 st.2.2.1 st.2.2.2 fun h' hk => hQ h' s.toks fun b o hb e => hk b o (fun x => hb (by simp [x])) e
  self := fun i s Q E st hQ => filter_iter st.2.1 hQ
theorem r_list_filter {M it l : Addr} {f : Value} {n : Nat} {led : List (Addr × Obj)} {Q : Value → Shared → Prop} (hh : A.handled = none) (F : Fr h₀ L s.heap m) (N : News h₀ L s.heap led) (hM : (M, filtO f it) ∈ led) (hi : (it, litO l) ∈ led) (hl : (l, W.listOf #[] n) ∈ led)
    (hs : ∀ p ∈ news, p ∈ led) (ho : ∀ p ∈ news, p.1 ≠ it)
    (h : ∀ D c h' tk, Fr h₀ L h' m → News h₀ L h' ((D, W.listOf #[] c) :: news) → (∀ p ∈ news, p.1 < D) → Q (.ref D) { s with heap := h', toks := tk }) : wpAny (model prog w) A (call (.type "list") [.ref M]) Q E s := by
  have zi := N _ hi
  refine ss_call (T := "filter") (St := FiSt M it l f) (n := 0) (P := fun _ _ => True) (fp := [M, it, l]) (wr := [it]) ⟨fun s st => ⟨_, st.2.1, rfl⟩, by decide, by decide, no_len_filter, no_hint_filter, by simp⟩ (filter_walks (by exact hh)) ⟨rfl, (N _ hM).1, ⟨_, zi.1, rfl, rfl⟩, ⟨_, (N _ hl).1, rfl, n, rfl⟩⟩ ?_ (by decide) fun h' tk acc' c' hk hD hacc => ?_
  · intro b hb
    simp at hb
    rcases hb with rfl | rfl | rfl
    · exact Heap.lt_size (N _ hM).1
    · exact Heap.lt_size zi.1
    · exact Heap.lt_size (N _ hl).1
  · have e0 : acc' = #[] := Array.eq_empty_of_size_eq_zero hacc.1
    subst e0
    have hk1 : ∀ b o, b ∉ [it] → s.heap.get? b = some o → h'.get? b = some o := hk
    refine h _ c' h' tk (LCg.fr_but F hk1 (Ne.symm zi.2.1) zi.2.2) (fun p hp => ?_) fun p hp => Heap.lt_size (N _ (hs p hp)).1
    rcases List.mem_cons.mp hp with rfl | hp
    · refine ⟨hD, Nat.ne_of_gt F.ns.lt, ?_⟩
      cases hq : h₀.get? s.heap.objs.size with
      | none => rfl
      | some o' => exact absurd (Heap.lt_size (F.keep _ _ hq)) (Nat.lt_irrefl _)
    · exact ⟨hk1 _ _ (by simpa using ho p hp) (N _ (hs p hp)).1, (N _ (hs p hp)).2⟩
end
end Mine

end
section
set_option maxRecDepth 100000
set_option maxRecDepth 100000
namespace Mine
theorem slot_md_get : Slot "method_descriptor" "__get__" "method_descriptor.__get__" :=
  .of (owner := "method_descriptor") (n := "__get__") (by rw [typeLookup_type, builtinLookup_eq_fast]; kernel_rfl) (by decide +kernel) (by decide +kernel) (by decide +kernel)
    (by first | exact .inl (by decide +kernel) | exact .inr (by decide +kernel)) (by rw [isSubtype_type]; kernel_rfl)
theorem entry_md_get : entryFor table "method_descriptor.__get__" = some Builtin.«method_descriptor.__get__» := entryFor_of_tree (by kernel_rfl)
theorem args_md_get (a b c : Value) : argsOk "method_descriptor.__get__" ⟨[a, b, c], []⟩ := by unfold argsOk; kernel_rfl
theorem md_no_set : typeLookup (.type "method_descriptor") "__set__" = pure none := by rw [typeLookup_type, builtinLookup_eq_fast]; kernel_rfl
theorem md_no_delete : typeLookup (.type "method_descriptor") "__delete__" = pure none := by rw [typeLookup_type, builtinLookup_eq_fast]; kernel_rfl
theorem sub_set_set : isSubtype (.type "set") (.type "set") = pure true := by rw [isSubtype_type]; kernel_rfl
theorem lk_set_contains : typeLookup (.type "set") "__contains__" = pure (some (.builtin "set.__contains__")) := F.slot_set_contains.lookup
theorem owner_set_contains : ".".intercalate ("set.__contains__".cutAt '.').dropLast = "set" := by first | rfl | decide +kernel | (unfold String.cutAt String.splitOn; simp +decide [String.splitOnAux])
theorem sub_set_owner : isSubtype (.type "set") (.type (".".intercalate ("set.__contains__".cutAt '.').dropLast)) = pure true := by
  rw [owner_set_contains, isSubtype_type]; kernel_rfl
noncomputable abbrev bndO (id : String) (a : Addr) : Obj := { cls := .type "builtin_function_or_method", data := .fields #[.builtin id, .ref a] }
section
variable {prog : Program} {w : World} {A : Around} {E : Value → Shared → Prop} {h : Heap} {g : Array GenState} {d : Drawn} {t : Nat} {os : OsState} {a : Addr} {o : Obj}
theorem contains_get {R : Result → Shared → Prop} (hx : h.get? a = some o) (hc : o.cls = .type "set") (hq : R (.ok (.ret (.ref h.objs.size))) ⟨h.push (bndO "set.__contains__" a), g, d, t, os⟩) :
    codeAny (model prog w) A (.call (.builtin "method_descriptor.__get__") ⟨[.builtin "set.__contains__", .ref a, .type "set"], []⟩) R ⟨h, g, d, t, os⟩ := by
  have hT : (⟨h, g, d, t, os⟩ : Shared).TypeIs (.ref a) "set" := ⟨_, hx, hc⟩
  have hT5 : (⟨h, g, d, t, os⟩ : Shared).TypeIs (.builtin "set.__contains__") "method_descriptor" := F.type_set_contains
  have f8 := sub_set_owner
  refine codeAny_call_builtin slot_md_get.plain entry_md_get (slot_md_get.check _ _ _ _ _ _ _ _ hT5 (args_md_get _ _ _) ?_)
  repeat (any_goals (first | assumption | wp_step))
theorem contains_entry {tk : Tok} {Q : Fin → Shared → Prop} (hx : h.get? a = some o) (hc : SetO o) (hq : Q (.done (.ret (.ref h.objs.size))) ⟨h.push (bndO "set.__contains__" a), g, d, t, os⟩) :
    wpAny (model prog w) A (Builtin.«object.__getattribute__» ⟨[.ref a, .str "__contains__" tk], []⟩) Q E ⟨h, g, d, t, os⟩ := by
  obtain ⟨hc, hdi, es, ep, tt, hda⟩ := hc
  obtain ⟨cls, dict, data, slots⟩ := o
  dsimp only at hc hdi hda
  subst hc hdi hda
  have hT : (⟨h, g, d, t, os⟩ : Shared).TypeIs (.ref a) "set" := ⟨_, hx, rfl⟩
  have hT5 : (⟨h, g, d, t, os⟩ : Shared).TypeIs (.builtin "set.__contains__") "method_descriptor" := F.type_set_contains
  have f4 := lk_set_contains
  have f5 := F.type_set_contains
  have f6 := slot_md_get.lookup
  have f7 := md_no_set
  have f8 := md_no_delete
  repeat (any_goals (first | assumption | wp_step))
  refine contains_get hx rfl ?_
  repeat (any_goals (first | assumption | wp_step))
theorem contains_call {tk : Tok} {R : Result → Shared → Prop} (hx : h.get? a = some o) (hc : SetO o) (hq : R (.ok (.ret (.ref h.objs.size))) ⟨h.push (bndO "set.__contains__" a), g, d, t, os⟩) :
    codeAny (model prog w) A (.call (.builtin "set.__getattribute__") ⟨[.ref a, .str "__contains__" tk], []⟩) R ⟨h, g, d, t, os⟩ :=
  codeAny_call_builtin F.slot_set_getattribute.plain F.entry_set_ga (F.slot_set_getattribute.check _ _ _ _ _ _ _ _ (show (⟨h, g, d, t, os⟩ : Shared).TypeIs (.ref a) "set" from ⟨_, hx, hc.1⟩) (F.args_set_getattribute_2 _ _) (contains_entry hx hc hq))
theorem contains_by {tk : Tok} {ex : Bool} {Q : Value → Shared → Prop} (hx : h.get? a = some o) (hc : SetO o) (hq : Q (.ref h.objs.size) ⟨h.push (bndO "set.__contains__" a), g, d, t, os⟩) : wpAny (model prog w) A (getAttrBy (.ref a) (.str "__contains__" tk) true ex) Q E ⟨h, g, d, t, os⟩ := by
  have hT : (⟨h, g, d, t, os⟩ : Shared).TypeIs (.ref a) "set" := ⟨_, hx, hc.1⟩
  have f2 := F.slot_set_getattribute.lookup
  have f3 := F.slot_set_getattribute.bind (.ref a)
  repeat (any_goals (first | assumption | wp_step))
  rw [if_neg (by cases ex <;> decide)]
  repeat (any_goals (first | assumption | wp_step))
  refine contains_call hx hc ?_
  repeat (any_goals (first | assumption | wp_step))
theorem contains_attr {ex : Bool} {Q : Value → Shared → Prop} (hx : h.get? a = some o) (hc : SetO o) (hq : Q (.ref h.objs.size) ⟨h.push (bndO "set.__contains__" a), g, d, t + 1, os⟩) : wpAny (model prog w) A (getAttr (.ref a) "__contains__" ex) Q E ⟨h, g, d, t, os⟩ := by
  unfold getAttr
  repeat (any_goals (first | assumption | with_reducible apply contains_by hx hc | wp_step))
end
section
variable {prog : Program} {w : World} {A : Around} {E : Value → Shared → Prop} {s : Shared} {h₀ : Heap} {L : Addr} {m : Str → Option Value} {news : List (Addr × Obj)}
theorem r_contains {a : Addr} {o : Obj} {ex : Bool} {Q : Value → Shared → Prop} (F : Fr h₀ L s.heap m) (N : News h₀ L s.heap news) (hm : (a, o) ∈ news) (hc : SetO o)
    (h : ∀ B h', Fr h₀ L h' m → News h₀ L h' ((B, bndO "set.__contains__" a) :: news) → (∀ p ∈ news, p.1 < B) → Q (.ref B) { s with heap := h', toks := s.toks + 1 }) :
    wpAny (model prog w) A (getAttr (.ref a) (Str.ofString "__contains__") ex) Q E s := by
  obtain ⟨hp, g, d, tk, os⟩ := s
  exact contains_attr (N _ hm).1 hc (h _ _ (F.push _) (News.push F N _) fun p hp => Heap.lt_size (N p hp).1)
theorem r_ladd {l b : Addr} {n k : Nat} {vs ws : List Value} {Q : Value → Shared → Prop} (F : Fr h₀ L s.heap m) (N : News h₀ L s.heap news) (hl : (l, W.listOf (List.toArray vs) n) ∈ news) (hb : (b, W.listOf (List.toArray ws) k) ∈ news) (hsz : vs.length + ws.length ≤ 1000)
    (h : ∀ D h', Fr h₀ L h' m → News h₀ L h' ((D, W.listOf (List.toArray (vs ++ ws)) 0) :: news) → (∀ p ∈ news, p.1 < D) → Q (.ref D) { s with heap := h' }) : wpAny (model prog w) A (binaryOp .Add (.ref l) (.ref b)) Q E s :=
  add_lists F N (News.isList N hl) (News.isList N hb) (fun h' F' N' => h _ h' F' N' fun p hp => Heap.lt_size (N p hp).1) (by rw [sizeLine_eq]; omega)
end
end Mine

end
section
set_option maxRecDepth 100000
set_option maxRecDepth 100000
namespace Mine
theorem gives_gt_bi (a : Bool) (b : Int) (u : Tok) : Gives (Builtin.«int.__gt__» ⟨[.bool a, .int b u], []⟩) (.val (.bool (decide ((if a then (1 : Int) else 0) > b)))) := by
  cases a <;> exact .of_eq rfl
section
variable {prog : Program} {w : World} {A : Around} {E : Value → Shared → Prop} {s : Shared} {h₀ : Heap} {L : Addr} {m : Str → Option Value} {x C f : Addr} {ox : Obj} {K : Frag} {es : List DictEntry} {n : Nat} {v : Value} {name : Str}
theorem gt_bool_int {a : Bool} {b : Int} {u : Tok} {Q : Value → Shared → Prop} (h : Q (.bool (decide ((if a then (1 : Int) else 0) > b))) s) : wpAny (model prog w) A (compareOp .Gt (.bool a) (.int b u)) Q E s := by
  show wpAny _ A (richCompare .Gt _ _) Q E s
  exact wpAny_richCompare_left rfl (typeIs_int s b u) (by decide) F.sub_int_bool F.slot_bool_gt
    (call_gives F.slot_bool_gt rfl F.entry_int_gt (F.args_int_gt_2 _ _) (gives_gt_bi a b u) ⟨nofun, h⟩)
theorem get_ownF {expr : Bool} {g : Value} {Q : Value → Shared → Prop} (F : Fr h₀ L s.heap m) (X₀ : K.In h₀) (I : InstAt s.heap x ox C (some (dictOf es n))) (hg : plainGet K C name = true) (hh : hasDictIn K C = true)
    (ha : findIn K (.ref C) name = some (some (.ref f))) (hgf : specialIn K (.ref f) "__get__" = some (some g)) (ht : takesIn K (.ref f) = some false) (hl : getL name es = some (some v)) (hv : handedIn v = true) (h : Q v { s with toks := s.toks + 1 }) :
    wpAny (model prog w) A (getAttr (.ref x) name expr) Q E s := by
  refine get_value (X₀.keeps F.keep) I (plainGet_of hg).1 ?_ hv h
  obtain ⟨cd, hc', hd⟩ := any_some hh
  unfold findObj
  have ho : PySem.W.ownOf cd (some (dictOf es n)) name = some (some v) := by unfold PySem.W.ownOf; rw [if_pos hd]; show lookIn name (dictOf es n) = _; rw [lookIn_dict, hl]
  rw [hc', Option.bind_some, ha, Option.bind_some]
  simp only [hgf, ht, Option.bind_some, ho]
end
noncomputable def MKp (h₀ : Heap) (L : Addr) (m : Str → Option Value) (led : List (Addr × Obj)) (P : Value → Prop) (s : Shared) (v : Value) (s' : Shared) : Prop := ∃ h' tk', P v ∧ s' = { s with heap := h', toks := tk' } ∧ Fr h₀ L h' m ∧ News h₀ L h' led
theorem MKp.mk {h₀ : Heap} {L : Addr} {m : Str → Option Value} {led : List (Addr × Obj)} {P : Value → Prop} {s : Shared} {v : Value} {h' : Heap} {tk' : Nat} (F : Fr h₀ L h' m) (N : News h₀ L h' led) (p : P v) : MKp h₀ L m led P s v { s with heap := h', toks := tk' } := ⟨h', tk', p, rfl, F, N⟩
/-- a part of the walk that leaves the frame and the ledger as they are -/
theorem mono_k {prog : Program} {w : World} {A : Around} {E : Value → Shared → Prop} {s : Shared} {h₀ : Heap} {L : Addr} {m : Str → Option Value} {led : List (Addr × Obj)} {t : Sem Value} {Q : Value → Shared → Prop} (P : Value → Prop) (_F : Fr h₀ L s.heap m) (_N : News h₀ L s.heap led)
    (h1 : wpAny (model prog w) A t (MKp h₀ L m led P s) E s) (h2 : ∀ v h' tk', P v → Fr h₀ L h' m → News h₀ L h' led → Q v { s with heap := h', toks := tk' }) : wpAny (model prog w) A t Q E s :=
  wpAny_mono h1 (fun v s' hp => by obtain ⟨h', tk', p, rfl, F, N⟩ := hp; exact h2 v h' tk' p F N) fun _ _ e => e
/-- what stands ahead of the first slash -/
noncomputable def headL (name : Str) : Str := if (Builtin.Str.occurrences name (Str.ofString "/") 0 name.length 1).isEmpty then name else Txt.slice name none (some (Txt.find name (Str.ofString "/")))
end Mine

end
section
set_option maxRecDepth 100000
set_option maxRecDepth 100000
namespace Mine
open PyProof.Rows.LCg
theorem CompEnd.mono {h₀ : Heap} {L : Addr} {m : Str → Option Value} {s₁ : Shared} {I : Addr} {oI : Obj} {C : Addr} {oC : Obj} {D : Addr} {oD : Obj} {S : List (Addr × Obj) → Prop} {r₁ r₂ : Value → List (Addr × Obj) → Prop} {y : Value} {s₂ : Shared}
    (f : ∀ y n, r₁ y n → r₂ y n) (h : CompEnd h₀ L m s₁ I oI C oC D oD S r₁ y s₂) : CompEnd h₀ L m s₁ I oI C oC D oD S r₂ y s₂ :=
  let ⟨h', tk, n, e, F, N, o, hS, r⟩ := h; ⟨h', tk, n, e, F, N, o, hS, f _ _ r⟩
section
variable {prog : Program} {w : World} {A : Around} {s : Shared} {h₀ : Heap} {L : Addr} {m : Str → Option Value} {env : Env}
/-- a comprehension with a test, by what its turns keep -/
theorem compT_inv {ct elt : Expr} {x : Str} {scope : Scope} {cl : List (Str × Addr)} {S : List (Addr × Obj) → Prop} {P : Nat → Value → Prop} {Fin : List Value → List (Addr × Obj) → Prop} (Inv : Nat → List Value → List (Addr × Obj) → Prop) (n : Nat)
    (turn : ∀ i ys led, i < n → Inv i ys led → ∀ v I oI C oC D m₂ h tk (E' : Value → Shared → Prop), P i v → NsObj oC m₂ → m₂ x = some v → Fr h₀ L h m → News h₀ L h ((I, oI) :: (C, oC) :: (D, lst ys) :: led) → Off3 I C D led → ((@Ne Nat I C) ∧ (@Ne Nat I D) ∧ (@Ne Nat C D)) →
      wpAny (model prog w) A (isTrue ct (compEnvC scope cl C env) (eval ct (compEnvC scope cl C env))) (fun ok s' => if ok = true then
        wpAny (model prog w) A (eval elt (compEnvC scope cl C env)) (CompEnd h₀ L m { s with heap := h, toks := tk } I oI C oC D (lst ys) S (fun y news' => Inv (i + 1) (ys ++ [y]) news')) E' s'
        else CompEnd h₀ L m { s with heap := h, toks := tk } I oI C oC D (lst ys) S (fun _ news' => Inv (i + 1) ys news') Value.none s') E' { s with heap := h, toks := tk })
    (fin : ∀ ys led, Inv n ys led → Fin ys led) : ∀ k i ys led, i + k = n → Inv i ys led → LCt.CompRestT prog w A h₀ L m env ct elt x scope cl s S P Fin k i ys led := by
  intro k
  induction k with
  | zero =>
    intro i ys led hi hI
    have : i = n := by omega
    subst this
    exact fin ys led hI
  | succ k ih =>
    intro i ys led hi hI v I oI C oC D m₂ h tk E' hP hC hx F N o3 ne
    refine wpAny_mono (turn i ys led (by omega) hI v I oI C oC D m₂ h tk E' hP hC hx F N o3 ne) (fun ok s' hp => ?_) fun _ _ e => e
    cases ok with
    | true =>
      simp only [if_true] at hp ⊢
      exact wpAny_mono hp (fun y s'' hq => CompEnd.mono (fun y n r => ih (i + 1) _ _ (by omega) r) hq) fun _ _ e => e
    | false =>
      simp only [Bool.false_eq_true, if_false] at hp ⊢
      exact CompEnd.mono (fun y n r => ih (i + 1) _ _ (by omega) r) hp
/-- a comprehension, by what its turns keep -/
theorem comp_inv {elt : Expr} {x : Str} {scope : Scope} {cl : List (Str × Addr)} {S : List (Addr × Obj) → Prop} {P : Nat → Value → Prop} {Fin : List Value → List (Addr × Obj) → Prop} (Inv : Nat → List Value → List (Addr × Obj) → Prop) (n : Nat)
    (turn : ∀ i ys led, i < n → Inv i ys led → ∀ v I oI C oC D m₂ h tk (E' : Value → Shared → Prop), P i v → NsObj oC m₂ → m₂ x = some v → Fr h₀ L h m → News h₀ L h ((I, oI) :: (C, oC) :: (D, lst ys) :: led) → Off3 I C D led → ((@Ne Nat I C) ∧ (@Ne Nat I D) ∧ (@Ne Nat C D)) →
      wpAny (model prog w) A (eval elt (compEnvC scope cl C env)) (CompEnd h₀ L m { s with heap := h, toks := tk } I oI C oC D (lst ys) S (fun y news' => Inv (i + 1) (ys ++ [y]) news')) E' { s with heap := h, toks := tk })
    (fin : ∀ ys led, Inv n ys led → Fin ys led) : ∀ k i ys led, i + k = n → Inv i ys led → CompRest prog w A h₀ L m env elt x scope cl s S P Fin k i ys led := by
  intro k
  induction k with
  | zero =>
    intro i ys led hi hI
    have : i = n := by omega
    subst this
    exact fin ys led hI
  | succ k ih =>
    intro i ys led hi hI v I oI C oC D m₂ h tk E' hP hC hx F N o3 ne
    exact wpAny_mono (turn i ys led (by omega) hI v I oI C oC D m₂ h tk E' hP hC hx F N o3 ne) (fun y s'' hq => CompEnd.mono (fun y n r => ih (i + 1) _ _ (by omega) r) hq) fun _ _ e => e
end
theorem ints_dat {news : List (Addr × Obj)} : ∀ {vs : List Value} {ys : List Int}, IntsAre vs ys → DatAll news vs (ys.map Dat.int)
  | _, _, .nil => .nil
  | _, _, .cons y t h => .cons (.int y t) (ints_dat h)
theorem r_ne_nilI {prog : Program} {w : World} {A : Around} {E : Value → Shared → Prop} {s : Shared} {h₀ : Heap} {L a b : Addr} {news : List (Addr × Obj)} {vs : List Value} {ys : List Int} {n k : Nat} {Q : Value → Shared → Prop} (N : News h₀ L s.heap news)
    (ma : (a, listOf vs.toArray n) ∈ news) (hs : IntsAre vs ys) (mb : (b, listOf #[] k) ∈ news) (hu : A.units + 64 < cLine) (h : Q (.bool (!decide (ys = []))) s) : wpAny (model prog w) A (compareOp .NotEq (.ref a) (.ref b)) Q E s := by
  refine kqd_ne (es := []) (ys := []) N ma rfl rfl (ints_dat (news := news) hs) (fun _ h => h) mb rfl rfl (DatAll.nil (news := news)) (fun _ h => h) ?_ (List.forall_mem_nil _) hu ?_
  · intro d hd
    obtain ⟨y, hy, rfl⟩ := List.mem_map.mp hd
    rfl
  · have e : decide (ys.map Dat.int = []) = decide (ys = []) := by
      cases ys <;> simp
    rw [e]; exact h
theorem headL_len (name : Str) : (headL name).length ≤ name.length := by
  unfold headL
  split
  · exact Nat.le_refl _
  · exact Txt.slice_le ..
theorem range_small {n : Nat} (h : n ≤ 1000) : Builtin.Range.small 0 (n : Nat) 1 = true := by
  have fits : ∀ i : Int, -2000 ≤ i → i ≤ 2000 → Builtin.Range.rangeFitsLong i = true := by
    intro i h1 h2
    unfold Builtin.Range.rangeFitsLong
    simp only [Bool.and_eq_true, decide_eq_true_eq]
    omega
  have e : Builtin.Range.rangeSize 0 (n : Int) 1 = n := by
    unfold Builtin.Range.rangeSize
    rw [if_pos (by decide)]
    split <;> omega
  unfold Builtin.Range.small
  rw [e, fits 0 (by omega) (by omega), fits n (by omega) (by omega), fits 1 (by omega) (by omega), if_pos (by decide), fits _ (by omega) (by omega)]
  simp
theorem range_size {n : Nat} : Builtin.Range.rangeSize 0 (n : Int) 1 = ((n : Nat) : Int) := by
  unfold Builtin.Range.rangeSize
  rw [if_pos (by decide)]
  split <;> omega
/-- a rule's agent lies at a place, great and small letters alike -/
noncomputable def mAt (ag hd : Str) (j : Nat) : Bool := Txt.lower (Txt.slice hd (some (j : Int)) (some ((j : Int) + (ag.length : Nat)))) == Txt.lower ag
noncomputable def mAny (ag hd : Str) : Bool := (List.range hd.length).any (mAt ag hd)
/-- what is allowed by the rules that were met -/
noncomputable def metF (name : Str) (rs : List (Str × Bool)) : List Bool := (rs.filter fun r => mAny r.1 (headL name)).map (·.2)
noncomputable def alwF (name : Str) (rs : List (Str × Bool)) : Bool := decide (metF name rs = []) || decide (true ∈ metF name rs)
end Mine

end
section
set_option maxRecDepth 100000
set_option maxRecDepth 100000
namespace Mine
theorem news_sub {h₀ h : Heap} {L : Addr} {l₁ l₂ : List (Addr × Obj)} (N : News h₀ L h l₁) (hs : ∀ p ∈ l₂, p ∈ l₁) : News h₀ L h l₂ := fun p hp => N p (hs p hp)
theorem own1 {I : Addr} {oI : Obj} {nx : List (Addr × Obj)} (h : ∀ p ∈ nx, p.1 ≠ I) : OwnOff [(I, oI)] (nx.map (·.1)) := by
  intro p hp b hb
  obtain ⟨q, hq, rfl⟩ := List.mem_map.mp hb
  rw [List.mem_singleton.mp hp]
  exact Ne.symm (h q hq)
theorem mAny_no {ag hd : Str} (h : ∀ j, j < hd.length → mAt ag hd j = false) : mAny ag hd = false := by
  unfold mAny
  rw [List.any_eq_false]
  intro j hj
  rw [h j (List.mem_range.mp hj)]
  exact Bool.false_ne_true
theorem mAny_yes {ag hd : Str} (h : ¬ ∀ j, j < hd.length → mAt ag hd j = false) : mAny ag hd = true := by
  cases e : mAny ag hd with
  | true => rfl
  | false =>
    refine absurd (fun j hj => ?_) h
    unfold mAny at e
    rw [List.any_eq_false] at e
    exact Bool.eq_false_iff.mpr (e j (List.mem_range.mpr hj))
theorem metF_snoc {name : Str} {rs : List (Str × Bool)} {i : Nat} {r : Str × Bool} (h : rs[i]? = some r) : metF name (rs.take (i + 1)) = metF name (rs.take i) ++ (if mAny r.1 (headL name) = true then [r.2] else []) := by
  unfold metF
  rw [take_snoc h, List.filter_append, List.map_append]
  congr 1
  by_cases e : mAny r.1 (headL name) = true
  · rw [if_pos e]; simp [e]
  · rw [if_neg e]; simp [Bool.eq_false_iff.mpr e]
theorem metF_no {name : Str} {rs : List (Str × Bool)} {i : Nat} {r : Str × Bool} (h : rs[i]? = some r) (hn : ∀ j, j < (headL name).length → mAt r.1 (headL name) j = false) : metF name (rs.take (i + 1)) = metF name (rs.take i) := by
  rw [metF_snoc h, mAny_no hn]; simp
theorem metF_yes {name : Str} {rs : List (Str × Bool)} {i : Nat} {r : Str × Bool} (h : rs[i]? = some r) (hn : ¬ ∀ j, j < (headL name).length → mAt r.1 (headL name) j = false) : metF name (rs.take (i + 1)) = metF name (rs.take i) ++ [r.2] := by
  rw [metF_snoc h, mAny_yes hn]; rfl
section
variable {h₀ h : Heap} {L : Addr} {news : List (Addr × Obj)}
theorem bools_reads : ∀ {vs : List Value} {bs : List Bool}, LSm.BoolsAre vs bs → ∃ as, ReadsAll h vs (bs.map PyData.bool) as
  | _, _, .nil => ⟨_, ReadsAll.nil⟩
  | _, _, .cons b r => let ⟨_, q⟩ := bools_reads r; ⟨_, ReadsAll.cons (Reads.bool b) q⟩
theorem bools_lay : ∀ (bs : List Bool), PyData.canLayAll0 (bs.map PyData.bool) = true ∧ PyData.depthAll (bs.map PyData.bool) ≤ 8
  | [] => by simp [PyData.canLayAll0, PyData.depthAll]
  | b :: bs => by
    have h := bools_lay bs
    have h2 := h.2
    simp only [List.map_cons, PyData.canLayAll0, PyData.depthAll, PyData.canLay0, PyData.depth, h.1, Bool.and_self, true_and]
    omega
theorem bools_eqv : ∀ (as bs : List Bool), PyData.eqvAll (as.map PyData.bool) (bs.map PyData.bool) = decide (as = bs)
  | [], [] => by simp [PyData.eqvAll]
  | [], b :: bs => by simp [PyData.eqvAll]
  | a :: as, [] => by simp [PyData.eqvAll]
  | a :: as, b :: bs => by
    simp only [List.map_cons, PyData.eqvAll, PyData.eqv, bools_eqv as bs]
    by_cases h1 : a = b <;> by_cases h2 : as = bs <;> simp [h1, h2]
theorem bools_any (x : Bool) : ∀ (bs : List Bool), ((bs.map PyData.bool).any fun y => PyData.eqv y (.bool x)) = decide (x ∈ bs)
  | [] => by simp
  | b :: bs => by
    simp only [List.map_cons, List.any_cons, PyData.eqv, bools_any x bs]
    by_cases h1 : x = b
    · subst h1; simp
    · have : (b == x) = false := by simpa using fun e => h1 e.symm
      rw [this]; simp [h1]
noncomputable def rulD (r : Str × Bool) : PyData := .tuple [.str r.1, .bool r.2]
theorem rules_reads (N : News h₀ L h news) : ∀ {vs : List Value} {rs : List (Str × Bool)}, AllR (RuleIs news) vs rs → ∃ as, ReadsAll h vs (rs.map rulD) as
  | _, _, .nil => ⟨_, ReadsAll.nil⟩
  | _, _, .cons hr r => by
    obtain ⟨as, q⟩ := rules_reads N r
    obtain ⟨T, t, rfl, hm⟩ := hr
    exact ⟨_, ReadsAll.cons (reads_tuple_at (N.get hm) rfl rfl (by simpa using ReadsAll.cons (Reads.str _ t) (ReadsAll.cons (Reads.bool _) ReadsAll.nil))) q⟩
theorem rules_lay : ∀ (rs : List (Str × Bool)), (∀ r ∈ rs, PyData.strOk r.1 = true) → PyData.canLayAll0 (rs.map rulD) = true ∧ PyData.depthAll (rs.map rulD) ≤ 8
  | [], _ => by simp [PyData.canLayAll0, PyData.depthAll]
  | r :: rs, hk => by
    have h := rules_lay rs fun x hx => hk x (List.mem_cons_of_mem _ hx)
    have h2 := h.2
    have h3 := hk r List.mem_cons_self
    simp only [rulD, List.map_cons, PyData.canLayAll0, PyData.depthAll, PyData.canLay0, PyData.depth, h.1, h3, Bool.and_self, true_and]
    omega
theorem rules_eqv : ∀ (rs : List (Str × Bool)), PyData.eqvAll (rs.map rulD) (rs.map rulD) = true
  | [] => by simp [PyData.eqvAll]
  | r :: rs => by
    simp [PyData.eqvAll, PyData.eqv, rules_eqv rs, rulD]
end
section
variable {prog : Program} {w : World} {A : Around} {E : Value → Shared → Prop} {s : Shared} {h₀ : Heap} {L a b : Addr} {news : List (Addr × Obj)} {vs us : List Value} {ps qs : List PyData} {as bs : List Addr} {n k : Nat} {Q : Value → Shared → Prop}
theorem shaped_of (h : PyData.canLayAll0 ps = true ∧ PyData.depthAll ps ≤ 8) : SeqAt.shaped (.list ps) = true := by
  unfold SeqAt.shaped
  have h2 := h.2
  simp only [PyData.canLay0, PyData.depth, h.1, Bool.true_and]
  exact decide_eq_true (Nat.le_trans (show _ ≤ 10 by omega) (by decide))
theorem r_eqD (N : News h₀ L s.heap news) (ma : (a, listOf vs.toArray n) ∈ news) (mb : (b, listOf us.toArray k) ∈ news) (ra : ReadsAll s.heap vs ps as) (rb : ReadsAll s.heap us qs bs) (la : PyData.canLayAll0 ps = true ∧ PyData.depthAll ps ≤ 8) (lb : PyData.canLayAll0 qs = true ∧ PyData.depthAll qs ≤ 8)
    (hu : A.units + 64 < cLine) (h : Q (.bool (PyData.eqvAll ps qs)) s) : wpAny (model prog w) A (compareOp .Eq (.ref a) (.ref b)) Q E s :=
  eq_dataH (reads_list_at (N.get ma) rfl rfl (by simpa using ra)) (reads_list_at (N.get mb) rfl rfl (by simpa using rb)) (shaped_of la) (shaped_of lb) hu (by simp only [PyData.eqv]; exact h)
theorem r_neD (N : News h₀ L s.heap news) (ma : (a, listOf vs.toArray n) ∈ news) (mb : (b, listOf us.toArray k) ∈ news) (ra : ReadsAll s.heap vs ps as) (rb : ReadsAll s.heap us qs bs) (la : PyData.canLayAll0 ps = true ∧ PyData.depthAll ps ≤ 8) (lb : PyData.canLayAll0 qs = true ∧ PyData.depthAll qs ≤ 8)
    (hu : A.units + 64 < cLine) (h : Q (.bool (!PyData.eqvAll ps qs)) s) : wpAny (model prog w) A (compareOp .NotEq (.ref a) (.ref b)) Q E s :=
  ne_dataH (reads_list_at (N.get ma) rfl rfl (by simpa using ra)) (reads_list_at (N.get mb) rfl rfl (by simpa using rb)) (shaped_of la) (shaped_of lb) hu (by simp only [PyData.eqv]; exact h)
theorem r_eqB {xs ys : List Bool} (N : News h₀ L s.heap news) (ma : (a, listOf vs.toArray n) ∈ news) (ha : LSm.BoolsAre vs xs) (mb : (b, listOf us.toArray k) ∈ news) (hb : LSm.BoolsAre us ys) (hu : A.units + 64 < cLine) (h : Q (.bool (decide (xs = ys))) s) : wpAny (model prog w) A (compareOp .Eq (.ref a) (.ref b)) Q E s := by
  obtain ⟨_, ra⟩ := bools_reads (h := s.heap) ha
  obtain ⟨_, rb⟩ := bools_reads (h := s.heap) hb
  exact r_eqD N ma mb ra rb (bools_lay _) (bools_lay _) hu (by rw [bools_eqv]; exact h)
theorem r_inB {x : Bool} {ys : List Bool} (N : News h₀ L s.heap news) (ma : (a, listOf vs.toArray n) ∈ news) (hs : LSm.BoolsAre vs ys) (hu : A.units + 64 < cLine) (h : Q (.bool (decide (x ∈ ys))) s) : wpAny (model prog w) A (compareOp .In (.bool x) (.ref a)) Q E s := by
  obtain ⟨as, ra⟩ := bools_reads (h := s.heap) hs
  refine SeqAt.in_list_reads (reads_list_at (N.get ma) rfl rfl (by simpa using ra)) (Reads.bool x) (bools_lay _).1 rfl ?_ (by rw [bools_any]; exact h)
  have := Nat.min_le_left (PyData.depthAll (ys.map PyData.bool)) (PyData.bool x).depth
  have := (bools_lay ys).2
  omega
theorem r_neR {rs : List (Str × Bool)} (N : News h₀ L s.heap news) (ma : (a, listOf vs.toArray n) ∈ news) (ha : AllR (RuleIs news) vs rs) (mb : (b, listOf us.toArray k) ∈ news) (hb : AllR (RuleIs news) us rs) (hk : ∀ r ∈ rs, PyData.strOk r.1 = true) (hu : A.units + 64 < cLine) (h : Q (.bool false) s) : wpAny (model prog w) A (compareOp .NotEq (.ref a) (.ref b)) Q E s := by
  obtain ⟨_, ra⟩ := rules_reads N ha
  obtain ⟨_, rb⟩ := rules_reads N hb
  exact r_neD N ma mb ra rb (rules_lay _ hk) (rules_lay _ hk) hu (by rw [rules_eqv]; exact h)
end
end Mine

end
section
set_option maxRecDepth 100000
set_option maxRecDepth 100000
namespace Mine
noncomputable abbrev tup1 (it : Addr) : Obj := { cls := .type "tuple", data := .seq #[.ref it] }
noncomputable abbrev mapO (f : Value) (T : Addr) : Obj := { cls := .type "map", data := .fields #[.ref T, f] }
theorem meets_map_new (f : Value) (l : Addr) (xs : Array Value) :
    Meets (Builtin.«map.__new__» ⟨[.type "map", f, .ref l], []⟩) (fun _ R s => s.heap.IsList l xs ∧
      R (.ok (.ret (.ref ((s.heap.push (litO l)).push (tup1 s.heap.objs.size)).objs.size))) { s with heap := ((s.heap.push (litO l)).push (tup1 s.heap.objs.size)).push (mapO f (s.heap.push (litO l)).objs.size) }) :=
  .of_wp fun prog w A R s h => by
    obtain ⟨hp, g, d, tk, os⟩ := s; obtain ⟨hl, h⟩ := h
    have hsub := sub_map
    have hL1 : Heap.IsList (Shared.heap ⟨hp, g, d, tk, os⟩) l xs := hl
    wp_walk using wpAny_pyIter_list hL1
    exact ⟨_, rfl, h⟩
section
variable {prog : Program} {w : World} {A : Around} {E : Value → Shared → Prop} {s : Shared} {h₀ : Heap} {L : Addr} {m : Str → Option Value} {news : List (Addr × Obj)}
theorem call_map {f : Value} {l : Addr} {xs : Array Value} {Q : Value → Shared → Prop} (hl : s.heap.IsList l xs)
    (h : Q (.ref ((s.heap.push (litO l)).push (tup1 s.heap.objs.size)).objs.size) { s with heap := ((s.heap.push (litO l)).push (tup1 s.heap.objs.size)).push (mapO f (s.heap.push (litO l)).objs.size) }) :
    wpAny (model prog w) A (call (.type "map") [f, .ref l]) Q E s := by
  refine callType_new called_map (by decide) (typeCall_map_2 _ _) (newCall_map_2 _ _) (fun obj => args_obj_init_3 obj _ _) entry_map_new
    (meets_map_new f l xs) ⟨hl, ?_⟩
  exact ⟨⟨_, Heap.get?_push_size _ rfl, rfl⟩, h⟩
theorem map_next_item {M T it l : Addr} {f x : Value} {i : Nat} {items : Array Value} {Q : Option Value → Shared → Prop} (hM : s.heap.get? M = some (mapO f T)) (hTu : s.heap.get? T = some (tup1 it)) (hi : s.heap.IsListIter it l i) (hl : s.heap.IsList l items) (hx : items[i]? = some x)
    (hMi : M ≠ it) (hc : ∀ h' (E' : Value → Shared → Prop), h'.IsListIter it l (i + 1) → Heap.SameBut it s.heap h' → wpAny (model prog w) A.in1 (call f [x]) (fun v s' => Q (some v) s') E' { s with heap := h' }) :
    wpAny (model prog w) A (pyNext (.ref M)) Q E s := by
  have hT : s.TypeIs (.ref M) "map" := ⟨_, hM, rfl⟩
  unfold pyNext
  refine wpAny_bind (wpAny_attempt (wpAny_callSpecial?_slot (name := Str.ofString "__next__") hT slot_map_next
    (wpAny_call_entry slot_map_next hT entry_map_next ?_ (args_map_next_1 _))))
  show wpAny _ _ (field (.ref M) 0 >>= _) _ _ _
  refine wpAny_bind (wpAny_field hM rfl (x := .ref T) rfl ?_)
  refine wpAny_bind (wpAny_seqItems hTu rfl ?_)
  dsimp only
  refine wpAny_bind ?_
  rw [← Array.forIn_toList]
  simp only [List.forIn_cons, List.forIn_nil]
  refine wpAny_bind (wpAny_bind (wpAny_holding (wpAny_nextOf_list_item hi hl hx fun h' hi' hs' => wpAny_pure (wpAny_pure ?_))))
  have hM' : h'.get? M = some (mapO f T) := hs'.extBut _ _ hMi hM
  refine wpAny_bind (wpAny_field (s := { s with heap := h' }) hM' rfl (x := f) rfl ?_)
  refine wpAny_bind (wpAny_holding (wpAny_mono (hc h' _ hi' hs') (fun v s' hq => ?_) fun _ _ e => e))
  refine wpAny_bind (wpAny_letGo (wpAny_pure ?_))
  exact ⟨v, rfl, wpAny_pure hq⟩
theorem map_next_end {M T it l : Addr} {f : Value} {i : Nat} {items : Array Value} {Q : Option Value → Shared → Prop} (hh : A.handled = none) (hM : s.heap.get? M = some (mapO f T)) (hTu : s.heap.get? T = some (tup1 it)) (hi : s.heap.IsListIter it l i) (hl : s.heap.IsList l items) (hx : items[i]? = none)
    (hQ : ∀ h', Heap.ExtBut it s.heap h' → Q none { s with heap := h' }) : wpAny (model prog w) A (pyNext (.ref M)) Q E s := by
  have hT : s.TypeIs (.ref M) "map" := ⟨_, hM, rfl⟩
  unfold pyNext
  refine wpAny_bind (wpAny_attempt (wpAny_callSpecial?_slot (name := Str.ofString "__next__") hT slot_map_next
    (wpAny_call_entry slot_map_next hT entry_map_next ?_ (args_map_next_1 _))))
  show wpAny _ _ (field (.ref M) 0 >>= _) _ _ _
  refine wpAny_bind (wpAny_field hM rfl (x := .ref T) rfl ?_)
  refine wpAny_bind (wpAny_seqItems hTu rfl ?_)
  dsimp only
  refine wpAny_bind ?_
  rw [← Array.forIn_toList]
  simp only [List.forIn_cons, List.forIn_nil]
  refine wpAny_bind (wpAny_bind (wpAny_holding (wpAny_nextOf_list_end (by exact hh) hi hl hx fun h' e hk he => ?_)))
  obtain ⟨o, ho, hc⟩ := he
  refine wpAny_bind (wpAny_isInstance (T := "StopIteration") (b := true) ⟨o, ho, hc⟩ isSubtype_stop ?_)
  exact wpAny_pure (hQ _ hk)
theorem map_iter {M T : Addr} {f : Value} {Q : Value → Shared → Prop} (hM : s.heap.get? M = some (mapO f T)) (h : Q (.ref M) s) : wpAny (model prog w) A (pyIter (.ref M)) Q E s := by
  have hT : s.TypeIs (.ref M) "map" := ⟨_, hM, rfl⟩
  refine wpAny_pyIter_slot hT slot_map_iter (wpAny_call_entry slot_map_iter hT entry_map_iter ?_ (args_map_iter_1 _))
  exact wpAny_pure ⟨_, rfl, "map", _, hT, slot_map_next.lookup, h⟩
end
end Mine

end
section
set_option maxRecDepth 100000
set_option maxRecDepth 100000
namespace Mine
/-- a call that leaves every object as it is -/
noncomputable def DoesK (k : Nat) (w : World) (mean : ExcName → Option Value) (mg mb : Str → Option Value) (t : Sem Value) (P : Value → Prop) : Prop :=
  ∀ (dp un : Nat) (gd : Option (List Code)) (cn : Str) (cs : Scope) (a : Addr) (ccd : Value) (cl : List (Str × Addr)) (outer : List Env) (A₀ : Around) (base h₀ : Heap) (L : Addr) (m : Str → Option Value) (s : Shared) (Q E : Value → Shared → Prop),
    Below A₀ base outer h₀ → Fr h₀ L s.heap m → (Mine.heapK w.params).In h₀ → Top Mine.view LO mean mg mb h₀ → cs.kind = .function → dp + k < recursionLimit → un + 8 * k < cLine →
    (∀ v h' tk', (∀ b o, s.heap.get? b = some o → h'.get? b = some o) → P v → Q v { s with heap := h', toks := tk' }) →
    wpAny (model PySem.Challenge.rw_in0303_01.row.prog w) (ktrTop dp un gd cn cs L a ccd cl outer) t Q E s
noncomputable abbrev MapSt (h₀ : Heap) (L M T it l : Addr) (m : Str → Option Value) (f : Value) (vs : List Value) (i : Nat) (h : Heap) : Prop :=
  h.get? M = some (mapO f T) ∧ h.get? T = some (tup1 it) ∧ h.IsListIter it l i ∧ h.IsList l vs.toArray ∧ Fr h₀ L h m
section
variable {k : Nat} {w : World} {mean : ExcName → Option Value} {mg mb : Str → Option Value} {dp un : Nat} {gd : Option (List Code)} {cn : Str} {cs : Scope} {a : Addr} {ccd : Value} {cl : List (Str × Addr)} {outer : List Env} {A₀ : Around} {base h₀ : Heap} {L M T it l : Addr} {m : Str → Option Value}
  {f : Value} {vs : List Value} {P : Nat → Value → Prop} {s : Shared} {Q E : Value → Shared → Prop}
theorem map_walks {n : Nat} (B : Below A₀ base outer h₀) (X : (Mine.heapK w.params).In h₀) (TP : Top Mine.view LO mean mg mb h₀) (hk : cs.kind = .function) (hd : dp + k < recursionLimit) (hu : un + 1 + 8 * k < cLine)
    (hf : ∀ i x, vs[i]? = some x → DoesK k w mean mg mb (call f [x]) (P i)) (hM : M < n) (hTn : T < n) (hit : it < n) (hl : l < n) (hL : L < n) (hab : h₀.objs.size ≤ L) (hMi : M ≠ it) (hTi : T ≠ it) (hli : l ≠ it) (hLi : L ≠ it) (h0 : h₀.get? it = none) :
    Walks PySem.Challenge.rw_in0303_01.row.prog w (ktrTop dp un gd cn cs L a ccd cl outer) M (List.range n) [it] vs.length P (MapSt h₀ L M T it l m f vs) where
  sub := fun b hb => by rw [List.mem_singleton.mp hb]; exact List.mem_range.mpr hit
  frame := fun i h h' st hk' => by
    have kk : ∀ b, b < n → ∀ o, h.get? b = some o → h'.get? b = some o := fun b hb => hk' b (List.mem_range.mpr hb)
    obtain ⟨s1, s2, s3, s4, F⟩ := st
    exact ⟨kk _ hM _ s1, kk _ hTn _ s2, s3.at fun o e => kk _ hit o e, s4.at fun o e => kk _ hl o e, F.ns.at' fun o e => kk L hL o e, fun b o e => kk b (Nat.lt_of_lt_of_le (Heap.lt_size e) (Nat.le_trans hab (Nat.le_of_lt hL))) o (F.keep b o e), F.above⟩
  item := fun i s Q E hi st hQ => by
    obtain ⟨s1, s2, s3, s4, F⟩ := st
    obtain ⟨x, hx⟩ : ∃ x, vs[i]? = some x := ⟨_, List.getElem?_eq_getElem hi⟩
    refine map_next_item s1 s2 s3 s4 (by simpa using hx) hMi fun h1 E' hi1 hs1 => ?_
    have F1 : Fr h₀ L h1 m := LCg.fr_but F (fun b o hb e => hs1.extBut b o (by simpa using hb) e) hLi h0
    refine hf i x hx dp (un + 1) gd cn cs a ccd cl outer A₀ base h₀ L m { s with heap := h1 } _ E' B F1 X TP hk hd hu fun v h' tk' hkeep hp => ?_
    have ke : ∀ b o, b ≠ it → s.heap.get? b = some o → h'.get? b = some o := fun b o hb e => hkeep b o (hs1.extBut b o hb e)
    exact hQ v h' tk' hp ⟨ke _ _ hMi s1, ke _ _ hTi s2, hi1.at fun o e => hkeep _ o e, s4.at fun o e => ke _ o hli e, F1.keptAll hkeep⟩ fun b o hb e => ke b o (by simpa using hb) e
  done := fun s Q E st hQ => by
    obtain ⟨s1, s2, s3, s4, F⟩ := st
    exact map_next_end rfl s1 s2 s3 s4 (by simp) fun h' hk' => hQ h' s.toks fun b o hb e => hk' b o (by simpa using hb) e
  self := fun i s Q E st hQ => map_iter st.1 hQ
theorem strs_items {ys : List Str} {acc : Array Value} (h : ItemsOf (fun i v => ∃ t, v = Value.str (gS ys i) t) acc ys.length) : StrsAre acc.toList ys := by
  obtain ⟨h1, h2⟩ := h
  have key : ∀ (ys : List Str) (vs : List Value), vs.length = ys.length → (∀ j v, vs[j]? = some v → ∃ t, v = Value.str (gS ys j) t) → StrsAre vs ys := by
    intro ys
    induction ys with
    | nil => intro vs hl _; rw [List.length_eq_zero_iff.mp hl]; exact .nil
    | cons y ys ih =>
      intro vs hl hv
      cases vs with
      | nil => cases hl
      | cons v vs =>
        obtain ⟨t, rfl⟩ := hv 0 v rfl
        exact .cons y t (ih vs (Nat.succ.inj hl) fun j v hj => hv (j + 1) v hj)
  exact key ys acc.toList (by simpa using h1) fun j v hj => h2 j v (by simpa using hj)
theorem r_list_map {ys : List Str} {led news : List (Addr × Obj)} {c : Nat} (B : Below A₀ base outer h₀) (F : Fr h₀ L s.heap m) (X : (Mine.heapK w.params).In h₀) (N : News h₀ L s.heap led) (TP : Top Mine.view LO mean mg mb h₀) (hk : cs.kind = .function) (hd : dp + k < recursionLimit) (hu : un + 8 * (k + 1) < cLine)
    (hf : ∀ i x, vs[i]? = some x → DoesK k w mean mg mb (call f [x]) (fun v => ∃ t, v = Value.str (gS ys i) t)) (hlen : vs.length = ys.length) (hsz : ys.length < 1000)
    (hM : (M, mapO f T) ∈ led) (hT : (T, tup1 it) ∈ led) (hi : (it, litO l) ∈ led) (hl : (l, W.listOf vs.toArray c) ∈ led) (hMi : M ≠ it) (hTi : T ≠ it) (hli : l ≠ it)
    (hs : ∀ p ∈ news, p ∈ led) (ho : ∀ p ∈ news, p.1 ≠ it)
    (h : ∀ D c us h' tk, StrsAre us ys → Fr h₀ L h' m → News h₀ L h' ((D, W.listOf (List.toArray us) c) :: news) → (∀ p ∈ news, p.1 < D) → Q (.ref D) { s with heap := h', toks := tk }) :
    wpAny (model PySem.Challenge.rw_in0303_01.row.prog w) (ktrTop dp un gd cn cs L a ccd cl outer) (call (.type "list") [.ref M]) Q E s := by
  have zi := N _ hi
  obtain ⟨oL, _, _, hL, _⟩ := F.ns
  have hLlt : L < s.heap.objs.size := Heap.lt_size hL
  have W := map_walks (k := k) (dp := dp) (un := un + 2) (gd := gd) (cn := cn) (cs := cs) (a := a) (ccd := ccd) (cl := cl) (m := m) (n := s.heap.objs.size) B X TP hk hd (by omega) hf (Heap.lt_size (N _ hM).1) (Heap.lt_size (N _ hT).1) (Heap.lt_size zi.1) (Heap.lt_size (N _ hl).1) hLlt F.above hMi hTi hli (Ne.symm zi.2.1) zi.2.2
  refine ss_call (T := "map") (St := MapSt h₀ L M T it l m f vs) (n := vs.length) (fp := List.range s.heap.objs.size) (wr := [it]) ⟨fun s st => ⟨_, st.1, rfl⟩, by decide, by decide, no_len_map, no_hint_map, List.mem_range.mpr (Heap.lt_size (N _ hM).1)⟩ W ⟨(N _ hM).1, (N _ hT).1, ⟨_, zi.1, rfl, rfl⟩, ⟨_, (N _ hl).1, rfl, c, rfl⟩, F⟩ (fun b hb => List.mem_range.mp hb) (by rw [sizeLine_eq]; omega) fun h' tk acc' c' hk hD hacc => ?_
  have hst : StrsAre acc'.toList ys := strs_items (by rw [← hlen]; exact hacc)
  refine h _ c' acc'.toList h' tk hst (LCg.fr_but F hk (Ne.symm zi.2.1) zi.2.2) (fun p hp => ?_) fun p hp => Heap.lt_size (N _ (hs p hp)).1
  rcases List.mem_cons.mp hp with rfl | hp
  · refine ⟨hD, Nat.ne_of_gt hLlt, ?_⟩
    cases hq : h₀.get? s.heap.objs.size with
    | none => rfl
    | some o' => exact absurd (Heap.lt_size (F.keep _ _ hq)) (Nat.lt_irrefl _)
  · exact ⟨hk _ _ (by simpa using ho p hp) (N _ (hs p hp)).1, (N _ (hs p hp)).2⟩
theorem r_map {A : Around} {led : List (Addr × Obj)} {c : Nat} {prog : Program} (F : Fr h₀ L s.heap m) (N : News h₀ L s.heap led) (hm : (l, W.listOf vs.toArray c) ∈ led)
    (h : ∀ M T it h', Fr h₀ L h' m → News h₀ L h' ((M, mapO f T) :: (T, tup1 it) :: (it, litO l) :: led) → (∀ p ∈ led, p.1 < it) → @LT.lt Nat _ it T → @LT.lt Nat _ T M → Q (.ref M) { s with heap := h' }) :
    wpAny (model prog w) A (call (.type "map") [f, .ref l]) Q E s := by
  refine call_map ⟨_, (N _ hm).1, rfl, c, rfl⟩ (h _ _ _ _ (((F.push _).push _).push _) (News.push ((F.push _).push _) (News.push (F.push _) (News.push F N _) _) _) (fun p hp => Heap.lt_size (N p hp).1) ?_ ?_)
  · rw [Heap.size_push]; exact Nat.lt_succ_self _
  · rw [Heap.size_push, Heap.size_push, Heap.size_push]; exact Nat.lt_succ_self _
end
end Mine

end
section
set_option maxRecDepth 100000
set_option maxRecDepth 100000
namespace Mine
section
variable {prog : Program} {w : World} {A : Around} {E : Value → Shared → Prop} {s : Shared} {h₀ : Heap} {news : List (Addr × Obj)} {n : Nat}
/-- a loop over a range from below -/
theorem ru_iter {r : Addr} {a₀ b₀ : Int} {t₀ u₀ v₀ : Tok} {env : Env} {x : Str} {body : List Stmt} {Q : Flow → Shared → Prop} {m₀ : Str → Option Value} (J : Nat → (Str → Option Value) → List (Addr × Obj) → Prop)
    (hh : A.handled = none) (hr : IsRange s.heap r a₀ b₀ 1 t₀ u₀ v₀) (hsmall : Builtin.Range.small a₀ b₀ 1 = true) (hn : Builtin.Range.rangeSize a₀ b₀ 1 = (n : Int)) (F : Fr h₀ env.locals s.heap m₀) (N : News h₀ env.locals s.heap news) (hj : J 0 m₀ news)
    (turn : ∀ i t m₁ news₁ h tk I o, i < n → (∀ p ∈ news₁, p.1 ≠ I) → J i m₁ news₁ → Fr h₀ env.locals h (fun y => if y = x then some (.int (a₀ + (i : Int)) t) else m₁ y) → News h₀ env.locals h ((I, o) :: news₁) →
      wpAny (model prog w) A (execs body env) (InvPostG h₀ env.locals (J (i + 1)) [(I, o)] { s with heap := h, toks := tk } Q) E { s with heap := h, toks := tk })
    (done : ∀ m₁ news₁ h tk, J n m₁ news₁ → Fr h₀ env.locals h m₁ → News h₀ env.locals h news₁ → Q .next { s with heap := h, toks := tk }) :
    wpAny (model prog w) A (pyIter (.ref r)) (fun it s₂ => LoopAtV prog w A h₀ env x body Q E it s₂) E s := by
  refine wpAny_pyIter_range hr hsmall ?_
  have W := Walks.range (prog := prog) (w := w) hh s.heap.objs.size a₀ 1 n
  refine ⟨s.heap.objs.size, [s.heap.objs.size], [s.heap.objs.size], n, _, _, m₀, news, J, rfl, W, ?_, ?_, ?_, ?_, F.push _, (fun p hp => ⟨Heap.get?_push_of_some _ (N p hp).1, (N p hp).2⟩), hj, ?_, ?_⟩
  · intro hm
    exact absurd F.ns.lt ((List.mem_singleton.mp hm) ▸ Nat.lt_irrefl _)
  · intro b hb
    rw [List.mem_singleton.mp hb]
    exact next_is_new F
  · intro p hp hI
    exact absurd (Heap.lt_size (N p hp).1) ((List.mem_singleton.mp hI) ▸ Nat.lt_irrefl _)
  · show IsRangeIter _ _ _ _ _
    rw [hn]; simpa using Heap.get?_push_size _ rfl
  · rintro i v m₁ news₁ s₁ own ⟨hh', tk', rfl⟩ hin ⟨t, rfl⟩ hJ hoff hown hget hfp hst F₁ N₁
    obtain ⟨oI, hoI⟩ : ∃ oI, hh'.get? s.heap.objs.size = some oI := ⟨_, hst⟩
    have hI0 : h₀.get? s.heap.objs.size = none := next_is_new F
    have hmem : (s.heap.objs.size, oI) ∈ own := hfp _ (List.mem_singleton.mpr rfl) hI0 _ hoI
    have e : a₀ + (i : Int) * 1 = a₀ + (i : Int) := by omega
    rw [e] at F₁
    have offI : ∀ p ∈ news₁, p.1 ≠ s.heap.objs.size := fun p hp e => hoff p hp (List.mem_singleton.mpr e)
    refine wpAny_mono (turn i t m₁ news₁ hh' tk' _ oI hin offI hJ F₁ (fun p hp => N₁ p ?_)) (fun f s₂ p => ?_) fun _ _ e => e
    · rcases List.mem_cons.mp hp with rfl | hp
      · exact List.mem_append.mpr (.inl hmem)
      · exact List.mem_append.mpr (.inr hp)
    · have fin : InvEndG h₀ env.locals (J (i + 1)) [(s.heap.objs.size, oI)] { s with heap := hh', toks := tk' } s₂ →
          LoopStepU h₀ env.locals [s.heap.objs.size] own (J (i + 1)) { s with heap := hh', toks := tk' } .next s₂ := by
        rintro ⟨h', tk, m', news', nx, e, F', N', hn, ho, ha, hm⟩
        refine ⟨rfl, h', tk, m', nx, e, F', fun p hp => ?_, fun p hp hq => ?_, hm⟩
        · rcases List.mem_append.mp hp with h | h
          · have h1 : p.1 = s.heap.objs.size := List.mem_singleton.mp (hown p h)
            have h2 : hh'.get? p.1 = some p.2 := hget p h
            rw [h1, hoI] at h2
            have h3 : p = (s.heap.objs.size, oI) := Prod.ext h1 (Option.some.inj h2).symm
            rw [h3]
            exact N' _ (ho _ List.mem_cons_self)
          · exact N' p (hn p h)
        · exact ha _ List.mem_cons_self p.1 (List.mem_map.mpr ⟨p, hp, rfl⟩) (List.mem_singleton.mp hq).symm
      cases f with
      | ret v => exact .ret p
      | brk => exact .brk p
      | next => exact .next (fin p)
      | cont => exact .cont (fin p)
  · intro h' tk m' news' F' N' _ hJ
    exact done m' news' h' tk hJ F' N'
end
theorem range_small2 {a b : Int} (h1 : -1000 ≤ a) (h2 : a ≤ 1000) (h3 : -1000 ≤ b) (h4 : b ≤ 1000) : Builtin.Range.small a b 1 = true := by
  have fits : ∀ i : Int, -3000 ≤ i → i ≤ 3000 → Builtin.Range.rangeFitsLong i = true := by
    intro i h1 h2
    unfold Builtin.Range.rangeFitsLong
    simp only [Bool.and_eq_true, decide_eq_true_eq]
    omega
  have e : 0 ≤ Builtin.Range.rangeSize a b 1 ∧ Builtin.Range.rangeSize a b 1 ≤ 2000 := by
    unfold Builtin.Range.rangeSize
    rw [if_pos (by decide)]
    split <;> omega
  obtain ⟨e1, e2⟩ := e
  unfold Builtin.Range.small
  rw [fits a (by omega) (by omega), fits b (by omega) (by omega), fits 1 (by omega) (by omega), if_pos (by decide), fits _ (by omega) (by omega)]
  generalize Builtin.Range.rangeSize a b 1 = q at *
  simp
  exact Or.inr (fits _ (by omega) (by omega))
theorem range_size2 {a b : Int} {n : Nat} (h : b = a + n) : Builtin.Range.rangeSize a b 1 = ((n : Nat) : Int) := by
  unfold Builtin.Range.rangeSize
  rw [if_pos (by decide)]
  split <;> omega
end Mine

end
section
set_option maxRecDepth 100000
set_option maxRecDepth 100000
namespace Mine
noncomputable def escS (x : Str) : Str := ⟨(escL x.cps.toList).toArray⟩
noncomputable def midS (x : Str) : Str := Str.ofString "(?>.*?" ++ x ++ Str.ofString ")"
noncomputable def dotS (x : Str) : Str := Str.ofString ".*" ++ x
/-- the pattern of agents -/
noncomputable def patS (a : Str) (es : List Str) (z : Str) : Str := Txt.join (Str.ofString "") (a :: (es.map midS ++ [dotS z]))
theorem escL_len : ∀ l : List Nat, (escL l).length ≤ 2 * l.length := by
  intro l
  induction l with
  | nil => exact Nat.le_refl _
  | cons a l ih =>
    show (_ ++ escL l).length ≤ _
    rw [List.length_append, List.length_cons]
    have : ((fun c => if c = 43 then [92, 43] else [c]) a : List Nat).length ≤ 2 := by dsimp only; split <;> simp
    omega
theorem escS_len (x : Str) : (escS x).length ≤ 2 * x.length := by
  have := escL_len x.cps.toList
  show (escL x.cps.toList).toArray.size ≤ 2 * x.cps.size
  rw [List.size_toArray]
  rw [Array.length_toList] at this
  exact this
theorem len_app (x y : Str) : (x ++ y).length = x.length + y.length := by
  show (x ++ y).cps.size = x.cps.size + y.cps.size
  rw [Str.cps_append, Array.size_append]
theorem empty_app (x : Str) : Str.empty ++ x = x := by
  cases x with
  | mk a =>
    apply congrArg Str.mk
    show #[] ++ a = a
    simp
theorem pat_at {a z : Str} {es : List Str} {i : Nat} (hi : i < es.length) : gS (a :: ((es.take i).map midS ++ es.drop i ++ [z])) (1 + i) = gS es i := by
  have h1 : ((es.take i).map midS).length = i := by rw [List.length_map, List.length_take]; omega
  rw [Nat.add_comm]
  simp only [gS, List.getD_eq_getElem?_getD, List.getElem?_cons_succ]
  rw [List.append_assoc, List.getElem?_append_right (by omega), h1, Nat.sub_self, List.getElem?_append_left (by rw [List.length_drop]; omega), List.getElem?_drop, Nat.add_zero]
theorem pat_set {a z : Str} {es : List Str} {i : Nat} (hi : i < es.length) : (a :: ((es.take i).map midS ++ es.drop i ++ [z])).set (1 + i) (midS (gS es i)) = a :: ((es.take (i + 1)).map midS ++ es.drop (i + 1) ++ [z]) := by
  have h1 : ((es.take i).map midS).length = i := by rw [List.length_map, List.length_take]; omega
  rw [Nat.add_comm, List.set_cons_succ, List.append_assoc, List.set_append_right i _ (by omega), h1, Nat.sub_self, List.drop_eq_getElem_cons hi, List.cons_append, List.set_cons_zero, List.take_succ_eq_append_getElem hi, List.map_append, gS_at hi]
  simp
theorem pat_end (a z : Str) (es : List Str) : (a :: (((es.take es.length).map midS ++ es.drop es.length ++ [z]))).set (es.length + 1) (dotS z) = a :: (es.map midS ++ [dotS z]) := by
  rw [List.take_length, List.drop_length, List.append_nil, List.set_cons_succ, List.set_append_right es.length _ (by simp)]
  simp
theorem sum_le {k : Nat} : ∀ {ys : List Str}, (∀ y ∈ ys, y.length ≤ k) → (ys.map (·.length)).sum ≤ k * ys.length
  | [], _ => Nat.zero_le _
  | y :: ys, h => by
    have h1 := h y List.mem_cons_self
    have h2 := sum_le (ys := ys) fun x hx => h x (List.mem_cons_of_mem _ hx)
    rw [List.map_cons, List.sum_cons, List.length_cons, Nat.mul_succ]
    omega
theorem join_ok {k : Nat} {ys : List Str} (h : ∀ y ∈ ys, y.length ≤ k) (hk : k ≤ 1000) (hn : ys.length ≤ 1000) : (ys.map (·.length)).sum + ys.length * (Str.ofString "").length ≤ 16777216 := by
  have h1 := sum_le h
  have h2 : k * ys.length ≤ 1000 * 1000 := Nat.mul_le_mul hk hn
  have h3 : (Str.ofString "").length = 0 := by decide +kernel
  rw [h3]
  omega
theorem mid_len {x : Str} (h : x.length ≤ 8) : (midS x).length ≤ 20 := by
  unfold midS
  rw [len_app, len_app]
  have h1 : (Str.ofString "(?>.*?").length = 6 := by decide +kernel
  have h2 : (Str.ofString ")").length = 1 := by decide +kernel
  omega
theorem dot_len {x : Str} (h : x.length ≤ 8) : (dotS x).length ≤ 20 := by
  unfold dotS
  rw [len_app]
  have h1 : (Str.ofString ".*").length = 2 := by decide +kernel
  omega
theorem pat_join_ok {a z : Str} {es : List Str} (ha : a.length ≤ 8) (hz : z.length ≤ 8) (he : ∀ e ∈ es, e.length ≤ 8) (hn : es.length < 60) : ((a :: (es.map midS ++ [dotS z])).map (·.length)).sum + (a :: (es.map midS ++ [dotS z])).length * (Str.ofString "").length ≤ 16777216 := by
  refine join_ok (k := 20) (fun y hy => ?_) (by decide) (by simp; omega)
  rcases List.mem_cons.mp hy with rfl | hy
  · omega
  rcases List.mem_append.mp hy with hy | hy
  · obtain ⟨e, h1, rfl⟩ := List.mem_map.mp hy
    exact mid_len (he e h1)
  · rw [List.mem_singleton.mp hy]; exact dot_len hz
section
variable {prog : Program} {w : World} {A : Around} {E : Value → Shared → Prop} {s : Shared} {h₀ : Heap} {L D l : Addr} {m : Str → Option Value} {news news' : List (Addr × Obj)} {vs : List Value} {ys : List Str} {n : Nat} {k : Int} {t u : Tok} {x : Str}
theorem r_slast {value slice : PySem.Expr} {Q : Value → Shared → Prop} (N : News h₀ L s.heap news) (hm : (D, listOf vs.toArray n) ∈ news) (hb : StrsAre vs ys) (h1 : 0 < ys.length) (h : ∀ t, Q (.str (gS ys (ys.length - 1)) t) s)
    (hs : subscripted slice false (.ref D) (.int (-1) u) = operate [.ref D, .int (-1) u] (getItem (.ref D) (.int (-1) u)) := by with_unfolding_all rfl) :
    wpAny (model prog w) A (subscriptTail value slice (.ref D) (.int (-1) u)) Q E s := by
  obtain ⟨t, hx⟩ := strs_at hb (ys.length - 1) (by omega)
  have hl : vs.length = ys.length := StrsAre.length hb
  refine tail_any (PySem.IsL.isList (n := n) (N _ hm).1).typeIs slot_list_getitem.lookup (wpAny_getItem_list_neg (k := -1) (x := .str (gS ys (ys.length - 1)) t) (PySem.IsL.isList (n := n) (N _ hm).1) (by decide) (by rw [List.size_toArray]; omega) (by decide) ?_ (h t)) hs
  rw [List.size_toArray, show ((-1 : Int) + (vs.length : Int)).toNat = ys.length - 1 by omega]
  simpa using hx
theorem r_ssetlast {rest : List (Addr × Obj)} {Q : Unit → Shared → Prop} (F : Fr h₀ L s.heap m) (N : News h₀ L s.heap ((D, listOf vs.toArray n) :: rest)) (ho : ∀ p ∈ rest, p.1 ≠ D) (hb : StrsAre vs ys) (h1 : 0 < ys.length)
    (h : ∀ h', Fr h₀ L h' m → News h₀ L h' ((D, listOf (vs.set (ys.length - 1) (.str x u)).toArray n) :: rest) → StrsAre (vs.set (ys.length - 1) (.str x u)) (ys.set (ys.length - 1) x) → Q () { s with heap := h' }) :
    wpAny (model prog w) A (setItem (.ref D) (.int (-1) t) (.str x u)) Q E s := by
  have z := N (D, listOf vs.toArray n) (.head _)
  have hl : vs.length = ys.length := StrsAre.length hb
  have hs : vs.toArray.size = ys.length := by rw [List.size_toArray]; exact hl
  have hk : ((-1 : Int) + (vs.toArray.size : Int)).toNat = ys.length - 1 := by omega
  refine ki_setBack z.1 (by decide) (by omega) (by decide) ?_
  rw [hk]
  refine h _ (F.change (Heap.SameBut.update ..) z.2.1 z.2.2) (ki_turn (pre := []) (post := rest) _ N (List.forall_mem_nil _) ho ?_ ?_) (strs_set hb _)
  · show vs.toArray.setIfInBounds (ys.length - 1) (.str x u) = (vs.set (ys.length - 1) (.str x u)).toArray
    apply Array.toList_inj.mp
    simp
  · simp
end
end Mine

end
section
set_option maxRecDepth 100000
set_option maxRecDepth 100000
namespace Mine
theorem pick_mid {vs : List Value} (h : 2 ≤ vs.length) : slicePick vs.toArray (some 1) (some (-1)) none = ((vs.drop 1).take (vs.length - 2)).toArray := by
  have e : sliceBounds (some 1) (some (-1)) none vs.toArray.size = (((1 : Nat) : Int), ((vs.length - 1 : Nat) : Int), 1) := by
    rw [List.size_toArray]
    simp only [sliceBounds, Option.getD_none, show (1 : Int) > 0 by decide, if_true, if_neg (show ¬ ((1 : Int) < 0) by decide), if_pos (show (-1 : Int) < 0 by decide)]
    congr 1
    · omega
    · congr 1
      omega
  rw [kmk_pick_nat _ e]
  show ((vs.drop 1).take (vs.length - 1 - 1)).toArray = _
  rw [show vs.length - 1 - 1 = vs.length - 2 by omega]
theorem pick_to {vs : List Value} {k : Nat} (h : k ≤ vs.length) : slicePick vs.toArray none (some (k : Int)) none = (vs.take k).toArray := by
  have e : sliceBounds none (some (k : Int)) none vs.toArray.size = (((0 : Nat) : Int), ((k : Nat) : Int), 1) := by
    rw [List.size_toArray]
    simp only [sliceBounds, Option.getD_none, show (1 : Int) > 0 by decide, if_true, if_neg (show ¬ ((k : Int) < 0) by omega)]
    congr 1
    congr 1
    omega
  rw [kmk_pick_nat _ e]
  rfl
theorem pick_from {vs : List Value} {k : Nat} (h : k ≤ vs.length) : slicePick vs.toArray (some (k : Int)) none none = (vs.drop k).toArray := by
  have e : sliceBounds (some (k : Int)) none none vs.toArray.size = (((k : Nat) : Int), ((vs.length : Nat) : Int), 1) := by
    rw [List.size_toArray]
    simp only [sliceBounds, Option.getD_none, show (1 : Int) > 0 by decide, if_true, if_neg (show ¬ ((k : Int) < 0) by omega)]
    congr 1
    omega
  rw [kmk_pick_nat _ e]
  show ((vs.drop k).take (vs.length - k)).toArray = _
  rw [List.take_of_length_le (by rw [List.length_drop]; exact Nat.le_refl _)]
theorem StrsAre.drop' : ∀ {vs : List Value} {ys : List Str}, StrsAre vs ys → ∀ k, StrsAre (vs.drop k) (ys.drop k)
  | _, _, h, 0 => h
  | _, _, .nil, _ + 1 => .nil
  | _, _, .cons _ _ h, k + 1 => StrsAre.drop' h k
theorem StrsAre.take' : ∀ {vs : List Value} {ys : List Str}, StrsAre vs ys → ∀ k, StrsAre (vs.take k) (ys.take k)
  | _, _, _, 0 => .nil
  | _, _, .nil, _ + 1 => .nil
  | _, _, .cons y t h, k + 1 => .cons y t (StrsAre.take' h k)
theorem txt_join (x : Str) (l : List Str) : Txt.join x l = Str.join x l := StrLaws.glued_eq_join x l
theorem app_empty (x : Str) : x ++ Str.empty = x := by
  cases x with
  | mk a =>
    apply congrArg Str.mk
    show a ++ #[] = a
    simp
theorem ofE : Str.ofString "" = Str.empty := by decide +kernel
theorem join_cons (x : Str) (l : List Str) : Str.join Str.empty (x :: l) = x ++ Str.join Str.empty l := by
  cases l with
  | nil => exact (app_empty x).symm
  | cons y l =>
    show x ++ Str.empty ++ Str.join Str.empty (y :: l) = _
    rw [app_empty]
theorem app_assoc (x y z : Str) : x ++ y ++ z = x ++ (y ++ z) := by
  cases x; cases y; cases z
  exact congrArg Str.mk (Array.append_assoc ..)
theorem join_app (l₁ l₂ : List Str) : Str.join Str.empty (l₁ ++ l₂) = Str.join Str.empty l₁ ++ Str.join Str.empty l₂ := by
  induction l₁ with
  | nil => exact (empty_app _).symm
  | cons x l ih => rw [List.cons_append, join_cons, join_cons, ih, app_assoc]
theorem patS_eq (a z : Str) (es : List Str) : a ++ Txt.join (Str.ofString "") (es.map midS) ++ Str.ofString ".*" ++ z = patS a es z := by
  unfold patS dotS
  rw [txt_join, txt_join, ofE, join_cons, join_app, app_assoc, app_assoc]
  rfl
/-- the parts of a text free of a sign -/
theorem esc_join : ∀ parts : List Str, (∀ p ∈ parts, 43 ∉ p.cps.toList) → escL (Str.join ⟨#[43]⟩ parts).cps.toList = (Str.join ⟨#[92, 43]⟩ parts).cps.toList
  | [], _ => rfl
  | [p], h => esc_free _ (h p List.mem_cons_self)
  | p :: q :: r, h => by
    have ih := esc_join (q :: r) fun a ha => h a (List.mem_cons_of_mem _ ha)
    show escL (p ++ ⟨#[43]⟩ ++ Str.join ⟨#[43]⟩ (q :: r)).cps.toList = (p ++ ⟨#[92, 43]⟩ ++ Str.join ⟨#[92, 43]⟩ (q :: r)).cps.toList
    simp only [Str.cps_append, Array.toList_append]
    rw [escL_append, escL_append, ih, esc_free _ (h p List.mem_cons_self)]
    rfl
where
  esc_free : ∀ l : List Nat, 43 ∉ l → escL l = l
    | [], _ => rfl
    | a :: l, h => by
      have h1 : a ≠ 43 := fun e => h (e ▸ List.mem_cons_self)
      show (if a = 43 then [92, 43] else [a]) ++ escL l = a :: l
      rw [if_neg h1, esc_free l fun m => h (List.mem_cons_of_mem _ m)]
      rfl
theorem replace_esc (x : Str) : Txt.replace x (Str.ofString "+") (Str.ofString "\\+") = escS x := by
  have e1 : Str.ofString "+" = ⟨#[43]⟩ := by decide +kernel
  have e2 : Str.ofString "\\+" = ⟨#[92, 43]⟩ := by decide +kernel
  rw [e1, e2, StrLaws.replace_one]
  have h := esc_join (Txt.split x ⟨#[43]⟩) (StrLaws.split_free x 43)
  rw [StrLaws.join_split] at h
  unfold escS
  rw [h]
section
variable {prog : Program} {w : World} {A : Around} {E : Value → Shared → Prop} {s : Shared} {h₀ : Heap} {L l : Addr} {m : Str → Option Value} {news : List (Addr × Obj)} {value slice : PySem.Expr} {vs zs : List Value} {c : Nat} {vl vu : Value} {lo hi : Option Int} {Q : Value → Shared → Prop}
theorem r_slice (F : Fr h₀ L s.heap m) (N : News h₀ L s.heap news) (hm : (l, W.listOf vs.toArray c) ∈ news) (pl : IsPart vl lo) (pu : IsPart vu hi) (e : slicePick vs.toArray lo hi none = zs.toArray) (hz : vs.length ≤ 1000)
    (h : ∀ D h', Fr h₀ L h' m → News h₀ L h' ((D, W.listOf zs.toArray 0) :: news) → (∀ p ∈ news, p.1 < D) → Q (.ref D) { s with heap := h' })
    (hs : subscripted slice false (.ref l) (.ref s.heap.objs.size) = operate [.ref s.heap.objs.size, .ref l] (getItem (.ref l) (.ref s.heap.objs.size))) (ht : ∀ r, letTemporaryGo value (.ref l) r = pure ()) :
    wpAny (model prog w) A (subscriptTail value slice (.ref l) (.ref s.heap.objs.size)) Q E { s with heap := s.heap.push { cls := .type "slice", data := .fields #[vl, vu, .none] } } := by
  refine kmk_slice F N (News.isList N hm) pl pu (fun D h' F' N' l1 => h D h' F' ?_ l1) hs ht (by rw [sizeLine_eq, List.size_toArray]; omega)
  rw [e] at N'
  exact N'
end
theorem join_mid_len {es : List Str} (he : ∀ e ∈ es, e.length ≤ 8) (hn : es.length < 60) : (Txt.join (Str.ofString "") (es.map midS)).length ≤ 1200 ∧ ((es.map midS).map (·.length)).sum + (es.map midS).length * (Str.ofString "").length ≤ 16777216 := by
  have hm : ∀ y ∈ es.map midS, y.length ≤ 20 := fun y hy => by
    obtain ⟨e, h1, rfl⟩ := List.mem_map.mp hy
    exact mid_len (he e h1)
  have h1 := sum_le hm
  have h2 := StrLaws.join_length_le (Str.ofString "") (es.map midS)
  have h3 : (Str.ofString "").length = 0 := by decide +kernel
  rw [List.length_map] at h1
  rw [h3] at h2 ⊢
  rw [txt_join]
  omega
/-- as Does, where a token has been drawn -/
noncomputable def DoesT (k : Nat) (w : World) (mean : ExcName → Option Value) (mg mb : Str → Option Value) (news : List (Addr × Obj)) (t : Sem Value) (post : Value → List (Addr × Obj) → Prop) : Prop :=
  ∀ (dp un : Nat) (gd : Option (List Code)) (cn : Str) (cs : Scope) (a : Addr) (ccd : Value) (cl : List (Str × Addr)) (outer : List Env) (A₀ : Around) (base h₀ : Heap) (L : Addr) (m : Str → Option Value) (s : Shared) (Q E : Value → Shared → Prop),
    Below A₀ base outer h₀ → Fr h₀ L s.heap m → (Mine.heapK w.params).In h₀ → News h₀ L s.heap news → Top Mine.view LO mean mg mb h₀ → 1 ≤ s.toks → cs.kind = .function → dp + k < recursionLimit → un + 8 * k < cLine →
    (∀ v h' tk' news', Fr h₀ L h' m → News h₀ L h' news' → post v news' → Q v { s with heap := h', toks := tk' }) →
    wpAny (model PySem.Challenge.rw_in0303_01.row.prog w) (ktrTop dp un gd cn cs L a ccd cl outer) t Q E s
theorem toks_gen {α : Type} {M : Model} {A : Around} {t : Sem α} {Q : α → Shared → Prop} {E : Value → Shared → Prop} {s : Shared} {h : Heap} {a b : Nat} (ha : 1 ≤ a) (k : ∀ tk, 1 ≤ tk → wpAny M A t Q E { s with heap := h, toks := tk }) :
    wpAny M A t Q E { s with heap := h, toks := a + b } := k _ (Nat.le_trans ha (Nat.le_add_right _ _))
theorem strs_areOf : ∀ {vs : List Value} {ys : List Str}, StrsAre vs ys → AreOf .str vs ys
  | _, _, .nil => .nil
  | _, _, .cons _ t h => .cons ⟨t, rfl⟩ (strs_areOf h)
theorem carried_strs : ∀ {vs : List Value} {ys : List Str}, CarriedAll vs (ys.map PyData.str) → StrsAre vs ys
  | _, [], h => by cases h; exact .nil
  | _, y :: ys, h => by
    cases h with
    | cons h1 h2 => cases h1; exact .cons _ _ (carried_strs h2)
end Mine

end
section
set_option maxRecDepth 100000
set_option maxRecDepth 100000
namespace Mine
open PyProof.Rows.LCg
theorem at64_sign {i : Int} (h0 : 0 ≤ i) (h1 : i < 64) : signB (at64 i).toNat = true := by
  have key : ∀ k : Fin 64, signB (tab64.getD k.val 0).toNat = true := by decide +kernel
  have := key ⟨i.toNat, by omega⟩
  unfold at64
  exact this
noncomputable def nameF (x : Int) : Str := wrl (octs x)
theorem name_len (x : Int) : (nameF x).length = 4 := by
  obtain ⟨a, b, c, d, e, _⟩ := b64_in (octs_ok x)
  unfold nameF wrl
  rw [e]
  rfl
theorem name_sign (x : Int) : ∀ c ∈ (nameF x).cps.toList, signB c = true := by
  have h61 : signB (61 : Int).toNat = true := by decide
  intro c hc
  unfold nameF wrl strl at hc
  rcases (octs_ok x).cases with ⟨n, e, h0, h1⟩ | ⟨n, k, e, h0, h1, h2, h3⟩
  · rw [e] at hc
    simp only [b64l, List.map_cons, List.map_nil, List.mem_cons, List.not_mem_nil, or_false] at hc
    rcases hc with rfl | rfl | rfl | rfl
    · exact at64_sign (by omega) (by omega)
    · exact at64_sign (by omega) (by omega)
    · exact h61
    · exact h61
  · rw [e] at hc
    simp only [b64l, List.map_cons, List.map_nil, List.mem_cons, List.not_mem_nil, or_false] at hc
    rcases hc with rfl | rfl | rfl | rfl
    · exact at64_sign (by omega) (by omega)
    · exact at64_sign (by omega) (by omega)
    · exact at64_sign (by omega) (by omega)
    · exact h61
theorem sign_lt {c : Nat} (h : signB c = true) : c < 128 := by
  simp only [signB, Bool.or_eq_true, Bool.and_eq_true, decide_eq_true_eq, beq_iff_eq] at h
  omega
theorem strOk_of {x : Str} (h : ∀ c ∈ x.cps.toList, signB c = true) : PyData.strOk x = true := by
  unfold PyData.strOk
  rw [← Array.all_toList, List.all_eq_true]
  intro c hc
  have := sign_lt (h c hc)
  exact decide_eq_true (by omega)
noncomputable def rulF (x : Int) (name : Str) : Str × Bool := (Txt.slice name none (some (1 + (x.fdiv 3).fmod 3)), (x.fdiv 9).fmod 2 == 0)
theorem agent_ok {x : Int} {name : Str} (hl : name.length = 4) (hs : ∀ c ∈ name.cps.toList, signB c = true) : (∀ c ∈ (rulF x name).1.cps.toList, signB c = true) ∧ 0 < (rulF x name).1.length ∧ (rulF x name).1.length ≤ 4 := by
  have h2 := Int.fmod_nonneg_of_pos (x.fdiv 3) (show (0:Int) < 3 by decide)
  have h2' := Int.fmod_lt_of_pos (x.fdiv 3) (show (0:Int) < 3 by decide)
  have hl2 : name.cps.toList.length = 4 := by rw [Array.length_toList]; exact hl
  have e : (rulF x name).1 = ⟨((name.cps.toList.drop 0).take (1 + (x.fdiv 3).fmod 3 - 0).toNat).toArray⟩ := StrLaws.sliceText_to ⟨by omega, by omega⟩
  have hk : 1 ≤ (1 + (x.fdiv 3).fmod 3 - 0).toNat ∧ (1 + (x.fdiv 3).fmod 3 - 0).toNat ≤ 3 := by omega
  rw [e]
  generalize (1 + (x.fdiv 3).fmod 3 - 0).toNat = k at hk
  have hsz : (⟨((name.cps.toList.drop 0).take k).toArray⟩ : Str).length = k := by
    show ((name.cps.toList.drop 0).take k).toArray.size = k
    rw [List.size_toArray, List.length_take, List.drop_zero, hl2]; omega
  refine ⟨fun c hc => hs c ?_, by omega, by omega⟩
  have hc' : c ∈ (name.cps.toList.drop 0).take k := hc
  rw [List.drop_zero] at hc'
  exact List.mem_of_mem_take hc'
theorem not_star {x : Str} (h : ∀ c ∈ x.cps.toList, signB c = true) (h0 : 0 < x.length) : (x != Str.ofString "*") = true := by
  cases e : x != Str.ofString "*" with
  | true => rfl
  | false =>
    have e2 : x = Str.ofString "*" := by simpa using e
    subst e2
    exact absurd (h 42 (by decide +kernel)) (by decide)
/-- a comprehension over pairs, by what its turns keep -/
theorem compP_inv {prog : Program} {w : World} {A : Around} {s : Shared} {h₀ : Heap} {L : Addr} {m : Str → Option Value} {env : Env} {elt : Expr} {x x₂ : Str} {scope : Scope} {cl : List (Str × Addr)} {S : List (Addr × Obj) → Prop} {P : Nat → Value → Prop} {Fin : List Value → List (Addr × Obj) → Prop} (Inv : Nat → List Value → List (Addr × Obj) → Prop) (n : Nat)
    (turn : ∀ i ys led, i < n → Inv i ys led → ∀ v, P i v → ∃ (t : Addr) (ot : Obj) (v₁ v₂ : Value) (nt : Nat), v = .ref t ∧ (t, ot) ∈ led ∧ ot.cls = .type "tuple" ∧ ot.data = .seq #[v₁, v₂] nt ∧
      ∀ I oI C oC D m₂ h tk (E' : Value → Shared → Prop), NsObj oC m₂ → m₂ x = some v₁ → m₂ x₂ = some v₂ → Fr h₀ L h m → News h₀ L h ((I, oI) :: (C, oC) :: (D, lst ys) :: led) → Off3 I C D led → ((@Ne Nat I C) ∧ (@Ne Nat I D) ∧ (@Ne Nat C D)) →
      wpAny (model prog w) A (eval elt (compEnvC scope cl C env)) (CompEnd h₀ L m { s with heap := h, toks := tk } I oI C oC D (lst ys) S (fun y news' => Inv (i + 1) (ys ++ [y]) news')) E' { s with heap := h, toks := tk })
    (fin : ∀ ys led, Inv n ys led → Fin ys led) : ∀ k i ys led, i + k = n → Inv i ys led → LCp.CompRestP prog w A h₀ L m env elt x x₂ scope cl s S P Fin k i ys led := by
  intro k
  induction k with
  | zero =>
    intro i ys led hi hI
    have : i = n := by omega
    subst this
    exact fin ys led hI
  | succ k ih =>
    intro i ys led hi hI
    refine LCp.CompRestP.succ fun v hP => ?_
    obtain ⟨t, ot, v₁, v₂, nt, e, hm, hc, hd, T⟩ := turn i ys led (by omega) hI v hP
    refine ⟨t, ot, v₁, v₂, nt, e, hm, hc, hd, fun I oI C oC D m₂ h tk E' hC hx hx2 F N o3 ne => ?_⟩
    exact wpAny_mono (T I oI C oC D m₂ h tk E' hC hx hx2 F N o3 ne) (fun y s'' hq => CompEnd.mono (fun y n r => ih (i + 1) _ _ (by omega) r) hq) fun _ _ e => e
theorem hideN {P : Prop} (h : P) : Hold P := h
theorem cellEx {o : Obj} {v : Option Value} (h : o.data = .cell v) : ∃ v, o.data = .cell v := ⟨v, h⟩
theorem ints_at : ∀ {vs : List Value} {ns : List Int}, IntsAre vs ns → ∀ {i : Nat} {v : Value}, vs[i]? = some v → ∃ x t, ns[i]? = some x ∧ v = .int x t
  | _, _, .nil, i, v, e => by cases i <;> cases e
  | _, _, .cons n t h, 0, v, e => by cases e; exact ⟨n, t, rfl, rfl⟩
  | _, _, .cons n t h, i + 1, v, e => ints_at h (i := i) e
/-- no cell -/
noncomputable def notC (p : Addr × Obj) : Bool := match p.2.data with | .cell _ => false | _ => true
theorem cell_off {h₀ h : Heap} {L c : Addr} {o : Obj} {v : Option Value} {led : List (Addr × Obj)} (N : News h₀ L h led) (hc : (c, o) ∈ led) (hd : o.data = .cell v) : Off1 c (led.filter notC) := by
  refine off1_of fun p hp e => ?_
  obtain ⟨h1, h2⟩ := List.mem_filter.mp hp
  have e1 := (N p h1).1
  have e2 := (N _ hc).1
  rw [e] at e1
  have e3 : p.2 = o := Option.some.inj (e1.symm.trans e2)
  unfold notC at h2
  rw [e3, hd] at h2
  exact Bool.false_ne_true h2
theorem notC_mem {led : List (Addr × Obj)} {p : Addr × Obj} (h : p ∈ led) (hn : notC p = true) : p ∈ led.filter notC := List.mem_filter.mpr ⟨h, hn⟩
theorem RuleIs.notC {led : List (Addr × Obj)} {v r} (h : RuleIs led v r) : RuleIs (led.filter Mine.notC) v r := let ⟨T, t, e, m⟩ := h; ⟨T, t, e, notC_mem m rfl⟩
theorem EntIs.notC {w : World} {led : List (Addr × Obj)} {v r} (h : EntIs w led v r) : EntIs w (led.filter Mine.notC) v r :=
  let ⟨x, d, U, R, t1, t2, t3, t4, t5, t, e, a, b, c⟩ := h; ⟨x, d, U, R, t1, t2, t3, t4, t5, t, e, notC_mem a rfl, notC_mem b rfl, notC_mem c rfl⟩
theorem RecIs.notC {w : World} {led : List (Addr × Obj)} {x rs} (h : RecIs w led x rs) : RecIs w (led.filter Mine.notC) x rs :=
  let ⟨d, U, R, t1, t2, t3, t4, es, c, cU, a, b, e, f, g⟩ := h; ⟨d, U, R, t1, t2, t3, t4, es, c, cU, notC_mem a rfl, notC_mem b rfl, notC_mem e rfl, notC_mem f rfl, g.mono fun _ _ k => k.notC⟩
theorem relay {h₀ h : Heap} {L : Addr} {led : List (Addr × Obj)} {p4 p3 p2 p1 : Addr × Obj} {v : Option Value} (N : News h₀ L h led) (m4 : p4 ∈ led) (m3 : p3 ∈ led) (m2 : p2 ∈ led) (m1 : p1 ∈ led) (e4 : p4.2.data = .cell v) :
    News h₀ L h (p4 :: p3 :: p2 :: p1 :: led.filter notC) ∧ Off1 p4.1 (led.filter notC) :=
  ⟨news_sub N (List.forall_mem_cons.mpr ⟨m4, List.forall_mem_cons.mpr ⟨m3, List.forall_mem_cons.mpr ⟨m2, List.forall_mem_cons.mpr ⟨m1, fun p hp => (List.mem_filter.mp hp).1⟩⟩⟩⟩), cell_off N m4 e4⟩
section
variable {prog : Program} {w : World} {A : Around} {E : Value → Shared → Prop} {s : Shared} {h₀ : Heap} {L l : Addr} {m : Str → Option Value} {news : List (Addr × Obj)} {vs : List Value} {c : Nat} {Q : Value → Shared → Prop}
theorem r_octbytes {ns : List Int} (F : Fr h₀ L s.heap m) (N : News h₀ L s.heap news) (hm : (l, W.listOf vs.toArray c) ∈ news) (hi : IntsAre vs ns) (ho : Octs ns) (hh : A.handled = none)
    (h : ∀ h' t' k, Fr h₀ L h' m → News h₀ L h' news → KBw.bInts (byteArr ns) = ns → Q (.bytes (byteArr ns) t') { s with heap := h', toks := k }) : wpAny (model prog w) A (call (.type "bytes") [.ref l]) Q E s :=
  KBa.make_K F N hh (News.isList N hm) hi ho.2 (by rcases ho.1 with e | e <;> omega) fun h' t' k F' N' _ => h h' t' k F' N' (KBa.ints_make ho.2)
theorem r_neS {a b : Addr} {us : List Value} {n k : Nat} {ys zs : List Str} (N : News h₀ L s.heap news) (ma : (a, W.listOf vs.toArray n) ∈ news) (hs : StrsAre vs ys) (mb : (b, W.listOf us.toArray k) ∈ news) (hz : StrsAre us zs) (hok : ∀ y ∈ ys, PyData.strOk y = true) (hok2 : ∀ y ∈ zs, PyData.strOk y = true) (hu : A.units + 64 < cLine)
    (e : ys = zs) (h : Q (.bool false) s) : wpAny (model prog w) A (compareOp .NotEq (.ref a) (.ref b)) Q E s := by
  subst e
  refine kqd_ne N ma rfl rfl (strs_dat (news := news) hs) (fun _ h => h) mb rfl rfl (strs_dat (news := news) hz) (fun _ h => h) ?_ ?_ hu ?_
  · intro d hd
    obtain ⟨y, hy, rfl⟩ := List.mem_map.mp hd
    exact hok y hy
  · intro d hd
    obtain ⟨y, hy, rfl⟩ := List.mem_map.mp hd
    exact hok y hy
  · simpa using h
end
end Mine

end
section
set_option maxRecDepth 100000
set_option maxHeartbeats 1600000
namespace Mine
theorem fillIt_J : (PySem.Challenge.rw_in0303_01.row.prog = PySem.Challenge.rw_in0303_01.row.prog) ∧ (Mine.heapK = Mine.heapK) := by
  k_fill
  exact ⟨rfl, rfl⟩
/-- as k_enter, in a frame that is not the law's own -/
local macro_rules | `(tactic| walk_at "m_enter") => `(tactic| first
  | (refine' code_def ?k1 ?k2 ?k3 ?k4 ?k5 ?kA ?kF ?kK ?k6 ?k7 ?k8 ?k9 ?kB ?_ ?c2 ?c3 ?c4 ?c5; (case kA => exact rfl); (case kF => exact rfl); (case kK => first | assumption | exact rfl); (case k1 => k_asm); (case k2 => k_asm); (case k3 => k_asm); (case k4 => k_asm); (case k5 => k_asm); (case k6 => k_is); (case k7 => k_is); (case k8 => ktr_room); (case k9 => first | exact BindsTo.of_eq rfl | exact binds_K (by k_in) rfl (by k_is) rfl rfl rfl | fail "m_enter: no rule for these arguments"); (case c5 => decide); (case kB => exact locs rfl); (case c2 => exact rfl); (case c3 => exact rfl); (case c4 => exact rfl); k_whole; intro g' L' h' FG' F' N' B' X' T'; (try dsimp only); (try k_lift B'); (try k_fold))
  | (refine' code_defC ?k1 ?k2 ?k3 ?k4 ?k5 ?kA ?kF ?kK ?k6 ?k7 ?k8 ?k9 ?kB ?kD ?_ ?c2 ?c3 ?c4; (case kA => exact rfl); (case kF => exact rfl); (case kK => first | assumption | exact rfl); (case k1 => k_asm); (case k2 => k_asm); (case k3 => k_asm); (case k4 => k_asm); (case k5 => k_asm); (case k6 => k_is); (case k7 => k_is); (case k8 => ktr_room); (case k9 => first | exact BindsTo.of_eq rfl | exact binds_K (by k_in) rfl (by k_is) rfl rfl rfl | fail "m_enter: no rule for these arguments"); (case kB => exact rfl); (case kD => decide +kernel); (case c2 => exact rfl); (case c3 => exact rfl); (case c4 => exact rfl); k_whole; intro g' L' h' tk' cells' FG' F' N' Y' B' X' T' l1; (try k_lt l1); k_cells Y'; (try simp only [List.cons_append, List.nil_append] at N'); (try dsimp only); (try k_lift B'); (try k_fold)))
local macro_rules | `(tactic| walk_at "call ref") => `(tactic| (k_here; k_dflt (first
  | (refine' call_cls ?k1 ?k2 ?k3 ?k4 ?k5 ?k6 ?_; (case k1 => k_asm); (case k2 => k_asm); (case k3 => k_asm); (case k4 => k_is); (case k5 => k_is); (case k6 => k_is); k_whole; intro x' d' h' F' N' l1 l2; (try k_lt l1); (try k_lt2 l2); (try k_sweep); walk_at "m_enter")
  | (refine' call_meth ?k1 ?k2 ?_; (case k1 => k_asm); (case k2 => k_mem); k_whole; walk_at "m_enter")
  | (refine wpAny_call ?_; walk_at "m_enter"))))
local macro_rules | `(tactic| walk_at "call type:type") => `(tactic| (k_here; (with_reducible show wpAny _ _ (call _ [Value.bytes _ _]) _ _ _); refine call_type_of (Tx := "bytes") rfl (by decide +kernel) ?_))
local macro_rules | `(tactic| walk_at "compareOp Is") => `(tactic| (k_here; (with_reducible show wpAny _ _ (compareOp CmpOp.Is (Value.type _) (Value.type _)) _ _ _); first | refine wpAny_is_self (by rfl) ?_ | refine wpAny_is_other (by rfl) (by decide) ?_))
local macro_rules | `(tactic| walk_at "pyIter bytes") => `(tactic| ((with_reducible show wpAny _ _ (pyIter (Value.bytes _ _)) (fun it s₂ => LoopAtV _ _ _ _ _ _ _ _ _ it s₂) _ _); k_here; k_bytesUnr))
local macro_rules | `(tactic| walk_at "binaryOp LShift int int") => `(tactic| (k_here; first | (with_reducible refine r_shl8 ?k1 ?k2 ?_; (case k1 => omega); (case k2 => omega)) | (with_reducible refine r_shl4 ?k1 ?k2 ?_; (case k1 => omega); (case k2 => omega)) | (with_reducible refine r_shl2 ?k1 ?k2 ?_; (case k1 => omega); (case k2 => omega))))
local macro_rules | `(tactic| walk_at "binaryOp BitOr int int") => `(tactic| (k_here; (with_reducible refine r_or ?k1 ?k2 ?k3 ?_; (case k1 => omega); (case k2 => omega); (case k3 => omega))))
local macro_rules | `(tactic| walk_at "binaryOp BitAnd int int") => `(tactic| (k_here; first | (with_reducible refine r_and16 ?k1 ?k2 ?_; (case k1 => omega); (case k2 => omega)) | with_reducible refine r_and6 ?_ | with_reducible refine r_and4 ?_ | with_reducible refine r_and2 ?_))
local macro_rules | `(tactic| walk_at "binaryOp RShift int int") => `(tactic| (k_here; first | (with_reducible refine r_shr2 ?k1 ?_; (case k1 => omega)) | (with_reducible refine r_shr4 ?k1 ?_; (case k1 => omega))))
local macro_rules | `(tactic| walk_at "subscriptTail") => `(tactic| (k_here; (with_reducible show wpAny _ _ (subscriptTail _ _ (Value.bytes _ _) (Value.int _ _)) _ _ _); refine r_at64 ?k0 ?k1 ?k2 ?_; (case k0 => decide +kernel); (case k1 => omega); (case k2 => omega); intro _ _))
local macro_rules | `(tactic| walk_at "call type:bytes") => `(tactic| (k_here; (with_reducible show wpAny _ _ (call (Value.type "bytes") [Value.ref _]) _ _ _); k_dflt (refine' r_bytes4 ?hx ?F ?N ?hm ?hh ?hr ?_; (case F => k_asm); (case N => k_asm); (case hm => k_mem); (case hx => rfl); (case hh => rfl); (case hr => first | exact in4 ⟨by decide, by decide⟩ ⟨by decide, by decide⟩ | exact in4 (at64_in _) ⟨by decide, by decide⟩); intro h9 t9 k9 F' N')))
local macro_rules | `(tactic| kbe_in) => `(tactic| (intro n hn; (repeat (rcases List.mem_cons.mp hn with rfl | hn; (first | exact at64_in _ | exact ⟨by decide, by decide⟩))); cases hn))
local macro_rules | `(tactic| walk_at "m_neO") => `(tactic| (rename LCg.Off1 _ _ => hA9; first | exact neAll_off1 hA9 | (clear hA9; walk_at "m_neO")))
local macro_rules | `(tactic| walk_at "m_neL") => `(tactic| (rename AllLt _ _ => hA9; first | exact neAll_le hA9 (by omega) | (clear hA9; walk_at "m_neL")))
local macro_rules | `(tactic| walk_at "m_neAll") => `(tactic| (
  (repeat (rename _ ∧ _ => hA9; obtain ⟨hA8, hA7⟩ := hA9))
  (repeat (rename ∀ p : Addr × Obj, p ∈ _ → @LT.lt Nat _ p.1 _ => hA9; (replace hA9 := allLt_of hA9)))
  first | walk_at "m_neO" | walk_at "m_neL"))
local macro_rules | `(tactic| k_all) => `(tactic| first | exact neAll_of (by assumption) | exact neAll_of (And.right (by assumption)) | exact neAll_of (And.right (And.right (by assumption))) | walk_at "m_neAll")
local macro_rules | `(tactic| walk_at "call builtin:len") => `(tactic| (k_here; (with_reducible show wpAny _ _ (call (Value.builtin "len") [Value.ref _]) _ _ _); (refine' r_len ?N ?hm ?hn ?hf ?_; (case N => k_asm); (case hm => k_dflt k_mem); (case hn => rfl); (case hf => first | omega | decide))))
local macro_rules | `(tactic| k_mem) => `(tactic| first | ktr_member | exact List.mem_cons_self | (refine' List.mem_cons_of_mem _ ?_; k_mem))
local macro_rules | `(tactic| walk_at "exec For Name BinOp cons nil") => `(tactic| (k_here; (rename Fr _ _ _ _ => lF'); (with_unfolding_all refine' For_invVF lF' ?k1 ?k2 ?_; (case k1 => exact rfl); (case k2 => exact rfl); k_whole)))
local macro_rules | `(tactic| walk_at "m_ne") => `(tactic| first
  | assumption
  | exact Ne.symm (by assumption)
  | exact Nat.ne_of_lt (by assumption)
  | exact Nat.ne_of_gt (by assumption)
  | (rename _ ∧ _ => hA9; obtain ⟨hA8, hA7⟩ := hA9; walk_at "m_ne"))
local macro_rules | `(tactic| walk_at "m_nelt") => `(tactic| first
  | (rename _ ∧ _ => hA9; obtain ⟨hA8, hA7⟩ := hA9; walk_at "m_nelt")
  | (rename @Ne Nat _ _ => hA9; clear hA9; walk_at "m_nelt")
  | omega)
local macro_rules | `(tactic| k_ne) => `(tactic| (refine neN ?_; (try dsimp only); first | walk_at "m_ne" | walk_at "m_nelt" | omega))

local macro_rules | `(tactic| walk_at "m_sub") => `(tactic| (repeat (first | exact List.forall_mem_nil _ | exact fun _ h => h | exact fun _ h => List.mem_cons_of_mem _ h | exact fun _ h => List.mem_cons_of_mem _ (List.mem_cons_of_mem _ h) | exact fun _ h => List.mem_cons_of_mem _ (List.mem_cons_of_mem _ (List.mem_cons_of_mem _ h)) | exact fun _ h => List.mem_cons_of_mem _ (List.mem_cons_of_mem _ (List.mem_cons_of_mem _ (List.mem_cons_of_mem _ h))) | refine List.forall_mem_cons.mpr ⟨by k_mem, ?_⟩)))
section
theorem octets_c {w mean mg mb news x tk} : Does 2 w mean mg mb news (call (.ref 154) [.int x tk]) (fun v news' => ∃ l ws, v = .ref l ∧ news' = (l, W.listOf (List.toArray ws) 0) :: news ∧ IntsAre ws (octs x) ∧ LCg.Off1 l news) := by
  unfold Does
  intro dp un gd cn cs a ccd cl outer A₀ base h₀ L m s Q E B F X N T hk hd hu hret
  refine wpAny_call ?_
  have hsub : ∀ p ∈ ([] : List (Addr × Obj)), p ∈ news := by
    repeat (first | exact List.forall_mem_nil _ | refine List.forall_mem_cons.mpr ⟨by assumption, ?_⟩)
  k_dflt (first
    | (refine' code_defG (news := []) B F X (fun p hp => N p (hsub p hp)) T ?kA ?kF ?kK ?k6 ?k7 ?k8 ?k9 ?kB ?_ ?c2 ?c3 ?c4 ?c5; (case kA => exact rfl); (case kF => exact rfl); (case kK => assumption); (case k6 => k_is); (case k7 => k_is); (case k8 => ktr_room); (case k9 => first | exact BindsTo.of_eq rfl | exact binds_K (by k_in) rfl (by k_is) rfl rfl rfl); (case c5 => decide); (case kB => exact locs rfl); (case c2 => exact rfl); (case c3 => exact rfl); (case c4 => exact rfl))
    | (refine' code_defGC (news := []) B F X (fun p hp => N p (hsub p hp)) T ?kA ?kF ?kK ?k6 ?k7 ?k8 ?k9 ?kB ?kD ?_ ?c2 ?c3 ?c4; (case kA => exact rfl); (case kF => exact rfl); (case kK => assumption); (case k6 => k_is); (case k7 => k_is); (case k8 => ktr_room); (case k9 => first | exact BindsTo.of_eq rfl | exact binds_K (by k_in) rfl (by k_is) rfl rfl rfl); (case kB => exact rfl); (case kD => decide +kernel); (case c2 => exact rfl); (case c3 => exact rfl); (case c4 => exact rfl)))
  intro g' L' h' FG' F' N' B' X' T' G'
  (try dsimp only); (try k_lift B'); (try k_fold)
  k_steps
  exact hret _ _ _ _ (by k_asm) (fun p hp => ro_news N G' hsub (by k_asm) (by k_asm) (List.forall_mem_nil _) p ((List.mem_cons.mp hp).elim (fun e => List.mem_append_left _ (by rw [e]; k_mem)) (List.mem_append_right _))) ⟨_, _, rfl, rfl, by assumption, off1_of (ro_off N G' (by k_asm) List.mem_cons_self (List.forall_mem_nil _))⟩
theorem b64_c1 {w mean mg mb news tk} {arr : Array UInt8} {n : Int} (hn0 : 0 ≤ n) (hn1 : n < 256) (hb : KBw.bInts arr = [n]) :
    Does 4 w mean mg mb news (call (.ref 119) [.bytes arr tk]) (fun v news' => ∃ t, v = .bytes (byteArr (b64l [n])) t ∧ news' = news) := by
  unfold Does
  intro dp un gd cn cs a ccd cl outer A₀ base h₀ L m s Q E B F X N T hk hd hu hret
  refine wpAny_call ?_
  have hsub : ∀ p ∈ ([] : List (Addr × Obj)), p ∈ news := by
    repeat (first | exact List.forall_mem_nil _ | refine List.forall_mem_cons.mpr ⟨by assumption, ?_⟩)
  k_dflt (first
    | (refine' code_defG (news := []) B F X (fun p hp => N p (hsub p hp)) T ?kA ?kF ?kK ?k6 ?k7 ?k8 ?k9 ?kB ?_ ?c2 ?c3 ?c4 ?c5; (case kA => exact rfl); (case kF => exact rfl); (case kK => assumption); (case k6 => k_is); (case k7 => k_is); (case k8 => ktr_room); (case k9 => first | exact BindsTo.of_eq rfl | exact binds_K (by k_in) rfl (by k_is) rfl rfl rfl); (case c5 => decide); (case kB => exact locs rfl); (case c2 => exact rfl); (case c3 => exact rfl); (case c4 => exact rfl))
    | (refine' code_defGC (news := []) B F X (fun p hp => N p (hsub p hp)) T ?kA ?kF ?kK ?k6 ?k7 ?k8 ?k9 ?kB ?kD ?_ ?c2 ?c3 ?c4; (case kA => exact rfl); (case kF => exact rfl); (case kK => assumption); (case k6 => k_is); (case k7 => k_is); (case k8 => ktr_room); (case k9 => first | exact BindsTo.of_eq rfl | exact binds_K (by k_in) rfl (by k_is) rfl rfl rfl); (case kB => exact rfl); (case kD => decide +kernel); (case c2 => exact rfl); (case c3 => exact rfl); (case c4 => exact rfl)))
  intro g' L' h' FG' F' N' B' X' T' G'
  (try dsimp only); (try k_lift B'); (try k_fold)
  k_steps
  exact hret _ _ _ _ (by k_asm) (fun p hp => ro_news N G' hsub (by k_asm) (by k_asm) (List.forall_mem_nil _) p (List.mem_append_right _ hp)) ⟨_, rfl, rfl⟩
theorem b64_c2 {w mean mg mb news tk} {arr : Array UInt8} {n k : Int} (hn0 : 0 ≤ n) (hn1 : n < 256) (hk0 : 0 ≤ k) (hk1 : k < 256) (hb : KBw.bInts arr = [n, k]) :
    Does 4 w mean mg mb news (call (.ref 119) [.bytes arr tk]) (fun v news' => ∃ t, v = .bytes (byteArr (b64l [n, k])) t ∧ news' = news) := by
  unfold Does
  intro dp un gd cn cs a ccd cl outer A₀ base h₀ L m s Q E B F X N T hk hd hu hret
  refine wpAny_call ?_
  have hsub : ∀ p ∈ ([] : List (Addr × Obj)), p ∈ news := by
    repeat (first | exact List.forall_mem_nil _ | refine List.forall_mem_cons.mpr ⟨by assumption, ?_⟩)
  k_dflt (first
    | (refine' code_defG (news := []) B F X (fun p hp => N p (hsub p hp)) T ?kA ?kF ?kK ?k6 ?k7 ?k8 ?k9 ?kB ?_ ?c2 ?c3 ?c4 ?c5; (case kA => exact rfl); (case kF => exact rfl); (case kK => assumption); (case k6 => k_is); (case k7 => k_is); (case k8 => ktr_room); (case k9 => first | exact BindsTo.of_eq rfl | exact binds_K (by k_in) rfl (by k_is) rfl rfl rfl); (case c5 => decide); (case kB => exact locs rfl); (case c2 => exact rfl); (case c3 => exact rfl); (case c4 => exact rfl))
    | (refine' code_defGC (news := []) B F X (fun p hp => N p (hsub p hp)) T ?kA ?kF ?kK ?k6 ?k7 ?k8 ?k9 ?kB ?kD ?_ ?c2 ?c3 ?c4; (case kA => exact rfl); (case kF => exact rfl); (case kK => assumption); (case k6 => k_is); (case k7 => k_is); (case k8 => ktr_room); (case k9 => first | exact BindsTo.of_eq rfl | exact binds_K (by k_in) rfl (by k_is) rfl rfl rfl); (case kB => exact rfl); (case kD => decide +kernel); (case c2 => exact rfl); (case c3 => exact rfl); (case c4 => exact rfl)))
  intro g' L' h' FG' F' N' B' X' T' G'
  (try dsimp only); (try k_lift B'); (try k_fold)
  k_steps
  exact hret _ _ _ _ (by k_asm) (fun p hp => ro_news N G' hsub (by k_asm) (by k_asm) (List.forall_mem_nil _) p (List.mem_append_right _ hp)) ⟨_, rfl, rfl⟩
theorem b64_c {w mean mg mb news tk} {arr : Array UInt8} {ns : List Int} (ho : Octs ns) (hb : KBw.bInts arr = ns) :
    Does 4 w mean mg mb news (call (.ref 119) [.bytes arr tk]) (fun v news' => ∃ t, v = .bytes (byteArr (b64l ns)) t ∧ news' = news) := by
  rcases ho.cases with ⟨n, rfl, h0, h1⟩ | ⟨n, k, rfl, h0, h1, h2, h3⟩
  · exact b64_c1 h0 h1 hb
  · exact b64_c2 h0 h1 h2 h3 hb
theorem rule_c {w mean mg mb news t t' x} {name : Str} (hz : name.length = 4) :
    Does 2 w mean mg mb news (call (.ref 166) [.int x t, .str name t']) (fun v news' => ∃ D u, v = .ref D ∧ news' = (D, ({ cls := .type "tuple", data := .seq #[.str (Txt.slice name none (some (1 + (x.fdiv 3).fmod 3))) u, .bool ((x.fdiv 9).fmod 2 == 0)] } : Obj)) :: news ∧ LCg.Off1 D news) := by
  unfold Does
  intro dp un gd cn cs a ccd cl outer A₀ base h₀ L m s Q E B F X N T hk hd hu hret
  refine wpAny_call ?_
  have hsub : ∀ p ∈ ([] : List (Addr × Obj)), p ∈ news := by
    repeat (first | exact List.forall_mem_nil _ | refine List.forall_mem_cons.mpr ⟨by assumption, ?_⟩)
  k_dflt (first
    | (refine' code_defG (news := []) B F X (fun p hp => N p (hsub p hp)) T ?kA ?kF ?kK ?k6 ?k7 ?k8 ?k9 ?kB ?_ ?c2 ?c3 ?c4 ?c5; (case kA => exact rfl); (case kF => exact rfl); (case kK => assumption); (case k6 => k_is); (case k7 => k_is); (case k8 => ktr_room); (case k9 => first | exact BindsTo.of_eq rfl | exact binds_K (by k_in) rfl (by k_is) rfl rfl rfl); (case c5 => decide); (case kB => exact locs rfl); (case c2 => exact rfl); (case c3 => exact rfl); (case c4 => exact rfl))
    | (refine' code_defGC (news := []) B F X (fun p hp => N p (hsub p hp)) T ?kA ?kF ?kK ?k6 ?k7 ?k8 ?k9 ?kB ?kD ?_ ?c2 ?c3 ?c4; (case kA => exact rfl); (case kF => exact rfl); (case kK => assumption); (case k6 => k_is); (case k7 => k_is); (case k8 => ktr_room); (case k9 => first | exact BindsTo.of_eq rfl | exact binds_K (by k_in) rfl (by k_is) rfl rfl rfl); (case kB => exact rfl); (case kD => decide +kernel); (case c2 => exact rfl); (case c3 => exact rfl); (case c4 => exact rfl)))
  intro g' L' h' FG' F' N' B' X' T' G'
  (try dsimp only); (try k_lift B'); (try k_fold)
  k_steps
  exact hret _ _ _ _ (by k_asm) (fun p hp => ro_news N G' hsub (by k_asm) (by k_asm) (List.forall_mem_nil _) p ((List.mem_cons.mp hp).elim (fun e => List.mem_append_left _ (by rw [e]; k_mem)) (List.mem_append_right _))) ⟨_, _, rfl, rfl, off1_of (ro_off N G' (by k_asm) List.mem_cons_self (List.forall_mem_nil _))⟩
end
section
local macro_rules | `(tactic| walk_at "CompSrc") => `(tactic| (refine hold ?_))
local macro_rules | `(tactic| walk_at "CompEnd") => `(tactic| (refine hold ?_))
local macro_rules | `(tactic| walk_at "FinE") => `(tactic| (refine hold ?_))
local macro_rules | `(tactic| walk_at "FinA") => `(tactic| (refine hold ?_))
local macro_rules | `(tactic| walk_at "eval ListComp") => `(tactic| (k_here; k_dflt (refine LCg.ListComp_U (F₀ := by k_asm) (by rfl) (by decide) (by rfl) (by decide) (by rfl) ?_)))
local macro_rules | `(tactic| walk_at "exec Assign cons ListComp") => `(tactic| (k_here; k_dflt (refine LCg.Assign_ListComp_U (F₀ := by k_asm) (by rfl) (by with_unfolding_all rfl) (by rfl) (by decide) (by rfl) (by decide) (by rfl) (by rfl) (by rfl) ?_)))
local macro_rules | `(tactic| walk_at "binaryOp Pow int int") => `(tactic| (refine hold ?_))
local macro_rules | `(tactic| walk_at "binaryOp FloorDiv int int") => `(tactic| (refine hold ?_))
local macro_rules | `(tactic| walk_at "subscriptTail Name Name str int") => `(tactic| (refine hold ?_))
local macro_rules | `(tactic| walk_at "call builtin:str.join") => `(tactic| (refine hold ?_))
local macro_rules | `(tactic| walk_at "binaryOp Mod int int") => `(tactic| (k_here; refine r_fmod (by decide) ?_))
noncomputable def sixF (W : Int) (i : Nat) : Int := W / 64 ^ (3 - (0 + (i : Int))).toNat % 64
theorem six_in (W : Int) (i : Nat) : 0 ≤ sixF W i ∧ sixF W i < 64 := ⟨Int.emod_nonneg _ (by decide), Int.emod_lt_of_pos _ (by decide)⟩
theorem pow_ok {i : Nat} (h : i < 3) : 0 < (64 : Int) ^ (3 - (0 + (i : Int))).toNat ∧ ((64 : Int) ^ (3 - (0 + (i : Int))).toNat).natAbs.log2 < 9000 := by
  have : i = 0 ∨ i = 1 ∨ i = 2 := by omega
  rcases this with rfl | rfl | rfl <;> decide +kernel
theorem six0 (W : Int) : sixF W 0 = W / 262144 % 64 := by
  unfold sixF; rw [show (64 : Int) ^ (3 - (0 + ((0 : Nat) : Int))).toNat = 262144 by decide +kernel]
theorem six1 (W : Int) : sixF W 1 = W / 4096 % 64 := by
  unfold sixF; rw [show (64 : Int) ^ (3 - (0 + ((1 : Nat) : Int))).toNat = 4096 by decide +kernel]
theorem six2 (W : Int) : sixF W 2 = W / 64 % 64 := by
  unfold sixF; rw [show (64 : Int) ^ (3 - (0 + ((2 : Nat) : Int))).toNat = 64 by decide +kernel]
theorem sgn_join {W : Int} {n : Nat} (h : n < 10) : (((List.range n).map fun j => sgn (sixF W j)).map (·.length)).sum + ((List.range n).map fun j => sgn (sixF W j)).length * (Str.ofString "").length ≤ 16777216 := by
  refine join_ok (k := 1) (fun y hy => ?_) (by decide) (by rw [List.length_map, List.length_range]; omega)
  obtain ⟨j, _, rfl⟩ := List.mem_map.mp hy
  exact Nat.le_refl _
theorem wr2 {n k : Int} (hn0 : 0 ≤ n) (hn1 : n < 256) (hk0 : 0 ≤ k) (hk1 : k < 256) : Txt.join (Str.ofString "") ((List.range 3).map fun j => sgn (sixF (((0 * 256 + n) * 256 + k) * 256 + 0) j)) ++ Txt.mul (Str.ofString "=") (3 - 2) = wrl [n, k] := by
  show Txt.join (Str.ofString "") [sgn (sixF (((0 * 256 + n) * 256 + k) * 256 + 0) 0), sgn (sixF (((0 * 256 + n) * 256 + k) * 256 + 0) 1), sgn (sixF (((0 * 256 + n) * 256 + k) * 256 + 0) 2)] ++ _ = _
  rw [six0, six1, six2]
  exact writing2 hn0 hn1 hk0 hk1
theorem wr1 {n : Int} (hn0 : 0 ≤ n) (hn1 : n < 256) : Txt.join (Str.ofString "") ((List.range 2).map fun j => sgn (sixF (((0 * 256 + n) * 256 + 0) * 256 + 0) j)) ++ Txt.mul (Str.ofString "=") (3 - 1) = wrl [n] := by
  show Txt.join (Str.ofString "") [sgn (sixF (((0 * 256 + n) * 256 + 0) * 256 + 0) 0), sgn (sixF (((0 * 256 + n) * 256 + 0) * 256 + 0) 1)] ++ _ = _
  rw [six0, six1]
  exact writing1 hn0 hn1
set_option maxHeartbeats 0 in
theorem writing_c2 {w mean mg mb news l e n k t u} (hn0 : 0 ≤ n) (hn1 : n < 256) (hk0 : 0 ≤ k) (hk1 : k < 256) (hl : (l, W.listOf [Value.int n t, Value.int k u].toArray e) ∈ news) :
    Does 3 w mean mg mb news (call (.ref 159) [.ref l]) (fun v news' => ∃ t, v = .str (wrl [n, k]) t ∧ news' = news) := by
  unfold Does
  intro dp un gd cn cs a ccd cl outer A₀ base h₀ L m s Q E B F X N T hk hd hu hret
  refine wpAny_call ?_
  have hsub : ∀ p ∈ ([(l, W.listOf [Value.int n t, Value.int k u].toArray e)] : List (Addr × Obj)), p ∈ news := by
    repeat (first | exact List.forall_mem_nil _ | refine List.forall_mem_cons.mpr ⟨by assumption, ?_⟩)
  k_dflt (first
    | (refine' code_defG (news := [(l, W.listOf [Value.int n t, Value.int k u].toArray e)]) B F X (fun p hp => N p (hsub p hp)) T ?kA ?kF ?kK ?k6 ?k7 ?k8 ?k9 ?kB ?_ ?c2 ?c3 ?c4 ?c5; (case kA => exact rfl); (case kF => exact rfl); (case kK => assumption); (case k6 => k_is); (case k7 => k_is); (case k8 => ktr_room); (case k9 => first | exact BindsTo.of_eq rfl | exact binds_K (by k_in) rfl (by k_is) rfl rfl rfl); (case c5 => decide); (case kB => exact locs rfl); (case c2 => exact rfl); (case c3 => exact rfl); (case c4 => exact rfl))
    | (refine' code_defGC (news := [(l, W.listOf [Value.int n t, Value.int k u].toArray e)]) B F X (fun p hp => N p (hsub p hp)) T ?kA ?kF ?kK ?k6 ?k7 ?k8 ?k9 ?kB ?kD ?_ ?c2 ?c3 ?c4; (case kA => exact rfl); (case kF => exact rfl); (case kK => assumption); (case k6 => k_is); (case k7 => k_is); (case k8 => ktr_room); (case k9 => first | exact BindsTo.of_eq rfl | exact binds_K (by k_in) rfl (by k_is) rfl rfl rfl); (case kB => exact rfl); (case kD => decide +kernel); (case c2 => exact rfl); (case c3 => exact rfl); (case c4 => exact rfl)))
  intro g' L' h' tk' cells' FG' F' N' Y' B' X' T' l1 G'
  (try k_lt l1); k_cells Y'; (try simp only [List.cons_append, List.nil_append] at N'); (try dsimp only); (try k_lift B'); (try k_fold)
  k_steps
  unfold Hold
  rename IsRange _ _ _ _ _ _ _ _ => hR
  rename Fr g' _ _ _ => F8
  rename News g' _ _ (_ :: _) => N8
  refine LCg.CompSrc.range (n := 3) rfl F8 N8 hR (by decide) (by rfl) (by rw [sizeLine_eq]; decide) fun g2 => comp_inv (fun i ys led => led = _ ∧ IntsAre ys ((List.range i).map (sixF (((0 * 256 + n) * 256 + k) * 256 + 0)))) _ ?_ ?_ _ 0 [] _ (Nat.zero_add _) ⟨rfl, .nil⟩
  · rintro i ys led hi ⟨rfl, hys⟩ v9 I9 oI9 C9 oC9 D9 m9 h9 tk9 E9 ⟨t9, rfl⟩ hC9 hx9 F6 N6 off9 ne9
    obtain ⟨hp1, hp2⟩ := pow_ok (show i < 3 by omega)
    (try clear N8)
    k_steps
    unfold Hold
    refine r_pow rfl (by omega) (by omega) (by decide) ?_
    k_steps
    unfold Hold
    refine r_fdiv hp1 hp2 ?_
    k_steps
    unfold Hold
    (try dsimp only)
    refine LCg.CompEnd.intro (by k_asm) N6 _ (fun p hp => hp) off9 trivial ⟨rfl, ?_⟩
    rw [List.range_succ, List.map_append]
    exact IntsAre.append hys (.cons _ _ .nil)
  · rintro ys led ⟨rfl, hys⟩
    unfold LCg.FinA
    intro D7 h7 tk7 F7 N7 o7
    have hyl : ys.length = 3 := by rw [hys.length, List.length_map, List.length_range]
    (try clear N8)
    k_steps
    unfold Hold
    refine LCg.CompSrc.ledger (its := List.toArray ys) (k := ys.length) rfl (by k_asm) N7 List.mem_cons_self (by rw [sizeLine_eq, List.size_toArray]; omega) fun g3 => comp_inv (fun i zs led => led = _ ∧ StrsAre zs ((List.range i).map fun j => sgn (sixF (((0 * 256 + n) * 256 + k) * 256 + 0) j))) _ ?_ ?_ _ 0 [] _ (Nat.zero_add _) ⟨rfl, .nil⟩
    · rintro i zs led hi ⟨rfl, hzs⟩ v9 I9 oI9 C9 oC9 D9 m9 h9 tk9 E9 hv hC9 hx9 F6 N6 off9 ne9
      have hi3 : i < 3 := by simpa [hyl] using hi
      obtain ⟨x9, t9, hx, rfl⟩ := ints_at hys (i := i) (by simpa using hv)
      have ex : x9 = sixF (((0 * 256 + n) * 256 + k) * 256 + 0) i := by
        rw [List.getElem?_map, List.getElem?_range hi3] at hx
        exact (Option.some.inj hx).symm
      have hb := six_in (((0 * 256 + n) * 256 + k) * 256 + 0) i
      rw [← ex] at hb
      obtain ⟨hb0, hb1⟩ := hb
      (try clear hv); (try clear hx); (try clear N7)
      k_steps
      unfold Hold
      refine r_sign hb0 hb1 ?_
      k_steps
      unfold Hold
      (try dsimp only)
      refine LCg.CompEnd.intro (by k_asm) N6 _ (fun p hp => hp) off9 (Or.inr ⟨_, List.mem_cons_self, rfl, _, rfl⟩) ⟨rfl, ?_⟩
      rw [List.range_succ, List.map_append, ex]
      exact StrsAre.append' hzs (.cons _ _ .nil)
    · rintro zs led ⟨rfl, hzs⟩
      rw [List.size_toArray, hyl] at hzs
      unfold LCg.FinE
      intro D8 h8 tk8 F8 N8 o8
      (try clear N7)
      k_steps
      unfold Hold
      refine r_join N8 List.mem_cons_self hzs (sgn_join (by decide)) ?_
      intro t9 k9
      (try clear hzs)
      k_steps
      have hval := wr2 hn0 hn1 hk0 hk1
      exact hret _ _ _ _ (by k_asm) (fun p hp => ro_news N G' hsub (by k_asm) (by k_asm) (List.forall_mem_cons.mpr ⟨by k_mem, List.forall_mem_nil _⟩) p (List.mem_append_right _ hp)) ⟨_, congrArg (Value.str · _) hval, rfl⟩
set_option maxHeartbeats 0 in
theorem writing_c1 {w mean mg mb news l e n t} (hn0 : 0 ≤ n) (hn1 : n < 256) (hl : (l, W.listOf [Value.int n t].toArray e) ∈ news) :
    Does 3 w mean mg mb news (call (.ref 159) [.ref l]) (fun v news' => ∃ t, v = .str (wrl [n]) t ∧ news' = news) := by
  unfold Does
  intro dp un gd cn cs a ccd cl outer A₀ base h₀ L m s Q E B F X N T hk hd hu hret
  refine wpAny_call ?_
  have hsub : ∀ p ∈ ([(l, W.listOf [Value.int n t].toArray e)] : List (Addr × Obj)), p ∈ news := by
    repeat (first | exact List.forall_mem_nil _ | refine List.forall_mem_cons.mpr ⟨by assumption, ?_⟩)
  k_dflt (first
    | (refine' code_defG (news := [(l, W.listOf [Value.int n t].toArray e)]) B F X (fun p hp => N p (hsub p hp)) T ?kA ?kF ?kK ?k6 ?k7 ?k8 ?k9 ?kB ?_ ?c2 ?c3 ?c4 ?c5; (case kA => exact rfl); (case kF => exact rfl); (case kK => assumption); (case k6 => k_is); (case k7 => k_is); (case k8 => ktr_room); (case k9 => first | exact BindsTo.of_eq rfl | exact binds_K (by k_in) rfl (by k_is) rfl rfl rfl); (case c5 => decide); (case kB => exact locs rfl); (case c2 => exact rfl); (case c3 => exact rfl); (case c4 => exact rfl))
    | (refine' code_defGC (news := [(l, W.listOf [Value.int n t].toArray e)]) B F X (fun p hp => N p (hsub p hp)) T ?kA ?kF ?kK ?k6 ?k7 ?k8 ?k9 ?kB ?kD ?_ ?c2 ?c3 ?c4; (case kA => exact rfl); (case kF => exact rfl); (case kK => assumption); (case k6 => k_is); (case k7 => k_is); (case k8 => ktr_room); (case k9 => first | exact BindsTo.of_eq rfl | exact binds_K (by k_in) rfl (by k_is) rfl rfl rfl); (case kB => exact rfl); (case kD => decide +kernel); (case c2 => exact rfl); (case c3 => exact rfl); (case c4 => exact rfl)))
  intro g' L' h' tk' cells' FG' F' N' Y' B' X' T' l1 G'
  (try k_lt l1); k_cells Y'; (try simp only [List.cons_append, List.nil_append] at N'); (try dsimp only); (try k_lift B'); (try k_fold)
  k_steps
  unfold Hold
  rename IsRange _ _ _ _ _ _ _ _ => hR
  rename Fr g' _ _ _ => F8
  rename News g' _ _ (_ :: _) => N8
  refine LCg.CompSrc.range (n := 2) rfl F8 N8 hR (by decide) (by rfl) (by rw [sizeLine_eq]; decide) fun g2 => comp_inv (fun i ys led => led = _ ∧ IntsAre ys ((List.range i).map (sixF (((0 * 256 + n) * 256 + 0) * 256 + 0)))) _ ?_ ?_ _ 0 [] _ (Nat.zero_add _) ⟨rfl, .nil⟩
  · rintro i ys led hi ⟨rfl, hys⟩ v9 I9 oI9 C9 oC9 D9 m9 h9 tk9 E9 ⟨t9, rfl⟩ hC9 hx9 F6 N6 off9 ne9
    obtain ⟨hp1, hp2⟩ := pow_ok (show i < 3 by omega)
    (try clear N8)
    k_steps
    unfold Hold
    refine r_pow rfl (by omega) (by omega) (by decide) ?_
    k_steps
    unfold Hold
    refine r_fdiv hp1 hp2 ?_
    k_steps
    unfold Hold
    (try dsimp only)
    refine LCg.CompEnd.intro (by k_asm) N6 _ (fun p hp => hp) off9 trivial ⟨rfl, ?_⟩
    rw [List.range_succ, List.map_append]
    exact IntsAre.append hys (.cons _ _ .nil)
  · rintro ys led ⟨rfl, hys⟩
    unfold LCg.FinA
    intro D7 h7 tk7 F7 N7 o7
    have hyl : ys.length = 2 := by rw [hys.length, List.length_map, List.length_range]
    (try clear N8)
    k_steps
    unfold Hold
    refine LCg.CompSrc.ledger (its := List.toArray ys) (k := ys.length) rfl (by k_asm) N7 List.mem_cons_self (by rw [sizeLine_eq, List.size_toArray]; omega) fun g3 => comp_inv (fun i zs led => led = _ ∧ StrsAre zs ((List.range i).map fun j => sgn (sixF (((0 * 256 + n) * 256 + 0) * 256 + 0) j))) _ ?_ ?_ _ 0 [] _ (Nat.zero_add _) ⟨rfl, .nil⟩
    · rintro i zs led hi ⟨rfl, hzs⟩ v9 I9 oI9 C9 oC9 D9 m9 h9 tk9 E9 hv hC9 hx9 F6 N6 off9 ne9
      have hi3 : i < 2 := by simpa [hyl] using hi
      obtain ⟨x9, t9, hx, rfl⟩ := ints_at hys (i := i) (by simpa using hv)
      have ex : x9 = sixF (((0 * 256 + n) * 256 + 0) * 256 + 0) i := by
        rw [List.getElem?_map, List.getElem?_range hi3] at hx
        exact (Option.some.inj hx).symm
      have hb := six_in (((0 * 256 + n) * 256 + 0) * 256 + 0) i
      rw [← ex] at hb
      obtain ⟨hb0, hb1⟩ := hb
      (try clear hv); (try clear hx); (try clear N7)
      k_steps
      unfold Hold
      refine r_sign hb0 hb1 ?_
      k_steps
      unfold Hold
      (try dsimp only)
      refine LCg.CompEnd.intro (by k_asm) N6 _ (fun p hp => hp) off9 (Or.inr ⟨_, List.mem_cons_self, rfl, _, rfl⟩) ⟨rfl, ?_⟩
      rw [List.range_succ, List.map_append, ex]
      exact StrsAre.append' hzs (.cons _ _ .nil)
    · rintro zs led ⟨rfl, hzs⟩
      rw [List.size_toArray, hyl] at hzs
      unfold LCg.FinE
      intro D8 h8 tk8 F8 N8 o8
      (try clear N7)
      k_steps
      unfold Hold
      refine r_join N8 List.mem_cons_self hzs (sgn_join (by decide)) ?_
      intro t9 k9
      (try clear hzs)
      k_steps
      have hval := wr1 hn0 hn1
      exact hret _ _ _ _ (by k_asm) (fun p hp => ro_news N G' hsub (by k_asm) (by k_asm) (List.forall_mem_cons.mpr ⟨by k_mem, List.forall_mem_nil _⟩) p (List.mem_append_right _ hp)) ⟨_, congrArg (Value.str · _) hval, rfl⟩
theorem writing_c {w mean mg mb news l e ws} {ns : List Int} (ho : Octs ns) (hi : IntsAre ws ns) (hl : (l, W.listOf (List.toArray ws) e) ∈ news) :
    Does 3 w mean mg mb news (call (.ref 159) [.ref l]) (fun v news' => ∃ t, v = .str (wrl ns) t ∧ news' = news) := by
  rcases ho.cases with ⟨n, rfl, h0, h1⟩ | ⟨n, k, rfl, h0, h1, h2, h3⟩
  · cases hi with
    | cons n t hi => cases hi with
      | nil => exact writing_c1 h0 h1 hl
  · cases hi with
    | cons n t hi => cases hi with
      | cons n t hi => cases hi with
        | nil => exact writing_c2 h0 h1 h2 h3 hl
end
section
local macro_rules | `(tactic| walk_at "getMethod str") => `(tactic| (k_here; with_reducible refine m_translate ?_))
local macro_rules | `(tactic| walk_at "call builtin:str.translate") => `(tactic| (k_here; (with_reducible show wpAny _ _ (call (Value.builtin "str.translate") [Value.str _ _, Value.ref _]) _ _ _); k_dflt (refine' r_trans ?F ?N ?X ?hh ?hx ?h0 ?hl ?_; (case F => k_asm); (case N => k_asm); (case X => k_asm); (case hh => rfl); (case hx => assumption); (case h0 => assumption); (case hl => assumption)); intro h9 t9 k9 F' N'))
theorem escape_k {w mean mg mb t} {x : Str} (hx : ∀ c ∈ x.cps.toList, signB c = true) (hl0 : 0 < x.length) (hl : x.length ≤ 100) :
    DoesK 2 w mean mg mb (call (.ref 75) [.str x t]) (fun v => ∃ t', v = Value.str (escS x) t') := by
  unfold DoesK
  intro dp un gd cn cs a ccd cl outer A₀ base h₀ L m s Q E B F X T hk hd hu hret
  have N : News h₀ L s.heap ([] : List (Addr × Obj)) := List.forall_mem_nil _
  refine wpAny_call ?_
  have hsub : ∀ p ∈ ([] : List (Addr × Obj)), p ∈ ([] : List (Addr × Obj)) := fun _ h => h
  k_dflt (first
    | (refine' code_defG (news := ([] : List (Addr × Obj))) B F X (fun p hp => N p (hsub p hp)) T ?kA ?kF ?kK ?k6 ?k7 ?k8 ?k9 ?kB ?_ ?c2 ?c3 ?c4 ?c5; (case kA => exact rfl); (case kF => exact rfl); (case kK => assumption); (case k6 => k_is); (case k7 => k_is); (case k8 => ktr_room); (case k9 => first | exact BindsTo.of_eq rfl | exact binds_K (by k_in) rfl (by k_is) rfl rfl rfl); (case c5 => decide); (case kB => exact locs rfl); (case c2 => exact rfl); (case c3 => exact rfl); (case c4 => exact rfl))
    | (refine' code_defGC (news := ([] : List (Addr × Obj))) B F X (fun p hp => N p (hsub p hp)) T ?kA ?kF ?kK ?k6 ?k7 ?k8 ?k9 ?kB ?kD ?_ ?c2 ?c3 ?c4; (case kA => exact rfl); (case kF => exact rfl); (case kK => assumption); (case k6 => k_is); (case k7 => k_is); (case k8 => ktr_room); (case k9 => first | exact BindsTo.of_eq rfl | exact binds_K (by k_in) rfl (by k_is) rfl rfl rfl); (case kB => exact rfl); (case kD => decide +kernel); (case c2 => exact rfl); (case c3 => exact rfl); (case c4 => exact rfl)))
  intro g' L' h' FG' F' N' B' X' T' G'
  (try dsimp only); (try k_lift B'); (try k_fold)
  k_steps
  rename Fr g' L' _ _ => F8
  exact hret _ _ _ (fun b o e => F8.keep _ _ (G' b o e (fun h => nomatch h))) ⟨_, rfl⟩
end
section
local macro_rules | `(tactic| walk_at "subscriptTail") => `(tactic| (k_here; (with_reducible show wpAny _ _ (subscriptTail _ _ (Value.ref _) (Value.int _ _)) _ _ _); k_dflt (refine' r_sget ?k1 ?k2 ?k3 ?k4 ?k5 ?k6 ?_ ?k7; (case k1 => k_asm); (case k2 => k_mem); (case k3 => with_reducible assumption); (case k4 => omega); (case k5 => omega); (case k6 => omega); (case k7 => with_unfolding_all rfl); k_whole); intro _))
local macro_rules | `(tactic| walk_at "setItem ref int") => `(tactic| (k_here; (with_reducible show wpAny _ _ (setItem (Value.ref _) (Value.int _ _) (Value.str _ _)) _ _ _); k_dflt (refine' r_sset (rest := []) ?k1 ?k2 ?k3 ?k4 ?k5 ?k6 ?k7 ?_; (case k1 => k_asm); (case k2 => k_asm); (case k3 => exact List.forall_mem_nil _); (case k4 => with_reducible assumption); (case k5 => omega); (case k6 => omega); (case k7 => omega); k_whole); intro h' F' N' hs'))
local macro_rules | `(tactic| walk_at "call builtin:len") => `(tactic| (k_here; (with_reducible show wpAny _ _ (call (Value.builtin "len") [Value.ref _]) _ _ _); (refine' r_slen ?N ?hm ?hn ?hf ?_; (case N => k_asm); (case hm => k_dflt k_mem); (case hn => with_reducible assumption); (case hf => omega))))
section
local macro_rules | `(tactic| walk_at "exec While") => `(tactic| (refine hold ?_))
local macro_rules | `(tactic| walk_at "binaryOp RShift int int") => `(tactic| (k_here; (with_reducible refine r_par ?k1 ?_; (case k1 => omega))))
theorem sd_c {w mean mg mb news rest l vs c ys t1 t2} {st p : Nat} (hs : StrsAre vs ys) (hp : p < ys.length) (hy : ys.length < 64) (ho : LCg.Off1 l rest) (hn : news = (l, W.listOf (List.toArray vs) c) :: rest) :
    Does 2 w mean mg mb news (call (.ref 140) [.ref l, .int (st : Nat) t1, .int (p : Nat) t2]) (fun v news' => v = .none ∧ ∃ vs' , news' = (l, W.listOf (List.toArray vs') c) :: rest ∧ StrsAre vs' (sdF p ys (gS ys p) st p)) := by
  have hl : (l, W.listOf (List.toArray vs) c) ∈ news := hn ▸ List.mem_cons_self
  unfold Does
  intro dp un gd cn cs a ccd cl outer A₀ base h₀ L m s Q E B F X N T hk hd hu hret
  refine wpAny_call ?_
  have hsub : ∀ p ∈ ([(l, W.listOf (List.toArray vs) c)] : List (Addr × Obj)), p ∈ news := by
    repeat (first | exact List.forall_mem_nil _ | refine List.forall_mem_cons.mpr ⟨by assumption, ?_⟩)
  k_dflt (first
    | (refine' code_defG (news := [(l, W.listOf (List.toArray vs) c)]) B F X (fun p hp => N p (hsub p hp)) T ?kA ?kF ?kK ?k6 ?k7 ?k8 ?k9 ?kB ?_ ?c2 ?c3 ?c4 ?c5; (case kA => exact rfl); (case kF => exact rfl); (case kK => assumption); (case k6 => k_is); (case k7 => k_is); (case k8 => ktr_room); (case k9 => first | exact BindsTo.of_eq rfl | exact binds_K (by k_in) rfl (by k_is) rfl rfl rfl); (case c5 => decide); (case kB => exact locs rfl); (case c2 => exact rfl); (case c3 => exact rfl); (case c4 => exact rfl))
    | (refine' code_defGC (news := [(l, W.listOf (List.toArray vs) c)]) B F X (fun p hp => N p (hsub p hp)) T ?kA ?kF ?kK ?k6 ?k7 ?k8 ?k9 ?kB ?kD ?_ ?c2 ?c3 ?c4; (case kA => exact rfl); (case kF => exact rfl); (case kK => assumption); (case k6 => k_is); (case k7 => k_is); (case k8 => ktr_room); (case k9 => first | exact BindsTo.of_eq rfl | exact binds_K (by k_in) rfl (by k_is) rfl rfl rfl); (case kB => exact rfl); (case kD => decide +kernel); (case c2 => exact rfl); (case c3 => exact rfl); (case c4 => exact rfl)))
  intro g' L' h' FG' F' N' B' X' T' G'
  (try dsimp only); (try k_lift B'); (try k_fold)
  k_steps
  rename StrsAre _ _ => hlook'
  refine While_inv2 (s := _) (fun n m news => ∃ p' t vs' ys', p' ≤ n ∧ p' < ys'.length ∧ m (Str.ofString "heap") = some (.ref l) ∧ m (Str.ofString "startpos") = some (.int (st : Nat) t1) ∧ m (Str.ofString "pos") = some (.int (p' : Nat) t) ∧ (∃ t, m (Str.ofString "newitem") = some (.str (gS ys p) t)) ∧ news = [(l, W.listOf (List.toArray vs') c)] ∧ StrsAre vs' ys' ∧ ys'.length = ys.length ∧ sdF n ys' (gS ys p) st p' = sdF p ys (gS ys p) st p) (n₀ := p) (by k_asm) (by k_asm) ⟨p, _, vs, ys, Nat.le_refl _, hp, rfl, rfl, rfl, ⟨_, rfl⟩, rfl, hlook', rfl, rfl⟩ ?_
  rintro n m₁ news₁ h₁ tk₁ F₁ N₁ ⟨p', t, vs', ys', hpn, hpl, e1, e2, e3, ⟨t4, e4⟩, rfl, hs', hlen, htgt⟩
  have F₂ := fr_pin F₁ [(Str.ofString "heap", .ref l), (Str.ofString "startpos", .int (st : Nat) t1), (Str.ofString "pos", .int (p' : Nat) t), (Str.ofString "newitem", .str (gS ys p) t4)] (by
    intro q hq
    simp only [List.mem_cons, List.not_mem_nil, or_false] at hq
    rcases hq with rfl | rfl | rfl | rfl <;> assumption)
  clear F₁
  dsimp only [pinM] at F₂
  clear e1 e2 e3 e4 hlook'
  k_steps
  · rename (gS ys p).cps.toList < _ => hlt
    rename StrsAre (List.set _ _ _) _ => hs9
    have hst : st < p' := by omega
    obtain ⟨n', rfl⟩ : ∃ n', n = n' + 1 := ⟨n - 1, by omega⟩
    refine ⟨_, _, _, _, n', rfl, by k_asm, by k_asm, Nat.lt_succ_self _, (p' - 1) / 2, _, _, _, by omega, by rw [List.length_set]; omega, by rfl, by rfl, by rfl, ⟨_, by rfl⟩, rfl, hs9, by rw [List.length_set]; exact hlen, ?_⟩
    rw [← htgt, sdF, if_pos hst, show ltS (gS ys p) (gS ys' ((p' - 1) / 2)) = true from decide_eq_true hlt]
    rfl
  · rename ¬ (gS ys p).cps.toList < _ => hlt
    have hst : st < p' := by omega
    unfold WhileStep2
    dsimp only
    k_steps
    rename StrsAre (List.set _ _ _) _ => hs9
    have e : sdF n ys' (gS ys p) st p' = ys'.set p' (gS ys p) := by
      cases n with
      | zero => rfl
      | succ n => rw [sdF, if_pos hst, show ltS (gS ys p) (gS ys' ((p' - 1) / 2)) = false from decide_eq_false hlt]; rfl
    refine hret _ _ _ _ (by k_asm) (rw_news (muts := [(l, W.listOf (List.toArray vs) c)]) (news' := [_]) (rest := rest) (fun q hq => N q (hn ▸ List.mem_cons_of_mem _ hq)) G' (fun q hq r hr => by rw [List.mem_singleton.mp hr]; exact neAll_off1 ho q hq) (by k_asm) (by k_asm)) ⟨rfl, _, rfl, ?_⟩
    rw [← htgt, e]
    exact hs9
  · rename ¬ (st : Int) < _ => hlt
    rename StrsAre (List.set _ _ _) _ => hs9
    have e : sdF n ys' (gS ys p) st p' = ys'.set p' (gS ys p) := by
      cases n with
      | zero => rfl
      | succ n => rw [sdF, if_neg (by omega)]
    refine hret _ _ _ _ (by k_asm) (rw_news (muts := [(l, W.listOf (List.toArray vs) c)]) (news' := [_]) (rest := rest) (fun q hq => N q (hn ▸ List.mem_cons_of_mem _ hq)) G' (fun q hq r hr => by rw [List.mem_singleton.mp hr]; exact neAll_off1 ho q hq) (by k_asm) (by k_asm)) ⟨rfl, _, rfl, ?_⟩
    rw [← htgt, e]
    exact hs9
end
section
local macro_rules | `(tactic| walk_at "exec While") => `(tactic| (refine hold ?_))
local macro_rules | `(tactic| walk_at "call ref") => `(tactic| (k_here; (show wpAny _ _ (call (Value.ref 140) _) _ _ _); k_dflt (refine' (sd_c ?a1 ?a2 ?a3 ?a4 ?a5).use ?B ?F ?X ?N ?T ?hk ?hd ?hu ?_; (case N => k_asm); (case a5 => rfl); (case a1 => with_reducible assumption); (case a2 => (simp only [List.length_set]; omega)); (case a3 => (simp only [List.length_set]; omega)); (case a4 => exact trivial); (case B => k_asm); (case F => k_asm); (case X => k_asm); (case T => k_asm); (case hk => rfl); (case hd => ktr_room); (case hu => ktr_units)); intro v h' tk' news' F' N' h9; obtain ⟨e1, vs9, e2, hs9⟩ := h9; subst e1; subst e2))
theorem su_c {w mean mg mb news rest l vs c ys t1} {p : Nat} (hs : StrsAre vs ys) (hp : p < ys.length) (hy : ys.length < 64) (ho : LCg.Off1 l rest) (hn : news = (l, W.listOf (List.toArray vs) c) :: rest) :
    Does 4 w mean mg mb news (call (.ref 147) [.ref l, .int (p : Nat) t1]) (fun v news' => v = .none ∧ ∃ vs' , news' = (l, W.listOf (List.toArray vs') c) :: rest ∧ StrsAre vs' (siftup ys p)) := by
  have hl : (l, W.listOf (List.toArray vs) c) ∈ news := hn ▸ List.mem_cons_self
  unfold Does
  intro dp un gd cn cs a ccd cl outer A₀ base h₀ L m s Q E B F X N T hk hd hu hret
  refine wpAny_call ?_
  have hsub : ∀ p ∈ ([(l, W.listOf (List.toArray vs) c)] : List (Addr × Obj)), p ∈ news := by
    repeat (first | exact List.forall_mem_nil _ | refine List.forall_mem_cons.mpr ⟨by assumption, ?_⟩)
  k_dflt (first
    | (refine' code_defG (news := [(l, W.listOf (List.toArray vs) c)]) B F X (fun p hp => N p (hsub p hp)) T ?kA ?kF ?kK ?k6 ?k7 ?k8 ?k9 ?kB ?_ ?c2 ?c3 ?c4 ?c5; (case kA => exact rfl); (case kF => exact rfl); (case kK => assumption); (case k6 => k_is); (case k7 => k_is); (case k8 => ktr_room); (case k9 => first | exact BindsTo.of_eq rfl | exact binds_K (by k_in) rfl (by k_is) rfl rfl rfl); (case c5 => decide); (case kB => exact locs rfl); (case c2 => exact rfl); (case c3 => exact rfl); (case c4 => exact rfl))
    | (refine' code_defGC (news := [(l, W.listOf (List.toArray vs) c)]) B F X (fun p hp => N p (hsub p hp)) T ?kA ?kF ?kK ?k6 ?k7 ?k8 ?k9 ?kB ?kD ?_ ?c2 ?c3 ?c4; (case kA => exact rfl); (case kF => exact rfl); (case kK => assumption); (case k6 => k_is); (case k7 => k_is); (case k8 => ktr_room); (case k9 => first | exact BindsTo.of_eq rfl | exact binds_K (by k_in) rfl (by k_is) rfl rfl rfl); (case kB => exact rfl); (case kD => decide +kernel); (case c2 => exact rfl); (case c3 => exact rfl); (case c4 => exact rfl)))
  intro g' L' h' FG' F' N' B' X' T' G'
  (try dsimp only); (try k_lift B'); (try k_fold)
  k_steps
  rename StrsAre _ _ => hlook'
  refine While_inv2 (s := _) (fun n m news => ∃ p' t tc vs' ys', ys.length ≤ n + p' ∧ p' < ys'.length ∧ m (Str.ofString "heap") = some (.ref l) ∧ (∃ t, m (Str.ofString "endpos") = some (.int (ys.length : Nat) t)) ∧ m (Str.ofString "startpos") = some (.int (p : Nat) t1) ∧ m (Str.ofString "pos") = some (.int (p' : Nat) t) ∧ (∃ t, m (Str.ofString "newitem") = some (.str (gS ys p) t)) ∧ m (Str.ofString "childpos") = some (.int ((2 * p' + 1 : Nat) : Int) tc) ∧ news = [(l, W.listOf (List.toArray vs') c)] ∧ StrsAre vs' ys' ∧ ys'.length = ys.length ∧ suF n ys' p' = suF ys.length ys p) (n₀ := ys.length) (by k_asm) (by k_asm) ⟨p, _, _, vs, ys, Nat.le_add_right _ _, hp, rfl, ⟨_, rfl⟩, rfl, rfl, ⟨_, rfl⟩, rfl, rfl, hlook', rfl, rfl⟩ ?_
  rintro n m₁ news₁ h₁ tk₁ F₁ N₁ ⟨p', t, tc, vs', ys', hpn, hpl, e1, ⟨t2, e2⟩, e3, e4, ⟨t5, e5⟩, e6, rfl, hs', hlen, htgt⟩
  have F₂ := fr_pin F₁ [(Str.ofString "heap", .ref l), (Str.ofString "endpos", .int (ys.length : Nat) t2), (Str.ofString "startpos", .int (p : Nat) t1), (Str.ofString "pos", .int (p' : Nat) t), (Str.ofString "newitem", .str (gS ys p) t5), (Str.ofString "childpos", .int ((2 * p' + 1 : Nat) : Int) tc)] (by
    intro q hq
    simp only [List.mem_cons, List.not_mem_nil, or_false] at hq
    rcases hq with rfl | rfl | rfl | rfl | rfl | rfl <;> assumption)
  clear F₁
  dsimp only [pinM] at F₂
  clear e1 e2 e3 e4 e5 e6 hlook'
  k_steps
  · rename ((2 * p' + 1 : Nat) : Int) < _ => hc
    rename @LT.lt (List Nat) _ _ _ => hlt
    rename StrsAre (List.set _ _ _) _ => hs9
    obtain ⟨n', rfl⟩ : ∃ n', n = n' + 1 := ⟨n - 1, by omega⟩
    refine ⟨_, _, _, _, n', rfl, by k_asm, by k_asm, Nat.lt_succ_self _, 2 * p' + 1, _, _, _, _, by omega, by rw [List.length_set]; omega, by rfl, ⟨_, by rfl⟩, by rfl, by rfl, ⟨_, by rfl⟩, by rfl, rfl, hs9, by rw [List.length_set]; exact hlen, ?_⟩
    rw [← htgt, suF, if_pos (by omega), if_neg (fun h => by have h2 := of_decide_eq_false h.2; exact h2 hlt)]
    rfl
  · rename ((2 * p' + 1 : Nat) : Int) < _ => hc
    rename ((2 * p' + 1 : Nat) : Int) + 1 < _ => hc2
    rename ¬ @LT.lt (List Nat) _ _ _ => hlt
    rename StrsAre (List.set _ _ _) _ => hs9
    obtain ⟨n', rfl⟩ : ∃ n', n = n' + 1 := ⟨n - 1, by omega⟩
    refine ⟨_, _, _, _, n', rfl, by k_asm, by k_asm, Nat.lt_succ_self _, 2 * p' + 2, _, _, _, _, by omega, by rw [List.length_set]; omega, by rfl, ⟨_, by rfl⟩, by rfl, by rfl, ⟨_, by rfl⟩, by rfl, rfl, hs9, by rw [List.length_set]; exact hlen, ?_⟩
    rw [← htgt, suF, if_pos (by omega), if_pos ⟨by omega, decide_eq_false hlt⟩]
    rfl
  · rename ((2 * p' + 1 : Nat) : Int) < _ => hc
    rename ¬ ((2 * p' + 1 : Nat) : Int) + 1 < _ => hc2
    rename StrsAre (List.set _ _ _) _ => hs9
    obtain ⟨n', rfl⟩ : ∃ n', n = n' + 1 := ⟨n - 1, by omega⟩
    refine ⟨_, _, _, _, n', rfl, by k_asm, by k_asm, Nat.lt_succ_self _, 2 * p' + 1, _, _, _, _, by omega, by rw [List.length_set]; omega, by rfl, ⟨_, by rfl⟩, by rfl, by rfl, ⟨_, by rfl⟩, by rfl, rfl, hs9, by rw [List.length_set]; exact hlen, ?_⟩
    rw [← htgt, suF, if_pos (by omega), if_neg (fun h => by omega)]
    rfl
  · rename ¬ ((2 * p' + 1 : Nat) : Int) < _ => hc
    have e : suF n ys' p' = (ys', p') := by
      cases n with
      | zero => rfl
      | succ n => rw [suF, if_neg (by omega)]
    rename StrsAre _ _ => hs8
    refine hret _ _ _ _ (by k_asm) (rw_news (muts := [(l, W.listOf (List.toArray vs) c)]) (news' := [_]) (rest := rest) (fun q hq => N q (hn ▸ List.mem_cons_of_mem _ hq)) G' (fun q hq r hr => by rw [List.mem_singleton.mp hr]; exact neAll_off1 ho q hq) (by k_asm) (by k_asm)) ⟨rfl, _, rfl, ?_⟩
    unfold siftup
    rw [← htgt, e]
    have e2 : gS (ys'.set p' (gS ys p)) p' = gS ys p := by simp [gS, List.getD_eq_getElem?_getD, hpl]
    have e3 : (ys'.set ((p' : Int)).toNat (gS ys p)) = ys'.set p' (gS ys p) := rfl
    rw [e3, e2] at hs8
    exact hs8
end
section
local macro_rules | `(tactic| walk_at "binaryOp FloorDiv int int") => `(tactic| (k_here; refine r_half ?_))
local macro_rules | `(tactic| walk_at "call type:reversed") => `(tactic| (refine hold ?_))
local macro_rules | `(tactic| walk_at "pyIter ref") => `(tactic| (refine hold ?_))
local macro_rules | `(tactic| walk_at "call ref") => `(tactic| (k_here; (show wpAny _ _ (call (Value.ref 147) _) _ _ _); k_dflt (refine' (su_c ?a1 ?a2 ?a3 ?a4 ?a5).use ?B ?F ?X ?N ?T ?hk ?hd ?hu ?_; (case N => k_asm); (case a5 => rfl); (case a1 => with_reducible assumption); (case a2 => omega); (case a3 => omega); (case a4 => assumption); (case B => k_asm); (case F => k_asm); (case X => k_asm); (case T => k_asm); (case hk => rfl); (case hd => ktr_room); (case hu => ktr_units)); intro v h' tk' news' F' N' h9; obtain ⟨e1, vs9, e2, hs9⟩ := h9; subst e1; subst e2))
theorem hp_c {w mean mg mb news rest l vs c ys} (hs : StrsAre vs ys) (hy : ys.length < 64) (ho : LCg.Off1 l rest) (hn : news = (l, W.listOf (List.toArray vs) c) :: rest) :
    Does 6 w mean mg mb news (call (.ref 133) [.ref l]) (fun v news' => v = .none ∧ ∃ vs' , news' = (l, W.listOf (List.toArray vs') c) :: rest ∧ StrsAre vs' (hpF (ys.length / 2) ys)) := by
  have hl : (l, W.listOf (List.toArray vs) c) ∈ news := hn ▸ List.mem_cons_self
  unfold Does
  intro dp un gd cn cs a ccd cl outer A₀ base h₀ L m s Q E B F X N T hk hd hu hret
  refine wpAny_call ?_
  have hsub : ∀ p ∈ ([(l, W.listOf (List.toArray vs) c)] : List (Addr × Obj)), p ∈ news := by
    repeat (first | exact List.forall_mem_nil _ | refine List.forall_mem_cons.mpr ⟨by assumption, ?_⟩)
  k_dflt (first
    | (refine' code_defG (news := [(l, W.listOf (List.toArray vs) c)]) B F X (fun p hp => N p (hsub p hp)) T ?kA ?kF ?kK ?k6 ?k7 ?k8 ?k9 ?kB ?_ ?c2 ?c3 ?c4 ?c5; (case kA => exact rfl); (case kF => exact rfl); (case kK => assumption); (case k6 => k_is); (case k7 => k_is); (case k8 => ktr_room); (case k9 => first | exact BindsTo.of_eq rfl | exact binds_K (by k_in) rfl (by k_is) rfl rfl rfl); (case c5 => decide); (case kB => exact locs rfl); (case c2 => exact rfl); (case c3 => exact rfl); (case c4 => exact rfl))
    | (refine' code_defGC (news := [(l, W.listOf (List.toArray vs) c)]) B F X (fun p hp => N p (hsub p hp)) T ?kA ?kF ?kK ?k6 ?k7 ?k8 ?k9 ?kB ?kD ?_ ?c2 ?c3 ?c4; (case kA => exact rfl); (case kF => exact rfl); (case kK => assumption); (case k6 => k_is); (case k7 => k_is); (case k8 => ktr_room); (case k9 => first | exact BindsTo.of_eq rfl | exact binds_K (by k_in) rfl (by k_is) rfl rfl rfl); (case kB => exact rfl); (case kD => decide +kernel); (case c2 => exact rfl); (case c3 => exact rfl); (case c4 => exact rfl)))
  intro g' L' h' FG' F' N' B' X' T' G'
  (try dsimp only); (try k_lift B'); (try k_fold)
  k_steps
  unfold Hold
  rename IsRange _ _ _ _ _ _ _ _ => hR
  refine r_revrange (by k_asm) (by k_asm) hR (by omega) fun D h8 F8 N8 l1 => ?_
  have lD : l ≠ D := Nat.ne_of_lt (l1 (l, _) (List.mem_singleton.mpr rfl))
  k_steps
  unfold Hold
  refine rr_iter (env := (envOf _ _ _ _ _)) (fun i m news => m (Str.ofString "x") = some (.ref l) ∧ ∃ vs' ys', news = [(l, W.listOf (List.toArray vs') c)] ∧ StrsAre vs' ys' ∧ ys'.length = ys.length ∧ hpF (ys.length / 2 - i) ys' = hpF (ys.length / 2) ys) rfl F8 N8 (fun p hp e => Nat.lt_irrefl _ (e ▸ l1 p hp)) ⟨rfl, vs, ys, rfl, hs, rfl, rfl⟩ ?_ ?_
  · rintro i t m₁ news₁ h₁ tk₁ o hin off ⟨e1, vs', ys', rfl, hs', hlen, htgt⟩ F₁ N₁
    have F₂ := fr_pin F₁ [(Str.ofString "x", .ref l)] (by
      intro q hq
      rw [List.mem_singleton.mp hq]
      exact e1)
    clear F₁
    dsimp only [pinM] at F₂
    have ei : ((ys.length / 2 : Nat) : Int) - 1 - (i : Int) = ((ys.length / 2 - (i + 1) : Nat) : Int) := by omega
    rw [ei] at F₂
    have hoff : LCg.Off1 l [(D, o)] := ⟨Ne.symm lD, trivial⟩
    rw [List.singleton_append] at N₁
    clear e1 hs F8 N8
    k_steps
    rename StrsAre _ (siftup _ _) => hs8
    refine InvEndG.intro (nx := [(l, _)]) (by k_asm) (by k_asm) ⟨rfl, _, _, rfl, hs8, by rw [siftup_len]; exact hlen, ?_⟩ ?_ ?_ ?_
    · rw [← htgt, show ys.length / 2 - i = (ys.length / 2 - (i + 1)) + 1 by omega, hpF]
    · intro p hp b hb
      rw [List.mem_singleton.mp hp]
      rw [List.mem_singleton.mp hb]
      exact Ne.symm lD
    · intro p hp; exact List.mem_cons.mpr (.inl (List.mem_singleton.mp hp))
    · intro p hp; exact List.mem_cons_of_mem _ hp
  · rintro m₁ news₁ h₁ tk₁ ⟨e1, vs', ys', rfl, hs', hlen, htgt⟩ F₁ N₁
    k_steps
    refine hret _ _ _ _ (by k_asm) (rw_news (muts := [(l, W.listOf (List.toArray vs) c)]) (news' := [_]) (rest := rest) (fun q hq => N q (hn ▸ List.mem_cons_of_mem _ hq)) G' (fun q hq r hr => by rw [List.mem_singleton.mp hr]; exact neAll_off1 ho q hq) (by k_asm) (by k_asm)) ⟨rfl, _, rfl, ?_⟩
    rw [← htgt, Nat.sub_self]
    exact hs'
end
section
theorem su_c0 {w mean mg mb news rest l vs c ys t1} (hs : StrsAre vs ys) (hp : 0 < ys.length) (hy : ys.length < 64) (ho : LCg.Off1 l rest) (hn : news = (l, W.listOf (List.toArray vs) c) :: rest) :
    Does 4 w mean mg mb news (call (.ref 147) [.ref l, .int 0 t1]) (fun v news' => v = .none ∧ ∃ vs' , news' = (l, W.listOf (List.toArray vs') c) :: rest ∧ StrsAre vs' (siftup ys 0)) := su_c (p := 0) hs hp hy ho hn
local macro_rules | `(tactic| walk_at "call ref") => `(tactic| (k_here; (show wpAny _ _ (call (Value.ref 147) _) _ _ _); k_dflt (refine' (su_c0 ?a1 ?a2 ?a3 ?a4 ?a5).use ?B ?F ?X ?N ?T ?hk ?hd ?hu ?_; (case N => k_asm); (case a5 => rfl); (case a1 => with_reducible assumption); (case a2 => (rw [List.length_set]; exact Nat.succ_pos _)); (case a3 => (rw [List.length_set]; assumption)); (case a4 => exact trivial); (case B => k_asm); (case F => k_asm); (case X => k_asm); (case T => k_asm); (case hk => rfl); (case hd => ktr_room); (case hu => ktr_units)); intro v h' tk' news' F' N' h9; obtain ⟨e1, vs9, e2, hs9⟩ := h9; subst e1; subst e2))
local macro_rules | `(tactic| walk_at "call builtin:list.pop") => `(tactic| (k_here; k_dflt (refine' r_pop ?F ?N ?o ?z ?_; (case F => k_asm); (case N => k_asm); (case o => exact List.forall_mem_nil _); (case z => assumption)); intro h' F' N'))
theorem po_c {w mean mg mb news rest l vs c ys} {zs : List Str} {z : Str} (hs : StrsAre vs ys) (hy : ys.length < 64) (hz : ys = zs ++ [z]) (ho : LCg.Off1 l rest) (hn : news = (l, W.listOf (List.toArray vs) c) :: rest) :
    Does 6 w mean mg mb news (call (.ref 126) [.ref l]) (fun v news' => ∃ vs' c' t, v = .str (gS ys 0) t ∧ news' = (l, W.listOf (List.toArray vs') c') :: rest ∧ StrsAre vs' (popL ys)) := by
  have hl : (l, W.listOf (List.toArray vs) c) ∈ news := hn ▸ List.mem_cons_self
  subst hz
  obtain ⟨ps, tz, rfl, hps⟩ := strs_snoc hs
  have hlz : ps.length < 64 := by
    rw [StrsAre.length hps]
    rw [List.length_append] at hy
    omega
  unfold Does
  intro dp un gd cn cs a ccd cl outer A₀ base h₀ L m s Q E B F X N T hk hd hu hret
  refine wpAny_call ?_
  have hsub : ∀ p ∈ ([(l, W.listOf (List.toArray (ps ++ [.str z tz])) c)] : List (Addr × Obj)), p ∈ news := by
    repeat (first | exact List.forall_mem_nil _ | refine List.forall_mem_cons.mpr ⟨by assumption, ?_⟩)
  k_dflt (first
    | (refine' code_defG (news := [(l, W.listOf (List.toArray (ps ++ [.str z tz])) c)]) B F X (fun p hp => N p (hsub p hp)) T ?kA ?kF ?kK ?k6 ?k7 ?k8 ?k9 ?kB ?_ ?c2 ?c3 ?c4 ?c5; (case kA => exact rfl); (case kF => exact rfl); (case kK => assumption); (case k6 => k_is); (case k7 => k_is); (case k8 => ktr_room); (case k9 => first | exact BindsTo.of_eq rfl | exact binds_K (by k_in) rfl (by k_is) rfl rfl rfl); (case c5 => decide); (case kB => exact locs rfl); (case c2 => exact rfl); (case c3 => exact rfl); (case c4 => exact rfl))
    | (refine' code_defGC (news := [(l, W.listOf (List.toArray (ps ++ [.str z tz])) c)]) B F X (fun p hp => N p (hsub p hp)) T ?kA ?kF ?kK ?k6 ?k7 ?k8 ?k9 ?kB ?kD ?_ ?c2 ?c3 ?c4; (case kA => exact rfl); (case kF => exact rfl); (case kK => assumption); (case k6 => k_is); (case k7 => k_is); (case k8 => ktr_room); (case k9 => first | exact BindsTo.of_eq rfl | exact binds_K (by k_in) rfl (by k_is) rfl rfl rfl); (case kB => exact rfl); (case kD => decide +kernel); (case c2 => exact rfl); (case c3 => exact rfl); (case c4 => exact rfl)))
  intro g' L' h' FG' F' N' B' X' T' G'
  (try dsimp only); (try k_lift B'); (try k_fold)
  cases hps with
  | nil =>
    k_steps
    exact hret _ _ _ _ (by k_asm) (rw_news (muts := [(l, W.listOf (List.toArray ([] ++ [.str z tz])) c)]) (news' := [_]) (rest := rest) (fun q hq => N q (hn ▸ List.mem_cons_of_mem _ hq)) G' (fun q hq r hr => by rw [List.mem_singleton.mp hr]; exact neAll_off1 ho q hq) (by k_asm) (by k_asm)) ⟨[], _, _, rfl, rfl, .nil⟩
  | cons y t hps =>
    rename_i ps zs
    have hp2 : StrsAre (.str y t :: ps) (y :: zs) := .cons y t hps
    have hl2 : (y :: zs).length < 64 := by rw [List.length_append] at hy; omega
    have hp0 : 0 < (y :: zs).length := Nat.succ_pos _
    clear hps hs
    k_steps
    rename StrsAre _ (siftup _ _) => hs8
    refine hret _ _ _ _ (by k_asm) (rw_news (muts := [(l, W.listOf (List.toArray ((.str y t :: ps) ++ [.str z tz])) c)]) (news' := [_]) (rest := rest) (fun q hq => N q (hn ▸ List.mem_cons_of_mem _ hq)) G' (fun q hq r hr => by rw [List.mem_singleton.mp hr]; exact neAll_off1 ho q hq) (by k_asm) (by k_asm)) ⟨_, _, _, rfl, rfl, ?_⟩
    have e : popL ((y :: zs) ++ [z]) = siftup ((y :: zs).set 0 z) 0 := by
      unfold popL
      rw [if_neg (by rw [List.dropLast_concat]; exact List.cons_ne_nil _ _), List.dropLast_concat]
      have : gS ((y :: zs) ++ [z]) (((y :: zs) ++ [z]).length - 1) = z := by simp [gS, List.getD_eq_getElem?_getD]
      rw [this]
    rw [e]
    exact hs8
end
section
local macro_rules | `(tactic| walk_at "call ref") => `(tactic| (refine hold ?_))
local macro_rules | `(tactic| walk_at "exec While") => `(tactic| (refine hold ?_))
local macro_rules | `(tactic| walk_at "compareOp NotEq ref ref") => `(tactic| (refine hold ?_))
theorem of_c {w mean mg mb news l vs c ys} (hs : StrsAre vs ys) (hy : ys.length < 64) (hok : ∀ y ∈ ys, PyData.strOk y = true) (hl : (l, W.listOf (List.toArray vs) c) ∈ news) :
    Does 12 w mean mg mb news (call (.ref 190) [.ref l]) (fun v news' => ∃ D vs' c', v = .ref D ∧ news' = (D, W.listOf (List.toArray vs') c') :: news ∧ StrsAre vs' (offF ys.length (hpF (ys.length / 2) ys)) ∧ LCg.Off1 D news) := by
  unfold Does
  intro dp un gd cn cs a ccd cl outer A₀ base h₀ L m s Q E B F X N T hk hd hu hret
  refine wpAny_call ?_
  have hsub : ∀ p ∈ ([(l, W.listOf (List.toArray vs) c)] : List (Addr × Obj)), p ∈ news := by
    repeat (first | exact List.forall_mem_nil _ | refine List.forall_mem_cons.mpr ⟨by assumption, ?_⟩)
  k_dflt (first
    | (refine' code_defG (news := [(l, W.listOf (List.toArray vs) c)]) B F X (fun p hp => N p (hsub p hp)) T ?kA ?kF ?kK ?k6 ?k7 ?k8 ?k9 ?kB ?_ ?c2 ?c3 ?c4 ?c5; (case kA => exact rfl); (case kF => exact rfl); (case kK => assumption); (case k6 => k_is); (case k7 => k_is); (case k8 => ktr_room); (case k9 => first | exact BindsTo.of_eq rfl | exact binds_K (by k_in) rfl (by k_is) rfl rfl rfl); (case c5 => decide); (case kB => exact locs rfl); (case c2 => exact rfl); (case c3 => exact rfl); (case c4 => exact rfl))
    | (refine' code_defGC (news := [(l, W.listOf (List.toArray vs) c)]) B F X (fun p hp => N p (hsub p hp)) T ?kA ?kF ?kK ?k6 ?k7 ?k8 ?k9 ?kB ?kD ?_ ?c2 ?c3 ?c4; (case kA => exact rfl); (case kF => exact rfl); (case kK => assumption); (case k6 => k_is); (case k7 => k_is); (case k8 => ktr_room); (case k9 => first | exact BindsTo.of_eq rfl | exact binds_K (by k_in) rfl (by k_is) rfl rfl rfl); (case kB => exact rfl); (case kD => decide +kernel); (case c2 => exact rfl); (case c3 => exact rfl); (case c4 => exact rfl)))
  intro g' L' h' FG' F' N' B' X' T' G'
  (try dsimp only); (try k_lift B'); (try k_fold)
  k_steps
  unfold Hold
  rename_i tk0 H c1 h0 l1 h1 tk1 O h2 l2 h3 F8 N8
  refine (hp_c (vs := vs) (c := c1) (ys := ys) (rest := [(O, W.listOf #[] 0), (l, W.listOf (List.toArray vs) c)]) hs hy ⟨Ne.symm (Nat.ne_of_lt l2.1), Nat.ne_of_lt l1, trivial⟩ rfl).use (by k_asm) (by k_asm) (by k_asm) (fun p hp => N8 p (by
    simp only [List.mem_cons, List.not_mem_nil, or_false] at hp ⊢
    rcases hp with e | e | e <;> simp [e])) (by k_asm) rfl (by ktr_room) (by ktr_units) ?_
  rintro v h' tk' news' F9 N9 ⟨rfl, vs9, rfl, hs9⟩
  clear F8 N8
  k_steps
  unfold Hold
  refine While_inv2 (s := _) (fun n m news => ∃ hv hy ov os c2 c3, m (Str.ofString "heap") = some (.ref H) ∧ m (Str.ofString "off") = some (.ref O) ∧ news = [(H, W.listOf (List.toArray hv) c2), (O, W.listOf (List.toArray ov) c3), (l, W.listOf (List.toArray vs) c)] ∧ StrsAre hv hy ∧ StrsAre ov os ∧ (∀ y ∈ hy, PyData.strOk y = true) ∧ hy.length ≤ n ∧ os.length + hy.length = ys.length ∧ os ++ offF n hy = offF ys.length (hpF (ys.length / 2) ys)) (n₀ := ys.length) F9 N9 ⟨vs9, _, [], [], c1, 0, rfl, rfl, rfl, hs9, .nil, fun y hy => hok y ((hpF_perm _ _ (by omega)).mem_iff.mp hy), by rw [hpF_len]; exact Nat.le_refl _, by rw [hpF_len]; exact Nat.zero_add _, rfl⟩ ?_
  rintro n m₁ news₁ h₁ tk₁ F₁ N₁ ⟨hv, hy', ov, os, c2, c3, e1, e2, rfl, hsv, hso, hok', hlen, hsum, htgt⟩
  have F₂ := fr_pin F₁ [(Str.ofString "heap", .ref H), (Str.ofString "off", .ref O)] (by
    intro q hq
    simp only [List.mem_cons, List.not_mem_nil, or_false] at hq
    rcases hq with rfl | rfl <;> assumption)
  clear F₁
  dsimp only [pinM] at F₂
  clear e1 e2 F9 N9 hs9
  k_steps
  unfold Hold
  rename_i ha E4 hb F8 N8 l4
  refine r_ne_nil N8 (by k_mem) hsv hok' (by k_mem) (by ktr_units) ?_
  by_cases hn0 : hy' = []
  · subst hn0
    rw [show (!decide (([] : List Str) = [])) = false by simp]
    k_steps
    have e9 : offF n [] = [] := by cases n <;> rfl
    rw [e9, List.append_nil] at htgt
    refine hret _ _ _ _ (by k_asm) (fun p hp => ro_news N G' hsub (by k_asm) (by k_asm) (List.forall_mem_cons.mpr ⟨by k_mem, List.forall_mem_nil _⟩) p ((List.mem_cons.mp hp).elim (fun e => List.mem_append_left _ (by rw [e]; k_mem)) (List.mem_append_right _))) ⟨_, _, _, rfl, rfl, by rw [← htgt]; assumption, off1_of (ro_off (o := W.listOf (List.toArray ov) c3) N G' N8 (by k_mem) (List.forall_mem_cons.mpr ⟨Nat.ne_of_lt l2.2, List.forall_mem_nil _⟩))⟩
  · rw [show (!decide (hy' = [])) = true by simp [hn0]]
    have hp0 : 0 < hy'.length := List.length_pos_iff.mpr hn0
    k_steps
    unfold Hold
    rename_i t9 h9 F9 N9
    rename StrsAre ov os => hso
    obtain ⟨zs, z, e⟩ : ∃ zs z, hy' = zs ++ [z] := ⟨_, _, (List.dropLast_concat_getLast hn0).symm⟩
    refine (po_c (vs := hv) (c := c2) (ys := hy') (rest := [(E4, W.listOf #[] 0), (O, W.listOf (List.toArray ov) c3), (l, W.listOf (List.toArray vs) c)]) hsv (by omega) e ⟨Ne.symm (Nat.ne_of_lt l4.1), Ne.symm (Nat.ne_of_lt l2.1), Nat.ne_of_lt l1, trivial⟩ rfl).use (by k_asm) F9 (by k_asm) (fun p hp => N9 p (by
      simp only [List.mem_cons, List.not_mem_nil, or_false] at hp ⊢
      rcases hp with e | e | e | e <;> simp [e])) (by k_asm) rfl (by ktr_room) (by ktr_units) ?_
    rintro v h' tk' news' F7 N7 ⟨hv', c4, t4, rfl, rfl, hs4⟩
    clear F9 N9
    k_steps
    · rename _ = true => hne
      exact absurd hne (by show ¬ ((gS hy' 0 != gS hy' 0) = true); simp)
    · rename_i h6 F6 N6
      obtain ⟨n', rfl⟩ : ∃ n', n = n' + 1 := ⟨n - 1, by omega⟩
      have hperm := popL_perm hn0
      have hl6 := popL_len hn0
      refine ⟨_, _, _, [(H, W.listOf (List.toArray hv') c4), (O, W.listOf (List.toArray (ov ++ [Value.str (gS hy' 0) t9])) (c3 + 1)), (l, W.listOf (List.toArray vs) c)], n', rfl, by k_asm, fun p hp => N6 p ?_, Nat.lt_succ_self _, hv', popL hy', ov ++ [Value.str (gS hy' 0) t9], os ++ [gS hy' 0], c4, c3 + 1, rfl, rfl, rfl, hs4, StrsAre.append' hso (.cons _ _ .nil), fun y hy => hok' y (hperm.mem_iff.mp (List.mem_cons_of_mem _ hy)), by omega, by rw [List.length_append, List.length_singleton]; omega, ?_⟩
      · have e9 : (ov.toArray.push (Value.str (gS hy' 0) t9)) = (ov ++ [Value.str (gS hy' 0) t9]).toArray := List.push_toArray ..
        rw [← e9] at hp
        simp only [List.mem_cons, List.not_mem_nil, or_false] at hp ⊢
        rcases hp with e | e | e <;> simp [e]
      · rw [← htgt, offF, if_neg hn0, List.append_assoc]; rfl
end
end
section
local macro_rules | `(tactic| walk_at "exec For Tuple Name cons nil") => `(tactic| (k_here; (rename Fr _ _ _ _ => lF'); (with_unfolding_all refine' For_turns lF' ?_); k_whole))
local macro_rules | `(tactic| walk_at "pyIter ref") => `(tactic| (refine hold ?_))
local macro_rules | `(tactic| walk_at "call builtin:list.append") => `(tactic| (k_here; k_dflt (refine' append_K ?k1 ?k2 ?k3 ?_ ?z; (case k1 => k_asm); (case k2 => k_asm); (case k3 => k_upd); (case z => (rw [sizeLine_eq, List.size_toArray]; omega)); k_whole); intro h' F' N'))
theorem rec_c {w mean mg mb news l vs c} {rs : List (Str × Bool)} (hr : AllR (RuleIs news) vs rs) (hy : rs.length < 64) (hl : (l, W.listOf (List.toArray vs) c) ∈ news) :
    Does 6 w mean mg mb news (call (.ref 173) [.ref l]) (fun v news' => ∃ x, v = .ref x ∧ RecIs w news' x rs ∧ ∀ p ∈ news, p ∈ news') := by
  unfold Does
  intro dp un gd cn cs a ccd cl outer A₀ base h₀ L m s Q E B F X N T hk hd hu hret
  refine wpAny_call ?_
  have hsub : ∀ p ∈ news, p ∈ news := fun _ h => h
  k_dflt (first
    | (refine' code_defG (news := (news : List (Addr × Obj))) B F X (fun p hp => N p (hsub p hp)) T ?kA ?kF ?kK ?k6 ?k7 ?k8 ?k9 ?kB ?_ ?c2 ?c3 ?c4 ?c5; (case kA => exact rfl); (case kF => exact rfl); (case kK => assumption); (case k6 => k_is); (case k7 => k_is); (case k8 => ktr_room); (case k9 => first | exact BindsTo.of_eq rfl | exact binds_K (by k_in) rfl (by k_is) rfl rfl rfl); (case c5 => decide); (case kB => exact locs rfl); (case c2 => exact rfl); (case c3 => exact rfl); (case c4 => exact rfl))
    | (refine' code_defGC (news := (news : List (Addr × Obj))) B F X (fun p hp => N p (hsub p hp)) T ?kA ?kF ?kK ?k6 ?k7 ?k8 ?k9 ?kB ?kD ?_ ?c2 ?c3 ?c4; (case kA => exact rfl); (case kF => exact rfl); (case kK => assumption); (case k6 => k_is); (case k7 => k_is); (case k8 => ktr_room); (case k9 => first | exact BindsTo.of_eq rfl | exact binds_K (by k_in) rfl (by k_is) rfl rfl rfl); (case kB => exact rfl); (case kD => decide +kernel); (case c2 => exact rfl); (case c3 => exact rfl); (case c4 => exact rfl)))
  intro g' L' h' FG' F' N' B' X' T' G'
  (try dsimp only); (try k_lift B'); (try k_fold)
  k_steps
  unfold Hold
  rename News g' L' _ ((_, W.listOf #[] 0) :: _) => N8
  refine tt_iter (env := (envOf _ _ _ _ _)) (fun i m nx => ∃ x d U R t1 t2 t3 t4 es cR, m (Str.ofString "record") = some (.ref x) ∧ (∀ p ∈ news, p ∈ nx) ∧ (∀ p ∈ news, p.1 ≠ R) ∧ (R, W.listOf (List.toArray es) cR) ∈ nx ∧ (x, instObj 59 d) ∈ nx ∧ (d, recD w t1 t2 t3 t4 U R) ∈ nx ∧ (U, W.listOf #[] 0) ∈ nx ∧ R ≠ x ∧ R ≠ d ∧ R ≠ U ∧ AllR (EntIs w (nx.filter fun p => decide (p.1 ≠ R))) es (rs.take i)) rfl (by k_mem) (by k_asm) N8 ⟨_, _, _, _, _, _, _, _, [], 0, by rfl, (fun p hp => List.mem_cons_of_mem _ (List.mem_cons_of_mem _ (List.mem_cons_of_mem _ (List.mem_cons_of_mem _ hp)))), by k_all, List.mem_cons_self, List.mem_cons_of_mem _ (List.mem_cons_of_mem _ List.mem_cons_self), List.mem_cons_of_mem _ (List.mem_cons_of_mem _ (List.mem_cons_of_mem _ List.mem_cons_self)), List.mem_cons_of_mem _ List.mem_cons_self, by k_ne, by k_ne, by k_ne, .nil⟩ ?_ ?_
  · rintro i v m₁ news₁ h₁ tk₁ I oI hv hoff hl₁ ⟨x, d, U, R, t1, t2, t3, t4, es, cR, e1, hsub1, hRn, mR, mx, md, mU, nx, nd, nU, hes⟩ F₁ N₁
    clear N8
    obtain ⟨r, hri, T9, t9, rfl, mT⟩ := hr.get i v hv
    have F₂ := fr_pin F₁ [(Str.ofString "record", .ref x)] (by
      intro q hq
      rw [List.mem_singleton.mp hq]
      exact e1)
    clear F₁
    dsimp only [pinM] at F₂
    have hoR := off_filter R news₁
    have mx2 := mem_off mx (Ne.symm nx)
    have md2 := mem_off md (Ne.symm nd)
    have mT2 := mem_off (hsub1 _ mT) (hRn _ mT)
    have hIR : R ≠ I := hoff _ mR
    have hI2 : LCg.Off1 I (news₁.filter fun p => decide (p.1 ≠ R)) := off1_of fun p hp => hoff p (List.mem_filter.mp hp).1
    have N₂ : News g' L' h₁ ((I, oI) :: (R, W.listOf (List.toArray es) cR) :: news₁.filter fun p => decide (p.1 ≠ R)) := fun p hp => N₁ p (by
      rcases List.mem_cons.mp hp with e | hp
      · exact e ▸ List.mem_cons_self
      · rcases List.mem_cons.mp hp with e | hp
        · exact e ▸ List.mem_cons_of_mem _ mR
        · exact List.mem_cons_of_mem _ (List.mem_filter.mp hp).1)
    have hnt : ∀ p ∈ news, p ∈ news₁.filter fun p => decide (p.1 ≠ R) := fun p hp => mem_off (hsub1 p hp) (hRn p hp)
    have mU2 := mem_off mU (Ne.symm nU)
    generalize hG : (news₁.filter fun p => decide (p.1 ≠ R)) = tl at *
    clear N₁
    have hel : es.length < 1000 := by rw [hes.length, List.length_take]; omega
    k_steps
    rename News g' L' _ ((_, W.listOf #[Value.str r.1 t9] 0) :: _) => N8
    refine inv_fin2 (tl := tl) (by k_asm) N8 (List.mem_cons_of_mem _ (List.mem_cons_of_mem _ (List.mem_cons_of_mem _ (List.mem_cons_of_mem _ (List.mem_cons_of_mem _ List.mem_cons_self))))) (fun p hp => (List.mem_cons_of_mem _ (List.mem_cons_of_mem _ (List.mem_cons_of_mem _ (List.mem_cons_of_mem _ (List.mem_cons_of_mem _ (List.mem_cons_of_mem _ (List.mem_cons_of_mem _ hp)))))))) (neAll_off1 hI2) fun hled => ?_
    refine ⟨?_, x, d, U, R, t1, t2, t3, t4, es ++ [_], cR + 1, by rfl, ?_, hRn, mem_off (by rw [← List.push_toArray]; exact (List.mem_cons_of_mem _ (List.mem_cons_of_mem _ (List.mem_cons_of_mem _ (List.mem_cons_of_mem _ (List.mem_cons_of_mem _ (List.mem_cons_of_mem _ List.mem_cons_self))))))) hIR, ?_, ?_, ?_, nx, nd, nU, ?_⟩
    · exact hled _ (hnt _ hl)
    · exact fun p hp => hled _ (hnt _ hp)
    · exact hled _ mx2
    · exact hled _ md2
    · exact hled _ mU2
    · rw [take_snoc hri]
      refine AllR.append (hes.mono fun v a h => h.mono fun p hp => mem_off (hled p hp) (neAll_off1 hoR p hp)) (AllR.one ⟨_, _, _, _, _, _, _, _, _, _, rfl, mem_off (mem_off (List.mem_cons_of_mem _ (List.mem_cons_of_mem _ (List.mem_cons_of_mem _ List.mem_cons_self))) ?_) ?_, mem_off (mem_off (List.mem_cons_of_mem _ (List.mem_cons_of_mem _ (List.mem_cons_of_mem _ (List.mem_cons_of_mem _ List.mem_cons_self)))) ?_) ?_, mem_off (mem_off List.mem_cons_self ?_) ?_⟩)
      all_goals k_ne
  · rintro m₁ news₁ h₁ tk₁ ⟨x, d, U, R, t1, t2, t3, t4, es, cR, e1, hsub1, hRn, mR, mx, md, mU, nx, nd, nU, hes⟩ F₁ N₁
    have F₂ := fr_pin F₁ [(Str.ofString "record", .ref x)] (by
      intro q hq
      rw [List.mem_singleton.mp hq]
      exact e1)
    clear F₁
    dsimp only [pinM] at F₂
    rw [hr.length, List.take_length] at hes
    k_steps
    exact hret _ _ _ _ (by k_asm) (by k_asm) ⟨x, rfl, ⟨d, U, R, t1, t2, t3, t4, es, cR, 0, mx, md, mU, mR, hes.mono fun v a h => h.mono fun p hp => (List.mem_filter.mp hp).1⟩, hsub1⟩
end
section
local macro_rules | `(tactic| walk_at "call type:set") => `(tactic| (k_here; k_dflt (refine r_set0 (by k_asm) (by k_asm) rfl (by k_mem) ?_); intro D' o' h' t' F' N' hc' l1))
local macro_rules | `(tactic| walk_at "call type:filter") => `(tactic| (k_here; k_dflt (refine r_filter (by k_asm) (by k_asm) (by k_mem) ?_); intro M' I' h' F' N' l1 l2))
local macro_rules | `(tactic| walk_at "getAttr ref") => `(tactic| (k_here; (with_reducible show wpAny _ _ (getAttr (Value.ref _) (Str.ofString "__contains__") _) _ _ _); k_dflt (refine r_contains (by k_asm) (by k_asm) (by k_mem) (by assumption) ?_); intro B' h' F' N' l1))
local macro_rules | `(tactic| walk_at "call type:list") => `(tactic| (refine hold ?_))
local macro_rules | `(tactic| walk_at "binaryOp Add ref ref") => `(tactic| (refine hold ?_))
theorem mrg_c {w mean mg mb news x1 x2} {rs1 rs2 : List (Str × Bool)} (hy : rs1.length + rs2.length < 64) (h1 : RecIs w news x1 rs1) (h2 : RecIs w news x2 rs2) :
    Does 6 w mean mg mb news (call (.ref 89) [.ref x1, .ref x2]) (fun v news' => ∃ x, v = .ref x ∧ RecIs w news' x (rs1 ++ rs2) ∧ ∀ p ∈ news, p ∈ news') := by
  obtain ⟨d, U, R, t1, t2, t3, t4, es, c, cU, mx, md, mU, mR, hes⟩ := h1
  obtain ⟨d', U', R', t1', t2', t3', t4', es', c', cU', mx', md', mU', mR', hes'⟩ := h2
  unfold Does
  intro dp un gd cn cs a ccd cl outer A₀ base h₀ L m s Q E B F X N T hk hd hu hret
  refine wpAny_call ?_
  have hsub : ∀ p ∈ news, p ∈ news := fun _ h => h
  k_dflt (first
    | (refine' code_defG (news := (news : List (Addr × Obj))) B F X (fun p hp => N p (hsub p hp)) T ?kA ?kF ?kK ?k6 ?k7 ?k8 ?k9 ?kB ?_ ?c2 ?c3 ?c4 ?c5; (case kA => exact rfl); (case kF => exact rfl); (case kK => assumption); (case k6 => k_is); (case k7 => k_is); (case k8 => ktr_room); (case k9 => first | exact BindsTo.of_eq rfl | exact binds_K (by k_in) rfl (by k_is) rfl rfl rfl); (case c5 => decide); (case kB => exact locs rfl); (case c2 => exact rfl); (case c3 => exact rfl); (case c4 => exact rfl))
    | (refine' code_defGC (news := (news : List (Addr × Obj))) B F X (fun p hp => N p (hsub p hp)) T ?kA ?kF ?kK ?k6 ?k7 ?k8 ?k9 ?kB ?kD ?_ ?c2 ?c3 ?c4; (case kA => exact rfl); (case kF => exact rfl); (case kK => assumption); (case k6 => k_is); (case k7 => k_is); (case k8 => ktr_room); (case k9 => first | exact BindsTo.of_eq rfl | exact binds_K (by k_in) rfl (by k_is) rfl rfl rfl); (case kB => exact rfl); (case kD => decide +kernel); (case c2 => exact rfl); (case c3 => exact rfl); (case c4 => exact rfl)))
  intro g' L' h' FG' F' N' B' X' T' G'
  (try dsimp only); (try k_lift B'); (try k_fold)
  k_steps
  unfold Hold
  rename News g' L' _ ((_, filtO _ _) :: _) => N9
  rename ∀ p ∈ (_, bndO _ _) :: _, @LT.lt Nat _ p.1 _ => lI
  refine r_list_filter rfl (by k_asm) N9 List.mem_cons_self (List.mem_cons_of_mem _ List.mem_cons_self) (by repeat (first | exact mU | refine List.mem_cons_of_mem _ ?_)) (fun p hp => List.mem_cons_of_mem _ (List.mem_cons_of_mem _ (List.mem_cons_of_mem _ (List.mem_cons_of_mem _ hp)))) (fun p hp => Nat.ne_of_lt (lI p (List.mem_cons_of_mem _ (List.mem_cons_of_mem _ hp)))) fun D cD h9 t9 F7 N7 l7 => ?_
  (try k_lt l7)
  clear N9 lI
  k_steps
  unfold Hold
  refine r_ladd (vs := es) (ws := es') (n := c) (k := c') (by k_asm) (by k_asm) (by k_mem) (by k_mem) (by rw [hes.length, hes'.length]; omega) ?_
  intro D2 h8 F8 N8 l8
  (try k_lt l8)
  k_steps
  have hcons : ∀ {a b c d e f : Addr × Obj}, ∀ p ∈ news, p ∈ a :: b :: c :: d :: e :: f :: news := fun p hp => (List.mem_cons_of_mem _ (List.mem_cons_of_mem _ (List.mem_cons_of_mem _ (List.mem_cons_of_mem _ (List.mem_cons_of_mem _ (List.mem_cons_of_mem _ hp))))))
  exact hret _ _ _ _ (by k_asm) (by k_asm) ⟨_, rfl, ⟨_, _, _, _, _, _, _, _, _, _, (List.mem_cons_of_mem _ (List.mem_cons_of_mem _ (List.mem_cons_of_mem _ (List.mem_cons_of_mem _ List.mem_cons_self)))), (List.mem_cons_of_mem _ (List.mem_cons_of_mem _ (List.mem_cons_of_mem _ (List.mem_cons_of_mem _ (List.mem_cons_of_mem _ List.mem_cons_self))))), (List.mem_cons_of_mem _ List.mem_cons_self), List.mem_cons_self, (hes.mono fun v a h => h.mono hcons).append (hes'.mono fun v a h => h.mono hcons)⟩, hcons⟩
end
section
local macro_rules | `(tactic| walk_at "call builtin:str.lower") => `(tactic| (refine hold ?_))
local macro_rules | `(tactic| walk_at "getMethod str") => `(tactic| (k_here; (with_reducible refine GM.lower ?_); dsimp only))
noncomputable def headS (name : Str) : Str := ((Txt.split name (Str.ofString "/"))[0]?).getD Str.empty
theorem headS_of {name y : Str} (h : (Txt.split name (Str.ofString "/"))[0]? = some y) : headS name = y := by unfold headS; rw [h]; rfl
noncomputable def appB (a name : Str) : Bool := !(Builtin.Str.occurrences (Txt.lower (headS name)) (Txt.lower a) 0 (Txt.lower (headS name)).length 1).isEmpty
local macro_rules | `(tactic| walk_at "exec For Name Attribute cons nil") => `(tactic| (k_here; (rename Fr _ _ _ _ => lF'); (with_unfolding_all refine' For_turns lF' ?_); k_whole))
local macro_rules | `(tactic| walk_at "pyIter ref") => `(tactic| (refine hold ?_))
theorem app_c {w mean mg mb news x d U R t1 t2 t3 t4 t5 ta tn cU} {b : Bool} {ag name : Str} (ha : ag.length ≤ 100) (hst : (ag != Str.ofString "*") = true) (hz : name.length = 4) (mx : (x, instObj 59 d) ∈ news) (md : (d, entD w t1 t2 t3 t4 t5 U R b) ∈ news) (mU : (U, W.listOf #[.str ag ta] cU) ∈ news) :
    Does 6 w mean mg mb news (call (.ref 49) [.ref x, .str name tn]) (fun v news' => v = .bool (appB ag name) ∧ ∀ p ∈ news, p ∈ news') := by
  unfold Does
  intro dp un gd cn cs a ccd cl outer A₀ base h₀ L m s Q E B F X N T hk hd hu hret
  refine wpAny_call ?_
  have hsub : ∀ p ∈ news, p ∈ news := fun _ h => h
  k_dflt (first
    | (refine' code_defG (news := (news : List (Addr × Obj))) B F X (fun p hp => N p (hsub p hp)) T ?kA ?kF ?kK ?k6 ?k7 ?k8 ?k9 ?kB ?_ ?c2 ?c3 ?c4 ?c5; (case kA => exact rfl); (case kF => exact rfl); (case kK => assumption); (case k6 => k_is); (case k7 => k_is); (case k8 => ktr_room); (case k9 => first | exact BindsTo.of_eq rfl | exact binds_K (by k_in) rfl (by k_is) rfl rfl rfl); (case c5 => decide); (case kB => exact locs rfl); (case c2 => exact rfl); (case c3 => exact rfl); (case c4 => exact rfl))
    | (refine' code_defGC (news := (news : List (Addr × Obj))) B F X (fun p hp => N p (hsub p hp)) T ?kA ?kF ?kK ?k6 ?k7 ?k8 ?k9 ?kB ?kD ?_ ?c2 ?c3 ?c4; (case kA => exact rfl); (case kF => exact rfl); (case kK => assumption); (case k6 => k_is); (case k7 => k_is); (case k8 => ktr_room); (case k9 => first | exact BindsTo.of_eq rfl | exact binds_K (by k_in) rfl (by k_is) rfl rfl rfl); (case kB => exact rfl); (case kD => decide +kernel); (case c2 => exact rfl); (case c3 => exact rfl); (case c4 => exact rfl)))
  intro g' L' h' FG' F' N' B' X' T' G'
  (try dsimp only); (try k_lift B'); (try k_fold)
  k_steps
  unfold Hold
  rename List.map _ _ = Txt.split _ _ => hsp
  rename _[_]? = some _ => hy
  rename (∀ a : Str, a ∈ List.map (fun x : Str × Tok => x.1) _ → Str.length a ≤ _) => hle
  have hly := hle _ (List.mem_of_getElem? hy)
  rw [hsp] at hy
  have ey := headS_of hy
  rw [← ey] at hly ⊢
  rename News g' L' _ (_ :: news) => N8
  have N9 : News g' L' _ news := fun p hp => N8 p (List.mem_cons_of_mem _ hp)
  clear hy hle hsp ey N8
  refine SCL.lower (by omega) ?_
  intro _
  k_steps
  unfold Hold
  rename News g' L' _ news => N8
  refine tt_iter (vs := [.str ag ta]) (env := (envOf _ _ _ _ _)) (fun i m nx => (∃ t, m (Str.ofString "useragent") = some (.str (Txt.lower (headS name)) t)) ∧ (∀ p ∈ news, p ∈ nx) ∧ (i = 1 → appB ag name = false)) rfl mU (by k_asm) N8 ⟨⟨_, by rfl⟩, fun p hp => hp, fun h => nomatch h⟩ ?_ ?_
  · rintro i v m₁ news₁ h₁ tk₁ I oI hv hoff hl₁ ⟨⟨t8, e1⟩, hsub1, _⟩ F₁ N₁
    clear N8
    obtain ⟨rfl, rfl⟩ : i = 0 ∧ v = .str ag ta := by
      cases i with
      | zero => exact ⟨rfl, (Option.some.inj hv).symm⟩
      | succ i => cases i <;> cases hv
    have F₂ := fr_pin F₁ [(Str.ofString "useragent", .str (Txt.lower (headS name)) t8)] (by
      intro q hq
      rw [List.mem_singleton.mp hq]
      exact e1)
    clear F₁
    dsimp only [pinM] at F₂
    k_steps
    unfold Hold
    refine SCL.lower (by omega) ?_
    intro _
    k_steps
    · rename _ = true => hin
      refine inv_fin2 (tl := news₁) (by k_asm) (by k_asm) List.mem_cons_self (fun p hp => List.mem_cons_of_mem _ hp) hoff fun hled => ?_
      exact ⟨hled _ hl₁, ⟨t8, by rfl⟩, fun p hp => hled _ (hsub1 p hp), fun _ => by unfold appB; rw [hin]; rfl⟩
    · rename _ = false => hin
      exact hret _ _ _ _ (by k_asm) (by k_asm) ⟨by unfold appB; rw [hin]; rfl, fun p hp => List.mem_cons_of_mem _ (hsub1 p hp)⟩
  · rintro m₁ news₁ h₁ tk₁ ⟨⟨t8, e1⟩, hsub1, hno⟩ F₁ N₁
    k_steps
    exact hret _ _ _ _ (by k_asm) (by k_asm) ⟨by rw [hno rfl], hsub1⟩
end
section
local macro_rules | `(tactic| walk_at "exec For Name Attribute cons nil") => `(tactic| (k_here; (rename Fr _ _ _ _ => lF'); (with_unfolding_all refine' For_turns lF' ?_); k_whole))
local macro_rules | `(tactic| walk_at "pyIter ref") => `(tactic| (refine hold ?_))
local macro_rules | `(tactic| walk_at "call ref") => `(tactic| (refine hold ?_))
local macro_rules | `(tactic| walk_at "compareOp Gt bool int") => `(tactic| (k_here; refine gt_bool_int ?_))
local macro_rules | `(tactic| walk_at "getAttr ref") => `(tactic| (k_here; k_dflt (refine' get_ownF ?k1 ?k2 ?k3 ?k4 ?k5 ?k6 ?k7 ?k8 ?k9 ?k10 ?_; (case k3 => k_inst); (case k1 => k_asm); (case k2 => k_asm); (case k4 => k_is); (case k5 => k_is); (case k6 => k_is); (case k7 => k_is); (case k8 => k_is); (case k9 => k_get); (case k10 => k_handed); k_whole)))
/-- allowance, rule by rule: whether one was met, and what is allowed -/
noncomputable def alStep (name : Str) (st : Bool × Bool) (r : Str × Bool) : Bool × Bool := if appB r.1 name then (true, if st.1 && st.2 then st.2 else r.2) else st
noncomputable def alF (name : Str) (rs : List (Str × Bool)) : Bool × Bool := rs.foldl (alStep name) (false, true)
noncomputable def bestV (b : Bool) (t : Tok) : Value := if b then .bool true else .int (-1) t
theorem al_c {w mean mg mb news x tn} {rs : List (Str × Bool)} {name : Str} (hr : RecIs w news x rs) (hy : rs.length < 64) (hag : ∀ r ∈ rs, r.1.length ≤ 100 ∧ (r.1 != Str.ofString "*") = true) (hz : name.length = 4) :
    Does 9 w mean mg mb news (call (.ref 56) [.ref x, .str name tn]) (fun v news' => v = .bool (alF name rs).2 ∧ ∀ p ∈ news, p ∈ news') := by
  obtain ⟨d, U, R, t1, t2, t3, t4, es, c, cU, mx, md, mU, mR, hes⟩ := hr
  unfold Does
  intro dp un gd cn cs a ccd cl outer A₀ base h₀ L m s Q E B F X N T hk hd hu hret
  refine wpAny_call ?_
  have hsub : ∀ p ∈ news, p ∈ news := fun _ h => h
  k_dflt (first
    | (refine' code_defG (news := (news : List (Addr × Obj))) B F X (fun p hp => N p (hsub p hp)) T ?kA ?kF ?kK ?k6 ?k7 ?k8 ?k9 ?kB ?_ ?c2 ?c3 ?c4 ?c5; (case kA => exact rfl); (case kF => exact rfl); (case kK => assumption); (case k6 => k_is); (case k7 => k_is); (case k8 => ktr_room); (case k9 => first | exact BindsTo.of_eq rfl | exact binds_K (by k_in) rfl (by k_is) rfl rfl rfl); (case c5 => decide); (case kB => exact locs rfl); (case c2 => exact rfl); (case c3 => exact rfl); (case c4 => exact rfl))
    | (refine' code_defGC (news := (news : List (Addr × Obj))) B F X (fun p hp => N p (hsub p hp)) T ?kA ?kF ?kK ?k6 ?k7 ?k8 ?k9 ?kB ?kD ?_ ?c2 ?c3 ?c4; (case kA => exact rfl); (case kF => exact rfl); (case kK => assumption); (case k6 => k_is); (case k7 => k_is); (case k8 => ktr_room); (case k9 => first | exact BindsTo.of_eq rfl | exact binds_K (by k_in) rfl (by k_is) rfl rfl rfl); (case kB => exact rfl); (case kD => decide +kernel); (case c2 => exact rfl); (case c3 => exact rfl); (case c4 => exact rfl)))
  intro g' L' h' FG' F' N' B' X' T' G'
  (try dsimp only); (try k_lift B'); (try k_fold)
  k_steps
  unfold Hold
  rename News g' L' _ news => N8
  refine tt_iter (vs := es) (env := (envOf _ _ _ _ _)) (fun i m nx => m (Str.ofString "filename") = some (.str name tn) ∧ (∀ p ∈ news, p ∈ nx) ∧ ∃ st, alF name (rs.take i) = st ∧ (∃ t, m (Str.ofString "best_match") = some (bestV st.1 t)) ∧ m (Str.ofString "allowance") = some (.bool st.2)) rfl mR (by k_asm) N8 ⟨by rfl, fun p hp => hp, (false, true), rfl, ⟨_, by rfl⟩, by rfl⟩ ?_ ?_
  · rintro i v m₁ news₁ h₁ tk₁ I oI hv hoff hl₁ ⟨e1, hsub1, ⟨met, al⟩, hst, ⟨tb, e2⟩, e3⟩ F₁ N₁
    clear N8
    obtain ⟨r, hri, hE⟩ := hes.get i v hv
    obtain ⟨ha1, ha2⟩ := hag r (List.mem_of_getElem? hri)
    have hnext : alF name (rs.take (i + 1)) = alStep name (met, al) r := by
      rw [take_snoc hri]; unfold alF; rw [List.foldl_append]; unfold alF at hst; rw [hst]; rfl
    obtain ⟨x', d', U', R', t1', t2', t3', t4', t5', t', rfl, mx', md', mU'⟩ := hE
    have hs2 : ∀ p ∈ news, p ∈ (I, oI) :: news₁ := fun p hp => List.mem_cons_of_mem _ (hsub1 p hp)
    have mx2 := hs2 _ mx'
    have md2 := hs2 _ md'
    have mU2 := hs2 _ mU'
    cases met
    · have F₂ := fr_pin F₁ [(Str.ofString "filename", .str name tn), (Str.ofString "best_match", .int (-1) tb), (Str.ofString "allowance", .bool al)] (by
        intro q hq
        simp only [List.mem_cons, List.not_mem_nil, or_false] at hq
        rcases hq with rfl | rfl | rfl <;> assumption)
      clear F₁
      dsimp only [pinM] at F₂
      k_steps
      unfold Hold
      rename Fr g' L' _ _ => F₃
      refine (app_c ha1 ha2 hz mx2 md2 mU2).use (by k_asm) F₃ (by k_asm) (by k_asm) (by k_asm) rfl (by ktr_room) (by ktr_units) ?_
      rintro v h' tk' news' F₄ N₄ ⟨rfl, hs3⟩
      have mx3 := hs3 _ mx2
      have md3 := hs3 _ md2
      have hfin : ∀ p ∈ news₁, p ∈ news' := fun p hp => hs3 p (List.mem_cons_of_mem _ hp)
      cases hap : appB r.1 name with
      | false =>
        k_steps
        refine inv_fin2 (tl := news₁) (by k_asm) (by k_asm) (hs3 _ List.mem_cons_self) hfin hoff fun hled => ⟨hled _ hl₁, by rfl, fun p hp => hled _ (hsub1 p hp), (false, al), ?_, ⟨_, by rfl⟩, by rfl⟩
        rw [hnext]; unfold alStep; rw [hap]; rfl
      | true =>
        k_steps
        refine inv_fin2 (tl := news₁) (by k_asm) (by k_asm) (hs3 _ List.mem_cons_self) hfin hoff fun hled => ⟨hled _ hl₁, by rfl, fun p hp => hled _ (hsub1 p hp), (true, r.2), ?_, ⟨tb, by rfl⟩, by rfl⟩
        rw [hnext]; unfold alStep; rw [hap]; rfl
    · have F₂ := fr_pin F₁ [(Str.ofString "filename", .str name tn), (Str.ofString "best_match", .bool true), (Str.ofString "allowance", .bool al)] (by
        intro q hq
        simp only [List.mem_cons, List.not_mem_nil, or_false] at hq
        rcases hq with rfl | rfl | rfl <;> assumption)
      clear F₁
      dsimp only [pinM] at F₂
      k_steps
      unfold Hold
      rename Fr g' L' _ _ => F₃
      refine (app_c ha1 ha2 hz mx2 md2 mU2).use (by k_asm) F₃ (by k_asm) (by k_asm) (by k_asm) rfl (by ktr_room) (by ktr_units) ?_
      rintro v h' tk' news' F₄ N₄ ⟨rfl, hs3⟩
      have mx3 := hs3 _ mx2
      have md3 := hs3 _ md2
      have hfin : ∀ p ∈ news₁, p ∈ news' := fun p hp => hs3 p (List.mem_cons_of_mem _ hp)
      cases hap : appB r.1 name with
      | false =>
        k_steps
        refine inv_fin2 (tl := news₁) (by k_asm) (by k_asm) (hs3 _ List.mem_cons_self) hfin hoff fun hled => ⟨hled _ hl₁, by rfl, fun p hp => hled _ (hsub1 p hp), (true, al), ?_, ⟨tb, by rfl⟩, by rfl⟩
        rw [hnext]; unfold alStep; rw [hap]; rfl
      | true =>
        cases al
        · k_steps
          refine inv_fin2 (tl := news₁) (by k_asm) (by k_asm) (hs3 _ List.mem_cons_self) hfin hoff fun hled => ⟨hled _ hl₁, by rfl, fun p hp => hled _ (hsub1 p hp), (true, r.2), ?_, ⟨tb, by rfl⟩, by rfl⟩
          rw [hnext]; unfold alStep; rw [hap]; rfl
        · k_steps
          refine inv_fin2 (tl := news₁) (by k_asm) (by k_asm) (hs3 _ List.mem_cons_self) hfin hoff fun hled => ⟨hled _ hl₁, by rfl, fun p hp => hled _ (hsub1 p hp), (true, true), ?_, ⟨tb, by rfl⟩, by rfl⟩
          rw [hnext]; unfold alStep; rw [hap]; rfl
  · rintro m₁ news₁ h₁ tk₁ ⟨e1, hsub1, st, hst, ⟨tb, e2⟩, e3⟩ F₁ N₁
    rw [hes.length, List.take_length] at hst
    have F₂ := fr_pin F₁ [(Str.ofString "allowance", .bool st.2)] (by
      intro q hq
      rw [List.mem_singleton.mp hq]
      exact e3)
    clear F₁
    dsimp only [pinM] at F₂
    k_steps
    exact hret _ _ _ _ (by k_asm) (by k_asm) ⟨by rw [hst], hsub1⟩
end
section
local macro_rules | `(tactic| walk_at "exec For Tuple Name cons nil") => `(tactic| (k_here; (rename Fr _ _ _ _ => lF'); (with_unfolding_all refine' For_turns lF' ?_); k_whole))
local macro_rules | `(tactic| walk_at "pyIter ref") => `(tactic| (refine hold ?_))
local macro_rules | `(tactic| walk_at "eval ListComp") => `(tactic| (k_here; k_dflt (refine LCt.ListComp_T (F₀ := by k_asm) (by with_unfolding_all rfl) (by decide) (by rfl) (by decide) (by rfl) ?_)))
local macro_rules | `(tactic| walk_at "call builtin:list.append") => `(tactic| (refine hold ?_))
local macro_rules | `(tactic| walk_at "compareOp NotEq ref ref") => `(tactic| (refine hold ?_))
local macro_rules | `(tactic| walk_at "compareOp Eq ref ref") => `(tactic| (refine hold ?_))
local macro_rules | `(tactic| walk_at "compareOp In bool ref") => `(tactic| (refine hold ?_))
local macro_rules | `(tactic| walk_at "CompEnd") => `(tactic| (refine hold ?_))
local macro_rules | `(tactic| walk_at "FinE") => `(tactic| (refine hold ?_))
local macro_rules | `(tactic| walk_at "CompSrcT") => `(tactic| (refine hold ?_))
local macro_rules | `(tactic| walk_at "eval IfExp") => `(tactic| ((fail_if_success (with_reducible show wpAny _ _ _ (MKp _ _ _ _ _ _) _ _)); refine hold ?_))
theorem alw_c {w mean mg mb news l vs c tn} {rs : List (Str × Bool)} {name : Str} (hr : AllR (RuleIs news) vs rs) (hy : rs.length < 64) (hl : (l, W.listOf (List.toArray vs) c) ∈ news) (hag : ∀ r ∈ rs, r.1.length ≤ 4) (hz : name.length = 4) :
    Does 9 w mean mg mb news (call (.ref 178) [.ref l, .str name tn]) (fun v news' => v = .bool (alwF name rs) ∧ ∀ p ∈ news, p ∈ news') := by
  unfold Does
  intro dp un gd cn cs a ccd cl outer A₀ base h₀ L m s Q E B F X N T hk hd hu hret
  refine wpAny_call ?_
  have hsub : ∀ p ∈ news, p ∈ news := fun _ h => h
  k_dflt (first
    | (refine' code_defG (news := (news : List (Addr × Obj))) B F X (fun p hp => N p (hsub p hp)) T ?kA ?kF ?kK ?k6 ?k7 ?k8 ?k9 ?kB ?_ ?c2 ?c3 ?c4 ?c5; (case kA => exact rfl); (case kF => exact rfl); (case kK => assumption); (case k6 => k_is); (case k7 => k_is); (case k8 => ktr_room); (case k9 => first | exact BindsTo.of_eq rfl | exact binds_K (by k_in) rfl (by k_is) rfl rfl rfl); (case c5 => decide); (case kB => exact locs rfl); (case c2 => exact rfl); (case c3 => exact rfl); (case c4 => exact rfl))
    | (refine' code_defGC (news := (news : List (Addr × Obj))) B F X (fun p hp => N p (hsub p hp)) T ?kA ?kF ?kK ?k6 ?k7 ?k8 ?k9 ?kB ?kD ?_ ?c2 ?c3 ?c4; (case kA => exact rfl); (case kF => exact rfl); (case kK => assumption); (case k6 => k_is); (case k7 => k_is); (case k8 => ktr_room); (case k9 => first | exact BindsTo.of_eq rfl | exact binds_K (by k_in) rfl (by k_is) rfl rfl rfl); (case kB => exact rfl); (case kD => decide +kernel); (case c2 => exact rfl); (case c3 => exact rfl); (case c4 => exact rfl)))
  intro g' L' h' tk' cells' FG' F' N' Y' B' X' T' l1 G'
  (try k_lt l1); k_cells Y'; (try simp only [List.cons_append, List.nil_append] at N'); (try dsimp only); (try k_lift B'); (try k_fold)
  k_steps
  unfold Hold
  rename Fr g' L' _ _ => F8
  rename News g' L' _ _ => N8
  refine mono_k (fun v => ∃ t, v = .str (headL name) t) F8 N8 ?_ ?_
  · k_steps
    · rename List.isEmpty _ = true => he
      exact MKp.mk (by k_asm) (by k_asm) ⟨_, by unfold headL; rw [if_pos he]⟩
    · exact absurd (Eq.trans (Eq.symm ‹List.isEmpty _ = true›) ‹List.isEmpty _ = false›) (by decide)
    · rename List.isEmpty _ = false => he
      exact MKp.mk (by k_asm) (by k_asm) ⟨_, by unfold headL; rw [he]; rfl⟩
  · rintro v h5 tk5 ⟨t5, rfl⟩ F5 N5
    clear F8 N8
    k_steps
    unfold Hold
    rename ∀ p ∈ news, @LT.lt Nat _ p.1 L' => lN
    rename News g' L' _ ((_, W.listOf #[] 0) :: _) => N8
    refine tt_iter (vs := vs) (env := (envOfC _ _ _ _ _)) (fun i m nx => ∃ M oA oH mv cM vA tH, m (Str.ofString "met") = some (.ref M) ∧ nx = (M, W.listOf (List.toArray mv) cM) :: (L' + 1 + 1, oA) :: (L' + 1, oH) :: news ∧ oA.data = .cell vA ∧ oH.data = .cell (some (.str (headL name) tH)) ∧ @LT.lt Nat _ (L' + 1 + 1) M ∧ LSm.BoolsAre mv (metF name (rs.take i))) rfl (by k_mem) (by k_asm) N8 ⟨_, _, _, [], 0, _, _, by rfl, rfl, by assumption, by assumption, And.left (by assumption), .nil⟩ ?_ ?_
    · rintro i v m₁ news₁ h₁ tk₁ I oI hv hoff hl₁ ⟨M, oA, oH, mv, cM, vA, tH, e1, rfl, dA, dH, lM, hbs⟩ F₁ N₁
      clear N8
      obtain ⟨r, hri, T9, t9, rfl, mT⟩ := hr.get i v hv
      have F₂ := fr_pin F₁ [(Str.ofString "met", .ref M)] (by
        intro q hq
        rw [List.mem_singleton.mp hq]
        exact e1)
      clear F₁
      dsimp only [pinM] at F₂
      have hlr := hag r (List.mem_of_getElem? hri)
      have hlh := headL_len name
      have nI1 : M ≠ I := hoff _ List.mem_cons_self
      have nI2 : L' + 1 + 1 ≠ I := hoff _ (List.mem_cons_of_mem _ List.mem_cons_self)
      have nI3 : L' + 1 ≠ I := hoff _ (List.mem_cons_of_mem _ (List.mem_cons_of_mem _ List.mem_cons_self))
      have nI4 : LCg.Off1 I news := off1_of fun p hp => hoff p (List.mem_cons_of_mem _ (List.mem_cons_of_mem _ (List.mem_cons_of_mem _ hp)))
      have nM4 : AllLt M news := allLt_of fun p hp => Nat.lt_trans (lN p hp) (by omega)
      k_steps
      unfold Hold
      rename IsRange _ _ _ _ _ _ _ _ => hR
      rename Obj => oA2
      refine LCt.CompSrcT.range (n := (headL name).length) rfl (by k_asm) (by k_asm) hR (range_small (by omega)) range_size (by rw [sizeLine_eq]; omega) fun g2 => compT_inv (fun i ys led => led = (I, oI) :: (M, W.listOf (List.toArray mv) cM) :: (L' + 1 + 1, oA2) :: (L' + 1, oH) :: news ∧ ∃ ns : List Int, ns.length ≤ i ∧ IntsAre ys ns ∧ (ns = [] ↔ ∀ j, j < i → mAt r.1 (headL name) j = false)) _ ?_ ?_ _ 0 [] _ (Nat.zero_add _) ⟨rfl, [], Nat.le_refl _, .nil, by simp⟩
      · rintro i2 ys led hi2 ⟨rfl, ns, hnl, hIA, hiff⟩ v2 I2 oI2 C2 oC2 D2 m2 h2 tk2 E2 ⟨t2, rfl⟩ hC2 hx2 F6 N6 off2 ne2
        k_steps
        all_goals unfold Hold
        · rename _ = true => hma
          refine LCg.CompEnd.intro (by k_asm) (by k_asm) _ (fun p hp => hp) off2 trivial ⟨rfl, ns ++ [0 + (i2 : Int)], ?_, IntsAre.append hIA (.cons _ _ .nil), ?_⟩
          · rw [List.length_append, List.length_singleton]; omega
          · constructor
            · intro h; exact absurd h (by simp)
            · intro h
              have h9 := h i2 (Nat.lt_succ_self _)
              rw [show mAt r.1 (headL name) i2 = true from (by unfold mAt; rw [← hma]; simp)] at h9
              cases h9
        · rename _ = false => hma
          refine LCg.CompEnd.intro (by k_asm) (by k_asm) _ (fun p hp => hp) off2 trivial ⟨rfl, ns, by omega, hIA, hiff.trans ⟨fun h j hj => ?_, fun h j hj => h j (by omega)⟩⟩
          by_cases e : j = i2
          · subst e
            unfold mAt; rw [← hma]; simp
          · exact h j (by omega)
      · rintro ys led ⟨rfl, ns, hnl, hIA, hiff⟩
        unfold LCg.FinE
        intro D7 h7 tk7 F7 N7 o7
        k_steps
        unfold Hold
        rename News g' L' _ ((_, W.listOf #[] 0) :: _) => N6
        refine r_ne_nilI (vs := ys) (ys := ns) (n := ys.length) N6 (by k_mem) hIA List.mem_cons_self (by ktr_units) ?_
        by_cases hn0 : ns = []
        · rw [show (!decide (ns = [])) = false by simp [hn0]]
          k_steps
          have N9 := news_sub N6 (l₂ := (M, W.listOf (List.toArray mv) cM) :: (I, oI) :: (L' + 1 + 1, oA2) :: (L' + 1, oH) :: news) (by walk_at "m_sub")
          refine InvEndG.intro (nx := (M, W.listOf (List.toArray mv) cM) :: (L' + 1 + 1, oA2) :: (L' + 1, oH) :: news) (by k_asm) N9 ⟨List.mem_cons_of_mem _ (List.mem_cons_of_mem _ (List.mem_cons_of_mem _ hl)), M, oA2, oH, mv, cM, _, tH, by rfl, rfl, by assumption, dH, lM, ?_⟩ (own1 (List.forall_mem_cons.mpr ⟨nI1, List.forall_mem_cons.mpr ⟨nI2, List.forall_mem_cons.mpr ⟨nI3, neAll_off1 nI4⟩⟩⟩)) (by walk_at "m_sub") (by walk_at "m_sub")
          rw [metF_no hri (hiff.mp hn0)]
          exact hbs
        · rw [show (!decide (ns = [])) = true by simp [hn0]]
          have hml : mv.length < 1000 := by
            rw [hbs.length]; unfold metF; rw [List.length_map]; exact Nat.lt_of_le_of_lt (List.length_filter_le ..) (by rw [List.length_take]; omega)
          k_steps
          unfold Hold
          have N9 := news_sub N6 (l₂ := (M, W.listOf (List.toArray mv) cM) :: (I, oI) :: (L' + 1 + 1, oA2) :: (L' + 1, oH) :: news) (by walk_at "m_sub")
          clear N6 hoff hl₁
          refine append_K (by k_asm) N9 (.head (List.forall_mem_cons.mpr ⟨Ne.symm nI1, List.forall_mem_cons.mpr ⟨Nat.ne_of_lt lM, List.forall_mem_cons.mpr ⟨Nat.ne_of_lt (Nat.lt_trans (Nat.lt_succ_self _) lM), neAll_of nM4⟩⟩⟩)) ?_ (by rw [sizeLine_eq, List.size_toArray]; omega)
          intro h9 F9 N10
          clear N9
          k_steps
          refine InvEndG.intro (nx := (M, W.listOf (List.toArray (mv ++ [.bool r.2])) (cM + 1)) :: (L' + 1 + 1, oA2) :: (L' + 1, oH) :: news) (by k_asm) N10 ⟨List.mem_cons_of_mem _ (List.mem_cons_of_mem _ (List.mem_cons_of_mem _ hl)), M, oA2, oH, _, cM + 1, _, tH, by rfl, rfl, by assumption, dH, lM, ?_⟩ (own1 (List.forall_mem_cons.mpr ⟨nI1, List.forall_mem_cons.mpr ⟨nI2, List.forall_mem_cons.mpr ⟨nI3, neAll_off1 nI4⟩⟩⟩)) (List.push_toArray .. ▸ (by walk_at "m_sub")) (by walk_at "m_sub")
          rw [metF_yes hri fun h => hn0 (hiff.mpr h)]
          exact kbo_app hbs (.cons _ .nil)
    · rintro m₁ news₁ h₁ tk₁ ⟨M, oA, oH, mv, cM, vA, tH, e1, rfl, dA, dH, lM, hbs⟩ F₁ N₁
      clear N8
      rw [hr.length, List.take_length] at hbs
      have F₂ := fr_pin F₁ [(Str.ofString "met", .ref M)] (by
        intro q hq
        rw [List.mem_singleton.mp hq]
        exact e1)
      clear F₁
      dsimp only [pinM] at F₂
      have nM4 : AllLt M news := allLt_of fun p hp => Nat.lt_trans (lN p hp) (by omega)
      k_steps
      unfold Hold
      rename News g' L' _ ((_, W.listOf #[] 0) :: _) => N6
      refine r_eqB (vs := mv) (us := []) (xs := metF name rs) (ys := []) N6 (by k_mem) hbs List.mem_cons_self .nil (by ktr_units) ?_
      by_cases hn0 : metF name rs = []
      · rw [show decide (metF name rs = []) = true by simp [hn0]]
        k_steps
        exact hret _ _ _ _ (by k_asm) (by k_asm) ⟨by unfold alwF; simp [hn0], by walk_at "m_sub"⟩
      · rw [show decide (metF name rs = []) = false by simp [hn0]]
        k_steps
        unfold Hold
        refine r_inB (vs := mv) (ys := metF name rs) (by k_asm) (by k_mem) hbs (by ktr_units) ?_
        k_steps
        exact hret _ _ _ _ (by k_asm) (by k_asm) ⟨by unfold alwF; simp [hn0], by walk_at "m_sub"⟩
end
section
local macro_rules | `(tactic| walk_at "call type:map") => `(tactic| (k_here; k_dflt (refine r_map (by k_asm) (by k_asm) (by k_mem) ?_); intro M' T' I' h' F' N' l1 l2 l3))
local macro_rules | `(tactic| walk_at "call type:list") => `(tactic| (refine hold ?_))
local macro_rules | `(tactic| walk_at "pyIter ref") => `(tactic| (refine hold ?_))
local macro_rules | `(tactic| walk_at "subscriptTail") => `(tactic| (k_here; (with_reducible show wpAny _ _ (subscriptTail _ _ (Value.ref _) (Value.int (-1) _)) _ _ _); k_dflt (refine' r_slast ?k1 ?k2 ?k3 ?k4 ?_ ?k7; (case k1 => k_asm); (case k2 => k_mem); (case k3 => with_reducible assumption); (case k4 => omega); (case k7 => with_unfolding_all rfl); k_whole); intro _))
local macro_rules | `(tactic| walk_at "call builtin:str.join") => `(tactic| (refine hold ?_))
local macro_rules | `(tactic| walk_at "formatField str") => `(tactic| (k_here; (with_reducible show wpAny _ _ (formatField (Value.str _ _) _) _ _ _); (refine' formatField_str (hsz := ?z) ?_; (case z => (rw [sizeLine_eq]; omega)); intro _ _)))
local macro_rules | `(tactic| walk_at "setItem ref int") => `(tactic| (refine hold ?_))
local macro_rules | `(tactic| walk_at "call builtin:len") => `(tactic| (k_here; (with_reducible show wpAny _ _ (call (Value.builtin "len") [Value.ref _]) _ _ _); (refine' r_slen ?N ?hm ?hn ?hf ?_; (case N => k_asm); (case hm => k_dflt k_mem); (case hn => with_reducible assumption); (case hf => omega))))
theorem tp_c {w mean mg mb news t} {x a1 z1 : Str} {ms : List Str} (hx : Txt.split x (Str.ofString "*") = a1 :: (ms ++ [z1])) (hok : ∀ y ∈ a1 :: (ms ++ [z1]), (∀ c ∈ y.cps.toList, signB c = true) ∧ 0 < y.length ∧ y.length ≤ 4) (hn : ms.length < 60) (hxl : x.length ≤ 1000) :
    Does 6 w mean mg mb news (call (.ref 82) [.str x t]) (fun v news' => ∃ t', v = Value.str (patS (escS a1) (ms.map escS) (escS z1)) t' ∧ news' = news) := by
  unfold Does
  intro dp un gd cn cs a ccd cl outer A₀ base h₀ L m s Q E B F X N T hk hd hu hret
  refine wpAny_call ?_
  have hsub : ∀ p ∈ ([] : List (Addr × Obj)), p ∈ news := by
    repeat (first | exact List.forall_mem_nil _ | refine List.forall_mem_cons.mpr ⟨by assumption, ?_⟩)
  k_dflt (first
    | (refine' code_defG (news := []) B F X (fun p hp => N p (hsub p hp)) T ?kA ?kF ?kK ?k6 ?k7 ?k8 ?k9 ?kB ?_ ?c2 ?c3 ?c4 ?c5; (case kA => exact rfl); (case kF => exact rfl); (case kK => assumption); (case k6 => k_is); (case k7 => k_is); (case k8 => ktr_room); (case k9 => first | exact BindsTo.of_eq rfl | exact binds_K (by k_in) rfl (by k_is) rfl rfl rfl); (case c5 => decide); (case kB => exact locs rfl); (case c2 => exact rfl); (case c3 => exact rfl); (case c4 => exact rfl))
    | (refine' code_defGC (news := []) B F X (fun p hp => N p (hsub p hp)) T ?kA ?kF ?kK ?k6 ?k7 ?k8 ?k9 ?kB ?kD ?_ ?c2 ?c3 ?c4; (case kA => exact rfl); (case kF => exact rfl); (case kK => assumption); (case k6 => k_is); (case k7 => k_is); (case k8 => ktr_room); (case k9 => first | exact BindsTo.of_eq rfl | exact binds_K (by k_in) rfl (by k_is) rfl rfl rfl); (case kB => exact rfl); (case kD => decide +kernel); (case c2 => exact rfl); (case c3 => exact rfl); (case c4 => exact rfl)))
  intro g' L' h' FG' F' N' B' X' T' G'
  (try dsimp only); (try k_lift B'); (try k_fold)
  k_steps
  unfold Hold
  rename List (Str × Tok) => l1
  rename List.map _ _ = Txt.split _ _ => hsp
  rename StrsAre _ _ => hsa
  rw [hsp, hx] at hsa
  rename_i M1 T1 I1 h1 F1 N1 li lt1 lt2
  have hlI := li _ List.mem_cons_self
  refine r_list_map (k := 2) (ys := (a1 :: (ms ++ [z1])).map escS) (vs := strValues l1) (c := 0) (news := []) B' F1 X' N1 T' rfl (by ktr_room) (by ktr_units) (fun i v hi => ?_) (by rw [StrsAre.length hsa, List.length_map]) (by simp; omega) List.mem_cons_self (List.mem_cons_of_mem _ List.mem_cons_self) (List.mem_cons_of_mem _ (List.mem_cons_of_mem _ List.mem_cons_self)) (List.mem_cons_of_mem _ (List.mem_cons_of_mem _ (List.mem_cons_of_mem _ List.mem_cons_self))) (Nat.ne_of_gt (Nat.lt_trans lt1 lt2)) (Nat.ne_of_gt lt1) (Nat.ne_of_lt hlI) (List.forall_mem_nil _) (List.forall_mem_nil _) ?_
  · have hlt : i < (a1 :: (ms ++ [z1])).length := by rw [← StrsAre.length hsa]; exact (List.getElem?_eq_some_iff.mp hi).1
    obtain ⟨t2, e2⟩ := strs_at hsa i hlt
    rw [hi] at e2
    cases e2
    have hm : gS (a1 :: (ms ++ [z1])) i ∈ a1 :: (ms ++ [z1]) := by rw [gS_at hlt]; exact List.getElem_mem hlt
    obtain ⟨q1, q2, q3⟩ := hok _ hm
    have e3 : gS ((a1 :: (ms ++ [z1])).map escS) i = escS (gS (a1 :: (ms ++ [z1])) i) := by
      rw [gS_at (by rw [List.length_map]; exact hlt), List.getElem_map, gS_at hlt]
    rw [e3]
    exact escape_k q1 q2 (by omega)
  · intro D c us h2 tk2 hus F2 N2 _
    clear N1 F1
    obtain ⟨Y, hY, hYl⟩ : ∃ Y, Y = (a1 :: (ms ++ [z1])).map escS ∧ Y.length = ms.length + 2 := ⟨_, rfl, by simp⟩
    rw [← hY] at hus
    k_steps
    unfold Hold
    rename IsRange _ _ _ _ _ _ _ _ => hR
    refine ru_iter (n := ms.length) (news := [(D, W.listOf (List.toArray us) c)]) (env := (envOf _ _ _ _ _)) (fun i m nx => ∃ us c Y, m (Str.ofString "parts") = some (.ref D) ∧ nx = [(D, W.listOf (List.toArray us) c)] ∧ StrsAre us Y ∧ Y = escS a1 :: (((ms.map escS).take i).map midS ++ (ms.map escS).drop i ++ [escS z1])) rfl hR (range_small2 (by omega) (by omega) (by omega) (by omega)) (range_size2 (by omega)) (by k_asm) (by k_asm) ⟨us, c, Y, by rfl, rfl, hus, by rw [hY]; simp⟩ ?_ ?_
    · rintro i t₁ m₁ news₁ h₁ tk₁ I oI hi hoff ⟨us, c, Y, e1, rfl, hus, hY⟩ F₁ N₁
      have hYl : Y.length = ms.length + 2 := by rw [hY]; simp; omega
      have F₂ := fr_pin F₁ [(Str.ofString "parts", .ref D)] (by
        intro q hq
        rw [List.mem_singleton.mp hq]
        exact e1)
      clear F₁
      dsimp only [pinM] at F₂
      have hes : i < (ms.map escS).length := by rw [List.length_map]; exact hi
      have hk : (1 + (i : Int)).toNat = 1 + i := by omega
      have hYi : gS Y (1 + (i : Int)).toNat = gS (ms.map escS) i := by rw [hk, hY]; exact pat_at hes
      have hyl : (Y.getD (1 + (i : Int)).toNat Str.empty).length ≤ 100 := by
        show (gS Y (1 + (i : Int)).toNat).length ≤ 100
        rw [hYi, gS_at hes, List.getElem_map]
        have h1 := escS_len ms[i]
        have h2 := (hok ms[i] (List.mem_cons_of_mem _ (List.mem_append_left _ (List.getElem_mem hi)))).2.2
        omega
      have hv : Str.empty ++ Str.ofString "(?>.*?" ++ Y.getD (1 + (i : Int)).toNat Str.empty ++ Str.ofString ")" = midS (gS (ms.map escS) i) := by
        rw [empty_app]
        show midS (gS Y (1 + (i : Int)).toNat) = _
        rw [hYi]
      have hDI : D ≠ I := hoff _ List.mem_cons_self
      k_steps
      unfold Hold
      refine r_sset (rest := [(I, oI)]) (vs := us) (ys := Y) (n := c) (by k_asm) (news_sub (l₁ := [(I, oI), (D, W.listOf (List.toArray us) c)]) (by k_asm) (by walk_at "m_sub")) (List.forall_mem_cons.mpr ⟨Ne.symm hDI, List.forall_mem_nil _⟩) (by assumption) (by omega) (by omega) (by omega) ?_
      intro h5 F5 N5 hs5
      k_steps
      refine InvEndG.intro (nx := [(D, _)]) (by k_asm) N5 ⟨_, c, _, by rfl, rfl, hs5, ?_⟩ (own1 (List.forall_mem_cons.mpr ⟨hDI, List.forall_mem_nil _⟩)) (by walk_at "m_sub") (by walk_at "m_sub")
      rw [hv, hk, hY]
      exact pat_set hes
    · rintro m₁ news₁ h₁ tk₁ ⟨us, c, Y, e1, rfl, hus, hY⟩ F₁ N₁
      have hYl : Y.length = ms.length + 2 := by rw [hY]; simp
      have F₂ := fr_pin F₁ [(Str.ofString "parts", .ref D)] (by
        intro q hq
        rw [List.mem_singleton.mp hq]
        exact e1)
      clear F₁
      dsimp only [pinM] at F₂
      have hYz : gS Y (Y.length - 1) = escS z1 := by
        have hm : ms.length = (ms.map escS).length := by rw [List.length_map]
        rw [hYl, hY, hm, List.take_length, List.drop_length]
        simp [gS, List.getD_eq_getElem?_getD]
      have hyl : (gS Y (Y.length - 1)).length ≤ 100 := by
        rw [hYz]
        have h1 := escS_len z1
        have h2 := (hok z1 (List.mem_cons_of_mem _ (List.mem_append_right _ List.mem_cons_self))).2.2
        omega
      have hv : Str.empty ++ Str.ofString ".*" ++ gS Y (Y.length - 1) = dotS (escS z1) := by
        rw [empty_app]
        show dotS (gS Y (Y.length - 1)) = _
        rw [hYz]
      k_steps
      unfold Hold
      refine r_ssetlast (rest := []) (vs := us) (ys := Y) (n := c) (by k_asm) (by k_asm) (List.forall_mem_nil _) (by assumption) (by omega) ?_
      intro h5 F5 N5 hs5
      have hYe : Y.set (Y.length - 1) (dotS (escS z1)) = escS a1 :: ((ms.map escS).map midS ++ [dotS (escS z1)]) := by
        have hm : ms.length = (ms.map escS).length := by rw [List.length_map]
        rw [hYl, hY, hm]
        exact pat_end _ _ _
      rw [hv, hYe] at hs5
      rw [hv] at N5
      k_steps
      unfold Hold
      refine r_join (by k_asm) List.mem_cons_self hs5 ?_ ?_
      · have hl8 : ∀ y ∈ a1 :: (ms ++ [z1]), (escS y).length ≤ 8 := fun y hy => by
          have h1 := escS_len y
          have h2 := (hok y hy).2.2
          omega
        exact pat_join_ok (hl8 _ List.mem_cons_self) (hl8 _ (List.mem_cons_of_mem _ (List.mem_append_right _ List.mem_cons_self))) (fun e he => by
          obtain ⟨y, hy, rfl⟩ := List.mem_map.mp he
          exact hl8 y (List.mem_cons_of_mem _ (List.mem_append_left _ hy))) (by rw [List.length_map]; exact hn)
      intro t6 k6
      k_steps
      exact hret _ _ _ _ (by k_asm) (fun p hp => ro_news N G' hsub (by k_asm) (by k_asm) (List.forall_mem_nil _) p (List.mem_append_right _ hp)) ⟨_, rfl, rfl⟩
end
section
local macro_rules | `(tactic| walk_at "exec Assign cons ListComp") => `(tactic| (refine hold ?_))
local macro_rules | `(tactic| walk_at "pyIter ref") => `(tactic| (refine hold ?_))
local macro_rules | `(tactic| walk_at "eval ListComp") => `(tactic| (k_here; k_dflt (refine LCg.ListComp_U (F₀ := by k_asm) (by rfl) (by decide) (by rfl) (by decide) (by rfl) ?_)))
local macro_rules | `(tactic| walk_at "subscriptTail") => `(tactic| (k_here; (with_reducible show wpAny _ _ (subscriptTail _ _ (Value.ref _) (Value.int (-1) _)) _ _ _); k_dflt (refine' r_slast ?k1 ?k2 ?k3 ?k4 ?_ ?k7; (case k1 => k_asm); (case k2 => k_mem); (case k3 => with_reducible assumption); (case k4 => omega); (case k7 => with_unfolding_all rfl); k_whole); intro _))
local macro_rules | `(tactic| walk_at "call builtin:str.replace") => `(tactic| (refine hold ?_))
local macro_rules | `(tactic| walk_at "call builtin:str.join") => `(tactic| (refine hold ?_))
local macro_rules | `(tactic| walk_at "subscriptTail Name Slice ref ref") => `(tactic| (refine hold ?_))
local macro_rules | `(tactic| walk_at "CompEnd") => `(tactic| (refine hold ?_))
local macro_rules | `(tactic| walk_at "FinE") => `(tactic| (refine hold ?_))
local macro_rules | `(tactic| walk_at "FinA") => `(tactic| (refine hold ?_))
local macro_rules | `(tactic| walk_at "CompSrc") => `(tactic| (refine hold ?_))
theorem lp_c {w mean mg mb news l us c} {a1 z1 : Str} {ms : List Str} (hs : StrsAre us (a1 :: (ms ++ [z1]))) (hok : ∀ y ∈ a1 :: (ms ++ [z1]), (∀ c ∈ y.cps.toList, signB c = true) ∧ 0 < y.length ∧ y.length ≤ 4) (hn : ms.length < 60) (hl : (l, W.listOf (List.toArray us) c) ∈ news) :
    DoesT 6 w mean mg mb news (call (.ref 183) [.ref l]) (fun v news' => ∃ t', v = Value.str (patS (escS a1) (ms.map escS) (escS z1)) t' ∧ news' = news) := by
  unfold DoesT
  intro dp un gd cn cs a ccd cl outer A₀ base h₀ L m s Q E B F X N T ht0 hk hd hu hret
  refine wpAny_call ?_
  have hsub : ∀ p ∈ ([(l, W.listOf (List.toArray us) c)] : List (Addr × Obj)), p ∈ news := by
    repeat (first | exact List.forall_mem_nil _ | refine List.forall_mem_cons.mpr ⟨by assumption, ?_⟩)
  k_dflt (first
    | (refine' code_defG (news := [(l, W.listOf (List.toArray us) c)]) B F X (fun p hp => N p (hsub p hp)) T ?kA ?kF ?kK ?k6 ?k7 ?k8 ?k9 ?kB ?_ ?c2 ?c3 ?c4 ?c5; (case kA => exact rfl); (case kF => exact rfl); (case kK => assumption); (case k6 => k_is); (case k7 => k_is); (case k8 => ktr_room); (case k9 => first | exact BindsTo.of_eq rfl | exact binds_K (by k_in) rfl (by k_is) rfl rfl rfl); (case c5 => decide); (case kB => exact locs rfl); (case c2 => exact rfl); (case c3 => exact rfl); (case c4 => exact rfl))
    | (refine' code_defGC (news := [(l, W.listOf (List.toArray us) c)]) B F X (fun p hp => N p (hsub p hp)) T ?kA ?kF ?kK ?k6 ?k7 ?k8 ?k9 ?kB ?kD ?_ ?c2 ?c3 ?c4; (case kA => exact rfl); (case kF => exact rfl); (case kK => assumption); (case k6 => k_is); (case k7 => k_is); (case k8 => ktr_room); (case k9 => first | exact BindsTo.of_eq rfl | exact binds_K (by k_in) rfl (by k_is) rfl rfl rfl); (case kB => exact rfl); (case kD => decide +kernel); (case c2 => exact rfl); (case c3 => exact rfl); (case c4 => exact rfl)))
  intro g' L' h' FG' F' N' B' X' T' G'
  (try dsimp only); (try k_lift B'); (try k_fold)
  refine toks_gen ht0 fun tk0 htk0 => ?_
  have hul : us.length = ms.length + 2 := by rw [StrsAre.length hs]; simp
  k_steps
  unfold Hold
  refine Assign_ListComp_rowsP ?a ?b ?c ?d ?e ?f ?g ?h ?_
  case a => with_unfolding_all rfl
  case b => decide
  case c => decide
  case d => rfl
  case e => decide
  case f => rfl
  case g => rfl
  case h => rfl
  k_steps
  unfold Hold
  refine srcA_listDW (K := ItemKind.str) (vs := us) (as := a1 :: (ms ++ [z1])) (pz := fun _ => true) (d := fun a => PyData.str (escS a)) rfl (News.isList (n := c) (by k_asm) (by k_mem)) (strs_areOf hs) (by k_asm) (by k_asm) ?_ ?_ ?_ (by rw [sizeLine_eq]; simp; omega)
  · intro C2 a2 v2 s2 m2 E2 _ _ _ _ _
    exact wpAny_pure ⟨rfl, _, _, rfl, fun _ _ e => e⟩
  · rintro C2 a2 v2 s2 m2 E2 ha2 ⟨t2, rfl⟩ _ hn2 hm2 htk2
    have hag := (hok _ ha2).2.2
    have ht2 : 1 ≤ s2.toks := Nat.le_trans htk0 htk2
    k_steps
    unfold Hold
    refine SC.replaceW (Nat.ne_of_gt ht2) (Nat.succ_ne_zero _) (Nat.ne_of_lt (Nat.lt_succ_self _)) (by decide +kernel) (by omega) (by decide +kernel) fun t9 k9 => ?_
    rw [replace_esc]
    exact ⟨.str _ _, _, _, rfl, fun _ _ e => e⟩
  · intro D7 ys h7 tk7 F7 N7 hD0 hDl hDp hc
    rw [List.filter_eq_self.mpr (fun _ _ => rfl)] at hc
    have hys : StrsAre ys ((a1 :: (ms ++ [z1])).map escS) := carried_strs (by rw [List.map_map]; exact hc)
    obtain ⟨⟨nD, hD1⟩, hD2⟩ := hDp
    obtain ⟨Y, hY, hYl, hY0, hYz, hYm⟩ : ∃ Y, Y = (a1 :: (ms ++ [z1])).map escS ∧ Y.length = ms.length + 2 ∧ gS Y 0 = escS a1 ∧ gS Y (Y.length - 1) = escS z1 ∧ (Y.drop 1).take (Y.length - 2) = ms.map escS := by
      refine ⟨_, rfl, by simp, rfl, ?_, ?_⟩
      · simp [gS, List.getD_eq_getElem?_getD]
      · simp
    rw [← hY] at hys
    have hDL : D7 ≠ L' := NewPlain.ne_locals ⟨⟨nD, hD1⟩, hD2⟩ F7
    have N8 : News g' L' h7 [(D7, W.listOf (List.toArray ys) nD), (l, W.listOf (List.toArray us) c)] := List.forall_mem_cons.mpr ⟨⟨hD1, hDL, hD0⟩, N7⟩
    clear hs N7 hDl
    have nDl : l ≠ D7 := hD2 _ List.mem_cons_self
    have hy0 : (Y.getD (Int.toNat 0) Str.empty).length ≤ 8 := by
      show (gS Y 0).length ≤ 8
      rw [hY0]
      have h1 := escS_len a1
      have h2 := (hok a1 List.mem_cons_self).2.2
      omega
    have hyz : (gS Y (Y.length - 1)).length ≤ 8 := by
      rw [hYz]
      have h1 := escS_len z1
      have h2 := (hok z1 (List.mem_cons_of_mem _ (List.mem_append_right _ List.mem_cons_self))).2.2
      omega
    k_steps
    unfold Hold
    have hyl : ys.length = ms.length + 2 := by rw [← hYl]; exact StrsAre.length (by assumption)
    refine r_slice (vs := ys) (c := nD) (lo := some 1) (hi := some (-1)) (zs := (ys.drop 1).take (ys.length - 2)) (by k_asm) (by k_asm) List.mem_cons_self (by kmk_part) (by kmk_part) (pick_mid (by omega)) (by omega) ?_ (by with_unfolding_all rfl) (by kmk_pure)
    intro D8 h8 F8 N9 l8
    have hzs : StrsAre ((ys.drop 1).take (ys.length - 2)) (ms.map escS) := by
      rw [hyl, ← hYl, ← hYm]
      exact StrsAre.take' (StrsAre.drop' (by assumption) 1) _
    have hzl := StrsAre.length hzs
    generalize (ys.drop 1).take (ys.length - 2) = zs at *
    have hes : ∀ e ∈ ms.map escS, e.length ≤ 8 := fun e he => by
      obtain ⟨y, hy, rfl⟩ := List.mem_map.mp he
      have h1 := escS_len y
      have h2 := (hok y (List.mem_cons_of_mem _ (List.mem_append_left _ hy))).2.2
      omega
    have hml : (ms.map escS).length < 60 := by rw [List.length_map]; exact hn
    generalize ms.map escS = es at *
    obtain ⟨hjl, hjo⟩ := join_mid_len hes hml
    refine LCg.CompSrc.ledger (its := List.toArray zs) (k := 0) rfl (by k_asm) N9 List.mem_cons_self (by rw [sizeLine_eq, List.size_toArray]; omega) fun g2 => comp_inv (fun i ys' led => led = [(D8, W.listOf (List.toArray zs) 0), (D7, W.listOf (List.toArray ys) nD), (l, W.listOf (List.toArray us) c)] ∧ StrsAre ys' ((es.take i).map midS)) _ ?_ ?_ _ 0 [] _ (Nat.zero_add _) ⟨rfl, .nil⟩
    · rintro i ys' led hi ⟨rfl, hys'⟩ v2 I2 oI2 C2 oC2 D2 m2 h2 tk2 E2 hv hC2 hx2 F6 N6 off2 ne2
      have hlt : i < es.length := by rw [← hzl]; simpa using hi
      obtain ⟨t2, e2⟩ := strs_at hzs i hlt
      have hv' : zs[i]? = some v2 := by simpa using hv
      rw [hv'] at e2
      cases e2
      have hget : es[i]? = some (gS es i) := by rw [gS_at hlt]; exact List.getElem?_eq_getElem hlt
      have hag := hes _ (List.mem_of_getElem? hget)
      generalize gS es i = ag at *
      clear hv hv' N9
      k_steps
      unfold Hold
      refine LCg.CompEnd.intro (by k_asm) (by k_asm) _ (fun p hp => hp) off2 (Or.inr ⟨_, List.mem_cons_self, rfl, _, rfl⟩) ⟨rfl, ?_⟩
      rw [take_snoc hget, List.map_append]
      exact StrsAre.append' hys' (.cons _ _ .nil)
    · rintro ys' led ⟨rfl, hys'⟩
      unfold LCg.FinE
      intro D9 h9 tk9 F9 N10 o9
      rw [List.take_of_length_le (by rw [List.size_toArray, hzl]; exact Nat.le_refl _)] at hys'
      clear N9
      k_steps
      unfold Hold
      refine r_join N10 List.mem_cons_self hys' hjo ?_
      intro t6 k6
      clear hys' hzs
      k_steps
      have hval : gS Y 0 ++ Txt.join (Str.ofString "") (es.map midS) ++ Str.ofString ".*" ++ gS Y (Y.length - 1) = patS (escS a1) es (escS z1) := by rw [hY0, hYz]; exact patS_eq _ _ _
      exact hret _ _ _ _ (by k_asm) (fun p hp => ro_news N G' hsub (by k_asm) (by k_asm) (List.forall_mem_cons.mpr ⟨by k_mem, List.forall_mem_nil _⟩) p (List.mem_append_right _ hp)) ⟨_, congrArg (Value.str · _) hval, rfl⟩
end
section
theorem ent_agents {prog : Program} {w : World} {A : Around} {E : Value → Shared → Prop} {s : Shared} {h₀ : Heap} {L : Addr} {m : Str → Option Value} {news : List (Addr × Obj)} {x d U R t1 t2 t3 t4 t5} {b expr : Bool} {Q : Value → Shared → Prop} (F : Fr h₀ L s.heap m) (X : (Mine.heapK w.params).In h₀) (N : News h₀ L s.heap news) (mx : (x, instObj 59 d) ∈ news) (md : (d, entD w t1 t2 t3 t4 t5 U R b) ∈ news)
    (h : Q (.ref U) { s with toks := s.toks + 1 }) : wpAny (model prog w) A (getAttr (.ref x) (Str.ofString "useragents") expr) Q E s := by
  refine' get_own (n := 5) F X ?k3 ?k4 ?k5 ?k6 ?k7 ?k8 ?k9 h
  case k3 => k_inst
  case k4 => k_is
  case k5 => k_is
  case k6 => k_is
  case k7 => k_is
  case k8 => k_get
  case k9 => k_handed
theorem ent_allow {prog : Program} {w : World} {A : Around} {E : Value → Shared → Prop} {s : Shared} {h₀ : Heap} {L : Addr} {m : Str → Option Value} {news : List (Addr × Obj)} {x d U R t1 t2 t3 t4 t5} {b expr : Bool} {Q : Value → Shared → Prop} (F : Fr h₀ L s.heap m) (X : (Mine.heapK w.params).In h₀) (N : News h₀ L s.heap news) (mx : (x, instObj 59 d) ∈ news) (md : (d, entD w t1 t2 t3 t4 t5 U R b) ∈ news)
    (h : Q (.bool b) { s with toks := s.toks + 1 }) : wpAny (model prog w) A (getAttr (.ref x) (Str.ofString "allowance") expr) Q E s := by
  refine' get_ownF (n := 5) F X ?k3 ?k4 ?k5 ?k6 ?k7 ?k8 ?k9 ?k10 h
  case k3 => k_inst
  case k4 => k_is
  case k5 => k_is
  case k6 => k_is
  case k7 => k_is
  case k8 => k_is
  case k9 => k_get
  case k10 => k_handed
end
section
open PySem.Builtin PySem.Builtin.Str
set_option maxRecDepth 100000
theorem sub_to {x : Str} {i : Nat} (h : i ≤ x.length) : strSub x 0 i = Txt.slice x none (some (i : Int)) := by
  have e : Txt.slice x none (some (i : Int)) = ⟨((x.cps.toList.drop 0).take ((i : Int) - 0).toNat).toArray⟩ := StrLaws.sliceText_to ⟨by omega, by rw [Array.length_toList]; exact Int.ofNat_le.mpr h⟩
  rw [e]
  apply Str.ext'
  apply Array.toList_inj.mp
  show (x.cps.extract 0 i).toList = (x.cps.toList.drop 0).take ((i : Int) - 0).toNat
  rw [show ((i : Int) - 0).toNat = i by omega]
  simp
theorem heads (name : Str) : headS name = headL name := by
  obtain ⟨z, hz⟩ : ∃ z, (Txt.split name (Str.ofString "/"))[0]? = some z := by
    have h := split_pos name (Str.ofString "/")
    exact ⟨_, List.getElem?_eq_getElem (show 0 < _ by omega)⟩
  rw [headS_of hz]
  have hf := StrLaws.found_iff name (Str.ofString "/")
  unfold headL
  rcases split_head name (Str.ofString "/") (by decide +kernel) z hz with ⟨rfl, hn⟩ | ⟨i, rfl, hi, hn⟩
  · have e : (occurrences z (Str.ofString "/") 0 z.length 1).isEmpty = true := by
      cases h : (occurrences z (Str.ofString "/") 0 z.length 1).isEmpty with
      | true => rfl
      | false =>
        rw [h] at hf
        obtain ⟨k, hk⟩ := hf.mp rfl
        exact absurd hk (hn k)
    rw [if_pos e]
  · have e : (occurrences name (Str.ofString "/") 0 name.length 1).isEmpty = false := by
      cases h : (occurrences name (Str.ofString "/") 0 name.length 1).isEmpty with
      | false => rfl
      | true =>
        rw [h] at hf
        exact absurd (hf.mpr ⟨i, hi⟩) (by decide)
    rw [if_neg (by rw [e]; decide)]
    rcases find_whole name (Str.ofString "/") with ⟨_, hn2⟩ | ⟨j, hj, hj1, hj2⟩
    · exact absurd hi (hn2 i)
    · have hij : i = j := by
        rcases Nat.lt_trichotomy i j with h | h | h
        · exact absurd hi (hj2 i h)
        · exact h
        · exact absurd hj1 (hn j h)
      subst hij
      rw [hj]
      exact sub_to (by have := hi.1; omega)
theorem headL_mem {name : Str} {c : Nat} (h : c ∈ (headL name).cps.toList) : c ∈ name.cps.toList := by
  unfold headL at h
  split at h
  · exact h
  · rcases find_whole name (Str.ofString "/") with ⟨e, hn⟩ | ⟨j, hj, hj1, hj2⟩
    · rename_i hne
      exfalso
      refine hne ?_
      cases h : (occurrences name (Str.ofString "/") 0 name.length 1).isEmpty with
      | true => rfl
      | false =>
        have hf := StrLaws.found_iff name (Str.ofString "/")
        rw [h] at hf
        obtain ⟨k, hk⟩ := hf.mp rfl
        exact absurd hk (hn k)
    · have hle : j ≤ name.length := by have := hj1.1; omega
      rw [hj, ← sub_to hle] at h
      have h' : c ∈ (name.cps.extract 0 j).toList := h
      simp at h'
      exact List.mem_of_mem_take h'
theorem slice_hi {x : Str} {a : Nat} {j : Int} (h : (x.length : Int) ≤ j) (ha : a ≤ x.length) : Txt.slice x (some (a : Int)) (some j) = Txt.slice x (some (a : Int)) (some (x.length : Int)) := by
  show StrLaws.sliceText x _ _ = StrLaws.sliceText x _ _
  unfold StrLaws.sliceText
  have e : strSliceIndices (some (a : Int)) (some j) 1 x.length = strSliceIndices (some (a : Int)) (some (x.length : Int)) 1 x.length := by
    have a1 : ¬ j < 0 := by omega
    have a2 : ¬ ((x.length : Int) < 0) := by omega
    have e1 : max (0 : Int) (min j (x.length : Int)) = x.length := by omega
    have e2 : max (0 : Int) (min (x.length : Int) (x.length : Int)) = x.length := by omega
    simp [strSliceIndices, a1, a2, e1, e2]
  rw [e]
theorem lower_len {x : Str} (hA : ∀ c ∈ x.cps.toList, c < 128) : (Txt.lower x).length = x.length := by
  rw [lower_ascii hA]
  show (x.cps.map lo1).size = x.cps.size
  simp
theorem mAt_iff {ag hd : Str} {j : Nat} (hA : ∀ c ∈ ag.cps.toList, c < 128) (hH : ∀ c ∈ hd.cps.toList, c < 128) (ha : 0 < ag.length) (hj : j < hd.length) : mAt ag hd j = true ↔ j + (Txt.lower ag).length ≤ (Txt.lower hd).length ∧ subAt (Txt.lower hd) (Txt.lower ag) j = true := by
  rw [lower_len hA, lower_len hH]
  unfold mAt
  by_cases hle : j + ag.length ≤ hd.length
  · have e : Txt.slice hd (some (j : Int)) (some ((j : Int) + (ag.length : Nat))) = ⟨((hd.cps.toList.drop j).take (j + ag.length - j)).toArray⟩ := by
      rw [show ((j : Int) + (ag.length : Nat)) = (((j + ag.length : Nat)) : Int) by omega]
      exact StrLaws.sliceText_nat hd (by omega) hle
    have e2 : Txt.lower (Txt.slice hd (some (j : Int)) (some ((j : Int) + (ag.length : Nat)))) = ⟨(((hd.cps.toList.drop j).take (j + ag.length - j)).map lo1).toArray⟩ := by
      rw [e, lower_ascii (fun c hc => hH c (List.mem_of_mem_drop (List.mem_of_mem_take hc)))]
      simp
    rw [e2, lower_ascii hA, lower_ascii hH]
    unfold subAt
    rw [beq_iff_eq, beq_iff_eq]
    have hs : (⟨ag.cps.map lo1⟩ : Str).length = ag.length := by show (ag.cps.map lo1).size = ag.cps.size; simp
    rw [hs]
    have e3 : (hd.cps.map lo1).extract j (j + ag.length) = (((hd.cps.toList.drop j).take (j + ag.length - j)).map lo1).toArray := by
      apply Array.toList_inj.mp
      simp [List.map_take, List.map_drop]
    show _ ↔ _ ∧ (hd.cps.map lo1).extract j (j + ag.length) = ag.cps.map lo1
    rw [e3]
    exact ⟨fun h => ⟨hle, congrArg Str.cps h⟩, fun h => Str.ext' h.2⟩
  · have e : Txt.slice hd (some (j : Int)) (some ((j : Int) + (ag.length : Nat))) = ⟨((hd.cps.toList.drop j).take (hd.length - j)).toArray⟩ := by
      rw [slice_hi (by omega) (by omega)]
      exact StrLaws.sliceText_nat hd (by omega) (Nat.le_refl _)
    constructor
    · intro h
      rw [beq_iff_eq, e] at h
      have h2 := congrArg Str.length h
      rw [lower_len hA, lower_len (fun c hc => hH c (List.mem_of_mem_drop (List.mem_of_mem_take hc)))] at h2
      exfalso
      have h3 : (⟨((hd.cps.toList.drop j).take (hd.length - j)).toArray⟩ : Str).length ≤ hd.length - j := by
        show ((hd.cps.toList.drop j).take (hd.length - j)).toArray.size ≤ _
        rw [List.size_toArray, List.length_take]; omega
      omega
    · intro h; exact absurd h.1 hle
theorem app_any {ag name : Str} (hA : ∀ c ∈ ag.cps.toList, c < 128) (hN : ∀ c ∈ name.cps.toList, c < 128) (ha : 0 < ag.length) : appB ag name = mAny ag (headL name) := by
  unfold appB
  rw [heads]
  have hH : ∀ c ∈ (headL name).cps.toList, c < 128 := fun c hc => hN c (headL_mem hc)
  generalize headL name = hd at hH
  rw [Bool.eq_iff_iff, StrLaws.found_iff]
  unfold mAny
  rw [List.any_eq_true]
  constructor
  · rintro ⟨i, h1, h2⟩
    have hi : i < hd.length := by
      rw [lower_len hA, lower_len hH] at h1; omega
    exact ⟨i, List.mem_range.mpr hi, (mAt_iff hA hH ha hi).mpr ⟨h1, h2⟩⟩
  · rintro ⟨i, h1, h2⟩
    exact ⟨i, (mAt_iff hA hH ha (List.mem_range.mp h1)).mp h2⟩
theorem metF_cons_yes {name : Str} {r : Str × Bool} {rs : List (Str × Bool)} (hm : mAny r.1 (headL name) = true) : metF name (r :: rs) = r.2 :: metF name rs := by
  unfold metF
  rw [List.filter_cons]
  simp only [hm, if_true, List.map_cons]
theorem metF_cons_no {name : Str} {r : Str × Bool} {rs : List (Str × Bool)} (hm : mAny r.1 (headL name) = false) : metF name (r :: rs) = metF name rs := by
  unfold metF
  rw [List.filter_cons]
  simp only [hm, Bool.false_eq_true, if_false]
theorem al_fold (name : Str) : ∀ (rs : List (Str × Bool)) (ms : List Bool) (st : Bool × Bool), (∀ r ∈ rs, appB r.1 name = mAny r.1 (headL name)) → st = (!decide (ms = []), decide (ms = []) || decide (true ∈ ms)) →
    rs.foldl (alStep name) st = (!decide (ms ++ metF name rs = []), decide (ms ++ metF name rs = []) || decide (true ∈ ms ++ metF name rs))
  | [], ms, st, _, h => by
    rw [h, show metF name [] = [] from rfl, List.append_nil]; rfl
  | r :: rs, ms, st, hr, h => by
    have e := hr r List.mem_cons_self
    have ih := fun ms' st' => al_fold name rs ms' st' fun x hx => hr x (List.mem_cons_of_mem _ hx)
    rw [List.foldl_cons]
    cases hm : mAny r.1 (headL name) with
    | true =>
      rw [metF_cons_yes hm, show ms ++ r.2 :: metF name rs = (ms ++ [r.2]) ++ metF name rs by simp]
      refine ih _ _ ?_
      unfold alStep
      rw [e, hm, if_pos rfl, h]
      generalize r.2 = b
      by_cases h0 : ms = []
      · subst h0
        cases b <;> rfl
      · by_cases h1 : true ∈ ms <;> cases b <;> simp [h0, h1]
    | false =>
      rw [metF_cons_no hm]
      refine ih _ _ ?_
      unfold alStep
      rw [e, hm, if_neg Bool.false_ne_true, h]
theorem al_alw {name : Str} {rs : List (Str × Bool)} (hr : ∀ r ∈ rs, appB r.1 name = mAny r.1 (headL name)) : (alF name rs).2 = alwF name rs := by
  have h := al_fold name rs [] (false, true) hr rfl
  unfold alF alwF
  rw [h]
  simp
theorem ltCps_iff : ∀ (a b : List Nat), ltCps a b = true ↔ a < b
  | [], [] => by simp [ltCps]
  | [], _ :: _ => by simp [ltCps]
  | _ :: _, [] => by simp [ltCps]
  | a :: r, b :: t => by
    rw [ltCps, List.cons_lt_cons_iff, Bool.or_eq_true, Bool.and_eq_true, decide_eq_true_eq, beq_iff_eq, ltCps_iff r t]
theorem rising_pair : ∀ (l : List Str) (p : Str), risingS p l = true → (∀ x ∈ l, leS p x) ∧ l.Pairwise leS
  | [], p, _ => ⟨(fun x h => nomatch h), List.Pairwise.nil⟩
  | x :: l, p, h => by
    rw [risingS, Bool.and_eq_true] at h
    obtain ⟨h1, h2⟩ := h
    obtain ⟨i1, i2⟩ := rising_pair l x h2
    have hpx : leS p x := by
      refine List.not_lt.mp fun k => ?_
      rw [(ltCps_iff _ _).mpr k] at h1
      exact absurd h1 (by decide)
    refine ⟨fun y hy => ?_, List.pairwise_cons.mpr ⟨i1, i2⟩⟩
    rcases List.mem_cons.mp hy with rfl | hy
    · exact hpx
    · exact leS_trans hpx (i1 y hy)
theorem sorted_pair {l : List Str} (h : sortedS l = true) : l.Pairwise leS := by
  cases l with
  | nil => exact List.Pairwise.nil
  | cons x l =>
    obtain ⟨i1, i2⟩ := rising_pair l x h
    exact List.pairwise_cons.mpr ⟨i1, i2⟩
theorem perm_sorted : ∀ {l₁ l₂ : List Str}, l₁.Perm l₂ → l₁.Pairwise leS → l₂.Pairwise leS → l₁ = l₂
  | [], l₂, hp, _, _ => (List.Perm.nil_eq hp)
  | a :: l₁, [], hp, _, _ => absurd hp.length_eq (by simp)
  | a :: l₁, b :: l₂, hp, h1, h2 => by
    obtain ⟨a1, a2⟩ := List.pairwise_cons.mp h1
    obtain ⟨b1, b2⟩ := List.pairwise_cons.mp h2
    have hab : a = b := by
      rcases List.mem_cons.mp (hp.mem_iff.mp List.mem_cons_self) with e | hm
      · exact e
      · rcases List.mem_cons.mp (hp.mem_iff.mpr List.mem_cons_self) with e | hm2
        · exact e.symm
        · exact leS_anti (a1 b hm2) (b1 a hm)
    subst hab
    rw [perm_sorted (List.Perm.cons_inv hp) a2 b2]
theorem off_sorted {names ss : List Str} (hp : ss.Perm names) (hs : sortedS ss = true) : offF names.length (hpF (names.length / 2) names) = ss := by
  obtain ⟨h1, h2⟩ := off_perm names
  exact perm_sorted (h1.trans hp.symm) h2 (sorted_pair hs)
theorem join_inj (c : Nat) : ∀ (ps qs : List Str), ps ≠ [] → qs ≠ [] → (∀ p ∈ ps, c ∉ p.cps.toList) → (∀ p ∈ qs, c ∉ p.cps.toList) → Str.join ⟨#[c]⟩ ps = Str.join ⟨#[c]⟩ qs → ps = qs := by
  have cut : ∀ (a b u v : List Nat), c ∉ a → c ∉ b → a ++ c :: u = b ++ c :: v → a = b ∧ u = v := by
    intro a
    induction a with
    | nil =>
      intro b u v _ hb e
      cases b with
      | nil => exact ⟨rfl, by simpa using e⟩
      | cons x b => simp at e; exact absurd (e.1 ▸ List.mem_cons_self) hb
    | cons x a ih =>
      intro b u v ha hb e
      cases b with
      | nil => simp at e; exact absurd (e.1 ▸ List.mem_cons_self) ha
      | cons y b =>
        simp at e
        obtain ⟨h1, h2⟩ := ih b u v (fun h => ha (List.mem_cons_of_mem _ h)) (fun h => hb (List.mem_cons_of_mem _ h)) e.2
        exact ⟨by rw [e.1, h1], h2⟩
  have cons2 : ∀ (p q : Str) (r : List Str), (Str.join ⟨#[c]⟩ (p :: q :: r)).cps.toList = p.cps.toList ++ c :: (Str.join ⟨#[c]⟩ (q :: r)).cps.toList := by
    intro p q r
    show (p ++ ⟨#[c]⟩ ++ Str.join ⟨#[c]⟩ (q :: r)).cps.toList = _
    simp [Str.cps_append]
  intro ps
  induction ps with
  | nil => intro qs h; exact absurd rfl h
  | cons p ps ih =>
    intro qs _ hq hp hq2 e
    cases qs with
    | nil => exact absurd rfl hq
    | cons q qs =>
      have e' := congrArg (fun x : Str => x.cps.toList) e
      cases ps with
      | nil =>
        cases qs with
        | nil =>
          have : p = q := e
          rw [this]
        | cons q2 qs =>
          rw [cons2] at e'
          have e2 : p.cps.toList = q.cps.toList ++ c :: (Str.join ⟨#[c]⟩ (q2 :: qs)).cps.toList := e'
          exact absurd (by rw [e2]; exact List.mem_append_right _ List.mem_cons_self) (hp p List.mem_cons_self)
      | cons p2 ps =>
        cases qs with
        | nil =>
          rw [cons2] at e'
          have e2 : p.cps.toList ++ c :: (Str.join ⟨#[c]⟩ (p2 :: ps)).cps.toList = q.cps.toList := e'
          exact absurd (by rw [← e2]; exact List.mem_append_right _ List.mem_cons_self) (hq2 q List.mem_cons_self)
        | cons q2 qs =>
          rw [cons2, cons2] at e'
          obtain ⟨h1, h2⟩ := cut _ _ _ _ (hp p List.mem_cons_self) (hq2 q List.mem_cons_self) e'
          have hpq : p = q := Str.ext' (Array.toList_inj.mp h1)
          rw [hpq, ih (q2 :: qs) (List.cons_ne_nil _ _) (List.cons_ne_nil _ _) (fun a ha => hp a (List.mem_cons_of_mem _ ha)) (fun a ha => hq2 a (List.mem_cons_of_mem _ ha)) (Str.ext' (Array.toList_inj.mp h2))]
theorem split_join {ps : List Str} (h0 : ps ≠ []) (h : ∀ p ∈ ps, ∀ c ∈ p.cps.toList, signB c = true) : Txt.split (Txt.join (Str.ofString "*") ps) (Str.ofString "*") = ps := by
  have e1 : Str.ofString "*" = ⟨#[42]⟩ := by decide +kernel
  rw [e1, txt_join]
  refine join_inj 42 _ _ ?_ h0 (StrLaws.split_free _ 42) (fun p hp hc => absurd (h p hp 42 hc) (by decide)) (StrLaws.join_split _ _)
  intro e
  have := split_pos (Str.join ⟨#[42]⟩ ps) ⟨#[42]⟩
  rw [e] at this
  exact absurd this (by decide)
theorem DoesT.use {k : Nat} {w : World} {mean : ExcName → Option Value} {mg mb : Str → Option Value} {news : List (Addr × Obj)} {t : Sem Value} {post : Value → List (Addr × Obj) → Prop}
    {dp un : Nat} {gd : Option (List Code)} {cn : Str} {cs : Scope} {a : Addr} {ccd : Value} {cl : List (Str × Addr)} {outer : List Env} {A₀ : Around} {base h₀ : Heap} {L : Addr} {m : Str → Option Value} {s : Shared} {Q E : Value → Shared → Prop}
    (D : DoesT k w mean mg mb news t post)
    (B : Below A₀ base outer h₀) (F : Fr h₀ L s.heap m) (X : (Mine.heapK w.params).In h₀) (N : News h₀ L s.heap news) (T : Top Mine.view LO mean mg mb h₀) (ht : 1 ≤ s.toks) (hk : cs.kind = .function) (hd : dp + k < recursionLimit) (hu : un + 8 * k < cLine)
    (h : ∀ v h' tk' news', Fr h₀ L h' m → News h₀ L h' news' → post v news' → Q v { s with heap := h', toks := tk' }) :
    wpAny (model PySem.Challenge.rw_in0303_01.row.prog w) (ktrTop dp un gd cn cs L a ccd cl outer) t Q E s :=
  D dp un gd cn cs a ccd cl outer A₀ base h₀ L m s Q E B F X N T ht hk hd hu h
theorem split_ends {l : List Str} (h : 2 ≤ l.length) : ∃ a ms z, l = a :: (ms ++ [z]) := by
  cases l with
  | nil => cases h
  | cons a l =>
    have hne : l ≠ [] := by intro e; subst e; simp at h
    exact ⟨a, l.dropLast, l.getLast hne, by rw [List.dropLast_concat_getLast hne]⟩
theorem star_join {ys : List Str} (h : ∀ y ∈ ys, y.length ≤ 4) (hn : ys.length ≤ 20) : (ys.map (·.length)).sum + ys.length * (Str.ofString "*").length ≤ 16777216 ∧ (Txt.join (Str.ofString "*") ys).length ≤ 1000 := by
  have h1 := sum_le h
  have h2 := StrLaws.join_length_le (Str.ofString "*") ys
  have h3 : (Str.ofString "*").length = 1 := by decide +kernel
  rw [h3] at h2 ⊢
  rw [txt_join]
  omega
theorem bools_rep (n : Nat) : (List.replicate n [true]).flatten = List.replicate n true := by
  induction n with
  | zero => rfl
  | succ n ih => rw [List.replicate_succ, List.flatten_cons, ih, List.replicate_succ]; rfl
theorem r_isB {prog : Program} {w : World} {A : Around} {E : Value → Shared → Prop} {s : Shared} {Q : Value → Shared → Prop} {b : Bool} (h : Q (.bool true) s) : wpAny (model prog w) A (compareOp .Is (.bool b) (.bool b)) Q E s := by
  cases b <;> exact wpAny_is_self (by rfl) h

end
section
local macro_rules | `(tactic| walk_at "SrcLP") => `(tactic| (refine hold ?_))
local macro_rules | `(tactic| walk_at "call builtin:str.join") => `(tactic| (refine hold ?_))
local macro_rules | `(tactic| walk_at "call builtin:sorted") => `(tactic| (refine hold ?_))
local macro_rules | `(tactic| walk_at "compareOp Eq ref ref") => `(tactic| (refine hold ?_))
local macro_rules | `(tactic| walk_at "compareOp Is bool bool") => `(tactic| (refine hold ?_))
local macro_rules | `(tactic| walk_at "binaryOp Mult ref int") => `(tactic| (refine hold ?_))
local macro_rules | `(tactic| walk_at "eval ListComp") => `(tactic| (k_here; k_dflt (refine LCg.ListComp_U (F₀ := by k_asm) (by rfl) (by decide) (by rfl) (by decide) (by rfl) ?_)))
local macro_rules | `(tactic| walk_at "eval ListComp") => `(tactic| ((with_reducible show wpAny _ _ (eval (PySem.Expr.ListComp _ [⟨PySem.Expr.Tuple _ _ _, _, _, _⟩] _ _) _) _ _ _); refine hold ?_))
local macro_rules | `(tactic| walk_at "call ref") => `(tactic| (refine hold ?_))
local macro_rules | `(tactic| walk_at "pyIter ref") => `(tactic| (refine hold ?_))
local macro_rules | `(tactic| walk_at "call type:bytes") => `(tactic| (refine hold ?_))
local macro_rules | `(tactic| walk_at "call builtin:bytes.decode") => `(tactic| (refine hold ?_))
local macro_rules | `(tactic| walk_at "compareOp NotEq ref ref") => `(tactic| (refine hold ?_))
local macro_rules | `(tactic| walk_at "subscriptTail Name Name ref int") => `(tactic| (refine hold ?_))
local macro_rules | `(tactic| walk_at "call builtin:len") => `(tactic| (k_here; (with_reducible show wpAny _ _ (call (Value.builtin "len") [Value.ref _]) _ _ _); (refine' r_len ?N ?hm ?hn ?hf ?_; (case N => k_asm); (case hm => k_dflt k_mem); (case hn => with_reducible assumption); (case hf => omega))))
local macro_rules | `(tactic| walk_at "subscriptTail Name Slice ref ref") => `(tactic| ((fail_if_success (fail_if_success (rename AllR _ _ _ => hz9))); refine hold ?_))
local macro_rules | `(tactic| walk_at "binaryOp FloorDiv int int") => `(tactic| (k_here; refine r_half ?_))
local macro_rules | `(tactic| k_all) => `(tactic| ((try dsimp only); (repeat (first | (with_reducible exact List.forall_mem_nil _) | ((with_reducible refine List.forall_mem_cons.mpr ?_); refine ⟨by k_ne, ?_⟩))); (try exact neAll_off1 (by assumption))))
local macro_rules | `(tactic| walk_at "getAttr ref") => `(tactic| (k_here; first | ((with_reducible show wpAny _ _ (getAttr (Value.ref _) (Str.ofString "useragents") _) _ _ _); (refine ent_agents (by k_asm) (by k_asm) (by k_asm) (by k_mem) (by k_mem) ?_)) | ((with_reducible show wpAny _ _ (getAttr (Value.ref _) (Str.ofString "allowance") _) _ _ _); refine ent_allow (by k_asm) (by k_asm) (by k_asm) (by k_mem) (by k_mem) ?_)))
local macro_rules | `(tactic| walk_at "subscriptTail") => `(tactic| ((fail_if_success (fail_if_success (rename Hold _ => hz9))); refine hold ?_))
local macro_rules | `(tactic| walk_at "CompEnd") => `(tactic| (refine hold ?_))
local macro_rules | `(tactic| walk_at "FinE") => `(tactic| (refine hold ?_))
local macro_rules | `(tactic| walk_at "FinA") => `(tactic| (refine hold ?_))
local macro_rules | `(tactic| walk_at "CompSrc") => `(tactic| (refine hold ?_))
local macro_rules | `(tactic| k_qdec) => `(tactic| decide +kernel)
set_option maxHeartbeats 0 in
theorem law_w (hdh : ∀ {d : DefRec} {kwd : List (Str × PySem.Expr)} (hdef : defOf view PySem.Challenge.rw_in0303_01.row.toRowW.name = some (d, kwd)) (hp : PySem.Challenge.rw_in0303_01.row.toRowW.prog.theDef PySem.Challenge.rw_in0303_01.row.toRowW.name = some (d.params, d.body, d.scope)) (hk : kwWritten? d.params.kwonlyargs d.params.kw_defaults = some kwd)     (call : WalkO view LOl (XL view []) (kHook heapK adrs adrs_is).says PySem.Challenge.rw_in0303_01.row.toRowW d kwd (fun f vs => PySem.call f vs)), PySem.Challenge.rw_in0303_01.Holds) : PySem.Challenge.rw_in0303_01.Holds := by
  refine hdh (by rfl) (by rfl) (by rfl) ?_
  clear hdh
  w_strict (
    k_go0
    all_goals try k_fold
    k_steps
    unfold Hold
    rename CellsAre _ _ _ => xz
    clear xz
    rename_i h₁ tk₁ o4 o3 o2 o1 d4 d3 d2 d1 l0 h5 lt0 D1 ws1 h6 hI1 hC1 hL1 lt1 D0 ws0 h7 hI0 lt2 h8 oN F0 N0 dN
    rename List Int => script
    rename World => w0
    rename Shared => s1
    rename Below _ _ _ _ => K0
    rename Top _ _ _ _ _ _ => T0
    rename PySem.W.Frag.In _ _ => KX0
    have N2 := news_sub N0 (l₂ := [(D0, W.listOf (List.toArray ws0) 0), (s1.heap.objs.size + 1 + 1 + 1 + 1, o4), (s1.heap.objs.size + 1 + 1 + 1, o3), (s1.heap.objs.size + 1 + 1, o2), (s1.heap.objs.size + 1, oN)]) (by walk_at "m_sub")
    obtain ⟨v4, e4⟩ := cellEx d4
    obtain ⟨v3, e3⟩ := cellEx d3
    obtain ⟨v2, e2⟩ := cellEx d2
    clear d1 d2 d3 d4 N0 hC1 hL1 lt0 lt1 hI1
    have hnl : ([4, 9, 70, 255] ++ List.take 5 script).length < 10 ∧ 4 ≤ ([4, 9, 70, 255] ++ List.take 5 script).length := by simp; omega
    generalize [4, 9, 70, 255] ++ List.take 5 script = ns at *
    have hwl : ws0.length = ns.length := hI0.length
    refine LCg.CompSrc.ledger (its := List.toArray ws0) (k := 0) rfl (by k_asm) N2 List.mem_cons_self (by rw [sizeLine_eq, List.size_toArray]; omega) fun g2 => comp_inv (fun i ys led => led = [(D0, W.listOf (List.toArray ws0) 0), (s1.heap.objs.size + 1 + 1 + 1 + 1, o4), (s1.heap.objs.size + 1 + 1 + 1, o3), (s1.heap.objs.size + 1 + 1, o2), (s1.heap.objs.size + 1, oN)] ∧ StrsAre ys ((ns.take i).map nameF)) _ ?_ ?_ _ 0 [] _ (Nat.zero_add _) ⟨rfl, .nil⟩
    · rintro i ys led hi ⟨rfl, hys⟩ v9 I9 oI9 C9 oC9 D9 m9 h9 tk9 E9 hv hC9 hx9 F6 N6 off9 ne9
      obtain ⟨x9, t9, hx, rfl⟩ := ints_at hI0 (i := i) (by simpa using hv)
      clear hv N2 dN e2 e3 e4
      k_steps
      unfold Hold
      refine (octets_c (x := x9) (tk := t9)).use K0 F6 KX0 N6 T0 rfl (by ktr_room) (by ktr_units) ?_
      rintro v h' tk' news' F7 N7 ⟨l7, ws7, rfl, rfl, hi7, ho7⟩
      clear F6 N6
      k_steps
      unfold Hold
      refine r_octbytes (by k_asm) N7 List.mem_cons_self hi7 (octs_ok x9) rfl ?_
      intro h8' t8 k8 F8 N8 hb8
      clear F7 N7
      k_steps
      unfold Hold
      refine (b64_c (octs_ok x9) hb8).use K0 F8 KX0 N8 T0 rfl (by ktr_room) (by ktr_units) ?_
      rintro v h' tk' news' F7 N7 ⟨t7, rfl, rfl⟩
      clear F8 N8
      k_steps
      unfold Hold
      refine r_decode (octs_ok x9) ?_
      intro t6 k6
      k_steps
      unfold Hold
      refine LCg.CompEnd.intro (by k_asm) N7 _ (by walk_at "m_sub") off9 (Or.inr ⟨_, List.mem_cons_self, rfl, _, rfl⟩) ⟨rfl, ?_⟩
      rw [take_snoc hx, List.map_append]
      exact StrsAre.append' hys (.cons _ _ .nil)
    · rintro ys led ⟨rfl, hys⟩
      rw [List.take_of_length_le (by rw [List.size_toArray, hwl]; exact Nat.le_refl _)] at hys
      unfold LCg.FinE
      intro D2 h2 tk2 F2 N3 o2'
      clear N2
      k_steps
      unfold Hold
      rename_i h3 oM F3 N4 dM

      have hnok : ∀ y ∈ ns.map nameF, PyData.strOk y = true := fun y hy => by
        obtain ⟨x, _, rfl⟩ := List.mem_map.mp hy
        exact strOk_of (name_sign x)
      refine LCg.CompSrc.ledger (its := List.toArray ws0) (k := 0) rfl F3 N4 (List.mem_cons_of_mem _ List.mem_cons_self) (by rw [sizeLine_eq, List.size_toArray]; omega) fun g2 => comp_inv (fun i zs led => led = [(D2, LCg.lst ys), (D0, W.listOf (List.toArray ws0) 0), (s1.heap.objs.size + 1 + 1 + 1 + 1, o4), (s1.heap.objs.size + 1 + 1 + 1, o3), (s1.heap.objs.size + 1 + 1, oM), (s1.heap.objs.size + 1, oN)] ∧ StrsAre zs ((ns.take i).map nameF)) _ ?_ ?_ _ 0 [] _ (Nat.zero_add _) ⟨rfl, .nil⟩
      · rintro i zs led hi ⟨rfl, hzs⟩ v9 I9 oI9 C9 oC9 D9 m9 h9 tk9 E9 hv hC9 hx9 F6 N6 off9 ne9
        obtain ⟨x9, t9, hx, rfl⟩ := ints_at hI0 (i := i) (by simpa using hv)
        clear hv N4 dN e2 e3 e4 dM hys
        k_steps
        unfold Hold
        refine (octets_c (x := x9) (tk := t9)).use K0 F6 KX0 N6 T0 rfl (by ktr_room) (by ktr_units) ?_
        rintro v h' tk' news' F7 N7 ⟨l7, ws7, rfl, rfl, hi7, ho7⟩
        clear F6 N6
        k_steps
        unfold Hold
        refine (writing_c (octs_ok x9) hi7 List.mem_cons_self).use K0 F7 KX0 N7 T0 rfl (by ktr_room) (by ktr_units) ?_
        rintro v h' tk' news' F8 N8 ⟨t7, rfl, rfl⟩
        clear F7 N7
        k_steps
        unfold Hold
        refine LCg.CompEnd.intro (by k_asm) N8 _ (by walk_at "m_sub") off9 (Or.inr ⟨_, List.mem_cons_of_mem _ List.mem_cons_self, rfl, _, rfl⟩) ⟨rfl, ?_⟩
        rw [take_snoc hx, List.map_append]
        exact StrsAre.append' hzs (.cons _ _ .nil)
      · rintro zs led ⟨rfl, hzs⟩
        rw [List.take_of_length_le (by rw [List.size_toArray, hwl]; exact Nat.le_refl _)] at hzs
        unfold LCg.FinE
        intro D3 h4 tk3 F4 N5 o3'
        k_steps
        unfold Hold
        refine r_neS N5 (List.mem_cons_of_mem _ List.mem_cons_self) hys List.mem_cons_self hzs hnok hnok (by ktr_units) rfl ?_
        have N6 := news_sub N5 (l₂ := [(D2, LCg.lst ys), (D0, W.listOf (List.toArray ws0) 0), (s1.heap.objs.size + 1 + 1 + 1 + 1, o4), (s1.heap.objs.size + 1 + 1 + 1, o3), (s1.heap.objs.size + 1 + 1, oM), (s1.heap.objs.size + 1, oN)]) (by walk_at "m_sub")
        clear N5 N4 F3 hzs
        k_steps
        unfold Hold
        rename IsRange _ _ _ _ _ _ _ _ => hR
        rename Fr _ _ _ _ => F5
        have hyl2 : ys.length = ns.length := by rw [StrsAre.length hys, List.length_map]
        refine LCg.CompSrc.range (n := ns.length) rfl F5 (by k_asm) hR (range_small (by omega)) range_size (by rw [sizeLine_eq]; omega) fun g2 => comp_inv (fun i zs led => (∀ p ∈ [(D2, LCg.lst ys), (D0, W.listOf (List.toArray ws0) 0), (s1.heap.objs.size + 1 + 1 + 1 + 1, o4), (s1.heap.objs.size + 1 + 1 + 1, o3), (s1.heap.objs.size + 1 + 1, oM), (s1.heap.objs.size + 1, oN)], p ∈ led) ∧ AllR (RuleIs led) zs ((ns.map fun x => rulF x (nameF x)).take i)) _ ?_ ?_ _ 0 [] _ (Nat.zero_add _) ⟨fun p hp => hp, .nil⟩
        · rintro i zs led hi ⟨hLL, hzs⟩ v9 I9 oI9 C9 oC9 D9 m9 h9 tk9 E9 ⟨t9, rfl⟩ hC9 hx9 F6 N6 off9 ne9
          have N6s := news_sub N6 (l₂ := [(I9, oI9), (C9, oC9), (D9, LCg.lst zs), (D2, LCg.lst ys), (D0, W.listOf (List.toArray ws0) 0), (s1.heap.objs.size + 1 + 1 + 1 + 1, o4), (s1.heap.objs.size + 1 + 1 + 1, o3), (s1.heap.objs.size + 1 + 1, oM), (s1.heap.objs.size + 1, oN)]) (List.forall_mem_cons.mpr ⟨List.mem_cons_self, List.forall_mem_cons.mpr ⟨List.mem_cons_of_mem _ List.mem_cons_self, List.forall_mem_cons.mpr ⟨List.mem_cons_of_mem _ (List.mem_cons_of_mem _ List.mem_cons_self), fun p hp => List.mem_cons_of_mem _ (List.mem_cons_of_mem _ (List.mem_cons_of_mem _ (hLL p hp)))⟩⟩⟩)
          replace N6 := hideN N6
          replace hLL := hideN hLL
          replace hzs := hideN hzs
          replace off9 := hideN off9
          clear e2 e3 e4
          k_steps
          unfold Hold
          refine ksa_sub (vs := ws0) (ns := ns) (n := 0) (by k_asm) (by k_mem) (by assumption) (by omega) (by omega) (by omega) ?_ (by with_unfolding_all rfl)
          intro t8
          k_steps
          unfold Hold
          refine r_sget (vs := ys) (ys := ns.map nameF) (n := ys.length) (by k_asm) (by k_mem) hys (by omega) (by rw [List.length_map]; omega) (by omega) ?_ (by with_unfolding_all rfl)
          intro t7
          k_steps
          unfold Hold at *
          have hk : (0 + (i : Int)).toNat = i := by omega
          have hget : ns[i]? = some (ns.getD (0 + (i : Int)).toNat 0) := by rw [hk, List.getD_eq_getElem?_getD, List.getElem?_eq_getElem hi]; rfl
          have hnm : gS (ns.map nameF) (0 + (i : Int)).toNat = nameF (ns.getD (0 + (i : Int)).toNat 0) := by
            rw [hk, gS_at (by rw [List.length_map]; exact hi), List.getElem_map, List.getD_eq_getElem?_getD, List.getElem?_eq_getElem hi]; rfl
          refine (rule_c (x := ns.getD (0 + (i : Int)).toNat 0) (name := gS (ns.map nameF) (0 + (i : Int)).toNat) (by rw [hnm]; exact name_len _)).use K0 F6 KX0 N6 T0 rfl (by ktr_room) (by ktr_units) ?_
          rintro v h7' tk' news' F7 N7 ⟨T7, u7, rfl, rfl, ho7⟩
          obtain ⟨oT, hoT, N8⟩ : ∃ oT, oT = tupO (rulF (ns.getD (0 + (i : Int)).toNat 0) (gS (ns.map nameF) (0 + (i : Int)).toNat)).1 u7 (rulF (ns.getD (0 + (i : Int)).toNat 0) (gS (ns.map nameF) (0 + (i : Int)).toNat)).2 ∧ News s1.heap s1.heap.objs.size h7' ((T7, oT) :: (I9, oI9) :: (C9, oC9) :: (D9, LCg.lst zs) :: led) := ⟨_, rfl, N7⟩
          rw [hnm] at hoT
          clear F6 N6 N6s N7
          have o1' := ho7.1
          have o2'' := ho7.2.1
          have o3'' := ho7.2.2.1
          clear ho7
          k_steps
          unfold Hold
          refine LCg.CompEnd.intro (by k_asm) N8 ((T7, oT) :: led) ?_ ⟨⟨Ne.symm o1', Ne.symm o2'', Ne.symm o3''⟩, off9⟩ trivial ⟨fun p hp => List.mem_cons_of_mem _ (hLL p hp), ?_⟩
          · exact List.forall_mem_cons.mpr ⟨List.mem_cons_of_mem _ List.mem_cons_self, List.forall_mem_cons.mpr ⟨List.mem_cons_of_mem _ (List.mem_cons_of_mem _ List.mem_cons_self), List.forall_mem_cons.mpr ⟨List.mem_cons_of_mem _ (List.mem_cons_of_mem _ (List.mem_cons_of_mem _ List.mem_cons_self)), List.forall_mem_cons.mpr ⟨List.mem_cons_self, fun p hp => List.mem_cons_of_mem _ (List.mem_cons_of_mem _ (List.mem_cons_of_mem _ (List.mem_cons_of_mem _ hp)))⟩⟩⟩⟩
          · rw [take_snoc (a := rulF (ns.getD (0 + (i : Int)).toNat 0) (nameF (ns.getD (0 + (i : Int)).toNat 0))) (by rw [List.getElem?_map, hget]; rfl)]
            exact (hzs.mono fun v a h => h.mono fun p hp => List.mem_cons_of_mem _ hp).append (AllR.one ⟨T7, u7, rfl, by rw [← hoT]; exact List.mem_cons_self⟩)
        · rintro zs led ⟨hLL, hzs⟩
          rw [List.take_of_length_le (by rw [List.length_map]; exact Nat.le_refl _)] at hzs
          unfold LCg.FinE
          intro D4 h5 tk4 F6 N6 o5'
          have hz2 : AllR (RuleIs ((D4, LCg.lst zs) :: led)) zs (ns.map fun x => rulF x (nameF x)) := hzs.mono fun v a h => h.mono fun p hp => List.mem_cons_of_mem _ hp
          have m4 : (s1.heap.objs.size + 1 + 1 + 1 + 1, o4) ∈ (D4, LCg.lst zs) :: led := List.mem_cons_of_mem _ (hLL _ (by k_mem))
          have m3 : (s1.heap.objs.size + 1 + 1 + 1, o3) ∈ (D4, LCg.lst zs) :: led := List.mem_cons_of_mem _ (hLL _ (by k_mem))
          have m2 : (s1.heap.objs.size + 1 + 1, oM) ∈ (D4, LCg.lst zs) :: led := List.mem_cons_of_mem _ (hLL _ (by k_mem))
          have m1 : (s1.heap.objs.size + 1, oN) ∈ (D4, LCg.lst zs) :: led := List.mem_cons_of_mem _ (hLL _ (by k_mem))
          have k4 := cell_off N6 m4 e4
          have k3 := cell_off N6 m3 e3
          have q4 := notC_mem (led := (D4, LCg.lst zs) :: led) List.mem_cons_self rfl
          have q2 := notC_mem (List.mem_cons_of_mem (D4, LCg.lst zs) (hLL (D2, LCg.lst ys) List.mem_cons_self)) rfl
          have q0 := notC_mem (List.mem_cons_of_mem (D4, LCg.lst zs) (hLL (D0, W.listOf (List.toArray ws0) 0) (List.mem_cons_of_mem _ List.mem_cons_self))) rfl
          have hz3 : AllR (RuleIs (((D4, LCg.lst zs) :: led).filter notC)) zs (ns.map fun x => rulF x (nameF x)) := hz2.mono fun v a h => h.notC
          have N7 := news_sub N6 (l₂ := (s1.heap.objs.size + 1 + 1 + 1 + 1, o4) :: (s1.heap.objs.size + 1 + 1 + 1, o3) :: (s1.heap.objs.size + 1 + 1, oM) :: (s1.heap.objs.size + 1, oN) :: ((D4, LCg.lst zs) :: led).filter notC) (List.forall_mem_cons.mpr ⟨m4, List.forall_mem_cons.mpr ⟨m3, List.forall_mem_cons.mpr ⟨m2, List.forall_mem_cons.mpr ⟨m1, fun p hp => (List.mem_filter.mp hp).1⟩⟩⟩⟩)
          generalize ((D4, LCg.lst zs) :: led).filter notC = tl at *
          clear N6 hz2 hzs m4 m3 m2 m1 hLL o5'
          have hzl : zs.length = ns.length := by rw [hz3.length, List.length_map]
          k_steps
          unfold Hold
          rename_i h6 oR dR tkx h7 F8 N8
          (try clear N7); (try clear F6); (try clear k3)
          obtain ⟨ru, hru⟩ : ∃ ru, ru = ns.map fun x => rulF x (nameF x) := ⟨_, rfl⟩
          rw [← hru] at hz3
          have hrul : ru.length = ns.length := by rw [hru, List.length_map]
          refine r_slice (vs := zs) (c := zs.length) (lo := none) (hi := some ((ns.length / 2 : Nat) : Int)) (zs := zs.take (ns.length / 2)) F8 N8 (by k_mem) (by kmk_part) (by kmk_part) (pick_to (by omega)) (by omega) ?_ (by with_unfolding_all rfl) (by kmk_pure)
          intro D5 h8 F9 N9 _
          have hr5 : AllR (RuleIs ((D5, W.listOf (List.toArray (zs.take (ns.length / 2))) 0) :: (s1.heap.objs.size + 1 + 1 + 1 + 1, o4) :: (s1.heap.objs.size + 1 + 1 + 1, oR) :: (s1.heap.objs.size + 1 + 1, oM) :: (s1.heap.objs.size + 1, oN) :: tl)) (zs.take (ns.length / 2)) (ru.take (ns.length / 2)) :=
            (hz3.take _).mono fun v a h => h.mono fun p hp => List.mem_cons_of_mem _ (List.mem_cons_of_mem _ (List.mem_cons_of_mem _ (List.mem_cons_of_mem _ (List.mem_cons_of_mem _ hp))))
          (try clear N8); (try clear F8)
          k_steps
          unfold Hold
          refine (rec_c hr5 (by rw [List.length_take]; omega) List.mem_cons_self).use K0 F9 KX0 N9 T0 rfl (by ktr_room) (by ktr_units) ?_
          rintro v h9' tk9' news5 F6 N6 ⟨x1, rfl, hx1, hs5⟩
          obtain ⟨N7, k5⟩ := relay N6 (hs5 _ (List.mem_cons_of_mem _ List.mem_cons_self)) (hs5 _ (List.mem_cons_of_mem _ (List.mem_cons_of_mem _ List.mem_cons_self))) (hs5 _ (List.mem_cons_of_mem _ (List.mem_cons_of_mem _ (List.mem_cons_of_mem _ List.mem_cons_self)))) (hs5 _ (List.mem_cons_of_mem _ (List.mem_cons_of_mem _ (List.mem_cons_of_mem _ (List.mem_cons_of_mem _ List.mem_cons_self))))) e4
          have hs6 : ∀ p ∈ tl, p ∈ news5 := fun p hp => hs5 p (List.mem_cons_of_mem _ (List.mem_cons_of_mem _ (List.mem_cons_of_mem _ (List.mem_cons_of_mem _ (List.mem_cons_of_mem _ hp)))))
          have r4 := notC_mem (hs6 _ q4) rfl
          have r2 := notC_mem (hs6 _ q2) rfl
          have r0 := notC_mem (hs6 _ q0) rfl
          have hz6 := hz3.mono fun v a h => (RuleIs.mono hs6 h).notC
          have hx6 := hx1.notC
          generalize news5.filter notC = tl5 at *
          (try clear N6); (try clear N9); (try clear F9); (try clear hs5); (try clear hs6); (try clear hr5); (try clear hx1); (try clear q4); (try clear q2); (try clear q0); (try clear hz3); (try clear k4)
          k_steps
          unfold Hold
          refine r_slice (vs := zs) (c := zs.length) (lo := some ((ns.length / 2 : Nat) : Int)) (hi := none) (zs := zs.drop (ns.length / 2)) F6 N7 (by k_mem) (by kmk_part) (by kmk_part) (pick_from (by omega)) (by omega) ?_ (by with_unfolding_all rfl) (by kmk_pure)
          intro D6 h8b F9 N9 _
          have hr5 : AllR (RuleIs ((D6, W.listOf (List.toArray (zs.drop (ns.length / 2))) 0) :: (s1.heap.objs.size + 1 + 1 + 1 + 1, o4) :: (s1.heap.objs.size + 1 + 1 + 1, oR) :: (s1.heap.objs.size + 1 + 1, oM) :: (s1.heap.objs.size + 1, oN) :: tl5)) (zs.drop (ns.length / 2)) (ru.drop (ns.length / 2)) :=
            (hz6.drop _).mono fun v a h => h.mono fun p hp => List.mem_cons_of_mem _ (List.mem_cons_of_mem _ (List.mem_cons_of_mem _ (List.mem_cons_of_mem _ (List.mem_cons_of_mem _ hp))))
          (try clear N7); (try clear F6)
          k_steps
          unfold Hold
          refine (rec_c hr5 (by rw [List.length_drop]; omega) List.mem_cons_self).use K0 F9 KX0 N9 T0 rfl (by ktr_room) (by ktr_units) ?_
          rintro v h9b tk9b news6 F6 N6 ⟨x2, rfl, hx2, hs5⟩
          obtain ⟨N7, k6⟩ := relay N6 (hs5 _ (List.mem_cons_of_mem _ List.mem_cons_self)) (hs5 _ (List.mem_cons_of_mem _ (List.mem_cons_of_mem _ List.mem_cons_self))) (hs5 _ (List.mem_cons_of_mem _ (List.mem_cons_of_mem _ (List.mem_cons_of_mem _ List.mem_cons_self)))) (hs5 _ (List.mem_cons_of_mem _ (List.mem_cons_of_mem _ (List.mem_cons_of_mem _ (List.mem_cons_of_mem _ List.mem_cons_self))))) e4
          have hs6 : ∀ p ∈ tl5, p ∈ news6 := fun p hp => hs5 p (List.mem_cons_of_mem _ (List.mem_cons_of_mem _ (List.mem_cons_of_mem _ (List.mem_cons_of_mem _ (List.mem_cons_of_mem _ hp)))))
          have q4 := notC_mem (hs6 _ r4) rfl
          have q2 := notC_mem (hs6 _ r2) rfl
          have q0 := notC_mem (hs6 _ r0) rfl
          have hz7 := hz6.mono fun v a h => (RuleIs.mono hs6 h).notC
          have hx7 := (hx6.mono hs6).notC
          have hx8 := hx2.notC
          generalize news6.filter notC = tl6 at *
          (try clear N6); (try clear N9); (try clear F9); (try clear hs5); (try clear hs6); (try clear hr5); (try clear hx2); (try clear r4); (try clear r2); (try clear r0); (try clear hz6); (try clear hx6); (try clear k5)
          k_steps
          unfold Hold
          have hy9 : (ru.take (ns.length / 2)).length + (ru.drop (ns.length / 2)).length < 64 := by rw [List.length_take, List.length_drop]; omega
          refine (mrg_c (x1 := x1) (x2 := x2) hy9 (hx7.mono fun p hp => List.mem_cons_of_mem _ (List.mem_cons_of_mem _ (List.mem_cons_of_mem _ (List.mem_cons_of_mem _ hp)))) (hx8.mono fun p hp => List.mem_cons_of_mem _ (List.mem_cons_of_mem _ (List.mem_cons_of_mem _ (List.mem_cons_of_mem _ hp))))).use K0 F6 KX0 N7 T0 rfl (by ktr_room) (by ktr_units) ?_
          rintro v h9c tk9c news7 F9 N6 ⟨x3, rfl, hx3, hs5⟩
          rw [List.take_append_drop] at hx3
          obtain ⟨N8, k7⟩ := relay N6 (hs5 _ List.mem_cons_self) (hs5 _ (List.mem_cons_of_mem _ List.mem_cons_self)) (hs5 _ (List.mem_cons_of_mem _ (List.mem_cons_of_mem _ List.mem_cons_self))) (hs5 _ (List.mem_cons_of_mem _ (List.mem_cons_of_mem _ (List.mem_cons_of_mem _ List.mem_cons_self)))) e4
          have hs6 : ∀ p ∈ tl6, p ∈ news7 := fun p hp => hs5 p (List.mem_cons_of_mem _ (List.mem_cons_of_mem _ (List.mem_cons_of_mem _ (List.mem_cons_of_mem _ hp))))
          have r4 := notC_mem (hs6 _ q4) rfl
          have r2 := notC_mem (hs6 _ q2) rfl
          have r0 := notC_mem (hs6 _ q0) rfl
          have hz8 := hz7.mono fun v a h => (RuleIs.mono hs6 h).notC
          have hx9 := hx3.notC
          generalize news7.filter notC = tl7 at *
          (try clear N6); (try clear N7); (try clear F6); (try clear hs5); (try clear hs6); (try clear hx3); (try clear q4); (try clear q2); (try clear q0); (try clear hz7); (try clear hx7); (try clear hx8); (try clear k6)
          have hxR := hideN hx9
          obtain ⟨d3, U3, R3, u1, u2, u3, u4, es, cE, cU, mx, md, mU, mR, hes⟩ := hx9
          k_steps
          unfold Hold
          rename_i h10 oE F10 N10 dE
          have hesl : es.length = ns.length := by rw [hes.length, hrul]
          refine LCg.CompSrc.ledger (its := List.toArray es) (k := cE) rfl F10 N10 (List.mem_cons_of_mem _ (List.mem_cons_of_mem _ (List.mem_cons_of_mem _ (List.mem_cons_of_mem _ mR)))) (by rw [sizeLine_eq, List.size_toArray]; omega) fun g2 => comp_inv (fun i zs' led => (∀ p ∈ (s1.heap.objs.size + 1 + 1 + 1 + 1, oE) :: (s1.heap.objs.size + 1 + 1 + 1, oR) :: (s1.heap.objs.size + 1 + 1, oM) :: (s1.heap.objs.size + 1, oN) :: tl7, p ∈ led) ∧ AllR (RuleIs led) zs' (ru.take i)) _ ?_ ?_ _ 0 [] _ (Nat.zero_add _) ⟨fun p hp => hp, .nil⟩
          · rintro i zs' led hi ⟨hLL, hzs'⟩ v9 I9 oI9 C9 oC9 D9 m9 h9 tk9 E9 hv hC9 hx9 F6 N6 off9 ne9
            obtain ⟨r, hri, x', d', U', R', t1', t2', t3', t4', t5', t', rfl, mx', md', mU'⟩ := hes.get i v9 (by simpa using hv)
            have hT : ∀ p ∈ tl7, p ∈ led := fun p hp => hLL p (List.mem_cons_of_mem _ (List.mem_cons_of_mem _ (List.mem_cons_of_mem _ (List.mem_cons_of_mem _ hp))))
            have mx9 := hT _ mx'
            have md9 := hT _ md'
            have mU9 := hT _ mU'
            have mR9 := hT _ mR
            replace hLL := hideN hLL
            replace hzs' := hideN hzs'
            replace off9 := hideN off9
            (try clear hv); (try clear hT); (try clear mx'); (try clear md'); (try clear mU'); (try clear mx); (try clear md); (try clear mU); (try clear mR); (try clear r4); (try clear r2); (try clear r0); (try clear dE); (try clear dR); (try clear dM); (try clear dN)
            k_steps
            unfold Hold
            refine r_sget (vs := [.str r.1 t']) (ys := [r.1]) (n := 0) (by k_asm) (by k_mem) (.cons _ _ .nil) (by decide) (by simp) (by decide) ?_ (by with_unfolding_all rfl)
            intro t6
            k_steps
            unfold Hold at *
            rename_i TT h11 F11 N11 lT
            refine LCg.CompEnd.intro F11 N11 ((TT, tupO r.1 t6 r.2) :: led) ?_ ⟨⟨Nat.ne_of_gt lT.1, Nat.ne_of_gt lT.2.1, Nat.ne_of_gt lT.2.2.1⟩, off9⟩ (Or.inr ⟨_, List.mem_cons_of_mem _ mR9, rfl, _, rfl⟩) ⟨fun p hp => List.mem_cons_of_mem _ (hLL p hp), ?_⟩
            · exact List.forall_mem_cons.mpr ⟨List.mem_cons_of_mem _ List.mem_cons_self, List.forall_mem_cons.mpr ⟨List.mem_cons_of_mem _ (List.mem_cons_of_mem _ List.mem_cons_self), List.forall_mem_cons.mpr ⟨List.mem_cons_of_mem _ (List.mem_cons_of_mem _ (List.mem_cons_of_mem _ List.mem_cons_self)), List.forall_mem_cons.mpr ⟨List.mem_cons_self, fun p hp => List.mem_cons_of_mem _ (List.mem_cons_of_mem _ (List.mem_cons_of_mem _ (List.mem_cons_of_mem _ hp)))⟩⟩⟩⟩
            · rw [take_snoc hri]
              exact (hzs'.mono fun v a h => h.mono fun p hp => List.mem_cons_of_mem _ hp).append (AllR.one ⟨TT, t6, rfl, List.mem_cons_self⟩)
          · rintro zs' led ⟨hLL, hzs'⟩
            rw [List.take_of_length_le (by rw [List.size_toArray]; omega)] at hzs'
            unfold LCg.FinE
            intro D7 h11 tk11 F11 N11 o7'
            have hro : ∀ r ∈ ru, (∀ c ∈ r.1.cps.toList, signB c = true) ∧ 0 < r.1.length ∧ r.1.length ≤ 4 := fun r hr => by
              rw [hru] at hr
              obtain ⟨x, _, rfl⟩ := List.mem_map.mp hr
              exact agent_ok (name_len x) (name_sign x)
            have hT : ∀ p ∈ tl7, p ∈ (D7, LCg.lst zs') :: led := fun p hp => List.mem_cons_of_mem _ (hLL p (List.mem_cons_of_mem _ (List.mem_cons_of_mem _ (List.mem_cons_of_mem _ (List.mem_cons_of_mem _ hp)))))
            have mz := hT _ r4
            have ha1 : AllR (RuleIs ((D7, LCg.lst zs') :: led)) zs' ru := hzs'.mono fun v a h => h.mono fun p hp => List.mem_cons_of_mem _ hp
            have ha2 : AllR (RuleIs ((D7, LCg.lst zs') :: led)) zs ru := hz8.mono fun v a h => h.mono hT
            have N12 := news_sub N11 (l₂ := (s1.heap.objs.size + 1 + 1 + 1 + 1, oE) :: (s1.heap.objs.size + 1 + 1 + 1, oR) :: (s1.heap.objs.size + 1 + 1, oM) :: (s1.heap.objs.size + 1, oN) :: tl7) (fun p hp => List.mem_cons_of_mem _ (hLL p hp))
            (try clear F10); (try clear N10); (try clear hzs'); (try clear hLL); (try clear hes)
            replace N11 := hideN N11
            replace ha1 := hideN ha1
            replace ha2 := hideN ha2
            replace hT := hideN hT
            k_steps
            unfold Hold at *
            refine r_neR N11 List.mem_cons_self ha1 mz ha2 (fun r hr => strOk_of (hro r hr).1) (by ktr_units) ?_
            (try clear N11); (try clear ha1); (try clear ha2); (try clear hT); (try clear o7'); (try clear mz)
            k_steps
            unfold Hold
            refine wpAny_with_toks (n := 1) (Nat.le_add_left 1 _) ?_
            obtain ⟨LLc, hLc⟩ : ∃ l : List (Addr × Obj), l = (s1.heap.objs.size + 1 + 1 + 1 + 1, oE) :: (s1.heap.objs.size + 1 + 1 + 1, oR) :: (s1.heap.objs.size + 1 + 1, oM) :: (s1.heap.objs.size + 1, oN) :: tl7 := ⟨_, rfl⟩
            replace hLc := hideN hLc
            refine LCp.ListComp_P (F₀ := F11) (by with_unfolding_all rfl) (by decide) (by rfl) (by decide) (by rfl) (by rfl) (by decide) ?_
            k_steps
            unfold Hold
            refine LCp.SrcLP.ledger (its := List.toArray zs) (k := zs.length) rfl F11 N12 (List.mem_cons_of_mem _ (List.mem_cons_of_mem _ (List.mem_cons_of_mem _ (List.mem_cons_of_mem _ r4)))) (by rw [sizeLine_eq, List.size_toArray]; omega) fun g2 => compP_inv (fun i ys9 led => led = LLc ∧ StrsAre ys9 ((ru.map (·.1)).take i)) _ ?_ ?_ _ 0 [] _ (Nat.zero_add _) ⟨(hold hLc).symm, .nil⟩
            · rintro i ys9 led hi ⟨hl9, hys9⟩ v9 hv
              rw [hl9]
              obtain ⟨r, hri, T9, t9, rfl, mT⟩ := hz8.get i v9 (by simpa using hv)
              refine ⟨T9, _, .str r.1 t9, .bool r.2, 0, rfl, (by rw [hold hLc]; exact List.mem_cons_of_mem _ (List.mem_cons_of_mem _ (List.mem_cons_of_mem _ (List.mem_cons_of_mem _ mT)))), rfl, rfl, ?_⟩
              intro I9 oI9 C9 oC9 D9 m9 h9 tk9 E9 hC9 hx9 hx9' F6 N6 off9 ne9
              have mD9 : (D4, LCg.lst zs) ∈ LLc := by rw [hold hLc]; exact List.mem_cons_of_mem _ (List.mem_cons_of_mem _ (List.mem_cons_of_mem _ (List.mem_cons_of_mem _ r4)))
              (try clear N12); (try clear hLc); (try clear hz8); (try clear mx); (try clear md); (try clear mU); (try clear mR); (try clear r4); (try clear r2); (try clear r0); (try clear dE); (try clear dR); (try clear dM); (try clear dN)
              k_steps
              unfold Hold
              refine LCg.CompEnd.intro (by k_asm) (by k_asm) _ (fun p hp => hp) off9 (Or.inr ⟨_, mD9, rfl, _, rfl⟩) ⟨rfl, ?_⟩
              rw [take_snoc (a := r.1) (by rw [List.getElem?_map, hri]; rfl)]
              exact StrsAre.append' hys9 (.cons _ _ .nil)
            · rintro ys9 led ⟨hl9, hys9⟩
              rw [List.take_of_length_le (by rw [List.size_toArray, hzl, List.length_map, hrul]; exact Nat.le_refl _)] at hys9
              rw [hl9]
              obtain ⟨a1, ms, z1, hag⟩ := split_ends (l := ru.map (·.1)) (by rw [List.length_map]; omega)
              have hok1 : ∀ y ∈ a1 :: (ms ++ [z1]), (∀ c ∈ y.cps.toList, signB c = true) ∧ 0 < y.length ∧ y.length ≤ 4 := fun y hy => by
                rw [← hag] at hy
                obtain ⟨r, hr, rfl⟩ := List.mem_map.mp hy
                exact hro r hr
              have hagl : (a1 :: (ms ++ [z1])).length = ns.length := by rw [← hag, List.length_map, hrul]
              have hmsl : ms.length < 60 := by simp at hagl; omega
              obtain ⟨hj1, hj2⟩ := star_join (ys := a1 :: (ms ++ [z1])) (fun y hy => (hok1 y hy).2.2) (by omega)
              rw [hag] at hys9
              unfold LCg.FinE
              intro D8 h12 tk12 F12 N13 o8' ht12
              (try clear F11); (try clear N12)
              k_steps
              unfold Hold
              refine wpAny_with_toks (n := 1) ht12 ?_
              refine r_join N13 List.mem_cons_self hys9 hj1 ?_
              intro t13 k13 ht13
              (try clear hys9); (try clear o8')
              k_steps
              unfold Hold
              refine wpAny_with_toks (n := 1) ht13 ?_
              refine (tp_c (x := Txt.join (Str.ofString "*") (a1 :: (ms ++ [z1]))) (split_join (List.cons_ne_nil _ _) (fun p hp => (hok1 p hp).1)) hok1 hmsl hj2).use K0 F12 KX0 N13 T0 rfl (by ktr_room) (by ktr_units) ?_
              rintro v h13 tk13 news8 F13 N14 ⟨t14, rfl, rfl⟩ ht14
              have N15 := news_sub N14 (l₂ := (s1.heap.objs.size + 1 + 1 + 1 + 1, oE) :: (s1.heap.objs.size + 1 + 1 + 1, oR) :: (s1.heap.objs.size + 1 + 1, oM) :: (s1.heap.objs.size + 1, oN) :: tl7) (fun p hp => List.mem_cons_of_mem _ (by rw [hold hLc]; exact hp))
              (try clear F12); (try clear N13); (try clear N14)
              k_steps
              unfold Hold
              refine wpAny_with_toks (n := 1) ht14 ?_
              refine LCp.ListComp_P (F₀ := F13) (by with_unfolding_all rfl) (by decide) (by rfl) (by decide) (by rfl) (by rfl) (by decide) ?_
              k_steps
              unfold Hold
              refine LCp.SrcLP.ledger (its := List.toArray zs) (k := zs.length) rfl F13 N15 (List.mem_cons_of_mem _ (List.mem_cons_of_mem _ (List.mem_cons_of_mem _ (List.mem_cons_of_mem _ r4)))) (by rw [sizeLine_eq, List.size_toArray]; omega) fun g2 => compP_inv (fun i ys10 led => led = LLc ∧ StrsAre ys10 ((ru.map (·.1)).take i)) _ ?_ ?_ _ 0 [] _ (Nat.zero_add _) ⟨(hold hLc).symm, .nil⟩
              · rintro i ys10 led hi ⟨hl9, hys9⟩ v9 hv
                rw [hl9]
                obtain ⟨r, hri, T9, t9, rfl, mT⟩ := hz8.get i v9 (by simpa using hv)
                refine ⟨T9, _, .str r.1 t9, .bool r.2, 0, rfl, (by rw [hold hLc]; exact List.mem_cons_of_mem _ (List.mem_cons_of_mem _ (List.mem_cons_of_mem _ (List.mem_cons_of_mem _ mT)))), rfl, rfl, ?_⟩
                intro I9 oI9 C9 oC9 D9 m9 h9 tk9 E9 hC9 hx9 hx9' F6 N6 off9 ne9
                have mD9 : (D4, LCg.lst zs) ∈ LLc := by rw [hold hLc]; exact List.mem_cons_of_mem _ (List.mem_cons_of_mem _ (List.mem_cons_of_mem _ (List.mem_cons_of_mem _ r4)))
                (try clear N15); (try clear hLc); (try clear hz8); (try clear mx); (try clear md); (try clear mU); (try clear mR); (try clear r4); (try clear r2); (try clear r0); (try clear dE); (try clear dR); (try clear dM); (try clear dN)
                k_steps
                unfold Hold
                refine LCg.CompEnd.intro (by k_asm) (by k_asm) _ (fun p hp => hp) off9 (Or.inr ⟨_, mD9, rfl, _, rfl⟩) ⟨rfl, ?_⟩
                rw [take_snoc (a := r.1) (by rw [List.getElem?_map, hri]; rfl)]
                exact StrsAre.append' hys9 (.cons _ _ .nil)
              · rintro ys10 led ⟨hl9, hys9⟩
                rw [List.take_of_length_le (by rw [List.size_toArray, hzl, List.length_map, hrul]; exact Nat.le_refl _)] at hys9
                rw [hl9]
                rw [hag] at hys9
                unfold LCg.FinE
                intro D9b h14 tk14 F14 N16 o9' ht15
                k_steps
                unfold Hold
                refine (lp_c hys9 hok1 hmsl List.mem_cons_self).use K0 F14 KX0 N16 T0 ht15 rfl (by ktr_room) (by ktr_units) ?_
                rintro v h15 tk15 news9 F15 N17 ⟨t16, rfl, rfl⟩
                have N18 := news_sub N17 (l₂ := (s1.heap.objs.size + 1 + 1 + 1 + 1, oE) :: (s1.heap.objs.size + 1 + 1 + 1, oR) :: (s1.heap.objs.size + 1 + 1, oM) :: (s1.heap.objs.size + 1, oN) :: tl7) (fun p hp => List.mem_cons_of_mem _ (by rw [hold hLc]; exact hp))
                (try clear N17); (try clear N16); (try clear F14); (try clear hys9); (try clear o9')
                k_steps
                unfold Hold
                have hnl64 : (ns.map nameF).length < 64 := by rw [List.length_map]; omega
                refine (of_c (vs := ys) (c := ys.length) (ys := ns.map nameF) hys hnl64 hnok (List.mem_cons_of_mem _ (List.mem_cons_of_mem _ (List.mem_cons_of_mem _ (List.mem_cons_of_mem _ (r2)))))).use K0 F15 KX0 N18 T0 rfl (by ktr_room) (by ktr_units) ?_
                rintro v h16 tk16 news10 F16 N19 ⟨D10, vs10, c10, rfl, rfl, hs10, ho10⟩
                obtain ⟨os, hos⟩ : ∃ os, os = offF (ns.map nameF).length (hpF ((ns.map nameF).length / 2) (ns.map nameF)) := ⟨_, rfl⟩
                rw [← hos] at hs10
                have hom : ∀ y ∈ os, ∃ x, y = nameF x := fun y hy => by
                  rw [hos] at hy
                  obtain ⟨x, _, e⟩ := List.mem_map.mp ((off_perm _).1.mem_iff.mp hy)
                  exact ⟨x, e.symm⟩
                have hol : os.length = ns.length := by rw [hos, (off_perm _).1.length_eq, List.length_map]
                have hv10 : vs10.length = ns.length := by rw [StrsAre.length hs10, hol]
                replace hos := hideN hos
                replace ho10 := hideN ho10
                (try clear N18); (try clear F15)
                k_steps
                unfold Hold
                refine sorted_N_str (vs := ys) (ss := ns.map nameF) (by k_asm) (by k_asm) (News.isList (n := ys.length) (by k_asm) (by k_mem)) hys (by omega) ?_
                intro h17 vs11 ss e11 F17 N20 hs11 hp11 hso11
                have hok11 : ∀ y ∈ ss, PyData.strOk y = true := fun y hy => hnok y (hp11.mem_iff.mp hy)
                have hok10 : ∀ y ∈ os, PyData.strOk y = true := fun y hy => by
                  obtain ⟨x, rfl⟩ := hom y hy
                  exact strOk_of (name_sign x)
                have heq : os = ss := by rw [hold hos]; exact off_sorted hp11 hso11
                (try clear N19); (try clear F16)
                k_steps
                unfold Hold
                refine r_neS N20 (List.mem_cons_of_mem _ List.mem_cons_self) hs10 List.mem_cons_self hs11 hok10 hok11 (by ktr_units) heq ?_
                have N21 := news_sub N20 (l₂ := (D10, W.listOf (List.toArray vs10) c10) :: (s1.heap.objs.size + 1 + 1 + 1 + 1, oE) :: (s1.heap.objs.size + 1 + 1 + 1, oR) :: (s1.heap.objs.size + 1 + 1, oM) :: (s1.heap.objs.size + 1, oN) :: tl7) (fun p hp => List.mem_cons_of_mem _ hp)
                (try clear N20); (try clear hs11); (try clear hp11); (try clear hso11); (try clear hok11); (try clear hok10); (try clear heq)
                obtain ⟨LLd, hLd⟩ : ∃ l : List (Addr × Obj), l = (D10, W.listOf (List.toArray vs10) c10) :: (s1.heap.objs.size + 1 + 1 + 1 + 1, oE) :: (s1.heap.objs.size + 1 + 1 + 1, oR) :: (s1.heap.objs.size + 1 + 1, oM) :: (s1.heap.objs.size + 1, oN) :: tl7 := ⟨_, rfl⟩
                replace hLd := hideN hLd
                k_steps
                unfold Hold
                refine LCg.CompSrc.ledger (its := List.toArray vs10) (k := c10) rfl (by k_asm) N21 List.mem_cons_self (by rw [sizeLine_eq, List.size_toArray]; omega) fun g2 => comp_inv (fun i ys12 led => led = LLd ∧ LSm.BoolsAre ys12 (List.replicate i true)) _ ?_ ?_ _ 0 [] _ (Nat.zero_add _) ⟨(hold hLd).symm, .nil⟩
                · rintro i ys12 led hi ⟨hl9, hb9⟩ v9 I9 oI9 C9 oC9 D9 m9 h9 tk9 E9 hv hC9 hx9 F6 N6 off9 ne9
                  rw [hl9] at N6 off9
                  have hlt : i < os.length := by rw [hol, ← hv10]; simpa using hi
                  obtain ⟨t9, e9⟩ := strs_at hs10 i hlt
                  have hv' : vs10[i]? = some v9 := by simpa using hv
                  rw [hv'] at e9
                  obtain rfl := Option.some.inj e9
                  obtain ⟨x9, hx9n⟩ := hom (gS os i) (by rw [gS_at hlt]; exact List.getElem_mem hlt)
                  have hn4 : (gS os i).length = 4 := by rw [hx9n]; exact name_len x9
                  have hns : ∀ c ∈ (gS os i).cps.toList, c < 128 := fun c hc => sign_lt (name_sign x9 c (by rw [← hx9n]; exact hc))
                  have hkey : (alF (gS os i) ru).2 = alwF (gS os i) ru := al_alw fun r hr => app_any (fun c hc => sign_lt ((hro r hr).1 c hc)) hns (hro r hr).2.1
                  (try clear hv); (try clear hv'); (try clear e9); (try clear hx9n); (try clear hns)
                  generalize gS os i = nm at *
                  have N6s := news_sub N6 (l₂ := (I9, oI9) :: (C9, oC9) :: (D9, LCg.lst ys12) :: (D10, W.listOf (List.toArray vs10) c10) :: (s1.heap.objs.size + 1 + 1 + 1 + 1, oE) :: (s1.heap.objs.size + 1 + 1 + 1, oR) :: (s1.heap.objs.size + 1 + 1, oM) :: (s1.heap.objs.size + 1, oN) :: tl7) (by rw [hold hLd]; exact fun p hp => hp)
                  have hxr : RecIs w0 ((I9, oI9) :: (C9, oC9) :: (D9, LCg.lst ys12) :: (D10, W.listOf (List.toArray vs10) c10) :: (s1.heap.objs.size + 1 + 1 + 1 + 1, oE) :: (s1.heap.objs.size + 1 + 1 + 1, oR) :: (s1.heap.objs.size + 1 + 1, oM) :: (s1.heap.objs.size + 1, oN) :: tl7) x3 ru := RecIs.mono (fun p hp => List.mem_cons_of_mem _ (List.mem_cons_of_mem _ (List.mem_cons_of_mem _ (List.mem_cons_of_mem _ (List.mem_cons_of_mem _ (List.mem_cons_of_mem _ (List.mem_cons_of_mem _ (List.mem_cons_of_mem _ (hp))))))))) (hold hxR)
                  have hzr : AllR (RuleIs ((I9, oI9) :: (C9, oC9) :: (D9, LCg.lst ys12) :: (D10, W.listOf (List.toArray vs10) c10) :: (s1.heap.objs.size + 1 + 1 + 1 + 1, oE) :: (s1.heap.objs.size + 1 + 1 + 1, oR) :: (s1.heap.objs.size + 1 + 1, oM) :: (s1.heap.objs.size + 1, oN) :: tl7)) zs ru := hz8.mono fun v a h => h.mono fun p hp => List.mem_cons_of_mem _ (List.mem_cons_of_mem _ (List.mem_cons_of_mem _ (List.mem_cons_of_mem _ (List.mem_cons_of_mem _ (List.mem_cons_of_mem _ (List.mem_cons_of_mem _ (List.mem_cons_of_mem _ (hp))))))))
                  (try clear N6); (try clear N21)
                  replace hxr := hideN hxr
                  replace hzr := hideN hzr
                  replace off9 := hideN off9
                  k_steps
                  unfold Hold
                  refine (al_c (hold hxr) (by omega) (fun r hr => ⟨by have := (hro r hr).2.2; omega, not_star (hro r hr).1 (hro r hr).2.1⟩) hn4).use K0 F6 KX0 N6s T0 rfl (by ktr_room) (by ktr_units) ?_
                  rintro v h18 tk18 news11 F18 N22 ⟨rfl, hs12⟩
                  rw [hkey]
                  have N23 := news_sub N22 hs12
                  (try clear N22); (try clear N6s); (try clear F6); (try clear hs12)
                  k_steps
                  unfold Hold
                  refine (alw_c (vs := zs) (c := zs.length) (hold hzr) (by omega) (List.mem_cons_of_mem _ (List.mem_cons_of_mem _ (List.mem_cons_of_mem _ (List.mem_cons_of_mem _ (List.mem_cons_of_mem _ (List.mem_cons_of_mem _ (List.mem_cons_of_mem _ (List.mem_cons_of_mem _ (r4))))))))) (fun r hr => (hro r hr).2.2) hn4).use K0 F18 KX0 N23 T0 rfl (by ktr_room) (by ktr_units) ?_
                  rintro v h19 tk19 news12 F19 N24 ⟨rfl, hs13⟩
                  have N25 := news_sub N24 hs13
                  (try clear N24); (try clear N23); (try clear F18); (try clear hs13)
                  k_steps
                  unfold Hold
                  refine r_isB ?_
                  k_steps
                  unfold Hold at *
                  refine LCg.CompEnd.intro F19 N25 LLd (by rw [hLd]; exact fun p hp => hp) off9 (Or.inr ⟨_, (by rw [hLd]; exact List.mem_cons_self), rfl, _, rfl⟩) ⟨rfl, ?_⟩
                  rw [List.replicate_succ']
                  exact kbo_app hb9 (.cons true .nil)
                · rintro ys12 led ⟨hl9, hb9⟩
                  rw [List.size_toArray, hv10] at hb9
                  unfold LCg.FinE
                  intro D12 h20 tk20 F20 N22 o12
                  rw [hl9, hold hLd] at N22
                  (try clear N21); (try clear o12); (try clear hl9)
                  k_steps
                  unfold Hold
                  rename_i LT h21 F21 N23 lt21
                  have heqb : List.replicate ns.length true = (List.replicate ((ns.length : Nat) : Int).toNat [true]).flatten := by rw [bools_rep, Int.toNat_natCast]
                  refine kbo_mul (vs := [.bool true]) (bs := [true]) F21 N23 (News.isList (n := 0) N23 List.mem_cons_self) (.cons true .nil) (by omega) (by omega) (by show 1 * ((ns.length : Nat) : Int).toNat ≤ 2 ^ 24; omega) ?_
                  intro D13 h22 F22 N24 l24 hb13 NN e1' e2' e3' e4' e5'
                  replace hb13 := hideN hb13
                  replace heqb := hideN heqb
                  replace hb9 := hideN hb9
                  (try clear F21); (try clear N23); (try clear lt21); (try clear e1'); (try clear e2'); (try clear e3'); (try clear e4'); (try clear e5')
                  k_steps
                  unfold Hold at *
                  refine r_eqB N24 (List.mem_cons_of_mem _ (List.mem_cons_of_mem _ List.mem_cons_self)) hb9 List.mem_cons_self hb13 (by ktr_units) ?_
                  rw [decide_eq_true heqb]
                  k_steps
  )
end
end Mine
end
theorem PySem.Challenge.cw_in0303_01_holds : PySem.Challenge.rw_in0303_01.Holds := by
  exact Mine.law_w Mine.hd
