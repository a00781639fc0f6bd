import PyProof.Rows.All
import Wide.All
import OpenK.AllK
import Wide.FinOn
import PySem.Challenge.RW_in0135_01
set_option Elab.async false
section
open PySem PySem.W PyProof.Rows
namespace Mine
set_option maxRecDepth 100000
noncomputable def stAt (i : Nat) : Stmt := PySem.Challenge.pw_in0135_01.main.body.getD i default
noncomputable def partsAt (i : Nat) (j : Option Nat) : Arguments × List Stmt × Scope := match j, stAt i with
  | none, .FunctionDef _ a b _ _ _ s _ _ _ => (a, b, s)
  | some j, .ClassDef _ _ _ l _ _ _ _ _ _ _ => match l.getD j default with
    | .FunctionDef _ a b _ _ _ s _ _ _ => (a, b, s)
    | _ => default
  | _, _ => default
noncomputable def hd.view_39 : Program :=
  (fun {v1 v3 v4 v7 v8 v10 v11 v12 v13 v14 v15 v16 v17 v18 : Stmt} (_ : PySem.Challenge.pw_in0135_01.main.body[1]? = some v1) (_ : PySem.Challenge.pw_in0135_01.main.body[3]? = some v3) (_ : PySem.Challenge.pw_in0135_01.main.body[4]? = some v4) (_ : PySem.Challenge.pw_in0135_01.main.body[7]? = some v7) (_ : PySem.Challenge.pw_in0135_01.main.body[8]? = some v8) (_ : PySem.Challenge.pw_in0135_01.main.body[10]? = some v10) (_ : PySem.Challenge.pw_in0135_01.main.body[11]? = some v11) (_ : PySem.Challenge.pw_in0135_01.main.body[12]? = some v12) (_ : PySem.Challenge.pw_in0135_01.main.body[13]? = some v13) (_ : PySem.Challenge.pw_in0135_01.main.body[14]? = some v14) (_ : PySem.Challenge.pw_in0135_01.main.body[15]? = some v15) (_ : PySem.Challenge.pw_in0135_01.main.body[16]? = some v16) (_ : PySem.Challenge.pw_in0135_01.main.body[17]? = some v17) (_ : PySem.Challenge.pw_in0135_01.main.body[18]? = some v18) => ({ PySem.Challenge.pw_in0135_01 with main := { PySem.Challenge.pw_in0135_01.main with body := [v1, v3, v4, v7, v8, v10, v11, v12, v13, v14, v15, v16, v17, v18] } } : Program)) rfl rfl rfl rfl rfl rfl rfl rfl rfl rfl rfl rfl rfl rfl
noncomputable def hd.heap_39 : Params → Frag :=
  (fun {a28 : Arguments} {b28 : List Stmt} {s28 : Scope} {a35 : Arguments} {b35 : List Stmt} {s35 : Scope} {a42 : Arguments} {b42 : List Stmt} {s42 : Scope} {a49 : Arguments} {b49 : List Stmt} {s49 : Scope} {a63 : Arguments} {b63 : List Stmt} {s63 : Scope} {a72 : Arguments} {b72 : List Stmt} {s72 : Scope} {a79 : Arguments} {b79 : List Stmt} {s79 : Scope} {a86 : Arguments} {b86 : List Stmt} {s86 : Scope} {a93 : Arguments} {b93 : List Stmt} {s93 : Scope} {a100 : Arguments} {b100 : List Stmt} {s100 : Scope} {a105 : Arguments} {b105 : List Stmt} {s105 : Scope} {a110 : Arguments} {b110 : List Stmt} {s110 : Scope} {a117 : Arguments} {b117 : List Stmt} {s117 : Scope} {a124 : Arguments} {b124 : List Stmt} {s124 : Scope} {a131 : Arguments} {b131 : List Stmt} {s131 : Scope} {a136 : Arguments} {b136 : List Stmt} {s136 : Scope} {a141 : Arguments} {b141 : List Stmt} {s141 : Scope} (_ : partsAt 1 (some 0) = (a28, b28, s28)) (_ : partsAt 1 (some 1) = (a35, b35, s35)) (_ : partsAt 1 (some 2) = (a42, b42, s42)) (_ : partsAt 1 (some 3) = (a49, b49, s49)) (_ : partsAt 3 none = (a63, b63, s63)) (_ : partsAt 5 none = (a72, b72, s72)) (_ : partsAt 7 none = (a79, b79, s79)) (_ : partsAt 8 none = (a86, b86, s86)) (_ : partsAt 10 none = (a93, b93, s93)) (_ : partsAt 11 none = (a100, b100, s100)) (_ : partsAt 12 none = (a105, b105, s105)) (_ : partsAt 13 none = (a110, b110, s110)) (_ : partsAt 14 none = (a117, b117, s117)) (_ : partsAt 15 none = (a124, b124, s124)) (_ : partsAt 16 none = (a131, b131, s131)) (_ : partsAt 17 none = (a136, b136, s136)) (_ : partsAt 18 none = (a141, b141, s141)) => fun P =>
(nat_lit 2, { cls := Value.none, data := Data.dict #[] }) ::
(nat_lit 3, { cls := Value.type "dict", data := Data.dict #[{ hash := PyData.keyHash P (Str.ofString "__name__"), key := Value.str (Str.ofString "__name__") 165, val := Value.str (Str.ofString "law_in0135_01") 297 }, { hash := PyData.keyHash P (Str.ofString "__doc__"), key := Value.str (Str.ofString "__doc__") 166, val := Value.none }, { hash := PyData.keyHash P (Str.ofString "__package__"), key := Value.str (Str.ofString "__package__") 167, val := Value.none }, { hash := PyData.keyHash P (Str.ofString "__loader__"), key := Value.str (Str.ofString "__loader__") 168, val := Value.builtin "__main__.__loader__#opaque" }, { hash := PyData.keyHash P (Str.ofString "__spec__"), key := Value.str (Str.ofString "__spec__") 169, val := Value.none }, { hash := PyData.keyHash P (Str.ofString "__annotations__"), key := Value.str (Str.ofString "__annotations__") 170, val := Value.ref 6 }, { hash := PyData.keyHash P (Str.ofString "__builtins__"), key := Value.str (Str.ofString "__builtins__") 171, val := Value.ref 4 }, { hash := PyData.keyHash P (Str.ofString "__file__"), key := Value.str (Str.ofString "__file__") 173, val := Value.str (Str.ofString "/claim/cut.py") 172 }, { hash := PyData.keyHash P (Str.ofString "__cached__"), key := Value.str (Str.ofString "__cached__") 174, val := Value.none }, { hash := PyData.keyHash P (Str.ofString "_netrclex"), key := Value.str (Str.ofString "_netrclex") 246, val := Value.ref 52 }, { hash := PyData.keyHash P (Str.ofString "cmp_to_key"), key := Value.str (Str.ofString "cmp_to_key") 257, val := Value.ref 63 }, { hash := PyData.keyHash P (Str.ofString "_initial_missing"), key := Value.str (Str.ofString "_initial_missing") 258, val := Value.ref 64 }, { hash := PyData.keyHash P (Str.ofString "reduce"), key := Value.str (Str.ofString "reduce") 270, val := Value.ref 72 }, { hash := PyData.keyHash P (Str.ofString "sorted_list_difference"), key := Value.str (Str.ofString "sorted_list_difference") 286, val := Value.ref 79 }, { hash := PyData.keyHash P (Str.ofString "unorderable_list_difference"), key := Value.str (Str.ofString "unorderable_list_difference") 296, val := Value.ref 86 }, { hash := PyData.keyHash P (Str.ofString "_law_tables"), key := Value.str (Str.ofString "_law_tables") 311, val := Value.ref 93 }, { hash := PyData.keyHash P (Str.ofString "_law_words"), key := Value.str (Str.ofString "_law_words") 322, val := Value.ref 100 }, { hash := PyData.keyHash P (Str.ofString "_law_text"), key := Value.str (Str.ofString "_law_text") 328, val := Value.ref 105 }, { hash := PyData.keyHash P (Str.ofString "_law_tokens"), key := Value.str (Str.ofString "_law_tokens") 334, val := Value.ref 110 }, { hash := PyData.keyHash P (Str.ofString "_law_stepped"), key := Value.str (Str.ofString "_law_stepped") 347, val := Value.ref 117 }, { hash := PyData.keyHash P (Str.ofString "_law_compared"), key := Value.str (Str.ofString "_law_compared") 357, val := Value.ref 124 }, { hash := PyData.keyHash P (Str.ofString "_law_lacking"), key := Value.str (Str.ofString "_law_lacking") 367, val := Value.ref 131 }, { hash := PyData.keyHash P (Str.ofString "_law_told"), key := Value.str (Str.ofString "_law_told") 373, val := Value.ref 136 }, { hash := PyData.keyHash P (Str.ofString "law"), key := Value.str (Str.ofString "law") 379, val := Value.ref 141 }] 24 }) ::
(nat_lit 6, { cls := Value.type "dict", data := Data.dict #[] }) ::
(nat_lit 22, { cls := Value.type "tuple", data := Data.seq #[] }) ::
(nat_lit 24, { cls := Value.type "tuple", data := Data.seq #[Value.str (Str.ofString "self") 204, Value.str (Str.ofString "fp") 205] }) ::
(nat_lit 25, { cls := Value.type "tuple", data := Data.seq #[] }) ::
(nat_lit 27, { cls := Value.type "code", data := Data.fields #[Value.str (Str.ofString "__init__") 201, Value.str (Str.ofString "_netrclex.__init__") 202, Value.str (Str.ofString "/claim/cut.py") 203, Value.int 4 0, Value.int 2 0, Value.int 0 0, Value.int 0 0, Value.int 3 0, Value.ref 22, Value.bool true, Value.int 181 0, Value.ref 23, Value.none, Value.ref 24, Value.ref 25, Value.ref 26, Value.int 206 0, Value.int 4 0, Value.str (Str.ofString "/claim/cut.py") 207] }) ::
(nat_lit 28, { cls := Value.type "function", data := Data.func { name := Str.ofString "__init__", qualname := Str.ofString "_netrclex.__init__", params := a28, body := .stmts b28, scope := s28, globals := 3, closure := [], defaults := Value.none, kwdefaults := Value.none, pyModule := Value.str (Str.ofString "cpy313.netrc") 187, code := Value.ref 27 } }) ::
(nat_lit 29, { cls := Value.type "tuple", data := Data.seq #[] }) ::
(nat_lit 31, { cls := Value.type "tuple", data := Data.seq #[Value.str (Str.ofString "self") 212, Value.str (Str.ofString "ch") 213] }) ::
(nat_lit 32, { cls := Value.type "tuple", data := Data.seq #[] }) ::
(nat_lit 34, { cls := Value.type "code", data := Data.fields #[Value.str (Str.ofString "_read_char") 209, Value.str (Str.ofString "_netrclex._read_char") 210, Value.str (Str.ofString "/claim/cut.py") 211, Value.int 10 0, Value.int 1 0, Value.int 0 0, Value.int 0 0, Value.int 3 0, Value.ref 29, Value.bool true, Value.int 181 0, Value.ref 30, Value.none, Value.ref 31, Value.ref 32, Value.ref 33, Value.int 214 0, Value.int 10 0, Value.str (Str.ofString "/claim/cut.py") 215] }) ::
(nat_lit 35, { cls := Value.type "function", data := Data.func { name := Str.ofString "_read_char", qualname := Str.ofString "_netrclex._read_char", params := a35, body := .stmts b35, scope := s35, globals := 3, closure := [], defaults := Value.none, kwdefaults := Value.none, pyModule := Value.str (Str.ofString "cpy313.netrc") 187, code := Value.ref 34 } }) ::
(nat_lit 36, { cls := Value.type "tuple", data := Data.seq #[] }) ::
(nat_lit 38, { cls := Value.type "tuple", data := Data.seq #[Value.str (Str.ofString "self") 220, Value.str (Str.ofString "token") 221, Value.str (Str.ofString "fiter") 222, Value.str (Str.ofString "ch") 223] }) ::
(nat_lit 39, { cls := Value.type "tuple", data := Data.seq #[] }) ::
(nat_lit 41, { cls := Value.type "code", data := Data.fields #[Value.str (Str.ofString "get_token") 217, Value.str (Str.ofString "_netrclex.get_token") 218, Value.str (Str.ofString "/claim/cut.py") 219, Value.int 16 0, Value.int 1 0, Value.int 0 0, Value.int 0 0, Value.int 3 0, Value.ref 36, Value.bool true, Value.int 181 0, Value.ref 37, Value.none, Value.ref 38, Value.ref 39, Value.ref 40, Value.int 224 0, Value.int 16 0, Value.str (Str.ofString "/claim/cut.py") 225] }) ::
(nat_lit 42, { cls := Value.type "function", data := Data.func { name := Str.ofString "get_token", qualname := Str.ofString "_netrclex.get_token", params := a42, body := .stmts b42, scope := s42, globals := 3, closure := [], defaults := Value.none, kwdefaults := Value.none, pyModule := Value.str (Str.ofString "cpy313.netrc") 187, code := Value.ref 41 } }) ::
(nat_lit 43, { cls := Value.type "tuple", data := Data.seq #[] }) ::
(nat_lit 45, { cls := Value.type "tuple", data := Data.seq #[Value.str (Str.ofString "self") 230, Value.str (Str.ofString "token") 231] }) ::
(nat_lit 46, { cls := Value.type "tuple", data := Data.seq #[] }) ::
(nat_lit 48, { cls := Value.type "code", data := Data.fields #[Value.str (Str.ofString "push_token") 227, Value.str (Str.ofString "_netrclex.push_token") 228, Value.str (Str.ofString "/claim/cut.py") 229, Value.int 43 0, Value.int 2 0, Value.int 0 0, Value.int 0 0, Value.int 3 0, Value.ref 43, Value.bool true, Value.int 181 0, Value.ref 44, Value.none, Value.ref 45, Value.ref 46, Value.ref 47, Value.int 232 0, Value.int 43 0, Value.str (Str.ofString "/claim/cut.py") 233] }) ::
(nat_lit 49, { cls := Value.type "function", data := Data.func { name := Str.ofString "push_token", qualname := Str.ofString "_netrclex.push_token", params := a49, body := .stmts b49, scope := s49, globals := 3, closure := [], defaults := Value.none, kwdefaults := Value.none, pyModule := Value.str (Str.ofString "cpy313.netrc") 187, code := Value.ref 48 } }) ::
(nat_lit 50, { cls := Value.type "tuple", data := Data.seq #[Value.str (Str.ofString "instream") 235, Value.str (Str.ofString "lineno") 236, Value.str (Str.ofString "pushback") 237, Value.str (Str.ofString "whitespace") 238] }) ::
(nat_lit 51, { cls := Value.type "dict", data := Data.dict #[{ hash := PyData.keyHash P (Str.ofString "__module__"), key := Value.str (Str.ofString "__module__") 196, val := Value.str (Str.ofString "cpy313.netrc") 187 }, { hash := PyData.keyHash P (Str.ofString "__firstlineno__"), key := Value.str (Str.ofString "__firstlineno__") 200, val := Value.int 2 199 }, { hash := PyData.keyHash P (Str.ofString "__init__"), key := Value.str (Str.ofString "__init__") 208, val := Value.ref 28 }, { hash := PyData.keyHash P (Str.ofString "_read_char"), key := Value.str (Str.ofString "_read_char") 216, val := Value.ref 35 }, { hash := PyData.keyHash P (Str.ofString "get_token"), key := Value.str (Str.ofString "get_token") 226, val := Value.ref 42 }, { hash := PyData.keyHash P (Str.ofString "push_token"), key := Value.str (Str.ofString "push_token") 234, val := Value.ref 49 }, { hash := PyData.keyHash P (Str.ofString "__static_attributes__"), key := Value.str (Str.ofString "__static_attributes__") 239, val := Value.ref 50 }, { hash := PyData.keyHash P (Str.ofString "__dict__"), key := Value.str (Str.ofString "__dict__") 241, val := Value.ref 53 }, { hash := PyData.keyHash P (Str.ofString "__weakref__"), key := Value.str (Str.ofString "__weakref__") 243, val := Value.ref 54 }, { hash := PyData.keyHash P (Str.ofString "__doc__"), key := Value.str (Str.ofString "__doc__") 244, val := Value.none }] 4 }) ::
(nat_lit 52, { cls := Value.type "type", data := Data.cls { name := Str.ofString "_netrclex", bases := [Value.type "object"], mro := [Value.ref 52, Value.type "object"], ns := 51, qualname := Str.ofString "_netrclex" }, slots := #[none, none, some (Value.str (Str.ofString "_netrclex") 189), some (Value.str (Str.ofString "_netrclex") 197), some (Value.builtin "object.__new__"), some (Value.bool true)] }) ::
(nat_lit 53, { cls := Value.type "getset_descriptor", data := Data.fields #[Value.str (Str.ofString "__dict__") 240, Value.ref 52, Value.builtin "function.__dict__", Value.builtin "function.__dict__#set"] }) ::
(nat_lit 54, { cls := Value.type "getset_descriptor", data := Data.fields #[Value.str (Str.ofString "__weakref__") 242, Value.ref 52, Value.builtin "ExceptionGroup.__weakref__", Value.none] }) ::
(nat_lit 57, { cls := Value.type "tuple", data := Data.seq #[] }) ::
(nat_lit 59, { cls := Value.type "tuple", data := Data.seq #[Value.str (Str.ofString "mycmp") 252, Value.str (Str.ofString "K") 253] }) ::
(nat_lit 60, { cls := Value.type "tuple", data := Data.seq #[Value.str (Str.ofString "mycmp") 254] }) ::
(nat_lit 62, { cls := Value.type "code", data := Data.fields #[Value.str (Str.ofString "cmp_to_key") 249, Value.str (Str.ofString "cmp_to_key") 250, Value.str (Str.ofString "/claim/cut.py") 251, Value.int 46 0, Value.int 1 0, Value.int 0 0, Value.int 0 0, Value.int 3 0, Value.ref 57, Value.bool true, Value.int 181 0, Value.ref 58, Value.none, Value.ref 59, Value.ref 60, Value.ref 61, Value.int 255 0, Value.int 46 0, Value.str (Str.ofString "/claim/cut.py") 256] }) ::
(nat_lit 63, { cls := Value.type "function", data := Data.func { name := Str.ofString "cmp_to_key", qualname := Str.ofString "cmp_to_key", params := a63, body := .stmts b63, scope := s63, globals := 3, closure := [], defaults := Value.none, kwdefaults := Value.none, pyModule := Value.str (Str.ofString "cpy313.functools") 247, code := Value.ref 62 } }) ::
(nat_lit 64, { cls := Value.type "object" }) ::
(nat_lit 65, { cls := Value.type "tuple", data := Data.seq #[Value.ref 64] }) ::
(nat_lit 66, { cls := Value.type "tuple", data := Data.seq #[] }) ::
(nat_lit 68, { cls := Value.type "tuple", data := Data.seq #[Value.str (Str.ofString "function") 262, Value.str (Str.ofString "sequence") 263, Value.str (Str.ofString "initial") 264, Value.str (Str.ofString "it") 265, Value.str (Str.ofString "value") 266, Value.str (Str.ofString "element") 267] }) ::
(nat_lit 69, { cls := Value.type "tuple", data := Data.seq #[] }) ::
(nat_lit 71, { cls := Value.type "code", data := Data.fields #[Value.str (Str.ofString "reduce") 259, Value.str (Str.ofString "reduce") 260, Value.str (Str.ofString "/claim/cut.py") 261, Value.int 72 0, Value.int 3 0, Value.int 0 0, Value.int 0 0, Value.int 3 0, Value.ref 66, Value.bool true, Value.int 181 0, Value.ref 67, Value.none, Value.ref 68, Value.ref 69, Value.ref 70, Value.int 268 0, Value.int 72 0, Value.str (Str.ofString "/claim/cut.py") 269] }) ::
(nat_lit 72, { cls := Value.type "function", data := Data.func { name := Str.ofString "reduce", qualname := Str.ofString "reduce", params := a72, body := .stmts b72, scope := s72, globals := 3, closure := [], defaults := Value.ref 65, kwdefaults := Value.none, pyModule := Value.str (Str.ofString "cpy313.functools") 247, code := Value.ref 71 } }) ::
(nat_lit 73, { cls := Value.type "tuple", data := Data.seq #[] }) ::
(nat_lit 75, { cls := Value.type "tuple", data := Data.seq #[Value.str (Str.ofString "expected") 276, Value.str (Str.ofString "actual") 277, Value.str (Str.ofString "i") 278, Value.str (Str.ofString "j") 279, Value.str (Str.ofString "missing") 280, Value.str (Str.ofString "unexpected") 281, Value.str (Str.ofString "e") 282, Value.str (Str.ofString "a") 283] }) ::
(nat_lit 76, { cls := Value.type "tuple", data := Data.seq #[] }) ::
(nat_lit 78, { cls := Value.type "code", data := Data.fields #[Value.str (Str.ofString "sorted_list_difference") 273, Value.str (Str.ofString "sorted_list_difference") 274, Value.str (Str.ofString "/claim/cut.py") 275, Value.int 85 0, Value.int 2 0, Value.int 0 0, Value.int 0 0, Value.int 3 0, Value.ref 73, Value.bool true, Value.int 181 0, Value.ref 74, Value.none, Value.ref 75, Value.ref 76, Value.ref 77, Value.int 284 0, Value.int 85 0, Value.str (Str.ofString "/claim/cut.py") 285] }) ::
(nat_lit 79, { cls := Value.type "function", data := Data.func { name := Str.ofString "sorted_list_difference", qualname := Str.ofString "sorted_list_difference", params := a79, body := .stmts b79, scope := s79, globals := 3, closure := [], defaults := Value.none, kwdefaults := Value.none, pyModule := Value.str (Str.ofString "cpy313.unittest.util") 271, code := Value.ref 78 } }) ::
(nat_lit 80, { cls := Value.type "tuple", data := Data.seq #[] }) ::
(nat_lit 82, { cls := Value.type "tuple", data := Data.seq #[Value.str (Str.ofString "expected") 290, Value.str (Str.ofString "actual") 291, Value.str (Str.ofString "missing") 292, Value.str (Str.ofString "item") 293] }) ::
(nat_lit 83, { cls := Value.type "tuple", data := Data.seq #[] }) ::
(nat_lit 85, { cls := Value.type "code", data := Data.fields #[Value.str (Str.ofString "unorderable_list_difference") 287, Value.str (Str.ofString "unorderable_list_difference") 288, Value.str (Str.ofString "/claim/cut.py") 289, Value.int 117 0, Value.int 2 0, Value.int 0 0, Value.int 0 0, Value.int 3 0, Value.ref 80, Value.bool true, Value.int 181 0, Value.ref 81, Value.none, Value.ref 82, Value.ref 83, Value.ref 84, Value.int 294 0, Value.int 117 0, Value.str (Str.ofString "/claim/cut.py") 295] }) ::
(nat_lit 86, { cls := Value.type "function", data := Data.func { name := Str.ofString "unorderable_list_difference", qualname := Str.ofString "unorderable_list_difference", params := a86, body := .stmts b86, scope := s86, globals := 3, closure := [], defaults := Value.none, kwdefaults := Value.none, pyModule := Value.str (Str.ofString "cpy313.unittest.util") 271, code := Value.ref 85 } }) ::
(nat_lit 87, { cls := Value.type "tuple", data := Data.seq #[] }) ::
(nat_lit 89, { cls := Value.type "tuple", data := Data.seq #[Value.str (Str.ofString "script") 302, Value.str (Str.ofString "pieces") 303, Value.str (Str.ofString "tables") 304, Value.str (Str.ofString "x") 305, Value.str (Str.ofString "login") 306, Value.str (Str.ofString "word") 307, Value.str (Str.ofString "side") 308] }) ::
(nat_lit 90, { cls := Value.type "tuple", data := Data.seq #[] }) ::
(nat_lit 92, { cls := Value.type "code", data := Data.fields #[Value.str (Str.ofString "_law_tables") 299, Value.str (Str.ofString "_law_tables") 300, Value.str (Str.ofString "/claim/cut.py") 301, Value.int 127 0, Value.int 1 0, Value.int 0 0, Value.int 0 0, Value.int 3 0, Value.ref 87, Value.bool true, Value.int 181 0, Value.ref 88, Value.none, Value.ref 89, Value.ref 90, Value.ref 91, Value.int 309 0, Value.int 127 0, Value.str (Str.ofString "/claim/cut.py") 310] }) ::
(nat_lit 93, { cls := Value.type "function", data := Data.func { name := Str.ofString "_law_tables", qualname := Str.ofString "_law_tables", params := a93, body := .stmts b93, scope := s93, globals := 3, closure := [], defaults := Value.none, kwdefaults := Value.none, pyModule := Value.str (Str.ofString "law_in0135_01") 297, code := Value.ref 92 } }) ::
(nat_lit 94, { cls := Value.type "tuple", data := Data.seq #[] }) ::
(nat_lit 96, { cls := Value.type "tuple", data := Data.seq #[Value.str (Str.ofString "table") 315, Value.str (Str.ofString "words") 316, Value.str (Str.ofString "name") 317, Value.str (Str.ofString "login") 318, Value.str (Str.ofString "word") 319] }) ::
(nat_lit 97, { cls := Value.type "tuple", data := Data.seq #[] }) ::
(nat_lit 99, { cls := Value.type "code", data := Data.fields #[Value.str (Str.ofString "_law_words") 312, Value.str (Str.ofString "_law_words") 313, Value.str (Str.ofString "/claim/cut.py") 314, Value.int 136 0, Value.int 1 0, Value.int 0 0, Value.int 0 0, Value.int 3 0, Value.ref 94, Value.bool true, Value.int 181 0, Value.ref 95, Value.none, Value.ref 96, Value.ref 97, Value.ref 98, Value.int 320 0, Value.int 136 0, Value.str (Str.ofString "/claim/cut.py") 321] }) ::
(nat_lit 100, { cls := Value.type "function", data := Data.func { name := Str.ofString "_law_words", qualname := Str.ofString "_law_words", params := a100, body := .stmts b100, scope := s100, globals := 3, closure := [], defaults := Value.none, kwdefaults := Value.none, pyModule := Value.str (Str.ofString "law_in0135_01") 297, code := Value.ref 99 } }) ::
(nat_lit 101, { cls := Value.type "tuple", data := Data.seq #[] }) ::
(nat_lit 104, { cls := Value.type "code", data := Data.fields #[Value.str (Str.ofString "_law_text") 323, Value.str (Str.ofString "_law_text") 324, Value.str (Str.ofString "/claim/cut.py") 325, Value.int 141 0, Value.int 1 0, Value.int 0 0, Value.int 0 0, Value.int 3 0, Value.ref 101, Value.bool true, Value.int 181 0, Value.ref 102, Value.none, Value.none, Value.none, Value.ref 103, Value.int 326 0, Value.int 141 0, Value.str (Str.ofString "/claim/cut.py") 327] }) ::
(nat_lit 105, { cls := Value.type "function", data := Data.func { name := Str.ofString "_law_text", qualname := Str.ofString "_law_text", params := a105, body := .stmts b105, scope := s105, globals := 3, closure := [], defaults := Value.none, kwdefaults := Value.none, pyModule := Value.str (Str.ofString "law_in0135_01") 297, code := Value.ref 104 } }) ::
(nat_lit 106, { cls := Value.type "tuple", data := Data.seq #[] }) ::
(nat_lit 109, { cls := Value.type "code", data := Data.fields #[Value.str (Str.ofString "_law_tokens") 329, Value.str (Str.ofString "_law_tokens") 330, Value.str (Str.ofString "/claim/cut.py") 331, Value.int 150 0, Value.int 1 0, Value.int 0 0, Value.int 0 0, Value.int 3 0, Value.ref 106, Value.bool true, Value.int 181 0, Value.ref 107, Value.none, Value.none, Value.none, Value.ref 108, Value.int 332 0, Value.int 150 0, Value.str (Str.ofString "/claim/cut.py") 333] }) ::
(nat_lit 110, { cls := Value.type "function", data := Data.func { name := Str.ofString "_law_tokens", qualname := Str.ofString "_law_tokens", params := a110, body := .stmts b110, scope := s110, globals := 3, closure := [], defaults := Value.none, kwdefaults := Value.none, pyModule := Value.str (Str.ofString "law_in0135_01") 297, code := Value.ref 109 } }) ::
(nat_lit 111, { cls := Value.type "tuple", data := Data.seq #[] }) ::
(nat_lit 113, { cls := Value.type "tuple", data := Data.seq #[Value.str (Str.ofString "state") 338, Value.str (Str.ofString "token") 339, Value.str (Str.ofString "rows") 340, Value.str (Str.ofString "wanted") 341, Value.str (Str.ofString "name") 342, Value.str (Str.ofString "login") 343, Value.str (Str.ofString "word") 344] }) ::
(nat_lit 114, { cls := Value.type "tuple", data := Data.seq #[] }) ::
(nat_lit 116, { cls := Value.type "code", data := Data.fields #[Value.str (Str.ofString "_law_stepped") 335, Value.str (Str.ofString "_law_stepped") 336, Value.str (Str.ofString "/claim/cut.py") 337, Value.int 165 0, Value.int 2 0, Value.int 0 0, Value.int 0 0, Value.int 3 0, Value.ref 111, Value.bool true, Value.int 181 0, Value.ref 112, Value.none, Value.ref 113, Value.ref 114, Value.ref 115, Value.int 345 0, Value.int 165 0, Value.str (Str.ofString "/claim/cut.py") 346] }) ::
(nat_lit 117, { cls := Value.type "function", data := Data.func { name := Str.ofString "_law_stepped", qualname := Str.ofString "_law_stepped", params := a117, body := .stmts b117, scope := s117, globals := 3, closure := [], defaults := Value.none, kwdefaults := Value.none, pyModule := Value.str (Str.ofString "law_in0135_01") 297, code := Value.ref 116 } }) ::
(nat_lit 118, { cls := Value.type "tuple", data := Data.seq #[] }) ::
(nat_lit 120, { cls := Value.type "tuple", data := Data.seq #[Value.str (Str.ofString "one") 351, Value.str (Str.ofString "two") 352, Value.str (Str.ofString "first") 353, Value.str (Str.ofString "second") 354] }) ::
(nat_lit 121, { cls := Value.type "tuple", data := Data.seq #[] }) ::
(nat_lit 123, { cls := Value.type "code", data := Data.fields #[Value.str (Str.ofString "_law_compared") 348, Value.str (Str.ofString "_law_compared") 349, Value.str (Str.ofString "/claim/cut.py") 350, Value.int 173 0, Value.int 2 0, Value.int 0 0, Value.int 0 0, Value.int 3 0, Value.ref 118, Value.bool true, Value.int 181 0, Value.ref 119, Value.none, Value.ref 120, Value.ref 121, Value.ref 122, Value.int 355 0, Value.int 173 0, Value.str (Str.ofString "/claim/cut.py") 356] }) ::
(nat_lit 124, { cls := Value.type "function", data := Data.func { name := Str.ofString "_law_compared", qualname := Str.ofString "_law_compared", params := a124, body := .stmts b124, scope := s124, globals := 3, closure := [], defaults := Value.none, kwdefaults := Value.none, pyModule := Value.str (Str.ofString "law_in0135_01") 297, code := Value.ref 123 } }) ::
(nat_lit 125, { cls := Value.type "tuple", data := Data.seq #[] }) ::
(nat_lit 127, { cls := Value.type "tuple", data := Data.seq #[Value.str (Str.ofString "one") 361, Value.str (Str.ofString "other") 362, Value.str (Str.ofString "row") 363, Value.str (Str.ofString "k") 364] }) ::
(nat_lit 128, { cls := Value.type "tuple", data := Data.seq #[] }) ::
(nat_lit 130, { cls := Value.type "code", data := Data.fields #[Value.str (Str.ofString "_law_lacking") 358, Value.str (Str.ofString "_law_lacking") 359, Value.str (Str.ofString "/claim/cut.py") 360, Value.int 176 0, Value.int 2 0, Value.int 0 0, Value.int 0 0, Value.int 3 0, Value.ref 125, Value.bool true, Value.int 181 0, Value.ref 126, Value.none, Value.ref 127, Value.ref 128, Value.ref 129, Value.int 365 0, Value.int 176 0, Value.str (Str.ofString "/claim/cut.py") 366] }) ::
(nat_lit 131, { cls := Value.type "function", data := Data.func { name := Str.ofString "_law_lacking", qualname := Str.ofString "_law_lacking", params := a131, body := .stmts b131, scope := s131, globals := 3, closure := [], defaults := Value.none, kwdefaults := Value.none, pyModule := Value.str (Str.ofString "law_in0135_01") 297, code := Value.ref 130 } }) ::
(nat_lit 132, { cls := Value.type "tuple", data := Data.seq #[] }) ::
(nat_lit 135, { cls := Value.type "code", data := Data.fields #[Value.str (Str.ofString "_law_told") 368, Value.str (Str.ofString "_law_told") 369, Value.str (Str.ofString "/claim/cut.py") 370, Value.int 182 0, Value.int 2 0, Value.int 0 0, Value.int 0 0, Value.int 3 0, Value.ref 132, Value.bool true, Value.int 181 0, Value.ref 133, Value.none, Value.none, Value.none, Value.ref 134, Value.int 371 0, Value.int 182 0, Value.str (Str.ofString "/claim/cut.py") 372] }) ::
(nat_lit 136, { cls := Value.type "function", data := Data.func { name := Str.ofString "_law_told", qualname := Str.ofString "_law_told", params := a136, body := .stmts b136, scope := s136, globals := 3, closure := [], defaults := Value.none, kwdefaults := Value.none, pyModule := Value.str (Str.ofString "law_in0135_01") 297, code := Value.ref 135 } }) ::
(nat_lit 137, { cls := Value.type "tuple", data := Data.seq #[] }) ::
(nat_lit 140, { cls := Value.type "code", data := Data.fields #[Value.str (Str.ofString "law") 374, Value.str (Str.ofString "law") 375, Value.str (Str.ofString "/claim/cut.py") 376, Value.int 186 0, Value.int 1 0, Value.int 0 0, Value.int 0 0, Value.int 3 0, Value.ref 137, Value.bool true, Value.int 181 0, Value.ref 138, Value.none, Value.none, Value.none, Value.ref 139, Value.int 377 0, Value.int 186 0, Value.str (Str.ofString "/claim/cut.py") 378] }) ::
(nat_lit 141, { cls := Value.type "function", data := Data.func { name := Str.ofString "law", qualname := Str.ofString "law", params := a141, body := .stmts b141, scope := s141, globals := 3, closure := [], defaults := Value.none, kwdefaults := Value.none, pyModule := Value.str (Str.ofString "law_in0135_01") 297, code := Value.ref 140 } }) :: []) rfl rfl rfl rfl rfl rfl rfl rfl rfl rfl rfl rfl rfl rfl rfl rfl rfl
noncomputable abbrev rowL : OpenRow := PySem.Challenge.rw_in0135_01.row
noncomputable abbrev looseL : List Str := [Str.ofString "_initial_missing", Str.ofString "reduce"]
noncomputable abbrev adrsL : List Addr := [nat_lit 2, nat_lit 3, nat_lit 6, nat_lit 22, nat_lit 24, nat_lit 25, nat_lit 27, nat_lit 28, nat_lit 29, nat_lit 31, nat_lit 32, nat_lit 34, nat_lit 35, nat_lit 36, nat_lit 38, nat_lit 39, nat_lit 41, nat_lit 42, nat_lit 43, nat_lit 45, nat_lit 46, nat_lit 48, nat_lit 49, nat_lit 50, nat_lit 51, nat_lit 52, nat_lit 53, nat_lit 54, nat_lit 57, nat_lit 59, nat_lit 60, nat_lit 62, nat_lit 63, nat_lit 64, nat_lit 65, nat_lit 66, nat_lit 68, nat_lit 69, nat_lit 71, nat_lit 72, nat_lit 73, nat_lit 75, nat_lit 76, nat_lit 78, nat_lit 79, nat_lit 80, nat_lit 82, nat_lit 83, nat_lit 85, nat_lit 86] ++ [nat_lit 87, nat_lit 89, nat_lit 90, nat_lit 92, nat_lit 93, nat_lit 94, nat_lit 96, nat_lit 97, nat_lit 99, nat_lit 100, nat_lit 101, nat_lit 104, nat_lit 105, nat_lit 106, nat_lit 109, nat_lit 110, nat_lit 111, nat_lit 113, nat_lit 114, nat_lit 116, nat_lit 117, nat_lit 118, nat_lit 120, nat_lit 121, nat_lit 123, nat_lit 124, nat_lit 125, nat_lit 127, nat_lit 128, nat_lit 130, nat_lit 131, nat_lit 132, nat_lit 135, nat_lit 136, nat_lit 137, nat_lit 140, nat_lit 141]
theorem heap_adrs : ∀ P, adrsL = (hd.heap_39 P).map (·.1) := fun _ => by kernel_rfl
noncomputable abbrev hookL : Hook := kmHook hd.heap_39 adrsL heap_adrs [107, 58]
theorem law_said : PySem.Challenge.rw_in0135_01.wellSaid = true := by kernel_rfl
theorem law_left : LeftO rowL.toRowW.prog hd.view_39 looseL (fun s => xlAt hd.view_39 [] s && recOk (RowW.records rowL.toRowW) s) hookL.obs hookL.val 1710 := by intro w; kernel_rfl
end Mine
end
section
open PySem PySem.W PyProof.Rows PySem.Calls
namespace Mine

noncomputable abbrev prg : Program := PySem.Challenge.rw_in0135_01.row.prog
noncomputable def stmtsAt (i : Nat) : List Stmt := match prg.main.body[i]? with
  | some (.FunctionDef _ _ body _ _ _ _ _ _ _) => body
  | _ => []
noncomputable def scopeAt (i : Nat) : Scope := match prg.main.body[i]? with
  | some (.FunctionDef _ _ _ _ _ _ scope _ _ _) => scope
  | _ => default
noncomputable def paramsAt (i : Nat) : Arguments := match prg.main.body[i]? with
  | some (.FunctionDef _ a _ _ _ _ _ _ _ _) => a
  | _ => default
noncomputable def forBody : Option Stmt → List Stmt
  | some (.For _ _ body _ _) => body
  | _ => []
noncomputable abbrev loose : List Str := looseW hd.view_39 [Str.ofString "_initial_missing", Str.ofString "reduce"]
noncomputable abbrev KK (w : World) : Frag := hd.heap_39 w.params

theorem inL1 {α : Type} {x a1 : α} (h : x ∈ [a1]) : x = a1 := List.mem_singleton.mp h
theorem inL2 {α : Type} {x a1 a2 : α} (h : x ∈ [a1, a2]) : x = a1 ∨ x = a2 := (List.mem_cons.mp h).imp id inL1
theorem inL3 {α : Type} {x a1 a2 a3 : α} (h : x ∈ [a1, a2, a3]) : x = a1 ∨ x = a2 ∨ x = a3 := (List.mem_cons.mp h).imp id inL2
theorem inL4 {α : Type} {x a1 a2 a3 a4 : α} (h : x ∈ [a1, a2, a3, a4]) : x = a1 ∨ x = a2 ∨ x = a3 ∨ x = a4 := (List.mem_cons.mp h).imp id inL3
theorem inL5 {α : Type} {x a1 a2 a3 a4 a5 : α} (h : x ∈ [a1, a2, a3, a4, a5]) : x = a1 ∨ x = a2 ∨ x = a3 ∨ x = a4 ∨ x = a5 := (List.mem_cons.mp h).imp id inL4
theorem inL6 {α : Type} {x a1 a2 a3 a4 a5 a6 : α} (h : x ∈ [a1, a2, a3, a4, a5, a6]) : x = a1 ∨ x = a2 ∨ x = a3 ∨ x = a4 ∨ x = a5 ∨ x = a6 := (List.mem_cons.mp h).imp id inL5
theorem inL7 {α : Type} {x a1 a2 a3 a4 a5 a6 a7 : α} (h : x ∈ [a1, a2, a3, a4, a5, a6, a7]) : x = a1 ∨ x = a2 ∨ x = a3 ∨ x = a4 ∨ x = a5 ∨ x = a6 ∨ x = a7 := (List.mem_cons.mp h).imp id inL6
theorem inL8 {α : Type} {x a1 a2 a3 a4 a5 a6 a7 a8 : α} (h : x ∈ [a1, a2, a3, a4, a5, a6, a7, a8]) : x = a1 ∨ x = a2 ∨ x = a3 ∨ x = a4 ∨ x = a5 ∨ x = a6 ∨ x = a7 ∨ x = a8 := (List.mem_cons.mp h).imp id inL7
theorem inL9 {α : Type} {x a1 a2 a3 a4 a5 a6 a7 a8 a9 : α} (h : x ∈ [a1, a2, a3, a4, a5, a6, a7, a8, a9]) : x = a1 ∨ x = a2 ∨ x = a3 ∨ x = a4 ∨ x = a5 ∨ x = a6 ∨ x = a7 ∨ x = a8 ∨ x = a9 := (List.mem_cons.mp h).imp id inL8
theorem inL10 {α : Type} {x a1 a2 a3 a4 a5 a6 a7 a8 a9 a10 : α} (h : x ∈ [a1, a2, a3, a4, a5, a6, a7, a8, a9, a10]) : x = a1 ∨ x = a2 ∨ x = a3 ∨ x = a4 ∨ x = a5 ∨ x = a6 ∨ x = a7 ∨ x = a8 ∨ x = a9 ∨ x = a10 := (List.mem_cons.mp h).imp id inL9
theorem inL11 {α : Type} {x a1 a2 a3 a4 a5 a6 a7 a8 a9 a10 a11 : α} (h : x ∈ [a1, a2, a3, a4, a5, a6, a7, a8, a9, a10, a11]) : x = a1 ∨ x = a2 ∨ x = a3 ∨ x = a4 ∨ x = a5 ∨ x = a6 ∨ x = a7 ∨ x = a8 ∨ x = a9 ∨ x = a10 ∨ x = a11 := (List.mem_cons.mp h).imp id inL10
theorem inL12 {α : Type} {x a1 a2 a3 a4 a5 a6 a7 a8 a9 a10 a11 a12 : α} (h : x ∈ [a1, a2, a3, a4, a5, a6, a7, a8, a9, a10, a11, a12]) : x = a1 ∨ x = a2 ∨ x = a3 ∨ x = a4 ∨ x = a5 ∨ x = a6 ∨ x = a7 ∨ x = a8 ∨ x = a9 ∨ x = a10 ∨ x = a11 ∨ x = a12 := (List.mem_cons.mp h).imp id inL11
theorem inL13 {α : Type} {x a1 a2 a3 a4 a5 a6 a7 a8 a9 a10 a11 a12 a13 : α} (h : x ∈ [a1, a2, a3, a4, a5, a6, a7, a8, a9, a10, a11, a12, a13]) : x = a1 ∨ x = a2 ∨ x = a3 ∨ x = a4 ∨ x = a5 ∨ x = a6 ∨ x = a7 ∨ x = a8 ∨ x = a9 ∨ x = a10 ∨ x = a11 ∨ x = a12 ∨ x = a13 := (List.mem_cons.mp h).imp id inL12
noncomputable abbrev NoE : Value → Shared → Prop := fun _ _ => False
noncomputable abbrev Keep (h h' : Heap) : Prop := ∀ b o, h.get? b = some o → h'.get? b = some o

theorem wp_noE {α : Type} {M : Model} {A : Around} {t : Sem α} {Q : α → Shared → Prop} {E : Value → Shared → Prop} {s : Shared} (h : wpAny M A t Q NoE s) : wpAny M A t Q E s :=
  wpAny_mono h (fun _ _ x => x) fun _ _ x => x.elim

theorem News.sub {h₀ h : Heap} {L : Addr} {l l' : List (Addr × Obj)} (N : News h₀ L h l) (hs : ∀ p ∈ l', p ∈ l) : News h₀ L h l' := fun p hp => N p (hs p hp)
theorem News.app {h₀ h : Heap} {L : Addr} {l l' : List (Addr × Obj)} (N : News h₀ L h l) (N' : News h₀ L h l') : News h₀ L h (l ++ l') := fun p hp =>
  (List.mem_append.mp hp).elim (N p) (N' p)
theorem News.kept {h₀ h h' : Heap} {L : Addr} {l : List (Addr × Obj)} (N : News h₀ L h l) (k : Keep h h') : News h₀ L h' l := fun p hp => ⟨k _ _ (N p hp).1, (N p hp).2⟩
theorem News.fresh' {h₀ h h' : Heap} {L : Addr} {m : Str → Option Value} {l : List (Addr × Obj)} (F : Fr h₀ L h m) (hl : ∀ p ∈ l, h'.get? p.1 = some p.2 ∧ h.get? p.1 = none) : News h₀ L h' l := fun p hp => by
  refine Classical.byContradiction fun hn1 => ?_
  obtain ⟨o, _, _, hL, _⟩ := F.ns
  refine hn1 ?_
  refine ⟨(hl p hp).1, fun e => ?_, ?_⟩
  · have := (hl p hp).2; rw [e, hL] at this; cases this
  · cases q : h₀.get? p.1 with
    | none => rfl
    | some o => have := F.keep _ _ q; rw [(hl p hp).2] at this; cases this
theorem News.lt {h₀ h : Heap} {L : Addr} {l : List (Addr × Obj)} (N : News h₀ L h l) : ∀ p ∈ l, p.1 < h.objs.size := fun p hp => Heap.lt_size (N p hp).1

section
variable {prog : Program} {w : World} {A : Around} {E : Value → Shared → Prop} {s : Shared} {env : Env} {h₀ : Heap} {target : Expr} {body : List Stmt} {Q : Flow → Shared → Prop}

inductive TurnOk (h₀ : Heap) (L : Addr) (J : (Str → Option Value) → List (Addr × Obj) → Prop) (own : List (Addr × Obj)) (s₁ s₂ : Shared) : Prop
  | mk (h' : Heap) (tk : Nat) (m' : Str → Option Value) (nx : List (Addr × Obj)) (e : s₂ = { s₁ with heap := h', toks := tk }) (F : Fr h₀ L h' m') (N : News h₀ L h' (nx ++ own)) (j : J m' nx) : TurnOk h₀ L J own s₁ s₂
noncomputable def TurnEnd (h₀ : Heap) (L : Addr) (J : (Str → Option Value) → List (Addr × Obj) → Prop) (own : List (Addr × Obj)) (s₁ : Shared) (Q : Flow → Shared → Prop) (f : Flow) (s₂ : Shared) : Prop :=
  match f with
  | .ret v => Q (.ret v) s₂
  | .brk => Q .next s₂
  | _ => TurnOk h₀ L J own s₁ s₂

noncomputable def NoSeq (own : List (Addr × Obj)) : Prop := ∀ p ∈ own, ∀ vs n, p.2.data ≠ .seq vs n
inductive LoopJ (h₀ : Heap) (L : Addr) (wr : List Addr) (n : Nat) (St : Nat → Heap → Prop) (J : Nat → (Str → Option Value) → List (Addr × Obj) → Prop) (s : Shared) (k : Nat) (s' : Shared) : Prop
  | mk (h' : Heap) (tk : Nat) (m' : Str → Option Value) (nx : List (Addr × Obj)) (i : Nat) (e : s' = { s with heap := h', toks := tk }) (hst : St i h') (F : Fr h₀ L h' m') (N : News h₀ L h' nx) (hw : ∀ p ∈ nx, p.1 ∉ wr) (hj : J i m' nx) (hi : i ≤ n) (hk : k = n + 1 - i) : LoopJ h₀ L wr n St J s k s'
theorem loopW {I : Addr} {fp wr : List Addr} {n : Nat} {P : Nat → Value → Prop} {St : Nat → Heap → Prop} {m₀ : Str → Option Value} {news : List (Addr × Obj)}
    (W : Walks prog w A I fp wr n P St) (J : Nat → (Str → Option Value) → List (Addr × Obj) → Prop)
    (hLf : env.locals ∉ fp) (hwr : ∀ b ∈ wr, h₀.get? b = none)
    (hfp : ∀ b ∈ fp, b ∉ wr → (∃ o, h₀.get? b = some o) ∨ ∃ o, ∀ i m nx, J i m nx → (b, o) ∈ nx)
    (hgo : ∀ i (s' : Shared) v (Q' : Unit → Shared → Prop), P i v → St (i + 1) s'.heap → Q' () s' → wpAny (model prog w) A (letOwnedTupleGo target (.ref I) v) Q' NoE s')
    (hst : St 0 s.heap) (F : Fr h₀ env.locals s.heap m₀) (N : News h₀ env.locals s.heap news) (hnw : ∀ p ∈ news, p.1 ∉ wr) (hj : J 0 m₀ news)
    (hob : ∀ i h, St i h → ∀ b ∈ wr, ∃ o, h.get? b = some o ∧ ∀ vs n, o.data ≠ .seq vs n)
    (turn : ∀ i v m₁ nx h tk own, i < n → P i v → J i m₁ nx → OwnOff own (nx.map (·.1)) → NoSeq own → Fr h₀ env.locals h m₁ → News h₀ env.locals h (nx ++ own) →
      wpAny (model prog w) A (assign target env v) (fun _ s₂ => wpAny (model prog w) A (execs body env) (TurnEnd h₀ env.locals (fun m' nx' => J (i + 1) m' nx' ∧ OwnOff own (nx'.map (·.1))) own { s with heap := h, toks := tk } Q) NoE s₂) NoE { s with heap := h, toks := tk })
    (done : ∀ m₁ nx h tk, J n m₁ nx → Fr h₀ env.locals h m₁ → News h₀ env.locals h nx → Q .next { s with heap := h, toks := tk }) :
    codeAny (model prog w) A (.forLoop target (.ref I) body [] env) (fun r s' => match r with | .ok f => Q f s' | .error e => cameBackBy (model prog w) A env E e s') s := by
  have hLw : env.locals ∉ wr := fun h => hLf (W.sub _ h)
  have old : ∀ b o, h₀.get? b = some o → b ∉ wr := fun b o e hb => by rw [hwr b hb] at e; cases e
  refine codeAny_forLoop_any
    (LoopJ h₀ env.locals wr n St J s) ?_ (n + 1)
    ⟨s.heap, s.toks, m₀, news, 0, rfl, hst, F, N, hnw, hj, Nat.zero_le _, rfl⟩
  rintro k s' ⟨h', tk, m', nx, i, rfl, hst', F', N', hnw', hJ, hi, rfl⟩
  have next : ∀ h₁ : Heap, (∀ b o, b ∉ wr → h'.get? b = some o → h₁.get? b = some o) → Fr h₀ env.locals h₁ m' ∧ News h₀ env.locals h₁ nx := fun h₁ hk₁ =>
    ⟨⟨F'.ns.at' fun o e => hk₁ _ o hLw e, fun b o e => hk₁ b o (old b o e) (F'.keep b o e), F'.above⟩, fun p hp => ⟨hk₁ _ _ (hnw' p hp) (N' p hp).1, (N' p hp).2⟩⟩
  by_cases hlt : i < n
  · refine W.item i _ _ _ hlt hst' fun v h₁ tk₁ hP hst₁ hk₁ => ?_
    obtain ⟨F₁, N₁⟩ := next h₁ hk₁
    let own := (ownOf h₀ fp h₁).filter fun p => decide (p.1 ∈ wr)
    have Nown : News h₀ env.locals h₁ own := fun p hp => (news_ownOf hLf) p (List.mem_filter.mp hp).1
    have hoff : OwnOff own (nx.map (·.1)) := by
      intro p hp b hb e
      obtain ⟨q, hq, rfl⟩ := List.mem_map.mp hb
      have h1 : p.1 ∈ wr := by simpa using (List.mem_filter.mp hp).2
      exact hnw' q hq (e ▸ h1)
    have hns : NoSeq own := by
      intro p hp
      have h1 : p.1 ∈ wr := by simpa using (List.mem_filter.mp hp).2
      obtain ⟨o, ho, hq⟩ := hob _ _ hst₁ _ h1
      have := (Nown p hp).1
      rw [ho] at this
      cases this
      exact hq
    refine wp_noE (hgo i _ v _ hP hst₁ ?_)
    refine wp_noE (wpAny_mono (turn i v m' nx h₁ tk₁ own hlt hP hJ hoff hns F₁ (News.app N₁ Nown)) (fun _ s₂ h₂ => wp_noE (wpAny_mono h₂ (fun f s₃ h₃ => ?_) fun _ _ e => e)) fun _ _ e => e)
    have step : TurnOk h₀ env.locals (fun m' nx' => J (i + 1) m' nx' ∧ OwnOff own (nx'.map (·.1))) own { s with heap := h₁, toks := tk₁ } s₃ →
        ∃ k', k' < n + 1 - i ∧ LoopJ h₀ env.locals wr n St J s k' s₃ := by
      rintro ⟨h₃', tk₃, m₂, nx', rfl, F₃, N₃, hJ₃, ho₃⟩
      refine ⟨n + 1 - (i + 1), by lia, h₃', tk₃, m₂, nx', i + 1, rfl, ?_, F₃, fun p hp => N₃ p (List.mem_append_left _ hp), ?_, hJ₃, hlt, rfl⟩
      · refine W.frame _ _ _ hst₁ fun b hb o e => ?_
        by_cases hbw : b ∈ wr
        · have hm : (b, o) ∈ own := List.mem_filter.mpr ⟨mem_ownOf hb (hwr b hbw) e, by simpa using hbw⟩
          exact (N₃ _ (List.mem_append_right _ hm)).1
        · rcases hfp b hb hbw with ⟨o₀, h₀e⟩ | ⟨o₀, hq⟩
          · have : o₀ = o := by have := F₁.keep b o₀ h₀e; rw [e] at this; exact (Option.some.inj this).symm
            exact this ▸ F₃.keep b o₀ h₀e
          · have : o₀ = o := by have := (N₁ _ (hq _ _ _ hJ)).1; rw [e] at this; exact (Option.some.inj this).symm
            exact this ▸ (N₃ _ (List.mem_append_left _ (hq _ _ _ hJ₃))).1
      · intro p hp hw
        obtain ⟨o, ho, _⟩ := hob _ _ hst₁ _ hw
        exact ho₃ (p.1, o) (List.mem_filter.mpr ⟨mem_ownOf (W.sub _ hw) (hwr _ hw) ho, by simpa using hw⟩) p.1 (List.mem_map_of_mem hp) rfl
    cases f with
    | ret v => exact h₃
    | brk => exact h₃
    | cont => exact step h₃
    | next => exact step h₃
  · have hin : i = n := by lia
    subst hin
    refine W.done _ _ _ hst' fun h₁ tk₁ hk₁ => wpAny_execs_nil ?_
    obtain ⟨F₁, N₁⟩ := next h₁ hk₁
    exact done m' nx h₁ tk₁ hJ F₁ N₁

theorem iter_list' {l : Addr} {items : Array Value} {m₀ : Str → Option Value} {news : List (Addr × Obj)} (J : Nat → (Str → Option Value) → List (Addr × Obj) → Prop)
    (hh : A.handled = none) (hl : s.heap.IsList l items) (hlL : l ≠ env.locals)
    (hwh : (∃ o, h₀.get? l = some o) ∨ ∃ o, ∀ i m nx, J i m nx → (l, o) ∈ nx)
    (hgo : ∀ I i (s' : Shared) v (Q' : Unit → Shared → Prop), items[i]? = some v → s'.heap.IsListIter I l (i + 1) → Q' () s' → wpAny (model prog w) A (letOwnedTupleGo target (.ref I) v) Q' NoE s')
    (F : Fr h₀ env.locals s.heap m₀) (N : News h₀ env.locals s.heap news) (hj : J 0 m₀ news)
    (turn : ∀ i v m₁ nx h tk own, items[i]? = some v → J i m₁ nx → OwnOff own (nx.map (·.1)) → NoSeq own → Fr h₀ env.locals h m₁ → News h₀ env.locals h (nx ++ own) →
      wpAny (model prog w) A (assign target env v) (fun _ s₂ => wpAny (model prog w) A (execs body env) (TurnEnd h₀ env.locals (fun m' nx' => J (i + 1) m' nx' ∧ OwnOff own (nx'.map (·.1))) own { s with heap := h, toks := tk } Q) NoE s₂) NoE { s with heap := h, toks := tk })
    (done : ∀ m₁ nx h tk, J items.size m₁ nx → Fr h₀ env.locals h m₁ → News h₀ env.locals h nx → Q .next { s with heap := h, toks := tk }) :
    wpAny (model prog w) A (pyIter (.ref l)) (fun it s₂ => codeAny (model prog w) A (.forLoop target it body [] env) (fun r s' => match r with | .ok f => Q f s' | .error e => cameBackBy (model prog w) A env E e s') s₂) E s := by
  refine Classical.byContradiction fun hn1 => ?_
  obtain ⟨ol, hol, _⟩ := id hl
  refine hn1 ?_
  have hne : l ≠ s.heap.objs.size := Nat.ne_of_lt (Heap.lt_size hol)
  refine wpAny_pyIter_list hl ?_
  refine loopW (Walks.list hh s.heap.objs.size l hne items) J ?_ ?_ ?_ (fun i s' v Q' hP hst hq => hgo _ i s' v Q' hP hst.1 hq)
    ⟨⟨_, Heap.get?_push_size _ rfl, rfl, rfl⟩, hl.at fun o e => Heap.get?_push_of_some _ e⟩ (F.push _) (fun p hp => ⟨Heap.get?_push_of_some _ (N p hp).1, (N p hp).2⟩) ?_ hj ?_ ?_ done
  · intro hm
    rcases List.mem_cons.mp hm with e | hm
    · exact absurd F.ns.lt (e ▸ Nat.lt_irrefl _)
    · exact hlL (List.mem_singleton.mp hm).symm
  · intro b hb
    rw [List.mem_singleton.mp hb]
    exact next_is_new F
  · intro b hb hbw
    rcases List.mem_cons.mp hb with rfl | hb
    · exact absurd (List.mem_singleton.mpr rfl) hbw
    · rw [List.mem_singleton.mp hb]; exact hwh
  · intro p hp hI
    exact absurd (Heap.lt_size (N p hp).1) ((List.mem_singleton.mp hI) ▸ Nat.lt_irrefl _)
  · intro i h hst b hb
    rw [List.mem_singleton.mp hb]
    refine Classical.byContradiction fun hn2 => ?_
    obtain ⟨⟨o, ho, _, hf⟩, _⟩ := hst
    refine hn2 ?_
    exact ⟨o, ho, fun vs n e => by rw [hf] at e; cases e⟩
  · intro i v m₁ nx h tk own hi hP hJ ho hs F₁ N₁
    exact turn i v m₁ nx h tk own hP hJ ho hs F₁ N₁

theorem iter_list {l : Addr} {items : Array Value} {m₀ : Str → Option Value} {news : List (Addr × Obj)} (J : Nat → (Str → Option Value) → List (Addr × Obj) → Prop)
    (hh : A.handled = none) (hl : s.heap.IsList l items) (hlL : l ≠ env.locals)
    (hwh : (∃ o, h₀.get? l = some o) ∨ ∃ o, ∀ i m nx, J i m nx → (l, o) ∈ nx)
    (hgo : ∀ I i (s' : Shared) v (Q' : Unit → Shared → Prop), items[i]? = some v → s'.heap.IsListIter I l (i + 1) → Q' () s' → wpAny (model prog w) A (letOwnedTupleGo target (.ref I) v) Q' NoE s')
    (F : Fr h₀ env.locals s.heap m₀) (N : News h₀ env.locals s.heap news) (hj : J 0 m₀ news)
    (turn : ∀ i v m₁ nx h tk own, items[i]? = some v → J i m₁ nx → OwnOff own (nx.map (·.1)) → Fr h₀ env.locals h m₁ → News h₀ env.locals h (nx ++ own) →
      wpAny (model prog w) A (assign target env v) (fun _ s₂ => wpAny (model prog w) A (execs body env) (TurnEnd h₀ env.locals (fun m' nx' => J (i + 1) m' nx' ∧ OwnOff own (nx'.map (·.1))) own { s with heap := h, toks := tk } Q) NoE s₂) NoE { s with heap := h, toks := tk })
    (done : ∀ m₁ nx h tk, J items.size m₁ nx → Fr h₀ env.locals h m₁ → News h₀ env.locals h nx → Q .next { s with heap := h, toks := tk }) :
    wpAny (model prog w) A (pyIter (.ref l)) (fun it s₂ => codeAny (model prog w) A (.forLoop target it body [] env) (fun r s' => match r with | .ok f => Q f s' | .error e => cameBackBy (model prog w) A env E e s') s₂) E s :=
  iter_list' J hh hl hlL hwh hgo F N hj (fun i v m₁ nx h tk own hP hJ ho _ F₁ N₁ => turn i v m₁ nx h tk own hP hJ ho F₁ N₁) done

theorem iter_range {r : Addr} {a₀ b₀ : Int} {t₀ u₀ v₀ : Tok} {n : Nat} {m₀ : Str → Option Value} {news : List (Addr × Obj)} (J : Nat → (Str → Option Value) → List (Addr × Obj) → Prop)
    (hh : A.handled = none) (hr : IsRange s.heap r a₀ b₀ 1 t₀ u₀ v₀) (hsmall : Builtin.Range.small a₀ b₀ 1 = true) (hsz : Builtin.Range.rangeSize a₀ b₀ 1 = (n : Int))
    (hgo : ∀ I v, letOwnedTupleGo target I v = pure ())
    (F : Fr h₀ env.locals s.heap m₀) (N : News h₀ env.locals s.heap news) (hj : J 0 m₀ news)
    (turn : ∀ i t m₁ nx h tk own, i < n → J i m₁ nx → OwnOff own (nx.map (·.1)) → Fr h₀ env.locals h m₁ → News h₀ env.locals h (nx ++ own) →
      wpAny (model prog w) A (assign target env (.int (a₀ + (i : Int)) t)) (fun _ s₂ => wpAny (model prog w) A (execs body env) (TurnEnd h₀ env.locals (fun m' nx' => J (i + 1) m' nx' ∧ OwnOff own (nx'.map (·.1))) own { s with heap := h, toks := tk } Q) NoE s₂) NoE { s with heap := h, toks := tk })
    (done : ∀ m₁ nx h tk, J n m₁ nx → Fr h₀ env.locals h m₁ → News h₀ env.locals h nx → Q .next { s with heap := h, toks := tk }) :
    wpAny (model prog w) A (pyIter (.ref r)) (fun it s₂ => codeAny (model prog w) A (.forLoop target it body [] env) (fun r s' => match r with | .ok f => Q f s' | .error e => cameBackBy (model prog w) A env E e s') s₂) E s := by
  refine wpAny_pyIter_range hr hsmall ?_
  have W : Walks prog w A s.heap.objs.size [s.heap.objs.size] [s.heap.objs.size] n (fun i v => i < n ∧ ∃ t, v = .int (a₀ + i * 1) t)
      (fun i h => IsRangeIter h s.heap.objs.size (a₀ + (i : Nat) * 1) ((n : Int) - (i : Nat)) 1) := (Walks.range hh _ a₀ 1 n).bound
  refine loopW W J ?_ ?_ ?_ (fun i s' v Q' hP hst hq => by rw [hgo]; exact wpAny_pure hq)
    (by show IsRangeIter _ _ _ _ _; rw [hsz]; simpa using Heap.get?_push_size _ rfl) (F.push _) (fun p hp => ⟨Heap.get?_push_of_some _ (N p hp).1, (N p hp).2⟩) ?_ hj ?_ ?_ done
  · intro hm
    exact absurd F.ns.lt ((List.mem_singleton.mp hm) ▸ Nat.lt_irrefl _)
  · intro b hb
    rw [List.mem_singleton.mp hb]
    exact next_is_new F
  · intro b hb hbw
    exact absurd hb hbw
  · intro p hp hI
    exact absurd (Heap.lt_size (N p hp).1) ((List.mem_singleton.mp hI) ▸ Nat.lt_irrefl _)
  · intro i h hst b hb
    rw [List.mem_singleton.mp hb]
    exact ⟨_, hst, fun vs n e => by cases e⟩
  · rintro i v m₁ nx h tk own hi ⟨_, t, rfl⟩ hJ ho _ F₁ N₁
    have e1 : a₀ + (i : Int) * 1 = a₀ + (i : Int) := by lia
    rw [e1]
    exact turn i t m₁ nx h tk own hi hJ ho F₁ N₁
end
theorem DatIn.drop {news news' : List (Addr × Obj)} (hs : ∀ p ∈ news, (∀ vs n, p.2.data ≠ .seq vs n) ∨ p ∈ news') : (∀ {v : Value} {d : Dat}, DatIn news v d → DatIn news' v d) ∧ ∀ {vs : List Value} {ds : List Dat}, DatAll news vs ds → DatAll news' vs ds := by
  have k : ∀ {a o vs n}, (a, o) ∈ news → o.data = .seq vs n → (a, o) ∈ news' := fun h e => (hs _ h).resolve_left fun q => q _ _ e
  constructor
  · intro v d h
    exact DatIn.rec (motive_1 := fun v d _ => DatIn news' v d) (motive_2 := fun v d _ => DatAll news' v d) .none .bool .int .str .bytes (fun h _ r => .tuple (k h rfl) r) (fun h _ r => .list (k h rfl) r) .nil (fun _ _ a b => .cons a b) h
  · intro v d h
    exact DatAll.rec (motive_1 := fun v d _ => DatIn news' v d) (motive_2 := fun v d _ => DatAll news' v d) .none .bool .int .str .bytes (fun h _ r => .tuple (k h rfl) r) (fun h _ r => .list (k h rfl) r) .nil (fun _ _ a b => .cons a b) h
theorem DatAll.drop {news news' : List (Addr × Obj)} (hs : ∀ p ∈ news, (∀ vs n, p.2.data ≠ .seq vs n) ∨ p ∈ news') {vs : List Value} {ds : List Dat} (h : DatAll news vs ds) : DatAll news' vs ds := (DatIn.drop hs).2 h
end Mine
end
section
open PySem PySem.W PyProof.Rows PySem.Calls
namespace Mine

theorem Fr.know {h₀ h : Heap} {L : Addr} {m : Str → Option Value} {x : Str} {v : Value} (F : Fr h₀ L h m) (e : m x = some v) : Fr h₀ L h (fun y => if y = x then some v else m y) := by
  have : (fun y => if y = x then some v else m y) = m := by
    funext y
    by_cases hy : y = x
    · rw [if_pos hy, hy, e]
    · rw [if_neg hy]
  rw [this]; exact F

theorem Keep.of_extBut {h h' : Heap} (x : Heap.ExtBut h.objs.size h h') : Keep h h' := fun b o e => x b o (Nat.ne_of_lt (Heap.lt_size e)) e

structure Tops (w : World) (mg mb : Str → Option Value) (h : Heap) : Prop where
  X : (hd.heap_39 w.params).In h
  T : TopRead hd.view_39 loose mg mb h
theorem Tops.keeps {w : World} {mg mb : Str → Option Value} {h h' : Heap} (t : Tops w mg mb h) (k : Keep h h') : Tops w mg mb h' := ⟨t.X.keeps k, t.T.keeps k⟩

noncomputable def Gives (w : World) (A : Around) (f : Addr) (args : List Value) (s : Shared) (P : Value → List (Addr × Obj) → Prop) : Prop :=
  ∀ R : Result → Shared → Prop,
    (∀ v h' tk' new, Keep s.heap h' → (∀ p ∈ new, h'.get? p.1 = some p.2 ∧ s.heap.get? p.1 = none) → P v new → R (.ok (.ret v)) { s with heap := h', toks := tk' }) →
    codeAny (model prg w) A (.call (.ref f) ⟨args, []⟩) R s

noncomputable def GivesEnd (s : Shared) (L : Addr) (P : Value → List (Addr × Obj) → Prop) (fl : Flow) (s' : Shared) : Prop :=
  ∃ v h' tk' m' new, fl = .ret v ∧ s' = { s with heap := h', toks := tk' } ∧ Fr s.heap L h' m' ∧ News s.heap L h' new ∧ P v new
theorem GivesEnd.mk {s : Shared} {L : Addr} {P : Value → List (Addr × Obj) → Prop} {v : Value} {h' : Heap} {tk' : Nat} {m' : Str → Option Value} {new : List (Addr × Obj)}
    (F : Fr s.heap L h' m') (N : News s.heap L h' new) (hP : P v new) : GivesEnd s L P (.ret v) { s with heap := h', toks := tk' } := ⟨v, h', tk', m', new, rfl, rfl, F, N, hP⟩
theorem gives_of_frame {w : World} {A : Around} {s : Shared} {mg mb : Str → Option Value} {f : Addr} {args : List Value} {P : Value → List (Addr × Obj) → Prop}
    {name qual : Str} {params : Arguments} {body : List Stmt} {scope : Scope} {dV kV doc pm cdv ct oc : Value} {an od : Option Addr} {osl : Array (Option Value)} {binds : List (Str × Value)}
    (t : Tops w mg mb s.heap) (hA : A.depth < recursionLimit)
    (ho : (hd.heap_39 w.params).lookup f = some ⟨oc, od, .func (fnOf name qual params body scope dV kV doc pm an cdv ct), osl⟩) (hcd : codeIn (hd.heap_39 w.params) cdv qual = true)
    (hbind : BindsTo s (fnOf name qual params body scope dV kV doc pm an cdv ct) ⟨args, []⟩ binds) (hloc : ∀ y ∈ binds, scope.names.lookup y.1 = some .local)
    (h : ∀ L h₁, L = s.heap.objs.size → Fr s.heap L h₁ (fun y => binds.reverse.lookup y) →
      wpAny (model prg w) (A.deeper (envOf qual scope L f cdv)) (execs body (envOf qual scope L f cdv))
        (GivesEnd s L P) NoE
        { s with heap := h₁, toks := s.toks + binds.length })
    (hco : scope.isCoroutine = false) (hgen : scope.isGenerator = false) (hk : scope.kind = .function)
    (hcell : ∀ x ∈ scope.names, x.2 ≠ .cell) : Gives w A f args s P := by
  intro R hR
  refine codeAny_call_def (fd := fnOf name qual params body scope dV kV doc pm an cdv ct) (body := body) (binds := binds) hA (t.X _ _ ho) rfl t.T.nolimit (codeRec_of t.X hcd) rfl hbind hcell hloc (fun h₁ hns hk₁ => ?_) hco hgen hk
  refine wpAny_mono (h _ h₁ rfl ⟨hns, hk₁, Nat.le_refl _⟩) (fun fl s' hl => ?_) fun _ _ e => e.elim
  refine Classical.byContradiction fun hn1 => ?_
  obtain ⟨v, h', tk', m', new, rfl, rfl, F', N', hP⟩ := hl
  refine hn1 ?_
  exact hR v h' tk' new F'.keep (fun p hp => ⟨(N' p hp).1, (N' p hp).2.2⟩) hP
end Mine
namespace Mine
structure Hold (p : Prop) : Prop where
  mk :: (out : p)
theorem For_hold {M : Model} {A : Around} {E : Value → Shared → Prop} {s : Shared} {env : Env} {target iter body orelse pos} {Q : Flow → Shared → Prop}
    (h : Hold (wpAny M A (exec (.For target iter body orelse pos) env) Q E s)) : wpAny M A (exec (.For target iter body orelse pos) env) Q E s := h.out
theorem OwnOff.nil {own : List (Addr × Obj)} : OwnOff own [] := fun _ _ _ hb => nomatch hb
end Mine
namespace Mine
theorem TurnEnd.mk {h₀ h' : Heap} {L : Addr} {J : (Str → Option Value) → List (Addr × Obj) → Prop} {own news' nx : List (Addr × Obj)} {s₁ : Shared} {Q : Flow → Shared → Prop} {m' : Str → Option Value} {tk : Nat}
    (F' : Fr h₀ L h' m') (N' : News h₀ L h' news') (h1 : ∀ p ∈ nx, p ∈ news') (h2 : ∀ p ∈ own, p ∈ news') (hj : J m' nx) : TurnEnd h₀ L J own s₁ Q .next { s₁ with heap := h', toks := tk } :=
  ⟨h', tk, m', nx, rfl, F', fun p hp => N' p ((List.mem_append.mp hp).elim (h1 p) (h2 p)), hj⟩
end Mine
end
section
open PySem PySem.W PyProof.Rows
namespace Mine
noncomputable def NdA : List Addr → Prop
  | [] => True
  | a :: r => (∀ b ∈ r, @Ne Nat b a) ∧ NdA r
theorem NdA.new {news : List (Addr × Obj)} {D : Addr} (l : ∀ p ∈ news, @LT.lt Nat _ p.1 D) (h : NdA (news.map Prod.fst)) : NdA (D :: news.map Prod.fst) :=
  ⟨fun _ hb => by obtain ⟨p, hp, rfl⟩ := List.mem_map.mp hb; exact Nat.ne_of_lt (l p hp), h⟩
theorem NdA.new2 {news : List (Addr × Obj)} {c f : Addr} (l2 : @LT.lt Nat _ c f) (l1 : ∀ p ∈ news, @LT.lt Nat _ p.1 c) (h : NdA (news.map Prod.fst)) : NdA (f :: c :: news.map Prod.fst) :=
  ⟨fun _ hb => by
    rcases List.mem_cons.mp hb with rfl | hb
    · exact Nat.ne_of_lt l2
    · obtain ⟨p, hp, rfl⟩ := List.mem_map.mp hb; exact Nat.ne_of_lt (Nat.lt_trans (l1 p hp) l2), NdA.new l1 h⟩
theorem NdA.ne {a : Addr} {r : List (Addr × Obj)} (h : NdA (a :: r.map Prod.fst)) : ∀ p ∈ r, p.1 ≠ a :=
  fun _ hp => h.1 _ (List.mem_map_of_mem hp)
theorem NdA.gt {a d : Addr} {r : List Addr} (h : NdA (a :: r)) (m : d ∈ r) : a ≠ d := fun e => h.1 _ m e.symm
theorem off_of {news led : List (Addr × Obj)} {D : Addr} (l : ∀ p ∈ news, @LT.lt Nat _ p.1 D) (h : ∀ q ∈ led, q ∈ news) : D ∉ led.map Prod.fst := fun q => by
  obtain ⟨p, hp, rfl⟩ := List.mem_map.mp q; exact Nat.lt_irrefl _ (l p (h p hp))
structure UpdAll (d : Addr) (o : Obj) (l : List (Addr × Obj)) (f : Obj → List (Addr × Obj)) : Prop where
  at_ : ∀ o', Upd d o o' l (f o')
theorem UpdAll.second {p : Addr × Obj} {d : Addr} {o : Obj} {a b : List (Addr × Obj)} (h : NdA (p.1 :: d :: a.map Prod.fst)) (hb : ∀ q ∈ b, q.1 ≠ d) : UpdAll d o (p :: (d, o) :: (a ++ b)) (fun o' => p :: (d, o') :: (a ++ b)) :=
  ⟨fun _ => Upd.tail (h.gt (.head _)) (Upd.head fun q hq => (List.mem_append.mp hq).elim (h.2.ne q) (hb q))⟩
theorem mem_skip3 {X : Type} {a b x y z q : X} {r : List X} (h : q ∈ a :: b :: r) : q ∈ a :: b :: x :: y :: z :: r := by
  rcases List.mem_cons.mp h with rfl | h
  · exact .head _
  · rcases List.mem_cons.mp h with rfl | h
    · exact .tail _ (.head _)
    · exact .tail _ (.tail _ (.tail _ (.tail _ (.tail _ h))))
theorem NdA.three {a b x y z : Addr} {r : List Addr} (h : NdA (a :: b :: x :: y :: z :: r)) : ∀ q ∈ a :: b :: r, q ∉ [x, y, z] := by
  intro q hq hm
  have hx : q = x ∨ q = y ∨ q = z := by simpa using hm
  rcases List.mem_cons.mp hq with rfl | hq
  · exact h.1 q (by rcases hx with e | e | e <;> rw [e] <;> simp) rfl
  · rcases List.mem_cons.mp hq with rfl | hq
    · exact h.2.1 q (by rcases hx with e | e | e <;> rw [e] <;> simp) rfl
    · rcases hx with rfl | rfl | rfl
      · exact h.2.2.1 q (by simp [hq]) rfl
      · exact h.2.2.2.1 q (by simp [hq]) rfl
      · exact h.2.2.2.2.1 q hq rfl
theorem NdA.nodup : ∀ {l : List Addr}, NdA l ↔ l.Nodup
  | [] => ⟨fun _ => List.nodup_nil, fun _ => trivial⟩
  | a :: r => by
    rw [List.nodup_cons]
    exact ⟨fun h => ⟨fun m => h.1 a m rfl, NdA.nodup.mp h.2⟩, fun h => ⟨fun b hb e => h.1 (e ▸ hb), NdA.nodup.mpr h.2⟩⟩
theorem NdA.perm {l l' : List Addr} (h : NdA l) (p : l.Perm l') : NdA l' := NdA.nodup.mpr (p.nodup_iff.mp (NdA.nodup.mp h))
theorem NdA.app {l r : List Addr} (h : NdA (l ++ r)) : NdA l ∧ ∀ q ∈ r, q ∉ l := by
  have h := List.nodup_append.mp (NdA.nodup.mp h)
  exact ⟨NdA.nodup.mpr h.1, fun q hq hl => h.2.2 q hl q hq rfl⟩
theorem NdA.far {a b c d e f g h i j : Addr} {r : List Addr} (n : NdA (a :: b :: c :: d :: e :: f :: g :: h :: i :: j :: r)) : ∀ q ∈ r, q ∉ [a, b, c, d, e, f, g, h, i, j] := (NdA.app (l := [a, b, c, d, e, f, g, h, i, j]) n).2
theorem NdA.nine {a b c d e f g h i j : Addr} {r : List Addr} (n : NdA (a :: b :: c :: d :: e :: f :: g :: h :: i :: j :: r)) : NdA [b, c, d, e, f, g, h, i, j] := (NdA.app (l := [a, b, c, d, e, f, g, h, i, j]) n).1.2
structure On (s : String) : Prop where
theorem hideQ {M : Model} {A : Around} {α : Type} {x : Sem α} {Q : α → Shared → Prop} {E : Value → Shared → Prop} {s : Shared} (h : ∀ Q' : α → Shared → Prop, (∀ v s', Q v s' → Q' v s') → wpAny M A x Q' E s) : wpAny M A x Q E s := h Q fun _ _ h => h
theorem hideQ2 {M : Model} {A A' : Around} {α β : Type} {x : Sem α} {y : α → Sem β} {Q : β → Shared → Prop} {E E' : Value → Shared → Prop} {s : Shared} (h : ∀ Q' : β → Shared → Prop, (∀ v s', Q v s' → Q' v s') → wpAny M A x (fun v s => wpAny M A' (y v) Q' E' s) E s) : wpAny M A x (fun v s => wpAny M A' (y v) Q E' s) E s := h Q fun _ _ h => h
theorem Hold.on {p : Prop} {k : String} (_ : On k) (h : Hold p) : p := h.out
theorem NdA.u0 {d : Addr} {o o' : Obj} {r : List (Addr × Obj)} (h : NdA (d :: r.map Prod.fst)) : Upd d o o' ((d, o) :: r) ((d, o') :: r) := Upd.head h.ne
theorem NdA.f0 {d : Addr} {o : Obj} {r : List (Addr × Obj)} (h : NdA (d :: r.map Prod.fst)) : UpdF d o ((d, o) :: r) (fun o' => (d, o') :: r) := UpdF.head h.ne
theorem NdA.u1 {d : Addr} {o o' : Obj} {p0 : Addr × Obj} {r : List (Addr × Obj)} (h : NdA (p0.1 :: d :: r.map Prod.fst)) : Upd d o o' (p0 :: (d, o) :: r) (p0 :: (d, o') :: r) := Upd.tail (h.gt (.head _)) (NdA.u0 h.2)
theorem NdA.f1 {d : Addr} {o : Obj} {p0 : Addr × Obj} {r : List (Addr × Obj)} (h : NdA (p0.1 :: d :: r.map Prod.fst)) : UpdF d o (p0 :: (d, o) :: r) (fun o' => p0 :: (d, o') :: r) := UpdF.tail (h.gt (.head _)) (NdA.f0 h.2)
theorem NdA.u2 {d : Addr} {o o' : Obj} {p0 p1 : Addr × Obj} {r : List (Addr × Obj)} (h : NdA (p0.1 :: p1.1 :: d :: r.map Prod.fst)) : Upd d o o' (p0 :: p1 :: (d, o) :: r) (p0 :: p1 :: (d, o') :: r) := Upd.tail (h.gt (.tail _ (.head _))) (NdA.u1 h.2)
theorem NdA.f2 {d : Addr} {o : Obj} {p0 p1 : Addr × Obj} {r : List (Addr × Obj)} (h : NdA (p0.1 :: p1.1 :: d :: r.map Prod.fst)) : UpdF d o (p0 :: p1 :: (d, o) :: r) (fun o' => p0 :: p1 :: (d, o') :: r) := UpdF.tail (h.gt (.tail _ (.head _))) (NdA.f1 h.2)
theorem NdA.u3 {d : Addr} {o o' : Obj} {p0 p1 p2 : Addr × Obj} {r : List (Addr × Obj)} (h : NdA (p0.1 :: p1.1 :: p2.1 :: d :: r.map Prod.fst)) : Upd d o o' (p0 :: p1 :: p2 :: (d, o) :: r) (p0 :: p1 :: p2 :: (d, o') :: r) := Upd.tail (h.gt (.tail _ (.tail _ (.head _)))) (NdA.u2 h.2)
theorem NdA.f3 {d : Addr} {o : Obj} {p0 p1 p2 : Addr × Obj} {r : List (Addr × Obj)} (h : NdA (p0.1 :: p1.1 :: p2.1 :: d :: r.map Prod.fst)) : UpdF d o (p0 :: p1 :: p2 :: (d, o) :: r) (fun o' => p0 :: p1 :: p2 :: (d, o') :: r) := UpdF.tail (h.gt (.tail _ (.tail _ (.head _)))) (NdA.f2 h.2)
theorem NdA.u4 {d : Addr} {o o' : Obj} {p0 p1 p2 p3 : Addr × Obj} {r : List (Addr × Obj)} (h : NdA (p0.1 :: p1.1 :: p2.1 :: p3.1 :: d :: r.map Prod.fst)) : Upd d o o' (p0 :: p1 :: p2 :: p3 :: (d, o) :: r) (p0 :: p1 :: p2 :: p3 :: (d, o') :: r) := Upd.tail (h.gt (.tail _ (.tail _ (.tail _ (.head _))))) (NdA.u3 h.2)
theorem NdA.f4 {d : Addr} {o : Obj} {p0 p1 p2 p3 : Addr × Obj} {r : List (Addr × Obj)} (h : NdA (p0.1 :: p1.1 :: p2.1 :: p3.1 :: d :: r.map Prod.fst)) : UpdF d o (p0 :: p1 :: p2 :: p3 :: (d, o) :: r) (fun o' => p0 :: p1 :: p2 :: p3 :: (d, o') :: r) := UpdF.tail (h.gt (.tail _ (.tail _ (.tail _ (.head _))))) (NdA.f3 h.2)
theorem NdA.u5 {d : Addr} {o o' : Obj} {p0 p1 p2 p3 p4 : Addr × Obj} {r : List (Addr × Obj)} (h : NdA (p0.1 :: p1.1 :: p2.1 :: p3.1 :: p4.1 :: d :: r.map Prod.fst)) : Upd d o o' (p0 :: p1 :: p2 :: p3 :: p4 :: (d, o) :: r) (p0 :: p1 :: p2 :: p3 :: p4 :: (d, o') :: r) := Upd.tail (h.gt (.tail _ (.tail _ (.tail _ (.tail _ (.head _)))))) (NdA.u4 h.2)
theorem NdA.f5 {d : Addr} {o : Obj} {p0 p1 p2 p3 p4 : Addr × Obj} {r : List (Addr × Obj)} (h : NdA (p0.1 :: p1.1 :: p2.1 :: p3.1 :: p4.1 :: d :: r.map Prod.fst)) : UpdF d o (p0 :: p1 :: p2 :: p3 :: p4 :: (d, o) :: r) (fun o' => p0 :: p1 :: p2 :: p3 :: p4 :: (d, o') :: r) := UpdF.tail (h.gt (.tail _ (.tail _ (.tail _ (.tail _ (.head _)))))) (NdA.f4 h.2)
theorem NdA.u6 {d : Addr} {o o' : Obj} {p0 p1 p2 p3 p4 p5 : Addr × Obj} {r : List (Addr × Obj)} (h : NdA (p0.1 :: p1.1 :: p2.1 :: p3.1 :: p4.1 :: p5.1 :: d :: r.map Prod.fst)) : Upd d o o' (p0 :: p1 :: p2 :: p3 :: p4 :: p5 :: (d, o) :: r) (p0 :: p1 :: p2 :: p3 :: p4 :: p5 :: (d, o') :: r) := Upd.tail (h.gt (.tail _ (.tail _ (.tail _ (.tail _ (.tail _ (.head _))))))) (NdA.u5 h.2)
theorem NdA.f6 {d : Addr} {o : Obj} {p0 p1 p2 p3 p4 p5 : Addr × Obj} {r : List (Addr × Obj)} (h : NdA (p0.1 :: p1.1 :: p2.1 :: p3.1 :: p4.1 :: p5.1 :: d :: r.map Prod.fst)) : UpdF d o (p0 :: p1 :: p2 :: p3 :: p4 :: p5 :: (d, o) :: r) (fun o' => p0 :: p1 :: p2 :: p3 :: p4 :: p5 :: (d, o') :: r) := UpdF.tail (h.gt (.tail _ (.tail _ (.tail _ (.tail _ (.tail _ (.head _))))))) (NdA.f5 h.2)
theorem NdA.u7 {d : Addr} {o o' : Obj} {p0 p1 p2 p3 p4 p5 p6 : Addr × Obj} {r : List (Addr × Obj)} (h : NdA (p0.1 :: p1.1 :: p2.1 :: p3.1 :: p4.1 :: p5.1 :: p6.1 :: d :: r.map Prod.fst)) : Upd d o o' (p0 :: p1 :: p2 :: p3 :: p4 :: p5 :: p6 :: (d, o) :: r) (p0 :: p1 :: p2 :: p3 :: p4 :: p5 :: p6 :: (d, o') :: r) := Upd.tail (h.gt (.tail _ (.tail _ (.tail _ (.tail _ (.tail _ (.tail _ (.head _)))))))) (NdA.u6 h.2)
theorem NdA.f7 {d : Addr} {o : Obj} {p0 p1 p2 p3 p4 p5 p6 : Addr × Obj} {r : List (Addr × Obj)} (h : NdA (p0.1 :: p1.1 :: p2.1 :: p3.1 :: p4.1 :: p5.1 :: p6.1 :: d :: r.map Prod.fst)) : UpdF d o (p0 :: p1 :: p2 :: p3 :: p4 :: p5 :: p6 :: (d, o) :: r) (fun o' => p0 :: p1 :: p2 :: p3 :: p4 :: p5 :: p6 :: (d, o') :: r) := UpdF.tail (h.gt (.tail _ (.tail _ (.tail _ (.tail _ (.tail _ (.tail _ (.head _)))))))) (NdA.f6 h.2)
theorem NdA.u8 {d : Addr} {o o' : Obj} {p0 p1 p2 p3 p4 p5 p6 p7 : Addr × Obj} {r : List (Addr × Obj)} (h : NdA (p0.1 :: p1.1 :: p2.1 :: p3.1 :: p4.1 :: p5.1 :: p6.1 :: p7.1 :: d :: r.map Prod.fst)) : Upd d o o' (p0 :: p1 :: p2 :: p3 :: p4 :: p5 :: p6 :: p7 :: (d, o) :: r) (p0 :: p1 :: p2 :: p3 :: p4 :: p5 :: p6 :: p7 :: (d, o') :: r) := Upd.tail (h.gt (.tail _ (.tail _ (.tail _ (.tail _ (.tail _ (.tail _ (.tail _ (.head _))))))))) (NdA.u7 h.2)
theorem NdA.f8 {d : Addr} {o : Obj} {p0 p1 p2 p3 p4 p5 p6 p7 : Addr × Obj} {r : List (Addr × Obj)} (h : NdA (p0.1 :: p1.1 :: p2.1 :: p3.1 :: p4.1 :: p5.1 :: p6.1 :: p7.1 :: d :: r.map Prod.fst)) : UpdF d o (p0 :: p1 :: p2 :: p3 :: p4 :: p5 :: p6 :: p7 :: (d, o) :: r) (fun o' => p0 :: p1 :: p2 :: p3 :: p4 :: p5 :: p6 :: p7 :: (d, o') :: r) := UpdF.tail (h.gt (.tail _ (.tail _ (.tail _ (.tail _ (.tail _ (.tail _ (.tail _ (.head _))))))))) (NdA.f7 h.2)
theorem NdA.u9 {d : Addr} {o o' : Obj} {p0 p1 p2 p3 p4 p5 p6 p7 p8 : Addr × Obj} {r : List (Addr × Obj)} (h : NdA (p0.1 :: p1.1 :: p2.1 :: p3.1 :: p4.1 :: p5.1 :: p6.1 :: p7.1 :: p8.1 :: d :: r.map Prod.fst)) : Upd d o o' (p0 :: p1 :: p2 :: p3 :: p4 :: p5 :: p6 :: p7 :: p8 :: (d, o) :: r) (p0 :: p1 :: p2 :: p3 :: p4 :: p5 :: p6 :: p7 :: p8 :: (d, o') :: r) := Upd.tail (h.gt (.tail _ (.tail _ (.tail _ (.tail _ (.tail _ (.tail _ (.tail _ (.tail _ (.head _)))))))))) (NdA.u8 h.2)
theorem NdA.f9 {d : Addr} {o : Obj} {p0 p1 p2 p3 p4 p5 p6 p7 p8 : Addr × Obj} {r : List (Addr × Obj)} (h : NdA (p0.1 :: p1.1 :: p2.1 :: p3.1 :: p4.1 :: p5.1 :: p6.1 :: p7.1 :: p8.1 :: d :: r.map Prod.fst)) : UpdF d o (p0 :: p1 :: p2 :: p3 :: p4 :: p5 :: p6 :: p7 :: p8 :: (d, o) :: r) (fun o' => p0 :: p1 :: p2 :: p3 :: p4 :: p5 :: p6 :: p7 :: p8 :: (d, o') :: r) := UpdF.tail (h.gt (.tail _ (.tail _ (.tail _ (.tail _ (.tail _ (.tail _ (.tail _ (.tail _ (.head _)))))))))) (NdA.f8 h.2)
theorem NdA.u10 {d : Addr} {o o' : Obj} {p0 p1 p2 p3 p4 p5 p6 p7 p8 p9 : Addr × Obj} {r : List (Addr × Obj)} (h : NdA (p0.1 :: p1.1 :: p2.1 :: p3.1 :: p4.1 :: p5.1 :: p6.1 :: p7.1 :: p8.1 :: p9.1 :: d :: r.map Prod.fst)) : Upd d o o' (p0 :: p1 :: p2 :: p3 :: p4 :: p5 :: p6 :: p7 :: p8 :: p9 :: (d, o) :: r) (p0 :: p1 :: p2 :: p3 :: p4 :: p5 :: p6 :: p7 :: p8 :: p9 :: (d, o') :: r) := Upd.tail (h.gt (.tail _ (.tail _ (.tail _ (.tail _ (.tail _ (.tail _ (.tail _ (.tail _ (.tail _ (.head _))))))))))) (NdA.u9 h.2)
theorem NdA.f10 {d : Addr} {o : Obj} {p0 p1 p2 p3 p4 p5 p6 p7 p8 p9 : Addr × Obj} {r : List (Addr × Obj)} (h : NdA (p0.1 :: p1.1 :: p2.1 :: p3.1 :: p4.1 :: p5.1 :: p6.1 :: p7.1 :: p8.1 :: p9.1 :: d :: r.map Prod.fst)) : UpdF d o (p0 :: p1 :: p2 :: p3 :: p4 :: p5 :: p6 :: p7 :: p8 :: p9 :: (d, o) :: r) (fun o' => p0 :: p1 :: p2 :: p3 :: p4 :: p5 :: p6 :: p7 :: p8 :: p9 :: (d, o') :: r) := UpdF.tail (h.gt (.tail _ (.tail _ (.tail _ (.tail _ (.tail _ (.tail _ (.tail _ (.tail _ (.tail _ (.head _))))))))))) (NdA.f9 h.2)
theorem NdA.u11 {d : Addr} {o o' : Obj} {p0 p1 p2 p3 p4 p5 p6 p7 p8 p9 p10 : Addr × Obj} {r : List (Addr × Obj)} (h : NdA (p0.1 :: p1.1 :: p2.1 :: p3.1 :: p4.1 :: p5.1 :: p6.1 :: p7.1 :: p8.1 :: p9.1 :: p10.1 :: d :: r.map Prod.fst)) : Upd d o o' (p0 :: p1 :: p2 :: p3 :: p4 :: p5 :: p6 :: p7 :: p8 :: p9 :: p10 :: (d, o) :: r) (p0 :: p1 :: p2 :: p3 :: p4 :: p5 :: p6 :: p7 :: p8 :: p9 :: p10 :: (d, o') :: r) := Upd.tail (h.gt (.tail _ (.tail _ (.tail _ (.tail _ (.tail _ (.tail _ (.tail _ (.tail _ (.tail _ (.tail _ (.head _)))))))))))) (NdA.u10 h.2)
theorem NdA.f11 {d : Addr} {o : Obj} {p0 p1 p2 p3 p4 p5 p6 p7 p8 p9 p10 : Addr × Obj} {r : List (Addr × Obj)} (h : NdA (p0.1 :: p1.1 :: p2.1 :: p3.1 :: p4.1 :: p5.1 :: p6.1 :: p7.1 :: p8.1 :: p9.1 :: p10.1 :: d :: r.map Prod.fst)) : UpdF d o (p0 :: p1 :: p2 :: p3 :: p4 :: p5 :: p6 :: p7 :: p8 :: p9 :: p10 :: (d, o) :: r) (fun o' => p0 :: p1 :: p2 :: p3 :: p4 :: p5 :: p6 :: p7 :: p8 :: p9 :: p10 :: (d, o') :: r) := UpdF.tail (h.gt (.tail _ (.tail _ (.tail _ (.tail _ (.tail _ (.tail _ (.tail _ (.tail _ (.tail _ (.tail _ (.head _)))))))))))) (NdA.f10 h.2)
theorem NdA.u12 {d : Addr} {o o' : Obj} {p0 p1 p2 p3 p4 p5 p6 p7 p8 p9 p10 p11 : Addr × Obj} {r : List (Addr × Obj)} (h : NdA (p0.1 :: p1.1 :: p2.1 :: p3.1 :: p4.1 :: p5.1 :: p6.1 :: p7.1 :: p8.1 :: p9.1 :: p10.1 :: p11.1 :: d :: r.map Prod.fst)) : Upd d o o' (p0 :: p1 :: p2 :: p3 :: p4 :: p5 :: p6 :: p7 :: p8 :: p9 :: p10 :: p11 :: (d, o) :: r) (p0 :: p1 :: p2 :: p3 :: p4 :: p5 :: p6 :: p7 :: p8 :: p9 :: p10 :: p11 :: (d, o') :: r) := Upd.tail (h.gt (.tail _ (.tail _ (.tail _ (.tail _ (.tail _ (.tail _ (.tail _ (.tail _ (.tail _ (.tail _ (.tail _ (.head _))))))))))))) (NdA.u11 h.2)
theorem NdA.f12 {d : Addr} {o : Obj} {p0 p1 p2 p3 p4 p5 p6 p7 p8 p9 p10 p11 : Addr × Obj} {r : List (Addr × Obj)} (h : NdA (p0.1 :: p1.1 :: p2.1 :: p3.1 :: p4.1 :: p5.1 :: p6.1 :: p7.1 :: p8.1 :: p9.1 :: p10.1 :: p11.1 :: d :: r.map Prod.fst)) : UpdF d o (p0 :: p1 :: p2 :: p3 :: p4 :: p5 :: p6 :: p7 :: p8 :: p9 :: p10 :: p11 :: (d, o) :: r) (fun o' => p0 :: p1 :: p2 :: p3 :: p4 :: p5 :: p6 :: p7 :: p8 :: p9 :: p10 :: p11 :: (d, o') :: r) := UpdF.tail (h.gt (.tail _ (.tail _ (.tail _ (.tail _ (.tail _ (.tail _ (.tail _ (.tail _ (.tail _ (.tail _ (.tail _ (.head _))))))))))))) (NdA.f11 h.2)
theorem NdA.u13 {d : Addr} {o o' : Obj} {p0 p1 p2 p3 p4 p5 p6 p7 p8 p9 p10 p11 p12 : Addr × Obj} {r : List (Addr × Obj)} (h : NdA (p0.1 :: p1.1 :: p2.1 :: p3.1 :: p4.1 :: p5.1 :: p6.1 :: p7.1 :: p8.1 :: p9.1 :: p10.1 :: p11.1 :: p12.1 :: d :: r.map Prod.fst)) : Upd d o o' (p0 :: p1 :: p2 :: p3 :: p4 :: p5 :: p6 :: p7 :: p8 :: p9 :: p10 :: p11 :: p12 :: (d, o) :: r) (p0 :: p1 :: p2 :: p3 :: p4 :: p5 :: p6 :: p7 :: p8 :: p9 :: p10 :: p11 :: p12 :: (d, o') :: r) := Upd.tail (h.gt (.tail _ (.tail _ (.tail _ (.tail _ (.tail _ (.tail _ (.tail _ (.tail _ (.tail _ (.tail _ (.tail _ (.tail _ (.head _)))))))))))))) (NdA.u12 h.2)
theorem NdA.f13 {d : Addr} {o : Obj} {p0 p1 p2 p3 p4 p5 p6 p7 p8 p9 p10 p11 p12 : Addr × Obj} {r : List (Addr × Obj)} (h : NdA (p0.1 :: p1.1 :: p2.1 :: p3.1 :: p4.1 :: p5.1 :: p6.1 :: p7.1 :: p8.1 :: p9.1 :: p10.1 :: p11.1 :: p12.1 :: d :: r.map Prod.fst)) : UpdF d o (p0 :: p1 :: p2 :: p3 :: p4 :: p5 :: p6 :: p7 :: p8 :: p9 :: p10 :: p11 :: p12 :: (d, o) :: r) (fun o' => p0 :: p1 :: p2 :: p3 :: p4 :: p5 :: p6 :: p7 :: p8 :: p9 :: p10 :: p11 :: p12 :: (d, o') :: r) := UpdF.tail (h.gt (.tail _ (.tail _ (.tail _ (.tail _ (.tail _ (.tail _ (.tail _ (.tail _ (.tail _ (.tail _ (.tail _ (.tail _ (.head _)))))))))))))) (NdA.f12 h.2)
theorem NdA.u14 {d : Addr} {o o' : Obj} {p0 p1 p2 p3 p4 p5 p6 p7 p8 p9 p10 p11 p12 p13 : Addr × Obj} {r : List (Addr × Obj)} (h : NdA (p0.1 :: p1.1 :: p2.1 :: p3.1 :: p4.1 :: p5.1 :: p6.1 :: p7.1 :: p8.1 :: p9.1 :: p10.1 :: p11.1 :: p12.1 :: p13.1 :: d :: r.map Prod.fst)) : Upd d o o' (p0 :: p1 :: p2 :: p3 :: p4 :: p5 :: p6 :: p7 :: p8 :: p9 :: p10 :: p11 :: p12 :: p13 :: (d, o) :: r) (p0 :: p1 :: p2 :: p3 :: p4 :: p5 :: p6 :: p7 :: p8 :: p9 :: p10 :: p11 :: p12 :: p13 :: (d, o') :: r) := Upd.tail (h.gt (.tail _ (.tail _ (.tail _ (.tail _ (.tail _ (.tail _ (.tail _ (.tail _ (.tail _ (.tail _ (.tail _ (.tail _ (.tail _ (.head _))))))))))))))) (NdA.u13 h.2)
theorem NdA.f14 {d : Addr} {o : Obj} {p0 p1 p2 p3 p4 p5 p6 p7 p8 p9 p10 p11 p12 p13 : Addr × Obj} {r : List (Addr × Obj)} (h : NdA (p0.1 :: p1.1 :: p2.1 :: p3.1 :: p4.1 :: p5.1 :: p6.1 :: p7.1 :: p8.1 :: p9.1 :: p10.1 :: p11.1 :: p12.1 :: p13.1 :: d :: r.map Prod.fst)) : UpdF d o (p0 :: p1 :: p2 :: p3 :: p4 :: p5 :: p6 :: p7 :: p8 :: p9 :: p10 :: p11 :: p12 :: p13 :: (d, o) :: r) (fun o' => p0 :: p1 :: p2 :: p3 :: p4 :: p5 :: p6 :: p7 :: p8 :: p9 :: p10 :: p11 :: p12 :: p13 :: (d, o') :: r) := UpdF.tail (h.gt (.tail _ (.tail _ (.tail _ (.tail _ (.tail _ (.tail _ (.tail _ (.tail _ (.tail _ (.tail _ (.tail _ (.tail _ (.tail _ (.head _))))))))))))))) (NdA.f13 h.2)
theorem NdA.u15 {d : Addr} {o o' : Obj} {p0 p1 p2 p3 p4 p5 p6 p7 p8 p9 p10 p11 p12 p13 p14 : Addr × Obj} {r : List (Addr × Obj)} (h : NdA (p0.1 :: p1.1 :: p2.1 :: p3.1 :: p4.1 :: p5.1 :: p6.1 :: p7.1 :: p8.1 :: p9.1 :: p10.1 :: p11.1 :: p12.1 :: p13.1 :: p14.1 :: d :: r.map Prod.fst)) : Upd d o o' (p0 :: p1 :: p2 :: p3 :: p4 :: p5 :: p6 :: p7 :: p8 :: p9 :: p10 :: p11 :: p12 :: p13 :: p14 :: (d, o) :: r) (p0 :: p1 :: p2 :: p3 :: p4 :: p5 :: p6 :: p7 :: p8 :: p9 :: p10 :: p11 :: p12 :: p13 :: p14 :: (d, o') :: r) := Upd.tail (h.gt (.tail _ (.tail _ (.tail _ (.tail _ (.tail _ (.tail _ (.tail _ (.tail _ (.tail _ (.tail _ (.tail _ (.tail _ (.tail _ (.tail _ (.head _)))))))))))))))) (NdA.u14 h.2)
theorem NdA.f15 {d : Addr} {o : Obj} {p0 p1 p2 p3 p4 p5 p6 p7 p8 p9 p10 p11 p12 p13 p14 : Addr × Obj} {r : List (Addr × Obj)} (h : NdA (p0.1 :: p1.1 :: p2.1 :: p3.1 :: p4.1 :: p5.1 :: p6.1 :: p7.1 :: p8.1 :: p9.1 :: p10.1 :: p11.1 :: p12.1 :: p13.1 :: p14.1 :: d :: r.map Prod.fst)) : UpdF d o (p0 :: p1 :: p2 :: p3 :: p4 :: p5 :: p6 :: p7 :: p8 :: p9 :: p10 :: p11 :: p12 :: p13 :: p14 :: (d, o) :: r) (fun o' => p0 :: p1 :: p2 :: p3 :: p4 :: p5 :: p6 :: p7 :: p8 :: p9 :: p10 :: p11 :: p12 :: p13 :: p14 :: (d, o') :: r) := UpdF.tail (h.gt (.tail _ (.tail _ (.tail _ (.tail _ (.tail _ (.tail _ (.tail _ (.tail _ (.tail _ (.tail _ (.tail _ (.tail _ (.tail _ (.tail _ (.head _)))))))))))))))) (NdA.f14 h.2)
end Mine
end
section
open PySem PySem.W PyProof.Rows PySem.Calls
set_option compiler.extract_closed false
local macro_rules
  | `(tactic| walk_at "step1") => `(tactic| first | (k_unfold; (try dsimp only)) | walk1 | (dsimp only; walk1) | ((with_reducible show wpAny _ _ _ _ _ _); leave1; try dsimp only) | fail "no step")
  | `(tactic| walk_at "steps") => `(tactic| (w_top off; repeat' walk_at "step1"))
  | `(tactic| walk_at "mem_all") => `(tactic| ((repeat (refine List.forall_mem_cons.mpr ⟨by k_memK, ?_⟩)); first | exact List.forall_mem_nil _ | (intro p hp; k_ownIn)))
  | `(tactic| walk_at "nd") => `(tactic| (first | ((first | apply Mine.NdA.u0 | apply Mine.NdA.f0 | apply Mine.NdA.u1 | apply Mine.NdA.f1 | apply Mine.NdA.u2 | apply Mine.NdA.f2 | apply Mine.NdA.u3 | apply Mine.NdA.f3 | apply Mine.NdA.u4 | apply Mine.NdA.f4 | apply Mine.NdA.u5 | apply Mine.NdA.f5 | apply Mine.NdA.u6 | apply Mine.NdA.f6 | apply Mine.NdA.u7 | apply Mine.NdA.f7 | apply Mine.NdA.u8 | apply Mine.NdA.f8 | apply Mine.NdA.u9 | apply Mine.NdA.f9 | apply Mine.NdA.u10 | apply Mine.NdA.f10 | apply Mine.NdA.u11 | apply Mine.NdA.f11 | apply Mine.NdA.u12 | apply Mine.NdA.f12); assumption) | exact Mine.UpdAll.at_ (by assumption) _))
  | `(tactic| walk_at $s:str) => `(tactic| (with_reducible (refine Mine.Hold.on (k := $s) ?_ ?_; assumption)))
local macro_rules | `(tactic| k_room) => `(tactic| ((try simp only [depth_under_make, depth_under_kw, depth_in1, depth_deeper]); omega))
local macro_rules | `(tactic| k_lt $h:ident) => `(tactic| first | (k_dflt (have nd := Mine.NdA.new $h (by assumption)); (try dsimp only [List.map] at nd)) | (have z : Mine.On "raw" := (by assumption); clear z))
local macro_rules | `(tactic| k_lt2 $h:ident) => `(tactic| (k_dflt (have nd := Mine.NdA.new2 $h (by assumption) (by assumption)); (try dsimp only [List.map] at nd)))
local macro_rules | `(tactic| k_upd) => `(tactic| walk_at "nd")
local macro_rules | `(tactic| k_updF) => `(tactic| walk_at "nd")
section
open PySem PySem.W PyProof.Rows PySem.Calls
set_option maxRecDepth 100000
namespace Mine
theorem list_hfi : fillsInplaceSlot (.type "list") "add" (Operator.Add == .Add) = pure false := by
  unfold fillsInplaceSlot
  show (typeLookup (.type "list") (dunderI "add") >>= fun fi => pure (fi.isSome && !isSeqSlot fi)) = pure false
  rw [PySem.F.slot_list_iadd.lookup]
  kernel_rfl
theorem list_hsi : seqSlot? (.type "list") (dunderI "add") = pure (some (.builtin "list.__iadd__")) := by
  unfold seqSlot?
  rw [PySem.F.slot_list_iadd.lookup]
  kernel_rfl
section
variable {prog : Program} {w : World} {A : Around} {E : Value → Shared → Prop} {s : Shared} {h₀ : Heap} {L D b : Addr} {m : Str → Option Value} {news news' : List (Addr × Obj)}
theorem iadd_K {its its2 : Array Value} {n n2 : Nat} {Q : Value → Shared → Prop} (F : Fr h₀ L s.heap m) (N : News h₀ L s.heap news) (hb : (b, listOf its2 n2) ∈ news)
    (U : Upd D (listOf its n) (listOf (its ++ its2) (if (its ++ its2).size == its.size then n else n + 1)) news news')
    (h : ∀ h', Fr h₀ L h' m → News h₀ L h' news' → Q (.ref D) { s with heap := h' })
    (hsz : its.size + its2.size ≤ sizeLine := by size_fits) :
    wpAny (model prog w) A (inplaceOp .Add (.ref D) (.ref b)) Q E s := by
  refine Classical.byContradiction fun hn1 => ?_
  obtain ⟨pre, post, rfl, rfl, a, c⟩ := U.split
  refine hn1 ?_
  have hm := N (D, listOf its n) (List.mem_append.mpr (.inr (.head _)))
  have hbo := (N _ hb).1
  have ta : s.TypeIs (.ref D) "list" := ⟨_, hm.1, rfl⟩
  have tb : s.TypeIs (.ref b) "list" := ⟨_, hbo, rfl⟩
  unfold inplaceOp
  refine wpAny_holding ?_
  refine wpAny_bind (wpAny_typeOf ta (wpAny_bind (wpAny_of_eq list_hfi ?_)))
  show wpAny _ A (if false = true then _ else _) Q E s
  rw [if_neg Bool.false_ne_true]
  refine wpAny_bind (wpAny_binaryOp1_none (nm := "add") ta tb noFill_list_add ?_)
  refine wpAny_bind (wpAny_of_eq list_hsi ?_)
  refine wpAny_bind (wpAny_rule ?_)
  refine call_meets PySem.F.slot_list_iadd ta PySem.F.entry_list_iadd (PySem.F.args_list_iadd_2 _ _) (AutoSeq1.list___iadd___list_list_0 D its n b its2 n2 (extend_door hsz) (Nat.le_trans (Nat.le_add_right _ _) hsz)) ⟨hm.1, hbo, ?_⟩
  refine h _ (F.change (Heap.SameBut.update ..) hm.2.1 hm.2.2) (news_set N a c (Heap.SameBut.update ..) ?_)
  exact Heap.get?_update_self _ hm.1 rfl
end
end Mine
end
section
open PySem PySem.W PyProof.Rows PySem.Calls
set_option maxRecDepth 100000
namespace Mine
theorem fillW : (hd.heap_39, PySem.Challenge.rw_in0135_01) = (hd.heap_39, PySem.Challenge.rw_in0135_01) := by k_fill; rfl
noncomputable abbrev S (x : String) : Str := Str.ofString x
noncomputable abbrev Row := Str × Str × Str
noncomputable def rowD (r : Row) : Dat := .tuple [.str r.1, .str r.2.1, .str r.2.2]
noncomputable def rowWords (r : Row) : List Str := [S "machine", r.1] ++ (if r.2.1 != S "" then [S "login", r.2.1] else []) ++ (if r.2.2 != S "" then [S "password", r.2.2] else [])
noncomputable def wordsOf (rows : List Row) : List Str := rows.flatMap rowWords
theorem rowWords_len (r : Row) : (rowWords r).length ≤ 6 := by
  unfold rowWords
  split <;> split <;> simp
theorem wordsOf_len (rows : List Row) : (wordsOf rows).length ≤ 6 * rows.length := by
  induction rows with
  | nil => simp [wordsOf]
  | cons r rows ih =>
    have := rowWords_len r
    simp only [wordsOf, List.flatMap_cons, List.length_append, List.length_cons] at ih ⊢
    lia
theorem wordsOf_take {rows : List Row} {i : Nat} {r : Row} (h : rows[i]? = some r) : wordsOf (rows.take (i + 1)) = wordsOf (rows.take i) ++ rowWords r := by
  unfold wordsOf
  rw [List.take_add_one, h, List.flatMap_append]
  simp
theorem DatIn.strOf {v : Value} {x : Str} {news : List (Addr × Obj)} (h : DatIn news v (.str x)) : ∃ t, v = .str x t := by cases h; exact ⟨_, rfl⟩
inductive TupD (news : List (Addr × Obj)) (v : Value) (ds : List Dat) : Prop
  | mk (a : Addr) (n : Nat) (vs : List Value) (e : v = .ref a) (hm : (a, ({ cls := .type "tuple", data := .seq vs.toArray n } : Obj)) ∈ news) (h : DatAll news vs ds) : TupD news v ds
theorem DatIn.tupOf {v : Value} {ds : List Dat} {news : List (Addr × Obj)} (h : DatIn news v (.tuple ds)) : TupD news v ds := by
  cases h with
  | tuple hm hall => exact ⟨_, _, _, rfl, hm, hall⟩
inductive InvD (news : List (Addr × Obj)) (vs : List Value) (d : Dat) (ds : List Dat) : Prop
  | mk (v : Value) (vs' : List Value) (e : vs = v :: vs') (h : DatIn news v d) (r : DatAll news vs' ds) : InvD news vs d ds
theorem DatAll.inv {vs : List Value} {d : Dat} {ds : List Dat} {news : List (Addr × Obj)} (h : DatAll news vs (d :: ds)) : InvD news vs d ds := by
  cases h with
  | cons a b => exact ⟨_, _, rfl, a, b⟩
theorem DatAll.inv0 {vs : List Value} {news : List (Addr × Obj)} (h : DatAll news vs []) : vs = [] := by cases h; rfl
inductive StrInvD (news : List (Addr × Obj)) (vs : List Value) (x : Str) (ds : List Dat) : Prop
  | mk (t : Tok) (vs' : List Value) (e : vs = .str x t :: vs') (r : DatAll news vs' ds) : StrInvD news vs x ds
theorem DatAll.strInv {vs : List Value} {x : Str} {ds : List Dat} {news : List (Addr × Obj)} (h : DatAll news vs (.str x :: ds)) : StrInvD news vs x ds := by
  refine Classical.byContradiction fun hn1 => ?_
  obtain ⟨v, vs', e, a, b⟩ := DatAll.inv h
  obtain ⟨t, rfl⟩ := DatIn.strOf a
  refine hn1 ?_
  exact ⟨t, vs', e, b⟩
inductive RowAt (news : List (Addr × Obj)) (v : Value) (r : Row) : Prop
  | mk (a : Addr) (n : Nat) (t1 t2 t3 : Tok) (e : v = .ref a) (hm : (a, ({ cls := .type "tuple", data := .seq #[.str r.1 t1, .str r.2.1 t2, .str r.2.2 t3] n } : Obj)) ∈ news) : RowAt news v r
theorem DatIn.row {v : Value} {r : Row} {news : List (Addr × Obj)} (h : DatIn news v (rowD r)) : RowAt news v r := by
  refine Classical.byContradiction fun hn1 => ?_
  obtain ⟨a, n, vs, e, hm, h⟩ := DatIn.tupOf h
  obtain ⟨t1, v1, e1, h1⟩ := DatAll.strInv h
  obtain ⟨t2, v2, e2, h2⟩ := DatAll.strInv h1
  obtain ⟨t3, v3, e3, h3⟩ := DatAll.strInv h2
  refine hn1 ?_
  rw [e1, e2, e3, DatAll.inv0 h3] at hm
  exact ⟨a, n, t1, t2, t3, e, hm⟩
inductive ListD (news : List (Addr × Obj)) (v : Value) (ds : List Dat) : Prop
  | mk (a : Addr) (n : Nat) (vs : List Value) (e : v = .ref a) (hm : (a, W.listOf vs.toArray n) ∈ news) (h : DatAll news vs ds) : ListD news v ds
theorem DatIn.listOf {v : Value} {ds : List Dat} {news : List (Addr × Obj)} (h : DatIn news v (.list ds)) : ListD news v ds := by
  cases h with
  | list hm hall => exact ⟨_, _, _, rfl, hm, hall⟩
theorem DatAll.any {vs : List Value} {ds : List Dat} {news : List (Addr × Obj)} (h : DatAll [] vs ds) : DatAll news vs ds := DatAll.mono (by intro _ h; cases h) h
inductive AtD (news : List (Addr × Obj)) (ds : List Dat) (i : Nat) (v : Value) : Prop
  | mk (d : Dat) (e : ds[i]? = some d) (h : DatIn news v d) : AtD news ds i v
theorem DatAll.at {vs : List Value} {ds : List Dat} {news : List (Addr × Obj)} (h : DatAll news vs ds) {i : Nat} {v : Value} (hi : vs[i]? = some v) : AtD news ds i v := by
  have hlt : i < vs.length := (List.getElem?_eq_some_iff.mp hi).1
  have hl := h.length
  obtain ⟨v', e, hd⟩ := h.get (k := i) (by lia)
  rw [hi] at e; cases e
  exact ⟨_, List.getElem?_eq_getElem _, hd⟩

theorem DatAll.row_at {vs : List Value} {rows : List Row} {news : List (Addr × Obj)} {i : Nat} {v : Value} {P : Prop} (h : DatAll news vs (rows.map rowD)) (hv : vs.toArray[i]? = some v)
    (k : ∀ r a n t1 t2 t3, rows[i]? = some r → v = .ref a → (a, ({ cls := .type "tuple", data := .seq #[.str r.1 t1, .str r.2.1 t2, .str r.2.2 t3] n } : Obj)) ∈ news → P) : P := by
  obtain ⟨d, hd, hin⟩ := DatAll.at h (List.getElem?_toArray ▸ hv)
  obtain ⟨r, hr, rfl⟩ := Option.map_eq_some_iff.mp (List.getElem?_map ▸ hd)
  obtain ⟨a, n, t1, t2, t3, e, ha⟩ := DatIn.row hin
  exact k r a n t1 t2 t3 hr e ha
noncomputable def wordsBody : List Stmt := forBody (stmtsAt 11)[1]?


noncomputable abbrev wordsEnv (L : Addr) : Env := envOf (Str.ofString "_law_words") (scopeAt 11) L 100 (.ref 99)
inductive WordsJ (l : Addr) (rows : List Row) (i : Nat) (m : Str → Option Value) (nx : List (Addr × Obj)) : Prop
  | mk (ws : Array Value) (n : Nat) (hm : m (Str.ofString "words") = some (.ref l)) (e : nx = [(l, W.listOf ws n)]) (hz : ws.size ≤ 6 * i) (h : DatAll [] ws.toList ((wordsOf (rows.take i)).map Dat.str)) : WordsJ l rows i m nx
theorem words_size {rows : List Row} {i : Nat} {ws : Array Value} (h : DatAll [] ws.toList ((wordsOf (rows.take i)).map Dat.str)) : ws.size ≤ 6 * i := by
  have h1 := h.length
  rw [Array.length_toList, List.length_map] at h1
  exact h1 ▸ Nat.le_trans (wordsOf_len _) (Nat.mul_le_mul_left 6 (List.length_take_le i rows))

theorem words_turn {h₀ h' : Heap} {L l : Addr} {own news' : List (Addr × Obj)} {s₁ : Shared} {Q : Flow → Shared → Prop} {m' : Str → Option Value} {tk i n : Nat} {rows : List Row} {r : Row} {ws us : Array Value} (F' : Fr h₀ L h' m') (N' : News h₀ L h' news') (h1 : ∀ p ∈ [(l, W.listOf (ws ++ us) n)], p ∈ news') (h2 : ∀ p ∈ own, p ∈ news')
    (hm : m' (Str.ofString "words") = some (.ref l)) (hoff : OwnOff own [l]) (hr : rows[i]? = some r) (hws : DatAll [] ws.toList ((wordsOf (rows.take i)).map Dat.str)) (hu : DatAll [] us.toList ((rowWords r).map Dat.str)) :
    TurnEnd h₀ L (fun m' nx' => WordsJ l rows (i + 1) m' nx' ∧ OwnOff own (nx'.map (·.1))) own s₁ Q .next { s₁ with heap := h', toks := tk } := by
  have h : DatAll [] (ws ++ us).toList ((wordsOf (rows.take (i + 1))).map Dat.str) := by
    rw [wordsOf_take hr, List.map_append, Array.toList_append]
    exact DatAll.append hws hu
  exact TurnEnd.mk F' N' h1 h2 ⟨⟨_, _, hm, rfl, words_size h, h⟩, hoff⟩
set_option maxHeartbeats 800000 in
theorem words_spec {w : World} {A : Around} {s : Shared} {mg mb : Str → Option Value} {t : Value} {rows : List Row} {objs : List (Addr × Obj)} (tp : Tops w mg mb s.heap) (hA : A.depth < recursionLimit) (hh : A.handled = none)
    (ho : ∀ p ∈ objs, s.heap.get? p.1 = some p.2) (hd : DatIn objs t (.list (rows.map rowD))) (hn : rows.length ≤ 100) :
    Gives w A 100 [t] s (fun v new => DatIn new v (.list ((wordsOf rows).map Dat.str))) := by
  have o1 : On "pyIter ref" := ⟨⟩
  have o2 : On "exec For" := ⟨⟩
  have o3 : On "exec For Tuple Name cons nil" := ⟨⟩
  have o4 : On "inplaceOp Add ref ref" := ⟨⟩
  refine Classical.byContradiction fun hn1 => ?_
  obtain ⟨X, T⟩ := id tp
  obtain ⟨lt, nt, vs, rfl, hlt, hall⟩ := DatIn.listOf hd
  refine hn1 ?_
  refine gives_of_frame tp hA (by k_is) (by k_is) (BindsTo.of_eq rfl) (locs rfl) (fun L h₁ hL F => ?_) (by rfl) (by rfl) (by rfl) (by decide)
  have N : News s.heap L h₁ [] := News.nil
  walk_at "steps"
  refine Hold.mk ?_
  refine wpAny_For ?_ (by intro _; rfl)
  walk_at "steps"
  refine Hold.mk ?_
  (rename Fr _ _ _ _ => F'); (rename News _ _ _ _ => N')
  have hl : s.heap.get? lt = some (W.listOf vs.toArray nt) := ho _ hlt
  have hlen : vs.length = rows.length := by rw [hall.length, List.length_map]
  refine iter_list (WordsJ _ rows) hh (items := vs.toArray) ⟨_, F'.keep _ _ hl, rfl, _, rfl⟩ (Nat.ne_of_lt (hL ▸ Heap.lt_size hl)) (.inl ⟨_, hl⟩) ?hgo F' N' ⟨#[], 0, rfl, rfl, Nat.zero_le _, DatAll.nil⟩ ?turn ?done
  case hgo =>
    intro I i s' v Q' hv hit hq
    refine DatAll.row_at hall hv (fun r a na t1 t2 t3 hr e ha => ?_)
    subst e
    exact wpAny_letOwnedTupleGo_listiter hit hq
  case turn =>
    intro i v m₁ nx h tk own hv hJ hoff F₁ N₁
    refine Classical.byContradiction fun hn2 => ?_
    obtain ⟨ws, n, hm, rfl, hz, hws⟩ := hJ
    refine hn2 ?_
    refine DatAll.row_at hall hv (fun r a na t1 t2 t3 hr e ha => ?_)
    subst e
    refine wpAny_assign_Tuple hh ⟨_, F₁.keep _ _ (ho _ ha), rfl, _, rfl⟩ rfl rfl (fun h' hx => ?_)
    replace F₁ := Fr.know (F₁.kept (Keep.of_extBut hx)) hm
    replace N₁ := News.kept N₁ (Keep.of_extBut hx)
    clear hx hm
    have hi : i < rows.length := (List.getElem?_eq_some_iff.mp hr).1
    have hwl : ws.size ≤ 600 := Nat.le_trans hz (Nat.mul_le_mul_left 6 (Nat.le_trans (Nat.le_of_lt hi) hn))
    dsimp only [List.cons_append, List.nil_append] at N₁
    replace hoff : OwnOff own [_] := hoff
    dsimp only at hoff
    refine hideQ2 fun Q0 hQ0 => ?_
    walk_at "steps"
    all_goals (
      refine Hold.mk ?_
      k_dflt (refine iadd_K (by k_asm) (by k_asm) (by k_mem) (by k_upd) ?_ (by size_fits); k_whole)
      intro h' F' N'
      (try k_sweep)
      walk_at "steps"
      (rename Fr _ _ _ _ => F'); (rename News _ _ _ _ => N')
      refine hQ0 _ _ ?_
      refine words_turn F' N' (by k_allIn) (by intro p hp; k_ownIn) rfl hoff hr hws ?_
      (try simp only [Bool.not_eq_true] at *)
      simp only [rowWords, *, if_true, if_false, List.map_cons, List.map_nil, List.append_nil, List.cons_append, List.nil_append]
      kqd_all)
  case done =>
    intro m₁ nx h tk hJ F₁ N₁
    refine Classical.byContradiction fun hn3 => ?_
    obtain ⟨ws, n, hm, rfl, hz, hws⟩ := hJ
    refine hn3 ?_
    replace F₁ := Fr.know F₁ hm
    have e : vs.toArray.size = rows.length := by simpa using hlen
    rw [e, List.take_length] at hws
    dsimp only
    walk_at "steps"
    exact GivesEnd.mk F₁ N₁ (DatIn.list (vs := ws.toList) (.head _) (DatAll.any hws))
end Mine
end
section
open PySem PySem.W PyProof.Rows PySem.Calls
set_option maxRecDepth 100000
namespace Mine

noncomputable def piecesL : List Str := [S "a", S "login", S "b c", S "q\"", S "\\", S "#x", S "machine"]
noncomputable def pieceAt (k : Int) : Str := piecesL.getD k.toNat Str.empty
noncomputable def rowOf (x : Int) : Row := (pieceAt (Int.fmod x 7), if Int.fmod (Int.fdiv x 49) 3 = 0 then S "" else pieceAt (Int.fmod (Int.fdiv x 7) 7), if Int.fmod (Int.fdiv x 49) 3 = 1 then S "" else pieceAt (Int.fmod (Int.fdiv x 147) 7))
noncomputable def sideOf (x : Int) : Int := Int.fmod (Int.fdiv x 1029) 3
noncomputable def leftOf (xs : List Int) : List Row := (xs.filter fun x => decide (sideOf x ≠ 1)).map rowOf
noncomputable def rightOf (xs : List Int) : List Row := (xs.filter fun x => decide (sideOf x ≠ 0)).map rowOf


theorem OwnOff.cons {p : Addr × Obj} {l : List (Addr × Obj)} {adr : List Addr} (h1 : ∀ b ∈ adr, p.1 ≠ b) (h2 : OwnOff l adr) : OwnOff (p :: l) adr := by
  intro q hq b hb
  rcases List.mem_cons.mp hq with rfl | hq
  · exact h1 b hb
  · exact h2 q hq b hb
theorem item_lit {prog : Program} {w : World} {A : Around} {E : Value → Shared → Prop} {s : Shared} {value slice : PySem.Expr} {l : Addr} {vs : List Value} {i : Int} {k : Nat} {u : Tok} {v : Value} {Q : Value → Shared → Prop}
    (hl : s.heap.IsList l vs.toArray) (hi : i = (k : Int)) (hk : k < 1000) (hv : vs[k]? = some v) (h : Q v s)
    (hs : subscripted slice false (.ref l) (.int i u) = operate [.ref l, .int i u] (getItem (.ref l) (.int i u)) := by with_unfolding_all rfl) :
    wpAny (model prog w) A (subscriptTail value slice (.ref l) (.int i u)) Q E s := by
  subst hi
  exact tail_any hl.typeIs slot_list_getitem.lookup (wpAny_getItem_list hl (by lia) (by lia) (by simpa using hv) h) hs
theorem fmod_lt (a : Int) {n : Int} (h : 0 < n) : 0 ≤ Int.fmod a n ∧ Int.fmod a n < n := by
  rw [Int.fmod_eq_emod_of_nonneg _ (by lia)]
  exact ⟨Int.emod_nonneg _ (by lia), Int.emod_lt_of_pos _ h⟩
theorem piece_item {prog : Program} {w : World} {A : Around} {E : Value → Shared → Prop} {s : Shared} {value slice : PySem.Expr} {l : Addr} {vs : List Value} {a : Int} {u : Tok} {Q : Value → Shared → Prop}
    (hl : s.heap.IsList l vs.toArray) (hw : StrsAre vs piecesL) (h : ∀ t', Q (.str (pieceAt (Int.fmod a 7)) t') s)
    (hs : subscripted slice false (.ref l) (.int (Int.fmod a 7) u) = operate [.ref l, .int (Int.fmod a 7) u] (getItem (.ref l) (.int (Int.fmod a 7) u)) := by with_unfolding_all rfl) :
    wpAny (model prog w) A (subscriptTail value slice (.ref l) (.int (Int.fmod a 7) u)) Q E s :=
  have f := fmod_lt a (n := 7) (by omega)
  KTb.item_list hl hw f.1 (by show _ < (7 : Int); exact f.2) (by omega) (fun t' _ => h t') hs


theorem AllLt.mem {d : Addr} : ∀ {l : List (Addr × Obj)}, AllLt d l → ∀ p ∈ l, p.1 < d
  | [], _, _, hp => nomatch hp
  | q :: l, h, p, hp => by
    rcases List.mem_cons.mp hp with rfl | hp
    · exact h.1
    · exact AllLt.mem h.2 p hp
theorem AllLt.ne {d : Addr} {l : List (Addr × Obj)} (h : AllLt d l) : ∀ p ∈ l, p.1 ≠ d := fun p hp => Nat.ne_of_lt (AllLt.mem h p hp)
theorem upd_at {lk D : Addr} {o o' od : Obj} {news : List (Addr × Obj)} {f : Obj → List (Addr × Obj)} (U : ∀ o', Upd lk o o' news (f o')) (mk : (lk, o) ∈ news) (l : ∀ p ∈ news, p.1 < D) : Upd lk o o' ((D, od) :: news) ((D, od) :: f o') :=
  .tail (Nat.ne_of_gt (l _ mk)) (U o')
noncomputable abbrev tupObj (r : Row) (t1 t2 t3 : Tok) : Obj := { cls := .type "tuple", data := .seq #[.str r.1 t1, .str r.2.1 t2, .str r.2.2 t3] }
theorem tupIn {news : List (Addr × Obj)} {D : Addr} {r : Row} {t1 t2 t3 : Tok} (h : (D, tupObj r t1 t2 t3) ∈ news) : DatIn news (.ref D) (rowD r) :=
  DatIn.tuple (vs := [.str r.1 t1, .str r.2.1 t2, .str r.2.2 t3]) h (.cons (.str _ _) (.cons (.str _ _) (.cons (.str _ _) .nil)))
noncomputable abbrev tabEnv (L : Addr) : Env := envOf (Str.ofString "_law_tables") (scopeAt 10) L 93 (.ref 92)
noncomputable abbrev tabBody : List Stmt := forBody (stmtsAt 10)[2]?
noncomputable abbrev sideBody : List Stmt := forBody (forBody (stmtsAt 10)[2]?)[2]?

noncomputable abbrev cells4 (lp lt l0 l1 : Addr) (pvs : List Value) (its0 its1 : Array Value) (n0 n1 : Nat) (tl : List (Addr × Obj)) : List (Addr × Obj) :=
  (lp, W.listOf pvs.toArray 0) :: (lt, W.listOf #[.ref l0, .ref l1] 0) :: (l0, W.listOf its0 n0) :: (l1, W.listOf its1 n1) :: tl
set_option maxHeartbeats 1000000 in
theorem side_turn {w : World} {A : Around} {Q : Flow → Shared → Prop} {base h : Heap} {g : Array GenState} {d : Drawn} {os : OsState} {tk t : Tok} {L lp lt l0 l1 lk : Addr} {news : List (Addr × Obj)} {f : Obj → List (Addr × Obj)} {its : Array Value} {n kn : Nat} {x : Int} {t1 t2 t3 : Tok} {lg wd : Str} {mg mb m : Str → Option Value} {pvs : List Value}
   (X : (hd.heap_39 w.params).In base) (T : TopRead hd.view_39 loose mg mb base) (hp : StrsAre pvs piecesL) (hkn : kn < 1000) (hk : ([.ref l0, .ref l1] : List Value)[kn]? = some (.ref lk))
   (F : Fr base L h (fun y => if y = S "side" then some (.int (kn : Int) t3) else if y = S "word" then some (.str wd t2) else if y = S "login" then some (.str lg t1) else if y = S "x" then some (.int x t) else if y = S "pieces" then some (.ref lp) else if y = S "tables" then some (.ref lt) else m y))
   (N : News base L h news) (mp : (lp, W.listOf pvs.toArray 0) ∈ news) (mt : (lt, W.listOf #[.ref l0, .ref l1] 0) ∈ news) (mk : (lk, W.listOf its n) ∈ news) (U : ∀ o', Upd lk (W.listOf its n) o' news (f o')) (hlen : its.size ≤ 1000)
   (hQ : ∀ h' tk' m' D t', Fr base L h' m' → m' (S "pieces") = some (.ref lp) → m' (S "tables") = some (.ref lt) → m' (S "word") = some (.str wd t2) → m' (S "login") = some (.str lg t1) → m' (S "x") = some (.int x t) →
     News base L h' ((D, tupObj (pieceAt (Int.fmod x 7), lg, wd) t' t1 t2) :: f (W.listOf (its.push (.ref D)) (n + 1))) → (∀ p ∈ news, p.1 < D) → Q .next ⟨h', g, d, tk', os⟩)
   : wpAny (model prg w) A (execs sideBody (tabEnv L)) Q NoE ⟨h, g, d, tk, os⟩ := by
  have o1 : On "subscriptTail Name Name ref int" := ⟨⟩
  have o2 : On "subscriptTail Name BinOp ref int" := ⟨⟩
  have o3 : On "call builtin:list.append" := ⟨⟩
  have e : sideBody = sideBody := rfl
  conv at e => rhs; whnf
  rw [e]
  clear e
  walk_at "steps"
  refine Hold.mk ?_
  (rename Fr _ _ _ _ => F'); (rename News _ _ _ _ => N')
  refine item_lit (News.isList N' mt) rfl hkn hk ?_ (by with_unfolding_all rfl)
  walk_at "steps"
  refine Hold.mk ?_
  refine piece_item (News.isList N' mp) hp (fun t' => ?_) (by with_unfolding_all rfl)
  walk_at "steps"
  refine Hold.mk ?_
  rename ∀ p ∈ news, _ => lD
  have uu : UpdAll lk (W.listOf its n) (_ :: news) (fun o' => _ :: f o') := ⟨fun _ => upd_at (od := tupObj (pieceAt (Int.fmod x 7), lg, wd) t' t1 t2) U mk lD⟩
  rename Addr => D
  replace mk := List.Mem.tail (D, tupObj (pieceAt (Int.fmod x 7), lg, wd) t' t1 t2) mk
  clear o3
  walk_at "steps"
  (rename Fr _ _ _ _ => F'); (rename News _ _ _ _ => N')
  exact hQ _ _ _ _ _ F' rfl rfl rfl rfl rfl N' (by assumption)
inductive IntAt (ns : List Int) (i : Nat) (v : Value) : Prop
  | mk (k : Int) (t : Tok) (e : ns[i]? = some k) (h : v = .int k t) : IntAt ns i v
theorem IntsAre.item {vs : List Value} {ns : List Int} (h : IntsAre vs ns) {i : Nat} {v : Value} (hv : vs[i]? = some v) : IntAt ns i v := by
  induction h generalizing i with
  | nil => simp at hv
  | cons n t h ih =>
    cases i with
    | zero => simp at hv; exact ⟨n, t, by simp, hv.symm⟩
    | succ i => (obtain ⟨k, u, e, h⟩ := ih (by simpa using hv); exact ⟨k, u, e, h⟩)

noncomputable def zeros (r : Row) (ks : List Int) : List Dat := (ks.filter fun k => decide (k = 0)).map fun _ => rowD r
noncomputable def ones (r : Row) (ks : List Int) : List Dat := (ks.filter fun k => decide (k ≠ 0)).map fun _ => rowD r
theorem OwnOff.app {l l' : List (Addr × Obj)} {adr : List Addr} (h1 : OwnOff l adr) (h2 : OwnOff l' adr) : OwnOff (l ++ l') adr := fun p hp b hb =>
  (List.mem_append.mp hp).elim (fun h => h1 p h b hb) fun h => h2 p h b hb
theorem OwnOff.mem {l : List (Addr × Obj)} {adr adr' : List Addr} (h : OwnOff l adr) (hs : ∀ b ∈ adr', b ∈ adr) : OwnOff l adr' := fun p hp b hb => h p hp b (hs b hb)

theorem know_eq {m : Str → Option Value} {x : Str} {v : Value} (e : m x = some v) : (fun y => if y = x then some v else m y) = m := by
  funext y
  by_cases hy : y = x
  · rw [if_pos hy, hy, e]
  · rw [if_neg hy]
theorem know5 {m : Str → Option Value} {x1 x2 x3 x4 x5 : Str} {v1 v2 v3 v4 v5 : Value} (e1 : m x1 = some v1) (e2 : m x2 = some v2) (e3 : m x3 = some v3) (e4 : m x4 = some v4) (e5 : m x5 = some v5) :
    (fun y => if y = x1 then some v1 else if y = x2 then some v2 else if y = x3 then some v3 else if y = x4 then some v4 else if y = x5 then some v5 else m y) = m := by
  funext y
  by_cases h1 : y = x1
  · rw [if_pos h1, h1, e1]
  · rw [if_neg h1]
    by_cases h2 : y = x2
    · rw [if_pos h2, h2, e2]
    · rw [if_neg h2]
      by_cases h3 : y = x3
      · rw [if_pos h3, h3, e3]
      · rw [if_neg h3]
        by_cases h4 : y = x4
        · rw [if_pos h4, h4, e4]
        · rw [if_neg h4]
          by_cases h5 : y = x5
          · rw [if_pos h5, h5, e5]
          · rw [if_neg h5]
inductive SideJ (tl₀ : List (Addr × Obj)) (lp lt l0 l1 : Addr) (pvs : List Value) (D0 D1 : List Dat) (x : Int) (lg wd : Str) (t t1 t2 : Tok) (ks : List Int) (i : Nat) (m : Str → Option Value) (nx : List (Addr × Obj)) : Prop
  | mk (m1 : m (S "pieces") = some (.ref lp)) (m2 : m (S "tables") = some (.ref lt)) (m3 : m (S "word") = some (.str wd t2)) (m4 : m (S "login") = some (.str lg t1)) (m5 : m (S "x") = some (.int x t)) (its0 its1 : Array Value) (n0 n1 : Nat) (new : List (Addr × Obj)) (e : nx = cells4 lp lt l0 l1 pvs its0 its1 n0 n1 (new ++ tl₀)) (e0 : DatAll (new ++ tl₀) its0.toList (D0 ++ zeros (pieceAt (Int.fmod x 7), lg, wd) (ks.take i))) (e1 : DatAll (new ++ tl₀) its1.toList (D1 ++ ones (pieceAt (Int.fmod x 7), lg, wd) (ks.take i))) (off : OwnOff new [lp, lt, l0, l1]) (ht : OwnOff tl₀ (new.map (·.1))) : SideJ tl₀ lp lt l0 l1 pvs D0 D1 x lg wd t t1 t2 ks i m nx
theorem zeros_len (r : Row) (ks : List Int) : (zeros r ks).length ≤ ks.length := by unfold zeros; rw [List.length_map]; exact List.length_filter_le _ _
theorem ones_len (r : Row) (ks : List Int) : (ones r ks).length ≤ ks.length := by unfold ones; rw [List.length_map]; exact List.length_filter_le _ _
theorem zeros_snoc (r : Row) (ks : List Int) : zeros r (ks ++ [0]) = zeros r ks ++ [rowD r] ∧ ones r (ks ++ [0]) = ones r ks := by
  unfold zeros ones; rw [List.filter_append, List.filter_append, List.map_append, List.map_append]; exact ⟨rfl, List.append_nil _⟩
theorem ones_snoc (r : Row) (ks : List Int) : zeros r (ks ++ [1]) = zeros r ks ∧ ones r (ks ++ [1]) = ones r ks ++ [rowD r] := by
  unfold zeros ones; rw [List.filter_append, List.filter_append, List.map_append, List.map_append]; exact ⟨List.append_nil _, rfl⟩
theorem dat_size {news : List (Addr × Obj)} {its : Array Value} {D E : List Dat} {i : Nat} (h : DatAll news its.toList (D ++ E)) (h1 : D.length ≤ 900) (h2 : E.length ≤ i) (h3 : i ≤ 2) : its.size ≤ 1000 := by
  have := h.length
  rw [List.length_append, Array.length_toList] at this
  lia
theorem OwnOff.cells {own tl : List (Addr × Obj)} {lp lt l0 l1 : Addr} {pvs pvs' : List Value} {its0 its1 its0' its1' : Array Value} {n0 n1 n0' n1' : Nat} {tl' : List (Addr × Obj)} (h : OwnOff own ((cells4 lp lt l0 l1 pvs its0 its1 n0 n1 tl).map (·.1))) (ht : OwnOff own (tl'.map (·.1))) :
    OwnOff own ((cells4 lp lt l0 l1 pvs' its0' its1' n0' n1' tl').map (·.1)) := fun p hp => List.forall_mem_cons.mpr ⟨h p hp _ (.head _), List.forall_mem_cons.mpr ⟨h p hp _ (.tail _ (.head _)), List.forall_mem_cons.mpr ⟨h p hp _ (.tail _ (.tail _ (.head _))), List.forall_mem_cons.mpr ⟨h p hp _ (.tail _ (.tail _ (.tail _ (.head _)))), ht p hp⟩⟩⟩⟩
theorem OwnOff.front {own tl : List (Addr × Obj)} {lp lt l0 l1 : Addr} {pvs : List Value} {its0 its1 : Array Value} {n0 n1 : Nat} (h : OwnOff own ((cells4 lp lt l0 l1 pvs its0 its1 n0 n1 tl).map (·.1))) : OwnOff own [lp, lt, l0, l1] ∧ OwnOff own (tl.map (·.1)) :=
  ⟨fun p hp => List.forall_mem_cons.mpr ⟨h p hp _ (.head _), List.forall_mem_cons.mpr ⟨h p hp _ (.tail _ (.head _)), List.forall_mem_cons.mpr ⟨h p hp _ (.tail _ (.tail _ (.head _))), List.forall_mem_cons.mpr ⟨h p hp _ (.tail _ (.tail _ (.tail _ (.head _)))), List.forall_mem_nil _⟩⟩⟩⟩, fun p hp b hb => h p hp b (.tail _ (.tail _ (.tail _ (.tail _ hb))))⟩
theorem side_loop {w : World} {A : Around} {Q : Flow → Shared → Prop} {base h : Heap} {g : Array GenState} {d : Drawn} {os : OsState} {tk t : Tok} {L lp lt l0 l1 li : Addr} {tl : List (Addr × Obj)} {its0 its1 iv : Array Value} {n0 n1 : Nat} {x : Int} {t1 t2 : Tok} {lg wd : Str} {mg mb m : Str → Option Value} {pvs : List Value} {D0 D1 : List Dat} {ks : List Int} {E : Value → Shared → Prop}
   (hh : A.handled = none) (hoff : OwnOff tl [lp, lt, l0, l1])
   (X : (hd.heap_39 w.params).In base) (T : TopRead hd.view_39 loose mg mb base) (nd : NdA [lp, lt, l0, l1]) (hp : StrsAre pvs piecesL) (hks : ∀ k ∈ ks, k = 0 ∨ k = 1) (hk2 : ks.length ≤ 2)
   (hm : m (S "pieces") = some (.ref lp) ∧ m (S "tables") = some (.ref lt) ∧ m (S "word") = some (.str wd t2) ∧ m (S "login") = some (.str lg t1) ∧ m (S "x") = some (.int x t))
   (F : Fr base L h m) (N : News base L h (cells4 lp lt l0 l1 pvs its0 its1 n0 n1 tl)) (hli : (li, W.listOf iv 0) ∈ tl)
   (hi : IntsAre iv.toList ks) (h0 : DatAll tl its0.toList D0) (h1 : DatAll tl its1.toList D1) (hl0 : D0.length ≤ 900) (hl1 : D1.length ≤ 900)
   (hQ : ∀ h' tk' m' its0 its1 n0 n1 new, Fr base L h' m' → m' (S "pieces") = some (.ref lp) → m' (S "tables") = some (.ref lt) → News base L h' (cells4 lp lt l0 l1 pvs its0 its1 n0 n1 (new ++ tl)) →
      DatAll (new ++ tl) its0.toList (D0 ++ zeros (pieceAt (Int.fmod x 7), lg, wd) ks) → DatAll (new ++ tl) its1.toList (D1 ++ ones (pieceAt (Int.fmod x 7), lg, wd) ks) → OwnOff new [lp, lt, l0, l1] → OwnOff tl (new.map (·.1)) → Q .next ⟨h', g, d, tk', os⟩)
   : wpAny (model prg w) A (pyIter (.ref li)) (fun it s₂ => codeAny (model prg w) A (.forLoop (.Name (S "side") ⟨133, 12, 133, 16⟩) it sideBody [] (tabEnv L)) (fun r s' => match r with | .ok f => Q f s' | .error e => cameBackBy (model prg w) A (tabEnv L) E e s') s₂) E ⟨h, g, d, tk, os⟩ := by
  have hli' : (li, W.listOf iv 0) ∈ cells4 lp lt l0 l1 pvs its0 its1 n0 n1 tl := .tail _ (.tail _ (.tail _ (.tail _ hli)))
  refine iter_list (SideJ tl lp lt l0 l1 pvs D0 D1 x lg wd t t1 t2 ks) hh ⟨_, (N _ hli').1, rfl, _, rfl⟩ (N _ hli').2.1 (.inr ⟨W.listOf iv 0, fun i m nx hJ => ?_⟩) (fun _ _ _ _ _ _ _ hq => wpAny_pure hq) F N ⟨hm.1, hm.2.1, hm.2.2.1, hm.2.2.2.1, hm.2.2.2.2, its0, its1, n0, n1, [], rfl, (List.append_nil D0).symm ▸ h0, (List.append_nil D1).symm ▸ h1, (fun _ hp => nomatch hp), fun _ _ _ hb => nomatch hb⟩ ?_ ?_
  · obtain ⟨_, _, _, _, _, _, _, _, _, new, rfl, _⟩ := hJ
    exact .tail _ (.tail _ (.tail _ (.tail _ (List.mem_append_right _ hli))))
  · intro i v m₁ nx h tk own hv hJ ho F₁ N₁
    obtain ⟨m1, m2, m3, m4, m5, its0, its1, n0, n1, new, rfl, e0, e1, hoffn, htl⟩ := hJ
    obtain ⟨k, tk', hk, rfl⟩ := IntsAre.item hi ((Array.getElem?_toList ..).trans hv)
    have hkm := hks k (List.mem_of_getElem? hk)
    refine wpAny_assign_Name (stN F₁ N₁ (fun h' F₂ N₂ => ?_) (by rfl) (by rfl))
    have hi2 : (ks.take i).length ≤ 2 := Nat.le_trans (List.length_take_le' i ks) hk2
    have s0 := dat_size e0 hl0 (zeros_len _ _) hi2
    have s1 := dat_size e1 hl1 (ones_len _ _) hi2
    obtain ⟨ho4, hot⟩ := OwnOff.front ho
    have ho2 : OwnOff ((new ++ tl) ++ own) [lp, lt, l0, l1] := OwnOff.app (OwnOff.app hoffn hoff) ho4
    have hfn : (fun y => if y = S "word" then some (Value.str wd t2) else if y = S "login" then some (.str lg t1) else if y = S "x" then some (.int x t) else if y = S "pieces" then some (.ref lp) else if y = S "tables" then some (.ref lt) else m₁ y) = m₁ := know5 m3 m4 m5 m1 m2
    have hF : ∀ v : Option Value, _ := fun v => (congrArg (fun f : Str → Option Value => Fr base L h' fun y => if y = S "side" then v else f y) hfn).symm
    have htk : ks.take (i + 1) = ks.take i ++ [k] := by rw [List.take_add_one, hk]; rfl
    have fin : ∀ {h' tk' m' D t' its0' its1' n0' n1'}, Fr base L h' m' → m' (S "pieces") = some (.ref lp) → m' (S "tables") = some (.ref lt) → m' (S "word") = some (.str wd t2) → m' (S "login") = some (.str lg t1) → m' (S "x") = some (.int x t) →
        News base L h' ((D, tupObj (pieceAt (Int.fmod x 7), lg, wd) t' t1 t2) :: cells4 lp lt l0 l1 pvs its0' its1' n0' n1' ((new ++ tl) ++ own)) → (∀ p ∈ cells4 lp lt l0 l1 pvs its0 its1 n0 n1 ((new ++ tl) ++ own), p.1 < D) →
        (DatAll (((D, tupObj (pieceAt (Int.fmod x 7), lg, wd) t' t1 t2) :: new) ++ tl) its0'.toList (D0 ++ zeros (pieceAt (Int.fmod x 7), lg, wd) (ks.take i ++ [k]))) →
        (DatAll (((D, tupObj (pieceAt (Int.fmod x 7), lg, wd) t' t1 t2) :: new) ++ tl) its1'.toList (D1 ++ ones (pieceAt (Int.fmod x 7), lg, wd) (ks.take i ++ [k]))) →
        TurnEnd base L (fun m' nx' => SideJ tl lp lt l0 l1 pvs D0 D1 x lg wd t t1 t2 ks (i + 1) m' nx' ∧ OwnOff own (nx'.map (·.1))) own ⟨h, g, d, tk, os⟩ Q .next ⟨h', g, d, tk', os⟩ := by
      intro h' tk' m' D t' its0' its1' n0' n1' F' m1 m2 m3 m4 m5 N' lD f0 f1
      have ltn : ∀ p ∈ (new ++ tl) ++ own, p.1 < D := fun p hp => lD p (.tail _ (.tail _ (.tail _ (.tail _ hp))))
      refine TurnEnd.mk (nx := cells4 lp lt l0 l1 pvs its0' its1' n0' n1' (((D, tupObj (pieceAt (Int.fmod x 7), lg, wd) t' t1 t2) :: new) ++ tl)) F' N' ?_ (fun p hp => .tail _ (.tail _ (.tail _ (.tail _ (.tail _ (List.mem_append_right _ hp)))))) ⟨⟨m1, m2, m3, m4, m5, _, _, _, _, _, rfl, htk ▸ f0, htk ▸ f1, ?_, ?_⟩, OwnOff.cells ho ?_⟩
      · refine List.forall_mem_cons.mpr ⟨.tail _ (.head _), List.forall_mem_cons.mpr ⟨.tail _ (.tail _ (.head _)), List.forall_mem_cons.mpr ⟨.tail _ (.tail _ (.tail _ (.head _))), List.forall_mem_cons.mpr ⟨.tail _ (.tail _ (.tail _ (.tail _ (.head _)))), List.forall_mem_cons.mpr ⟨.head _, fun p hp => .tail _ (.tail _ (.tail _ (.tail _ (.tail _ (List.mem_append_left _ hp)))))⟩⟩⟩⟩⟩
      · exact OwnOff.cons (List.forall_mem_cons.mpr ⟨Nat.ne_of_gt (lD _ (.head _)), List.forall_mem_cons.mpr ⟨Nat.ne_of_gt (lD _ (.tail _ (.head _))), List.forall_mem_cons.mpr ⟨Nat.ne_of_gt (lD _ (.tail _ (.tail _ (.head _)))), List.forall_mem_cons.mpr ⟨Nat.ne_of_gt (lD _ (.tail _ (.tail _ (.tail _ (.head _))))), List.forall_mem_nil _⟩⟩⟩⟩) hoffn
      · exact fun p hp => List.forall_mem_cons.mpr ⟨Nat.ne_of_lt (ltn p (List.mem_append_left _ (List.mem_append_right _ hp))), htl p hp⟩
      · exact fun p hp => List.forall_mem_cons.mpr ⟨Nat.ne_of_lt (ltn p (List.mem_append_right _ hp)), hot p hp⟩
    have up : ∀ {D o} {vs : List Value} {ds}, DatAll (new ++ tl) vs ds → DatAll (((D, o) :: new) ++ tl) vs ds := fun q => DatAll.mono (fun _ h => .tail _ h) q
    rcases hkm with rfl | rfl
    · refine side_turn (kn := 0) (lk := l0) (f := fun o => (lp, W.listOf pvs.toArray 0) :: (lt, W.listOf #[.ref l0, .ref l1] 0) :: (l0, o) :: (l1, W.listOf its1 n1) :: ((new ++ tl) ++ own)) X T hp (by decide) rfl (t3 := tk') (m := m₁) (Eq.mp (hF _) F₂) N₂ (.head _) (.tail _ (.head _)) (.tail _ (.tail _ (.head _)))
        (fun o' => .tail (nd.gt (.tail _ (.head _))) (.tail (nd.2.gt (.head _)) (.head (List.forall_mem_cons.mpr ⟨(nd.2.2.gt (.head _)).symm, fun p hp => ho2 p hp _ (.tail _ (.tail _ (.head _)))⟩)))) s0 (fun h' tk' m' D t' F' m1 m2 m3 m4 m5 N' lD => fin F' m1 m2 m3 m4 m5 N' lD ?_ ?_)
      · rw [(zeros_snoc _ _).1, Array.toList_push, ← List.append_assoc]
        exact DatAll.append (up e0) (DatAll.one (tupIn (.head _)))
      · rw [(zeros_snoc _ _).2]
        exact up e1
    · refine side_turn (kn := 1) (lk := l1) (f := fun o => (lp, W.listOf pvs.toArray 0) :: (lt, W.listOf #[.ref l0, .ref l1] 0) :: (l0, W.listOf its0 n0) :: (l1, o) :: ((new ++ tl) ++ own)) X T hp (by decide) rfl (t3 := tk') (m := m₁) (Eq.mp (hF _) F₂) N₂ (.head _) (.tail _ (.head _)) (.tail _ (.tail _ (.tail _ (.head _))))
        (fun o' => .tail (nd.gt (.tail _ (.tail _ (.head _)))) (.tail (nd.2.gt (.tail _ (.head _))) (.tail (nd.2.2.gt (.head _)) (.head (fun p hp => ho2 p hp _ (.tail _ (.tail _ (.tail _ (.head _))))))))) s1 (fun h' tk' m' D t' F' m1 m2 m3 m4 m5 N' lD => fin F' m1 m2 m3 m4 m5 N' lD ?_ ?_)
      · rw [(ones_snoc _ _).1]
        exact up e0
      · rw [(ones_snoc _ _).2, Array.toList_push, ← List.append_assoc]
        exact DatAll.append (up e1) (DatAll.one (tupIn (.head _)))
  · intro m₁ nx h tk hJ F₁ N₁
    obtain ⟨m1, m2, m3, m4, m5, its0, its1, n0, n1, new, rfl, e0, e1, hoffn, htl⟩ := hJ
    have e : iv.size = ks.length := by rw [← Array.length_toList]; exact hi.length
    rw [e, List.take_length] at e0 e1
    exact hQ h tk m₁ its0 its1 n0 n1 new F₁ m1 m2 N₁ e0 e1 hoffn htl
end Mine
end
section
open PySem PySem.W PyProof.Rows PySem.Calls
set_option maxRecDepth 100000
namespace Mine


theorem side3 (x : Int) : sideOf x = ((0 : Nat) : Int) ∨ sideOf x = ((1 : Nat) : Int) ∨ sideOf x = ((2 : Nat) : Int) := by
  have := fmod_lt (Int.fdiv x 1029) (n := 3) (by lia)
  unfold sideOf
  lia
noncomputable def sideKs (x : Int) : List Int := if sideOf x = 0 then [0] else if sideOf x = 1 then [1] else [0, 1]
theorem leftOf_snoc (l : List Int) (x : Int) : leftOf (l ++ [x]) = leftOf l ++ (if sideOf x ≠ 1 then [rowOf x] else []) := by
  unfold leftOf
  rw [List.filter_append, List.map_append]
  congr 1
  by_cases h : sideOf x = 1 <;> simp [h]
theorem rightOf_snoc (l : List Int) (x : Int) : rightOf (l ++ [x]) = rightOf l ++ (if sideOf x ≠ 0 then [rowOf x] else []) := by
  unfold rightOf
  rw [List.filter_append, List.map_append]
  congr 1
  by_cases h : sideOf x = 0 <;> simp [h]
theorem leftOf_len (l : List Int) : (leftOf l).length ≤ l.length := by unfold leftOf; rw [List.length_map]; exact List.length_filter_le _ _
theorem rightOf_len (l : List Int) : (rightOf l).length ≤ l.length := by unfold rightOf; rw [List.length_map]; exact List.length_filter_le _ _
noncomputable def lastL (r : Row) (x : Int) : List Dat := if sideOf x ≠ 1 then [rowD r] else []
noncomputable def lastR (r : Row) (x : Int) : List Dat := if sideOf x ≠ 0 then [rowD r] else []


noncomputable abbrev sideFor : Stmt := ((forBody (stmtsAt 10)[2]?)[2]?).getD (.Pass ⟨0, 0, 0, 0⟩)

theorem ks_zeros (r : Row) (x : Int) : zeros r (sideKs x) = lastL r x ∧ ones r (sideKs x) = lastR r x := by
  unfold sideKs lastL lastR
  rcases side3 x with h | h | h <;> rw [h] <;> exact ⟨rfl, rfl⟩
theorem ks_ok (x : Int) : (∀ k ∈ sideKs x, k = 0 ∨ k = 1) ∧ (sideKs x).length ≤ 2 := by
  unfold sideKs
  rcases side3 x with h | h | h <;> rw [h] <;> decide
theorem fresh4 {a lp lt l0 l1 : Addr} {pvs : List Value} {its0 its1 : Array Value} {n0 n1 : Nat} {tl news : List (Addr × Obj)} (l : ∀ p ∈ news, p.1 < a) (hm : ∀ q ∈ cells4 lp lt l0 l1 pvs its0 its1 n0 n1 tl, q ∈ news) : (∀ b ∈ [lp, lt, l0, l1], a ≠ b) ∧ ∀ p ∈ tl, p.1 ≠ a :=
  ⟨List.forall_mem_cons.mpr ⟨Nat.ne_of_gt (l _ (hm _ (.head _))), List.forall_mem_cons.mpr ⟨Nat.ne_of_gt (l _ (hm _ (.tail _ (.head _)))), List.forall_mem_cons.mpr ⟨Nat.ne_of_gt (l _ (hm _ (.tail _ (.tail _ (.head _))))), List.forall_mem_cons.mpr ⟨Nat.ne_of_gt (l _ (hm _ (.tail _ (.tail _ (.tail _ (.head _)))))), List.forall_mem_nil _⟩⟩⟩⟩,
   fun p hp => Nat.ne_of_lt (l p (hm p (.tail _ (.tail _ (.tail _ (.tail _ hp))))))⟩
theorem side_end {base h : Heap} {L : Addr} {lp lt l0 l1 : Addr} {pvs : List Value} {its0 its1 : Array Value} {n0 n1 : Nat} {new tl : List (Addr × Obj)} {o1 o2 o3 o4 : Addr × Obj} {P : List (Addr × Obj) → Prop}
    (N : News base L h (cells4 lp lt l0 l1 pvs its0 its1 n0 n1 (new ++ (o4 :: o3 :: o2 :: o1 :: tl)))) (hn : OwnOff new [lp, lt, l0, l1]) (ht : OwnOff (o4 :: o3 :: o2 :: o1 :: tl) (new.map (·.1)))
    (f1 : (∀ b ∈ [lp, lt, l0, l1], o1.1 ≠ b) ∧ ∀ p ∈ tl, p.1 ≠ o1.1) (f2 : (∀ b ∈ [lp, lt, l0, l1], o2.1 ≠ b) ∧ ∀ p ∈ tl, p.1 ≠ o2.1) (f3 : (∀ b ∈ [lp, lt, l0, l1], o3.1 ≠ b) ∧ ∀ p ∈ tl, p.1 ≠ o3.1) (f4 : (∀ b ∈ [lp, lt, l0, l1], o4.1 ≠ b) ∧ ∀ p ∈ tl, p.1 ≠ o4.1)
    (hP : P (new ++ (o4 :: o3 :: o2 :: o1 :: tl))) : ∃ new', News base L h (cells4 lp lt l0 l1 pvs its0 its1 n0 n1 (new' ++ tl)) ∧ P (new' ++ tl) ∧ OwnOff new' [lp, lt, l0, l1] ∧ OwnOff tl (new'.map (·.1)) := by
  have e : new ++ (o4 :: o3 :: o2 :: o1 :: tl) = (new ++ [o4, o3, o2, o1]) ++ tl := (List.append_assoc new [o4, o3, o2, o1] tl).symm
  refine ⟨new ++ [o4, o3, o2, o1], e ▸ N, e ▸ hP, OwnOff.app hn (OwnOff.cons f4.1 (OwnOff.cons f3.1 (OwnOff.cons f2.1 (OwnOff.cons f1.1 fun _ hp => nomatch hp)))), fun p hp b hb => ?_⟩
  rw [List.map_append] at hb
  exact (List.mem_append.mp hb).elim (ht p (.tail _ (.tail _ (.tail _ (.tail _ hp)))) b) fun h => (List.forall_mem_cons.mpr ⟨f4.2 p hp, List.forall_mem_cons.mpr ⟨f3.2 p hp, List.forall_mem_cons.mpr ⟨f2.2 p hp, List.forall_mem_cons.mpr ⟨f1.2 p hp, List.forall_mem_nil _⟩⟩⟩⟩ : ∀ b ∈ [o4.1, o3.1, o2.1, o1.1], p.1 ≠ b) b h
theorem side_item {x : Int} {a0 a1 a2 lo : Addr} {o : Obj} {u0 u1 u2 u3 : Tok} {tl : List (Addr × Obj)} :
    ∃ kn li iv, sideOf x = ((kn : Nat) : Int) ∧ kn < 1000 ∧ ([.ref a0, .ref a1, .ref a2] : List Value)[kn]? = some (.ref li) ∧ (li, W.listOf iv 0) ∈ (lo, o) :: (a2, W.listOf #[.int 0 u2, .int 1 u3] 0) :: (a1, W.listOf #[.int 1 u1] 0) :: (a0, W.listOf #[.int 0 u0] 0) :: tl ∧ IntsAre iv.toList (sideKs x) := by
  unfold sideKs
  rcases side3 x with h | h | h <;> rw [h]
  · exact ⟨0, a0, _, rfl, by decide, rfl, by k_mem, .cons _ _ .nil⟩
  · exact ⟨1, a1, _, rfl, by decide, rfl, by k_mem, .cons _ _ .nil⟩
  · exact ⟨2, a2, _, rfl, by decide, rfl, by k_mem, .cons _ _ (.cons _ _ .nil)⟩
set_option maxHeartbeats 400000 in
theorem side_for {st : Stmt} (hst : sideFor = st) {w : World} {A : Around} {Q : Flow → Shared → Prop} {base h : Heap} {g : Array GenState} {d : Drawn} {os : OsState} {tk t t1 t2 : Tok} {L lp lt l0 l1 : Addr} {tl : List (Addr × Obj)} {its0 its1 : Array Value} {n0 n1 : Nat} {x : Int} {lg wd : Str} {mg mb m : Str → Option Value} {pvs : List Value} {D0 D1 : List Dat}
   (hh : A.handled = none) (hoff : OwnOff tl [lp, lt, l0, l1])
   (X : (hd.heap_39 w.params).In base) (T : TopRead hd.view_39 loose mg mb base) (nd : NdA [lp, lt, l0, l1]) (hp : StrsAre pvs piecesL)
   (F : Fr base L h (fun y => if y = S "word" then some (.str wd t2) else if y = S "login" then some (.str lg t1) else if y = S "x" then some (.int x t) else if y = S "pieces" then some (.ref lp) else if y = S "tables" then some (.ref lt) else m y))
   (N : News base L h (cells4 lp lt l0 l1 pvs its0 its1 n0 n1 tl))
   (h0 : DatAll tl its0.toList D0) (h1 : DatAll tl its1.toList D1) (hl0 : D0.length ≤ 900) (hl1 : D1.length ≤ 900)
   (hQ : ∀ h' tk' m' its0 its1 n0 n1 new, Fr base L h' m' → m' (S "pieces") = some (.ref lp) → m' (S "tables") = some (.ref lt) → News base L h' (cells4 lp lt l0 l1 pvs its0 its1 n0 n1 (new ++ tl)) →
      DatAll (new ++ tl) its0.toList (D0 ++ lastL (pieceAt (Int.fmod x 7), lg, wd) x) → DatAll (new ++ tl) its1.toList (D1 ++ lastR (pieceAt (Int.fmod x 7), lg, wd) x) → OwnOff new [lp, lt, l0, l1] → OwnOff tl (new.map (·.1)) → Q .next ⟨h', g, d, tk', os⟩)
   : wpAny (model prg w) A (exec st (tabEnv L)) Q NoE ⟨h, g, d, tk, os⟩ := by
  have o1 : On "subscriptTail" := ⟨⟩
  have o2 : On "pyIter ref" := ⟨⟩
  have o3 : On "raw" := ⟨⟩
  rw [← hst]
  clear hst
  have e : sideFor = sideFor := rfl
  conv at e => rhs; whnf
  rw [e]
  clear e
  refine wpAny_For ?_ (by intro _; rfl)
  walk_at "steps"
  refine Hold.mk ?_
  (try dsimp only)
  (rename Fr _ _ _ _ => F'); (rename News _ _ _ _ => N')
  rename_i a0 _ f0 a1 _ f1 a2 _ f2 lo _ f3
  have f0' := fresh4 f0 (fun q h => h)
  have f1' := fresh4 f1 (fun q h => .tail _ h)
  have f2' := fresh4 f2 (fun q h => .tail _ (.tail _ h))
  have f3' := fresh4 f3 (fun q h => .tail _ (.tail _ (.tail _ h)))
  refine Classical.byContradiction fun hn1 => ?_
  obtain ⟨kn, li, iv, e1, e2, e3, e4, e5⟩ := side_item (x := x)
  refine hn1 ?_
  refine item_lit (News.isList N' (.head _)) e1 e2 e3 ?_ (by with_unfolding_all rfl)
  walk_at "steps"
  refine Hold.mk ?_
  (try dsimp only)
  have up : ∀ {vs : List Value} {ds : List Dat}, DatAll tl vs ds → ∀ {a b c d : Addr × Obj}, DatAll (a :: b :: c :: d :: tl) vs ds := fun q => DatAll.mono (fun _ h => .tail _ (.tail _ (.tail _ (.tail _ h)))) q
  refine side_loop (ks := sideKs x) (tl := _ :: _ :: _ :: _ :: tl) (its0 := its0) (its1 := its1) (n0 := n0) (n1 := n1) hh (OwnOff.cons f3'.1 (OwnOff.cons f2'.1 (OwnOff.cons f1'.1 (OwnOff.cons f0'.1 hoff)))) X T nd hp (ks_ok x).1 (ks_ok x).2 ⟨rfl, rfl, rfl, rfl, rfl⟩ F' (News.sub N' ?_) e4 e5 (up h0) (up h1) hl0 hl1 ?_
  · exact List.forall_mem_cons.mpr ⟨by k_mem, List.forall_mem_cons.mpr ⟨by k_mem, List.forall_mem_cons.mpr ⟨by k_mem, List.forall_mem_cons.mpr ⟨by k_mem, List.forall_mem_cons.mpr ⟨by k_mem, List.forall_mem_cons.mpr ⟨by k_mem, List.forall_mem_cons.mpr ⟨by k_mem, List.forall_mem_cons.mpr ⟨by k_mem, fun _ h => .tail _ (.tail _ (.tail _ (.tail _ (.tail _ (.tail _ (.tail _ (.tail _ h)))))))⟩⟩⟩⟩⟩⟩⟩⟩
  · intro h' tk' m' its0 its1 n0 n1 new F m1 m2 N h0 h1 hn ht
    rw [(ks_zeros _ _).1] at h0
    rw [(ks_zeros _ _).2] at h1
    refine Classical.byContradiction fun hn2 => ?_
    obtain ⟨new', N, ⟨h0, h1⟩, hn, ht⟩ := side_end (P := fun l => DatAll l _ _ ∧ DatAll l _ _) N hn ht f0' f1' f2' f3' ⟨h0, h1⟩
    refine hn2 ?_
    exact hQ h' tk' m' its0 its1 n0 n1 new' F m1 m2 N h0 h1 hn ht
end Mine
end
section
open PySem PySem.W PyProof.Rows PySem.Calls
set_option maxRecDepth 100000
namespace Mine

theorem Exec_hold {M : Model} {A : Around} {E : Value → Shared → Prop} {s : Shared} {env : Env} {st : Stmt} {Q : Flow → Shared → Prop}
    (h : Hold (wpAny M A (exec st env) Q E s)) : wpAny M A (exec st env) Q E s := h.out

theorem rowOf_eq (x : Int) {lg wd : Str} (h1 : lg = if Int.fmod (Int.fdiv x 49) 3 = 0 then S "" else pieceAt (Int.fmod (Int.fdiv x 7) 7)) (h2 : wd = if Int.fmod (Int.fdiv x 49) 3 = 1 then S "" else pieceAt (Int.fmod (Int.fdiv x 147) 7)) :
    (pieceAt (Int.fmod x 7), lg, wd) = rowOf x := by rw [h1, h2]; rfl

noncomputable def tabS (i : Nat) : Stmt := ((forBody (stmtsAt 10)[2]?)[i]?).getD (.Pass ⟨0, 0, 0, 0⟩)
theorem tabBody_eq : tabBody = [tabS 0, tabS 1, sideFor] := by kernel_rfl
set_option maxHeartbeats 1000000 in
theorem tab_turn {w : World} {A : Around} {Q : Flow → Shared → Prop} {base h : Heap} {g : Array GenState} {d : Drawn} {os : OsState} {tk t : Tok} {L lp lt l0 l1 : Addr} {tl : List (Addr × Obj)} {its0 its1 : Array Value} {n0 n1 : Nat} {x : Int} {mg mb m : Str → Option Value} {pvs : List Value} {D0 D1 : List Dat}
   (hh : A.handled = none) (hoff : OwnOff tl [lp, lt, l0, l1])
   (X : (hd.heap_39 w.params).In base) (T : TopRead hd.view_39 loose mg mb base) (nd : NdA [lp, lt, l0, l1]) (hp : StrsAre pvs piecesL)
   (F : Fr base L h (fun y => if y = S "x" then some (.int x t) else if y = S "pieces" then some (.ref lp) else if y = S "tables" then some (.ref lt) else m y))
   (N : News base L h ((lp, W.listOf pvs.toArray 0) :: (lt, W.listOf #[.ref l0, .ref l1] 0) :: (l0, W.listOf its0 n0) :: (l1, W.listOf its1 n1) :: tl))
   (h0 : DatAll tl its0.toList D0) (h1 : DatAll tl its1.toList D1) (hl0 : D0.length ≤ 900) (hl1 : D1.length ≤ 900)
   (hQ : ∀ h' tk' m' its0 its1 n0 n1 new, Fr base L h' m' → m' (S "pieces") = some (.ref lp) → m' (S "tables") = some (.ref lt) → News base L h' ((lp, W.listOf pvs.toArray 0) :: (lt, W.listOf #[.ref l0, .ref l1] 0) :: (l0, W.listOf its0 n0) :: (l1, W.listOf its1 n1) :: (new ++ tl)) →
      DatAll (new ++ tl) its0.toList (D0 ++ lastL (rowOf x) x) → DatAll (new ++ tl) its1.toList (D1 ++ lastR (rowOf x) x) → OwnOff new [lp, lt, l0, l1] → OwnOff tl (new.map (·.1)) → Q .next ⟨h', g, d, tk', os⟩)
   : wpAny (model prg w) A (execs tabBody (tabEnv L)) Q NoE ⟨h, g, d, tk, os⟩ := by
  have o1 : On "exec For Name Subscript cons nil" := ⟨⟩
  have o2 : On "exec For Name BinOp cons nil" := ⟨⟩
  have o3 : On "exec For" := ⟨⟩
  have o4 : On "pyIter ref" := ⟨⟩
  have o5 : On "subscriptTail Name BinOp ref int" := ⟨⟩
  have e : tabBody = tabBody := rfl
  conv at e => rhs; whnf
  rw [e]
  clear e
  walk_at "steps"
  iterate 2 (all_goals try ((with_reducible refine Hold.mk (p := wpAny _ _ (subscriptTail _ _ _ _) _ _ _) ?_); (with_unfolding_all refine' piece_item (News.isList (by k_asm) (by k_mem)) (by assumption) ?_); intro _; walk_at "steps"))
  all_goals (
    refine Hold.mk ?_
    first
    | (exfalso; omega)
    | ((rename Fr _ _ _ _ => F'); (rename News _ _ _ _ => N')
       (try dsimp only at F'); (try dsimp only)
       refine @side_for _ ?_ w A _ base _ g d os _ t _ _ L lp lt l0 l1 tl its0 its1 n0 n1 x _ _ mg mb m pvs D0 D1 hh hoff X T nd hp F' N' h0 h1 hl0 hl1 ?_
       · kernel_rfl
       intro h' tk' m' its0 its1 n0 n1 new F m1 m2 N h0 h1 hn ht
       rw [rowOf_eq x (by simp only [*]; first | rfl | (simp; done)) (by simp only [*]; first | rfl | (simp; done))] at h0 h1
       exact wpAny_execs_nil (hQ h' tk' m' its0 its1 n0 n1 new F m1 m2 N h0 h1 hn ht)))
end Mine
end
section
open PySem PySem.W PyProof.Rows PySem.Calls
set_option maxRecDepth 100000
namespace Mine

noncomputable def drawn (ns : List Int) : List Int := ns.take 5 ++ [2130, 1009, 5, 152, 1092]
theorem nd4 {lp lt l0 l1 : Addr} (h1 : @LT.lt Nat _ lp l0) (h2 : @LT.lt Nat _ l0 l1) (h3 : @LT.lt Nat _ l1 lt) : NdA [lp, lt, l0, l1] :=
  ⟨List.forall_mem_cons.mpr ⟨Nat.ne_of_gt (Nat.lt_trans h1 (Nat.lt_trans h2 h3)), List.forall_mem_cons.mpr ⟨Nat.ne_of_gt h1, List.forall_mem_cons.mpr ⟨Nat.ne_of_gt (Nat.lt_trans h1 h2), List.forall_mem_nil _⟩⟩⟩,
    List.forall_mem_cons.mpr ⟨Nat.ne_of_lt (Nat.lt_trans h2 h3), List.forall_mem_cons.mpr ⟨Nat.ne_of_lt h3, List.forall_mem_nil _⟩⟩, List.forall_mem_cons.mpr ⟨Nat.ne_of_gt h2, List.forall_mem_nil _⟩, List.forall_mem_nil _, trivial⟩
inductive TabsJ (lp lt l0 l1 D : Addr) (o : Obj) (pvs : List Value) (xs : List Int) (i : Nat) (m : Str → Option Value) (nx : List (Addr × Obj)) : Prop
  | mk (m1 : m (S "pieces") = some (.ref lp)) (m2 : m (S "tables") = some (.ref lt)) (its0 its1 : Array Value) (n0 n1 : Nat) (tl : List (Addr × Obj)) (e : nx = cells4 lp lt l0 l1 pvs its0 its1 n0 n1 tl) (hD : (D, o) ∈ tl) (off : OwnOff tl [lp, lt, l0, l1]) (d0 : DatAll tl its0.toList ((leftOf (xs.take i)).map rowD)) (d1 : DatAll tl its1.toList ((rightOf (xs.take i)).map rowD)) : TabsJ lp lt l0 l1 D o pvs xs i m nx
theorem tab_turn' {w : World} {A : Around} {Q : Flow → Shared → Prop} {base h : Heap} {g : Array GenState} {d : Drawn} {os : OsState} {tk t : Tok} {L lp lt l0 l1 : Addr} {tl : List (Addr × Obj)} {its0 its1 : Array Value} {n0 n1 : Nat} {x : Int} {mg mb m : Str → Option Value} {pvs : List Value} {D0 D1 : List Dat} {body : List Stmt} {env : Env}
   (hb : tabBody = body) (he : tabEnv L = env) (hh : A.handled = none) (hoff : OwnOff tl [lp, lt, l0, l1])
   (X : (hd.heap_39 w.params).In base) (T : TopRead hd.view_39 loose mg mb base) (nd : NdA [lp, lt, l0, l1]) (hp : StrsAre pvs piecesL)
   (F : Fr base L h (fun y => if y = S "x" then some (.int x t) else if y = S "pieces" then some (.ref lp) else if y = S "tables" then some (.ref lt) else m y))
   (N : News base L h (cells4 lp lt l0 l1 pvs its0 its1 n0 n1 tl))
   (h0 : DatAll tl its0.toList D0) (h1 : DatAll tl its1.toList D1) (hl0 : D0.length ≤ 900) (hl1 : D1.length ≤ 900)
   (hQ : ∀ h' tk' m' its0 its1 n0 n1 new, Fr base L h' m' → m' (S "pieces") = some (.ref lp) → m' (S "tables") = some (.ref lt) → News base L h' (cells4 lp lt l0 l1 pvs its0 its1 n0 n1 (new ++ tl)) →
      DatAll (new ++ tl) its0.toList (D0 ++ lastL (rowOf x) x) → DatAll (new ++ tl) its1.toList (D1 ++ lastR (rowOf x) x) → OwnOff new [lp, lt, l0, l1] → OwnOff tl (new.map (·.1)) → Q .next ⟨h', g, d, tk', os⟩)
   : wpAny (model prg w) A (execs body env) Q NoE ⟨h, g, d, tk, os⟩ := by
  subst hb he
  exact tab_turn hh hoff X T nd hp F N h0 h1 hl0 hl1 hQ
theorem pieces_of {base h : Heap} {L lp : Addr} {led : List (Addr × Obj)} {t1 t2 t3 t4 t5 t6 t7 : Tok} (_ : News base L h led)
    (hm : (lp, W.listOf #[.str (Str.ofString "a") t1, .str (Str.ofString "login") t2, .str (Str.ofString "b c") t3, .str (Str.ofString "q\"") t4, .str (Str.ofString "\\") t5, .str (Str.ofString "#x") t6, .str (Str.ofString "machine") t7] 0) ∈ led) :
    ∃ pvs, StrsAre pvs piecesL ∧ (lp, W.listOf pvs.toArray 0) ∈ led :=
  ⟨_, .cons _ _ (.cons _ _ (.cons _ _ (.cons _ _ (.cons _ _ (.cons _ _ (.cons _ _ .nil)))))), hm⟩
theorem row_snocL (l : List Int) (x : Int) : (leftOf (l ++ [x])).map rowD = (leftOf l).map rowD ++ lastL (rowOf x) x := by
  rw [leftOf_snoc, List.map_append]; unfold lastL; split <;> rfl
theorem row_snocR (l : List Int) (x : Int) : (rightOf (l ++ [x])).map rowD = (rightOf l).map rowD ++ lastR (rowOf x) x := by
  rw [rightOf_snoc, List.map_append]; unfold lastR; split <;> rfl
theorem take_snoc {xs : List Int} {i : Nat} {x : Int} (h : xs[i]? = some x) : xs.take (i + 1) = xs.take i ++ [x] := by
  rw [List.take_add_one, h]; rfl
theorem IntsAre.len : ∀ {vs : List Value} {ns : List Int}, IntsAre vs ns → vs.length = ns.length
  | _, _, .nil => rfl
  | _, _, .cons _ _ h => by rw [List.length_cons, List.length_cons, IntsAre.len h]
set_option maxHeartbeats 1000000 in
theorem tables_spec {w : World} {A : Around} {s : Shared} {mg mb : Str → Option Value} {l : Addr} {items : Array Value} {ns : List Int} (tp : Tops w mg mb s.heap) (hA : A.depth < recursionLimit) (hh : A.handled = none)
    (hL : s.heap.IsList l items) (hI : IntsAre items.toList ns) (hn : ns.length ≤ 63) :
    Gives w A 93 [.ref l] s (fun v new => DatIn new v (.list [.list ((leftOf (drawn ns)).map rowD), .list ((rightOf (drawn ns)).map rowD)])) := by
  have o1 : On "exec For Name BinOp cons nil" := ⟨⟩
  have o2 : On "exec For" := ⟨⟩
  have o3 : On "pyIter ref" := ⟨⟩
  refine Classical.byContradiction fun hn1 => ?_
  obtain ⟨X, T⟩ := id tp
  refine hn1 ?_
  refine gives_of_frame tp hA (by k_is) (by k_is) (BindsTo.of_eq rfl) (locs rfl) (fun L h₁ hL F => ?_) (by rfl) (by rfl) (by rfl) (by decide)
  have N : News s.heap L h₁ [] := News.nil
  walk_at "steps"
  refine Hold.mk ?_
  refine wpAny_For ?_ (by intro _; rfl)
  walk_at "steps"
  refine Hold.mk ?_
  (rename Fr _ _ _ _ => F'); (rename News _ _ _ _ => N')
  rename_i lp _ _ _ _ l0 _ e1 l1 _ e2 lt _ e3 _ D1 ws1 _ hI1 hC1 hL1 _ lm _ _ D ws h' hI2 lts
  refine Classical.byContradiction fun hn2 => ?_
  obtain ⟨_, _, a3, a4, a5, a6⟩ := lts
  refine hn2 ?_
  (try dsimp only)
  have nd := nd4 e1 e2.1 e3.1
  have hxs : drawn ns = ns.take 5 ++ [2130, 1009, 5, 152, 1092] := rfl
  rw [← hxs] at hI2
  have hxl : (drawn ns).length ≤ 10 := by rw [hxs, List.length_append, List.length_take]; simp only [List.length_cons, List.length_nil]; lia
  have hwl : ws.length = (drawn ns).length := IntsAre.len hI2
  obtain ⟨pvs, hpv, hpe⟩ : ∃ pvs, StrsAre pvs piecesL ∧ News s.heap L h' (cells4 lp lt l0 l1 pvs #[] #[] 0 0 [(D, W.listOf ws.toArray 0)]) := by
    refine Classical.byContradiction fun hn3 => ?_
    obtain ⟨pvs, hpv, hm⟩ := pieces_of N' (lp := lp) (by k_memK)
    refine hn3 ?_
    refine ⟨pvs, hpv, News.sub N' ?_⟩
    refine List.forall_mem_cons.mpr ⟨hm, ?_⟩
    walk_at "mem_all"
  refine iter_list' (TabsJ lp lt l0 l1 D (W.listOf ws.toArray 0) pvs (drawn ns)) hh (items := ws.toArray) (News.isList N' (by k_mem)) ?hlL (.inr ⟨W.listOf ws.toArray 0, ?hwh⟩) ?hgo F' hpe ?h0 ?turn ?done
  case hlL => exact (hpe _ (.tail _ (.tail _ (.tail _ (.tail _ (.head _)))))).2.1
  case hwh => rintro i m nx ⟨_, _, _, _, _, _, tl, rfl, hD, _⟩; exact .tail _ (.tail _ (.tail _ (.tail _ hD)))
  case h0 =>
    refine ⟨rfl, rfl, #[], #[], 0, 0, _, rfl, .head _, ?_, .nil, .nil⟩
    intro p hp
    rw [List.mem_singleton.mp hp]
    exact List.forall_mem_cons.mpr ⟨Nat.ne_of_gt (by assumption), List.forall_mem_cons.mpr ⟨Nat.ne_of_gt (by assumption), List.forall_mem_cons.mpr ⟨Nat.ne_of_gt (by assumption), List.forall_mem_cons.mpr ⟨Nat.ne_of_gt (by assumption), List.forall_mem_nil _⟩⟩⟩⟩
  case hgo =>
    intro I i s' v Q' hv hit hq
    exact wpAny_pure hq
  case turn =>
    rintro i v m₁ nx h tk own hv ⟨m1, m2, its0, its1, n0, n1, tl, rfl, hD, htl, d0, d1⟩ hoff hns F N
    refine Classical.byContradiction fun hn4 => ?_
    obtain ⟨x, tx, hx, rfl⟩ := IntsAre.item hI2 (by simpa using hv)
    refine hn4 ?_
    replace F := Fr.know (Fr.know F m2) (x := S "pieces") (v := .ref lp) (by rw [if_neg (by decide)]; exact m1)
    refine wpAny_assign_Name (stN F N (fun h' F₂ N₂ => ?_) (by rfl) (by rfl))
    have hlen : i < (drawn ns).length := (List.getElem?_eq_some_iff.mp hx).1
    have l0' := leftOf_len ((drawn ns).take i)
    have l1' := rightOf_len ((drawn ns).take i)
    rw [List.length_take] at l0' l1'
    refine @tab_turn' w _ _ s.heap h' _ _ _ _ tx L lp lt l0 l1 (tl ++ own) its0 its1 n0 n1 x mg mb m₁ pvs _ _ _ _ (by kernel_rfl) (by kernel_rfl) hh ?_ X T nd hpv F₂ N₂ (DatAll.mono (fun _ h => List.mem_append_left _ h) d0) (DatAll.mono (fun _ h => List.mem_append_left _ h) d1) (by rw [List.length_map]; lia) (by rw [List.length_map]; lia) ?_
    · exact OwnOff.app htl (OwnOff.front hoff).1
    · intro h' tk' m' its0 its1 n0 n1 new F m1 m2 N h0 h1 hn ht
      have hdrop : ∀ p ∈ new ++ (tl ++ own), (∀ vs n, p.2.data ≠ .seq vs n) ∨ p ∈ new ++ tl := by
        intro p hp
        rw [← List.append_assoc] at hp
        rcases List.mem_append.mp hp with hp | hp
        · exact .inr hp
        · exact .inl (hns p hp)
      refine ⟨h', tk', m', cells4 lp lt l0 l1 pvs its0 its1 n0 n1 (new ++ tl), rfl, F, News.sub N (fun p hp => ?_), ⟨m1, m2, its0, its1, n0, n1, new ++ tl, rfl, List.mem_append_right _ hD, OwnOff.app hn htl, ?_, ?_⟩, ?_⟩
      · rw [show cells4 lp lt l0 l1 pvs its0 its1 n0 n1 (new ++ tl) ++ own = cells4 lp lt l0 l1 pvs its0 its1 n0 n1 (new ++ (tl ++ own)) from congrArg (cells4 lp lt l0 l1 pvs its0 its1 n0 n1) (List.append_assoc new tl own)] at hp; exact hp
      · rw [take_snoc hx, row_snocL]; exact DatAll.drop hdrop h0
      · rw [take_snoc hx, row_snocR]; exact DatAll.drop hdrop h1
      · refine OwnOff.cells hoff fun p hp b hb => ?_
        rw [List.map_append] at hb
        exact (List.mem_append.mp hb).elim (ht p (List.mem_append_right _ hp) b) ((OwnOff.front hoff).2 p hp b)
  case done =>
    rintro m₁ nx h tk ⟨m1, m2, its0, its1, n0, n1, tl, rfl, hD, htl, d0, d1⟩ F N
    replace F := Fr.know F m2
    have e : ws.toArray.size = (drawn ns).length := by simpa using hwl
    rw [e, List.take_length] at d0 d1
    dsimp only
    walk_at "steps"
    refine GivesEnd.mk F N (DatIn.list (vs := [.ref l0, .ref l1]) (.tail _ (.head _)) (.cons (.list (vs := its0.toList) (.tail _ (.tail _ (.head _))) (DatAll.mono ?_ d0)) (.cons (.list (vs := its1.toList) (.tail _ (.tail _ (.tail _ (.head _)))) (DatAll.mono ?_ d1)) .nil)))
    all_goals exact fun _ h => .tail _ (.tail _ (.tail _ (.tail _ h)))
end Mine
end
section
open PySem PySem.W PyProof.Rows PySem.Calls
set_option maxRecDepth 100000
namespace Mine

noncomputable def specials : Str := Str.ofString " \"\\#"
noncomputable def escS (a : Str) : Str := if (!(Builtin.Str.occurrences specials a 0 specials.length 1).isEmpty) = true then S "\\" ++ a else a
noncomputable def quoteW (x : Str) : Str := S "\"" ++ Txt.replace (Txt.replace x (S "\\") (S "\\\\")) (S "\"") (S "\\\"") ++ S "\""
noncomputable def escW (x : Str) : Str := Txt.join (S "") ((signs x).map escS)
noncomputable def seps : List Str := [S " ", S "\t", S "\n", S "\r"]
noncomputable def sepAt (k : Int) : Str := seps.getD (Int.fmod k 4).toNat Str.empty
noncomputable def wordAt (ws : List Str) (k : Int) : Str := ws.getD k.toNat Str.empty
noncomputable def chunkAt (ws : List Str) (k : Int) : Str := if Int.fmod k 3 = 1 then quoteW (wordAt ws k) else escW (wordAt ws k)
noncomputable def textAt (ws : List Str) : Nat → Str
  | 0 => S ""
  | i + 1 => (textAt ws i ++ chunkAt ws (0 + (i : Int))) ++ sepAt (0 + (i : Int))
noncomputable def vocab : List Str := [S "a", S "login", S "b c", S "q\"", S "\\", S "#x", S "machine", S "password"]
theorem vocab_fit : ∀ x ∈ vocab, x.length ≤ 10 ∧ (Txt.replace x (S "\\") (S "\\\\")).length ≤ 10 ∧ (Txt.replace (Txt.replace x (S "\\") (S "\\\\")) (S "\"") (S "\\\"")).length ≤ 10 ∧ (quoteW x).length ≤ 15 ∧ (escW x).length ≤ 15 ∧ (((signs x).map escS).map (·.length)).sum + ((signs x).map escS).length ≤ 30 := by decide +kernel
inductive TextJ (l : Addr) (ws : List Str) (i : Nat) (m : Str → Option Value) (nx : List (Addr × Obj)) : Prop
  | mk (m1 : m (S "words") = some (.ref l)) (m2 : ∃ t, m (S "text") = some (.str (textAt ws i) t)) (e : nx = []) : TextJ l ws i m nx
theorem ListComp_signs1 {prog : Program} {w : World} {A : Around} {E : Value → Shared → Prop} {s : Shared} {h₀ : Heap} {L : Addr} {m : Str → Option Value} {news : List (Addr × Obj)} {env : Env} {elt iter : Expr} {x : Str} {px : Pos} {scope : Scope} {pos : Pos} {Q : Value → Shared → Prop} {d : Str → Str}
    (hh : A.handled = none) (hfree : ∀ y ∈ scope.names, y.2 ≠ .free) (hcell : ∀ y ∈ scope.names, y.2 ≠ .cell) (hkind : scope.kind = .function)
    (hnames : ∀ y ∈ scope.names, y.2 = .local → scope.names.lookup y.1 = some .local) (hx : scope.names.lookup x = some .local)
    (h : wpAny (model prog w) A (eval iter env) (fun xv s₁ => ∃ y t, xv = .str y t ∧ y.length ≤ sizeLine ∧ Fr h₀ L s₁.heap m ∧ News h₀ L s₁.heap news ∧
      (∀ C c u s₂ m₂ E', s₂.heap.Ns (compEnv scope C env).locals m₂ → m₂ x = some (.str ⟨#[c]⟩ u) → wpAny (model prog w) A (eval elt (compEnv scope C env)) (fun r s₃ => Hold ((∃ t, r = .str (d ⟨#[c]⟩) t) ∧ Keeps s₂ s₃)) E' s₂) ∧
      (∀ D (ys : List Value) h' tk, Fr h₀ L h' m → News h₀ L h' news → h'.IsList D ys.toArray → StrsAre ys ((signs y).map d) → Q (.ref D) { s₁ with heap := h', toks := tk })) E s)
    (hs : ∀ x, foldedSetIterable iter env x = pure x) :
    wpAny (model prog w) A (eval (.ListComp elt [⟨.Name x px, iter, [], 0⟩] scope pos) env) Q E s := by
  refine wpAny_ListComp_walk (ItemKind.str.lift fun _ => true) (fun v r => ∃ a, ItemKind.str.is a v ∧ Carried r (.str (d a))) hfree hcell hkind hnames hx
    (wpAny_mono h (fun xv s₁ h₁ => ?_) fun _ _ e => e) hs
  refine Classical.byContradiction fun hn1 => ?_
  obtain ⟨y, t, rfl, hsz, F, N, helt, hQ⟩ := h₁
  refine hn1 ?_
  refine wpAny_pyIter_str fun o St W hst => ?_
  have up : ∀ (h' : Heap), (∀ b o', b ∉ [s₁.heap.objs.size] → (s₁.heap.push o).get? b = some o' → h'.get? b = some o') → ∀ b o', s₁.heap.get? b = some o' → h'.get? b = some o' :=
    fun h' hk b o' e => hk b o' (old_not_new e) (Heap.get?_push_of_some _ e)
  refine ⟨s₁.heap.objs.size, [s₁.heap.objs.size], [s₁.heap.objs.size], y.cps.size, SignAt y, St, rfl, W A hh, hsz, hst, ?_, ⟨?_, ?_⟩, ?_⟩
  · intro b hb
    show b < (s₁.heap.push o).objs.size
    rw [Heap.size_push, List.mem_singleton.mp hb]
    exact Nat.lt_succ_self _
  · intro C i v s₃ m₃ E' hP hn hm _ _
    refine Classical.byContradiction fun hn2 => ?_
    obtain ⟨c, u, _, rfl⟩ := hP
    refine hn2 ?_
    have ha : ItemKind.str.is ⟨#[c]⟩ (.str ⟨#[c]⟩ u) := ⟨u, rfl⟩
    rw [ItemKind.lift_is ha]
    exact wpAny_pure ⟨rfl, _, _, rfl, fun _ _ h => h⟩
  · intro C i v s₃ m₃ E' hP hp hn hm _ _
    refine Classical.byContradiction fun hn3 => ?_
    obtain ⟨c, u, _, rfl⟩ := hP
    refine hn3 ?_
    have ha : ItemKind.str.is ⟨#[c]⟩ (.str ⟨#[c]⟩ u) := ⟨u, rfl⟩
    exact wpAny_mono (helt C c u s₃ m₃ E' hn hm) (fun r s₄ h₄ => ⟨⟨_, ha, by obtain ⟨t, rfl⟩ := h₄.out.1; exact .str _ _⟩, h₄.out.2⟩) fun _ _ e => e
  · intro D h' tk ys vs hnew hlD hplD hlen hP hF hk
    refine hQ D ys.toList h' tk (F.keeps (up h' hk)) (N.grown (up h' hk)) (by rw [Array.toArray_toList]; exact hlD) ?_
    have := (areOf_signs hlen hP).paired (fun _ => true) (fun a => PyData.str (d a)) _ hF
    rw [List.filter_eq_self.mpr (fun _ _ => rfl)] at this
    refine StrsAre.of_carried ?_
    rw [List.map_map]; exact this
theorem range_small (n : Nat) (h : n ≤ 2000) : Builtin.Range.small 0 (n : Int) 1 = true := small_one (by lia) (by lia) (by lia) (by lia)
theorem range_size (n : Nat) : Builtin.Range.rangeSize 0 (n : Int) 1 = (n : Int) := by
  rw [rangeSize_one]
  split <;> lia
theorem text_end {x y : Str} {t : Tok} {o : Option Value} (ho : o = some (.str x t)) (e : x = y) : ∃ t', o = some (.str y t') := ⟨t, by rw [ho, e]⟩
theorem val_end {x y : Str} {t : Tok} (e : x = y) : ∃ t', Value.str x t = .str y t' := ⟨t, by rw [e]⟩
theorem word_item {prog : Program} {w : World} {A : Around} {E : Value → Shared → Prop} {s : Shared} {value slice : PySem.Expr} {l : Addr} {vs : List Value} {ws : List Str} {i : Nat} {u : Tok} {wd : Str} {Q : Value → Shared → Prop}
    (hl : s.heap.IsList l vs.toArray) (hw : StrsAre vs ws) (hi : i < ws.length) (hn : ws.length ≤ 600) (e : wordAt ws (0 + (i : Int)) = wd) (h : ∀ t', Q (.str wd t') s)
    (hs : subscripted slice false (.ref l) (.int (0 + (i : Int)) u) = operate [.ref l, .int (0 + (i : Int)) u] (getItem (.ref l) (.int (0 + (i : Int)) u)) := by with_unfolding_all rfl) :
    wpAny (model prog w) A (subscriptTail value slice (.ref l) (.int (0 + (i : Int)) u)) Q E s := by
  refine KTb.item_list hl hw (by lia) (by lia) (by lia) (fun t' _ => ?_) hs
  have := h t'
  rw [← e] at this
  exact this
theorem seps_len (k : Int) : (sepAt k).length = 1 := by
  have h := fmod_lt k (n := 4) (by lia)
  unfold sepAt seps
  have : (Int.fmod k 4).toNat = 0 ∨ (Int.fmod k 4).toNat = 1 ∨ (Int.fmod k 4).toNat = 2 ∨ (Int.fmod k 4).toNat = 3 := by lia
  rcases this with e | e | e | e <;> rw [e] <;> decide
theorem wordAt_mem {ws : List Str} {i : Nat} (h : i < ws.length) : wordAt ws (0 + (i : Int)) ∈ ws := by
  unfold wordAt
  rw [show (0 + (i : Int)).toNat = i by lia, List.getD_eq_getElem?_getD, List.getElem?_eq_getElem h]
  exact List.getElem_mem h
theorem chunk_len {ws : List Str} {i : Nat} (hv : ∀ x ∈ ws, x ∈ vocab) (h : i < ws.length) : (chunkAt ws (0 + (i : Int))).length ≤ 15 := by
  have := vocab_fit _ (hv _ (wordAt_mem h))
  unfold chunkAt
  split
  · exact this.2.2.2.1
  · exact this.2.2.2.2.1
theorem text_len {ws : List Str} (hv : ∀ x ∈ ws, x ∈ vocab) : ∀ i, i ≤ ws.length → (textAt ws i).length ≤ 16 * i
  | 0, _ => Nat.le_refl 0
  | i + 1, h => by
    have h1 := text_len hv i (by lia)
    have h2 := chunk_len hv (i := i) (by lia)
    have h3 := seps_len (0 + (i : Int))
    simp only [textAt, Str.length_append]
    lia
theorem replaceK {prog : Program} {w : World} {A : Around} {E : Value → Shared → Prop} {s : Shared} {x y z : Str} {t u v : Tok} {Q : Value → Shared → Prop} (hu : u ≠ 0) (hv : v ≠ 0) (huv : u ≠ v) (hyz : (y == z) = false) (hx : x.length ≤ 1000) (hz : z.length ≤ 14)
    (hq : ∀ t' k, s.toks ≤ k → Q (.str (Txt.replace x y z) t') { s with toks := k }) : wpAny (model prog w) A (call (.builtin "str.replace") [.str x t, .str y u, .str z v]) Q E s := by
  have e : (2 : Nat) ^ 24 = 16777216 := by decide
  have hb : x.length + (x.length + 1) * z.length ≤ 16777216 := by
    have h1 : (x.length + 1) * z.length ≤ (x.length + 1) * 14 := Nat.mul_le_mul_left _ hz
    lia
  have hl : Builtin.Str.tooLong (x.length + (Builtin.Str.occurrences x y 0 x.length (x.length + 1)).length * z.length) = false := by
    have h1 := StrLaws.occ_length_le x y 0 x.length (x.length + 1)
    have h2 : (Builtin.Str.occurrences x y 0 x.length (x.length + 1)).length * z.length ≤ (x.length + 1) * z.length := Nat.mul_le_mul_right _ h1
    unfold Builtin.Str.tooLong sizeLine
    exact decide_eq_false (by lia)
  refine call_gives F.slot_str_replace (typeIs_str _ _ _) F.entry_str_replace (F.args_str_replace_3 _ _ _)
    (gives_str_replace x y z t u v fun _ => ⟨by simp [hu, hv], by simp [huv], hyz, hl⟩) ?_
  have hq' := hq
  unfold Txt.replace at hq'
  cases hc : ((Builtin.Str.occurrences x y 0 x.length (x.length + 1)).isEmpty || (y.length == 0 && z.length == 0))
  · rw [hc] at hq'
    simp only [Bool.false_eq_true, if_false] at hq' ⊢
    exact ⟨fits_replaced y hb, hq' _ _ (Nat.le_succ _)⟩
  · rw [hc] at hq'
    simp only [if_true] at hq' ⊢
    exact hq' t s.toks (Nat.le_refl _)
theorem sep_item {prog : Program} {w : World} {A : Around} {E : Value → Shared → Prop} {s : Shared} {value slice : PySem.Expr} {l : Addr} {vs : List Value} {a : Int} {u : Tok} {Q : Value → Shared → Prop}
    (hl : s.heap.IsList l vs.toArray) (hw : StrsAre vs seps) (h : ∀ t', Q (.str (sepAt a) t') s)
    (hs : subscripted slice false (.ref l) (.int (Int.fmod a 4) u) = operate [.ref l, .int (Int.fmod a 4) u] (getItem (.ref l) (.int (Int.fmod a 4) u)) := by with_unfolding_all rfl) :
    wpAny (model prog w) A (subscriptTail value slice (.ref l) (.int (Int.fmod a 4) u)) Q E s :=
  have f := fmod_lt a (n := 4) (by lia)
  KTb.item_list hl hw f.1 (by show _ < (4 : Int); exact f.2) (by lia) (fun t' _ => h t') hs
set_option maxHeartbeats 1000000 in
theorem text_spec {w : World} {A : Around} {s : Shared} {mg mb : Str → Option Value} {l : Addr} {vs : List Value} {n : Nat} {ws : List Str} (tp : Tops w mg mb s.heap) (hA : A.depth < recursionLimit) (hh : A.handled = none)
    (hL : s.heap.get? l = some (W.listOf vs.toArray n)) (hI : StrsAre vs ws) (hn : ws.length ≤ 600) (hv : ∀ x ∈ ws, x ∈ vocab) :
    Gives w A 105 [.ref l] s (fun v new => ∃ t, v = .str (textAt ws ws.length) t) := by
  have o2 : On "exec For Name Call cons nil" := ⟨⟩
  have o3 : On "pyIter ref" := ⟨⟩
  have o5 : On "last call builtin:str.join" := ⟨⟩
  have o6 : On "eval ListComp" := ⟨⟩
  have o7 : On "inplaceOp Add str str" := ⟨⟩
  have o8 : On "subscriptTail Name BinOp ref int" := ⟨⟩
  have o9 : On "subscriptTail Name Name ref int" := ⟨⟩
  have oa : On "call builtin:str.replace" := ⟨⟩
  refine Classical.byContradiction fun hn1 => ?_
  obtain ⟨X, T⟩ := id tp
  refine hn1 ?_
  refine gives_of_frame tp hA (by k_is) (by k_is) (BindsTo.of_eq rfl) (locs rfl) (fun L h₁ hLs F => ?_) (by rfl) (by rfl) (by rfl) (by decide)
  have N : News s.heap L h₁ [] := News.nil
  have hl : s.heap.IsList l vs.toArray := ⟨_, hL, rfl, _, rfl⟩
  walk_at "steps"
  refine Hold.mk ?_
  refine wpAny_For ?_ (by intro _; rfl)
  walk_at "steps"
  refine Hold.mk ?_
  rename IsRange _ _ _ _ _ _ _ _ => hr
  rename_i F' N' _
  dsimp only at hr F' N' ⊢

  refine iter_range (n := ws.length) (TextJ l ws) hh hr ?hsm ?hsz (fun _ _ => rfl) F' N' ⟨rfl, ⟨_, rfl⟩, rfl⟩ ?turn ?done
  case hsm => exact range_small _ (by lia)
  case hsz => exact range_size _
  case turn =>
    rintro i t m₁ nx h tk own hi ⟨m1, ⟨tt, m2⟩, rfl⟩ hoff F N
    replace F := Fr.know (Fr.know F m1) (x := S "text") (v := _) (by rw [if_neg (by decide)]; exact m2)
    have hl : h.IsList l vs.toArray := ⟨_, F.keep _ _ hL, rfl, _, rfl⟩
    refine wpAny_assign_Name (stN F N (fun h' F₂ N₂ => ?_) (by rfl) (by rfl))
    refine hideQ fun Q0 hQ0 => ?_
    clear hl
    have hl : h'.IsList l vs.toArray := ⟨_, F₂.keep _ _ hL, rfl, _, rfl⟩
    refine Classical.byContradiction fun hn2 => ?_
    obtain ⟨wd, hwd⟩ : ∃ wd, wordAt ws (0 + (i : Int)) = wd := ⟨_, rfl⟩
    obtain ⟨f1, f2, f3, f4, f5, f6⟩ := vocab_fit wd (hwd ▸ hv _ (wordAt_mem hi))
    refine hn2 ?_
    simp only [S] at f2 f3
    have f7 := text_len hv i (by lia)
    have l1 : (Str.ofString "\"").length = 1 := by decide
    have l2 : (Str.ofString "\\").length = 1 := by decide
    repeat' (first | ((with_reducible refine Hold.mk (p := wpAny _ _ (subscriptTail _ _ _ _) _ _ _) ?_); refine word_item (by assumption) (by assumption) hi hn hwd (fun _ => ?_) (by with_unfolding_all rfl)) | ((with_reducible refine Hold.mk (p := wpAny _ _ (PySem.call _ _) _ _ _) ?_); refine replaceK (by (try dsimp only); refine (?_ : @Ne Nat _ _); omega) (by (try dsimp only); refine (?_ : @Ne Nat _ _); omega) (by (try dsimp only); refine (?_ : @Ne Nat _ _); omega) (by decide) (by omega) (by decide) ?_; intro _ _ hk; (try dsimp only at hk)) | walk_at "step1")
    · refine Hold.mk ?_
      refine iadd_str ?_ (by change _ + (quoteW wd).length ≤ _; unfold sizeLine; omega)
      intro t9 tk9
      walk_at "steps"
      refine Hold.mk ?_
      refine sep_item (News.isList (by k_asm) (by k_mem)) (vs := [_, _, _, _]) (.cons _ _ (.cons _ _ (.cons _ _ (.cons _ _ .nil)))) (fun _ => ?_) (by with_unfolding_all rfl)
      walk_at "steps"
      refine Hold.mk ?_
      refine iadd_str ?_ (by rw [Str.length_append]; change _ + (quoteW wd).length + _ ≤ _; have := seps_len (0 + (i : Int)); unfold sizeLine; omega)
      intro t8 tk8
      walk_at "steps"
      (rename Fr _ _ _ _ => F'); (rename News _ _ _ _ => N')
      refine hQ0 _ _ (TurnEnd.mk (nx := []) F' N' (by k_allIn) (by intro p hp; k_ownIn) ⟨⟨by first | rfl | (rw [if_neg (by decide)]; rfl), text_end rfl ?_, rfl⟩, fun _ _ _ hb => nomatch hb⟩)
      rw [textAt]
      rw [chunkAt, if_pos (by assumption), hwd, quoteW]
    · refine Hold.mk ?_
      refine' ListComp_signs1 (h₀ := s.heap) (L := L) (d := escS) hh (by decide) (by decide) (by rfl) (by decide) (by rfl) ?hcont (by intro _; rfl)
      case hcont =>
        walk1
        walk1
        walk1
        walk1
        refine Hold.mk ?_
        refine word_item (by assumption) (by assumption) hi hn hwd (fun _ => ?_) (by with_unfolding_all rfl)
        refine ⟨_, _, rfl, (by unfold sizeLine; omega), F₂, N₂, ?_, ?_⟩
        · intro C c u s₂ m₂ E' hns hm
          walk_at "steps"
          all_goals refine Hold.mk ⟨val_end ?_, ⟨_, _, rfl, fun _ _ h => h⟩⟩
          · rw [escS, if_neg (by unfold specials; first | assumption | (simp only [Bool.not_eq_true, Bool.not_eq_false] at *; assumption) | (simp only [Bool.not_eq_true, Bool.not_eq_true', Bool.not_eq_false', Bool.not_eq_false] at *; assumption))]
          · rw [escS, if_pos (by unfold specials; first | assumption | (simp only [Bool.not_eq_true, Bool.not_eq_false] at *; assumption) | (simp only [Bool.not_eq_true, Bool.not_eq_true', Bool.not_eq_false', Bool.not_eq_false] at *; assumption))]
        · intro D ys h' tk F N hl hys
          walk_at "steps"
          refine Hold.mk ?_
          refine join_listW hl (by rw [List.toList_toArray]; exact hys) (by decide) (by lia) ?_
          intro tj kj
          walk_at "steps"
          refine Hold.mk ?_
          refine iadd_str ?_ (by change _ + (escW wd).length ≤ _; unfold sizeLine; omega)
          intro t9 tk9
          walk_at "steps"
          refine Hold.mk ?_
          refine sep_item (News.isList (by k_asm) (by k_mem)) (vs := [_, _, _, _]) (.cons _ _ (.cons _ _ (.cons _ _ (.cons _ _ .nil)))) (fun _ => ?_) (by with_unfolding_all rfl)
          walk_at "steps"
          refine Hold.mk ?_
          refine iadd_str ?_ (by rw [Str.length_append]; change _ + (escW wd).length + _ ≤ _; have := seps_len (0 + (i : Int)); unfold sizeLine; omega)
          intro t8 tk8
          walk_at "steps"
          (rename Fr _ _ _ _ => F'); (rename News _ _ _ _ => N')
          refine hQ0 _ _ (TurnEnd.mk (nx := []) F' N' (by k_allIn) (by intro p hp; k_ownIn) ⟨⟨by first | rfl | (rw [if_neg (by decide)]; rfl), text_end rfl ?_, rfl⟩, fun _ _ _ hb => nomatch hb⟩)
          rw [textAt]
          rw [chunkAt, if_neg (by assumption), hwd, escW]
  case done =>
    rintro m₁ nx h tk ⟨m1, ⟨tt, m2⟩, rfl⟩ F N
    replace F := Fr.know F m2
    dsimp only
    walk_at "steps"
    exact GivesEnd.mk F N ⟨_, rfl⟩
end Mine
end
section
open PySem PySem.W PyProof.Rows PySem.Calls
set_option maxRecDepth 100000
namespace Mine

theorem Around.calm {A : Around} (h : A.handled = none) : ∃ A0 : Around, A = { A0 with handled := none } := ⟨A, by cases A; cases h; rfl⟩
theorem DatAll.split {news : List (Addr × Obj)} : ∀ {ds es : List Dat} {vs : List Value}, DatAll news vs (ds ++ es) → ∃ x y, vs = x ++ y ∧ DatAll news x ds ∧ DatAll news y es
  | [], _, vs, h => ⟨[], vs, rfl, .nil, h⟩
  | d :: ds, es, _, .cons h1 h2 => by
    obtain ⟨x, y, rfl, hx, hy⟩ := DatAll.split h2
    exact ⟨_ :: x, y, rfl, .cons h1 hx, hy⟩
section
variable {prog : Program} {w : World} {A : Around} {E : Value → Shared → Prop} {s : Shared} {h₀ : Heap} {L l : Addr} {m : Str → Option Value} {news : List (Addr × Obj)} {value slice : PySem.Expr} {vs ws : List Value} {v : Value} {Q : Value → Shared → Prop}
theorem add_ll {b : Addr} (F : Fr h₀ L s.heap m) (N : News h₀ L s.heap news) (ha : s.heap.IsList l vs.toArray) (hb : s.heap.IsList b ws.toArray)
    (h : ∀ D h', Fr h₀ L h' m → News h₀ L h' ((D, listOf (vs ++ ws).toArray 0) :: news) → (∀ p ∈ news, p.1 < D) → Q (.ref D) { s with heap := h' })
    (hz : vs.length + ws.length ≤ 100000) : wpAny (model prog w) A (binaryOp .Add (.ref l) (.ref b)) Q E s :=
  kmk_add_lit F N ha hb (by simp) h (by simp only [List.toList_toArray]; unfold sizeLine; lia)
theorem last_item {u : Tok} (hl : s.heap.IsList l (vs ++ [v]).toArray) (h : Q v s)
    (hs : subscripted slice false (.ref l) (.int (-1) u) = operate [.ref l, .int (-1) u] (getItem (.ref l) (.int (-1) u)) := by with_unfolding_all rfl) :
    wpAny (model prog w) A (subscriptTail value slice (.ref l) (.int (-1) u)) Q E s :=
  kde_neg hl (by lia) (by lia) (j := vs.length) (by
    unfold seqIndex?
    rw [List.length_append]
    simp only [List.length_cons, List.length_nil, show ¬ (0 ≤ (-1 : Int)) by decide, if_false, false_and, if_neg]
    simp
    lia) (by simp) h hs
theorem init_pick : (slicePick (vs ++ [v]).toArray none (some (-1)) none).toList = vs := by
  have e : sliceBounds none (some (-1)) none (vs ++ [v]).toArray.size = (((0 : Nat) : Int), ((vs.length : Nat) : Int), 1) := by
    simp only [sliceBounds, Option.getD_none, show (1 : Int) > 0 by decide, if_true, if_pos (show (-1 : Int) < 0 by decide), List.size_toArray, List.length_append, List.length_cons, List.length_nil]
    congr 1
    congr 1
    lia
  rw [kmk_pick_nat _ e]
  simp
theorem init_slice {t : Tok} (F : Fr h₀ L s.heap m) (N : News h₀ L s.heap news) (hl : s.heap.IsList l (vs ++ [v]).toArray)
    (h : ∀ D h', Fr h₀ L h' m → News h₀ L h' ((D, listOf vs.toArray 0) :: news) → (∀ p ∈ news, p.1 < D) → Q (.ref D) { s with heap := h' })
    (hs : subscripted slice false (.ref l) (.ref s.heap.objs.size) = operate [.ref s.heap.objs.size, .ref l] (getItem (.ref l) (.ref s.heap.objs.size))) (ht : ∀ r, letTemporaryGo value (.ref l) r = pure ()) (hz : vs.length ≤ 100000) :
    wpAny (model prog w) A (subscriptTail value slice (.ref l) (.ref s.heap.objs.size)) Q E { s with heap := s.heap.push { cls := .type "slice", data := .fields #[.none, .int (-1) t, .none] } } :=
  kmk_slice_lit F N hl .none (.int _ _) init_pick h hs ht (by rw [List.size_toArray, List.length_append]; unfold sizeLine; simp only [List.length_cons, List.length_nil]; lia)
end
noncomputable def stepD (st : List Row × Str) (token : Str) : List Row × Str :=
  if st.2 = S "" then (st.1, token) else if st.2 = S "machine" then (st.1 ++ [(token, S "", S "")], S "") else
    match st.1.getLast? with
    | none => st
    | some r => (st.1.dropLast ++ [if st.2 = S "login" then (r.1, token, r.2.2) else (r.1, r.2.1, token)], S "")
noncomputable def stateD (st : List Row × Str) : Dat := .tuple [.list (st.1.map rowD), .str st.2]
theorem state_inv {P : Prop} {v : Value} {rows : List Row} {wanted : Str} {objs : List (Addr × Obj)} (hd : DatIn objs v (stateD (rows, wanted)))
    (k : ∀ a n lr nr vs t1, v = .ref a → (a, ({ cls := .type "tuple", data := .seq #[.ref lr, .str wanted t1] n } : Obj)) ∈ objs → (lr, W.listOf vs.toArray nr) ∈ objs → DatAll objs vs (rows.map rowD) → P) : P := by
  obtain ⟨a, n, vs, e, hm, h⟩ := DatIn.tupOf hd
  obtain ⟨x, v1, rfl, h1, h2⟩ := DatAll.inv h
  obtain ⟨t, v2, rfl, h3⟩ := DatAll.strInv h2
  obtain ⟨lr, nr, us, rfl, hl, hu⟩ := DatIn.listOf h1
  obtain rfl := DatAll.inv0 h3
  exact k a n lr nr us t e hm hl hu
theorem rows_last {P : Prop} {rows : List Row} {vs : List Value} {objs : List (Addr × Obj)} (hn : rows ≠ []) (hv : DatAll objs vs (rows.map rowD))
    (k : ∀ init r us a n u1 u2 u3, rows = init ++ [r] → vs = us ++ [.ref a] → DatAll objs us (init.map rowD) → (a, ({ cls := .type "tuple", data := .seq #[.str r.1 u1, .str r.2.1 u2, .str r.2.2 u3] n } : Obj)) ∈ objs → P) : P := by
  rw [← List.dropLast_concat_getLast hn, List.map_append] at hv
  obtain ⟨x, y, rfl, hx, hy⟩ := DatAll.split hv
  obtain ⟨v, v', rfl, h1, h2⟩ := DatAll.inv hy
  obtain rfl := DatAll.inv0 h2
  obtain ⟨a, n, u1, u2, u3, rfl, h⟩ := DatIn.row h1
  exact k _ _ x a n u1 u2 u3 (List.dropLast_concat_getLast hn).symm rfl hx h
set_option maxHeartbeats 1000000 in
theorem step_spec {w : World} {A : Around} {s : Shared} {mg mb : Str → Option Value} {v : Value} {st : List Row × Str} {token : Str} {tt : Tok} {objs : List (Addr × Obj)} (tp : Tops w mg mb s.heap) (hA : A.depth < recursionLimit) (hh : A.handled = none)
    (ho : ∀ p ∈ objs, s.heap.get? p.1 = some p.2) (hd : DatIn objs v (stateD st)) (hn : st.1.length ≤ 100) (hr : st.2 = S "" ∨ st.2 = S "machine" ∨ st.1 ≠ []) :
    Gives w A 117 [v, .str token tt] s (fun v new => DatIn (new ++ objs) v (stateD (stepD st token))) := by
  have o1 : On "subscriptTail Name UnaryOp ref int" := ⟨⟩
  have o2 : On "assign Tuple" := ⟨⟩
  have o3 : On "binaryOp Add ref ref" := ⟨⟩
  have o4 : On "subscriptTail Name Slice ref ref" := ⟨⟩
  refine Classical.byContradiction fun hc => ?_
  obtain ⟨X, T⟩ := id tp
  obtain ⟨A, rfl⟩ := Around.calm hh
  obtain ⟨rows, wanted⟩ := st
  refine hc ?_
  refine state_inv hd (fun a na lr nr vs t1 e ha hlr hvs => ?_)
  subst e
  have hvl : vs.length ≤ 100 := by have := hvs.length; rw [List.length_map] at this; rw [this]; exact hn
  have kept : ∀ {new : List (Addr × Obj)} {ws : List Value} {ds : List Dat}, DatAll objs ws ds → DatAll (new ++ objs) ws ds := fun h => DatAll.mono (fun _ h => List.mem_append_right _ h) h
  refine gives_of_frame tp hA (by k_is) (by k_is) (BindsTo.of_eq rfl) (locs rfl) (fun L h₁ hL F => ?_) (by rfl) (by rfl) (by rfl) (by decide)
  refine hideQ fun Q0 hQ0 => ?_
  have N : News s.heap L h₁ [] := News.nil
  have hT : IsTup s.heap a #[Value.ref lr, Value.str wanted t1] := ⟨_, ho _ ha, rfl, _, rfl⟩
  have hl : s.heap.IsList lr vs.toArray := ⟨_, ho _ hlr, rfl, _, rfl⟩
  clear hd
  repeat' (first | (refine Hold.mk ?_; first | (refine' unpackN_ (by k_asm) (by k_asm) (Fr.tup (by k_asm) (by assumption)) (by exact rfl) (by exact rfl) (by exact rfl) ?_; intro h' F' N'; (try k_sweep)) | (k_dflt (refine add_ll (by k_asm) (by k_asm) (by kmk_list) (by kmk_list) ?_ (by simp only [List.length_cons, List.length_nil, List.length_append] at *; omega)); intro D' h' F' N' l1; (try k_lt l1); (try k_sweep)) | (k_dflt (refine init_slice (by k_asm) (by k_asm) (by kmk_list) ?_ (by with_unfolding_all rfl) (by kmk_pure) (by omega)); intro D' h' F' N' l1; (try k_lt l1); (try k_sweep))) | walk_at "step1")
  · have e : wanted = S "" := eq_of_beq (by assumption)
    subst e
    (rename Fr _ _ _ _ => F'); (rename News _ _ _ _ => N')
    refine hQ0 _ _ (GivesEnd.mk F' N' ?_)
    rw [show stepD (rows, S "") token = (rows, token) from if_pos rfl]
    exact DatIn.tuple (vs := [.ref lr, .str token tt]) (.head _) (.cons (DatIn.list (List.mem_append_right _ hlr) (kept hvs)) (.cons (.str _ _) .nil))
  · have e : wanted = S "machine" := eq_of_beq (by assumption)
    subst e
    (rename Fr _ _ _ _ => F'); (rename News _ _ _ _ => N')
    refine hQ0 _ _ (GivesEnd.mk F' N' ?_)
    rw [show stepD (rows, S "machine") token = (rows ++ [(token, S "", S "")], S "") from (if_neg (show ¬ S "machine" = S "" by decide)).trans (if_pos rfl)]
    refine DatIn.tuple (vs := [.ref _, .str (S "") _]) (.head _) (.cons (DatIn.list (.tail _ (.head _)) ?_) (.cons (.str _ _) .nil))
    rw [List.map_append]
    exact DatAll.append (kept hvs) (.cons (tupIn (t1 := tt) (.tail _ (.tail _ (.tail _ (.head _))))) .nil)
  · have n1 : ¬ wanted = S "" := ne_of_beq_false (by assumption)
    have n2 : ¬ wanted = S "machine" := ne_of_beq_false (by assumption)
    refine Hold.mk ?_
    refine rows_last ((hr.resolve_left n1).resolve_left n2) hvs (fun init r vsI ar nar u1 u2 u3 e1 e2 hvI har => ?_)
    subst e1 e2
    clear hvs kept
    have hvl' : vsI.length ≤ 100 := by rw [List.length_append] at hvl; lia
    have hT2 : IsTup s.heap ar #[.str r.1 u1, .str r.2.1 u2, .str r.2.2 u3] := ⟨_, ho _ har, rfl, _, rfl⟩
    have e : stepD (init ++ [r], wanted) token = (init ++ [if wanted = S "login" then (r.1, token, r.2.2) else (r.1, r.2.1, token)], S "") := by
      simp only [stepD, if_neg n1, if_neg n2, List.getLast?_append, List.getLast?_singleton, List.dropLast_concat]
      rfl
    rw [e] at hQ0
    clear e
    (rename Fr _ _ _ _ => F')
    refine last_item (Fr.lst F' hl) ?_
    repeat' (first | (refine Hold.mk ?_; first | (refine' unpackN_ (by k_asm) (by k_asm) (Fr.tup (by k_asm) (by assumption)) (by exact rfl) (by exact rfl) (by exact rfl) ?_; intro h' F' N'; (try k_sweep)) | (k_dflt (refine add_ll (by k_asm) (by k_asm) (by kmk_list) (by kmk_list) ?_ (by simp only [List.length_cons, List.length_nil, List.length_append] at *; omega)); intro D' h' F' N' l1; (try k_lt l1); (try k_sweep)) | (k_dflt (refine init_slice (by k_asm) (by k_asm) (by kmk_list) ?_ (by with_unfolding_all rfl) (by kmk_pure) (by omega)); intro D' h' F' N' l1; (try k_lt l1); (try k_sweep))) | walk_at "step1")
    all_goals (
      (rename Fr _ _ _ _ => F'); (rename News _ _ _ _ => N')
      refine hQ0 _ _ (GivesEnd.mk F' N' ?_)
      refine DatIn.tuple (vs := [.ref _, .str (S "") _]) (.head _) (.cons (DatIn.list (.tail _ (.head _)) ?_) (.cons (.str _ _) .nil))
      rw [List.map_append]
      refine DatAll.append (DatAll.mono (fun _ h => List.mem_append_right _ h) hvI) (.cons ?_ .nil))
    · rw [if_pos (eq_of_beq (by assumption))]
      exact tupIn (r := (r.1, token, r.2.2)) (.tail _ (.tail _ (.tail _ (.head _))))
    · rw [if_neg (ne_of_beq_false (by assumption))]
      exact tupIn (r := (r.1, r.2.1, token)) (.tail _ (.tail _ (.tail _ (.head _))))
end Mine
end
section
open PySem PySem.W PyProof.Rows PySem.Calls
set_option maxRecDepth 100000
namespace Mine
section
variable {prog : Program} {w : World} {A : Around} {E : Value → Shared → Prop} {s : Shared} {env : Env} {h₀ : Heap} {target : Expr} {body : List Stmt} {Q : Flow → Shared → Prop}
theorem iter_listiter {l I : Addr} {items : Array Value} {m₀ : Str → Option Value} {news : List (Addr × Obj)} (J : Nat → (Str → Option Value) → List (Addr × Obj) → Prop)
    (hh : A.handled = none) (hit : s.heap.IsListIter I l 0) (hl : s.heap.IsList l items) (hlI : l ≠ I) (hI0 : h₀.get? I = none) (hIL : I ≠ env.locals) (hlL : l ≠ env.locals)
    (hwh : (∃ o, h₀.get? l = some o) ∨ ∃ o, ∀ i m nx, J i m nx → (l, o) ∈ nx)
    (hgo : ∀ I i (s' : Shared) v (Q' : Unit → Shared → Prop), items[i]? = some v → s'.heap.IsListIter I l (i + 1) → Q' () s' → wpAny (model prog w) A (letOwnedTupleGo target (.ref I) v) Q' NoE s')
    (F : Fr h₀ env.locals s.heap m₀) (N : News h₀ env.locals s.heap news) (hnI : ∀ p ∈ news, p.1 ≠ I) (hj : J 0 m₀ news)
    (turn : ∀ i v m₁ nx h tk own, items[i]? = some v → J i m₁ nx → OwnOff own (nx.map (·.1)) → NoSeq own → Fr h₀ env.locals h m₁ → News h₀ env.locals h (nx ++ own) →
      wpAny (model prog w) A (assign target env v) (fun _ s₂ => wpAny (model prog w) A (execs body env) (TurnEnd h₀ env.locals (fun m' nx' => J (i + 1) m' nx' ∧ OwnOff own (nx'.map (·.1))) own { s with heap := h, toks := tk } Q) NoE s₂) NoE { s with heap := h, toks := tk })
    (done : ∀ m₁ nx h tk, J items.size m₁ nx → Fr h₀ env.locals h m₁ → News h₀ env.locals h nx → Q .next { s with heap := h, toks := tk }) :
    wpAny (model prog w) A (pyIter (.ref I)) (fun it s₂ => codeAny (model prog w) A (.forLoop target it body [] env) (fun r s' => match r with | .ok f => Q f s' | .error e => cameBackBy (model prog w) A env E e s') s₂) E s := by
  refine wpAny_pyIter_listiter hit ?_
  refine loopW (Walks.list hh I l hlI items) J ?_ ?_ ?_ (fun i s' v Q' hP hst hq => hgo _ i s' v Q' hP hst.1 hq) ⟨hit, hl⟩ F N ?_ hj ?_ ?_ done
  · intro hm
    rcases List.mem_cons.mp hm with e | hm
    · exact hIL e.symm
    · exact hlL (List.mem_singleton.mp hm).symm
  · intro b hb
    rw [List.mem_singleton.mp hb]
    exact hI0
  · intro b hb hbw
    rcases List.mem_cons.mp hb with rfl | hb
    · exact absurd (List.mem_singleton.mpr rfl) hbw
    · rw [List.mem_singleton.mp hb]; exact hwh
  · intro p hp hI
    exact hnI p hp (List.mem_singleton.mp hI)
  · intro i h hst b hb
    rw [List.mem_singleton.mp hb]
    refine Classical.byContradiction fun hn1 => ?_
    obtain ⟨⟨o, ho, _, hf⟩, _⟩ := hst
    refine hn1 ?_
    exact ⟨o, ho, fun vs n e => by rw [hf] at e; cases e⟩
  · intro i v m₁ nx h tk own hi hP hJ ho hs F₁ N₁
    exact turn i v m₁ nx h tk own hP hJ ho hs F₁ N₁

end
section
variable {prog : Program} {w : World} {A : Around} {E : Value → Shared → Prop} {s : Shared} {h₀ : Heap} {L l : Addr} {m : Str → Option Value} {news : List (Addr × Obj)} {items : Array Value}
theorem iter_call {Q : Value → Shared → Prop} (F : Fr h₀ L s.heap m) (N : News h₀ L s.heap news) (hl : s.heap.IsList l items)
    (h : ∀ I h', Fr h₀ L h' m → News h₀ L h' ((I, { cls := .type "list_iterator", data := .fields #[.ref l, .int 0 0] }) :: news) → (∀ p ∈ news, p.1 < I) → Q (.ref I) { s with heap := h' }) :
    wpAny (model prog w) A (call (.builtin "iter") [.ref l]) Q E s := by
  refine call_function_entry (by decide +kernel) (by decide +kernel) kdk_entry_iter (kdk_args_iter _) ?_
  unfold Builtin.«iter»
  refine wpAny_bind (m := someArgs "iter" 1 2 _) (wpAny_of_eq (a := [Value.ref l]) (by first | rfl | kernel_rfl!) ?_)
  show wpAny _ _ (pyIter (.ref l) >>= _) _ _ _
  refine wpAny_bind (wpAny_pyIter_list hl ?_)
  exact wpAny_pure ⟨_, rfl, h _ _ (F.push _) (News.push F N _ rfl) (fun q hq => Heap.lt_size (N q hq).1)⟩
theorem call_gives' {w : World} {A : Around} {E : Value → Shared → Prop} {s : Shared} {f : Addr} {args : List Value} {P : Value → List (Addr × Obj) → Prop} {Q : Value → Shared → Prop} (g : Gives w A f args s P)
    (h : ∀ v h' tk' new, Keep s.heap h' → (∀ p ∈ new, h'.get? p.1 = some p.2 ∧ s.heap.get? p.1 = none) → P v new → Q v { s with heap := h', toks := tk' }) :
    wpAny (model prg w) A (call (.ref f) args) Q E s := by
  refine wpAny_call (g _ ?_)
  intro v h' tk' new hk hn hp
  exact h v h' tk' new hk hn hp
end
end Mine
end
section
open PySem PySem.W PyProof.Rows PySem.Calls
set_option maxRecDepth 100000
namespace Mine

section
variable {M : Model} {A : Around} {E : Value → Shared → Prop} {s : Shared}
theorem is_ref_other2 {x y : Addr} {ox oy : Obj} {Q : Value → Shared → Prop} (hx : s.heap.get? x = some ox) (hy : s.heap.get? y = some oy) (hcx : ox.cls = .type "tuple") (hcy : oy.cls = .type "object")
    (h : Q (.bool false) s) : wpAny M A (compareOp .Is (.ref x) (.ref y)) Q E s := by
  have hxy : x ≠ y := by rintro rfl; rw [hx] at hy; cases hy; rw [hcx] at hcy; exact absurd (Value.type.inj hcy) (by decide)
  show wpAny M A (do return .bool (← isSame (.ref x) (.ref y))) Q E s
  refine wpAny_bind ?_
  unfold isSame
  show wpAny M A (if (x == y) = true then _ else _) _ E s
  rw [if_neg (by simpa using hxy)]
  refine wpAny_bind (wpAny_load hx (wpAny_bind (wpAny_load hy ?_)))
  rw [hcx, hcy]
  exact wpAny_pure (wpAny_pure h)
end
inductive StrAt (ns : List Str) (i : Nat) (v : Value) : Prop
  | mk (k : Str) (t : Tok) (e : ns[i]? = some k) (h : v = .str k t) : StrAt ns i v
theorem StrsAre.item {vs : List Value} {ns : List Str} (h : StrsAre vs ns) {i : Nat} {v : Value} (hv : vs[i]? = some v) : StrAt ns i v := by
  induction h generalizing i with
  | nil => simp at hv
  | cons n t h ih =>
    cases i with
    | zero => simp at hv; exact ⟨n, t, by simp, hv.symm⟩
    | succ i => (obtain ⟨k, u, e, h⟩ := ih (by simpa using hv); exact ⟨k, u, e, h⟩)
noncomputable def Steps (ws : List Str) (st : List Row × Str) : Prop := ∀ i, i < ws.length → ((ws.take i).foldl stepD st).1.length ≤ 100 ∧ (((ws.take i).foldl stepD st).2 = S "" ∨ ((ws.take i).foldl stepD st).2 = S "machine" ∨ ((ws.take i).foldl stepD st).1 ≠ [])
inductive RedJ (objs : List (Addr × Obj)) (ws : List Str) (st : List Row × Str) (i : Nat) (m : Str → Option Value) (nx : List (Addr × Obj)) : Prop
  | mk (m1 : m (S "function") = some (.ref 117)) (v : Value) (m2 : m (S "value") = some v) (h : DatIn (nx ++ objs) v (stateD ((ws.take i).foldl stepD st))) : RedJ objs ws st i m nx
set_option maxHeartbeats 1000000 in
theorem reduce_spec {w : World} {A : Around} {s : Shared} {mg mb : Str → Option Value} {v : Value} {st : List Row × Str} {objs : List (Addr × Obj)} {l : Addr} {vs : List Value} {ws : List Str} {n : Nat} (tp : Tops w mg mb s.heap) (hA : A.depth + 2 < recursionLimit) (hh : A.handled = none)
    (hL : s.heap.get? l = some (W.listOf vs.toArray n)) (hI : StrsAre vs ws)
    (hst : Steps ws st) (ho : ∀ p ∈ objs, s.heap.get? p.1 = some p.2) (hd : DatIn objs v (stateD st)) :
    Gives w A 72 [.ref 117, .ref l, v] s (fun v new => DatIn (new ++ objs) v (stateD (ws.foldl stepD st))) := by
  have o1 : On "pyIter ref" := ⟨⟩
  have o2 : On "exec For Name Name cons nil" := ⟨⟩
  have o4 : On "call ref" := ⟨⟩
  have o5 : On "call builtin:iter" := ⟨⟩
  have o6 : On "compareOp Is ref ref" := ⟨⟩
  obtain ⟨X, T⟩ := id tp
  obtain ⟨A, rfl⟩ := Around.calm hh
  have hA' : A.depth < recursionLimit := by have : A.depth + 2 < recursionLimit := hA; lia
  obtain ⟨a, oa, rfl, haa, hca⟩ : ∃ a oa, v = .ref a ∧ (a, oa) ∈ objs ∧ oa.cls = .type "tuple" := by unfold stateD at hd; cases hd; rename_i h _; exact ⟨_, _, rfl, h, rfl⟩
  have hxa : s.heap.get? a = some oa := ho _ haa
  obtain ⟨o64, hx64, hc64⟩ : ∃ o64, s.heap.get? 64 = some o64 ∧ o64.cls = .type "object" := ⟨_, X _ _ (by k_is), rfl⟩
  refine gives_of_frame (binds := [(S "function", .ref 117), (S "sequence", .ref l), (S "initial", .ref a)]) tp hA' (by k_is) (by k_is) (BindsTo.of_defaults rfl (X _ _ (by k_is)) rfl rfl rfl) (locs rfl) (fun L h₁ hLs F => ?_) (by rfl) (by rfl) (by rfl) (by decide)
  have N : News s.heap L h₁ [] := News.nil
  have hl : s.heap.IsList l vs.toArray := ⟨_, hL, rfl, _, rfl⟩
  walk_at "steps"
  refine Hold.mk ?_
  refine iter_call (by k_asm) (by k_asm) (by kmk_list) ?_
  intro I h9 F' N' l1
  (try k_lt l1)
  walk_at "steps"
  refine Hold.mk ?_
  refine is_ref_other2 (Fr.keep (by k_asm) _ _ (by assumption)) (Fr.keep (by k_asm) _ _ (by assumption)) (by assumption) (by assumption) ?_
  walk_at "steps"
  refine Hold.mk ?_
  refine wpAny_For ?_ (by intro _; rfl)
  walk_at "steps"
  refine Hold.mk ?_
  (rename Fr _ _ _ _ => F'); (rename News _ _ _ _ => N')
  (try dsimp only)
  have hlL : l ≠ L := Nat.ne_of_lt (hLs ▸ Heap.lt_size hL)
  obtain ⟨hIg, hIL, hI0⟩ := N' _ (.head _)
  have hlI : l ≠ I := by rintro rfl; rw [hL] at hI0; cases hI0
  refine iter_listiter (items := vs.toArray) (RedJ objs ws st) hh ⟨_, hIg, rfl, rfl⟩ ⟨_, F'.keep _ _ hL, rfl, _, rfl⟩ hlI hI0 hIL hlL (.inl ⟨_, hL⟩) (fun I i s' v Q' hv hit hq => wpAny_pure hq) F' News.nil (fun _ h => nomatch h) ⟨rfl, _, rfl, hd⟩ ?turn ?done
  case turn =>
    rintro i v m₁ nx h tk own hv ⟨m1, v0, m2, hdv⟩ hoff hns F N
    obtain ⟨x, tx, hx, rfl⟩ := StrsAre.item hI (by simpa using hv)
    replace F := Fr.know (Fr.know F m1) (x := S "value") (v := v0) (by rw [if_neg (by decide)]; exact m2)
    refine wpAny_assign_Name (stN F N (fun h' F₂ N₂ => ?_) (by rfl) (by rfl))
    refine hideQ fun Q0 hQ0 => ?_
    walk_at "steps"
    have hi : i < ws.length := (List.getElem?_eq_some_iff.mp hx).1
    obtain ⟨hs1, hs2⟩ := hst i hi
    refine Hold.mk (call_gives' (step_spec (objs := nx ++ objs) (tp.keeps F₂.keep) (by have : A.depth + 2 < recursionLimit := hA; show A.depth + 1 < recursionLimit; lia) hh (fun p hp => ?_) hdv hs1 hs2) (fun v1 h1 tk1 new hk hn hP => ?_))
    · exact (List.mem_append.mp hp).elim (fun h => (N₂ _ (List.mem_append_left _ h)).1) (fun h => F₂.keep _ _ (ho _ h))
    have F₃ := F₂.kept hk
    have N₃ : News s.heap L h1 (new ++ (nx ++ own)) := News.app (News.fresh' F₂ hn) (News.kept N₂ hk)
    have hoff2 : OwnOff own (new.map (·.1)) := by
      intro p hp b hb e
      obtain ⟨q, hq, rfl⟩ := List.mem_map.mp hb
      have h1 := (N₂ _ (List.mem_append_right _ hp)).1
      have h2 := (hn _ hq).2
      dsimp only at h2
      rw [e, h2] at h1
      cases h1
    have hst1 : (ws.take (i + 1)).foldl stepD st = stepD ((ws.take i).foldl stepD st) x := by
      rw [List.take_add_one, hx, List.foldl_append]; rfl
    clear F F₂ N₂
    walk_at "steps"
    (rename Fr _ _ _ _ => F'); (rename News _ _ _ _ => N')
    refine hQ0 _ _ (TurnEnd.mk (nx := new ++ nx) F' N' (by intro p hp; rw [← List.append_assoc]; exact List.mem_append_left _ hp) (by intro p hp; exact List.mem_append_right _ (List.mem_append_right _ hp)) ⟨⟨by first | rfl | (rw [if_neg (by decide)]; rfl), v1, rfl, ?_⟩, ?_⟩)
    · rw [hst1, List.append_assoc]; exact hP
    · intro p hp b hb
      rw [List.map_append] at hb
      exact (List.mem_append.mp hb).elim (hoff2 p hp b) (hoff p hp b)
  case done =>
    rintro m₁ nx h tk ⟨m1, v0, m2, hdv⟩ F N
    replace F := Fr.know F m2
    have e : vs.toArray.size = ws.length := by rw [List.size_toArray]; exact hI.length
    rw [e, List.take_length] at hdv
    dsimp only
    walk_at "steps"
    exact GivesEnd.mk F N hdv
end Mine
end
section
open PySem PySem.W PyProof.Rows PySem.Calls
set_option maxRecDepth 100000
namespace Mine
theorem gives_of_cells {w : World} {A : Around} {s : Shared} {mg mb : Str → Option Value} {f : Addr} {vals : List Value} {P : Value → List (Addr × Obj) → Prop}
    {name qual : Str} {params : Arguments} {body : List Stmt} {scope : Scope} {dV kV doc pm cdv ct oc : Value} {an od : Option Addr} {osl : Array (Option Value)} {binds : List (Str × Value)}
    (t : Tops w mg mb s.heap) (hA : A.depth < recursionLimit)
    (ho : (hd.heap_39 w.params).lookup f = some ⟨oc, od, .func (fnOf name qual params body scope dV kV doc pm an cdv ct), osl⟩) (hcd : codeIn (hd.heap_39 w.params) cdv qual = true)
    (hbind : bindArgs (fnOf name qual params body scope dV kV doc pm an cdv ct) ⟨vals, []⟩ = pure binds)
    (hkind : ∀ n, ∀ x ∈ binds, scope.names.lookup x.1 = some .local ∨ (scope.names.lookup x.1 = some .cell ∧ ((cellsFrom n scope.names []).lookup x.1).isSome = true))
    (hnd : ((cellsFrom 0 scope.names []).map (·.1)).Nodup)
    (h : ∀ L h₁ tk cells, L = s.heap.objs.size → Fr s.heap L h₁ (bindL (envOfC qual scope L f cdv).kindOf binds fun _ => none) → News s.heap L h₁ cells →
      CellsAre (bindC (envOfC qual scope L f cdv).kindOf binds fun _ => none) (cellsFrom (L + 1) scope.names []) cells →
      wpAny (model prg w) (A.deeper (envOfC qual scope L f cdv)) (execs body (envOfC qual scope L f cdv))
        (GivesEnd s L P) NoE
        { s with heap := h₁, toks := tk })
    (hco : scope.isCoroutine = false) (hgen : scope.isGenerator = false) (hk : scope.kind = .function) : Gives w A f vals s P := by
  intro R hR
  refine codeAny_call_cells (fd := fnOf name qual params body scope dV kV doc pm an cdv ct) (body := body) (binds := binds) hA (t.X _ _ ho) rfl t.T.nolimit (codeRec_of t.X hcd) rfl hbind rfl (hkind _) (fun s₁ x => ?_) hco hgen hk
  refine Classical.byContradiction fun hn1 => ?_
  obtain ⟨h₁, tk, rfl, _⟩ := x.done
  obtain ⟨cells, NC, Y⟩ := Cl.news (h₀ := s.heap) (Nat.le_refl _) fun n c hm => ⟨x.cell n c (lookup_of_mem_nodup (cellsFrom_names scope.names 0 (s.heap.objs.size + 1) [] [] rfl ▸ hnd) hm), x.above n c hm⟩
  refine hn1 ?_
  refine wpAny_mono (h _ h₁ tk cells rfl ⟨x.toInCall.ns, x.toInCall.keep, Nat.le_refl _⟩ NC Y) (fun fl s' hl => ?_) fun _ _ e => e.elim
  refine Classical.byContradiction fun hn2 => ?_
  obtain ⟨v, h', tk', m', new, rfl, rfl, F', N', hP⟩ := hl
  refine hn2 ?_
  exact hR v h' tk' new F'.keep (fun p hp => ⟨(N' p hp).1, (N' p hp).2.2⟩) hP
end Mine
end
section
open PySem PySem.W PyProof.Rows PySem.Calls
set_option maxRecDepth 100000
namespace Mine
theorem slot_calliter_next : Slot "callable_iterator" "__next__" "callable_iterator.__next__" :=
  .of (owner := "callable_iterator") (n := "__next__") (by rw [typeLookup_type, builtinLookup_eq_fast]; kernel_rfl) (by decide +kernel) (by decide +kernel) (by decide +kernel)
    (by first | exact .inl (by decide +kernel) | exact .inr (by decide +kernel)) (by rw [isSubtype_type]; kernel_rfl)
theorem slot_calliter_iter : Slot "callable_iterator" "__iter__" "callable_iterator.__iter__" :=
  .of (owner := "callable_iterator") (n := "__iter__") (by rw [typeLookup_type, builtinLookup_eq_fast]; kernel_rfl) (by decide +kernel) (by decide +kernel) (by decide +kernel)
    (by first | exact .inl (by decide +kernel) | exact .inr (by decide +kernel)) (by rw [isSubtype_type]; kernel_rfl)
theorem entry_calliter_next : entryFor table "callable_iterator.__next__" = some Builtin.«callable_iterator.__next__» := entryFor_of_fast (by kernel_rfl)
theorem entry_calliter_iter : entryFor table "callable_iterator.__iter__" = some Builtin.«dict_keyiterator.__iter__» :=
  entryFor_alias (id' := "dict_keyiterator.__iter__") (by kernel_rfl) rfl (by decide +kernel) (by kernel_rfl)
theorem args_calliter_next (a : Value) : argsOk "callable_iterator.__next__" ⟨[a], []⟩ := by unfold argsOk; kernel_rfl
theorem args_calliter_iter (a : Value) : argsOk "callable_iterator.__iter__" ⟨[a], []⟩ := by unfold argsOk; kernel_rfl

theorem wpAny_callBorrowed {M : Model} {A : Around} {E : Value → Shared → Prop} {s : Shared} {f : Value} {pos : List Value} {Q : Value → Shared → Prop}
    (hc : codeAny M A (.call f ⟨pos, []⟩) (fun r s' => match r with | .ok (.ret v) => Q v s' | .ok _ => False | .error e => E e s') s) :
    wpAny M A (callBorrowed f pos) Q E s := fun Γ p hΓ => by
  unfold callBorrowed
  rw [Sem.wp_call]
  have h := hc _ p rfl (hΓ.enter (.call f ⟨pos, []⟩) none p (by intro x; cases x))
  refine cast ?_ h
  congr 1
  funext r s'
  cases r with
  | error e => rfl
  | ok f => cases f <;> rfl

noncomputable def MethAt (h : Heap) (me fn : Addr) (sf : Value) : Prop :=
  (∃ o, h.get? me = some o ∧ o.cls = .type "method" ∧ o.data = .fields #[.ref fn, sf]) ∧ ∃ o fd, h.get? fn = some o ∧ o.data = .func fd
noncomputable def Heap.IsCallIter (h : Heap) (it me : Addr) (t : Tok) : Prop := ∃ o, h.get? it = some o ∧ o.cls = .type "callable_iterator" ∧ o.data = .fields #[.ref me, .str (S "") t, .bool false]
noncomputable def Heap.IsCallOver (h : Heap) (it : Addr) : Prop := ∃ o, h.get? it = some o ∧ o.cls = .type "callable_iterator" ∧ o.data = .fields #[.none, .none, .bool true]
section
variable {prog : Program} {w : World} {A : Around} {E : Value → Shared → Prop} {s : Shared} {it me fn : Addr} {sf : Value} {t : Tok}
theorem Heap.IsCallIter.typeIs (x : Heap.IsCallIter s.heap it me t) : s.TypeIs (.ref it) "callable_iterator" := let ⟨o, ho, hc, _⟩ := x; ⟨o, ho, hc⟩
theorem Heap.IsCallOver.typeIs (x : Heap.IsCallOver s.heap it) : s.TypeIs (.ref it) "callable_iterator" := let ⟨o, ho, hc, _⟩ := x; ⟨o, ho, hc⟩
theorem pyIter_call {Q : Value → Shared → Prop} (hT : s.TypeIs (.ref it) "callable_iterator") (h : Q (.ref it) s) : wpAny (model prog w) A (pyIter (.ref it)) Q E s := by
  refine wpAny_pyIter_slot hT slot_calliter_iter (wpAny_call_entry slot_calliter_iter hT entry_calliter_iter ?_ (args_calliter_iter _))
  show wpAny _ _ (ret (.ref it)) _ _ s
  exact wpAny_pure ⟨_, rfl, "callable_iterator", _, hT, slot_calliter_next.lookup, h⟩
theorem borrows {M : Model} {Q : Bool → Shared → Prop} (m : MethAt s.heap me fn sf) (h : Q true s) : wpAny M A (borrowsExactly (.ref me)) Q E s := by
  refine Classical.byContradiction fun hn1 => ?_
  obtain ⟨⟨o, ho, hc, hd⟩, o', fd, ho', hd'⟩ := m
  refine hn1 ?_
  unfold borrowsExactly
  refine wpAny_bind (wpAny_load ho ?_)
  rw [hd]
  dsimp only
  rw [hc]
  show wpAny _ _ (if (Value.type "method" == Value.type "method") = true then _ else _) _ _ s
  rw [if_pos (beq_self_eq_true _)]
  refine wpAny_bind (wpAny_load ho' ?_)
  rw [hd']
  exact wpAny_pure h
theorem pyNext_call {Q : Option Value → Shared → Prop} (hh : A.handled = none) (hit : Heap.IsCallIter s.heap it me t) (m : MethAt s.heap me fn sf)
    (hc : codeAny (model prog w) A.in1 (.call (.ref me) ⟨[], []⟩) (fun r s' => match r with
      | .ok (.ret v) => ∃ ch tc, v = .str ch tc ∧ Heap.IsCallIter s'.heap it me t ∧ MethAt s'.heap me fn sf ∧
          (if ch = S "" then ∀ h', Heap.IsCallOver h' it → Heap.ExtBut it s'.heap h' → Q none { s' with heap := h' } else Q (some v) s')
      | _ => False) s) : wpAny (model prog w) A (pyNext (.ref it)) Q E s := by
  refine Classical.byContradiction fun hn1 => ?_
  obtain ⟨o, ho, hcl, hd⟩ := id hit
  refine hn1 ?_
  unfold pyNext
  refine wpAny_bind (wpAny_attempt (wpAny_callSpecial?_slot (name := Str.ofString "__next__") hit.typeIs slot_calliter_next
    (wpAny_call_entry slot_calliter_next hit.typeIs entry_calliter_next ?_ (args_calliter_next _))))
  show wpAny _ _ (field (.ref it) 2 >>= _) _ _ s
  refine wpAny_bind (wpAny_field ho hd (x := .bool false) rfl ?_)
  show wpAny _ _ (if (Value.bool false == Value.bool true) = true then _ else _) _ _ s
  rw [if_neg (by decide)]
  show wpAny _ _ (field (.ref it) 0 >>= _) _ _ s
  refine wpAny_bind (wpAny_field ho hd (x := .ref me) rfl ?_)
  refine wpAny_bind (wpAny_attempt ?_)
  unfold callOutOfASlot
  refine wpAny_bind (borrows m ?_)
  rw [if_pos rfl]
  refine wpAny_callBorrowed (codeAny_mono hc fun r s' hr => ?_)
  rcases r with e | f
  · exact hr.elim
  cases f with
  | next => exact hr.elim
  | brk => exact hr.elim
  | cont => exact hr.elim
  | ret v =>
    refine Classical.byContradiction fun hn2 => ?_
    obtain ⟨ch, tc, rfl, hit', m', hq⟩ := hr
    obtain ⟨o', ho', hcl', hd'⟩ := id hit'
    refine hn2 ?_
    show wpAny _ _ (field (.ref it) 2 >>= _) _ _ s'
    refine wpAny_bind (wpAny_field ho' hd' (x := .bool false) rfl ?_)
    show wpAny _ _ (if (Value.bool false == Value.bool true) = true then _ else _) _ _ s'
    rw [if_neg (by decide)]
    show wpAny _ _ (field (.ref it) 1 >>= _) _ _ s'
    refine wpAny_bind (wpAny_field ho' hd' (x := .str (S "") t) rfl ?_)
    refine wpAny_bind (wpAny_holding (eqBool_str ?_))
    by_cases he : ch = S ""
    · subst he
      rw [if_pos rfl] at hq
      rw [beq_self_eq_true]
      show wpAny _ _ (if (!true) = true then _ else _) _ _ s'
      rw [if_neg (by decide)]
      refine wpAny_bind (wpAny_rule ?_)
      show wpAny _ _ ((field (.ref it) 0 >>= _) >>= _) _ _ s'
      refine wpAny_bind (wpAny_bind (wpAny_field ho' hd' (x := .ref me) rfl ?_))
      have lets : ∀ {Q : Unit → Shared → Prop} {E busy}, Q () s' → wpAny (model prog w) A.in1 (slotLetsGo "callable_iterator.__next__" (.ref me) busy) Q E s' := fun h => by
        unfold slotLetsGo
        refine wpAny_bind (borrows m' ?_)
        rw [if_pos rfl]
        exact wpAny_pure h
      refine wpAny_bind (lets ?_)
      have u1 := Heap.SameBut.update (h := s'.heap) (a := it)
      refine wpAny_bind (wpAny_setField ho' hd' (by simp) ?_)
      have ho1 := Heap.get?_update_self (Obj.mapFields (·.setIfInBounds 0 Value.none)) ho' (Obj.isFreed_of_fields (Obj.data_mapFields hd' _))
      have hd1 := Obj.data_mapFields hd' (·.setIfInBounds 0 Value.none)
      refine wpAny_bind (wpAny_setField ho1 hd1 (by simp) ?_)
      have ho2 := Heap.get?_update_self (Obj.mapFields (·.setIfInBounds 1 Value.none)) ho1 (Obj.isFreed_of_fields (Obj.data_mapFields hd1 _))
      have hd2 := Obj.data_mapFields hd1 (·.setIfInBounds 1 Value.none)
      refine wpAny_setField ho2 hd2 (by simp) ?_
      have ho3 := Heap.get?_update_self (Obj.mapFields (·.setIfInBounds 2 (Value.bool true))) ho2 (Obj.isFreed_of_fields (Obj.data_mapFields hd2 _))
      have hd3 := Obj.data_mapFields hd2 (·.setIfInBounds 2 (Value.bool true))
      show wpAny _ _ (newExc (.type "StopIteration") [] >>= _) _ _ _
      refine wpAny_bind ?_
      simp only [newExc, newTuple]
      refine wpAny_bind (wpAny_newObj_type ?_ (by size_fits))
      refine wpAny_bind (m := firstArgMember _ _) (wpAny_of_eq (a := Value.none) (by first | rfl | (simp only [firstArgMember]; rfl)) ?_)
      refine wpAny_newObj_type ?_ (by size_fits)
      simp only [raiseNew]
      refine wpAny_bind (wpAny_handled ?_)
      rw [show A.in1.handled = none from hh]
      refine wpAny_throw ?_
      refine wpAny_bind (wpAny_isInstance (T := "StopIteration") (b := true) ⟨_, Heap.get?_push_size _ rfl, rfl⟩ isSubtype_stop ?_)
      refine wpAny_pure (hq _ ?_ ?_)
      · refine ⟨_, Heap.get?_push_of_some _ (Heap.get?_push_of_some _ ho3), ?_, ?_⟩
        · simp only [Obj.cls_mapFields]; exact hcl'
        · rw [hd3]; simp
      · exact ((((Heap.SameBut.update ..).extBut.trans (Heap.SameBut.update ..).extBut).trans (Heap.SameBut.update ..).extBut).push _).push _
    · rw [if_neg he] at hq
      rw [beq_false_of_ne (Ne.symm he)]
      show wpAny _ _ (if (!false) = true then _ else _) _ _ s'
      rw [if_pos (by decide)]
      exact wpAny_pure ⟨_, rfl, wpAny_pure hq⟩
end
end Mine
end
section
open PySem PySem.W PyProof.Rows PySem.Calls
set_option maxRecDepth 100000
namespace Mine
noncomputable def GivesM (w : World) (A : Around) (f : Addr) (args : List Value) (s : Shared) (mt : List Addr) (P : Value → List (Addr × Obj) → Prop) : Prop :=
  ∀ R : Result → Shared → Prop,
    (∀ v h' tk' new, (∀ b o, b ∉ mt → s.heap.get? b = some o → h'.get? b = some o) → (∀ p ∈ new, h'.get? p.1 = some p.2 ∧ (p.1 ∈ mt ∨ s.heap.get? p.1 = none)) → P v new → R (.ok (.ret v)) { s with heap := h', toks := tk' }) →
    codeAny (model prg w) A (.call (.ref f) ⟨args, []⟩) R s

noncomputable def EndM (s : Shared) (g : Heap) (L : Addr) (P : Value → List (Addr × Obj) → Prop) (fl : Flow) (s' : Shared) : Prop :=
  ∃ v h' tk' m' new, (match fl with | .ret v => v | _ => .none) = v ∧ s' = { s with heap := h', toks := tk' } ∧ Fr g L h' m' ∧ News g L h' new ∧ P v new
theorem EndM.mk {s : Shared} {g : Heap} {L : Addr} {P : Value → List (Addr × Obj) → Prop} {fl : Flow} {h' : Heap} {tk' : Nat} {m' : Str → Option Value} {new new' : List (Addr × Obj)}
    (F : Fr g L h' m') (N : News g L h' new) (hs : ∀ p ∈ new', p ∈ new) (hP : P (match fl with | .ret v => v | _ => .none) new') : EndM s g L P fl { s with heap := h', toks := tk' } := ⟨_, h', tk', m', new', rfl, rfl, F, News.sub N hs, hP⟩

structure LedIn (hb h : Heap) (led : List (Addr × Obj)) : Prop where
  keep : ∀ b o, hb.get? b = some o → h.get? b = some o
  led : ∀ p ∈ led, h.get? p.1 = some p.2 ∧ hb.get? p.1 = none
theorem LedIn.hidden {hb h : Heap} {led : List (Addr × Obj)} (x : LedIn hb h led) : ∀ b o, hb.get? b = some o → (hideAll h (led.map (·.1))).get? b = some o := fun b o e =>
  hideAll_get _ (x.keep b o e) fun q => by
    obtain ⟨p, hp, rfl⟩ := List.mem_map.mp q
    rw [(x.led p hp).2] at e; cases e

theorem givesM_of_frame {w : World} {A : Around} {s : Shared} {mg mb : Str → Option Value} {hb : Heap} {led : List (Addr × Obj)} {f : Addr} {args : List Value} {P : Value → List (Addr × Obj) → Prop}
    {name qual : Str} {params : Arguments} {body : List Stmt} {scope : Scope} {cl : List (Str × Addr)} {dV kV doc pm cdv ct : Value} {an : Option Addr} {fo : Obj} {binds : List (Str × Value)}
    (t : Tops w mg mb hb) (x : LedIn hb s.heap led) (hA : A.depth < recursionLimit)
    (ho : s.heap.get? f = some fo) (hd : fo.data = .func (fnX name qual params body scope cl dV kV doc pm an cdv ct)) (hcd : s.heap.CodeRec cdv qual)
    (hbind : BindsTo s (fnX name qual params body scope cl dV kV doc pm an cdv ct) ⟨args, []⟩ binds) (hloc : ∀ y ∈ binds, scope.names.lookup y.1 = some .local)
    (h : ∀ g L h₁, Tops w mg mb g → (∀ b o, hb.get? b = some o → g.get? b = some o) → L = s.heap.objs.size → Fr g L h₁ (fun y => binds.reverse.lookup y) → News g L h₁ led →
      wpAny (model prg w) (A.deeper (envX qual scope L f cdv cl)) (execs body (envX qual scope L f cdv cl)) (EndM s g L P) NoE
        { s with heap := h₁, toks := s.toks + binds.length })
    (hcell : ∀ x ∈ scope.names, x.2 ≠ .cell) (hco : scope.isCoroutine = false) (hgen : scope.isGenerator = false) (hk : scope.kind = .function) : GivesM w A f args s (led.map (·.1)) P := by
  intro R hR
  have k0 := x.hidden
  refine codeAny_call_def (fd := fnX name qual params body scope cl dV kV doc pm an cdv ct) (body := body) (binds := binds) hA ho hd (t.T.nolimit.keeps x.keep) hcd rfl hbind hcell hloc (fun h₁ hns hk₁ => ?_) hco hgen hk
  refine wpAny_mono (h (hideAll s.heap (led.map (·.1))) _ h₁ (t.keeps k0) k0 rfl ⟨hns, fun b o e => hk₁ b o (of_hideAll _ e), Nat.le_of_eq (hideAll_size _ _)⟩
    (fun p hp => ⟨hk₁ _ _ (x.led p hp).1, Nat.ne_of_lt (Heap.lt_size (x.led p hp).1), hideAll_none _ (List.mem_map_of_mem hp)⟩)) (fun fl s' hl => ?_) fun _ _ e => e.elim
  obtain ⟨v, h', tk', m', new, hv, rfl, F', N', hP⟩ := hl
  have key : R (.ok (.ret v)) { s with heap := h', toks := tk' } := by
    refine hR v h' tk' new (fun b o hb e => F'.keep _ _ (hideAll_get _ e hb)) (fun p hp => ⟨(N' p hp).1, ?_⟩) hP
    by_cases hm : p.1 ∈ led.map (·.1)
    · exact .inl hm
    · refine .inr ?_
      cases q : s.heap.get? p.1 with
      | none => rfl
      | some o => have := (N' p hp).2.2; rw [hideAll_get _ q hm] at this; cases this
  cases fl <;> (subst hv; exact key)

section
variable {w : World} {A : Around} {E : Value → Shared → Prop} {s : Shared} {h₀ : Heap} {L : Addr} {m : Str → Option Value} {news led rest : List (Addr × Obj)} {f : Addr} {args : List Value} {P : Value → List (Addr × Obj) → Prop}
theorem afterM {h' : Heap} {new : List (Addr × Obj)} (F : Fr h₀ L s.heap m) (N : News h₀ L s.heap news) (hl : ∀ p ∈ led, p ∈ news) (hr : ∀ p ∈ rest, p ∈ news ∧ p.1 ∉ led.map (·.1))
    (k : ∀ b o, b ∉ led.map (·.1) → s.heap.get? b = some o → h'.get? b = some o) (hn : ∀ p ∈ new, h'.get? p.1 = some p.2 ∧ (p.1 ∈ led.map (·.1) ∨ s.heap.get? p.1 = none)) :
    Fr h₀ L h' m ∧ News h₀ L h' (new ++ rest) := by
  have hL : L ∉ led.map (·.1) := fun q => by
    obtain ⟨p, hp, e⟩ := List.mem_map.mp q
    exact (N p (hl p hp)).2.1 e
  have h0 : ∀ b o, h₀.get? b = some o → b ∉ led.map (·.1) := fun b o e q => by
    obtain ⟨p, hp, rfl⟩ := List.mem_map.mp q
    rw [(N p (hl p hp)).2.2] at e; cases e
  refine ⟨⟨F.ns.at' fun o e => k _ o hL e, fun b o e => k _ _ (h0 b o e) (F.keep b o e), F.above⟩, fun p hp => ?_⟩
  rcases List.mem_append.mp hp with hp | hp
  · obtain ⟨h1, h2⟩ := hn p hp
    rcases h2 with h2 | h2
    · obtain ⟨q, hq, e⟩ := List.mem_map.mp h2
      (try dsimp only at e)
      exact ⟨h1, e ▸ (N q (hl q hq)).2.1, e ▸ (N q (hl q hq)).2.2⟩
    · refine ⟨h1, fun e => ?_, ?_⟩
      · obtain ⟨o, _, _, hL', _⟩ := F.ns
        rw [e, hL'] at h2; cases h2
      · cases q : h₀.get? p.1 with
        | none => rfl
        | some o => have := F.keep _ _ q; rw [h2] at this; cases this
  · obtain ⟨h1, h2⟩ := hr p hp
    exact ⟨k _ _ h2 (N p h1).1, (N p h1).2⟩
theorem call_M {Q : Value → Shared → Prop} (F : Fr h₀ L s.heap m) (N : News h₀ L s.heap news) (hl : ∀ p ∈ led, p ∈ news) (hr : ∀ p ∈ rest, p ∈ news ∧ p.1 ∉ led.map (·.1))
    (g : GivesM w A f args s (led.map (·.1)) P)
    (h : ∀ v h' tk' new, Fr h₀ L h' m → News h₀ L h' (new ++ rest) → P v new → Q v { s with heap := h', toks := tk' }) :
    wpAny (model prg w) A (call (.ref f) args) Q E s := by
  refine wpAny_call (g _ ?_)
  intro v h' tk' new k hn hP
  obtain ⟨F', N'⟩ := afterM F N hl hr k hn
  exact h v h' tk' new F' N' hP
end
end Mine
end
section
open PySem PySem.W PyProof.Rows PySem.Calls
set_option maxRecDepth 100000
namespace Mine
theorem givesM_of_cells {w : World} {A : Around} {s : Shared} {mg mb : Str → Option Value} {hb : Heap} {led : List (Addr × Obj)} {f : Addr} {args : List Value} {P : Value → List (Addr × Obj) → Prop}
    {name qual : Str} {params : Arguments} {body : List Stmt} {scope : Scope} {dV kV doc pm cdv ct : Value} {an : Option Addr} {fo : Obj} {binds : List (Str × Value)}
    (t : Tops w mg mb hb) (x : LedIn hb s.heap led) (hA : A.depth < recursionLimit)
    (ho : s.heap.get? f = some fo) (hd : fo.data = .func (fnX name qual params body scope [] dV kV doc pm an cdv ct)) (hcd : s.heap.CodeRec cdv qual)
    (hbind : BindsTo s (fnX name qual params body scope [] dV kV doc pm an cdv ct) ⟨args, []⟩ binds)
    (hkind : ∀ n, ∀ x ∈ binds, scope.names.lookup x.1 = some .local ∨ (scope.names.lookup x.1 = some .cell ∧ ((cellsFrom n scope.names []).lookup x.1).isSome = true))
    (hnd : ((cellsFrom 0 scope.names []).map (·.1)).Nodup)
    (h : ∀ g L h₁ tk cells, Tops w mg mb g → (∀ b o, hb.get? b = some o → g.get? b = some o) → L = s.heap.objs.size → Fr g L h₁ (bindL (envOfC qual scope L f cdv).kindOf binds fun _ => none) → News g L h₁ (cells ++ led) →
      CellsAre (bindC (envOfC qual scope L f cdv).kindOf binds fun _ => none) (cellsFrom (L + 1) scope.names []) cells → (∀ p ∈ led, p.1 < L) →
      wpAny (model prg w) (A.deeper (envOfC qual scope L f cdv)) (execs body (envOfC qual scope L f cdv)) (EndM s g L P) NoE
        { s with heap := h₁, toks := tk })
    (hco : scope.isCoroutine = false) (hgen : scope.isGenerator = false) (hk : scope.kind = .function) : GivesM w A f args s (led.map (·.1)) P := by
  intro R hR
  have k0 := x.hidden
  refine codeAny_call_function hA ho hd hco hgen rfl hcd (hbind _ _ _ _ ?_)
  refine wpAny_newFunctionEnv_cells hk (hkind _) fun env' he s' y => ?_
  subst he
  refine ⟨(t.T.nolimit.keeps x.keep).keeps y.toInCall.keep, codeAny_func ?_⟩
  refine Classical.byContradiction fun hn1 => ?_
  obtain ⟨h₁, tk, rfl, _⟩ := y.done
  have hk₁ := y.toInCall.keep
  obtain ⟨cells, NC, Y⟩ := Cl.news (h₀ := s.heap) (Nat.le_refl _) fun n c hm => ⟨y.cell n c (lookup_of_mem_nodup (cellsFrom_names scope.names 0 (s.heap.objs.size + 1) [] [] rfl ▸ hnd) hm), y.above n c hm⟩
  refine hn1 ?_
  refine wpAny_mono (h (hideAll s.heap (led.map (·.1))) _ h₁ tk cells (t.keeps k0) k0 rfl ⟨y.toInCall.ns, fun b o e => hk₁ b o (of_hideAll _ e), Nat.le_of_eq (hideAll_size _ _)⟩ (fun p hp => ?_) Y (fun p hp => Heap.lt_size (x.led p hp).1)) (fun fl s' hl => ?_) fun _ _ e => e.elim
  · rcases List.mem_append.mp hp with hp | hp
    · refine ⟨(NC p hp).1, (NC p hp).2.1, ?_⟩
      cases q : (hideAll s.heap (led.map (·.1))).get? p.1 with
      | none => rfl
      | some o => have := of_hideAll _ q; rw [(NC p hp).2.2] at this; cases this
    · exact ⟨hk₁ _ _ (x.led p hp).1, Nat.ne_of_lt (Heap.lt_size (x.led p hp).1), hideAll_none _ (List.mem_map_of_mem hp)⟩
  refine Classical.byContradiction fun hn2 => ?_
  obtain ⟨v, h', tk', m', new, hv, rfl, F', N', hP⟩ := hl
  refine hn2 ?_
  have key : R (.ok (.ret v)) { s with heap := h', toks := tk' } := by
    refine hR v h' tk' new (fun b o hb e => F'.keep _ _ (hideAll_get _ e hb)) (fun p hp => ⟨(N' p hp).1, ?_⟩) hP
    by_cases hm : p.1 ∈ led.map (·.1)
    · exact .inl hm
    · refine .inr ?_
      cases q : s.heap.get? p.1 with
      | none => rfl
      | some o => have := (N' p hp).2.2; rw [hideAll_get _ q hm] at this; cases this
  cases fl <;> (subst hv; exact key)

noncomputable abbrev LL : List Str := loose ++ (recsOf hd.view_39).map (·.name) ++ (litsOf hd.view_39).map (·.1) ++ (clssOf hd.view_39 loose).map (·.name)
theorem topread_back {mean : ExcName → Option Value} {mg mb : Str → Option Value} {h : Heap} (T : Top topProg LL mean mg mb h) : TopRead hd.view_39 loose mg mb h :=
  ⟨T.g, T.b, T.nolimit, T.builtins, fun x h1 h2 h3 h4 h5 => T.free x h1 (fun q => by
    rcases List.mem_append.mp q with q | q
    · rcases List.mem_append.mp q with q | q
      · rcases List.mem_append.mp q with q | q
        · exact h2 q
        · exact h3 q
      · exact h4 q
    · exact h5 q) (fun q => nomatch (show x ∈ ([] : List Str) from q)) (fun q => nomatch (show x ∈ ([] : List Str) from q)) (fun q => nomatch (show x ∈ ([] : List Str) from q))⟩
structure Tops9 (w : World) (mean : ExcName → Option Value) (mg mb : Str → Option Value) (h : Heap) : Prop where
  X : (hd.heap_39 w.params).In h
  T9 : Top topProg LL mean mg mb h
  c1 : CodeHd h 109 107
  c2 : CodeHd h 62 58
theorem Tops9.keeps {w : World} {mean : ExcName → Option Value} {mg mb : Str → Option Value} {h h' : Heap} (t : Tops9 w mean mg mb h) (k : Keep h h') : Tops9 w mean mg mb h' :=
  ⟨t.X.keeps k, t.T9.keeps k, t.c1.keeps k, t.c2.keeps k⟩
theorem Tops9.tops {w : World} {mean : ExcName → Option Value} {mg mb : Str → Option Value} {h : Heap} (t : Tops9 w mean mg mb h) : Tops w mg mb h := ⟨t.X, topread_back t.T9⟩
end Mine
end
section
open PySem PySem.W PyProof.Rows PySem.Calls
set_option maxRecDepth 100000
namespace Mine
theorem slot_fn_setattr : Slot "function" "__setattr__" "object.__setattr__" :=
  .of (owner := "object") (n := "__setattr__") (by rw [typeLookup_type, builtinLookup_eq_fast]; kernel_rfl) (by decide +kernel) (by decide +kernel) (by decide +kernel)
    (by first | exact .inl (by decide +kernel) | exact .inr (by decide +kernel)) (by rw [isSubtype_type]; kernel_rfl)
theorem entry_osa : entryFor table "object.__setattr__" = some Builtin.«object.__setattr__» := entryFor_of_fast (by kernel_rfl)
theorem args_osa (a b c : Value) : argsOk "object.__setattr__" ⟨[a, b, c], []⟩ := by unfold argsOk; kernel_rfl
theorem fn_no_read : typeLookup (.type "function") (S "read") = pure none := by rw [typeLookup_type, builtinLookup_eq_fast]; kernel_rfl
theorem mro_fn : mroOf (.type "function") = pure [.type "function", .type "object"] := by first | rfl | kernel_rfl
theorem refuse_fn (self : Value) : refuseLoop self "__setattr__" [.type "function", .type "object"] = pure () := by
  unfold refuseLoop
  first | rfl | kernel_rfl
theorem fn_setattr {prog : Program} {w : World} {A : Around} {E : Value → Shared → Prop} {s : Shared} {x : Addr} {o : Obj} {fd : FuncData} {v : Value} {Q : Unit → Shared → Prop} (hx : s.heap.get? x = some o) (hc : o.cls = .type "function") (hf : o.data = .func fd) (hdn : o.dict = none)
    (hq : ∀ h' tk', h'.get? x = some { o with dict := some s.heap.objs.size } → h'.Ns1 s.heap.objs.size (fun y => if y = S "read" then some v else none) →
      (∀ b ob, b ≠ x → s.heap.get? b = some ob → h'.get? b = some ob) → Q () { s with heap := h', toks := tk' }) :
    wpAny (model prog w) A (setAttr (.ref x) (S "read") v) Q E s := by
  have hT : s.TypeIs (.ref x) "function" := ⟨o, hx, hc⟩
  unfold setAttr
  refine wpAny_bind (wpAny_mkText ?_)
  have hT' : Shared.TypeIs { s with toks := s.toks + 1 } (.ref x) "function" := ⟨o, hx, hc⟩
  refine wpAny_bind (wpAny_callSpecial?_slot (name := Str.ofString "__setattr__") hT' slot_fn_setattr (wpAny_call_entry slot_fn_setattr hT' entry_osa ?_ (args_osa _ _ _)))
  unfold Builtin.«object.__setattr__»
  repeat (first | rw [refuse_eq] | (rw [refuse_fn]) | (with_reducible refine wpAny_loadPart_at hx ?_; rw [hc]) | rw [mro_fn] | rw [fn_no_read] | wp_step)
  rw [hdn]
  dsimp only
  rw [if_neg (by rw [show typeHasDict (Value.type "function") = true from by kernel_rfl]; decide), hf]
  dsimp only
  have hx₁ : (s.heap.push { cls := .type "dict", data := .dict #[] }).get? x = some o := Heap.get?_push_of_some _ hx
  have hxs : x ≠ s.heap.objs.size := Nat.ne_of_lt (Heap.lt_size hx)
  refine wpAny_bind (wpAny_alloc' ?_)
  refine wpAny_bind (wpAny_update' hx₁ ?_)
  unfold dictMade
  dsimp only
  rw [if_neg (by decide)]
  refine wpAny_pure ?_
  have hgd : ((s.heap.push { cls := .type "dict", data := .dict #[] }).update x fun o => { cls := o.cls, dict := some s.heap.objs.size, data := o.data, slots := o.slots }).get? s.heap.objs.size
      = some { cls := .type "dict", data := .dict #[] } :=
    (Heap.get?_update_ne _ _ _ _ hxs.symm).trans (Heap.get?_push_at rfl rfl)
  have hnd : ((s.heap.push { cls := .type "dict", data := .dict #[] }).update x fun o => { cls := o.cls, dict := some s.heap.objs.size, data := o.data, slots := o.slots }).Ns s.heap.objs.size (fun _ => none) :=
    ⟨_, #[], _, hgd, rfl, fun e he => absurd he (by simp), fun _ => rfl⟩
  dsimp only
  unfold Builtin.ObjectAttr.storeInDict Builtin.ObjectAttr.newKeyGuard
  refine wpAny_bind (wpAny_pure (wpAny_bind (wpAny_nsSet1 (Heap.Ns1.of_empty hnd) fun h' hn' hs => ?_)))
  obtain ⟨oD, esD, epD, hoD, hdD, hcD⟩ := hn'.count (Within.cons (S "read") v Within.nil)
  refine wpAny_bind (wpAny_lookBehind hoD (by rw [hdD]; exact pastItsLine_dict (Nat.le_trans hcD (by rw [List.length_cons, List.length_nil, sizeLine_eq]; lia))) ?_)
  wp_walk
  refine ⟨_, rfl, wpAny_pure (hq h' _ ?_ hn' (fun b ob hbx hb => ?_))⟩
  · refine (hs.2 x hxs).trans (Heap.get?_update_self _ hx₁ ?_)
    have hfr := (Heap.get?_some_iff.mp hx).2
    obtain ⟨oc, od, odt, osl⟩ := o
    cases odt <;> first | rfl | exact hfr
  · exact (hs.2 b (Nat.ne_of_lt (Heap.lt_size hb))).trans ((Heap.get?_update_ne _ _ _ _ hbx).trans (Heap.get?_push_of_some _ hb))
theorem ns1_obj {h : Heap} {C : Addr} {m : Str → Option Value} (x : h.Ns1 C m) : ∃ o, h.get? C = some o ∧ LCg.NsObj o m := let ⟨o, es, ep, e, hd, k, _, r⟩ := x; ⟨o, e, es, ep, hd, k, r⟩
theorem fn_setattr_K {prog : Program} {w : World} {A : Around} {E : Value → Shared → Prop} {s : Shared} {h₀ : Heap} {L x : Addr} {m : Str → Option Value} {news : List (Addr × Obj)} {news' : Addr → List (Addr × Obj)} {o : Obj} {fd : FuncData} {v : Value} {Q : Unit → Shared → Prop}
    (F : Fr h₀ L s.heap m) (N : News h₀ L s.heap news) (hx : (x, o) ∈ news) (hc : o.cls = .type "function") (hf : o.data = .func fd) (hdn : o.dict = none)
    (U : ∀ D, Upd x o { o with dict := some D } news (news' D))
    (h : ∀ D oD h' tk, Fr h₀ L h' m → News h₀ L h' ((D, oD) :: news' D) → LCg.NsObj oD (fun y => if y = S "read" then some v else none) → (∀ p ∈ news, p.1 < D) → Q () { s with heap := h', toks := tk }) :
    wpAny (model prog w) A (setAttr (.ref x) (S "read") v) Q E s := by
  have hm := N _ hx
  refine fn_setattr hm.1 hc hf hdn fun h' tk e1 e2 e3 => ?_
  obtain ⟨oD, hD, hns⟩ := ns1_obj e2
  have hLx : L ≠ x := fun e => hm.2.1 e.symm
  have h0 : h₀.get? s.heap.objs.size = none := by
    cases q : h₀.get? s.heap.objs.size with
    | none => rfl
    | some ob => exact absurd (Heap.lt_size (F.keep _ _ q)) (Nat.lt_irrefl _)
  refine h s.heap.objs.size oD h' tk ⟨F.ns.at' fun ob e => e3 _ _ hLx e, fun b ob e => e3 _ _ (fun q => by rw [q, hm.2.2] at e; cases e) (F.keep _ _ e), F.above⟩ (fun p hp => ?_) hns (fun p hp => Heap.lt_size (N p hp).1)
  obtain ⟨pre, post, hp1, hp2, a, c⟩ := (U s.heap.objs.size).split
  rcases List.mem_cons.mp hp with rfl | hp
  · exact ⟨hD, Nat.ne_of_gt F.ns.lt, h0⟩
  · rw [hp2] at hp
    have keep : ∀ q ∈ pre ++ post, h'.get? q.1 = some q.2 ∧ q.1 ≠ L ∧ h₀.get? q.1 = none := fun q hq => by
      have hq' : q ∈ news := by rw [hp1]; exact (List.mem_append.mp hq).elim (fun h => List.mem_append_left _ h) (fun h => List.mem_append_right _ (.tail _ h))
      have hne : q.1 ≠ x := (List.mem_append.mp hq).elim (a q) (c q)
      exact ⟨e3 _ _ hne (N q hq').1, (N q hq').2⟩
    rcases List.mem_append.mp hp with hp | hp
    · exact keep p (List.mem_append_left _ hp)
    · rcases List.mem_cons.mp hp with rfl | hp
      · exact ⟨e1, hm.2⟩
      · exact keep p (List.mem_append_right _ hp)
end Mine
end
section
open PySem PySem.W PyProof.Rows PySem.Calls
set_option maxRecDepth 100000
namespace Mine
theorem fn_ga : typeLookup (.type "function") (S "__getattribute__") = pure (some (.builtin "object.__getattribute__")) := by rw [typeLookup_type, builtinLookup_eq_fast]; kernel_rfl
theorem fn_getattr : typeLookup (.type "function") (S "__getattr__") = pure none := by rw [typeLookup_type, builtinLookup_eq_fast]; kernel_rfl
theorem slot_fn_ga : Slot "function" "__getattribute__" "object.__getattribute__" :=
  .of (owner := "object") (n := "__getattribute__") (by rw [typeLookup_type, builtinLookup_eq_fast]; kernel_rfl) (by decide +kernel) (by decide +kernel) (by decide +kernel)
    (by first | exact .inl (by decide +kernel) | exact .inr (by decide +kernel)) (by rw [isSubtype_type]; kernel_rfl)
theorem entry_oga : entryFor table "object.__getattribute__" = some Builtin.«object.__getattribute__» := entryFor_of_fast (by kernel_rfl)
theorem args_oga (a b : Value) : argsOk "object.__getattribute__" ⟨[a, b], []⟩ := by unfold argsOk; kernel_rfl
theorem fn_getMethod {prog : Program} {w : World} {A : Around} {E : Value → Shared → Prop} {s : Shared} {x D : Addr} {o : Obj} {fd : FuncData} {fr : Addr} {m : Str → Option Value} {pl : Sem Bool} {Q : Value × List Value → Shared → Prop} (hx : s.heap.get? x = some o) (hc : o.cls = .type "function") (hf : o.data = .func fd) (hdn : o.dict = some D)
    (hD : s.heap.Ns D m) (hv : m (S "read") = some (.ref fr))
    (hq : ∀ tk', Q (.ref fr, []) { s with toks := tk' }) :
    wpAny (model prog w) A (getMethod (.ref x) (S "read") pl) Q E s := by
  have hT : s.TypeIs (.ref x) "function" := ⟨o, hx, hc⟩
  unfold getMethod
  refine wpAny_bind (wpAny_specialOf hT fn_ga ?_)
  dsimp only
  rw [if_neg (by decide +kernel)]
  refine wpAny_bind (wpAny_specialOf hT fn_getattr ?_)
  rw [if_neg (by decide)]
  refine wpAny_bind (wpAny_specialOf hT fn_no_read ?_)
  refine wpAny_bind ?_
  unfold getAttr
  refine wpAny_bind (wpAny_mkText ?_)
  unfold getAttrBy
  have hT1 : Shared.TypeIs { s with toks := s.toks + 1 } (.ref x) "function" := ⟨o, hx, hc⟩
  refine wpAny_holding (wpAny_bind (wpAny_typeOf hT1 ?_))
  refine wpAny_bind (wpAny_of_eq fn_ga ?_)
  dsimp only
  rw [if_neg (by decide)]
  unfold getAttrByItsOwn
  refine wpAny_bind (wpAny_of_eq (a := none) (by rfl) ?_)
  refine wpAny_bind (wpAny_attempt (wpAny_holding ?_))
  unfold callGetattribute
  rw [if_neg (by decide)]
  unfold boundAndCalled
  refine wpAny_bind (wpAny_of_eq (slot_fn_ga.bind (.ref x)) ?_)
  show wpAny _ _ (call (.builtin "object.__getattribute__") [.ref x, .str (S "read") s.toks]) _ _ _
  refine wpAny_call_entry slot_fn_ga hT1 entry_oga ?_ (args_oga _ _)
  unfold Builtin.«object.__getattribute__»
  refine wpAny_bind (wpAny_of_eq (a := (Value.ref x, [Value.str (S "read") s.toks])) (by first | rfl | kernel_rfl!) ?_)
  dsimp only
  refine wpAny_bind (wpAny_of_eq (a := S "read") (by rfl) ?_)
  refine wpAny_bind (wpAny_typeOf hT1 ?_)
  unfold Builtin.ObjectAttr.find
  refine wpAny_bind (wpAny_bind (wpAny_of_eq fn_no_read ?_))
  refine wpAny_bind (wpAny_of_eq (a := none) (by rfl) ?_)
  refine wpAny_bind (wpAny_of_eq (a := none) (by rfl) ?_)
  unfold Builtin.ObjectAttr.ownThenClass Builtin.ObjectAttr.inOwnDict Builtin.ObjectAttr.ownDict
  dsimp only
  have inst : ∀ {Q : Option Addr → Shared → Prop} {E}, Q (some D) { s with toks := s.toks + 1 } → wpAny (model prog w) A.in1 (instanceDict x false) Q E { s with toks := s.toks + 1 } := fun {Q E} h => by
    unfold instanceDict
    refine wpAny_bind (wpAny_loadPart_at hx ?_)
    rw [hc, hdn]
    exact wpAny_pure h
  refine wpAny_bind (wpAny_bind (wpAny_bind ?_))
  refine wpAny_loadPart_at hx ?_
  rw [hf]
  refine inst ?_
  unfold Builtin.ObjectAttr.inDict
  refine wpAny_nsGet hD ?_
  rw [hv]
  refine wpAny_bind (wpAny_rule ?_)
  refine wpAny_pure ?_
  exact wpAny_pure ⟨_, rfl, wpAny_pure (wpAny_pure (hq _))⟩
theorem fn_getMethod_K {prog : Program} {w : World} {A : Around} {E : Value → Shared → Prop} {s : Shared} {h₀ : Heap} {L x D : Addr} {news : List (Addr × Obj)} {o oD : Obj} {fd : FuncData} {fr : Addr} {m : Str → Option Value} {pl : Sem Bool} {Q : Value × List Value → Shared → Prop}
    (N : News h₀ L s.heap news) (hx : (x, o) ∈ news) (hc : o.cls = .type "function") (hf : o.data = .func fd) (hdn : o.dict = some D)
    (hDm : (D, oD) ∈ news) (hD : LCg.NsObj oD m) (hv : m (S "read") = some (.ref fr))
    (hq : ∀ tk', Q (.ref fr, []) { s with toks := tk' }) :
    wpAny (model prog w) A (getMethod (.ref x) (S "read") pl) Q E s :=
  fn_getMethod (N _ hx).1 hc hf hdn (hD.ns (N _ hDm).1) hv hq
end Mine
end
section
open PySem PySem.W PyProof.Rows PySem.Calls
set_option maxRecDepth 100000
namespace Mine

noncomputable def readBody : List Stmt := match ((stmtsAt 13)[1]? : Option Stmt) with
  | some (Stmt.FunctionDef _ _ body _ _ _ _ _ _ _) => body
  | _ => []
noncomputable def readScope : Scope := match ((stmtsAt 13)[1]? : Option Stmt) with
  | some (Stmt.FunctionDef _ _ _ _ _ _ scope _ _ _) => scope
  | _ => default
noncomputable def readParams : Arguments := match ((stmtsAt 13)[1]? : Option Stmt) with
  | some (Stmt.FunctionDef _ a _ _ _ _ _ _ _ _) => a
  | _ => default
theorem readBody_ok : readBody.length = 2 := by kernel_rfl
theorem readScope_ok : readScope.kind = .function := by kernel_rfl
noncomputable abbrev readFn (pm : Value) (cT cP c' : Addr) (doc ctv : Value) : Obj := fnMade (Str.ofString "read") (Str.ofString "_law_tokens.<locals>.read") readParams readBody readScope [(Str.ofString "text", cT), (Str.ofString "place", cP)] doc pm c' ctv
noncomputable abbrev lexDict (w : World) (n : Int) (f l : Addr) (tn t1 t2 t3 t4 t5 : Tok) : Obj :=
  dictOf [{ hash := PyData.keyHash w.params (Str.ofString "lineno"), key := .str (Str.ofString "lineno") t1, val := .int n tn },
    { hash := PyData.keyHash w.params (Str.ofString "instream"), key := .str (Str.ofString "instream") t2, val := .ref f },
    { hash := PyData.keyHash w.params (Str.ofString "whitespace"), key := .str (Str.ofString "whitespace") t3, val := .str (Str.ofString "\n\t\x0d ") t4 },
    { hash := PyData.keyHash w.params (Str.ofString "pushback"), key := .str (Str.ofString "pushback") t5, val := .ref l }] 4
noncomputable abbrev lexLed (w : World) (pm : Value) (x d D f fr c' lp cP cT l : Addr) (n p : Int) (tn t1 t2 t3 t4 t5 tp' : Tok) (oD oc oP oT : Obj) (fdl : FuncData) (doc ctv : Value) : List (Addr × Obj) :=
  [(x, instObj 52 d), (d, lexDict w n f l tn t1 t2 t3 t4 t5), (D, oD), (f, { cls := .type "function", dict := some D, data := .func fdl }), (fr, readFn pm cT cP c' doc ctv), (c', oc), (lp, W.listOf #[.int p tp'] 0), (cP, oP), (cT, oT)]
theorem chAt_eq (text : Str) (p : Int) : Txt.slice text (some ([[p].getD (Int.toNat 0) 0 + 1].getD (Int.toNat 0) 0 - 1)) (some ([[p].getD (Int.toNat 0) 0 + 1].getD (Int.toNat 0) 0)) = Txt.slice text (some p) (some (p + 1)) := by
  have : ([[p].getD (Int.toNat 0) 0 + 1].getD (Int.toNat 0) 0 - 1 : Int) = p := by show p + 1 - 1 = p; lia
  rw [this]; rfl
theorem val_eq {v : Value} {c c' : Str} {t : Tok} (h : v = .str c t) (e : c = c') : v = .str c' t := by rw [h, e]
noncomputable def chAt (text : Str) (p : Int) : Str := Txt.slice text (some p) (some (p + 1))
set_option maxHeartbeats 1000000 in
theorem readchar_spec {w : World} {A : Around} {env0 : Env} {outer : List Env} {base : Heap} {s : Shared} {mean : ExcName → Option Value} {mg mb : Str → Option Value} {hb : Heap} {rest : List (Addr × Obj)}
    {x d f l D fr c' cT cP lp : Addr} {n p : Int} {tn t1 t2 t3 t4 t5 tp' tq tx : Tok} {oD oc oP oT of : Obj} {fdl : FuncData} {doc ctv pm : Value} {vs : Array Value} {text : Str}
    (tp9 : Tops9 w mean mg mb hb) (hA : A.depth + 10 < recursionLimit) (hh : A.handled = none) (hfr : A.frames = some outer) (B0 : Below A base outer hb)
    (hD : LCg.NsObj oD (fun y => if y = S "read" then some (.ref fr) else none)) (hof : of = ({ cls := .type "function", dict := some D, data := .func fdl } : Obj))
    (hoc : oc.data = .fields vs) (hvs : vs[1]? = some (.str (Str.ofString "_law_tokens.<locals>.read") tq)) (hoP : oP.data = .cell (some (.ref lp))) (hoT : oT.data = .cell (some (.str text tx)))
    (lx : LedIn hb s.heap ((x, instObj 52 d) :: (d, lexDict w n f l tn t1 t2 t3 t4 t5) :: (D, oD) :: (f, of) :: (fr, readFn pm cT cP c' doc ctv) :: (c', oc) :: (lp, W.listOf #[.int p tp'] 0) :: (cP, oP) :: (cT, oT) :: []))
    (htx : text.length ≤ 100000) (nd : NdA [x, d, D, f, fr, c', lp, cP, cT]) :
    GivesM w A 35 [.ref x] s [x, d, D, f, fr, c', lp, cP, cT] (fun v new => ∃ t' n' tn' tpp, v = .str (chAt text p) t' ∧ n' = (if chAt text p = S "\n" then n + 1 else n) ∧ new = lexLed w pm x d D f fr c' lp cP cT l n' (p + 1) tn' t1 t2 t3 t4 t5 tpp oD oc oP oT fdl doc ctv) := by
  have tp := tp9.tops
  obtain ⟨A, rfl⟩ : ∃ A0 : Around, A = { A0 with handled := none, frames := some outer } := ⟨A, by cases A; cases hh; cases hfr; rfl⟩
  have hA1 : A.depth + 10 < recursionLimit := hA
  subst hof
  refine givesM_of_frame (led := (x, instObj 52 d) :: (d, lexDict w n f l tn t1 t2 t3 t4 t5) :: (D, oD) :: (f, _) :: (fr, readFn pm cT cP c' doc ctv) :: (c', oc) :: (lp, W.listOf #[.int p tp'] 0) :: (cP, oP) :: (cT, oT) :: []) tp lx (by show A.depth < _; lia) (lx.keep _ _ (tp.X _ _ (by k_is))) rfl ((codeRec_of tp.X (by k_is)).keeps lx.keep) (BindsTo.of_eq rfl) (locs rfl) (fun g L h₁ tpg hkg hLs F N => ?_) (by decide) (by rfl) (by rfl) (by rfl)
  refine hideQ fun Q0 hQ0 => ?_
  have tg9 := tp9.keeps hkg
  obtain ⟨X, T, C1, C2⟩ := tg9
  have B : Below { A with handled := none, frames := some outer } base outer g := ⟨B0.stack, fun b o e => hkg b o (B0.stays b o e), B0.frames.of_keeps fun b o e _ => ⟨o, hkg b o e, rfl⟩⟩
  have e1 : ([p + 1].getD (Int.toNat 0) 0 - 1 : Int) = p := by show p + 1 - 1 = p; lia
  have on1 : On "getMethod ref" := ⟨⟩
  walk_at "steps"
  refine Hold.mk ?_
  refine fn_getMethod_K (by k_asm) (by k_mem) (by exact rfl) (by exact rfl) (by exact rfl) (by k_mem) (by assumption) (by exact rfl) ?_
  intro tk'
  walk_at "steps"
  all_goals (
    (rename Fr _ _ _ _ => F'); (rename News _ _ _ _ => N')
    (try dsimp only)
    refine hQ0 _ _ (EndM.mk (new' := lexLed w pm x d D f fr c' lp cP cT l _ (p + 1) _ t1 t2 t3 t4 t5 _ oD oc oP oT fdl doc ctv) F' N' (by walk_at "mem_all") ⟨_, _, _, _, val_eq rfl ?_, ?_, rfl⟩))
  · exact chAt_eq text p
  · rename (_ == _) = true => hne
    have h' : chAt text p = S "\n" := (chAt_eq text p).symm.trans (eq_of_beq hne)
    rw [if_pos h']
  · exact chAt_eq text p
  · rename (_ == _) = false => hne
    have h' : ¬ chAt text p = S "\n" := fun e => ne_of_beq_false hne ((chAt_eq text p).trans e)
    rw [if_neg h']
end Mine
end
section
open PySem PySem.W PyProof.Rows PySem.Calls
set_option maxRecDepth 100000
namespace Mine
set_option genInjectivity false in
set_option genSizeOf false in
structure LexC where
  (x d D f fr c' lp cP cT l : Addr) (t1 t2 t3 t4 t5 tq tx : Tok) (oD oc oP oT : Obj) (fdl : FuncData) (doc ctv pm : Value) (vs : Array Value) (text : Str)
structure LexC.Ok (C : LexC) : Prop where
  hD : LCg.NsObj C.oD (fun y => if y = S "read" then some (.ref C.fr) else none)
  hoc : C.oc.data = .fields C.vs
  hvs : C.vs[1]? = some (.str (Str.ofString "_law_tokens.<locals>.read") C.tq)
  hoP : C.oP.data = .cell (some (.ref C.lp))
  hoT : C.oT.data = .cell (some (.str C.text C.tx))
  htx : C.text.length ≤ 100000
  nd : NdA [C.x, C.d, C.D, C.f, C.fr, C.c', C.lp, C.cP, C.cT]
noncomputable abbrev LexC.led (C : LexC) (w : World) (n p : Int) (tn tp' : Tok) : List (Addr × Obj) :=
  lexLed w C.pm C.x C.d C.D C.f C.fr C.c' C.lp C.cP C.cT C.l n p tn C.t1 C.t2 C.t3 C.t4 C.t5 tp' C.oD C.oc C.oP C.oT C.fdl C.doc C.ctv
noncomputable abbrev LexC.adrs (C : LexC) : List Addr := [C.x, C.d, C.D, C.f, C.fr, C.c', C.lp, C.cP, C.cT]
theorem LexC.adrs_eq (C : LexC) (w : World) (n p : Int) (tn tp' : Tok) : (C.led w n p tn tp').map (·.1) = C.adrs := rfl
noncomputable def nlAt (text : Str) (n p : Int) : Int := if chAt text p = S "\n" then n + 1 else n
theorem LexC.read {w : World} {A : Around} {outer : List Env} {base : Heap} {s : Shared} {mean : ExcName → Option Value} {mg mb : Str → Option Value} {hb : Heap} {C : LexC} (ok : C.Ok) {n p : Int} {tn tp' : Tok}
    (tp9 : Tops9 w mean mg mb hb) (hA : A.depth + 10 < recursionLimit) (hh : A.handled = none) (hfr : A.frames = some outer) (B0 : Below A base outer hb)
    (lx : LedIn hb s.heap (C.led w n p tn tp')) :
    GivesM w A 35 [.ref C.x] s C.adrs (fun v new => ∃ t' tn' tpp, v = .str (chAt C.text p) t' ∧ new = C.led w (nlAt C.text n p) (p + 1) tn' tpp) := by
  have g := readchar_spec (env0 := default) (rest := []) tp9 hA hh hfr B0 ok.hD rfl ok.hoc ok.hvs ok.hoP ok.hoT lx ok.htx ok.nd
  intro R hR
  refine g R fun v h' tk' new h1 h2 h3 => hR v h' tk' new h1 h2 ?_
  refine Classical.byContradiction fun hn1 => ?_
  obtain ⟨t', n', tn', tpp, e1, e2, e3⟩ := h3
  refine hn1 ?_
  exact ⟨t', tn', tpp, e1, by rw [e3, e2]; rfl⟩
theorem ground9 {w : World} {A₀ A : Around} {s : Shared} {base h₀ : Heap} {outer : List Env} {L : Addr} {m : Str → Option Value} {env : Env} {news led : List (Addr × Obj)} {mean : ExcName → Option Value} {mg mb : Str → Option Value}
    (tp9 : Tops9 w mean mg mb h₀) (B : Below A₀ base outer h₀) (F : Fr h₀ L s.heap m) (N : News h₀ L s.heap news) (hA : A.frames = some (env :: outer)) (hf : env.frame = some L) (hke : env.scope.kind = .function) (hl : ∀ p ∈ led, p ∈ news) :
    ∃ g, Tops9 w mean mg mb g ∧ Below A base (env :: outer) g ∧ LedIn g s.heap led := by
  refine Classical.byContradiction fun hn1 => ?_
  obtain ⟨_, BG, st, _⟩ := groundX (R := fun _ _ => True) B F N hA hf hke
  refine hn1 ?_
  exact ⟨_, tp9.keeps st, BG, fun b o e => of_hideAll _ e, fun p hp => ⟨(N p (hl p hp)).1, hideAll_none _ (List.mem_map_of_mem (hl p hp))⟩⟩
theorem next_lex {w : World} {A₀ A : Around} {E : Value → Shared → Prop} {s : Shared} {base h₀ : Heap} {outer : List Env} {L : Addr} {m : Str → Option Value} {env : Env} {rest : List (Addr × Obj)} {mean : ExcName → Option Value} {mg mb : Str → Option Value} {C : LexC} (ok : C.Ok) {n p : Int} {tn tp' t : Tok} {it me : Addr} {oI : Obj} {Q : Option Value → Shared → Prop}
    (tp9 : Tops9 w mean mg mb h₀) (B : Below A₀ base outer h₀) (hA : A.frames = some (env :: outer)) (hf : env.frame = some L) (hke : env.scope.kind = .function) (hd : A.depth + 10 < recursionLimit) (hh : A.handled = none)
    (F : Fr h₀ L s.heap m) (N : News h₀ L s.heap ((it, oI) :: (me, methodObj (.ref 35) (.ref C.x)) :: (C.led w n p tn tp' ++ rest)))
    (hI : oI.cls = .type "callable_iterator" ∧ oI.data = .fields #[.ref me, .str (S "") t, .bool false])
    (h1 : it ∉ C.adrs) (h2 : me ∉ C.adrs) (h3 : it ≠ me) (h4 : ∀ q ∈ rest, q.1 ∉ C.adrs ∧ q.1 ≠ it)
    (hQ : ∀ h' tk' t' tn' tpp oI', Fr h₀ L h' m → News h₀ L h' ((it, oI') :: (me, methodObj (.ref 35) (.ref C.x)) :: (C.led w (nlAt C.text n p) (p + 1) tn' tpp ++ rest)) →
      (if chAt C.text p = S "" then oI'.cls = .type "callable_iterator" ∧ oI'.data = .fields #[.none, .none, .bool true] else oI' = oI) →
      Q (if chAt C.text p = S "" then none else some (.str (chAt C.text p) t')) { s with heap := h', toks := tk' }) :
    wpAny (model prg w) A (pyNext (.ref it)) Q E s := by
  have hl : ∀ q ∈ C.led w n p tn tp', q ∈ (it, oI) :: (me, methodObj (.ref 35) (.ref C.x)) :: (C.led w n p tn tp' ++ rest) := fun q hq => .tail _ (.tail _ (List.mem_append_left _ hq))
  refine Classical.byContradiction fun hn1 => ?_
  obtain ⟨g, tg, Bg, lx⟩ := ground9 tp9 B F N hA hf hke hl
  have hr := LexC.read ok tg (A := A.in1) (show A.depth + 10 < _ from hd) hh hA ⟨Bg.stack, Bg.stays, Bg.frames⟩ lx
  obtain ⟨o35, fd35, e35, d35⟩ : ∃ o fd, h₀.get? 35 = some o ∧ o.data = .func fd := ⟨_, _, tp9.X _ _ (by k_is), rfl⟩
  refine hn1 ?_
  have mIt := N _ (.head _)
  have mMe := N _ (.tail _ (.head _))
  refine pyNext_call (fn := 35) (sf := .ref C.x) hh ⟨oI, mIt.1, hI.1, hI.2⟩ ⟨⟨_, mMe.1, rfl, rfl⟩, o35, fd35, F.keep _ _ e35, d35⟩ (method_call mMe.1 (hr _ ?_))
  rintro v h' tk' new k hn ⟨t', tn', tpp, rfl, rfl⟩
  have hit' : h'.get? it = some oI := k _ _ h1 mIt.1
  have hme' := k _ _ h2 mMe.1
  have h35 : h'.get? 35 = some o35 := by
    refine k _ _ (fun q => ?_) (F.keep _ _ e35)
    refine Classical.byContradiction fun hn2 => ?_
    obtain ⟨q', hq', e⟩ := List.mem_map.mp (show (35 : Addr) ∈ (C.led w n p tn tp').map (·.1) from q)
    refine hn2 ?_
    have := (N _ (hl _ hq')).2.2
    rw [e, e35] at this; cases this
  refine ⟨chAt C.text p, t', rfl, ⟨oI, hit', hI.1, hI.2⟩, ⟨⟨_, hme', rfl, rfl⟩, o35, fd35, h35, d35⟩, ?_⟩
  refine Classical.byContradiction fun hn3 => ?_
  obtain ⟨F', N'⟩ := afterM (led := C.led w n p tn tp') (rest := (it, oI) :: (me, methodObj (.ref 35) (.ref C.x)) :: rest) F N hl (fun q hq => by
    rcases List.mem_cons.mp hq with rfl | hq
    · exact ⟨.head _, h1⟩
    · rcases List.mem_cons.mp hq with rfl | hq
      · exact ⟨.tail _ (.head _), h2⟩
      · exact ⟨.tail _ (.tail _ (List.mem_append_right _ hq)), (h4 q hq).1⟩) k hn
  refine hn3 ?_
  have perm : ∀ q ∈ (it, oI) :: (me, methodObj (.ref 35) (.ref C.x)) :: (C.led w (nlAt C.text n p) (p + 1) tn' tpp ++ rest), q ∈ C.led w (nlAt C.text n p) (p + 1) tn' tpp ++ (it, oI) :: (me, methodObj (.ref 35) (.ref C.x)) :: rest := fun q hq => by
    rcases List.mem_cons.mp hq with rfl | hq
    · exact List.mem_append_right _ (.head _)
    · rcases List.mem_cons.mp hq with rfl | hq
      · exact List.mem_append_right _ (.tail _ (.head _))
      · exact (List.mem_append.mp hq).elim (fun h => List.mem_append_left _ h) (fun h => List.mem_append_right _ (.tail _ (.tail _ h)))
  by_cases hc : chAt C.text p = S ""
  · rw [if_pos hc]
    intro h'' ⟨o, ho, ho1, ho2⟩ hext
    have := hQ h'' tk' t' tn' tpp o
    rw [if_pos hc, if_pos hc] at this
    refine this ⟨F'.ns.at' fun o e => hext _ _ (fun q => mIt.2.1 q.symm) e, fun b o e => hext _ _ (fun q => by have := mIt.2.2; dsimp only at this; rw [← q, e] at this; cases this) (F'.keep _ _ e), F'.above⟩ (fun q hq => ?_) ⟨ho1, ho2⟩
    have hq' := News.sub N' perm
    rcases List.mem_cons.mp hq with rfl | hq
    · exact ⟨ho, mIt.2⟩
    · have hne : q.1 ≠ it := by
        rcases List.mem_cons.mp hq with rfl | hq
        · exact fun e => h3 e.symm
        · rcases List.mem_append.mp hq with hq | hq
          · exact fun e => h1 (e ▸ List.mem_map_of_mem (f := Prod.fst) hq)
          · exact (h4 q hq).2
      have z := hq' q (.tail _ hq)
      exact ⟨hext _ _ hne z.1, z.2⟩
  · rw [if_neg hc]
    have := hQ h' tk' t' tn' tpp oI F' (News.sub N' perm)
    rw [if_neg hc, if_neg hc] at this
    exact this rfl
end Mine
end
section
open PySem PySem.W PyProof.Rows PySem.Calls
set_option maxRecDepth 100000
namespace Mine
theorem meth_call_look : typeLookup (.type "method") (S "__call__") = pure (some (.builtin "method.__call__")) := by rw [typeLookup_type, builtinLookup_eq_fast]; kernel_rfl
theorem args_iter2 (a b : Value) : argsOk "iter" ⟨[a, b], []⟩ := by unfold argsOk; kernel_rfl
section
variable {prog : Program} {w : World} {A : Around} {E : Value → Shared → Prop} {s : Shared} {h₀ : Heap} {L : Addr} {m : Str → Option Value} {news : List (Addr × Obj)} {me : Addr} {f sf : Value} {t : Tok}
theorem iter2_call {Q : Value → Shared → Prop} (F : Fr h₀ L s.heap m) (N : News h₀ L s.heap news) (hm : (me, methodObj f sf) ∈ news)
    (h : ∀ I h', Fr h₀ L h' m → News h₀ L h' ((I, { cls := .type "callable_iterator", data := .fields #[.ref me, .str (S "") t, .bool false] }) :: news) → (∀ p ∈ news, p.1 < I) → Q (.ref I) { s with heap := h' }) :
    wpAny (model prog w) A (call (.builtin "iter") [.ref me, .str (S "") t]) Q E s := by
  have hv := meth_call_look
  have hT : s.TypeIs (.ref me) "method" := ⟨_, (N _ hm).1, rfl⟩
  refine call_function_entry (by decide +kernel) (by decide +kernel) kdk_entry_iter (args_iter2 _ _) ?_
  unfold Builtin.«iter»
  refine wpAny_bind (m := someArgs "iter" 1 2 _) (wpAny_of_eq (a := [Value.ref me, .str (S "") t]) (by first | rfl | kernel_rfl!) ?_)
  dsimp only
  refine wpAny_bind (wpAny_specialOf hT hv ?_)
  rw [if_neg (by simp)]
  refine wpAny_bind (wpAny_rule ?_)
  refine wpAny_bind (wpAny_newObj_type ?_)
  exact wpAny_pure ⟨_, rfl, h _ _ (F.push _) (News.push F N _ rfl) (fun q hq => Heap.lt_size (N q hq).1)⟩
end
end Mine
end
section
open PySem PySem.W PyProof.Rows PySem.Calls
set_option maxRecDepth 100000
namespace Mine
noncomputable abbrev LexC.gled (C : LexC) (w : World) (it me : Addr) (oI : Obj) (n p : Int) (tn tp' : Tok) (rest : List (Addr × Obj)) : List (Addr × Obj) :=
  (it, oI) :: (me, methodObj (.ref 35) (.ref C.x)) :: (C.led w n p tn tp' ++ rest)
inductive FitJ (C : LexC) (w : World) (it me : Addr) (oI : Obj) (rest : List (Addr × Obj)) (h₀ : Heap) (L : Addr) (I : Nat → Int → Int → (Str → Option Value) → Prop) (s : Shared) (k : Nat) (s' : Shared) : Prop
  | mk (p n : Int) (m : Str → Option Value) (h : Heap) (tk : Nat) (tn tp' : Tok) (e : s' = { s with heap := h, toks := tk }) (F : Fr h₀ L h m) (N : News h₀ L h (C.gled w it me oI n p tn tp' rest)) (i : I k p n m) : FitJ C w it me oI rest h₀ L I s k s'
noncomputable def LexStep (C : LexC) (w : World) (it me : Addr) (oI : Obj) (rest : List (Addr × Obj)) (h₀ : Heap) (L : Addr) (I : Nat → Int → Int → (Str → Option Value) → Prop) (k : Nat) (s : Shared) (Q : Flow → Shared → Prop) (f : Flow) (s₃ : Shared) : Prop :=
  match f with
  | .brk => Q .next s₃
  | .ret v => Q (.ret v) s₃
  | _ => ∃ k', k' < k ∧ FitJ C w it me oI rest h₀ L I s k' s₃
theorem LexStep.next {C : LexC} {w : World} {it me : Addr} {oI : Obj} {rest : List (Addr × Obj)} {h₀ h' : Heap} {L : Addr} {I : Nat → Int → Int → (Str → Option Value) → Prop} {k k' tk' : Nat} {s : Shared} {Q : Flow → Shared → Prop} {p' n' : Int} {m' : Str → Option Value} {tn' tpp : Tok} (lt : k' < k) (F : Fr h₀ L h' m') (N : News h₀ L h' (C.gled w it me oI n' p' tn' tpp rest)) (i : I k' p' n' m') :
    LexStep C w it me oI rest h₀ L I k s Q .next { s with heap := h', toks := tk' } := ⟨k', lt, ⟨p', n', m', h', tk', tn', tpp, rfl, F, N, i⟩⟩
inductive LexJ (C : LexC) (it : Addr) (run : Nat → Int → Int → Str → Option (Str × Int × Int)) (R : Str × Int × Int) (k : Nat) (p n : Int) (m : Str → Option Value) : Prop
  | mk (tok : Str) (tt : Tok) (m1 : m (S "self") = some (.ref C.x)) (m2 : m (S "fiter") = some (.ref it)) (m3 : m (S "token") = some (.str tok tt)) (hrun : run k p n tok = some R) : LexJ C it run R k p n m
inductive LexJ0 (C : LexC) (it : Addr) (run : Nat → Int → Int → Option (Str × Int × Int)) (R : Str × Int × Int) (k : Nat) (p n : Int) (m : Str → Option Value) : Prop
  | mk (tt : Tok) (m1 : m (S "self") = some (.ref C.x)) (m2 : m (S "fiter") = some (.ref it)) (m3 : m (S "token") = some (.str (S "") tt)) (hrun : run k p n = some R) : LexJ0 C it run R k p n m
theorem for_fiter {w : World} {A₀ A : Around} {E : Value → Shared → Prop} {s : Shared} {base h₀ : Heap} {outer : List Env} {m : Str → Option Value} {env : Env} {rest : List (Addr × Obj)} {mean : ExcName → Option Value} {mg mb : Str → Option Value} {C : LexC} (ok : C.Ok) {n p : Int} {tn tp' t : Tok} {it me : Addr} {oI : Obj} {target : Expr} {body : List Stmt} {Q : Flow → Shared → Prop}
    (I : Nat → Int → Int → (Str → Option Value) → Prop) {k : Nat}
    (tp9 : Tops9 w mean mg mb h₀) (B : Below A₀ base outer h₀) (hA : A.frames = some (env :: outer)) (hf : env.frame = some env.locals) (hke : env.scope.kind = .function) (hd : A.depth + 10 < recursionLimit) (hh : A.handled = none)
    (F : Fr h₀ env.locals s.heap m) (N : News h₀ env.locals s.heap (C.gled w it me oI n p tn tp' rest))
    (hI : oI.cls = .type "callable_iterator" ∧ oI.data = .fields #[.ref me, .str (S "") t, .bool false])
    (h1 : it ∉ C.adrs) (h2 : me ∉ C.adrs) (h3 : it ≠ me) (h4 : ∀ q ∈ rest, q.1 ∉ C.adrs ∧ q.1 ≠ it)
    (hgo : ∀ v, letOwnedTupleGo target (.ref it) v = pure ()) (hj : I k p n m)
    (turn : ∀ k p n m h tk t' tn' tpp, I k p n m → chAt C.text p ≠ S "" → Fr h₀ env.locals h m → News h₀ env.locals h (C.gled w it me oI (nlAt C.text n p) (p + 1) tn' tpp rest) →
      wpAny (model prg w) A (assign target env (.str (chAt C.text p) t')) (fun _ s₂ => wpAny (model prg w) A (execs body env) (LexStep C w it me oI rest h₀ env.locals I k s Q) NoE s₂) NoE { s with heap := h, toks := tk })
    (over : ∀ k p n m h tk tn' tpp oI', I k p n m → chAt C.text p = S "" → Fr h₀ env.locals h m → News h₀ env.locals h (C.gled w it me oI' (nlAt C.text n p) (p + 1) tn' tpp rest) → Q .next { s with heap := h, toks := tk }) :
    wpAny (model prg w) A (pyIter (.ref it)) (fun it s₂ => codeAny (model prg w) A (.forLoop target it body [] env) (fun r s' => match r with | .ok f => Q f s' | .error e => cameBackBy (model prg w) A env E e s') s₂) E s := by
  have mIt := N _ (.head _)
  refine pyIter_call ⟨oI, mIt.1, hI.1⟩ ?_
  refine codeAny_forLoop_any
    (FitJ C w it me oI rest h₀ env.locals I s) ?_ k
    ⟨p, n, m, s.heap, s.toks, tn, tp', rfl, F, N, hj⟩
  rintro k s' ⟨p, n, m, h, tk, tn, tp', rfl, F, N, hj⟩
  refine next_lex ok tp9 B hA hf hke hd hh F N hI h1 h2 h3 h4 fun h' tk' t' tn' tpp oI' F' N' ho => ?_
  by_cases hc : chAt C.text p = S ""
  · rw [if_pos hc]
    exact wpAny_execs_nil (over k p n m h' tk' tn' tpp oI' hj hc F' N')
  · rw [if_neg hc] at ho ⊢
    subst ho
    dsimp only
    rw [hgo]
    refine wpAny_pure ?_
    refine wp_noE (wpAny_mono (turn k p n m h' tk' t' tn' tpp hj hc F' N') (fun _ s₂ h₂ => wp_noE (wpAny_mono h₂ (fun f s₃ h₃ => ?_) fun _ _ e => e)) fun _ _ e => e)
    cases f with
    | ret v => exact h₃
    | brk => exact h₃
    | cont => exact h₃
    | next => exact h₃
end Mine
end
section
open PySem PySem.W PyProof.Rows PySem.Calls
set_option maxRecDepth 100000
namespace Mine
noncomputable def blanks : Str := Str.ofString "\n\t\x0d "
noncomputable def inBlank (c : Str) : Bool := !(Builtin.Str.occurrences blanks c 0 blanks.length 1).isEmpty
noncomputable def bareRun (text : Str) : Nat → Int → Int → Str → Option (Str × Int × Int)
  | 0, _, _, _ => none
  | k + 1, p, n, tok =>
    if chAt text p = S "" ∨ 1000 < tok.length then none
    else if inBlank (chAt text p) = true then some (tok, p + 1, nlAt text n p)
    else if chAt text p = S "\\" then bareRun text k (p + 1 + 1) (nlAt text (nlAt text n p) (p + 1)) (tok ++ chAt text (p + 1))
    else bareRun text k (p + 1) (nlAt text n p) (tok ++ chAt text p)
noncomputable def quoteRun (text : Str) : Nat → Int → Int → Str → Option (Str × Int × Int)
  | 0, _, _, _ => none
  | k + 1, p, n, tok =>
    if chAt text p = S "" ∨ 1000 < tok.length then none
    else if chAt text p = S "\"" then some (tok, p + 1, nlAt text n p)
    else if chAt text p = S "\\" then quoteRun text k (p + 1 + 1) (nlAt text (nlAt text n p) (p + 1)) (tok ++ chAt text (p + 1))
    else quoteRun text k (p + 1) (nlAt text n p) (tok ++ chAt text p)
noncomputable def tokRun (text : Str) : Nat → Int → Int → Option (Str × Int × Int)
  | 0, _, _ => none
  | k + 1, p, n =>
    if chAt text p = S "" then some (S "", p + 1, nlAt text n p)
    else if inBlank (chAt text p) = true then tokRun text k (p + 1) (nlAt text n p)
    else if chAt text p = S "\"" then quoteRun text k (p + 1) (nlAt text n p) (S "")
    else if chAt text p = S "\\" then bareRun text k (p + 1 + 1) (nlAt text (nlAt text n p) (p + 1)) (S "" ++ chAt text (p + 1))
    else bareRun text k (p + 1) (nlAt text n p) (S "" ++ chAt text p)

noncomputable def lexMeth (i : Nat) : List Stmt := match (prg.main.body[1]? : Option Stmt) with
  | some (Stmt.ClassDef _ _ _ body _ _ _ _ _ _ _) => (match (body[i]? : Option Stmt) with
    | some (Stmt.FunctionDef _ _ b _ _ _ _ _ _ _) => b
    | _ => [])
  | _ => []
noncomputable def lexScope (i : Nat) : Scope := match (prg.main.body[1]? : Option Stmt) with
  | some (Stmt.ClassDef _ _ _ body _ _ _ _ _ _ _) => (match (body[i]? : Option Stmt) with
    | some (Stmt.FunctionDef _ _ _ _ _ _ sc _ _ _) => sc
    | _ => default)
  | _ => default
noncomputable def thenOf : Option Stmt → List Stmt
  | some (.If _ b _ _) => b
  | _ => []
noncomputable def elseOf : Option Stmt → List Stmt
  | some (.If _ _ b _) => b
  | _ => []
noncomputable def outerBody : List Stmt := forBody (lexMeth 2)[3]?
noncomputable def quoteBody : List Stmt := forBody (thenOf outerBody[1]?)[0]?
noncomputable def bareBody : List Stmt := forBody (elseOf outerBody[1]?)[2]?
theorem bareBody_ok : bareBody.length = 2 := by kernel_rfl
theorem quoteBody_ok : quoteBody.length = 2 := by kernel_rfl
noncomputable abbrev tokEnv (L : Addr) : Env := envX (Str.ofString "_netrclex.get_token") (lexScope 2) L 42 (.ref 41) []
noncomputable def chName (q : Pos) : Expr := .Name (S "ch") q

theorem blank_no {c : Str} (h : (Builtin.Str.occurrences (Str.ofString "\n\t\x0d ") c 0 (Str.ofString "\n\t\x0d ").length 1).isEmpty = true) : ¬ inBlank c = true := by
  unfold inBlank blanks; rw [h]; decide
theorem blank_yes {c : Str} (h : (Builtin.Str.occurrences (Str.ofString "\n\t\x0d ") c 0 (Str.ofString "\n\t\x0d ").length 1).isEmpty = false) : inBlank c = true := by
  unfold inBlank blanks; rw [h]; rfl
theorem chAt_len {text : Str} (h : text.length ≤ 100000) (p : Int) : (chAt text p).length ≤ 100000 := Nat.le_trans (Txt.slice_le _ _ _) h
theorem tok_fit {text tok : Str} (h : text.length ≤ 100000) (p : Int) (hl : tok.length ≤ 1000) : tok.length + (chAt text p).length ≤ sizeLine := by
  have := chAt_len h p
  unfold sizeLine; lia
theorem LexC.perm {C : LexC} {w : World} {it me : Addr} {oI : Obj} {n p : Int} {tn tp' : Tok} {rest : List (Addr × Obj)} : ∀ q ∈ C.gled w it me oI n p tn tp' rest, q ∈ C.led w n p tn tp' ++ (it, oI) :: (me, methodObj (.ref 35) (.ref C.x)) :: rest := fun q hq => by
  rcases List.mem_cons.mp hq with rfl | hq
  · exact List.mem_append_right _ (.head _)
  · rcases List.mem_cons.mp hq with rfl | hq
    · exact List.mem_append_right _ (.tail _ (.head _))
    · exact (List.mem_append.mp hq).elim (fun h => List.mem_append_left _ h) (fun h => List.mem_append_right _ (.tail _ (.tail _ h)))
theorem LexC.others {C : LexC} {w : World} {it me : Addr} {oI : Obj} {n p : Int} {tn tp' : Tok} {rest : List (Addr × Obj)} (h1 : it ∉ C.adrs) (h2 : me ∉ C.adrs) (h4 : ∀ q ∈ rest, q.1 ∉ C.adrs ∧ q.1 ≠ it) :
    ∀ q ∈ (it, oI) :: (me, methodObj (.ref 35) (.ref C.x)) :: rest, q ∈ C.gled w it me oI n p tn tp' rest ∧ q.1 ∉ (C.led w n p tn tp').map (·.1) := by
  intro q hq
  rcases List.mem_cons.mp hq with rfl | hq
  · exact ⟨.head _, h1⟩
  · rcases List.mem_cons.mp hq with rfl | hq
    · exact ⟨.tail _ (.head _), h2⟩
    · exact ⟨.tail _ (.tail _ (List.mem_append_right _ hq)), (h4 q hq).1⟩
theorem read_call {w : World} {A₀ A : Around} {E : Value → Shared → Prop} {s : Shared} {base g : Heap} {outer : List Env} {L : Addr} {m : Str → Option Value} {env : Env} {mean : ExcName → Option Value} {mg mb : Str → Option Value} {C : LexC} (ok : C.Ok) {n p : Int} {tn tp' : Tok} {it me : Addr} {oI : Obj} {rest : List (Addr × Obj)} {Q : Value → Shared → Prop}
    (tg9 : Tops9 w mean mg mb g) (B : Below A₀ base outer g) (F : Fr g L s.heap m) (N : News g L s.heap (C.gled w it me oI n p tn tp' rest))
    (hA : A.frames = some (env :: outer)) (hf : env.frame = some L) (hke : env.scope.kind = .function) (hd : A.depth + 10 < recursionLimit) (hh : A.handled = none)
    (h1 : it ∉ C.adrs) (h2 : me ∉ C.adrs) (h4 : ∀ q ∈ rest, q.1 ∉ C.adrs ∧ q.1 ≠ it)
    (hQ : ∀ h' tk' t' tn' tpp, Fr g L h' m → News g L h' (C.gled w it me oI (nlAt C.text n p) (p + 1) tn' tpp rest) → Q (.str (chAt C.text p) t') { s with heap := h', toks := tk' }) :
    wpAny (model prg w) A (call (.ref 35) [.ref C.x]) Q E s := by
  have hl : ∀ q ∈ C.led w n p tn tp', q ∈ C.gled w it me oI n p tn tp' rest := fun q hq => .tail _ (.tail _ (List.mem_append_left _ hq))
  refine Classical.byContradiction fun hn1 => ?_
  obtain ⟨g', tg', Bg, lx⟩ := ground9 tg9 B F N hA hf hke hl
  refine hn1 ?_
  refine call_M (led := C.led w n p tn tp') (rest := (it, oI) :: (me, methodObj (.ref 35) (.ref C.x)) :: rest) F N hl (LexC.others h1 h2 h4) (LexC.read ok tg' hd hh hA ⟨Bg.stack, Bg.stays, Bg.frames⟩ lx) ?_
  rintro v h3' tk3 new F₃ N₃ ⟨t3, tn3, tp3, rfl, rfl⟩
  exact hQ _ _ _ _ _ F₃ (News.sub N₃ LexC.perm)

set_option maxHeartbeats 1000000 in
theorem bare_loop {w : World} {A : Around} {outer : List Env} {base g : Heap} {s : Shared} {E : Value → Shared → Prop} {m : Str → Option Value} {mean : ExcName → Option Value} {mg mb : Str → Option Value} {C : LexC} (ok : C.Ok) {n p : Int} {tn tp' t tt : Tok} {k : Nat} {R : Str × Int × Int} {it me L : Addr} {oI : Obj} {rest : List (Addr × Obj)} {tok : Str} {body : List Stmt} {px : Pos} {Q : Flow → Shared → Prop}
    (hb : body = bareBody)
    (tg9 : Tops9 w mean mg mb g) (hA : A.depth + 20 < recursionLimit) (hh : A.handled = none) (hfr : A.frames = some outer) (B : Below A base outer g)
    (m1 : m (S "self") = some (.ref C.x)) (m2 : m (S "fiter") = some (.ref it)) (m3 : m (S "token") = some (.str tok tt))
    (F : Fr g L s.heap m) (N : News g L s.heap (C.gled w it me oI n p tn tp' rest)) (hI : oI.cls = .type "callable_iterator" ∧ oI.data = .fields #[.ref me, .str (S "") t, .bool false])
    (h1 : it ∉ C.adrs) (h2 : me ∉ C.adrs) (h3 : it ≠ me) (h4 : ∀ q ∈ rest, q.1 ∉ C.adrs ∧ q.1 ≠ it)
    (hrun : bareRun C.text k p n tok = some R)
    (hQ : ∀ h' tk' m' t' tn' tpp, Fr g L h' m' → News g L h' (C.gled w it me oI R.2.2 R.2.1 tn' tpp rest) → Q (.ret (.str R.1 t')) { s with heap := h', toks := tk' }) :
    wpAny (model prg w) (A.deeper (tokEnv L)) (pyIter (.ref it)) (fun it s₂ => codeAny (model prg w) (A.deeper (tokEnv L)) (.forLoop (.Name (S "ch") px) it body [] (tokEnv L)) (fun r s' => match r with | .ok f => Q f s' | .error e => cameBackBy (model prg w) (A.deeper (tokEnv L)) (tokEnv L) E e s') s₂) E s := by
  have o4 : On "call ref" := ⟨⟩
  have o5 : On "inplaceOp Add str str" := ⟨⟩
  refine Classical.byContradiction fun hn1 => ?_
  obtain ⟨A, rfl⟩ : ∃ A0 : Around, A = { A0 with handled := none, frames := some outer } := ⟨A, by cases A; cases hh; cases hfr; rfl⟩
  have hA1 : A.depth + 20 < recursionLimit := hA
  obtain ⟨X, T, C1, C2⟩ := id tg9
  refine hn1 ?_
  refine for_fiter (env := tokEnv L) ok (LexJ C it (bareRun C.text) R)
    tg9 B rfl rfl (by rfl) (by show A.depth + 1 + 10 < _; omega) rfl F N hI h1 h2 h3 h4 (fun _ => rfl) ⟨tok, tt, m1, m2, m3, hrun⟩ ?turn ?over
  case over =>
    rintro k p n m h tk tn' tpp oI' ⟨tok, tt, m1, m2, m3, hrun⟩ hc F N
    cases k with
    | zero => cases hrun
    | succ k => rw [bareRun, if_pos (.inl hc)] at hrun; cases hrun
  case turn =>
    rintro k p n m h tk t' tn' tpp ⟨tok, tt, m1, m2, m3, hrun⟩ hc F N
    cases k with
    | zero => cases hrun
    | succ k =>
    have hlen : tok.length ≤ 1000 := by
      rw [bareRun] at hrun
      split at hrun
      · cases hrun
      · rename_i h; exact Nat.le_of_not_lt fun q => h (.inr q)
    rw [bareRun, if_neg (by intro q; rcases q with q | q; exact hc q; omega)] at hrun
    have e : body = bareBody := hb
    have e2 : bareBody = bareBody := rfl
    conv at e2 => rhs; whnf
    rw [e, e2]
    clear e e2 hb
    replace F := Fr.know (Fr.know (Fr.know F m1) (x := S "fiter") (v := _) (by rw [if_neg (by decide)]; exact m2)) (x := S "token") (v := _) (by rw [if_neg (by decide), if_neg (by decide)]; exact m3)
    refine wpAny_assign_Name (stN F N (fun h' F₂ N₂ => ?_) (by rfl) (by rfl))
    refine hideQ fun Q0 hQ0 => ?_
    unfold LexC.gled LexC.led lexLed at N₂; dsimp only [List.cons_append, List.nil_append] at N₂
    walk_at "steps"
    · (rename Fr _ _ _ _ => F'); (rename News _ _ _ _ => N')
      refine Hold.mk (read_call (s := ⟨_, _, _, _, _⟩) ok tg9 B F' N' rfl rfl rfl (by show A.depth + 1 + 10 < _; omega) rfl h1 h2 h4 ?_)
      intro h3' tk3 t3 tn3 tp3 F₃ N₃
      rw [if_neg (blank_no (by assumption)), if_pos (eq_of_beq (by assumption))] at hrun
      clear F N F' N'
      walk_at "steps"
      refine Hold.mk (iadd_str ?_ (tok_fit ok.htx _ hlen))
      intro t9 tk9
      walk_at "steps"
      (rename Fr _ _ _ _ => F'); (rename News _ _ _ _ => N')
      exact hQ0 _ _ (LexStep.next (Nat.lt_succ_self _) F' N' ⟨_, _, rfl, rfl, rfl, hrun⟩)
    · (rename Fr _ _ _ _ => F'); (rename News _ _ _ _ => N')
      rw [if_neg (blank_no (by assumption)), if_neg (ne_of_beq_false (by assumption))] at hrun
      refine Hold.mk (iadd_str ?_ (tok_fit ok.htx _ hlen))
      intro t9 tk9
      walk_at "steps"
      (rename Fr _ _ _ _ => F'); (rename News _ _ _ _ => N')
      exact hQ0 _ _ (LexStep.next (Nat.lt_succ_self _) F' N' ⟨_, _, rfl, rfl, rfl, hrun⟩)
    · (rename Fr _ _ _ _ => F'); (rename News _ _ _ _ => N')
      rw [if_pos (blank_yes (by assumption))] at hrun
      cases hrun
      exact hQ0 _ _ (hQ _ _ _ _ _ _ F' N')

set_option maxHeartbeats 1000000 in
theorem quote_loop {w : World} {A : Around} {outer : List Env} {base g : Heap} {s : Shared} {E : Value → Shared → Prop} {m : Str → Option Value} {mean : ExcName → Option Value} {mg mb : Str → Option Value} {C : LexC} (ok : C.Ok) {n p : Int} {tn tp' t tt : Tok} {k : Nat} {R : Str × Int × Int} {it me L : Addr} {oI : Obj} {rest : List (Addr × Obj)} {tok : Str} {body : List Stmt} {px : Pos} {Q : Flow → Shared → Prop}
    (hb : body = quoteBody)
    (tg9 : Tops9 w mean mg mb g) (hA : A.depth + 20 < recursionLimit) (hh : A.handled = none) (hfr : A.frames = some outer) (B : Below A base outer g)
    (m1 : m (S "self") = some (.ref C.x)) (m2 : m (S "fiter") = some (.ref it)) (m3 : m (S "token") = some (.str tok tt))
    (F : Fr g L s.heap m) (N : News g L s.heap (C.gled w it me oI n p tn tp' rest)) (hI : oI.cls = .type "callable_iterator" ∧ oI.data = .fields #[.ref me, .str (S "") t, .bool false])
    (h1 : it ∉ C.adrs) (h2 : me ∉ C.adrs) (h3 : it ≠ me) (h4 : ∀ q ∈ rest, q.1 ∉ C.adrs ∧ q.1 ≠ it)
    (hrun : quoteRun C.text k p n tok = some R)
    (hQ : ∀ h' tk' m' t' tn' tpp, Fr g L h' m' → News g L h' (C.gled w it me oI R.2.2 R.2.1 tn' tpp rest) → Q (.ret (.str R.1 t')) { s with heap := h', toks := tk' }) :
    wpAny (model prg w) (A.deeper (tokEnv L)) (pyIter (.ref it)) (fun it s₂ => codeAny (model prg w) (A.deeper (tokEnv L)) (.forLoop (.Name (S "ch") px) it body [] (tokEnv L)) (fun r s' => match r with | .ok f => Q f s' | .error e => cameBackBy (model prg w) (A.deeper (tokEnv L)) (tokEnv L) E e s') s₂) E s := by
  have o4 : On "call ref" := ⟨⟩
  have o5 : On "inplaceOp Add str str" := ⟨⟩
  obtain ⟨A, rfl⟩ : ∃ A0 : Around, A = { A0 with handled := none, frames := some outer } := ⟨A, by cases A; cases hh; cases hfr; rfl⟩
  have hA1 : A.depth + 20 < recursionLimit := hA
  refine Classical.byContradiction fun hn1 => ?_
  obtain ⟨X, T, C1, C2⟩ := id tg9
  refine hn1 ?_
  refine for_fiter (env := tokEnv L) ok (LexJ C it (quoteRun C.text) R)
    tg9 B rfl rfl (by rfl) (by show A.depth + 1 + 10 < _; omega) rfl F N hI h1 h2 h3 h4 (fun _ => rfl) ⟨tok, tt, m1, m2, m3, hrun⟩ ?turn ?over
  case over =>
    rintro k p n m h tk tn' tpp oI' ⟨tok, tt, m1, m2, m3, hrun⟩ hc F N
    cases k with
    | zero => cases hrun
    | succ k => rw [quoteRun, if_pos (.inl hc)] at hrun; cases hrun
  case turn =>
    rintro k p n m h tk t' tn' tpp ⟨tok, tt, m1, m2, m3, hrun⟩ hc F N
    cases k with
    | zero => cases hrun
    | succ k =>
    have hlen : tok.length ≤ 1000 := by
      rw [quoteRun] at hrun
      split at hrun
      · cases hrun
      · rename_i h; exact Nat.le_of_not_lt fun q => h (.inr q)
    rw [quoteRun, if_neg (by intro q; rcases q with q | q; exact hc q; omega)] at hrun
    have e : body = quoteBody := hb
    have e2 : quoteBody = quoteBody := rfl
    conv at e2 => rhs; whnf
    rw [e, e2]
    clear e e2 hb
    replace F := Fr.know (Fr.know (Fr.know F m1) (x := S "fiter") (v := _) (by rw [if_neg (by decide)]; exact m2)) (x := S "token") (v := _) (by rw [if_neg (by decide), if_neg (by decide)]; exact m3)
    refine wpAny_assign_Name (stN F N (fun h' F₂ N₂ => ?_) (by rfl) (by rfl))
    refine hideQ fun Q0 hQ0 => ?_
    unfold LexC.gled LexC.led lexLed at N₂; dsimp only [List.cons_append, List.nil_append] at N₂
    walk_at "steps"
    · (rename Fr _ _ _ _ => F'); (rename News _ _ _ _ => N')
      rw [if_pos (eq_of_beq (by assumption))] at hrun
      cases hrun
      exact hQ0 _ _ (hQ _ _ _ _ _ _ F' N')
    · (rename Fr _ _ _ _ => F'); (rename News _ _ _ _ => N')
      refine Hold.mk (read_call (s := ⟨_, _, _, _, _⟩) ok tg9 B F' N' rfl rfl rfl (by show A.depth + 1 + 10 < _; omega) rfl h1 h2 h4 ?_)
      intro h3' tk3 t3 tn3 tp3 F₃ N₃
      rw [if_neg (ne_of_beq_false (by assumption)), if_pos (eq_of_beq (by assumption))] at hrun
      clear F N F' N'
      walk_at "steps"
      refine Hold.mk (iadd_str ?_ (tok_fit ok.htx _ hlen))
      intro t9 tk9
      walk_at "steps"
      (rename Fr _ _ _ _ => F'); (rename News _ _ _ _ => N')
      exact hQ0 _ _ (LexStep.next (Nat.lt_succ_self _) F' N' ⟨_, _, rfl, rfl, rfl, hrun⟩)
    · (rename Fr _ _ _ _ => F'); (rename News _ _ _ _ => N')
      rw [if_neg (ne_of_beq_false (by assumption)), if_neg (ne_of_beq_false (by assumption))] at hrun
      refine Hold.mk (iadd_str ?_ (tok_fit ok.htx _ hlen))
      intro t9 tk9
      walk_at "steps"
      (rename Fr _ _ _ _ => F'); (rename News _ _ _ _ => N')
      exact hQ0 _ _ (LexStep.next (Nat.lt_succ_self _) F' N' ⟨_, _, rfl, rfl, rfl, hrun⟩)
end Mine
end
section
open PySem PySem.W PyProof.Rows PySem.Calls
set_option maxRecDepth 100000
namespace Mine
set_option maxHeartbeats 1000000 in
theorem gettok_spec {w : World} {A : Around} {outer : List Env} {base : Heap} {s : Shared} {mean : ExcName → Option Value} {mg mb : Str → Option Value} {hb : Heap} {C : LexC} (ok : C.Ok) {n p : Int} {tn tp' : Tok} {kk k0 : Nat} {R : Str × Int × Int}
    (tp9 : Tops9 w mean mg mb hb) (hA : A.depth + 20 < recursionLimit) (hh : A.handled = none) (hfr : A.frames = some outer) (B0 : Below A base outer hb)
    (lx : LedIn hb s.heap ((C.l, W.listOf #[] kk) :: C.led w n p tn tp')) (hl : C.l ∉ C.adrs) (hrun : tokRun C.text k0 p n = some R) :
    GivesM w A 42 [.ref C.x] s (C.l :: C.adrs) (fun v new => ∃ t' tn' tpp, v = .str R.1 t' ∧ new = (C.l, W.listOf #[] kk) :: C.led w R.2.2 R.2.1 tn' tpp) := by
  have tp := tp9.tops
  obtain ⟨A, rfl⟩ : ∃ A0 : Around, A = { A0 with handled := none, frames := some outer } := ⟨A, by cases A; cases hh; cases hfr; rfl⟩
  have hA1 : A.depth + 20 < recursionLimit := hA
  have nd : NdA [C.l, C.x, C.d, C.D, C.f, C.fr, C.c', C.lp, C.cP, C.cT] := ⟨fun b hb e => hl (e ▸ hb), ok.nd⟩
  have on1 : On "exec For Name Name cons nil" := ⟨⟩
  have on2 : On "pyIter ref" := ⟨⟩
  have on3 : On "call ref" := ⟨⟩
  have on4 : On "inplaceOp Add str str" := ⟨⟩
  have on5 : On "call builtin:iter" := ⟨⟩
  refine givesM_of_frame (led := (C.l, W.listOf #[] kk) :: C.led w n p tn tp') tp lx (by show A.depth < _; lia) (lx.keep _ _ (tp.X _ _ (by k_is))) rfl ((codeRec_of tp.X (by k_is)).keeps lx.keep) (BindsTo.of_eq rfl) (locs rfl) (fun g L h₁ tpg hkg hLs F N => ?_) (by decide) (by rfl) (by rfl) (by rfl)
  have tg9 := tp9.keeps hkg
  obtain ⟨X, T, C1, C2⟩ := id tg9
  have B : Below { A with handled := none, frames := some outer } base outer g := ⟨B0.stack, fun b o e => hkg b o (B0.stays b o e), B0.frames.of_keeps fun b o e _ => ⟨o, hkg b o e, rfl⟩⟩
  walk_at "steps"
  refine Hold.mk ?_
  refine iter2_call (by k_asm) (by k_asm) (by k_mem) ?_
  intro it h0 F' N' e2
  (try k_lt e2)
  clear on5
  walk_at "steps"
  refine Hold.mk ?_
  refine wpAny_For ?_ (by intro _; rfl)
  walk_at "steps"
  refine Hold.mk ?_
  (rename Fr _ _ _ _ => F'); (rename News _ _ _ _ => N')
  rename_i me _ e1 _ _ h9
  (try dsimp only)
  have a1 : it ∉ C.adrs := off_of (led := C.led w n p tn tp') e2 (fun q hq => .tail _ (.tail _ hq))
  have a2 : me ∉ C.adrs := off_of (led := C.led w n p tn tp') e1 (fun q hq => .tail _ hq)
  have a3 : it ≠ me := Nat.ne_of_gt (e2 _ (.head _))
  have h4 : ∀ q ∈ [(C.l, W.listOf #[] kk)], q.1 ∉ C.adrs ∧ q.1 ≠ it := fun q hq => by
    rw [List.mem_singleton.mp hq]
    exact ⟨hl, Nat.ne_of_lt (e2 _ (.tail _ (.head _)))⟩
  have N2 : News g L h9 (C.gled w it me _ n p tn tp' [(C.l, W.listOf #[] kk)]) := News.sub N' (fun q hq => by
    rcases List.mem_cons.mp hq with rfl | hq
    · exact .head _
    · rcases List.mem_cons.mp hq with rfl | hq
      · exact .tail _ (.head _)
      · refine .tail _ (.tail _ ?_)
        rcases List.mem_append.mp hq with hq | hq
        · exact .tail _ hq
        · rw [List.mem_singleton.mp hq]; exact .head _)
  have fin : ∀ {h' : Heap} {tk' : Nat} {m' : Str → Option Value} {t' tn' tpp : Tok} {oI' : Obj}, Fr g L h' m' → News g L h' (C.gled w it me oI' R.2.2 R.2.1 tn' tpp [(C.l, W.listOf #[] kk)]) →
      EndM s g L (fun v new => ∃ t' tn' tpp, v = .str R.1 t' ∧ new = (C.l, W.listOf #[] kk) :: C.led w R.2.2 R.2.1 tn' tpp) (.ret (.str R.1 t')) { s with heap := h', toks := tk' } := fun F N =>
    EndM.mk (new' := (C.l, W.listOf #[] kk) :: C.led w R.2.2 R.2.1 _ _) F N (fun q hq => by
      rcases List.mem_cons.mp hq with rfl | hq
      · exact .tail _ (.tail _ (List.mem_append_right _ (.head _)))
      · exact .tail _ (.tail _ (List.mem_append_left _ hq))) ⟨_, _, _, rfl, rfl⟩
  refine for_fiter (env := tokEnv L) ok (LexJ0 C it (tokRun C.text) R)
    tg9 B rfl rfl (by rfl) (by show A.depth + 1 + 10 < _; lia) rfl F' N2 ⟨rfl, rfl⟩ a1 a2 a3 h4 (fun _ => rfl) ⟨_, rfl, rfl, rfl, hrun⟩ ?turn ?over
  case over =>
    rintro k p n m h tk tn' tpp oI' ⟨tt, m1, m2, m3, hrun⟩ hc F N
    cases k with
    | zero => cases hrun
    | succ k =>
      rw [tokRun, if_pos hc] at hrun
      cases hrun
      clear F' N' N2
      replace F := Fr.know F m3
      dsimp only
      walk_at "steps"
      exact fin F N
  case turn =>
    rintro k p n m h tk t' tn' tpp ⟨tt, m1, m2, m3, hrun⟩ hc F N
    cases k with
    | zero => cases hrun
    | succ k =>
    rw [tokRun, if_neg hc] at hrun
    clear F' N' N2
    replace F := Fr.know (Fr.know (Fr.know F m1) (x := S "fiter") (v := _) (by rw [if_neg (by decide)]; exact m2)) (x := S "token") (v := _) (by rw [if_neg (by decide), if_neg (by decide)]; exact m3)
    refine wpAny_assign_Name (stN F N (fun h' F₂ N₂ => ?_) (by rfl) (by rfl))
    refine hideQ fun Q0 hQ0 => ?_
    walk_at "steps"
    · (rename Fr _ _ _ _ => F'); (rename News _ _ _ _ => N')
      rw [if_neg (blank_no (by assumption)), if_pos (eq_of_beq (by assumption))] at hrun
      refine Hold.mk ?_
      refine wpAny_For ?_ (by intro _; rfl)
      walk_at "steps"
      refine Hold.mk ?_
      (rename Fr _ _ _ _ => F'); (rename News _ _ _ _ => N')
      refine quote_loop (s := ⟨_, _, _, _, _⟩) ok (by kernel_rfl) tg9 (by show A.depth + 20 < _; lia) rfl rfl B rfl rfl rfl F' N' ⟨rfl, rfl⟩ a1 a2 a3 h4 hrun ?_
      intro h' tk' m' t' tn' tpp F N
      exact hQ0 _ _ (fin F N)
    · (rename Fr _ _ _ _ => F'); (rename News _ _ _ _ => N')
      refine Hold.mk (read_call (s := ⟨_, _, _, _, _⟩) ok tg9 B F' N' rfl rfl rfl (by show A.depth + 1 + 10 < _; lia) rfl a1 a2 h4 ?_)
      intro h3' tk3 t3 tn3 tp3 F₃ N₃
      rw [if_neg (blank_no (by assumption)), if_neg (ne_of_beq_false (by assumption)), if_pos (eq_of_beq (by assumption))] at hrun
      clear F N F' N'
      walk_at "steps"
      refine Hold.mk (iadd_str ?_ (tok_fit ok.htx _ (by decide)))
      intro t9 tk9
      walk_at "steps"
      refine Hold.mk ?_
      refine wpAny_For ?_ (by intro _; rfl)
      walk_at "steps"
      refine Hold.mk ?_
      (rename Fr _ _ _ _ => F'); (rename News _ _ _ _ => N')
      refine bare_loop (s := ⟨_, _, _, _, _⟩) ok (by kernel_rfl) tg9 (by show A.depth + 20 < _; lia) rfl rfl B rfl rfl rfl F' N' ⟨rfl, rfl⟩ a1 a2 a3 h4 hrun ?_
      intro h' tk' m' t' tn' tpp F N
      exact hQ0 _ _ (fin F N)
    · (rename Fr _ _ _ _ => F'); (rename News _ _ _ _ => N')
      rw [if_neg (blank_no (by assumption)), if_neg (ne_of_beq_false (by assumption)), if_neg (ne_of_beq_false (by assumption))] at hrun
      refine Hold.mk (iadd_str ?_ (tok_fit ok.htx _ (by decide)))
      intro t9 tk9
      walk_at "steps"
      refine Hold.mk ?_
      refine wpAny_For ?_ (by intro _; rfl)
      walk_at "steps"
      refine Hold.mk ?_
      (rename Fr _ _ _ _ => F'); (rename News _ _ _ _ => N')
      refine bare_loop (s := ⟨_, _, _, _, _⟩) ok (by kernel_rfl) tg9 (by show A.depth + 20 < _; lia) rfl rfl B rfl rfl rfl F' N' ⟨rfl, rfl⟩ a1 a2 a3 h4 hrun ?_
      intro h' tk' m' t' tn' tpp F N
      exact hQ0 _ _ (fin F N)
    · (rename Fr _ _ _ _ => F'); (rename News _ _ _ _ => N')
      rw [if_pos (blank_yes (by assumption))] at hrun
      exact hQ0 _ _ ⟨k, Nat.lt_succ_self _, ⟨_, _, _, _, _, _, _, rfl, F', N', ⟨_, rfl, rfl, rfl, hrun⟩⟩⟩
end Mine
end
section
open PySem PySem.W PyProof.Rows PySem.Calls
namespace Mine
theorem CompEnd.mono {h₀ : Heap} {L I C D : Addr} {m : Str → Option Value} {s₁ s₂ : Shared} {oI oC oD : Obj} {S : List (Addr × Obj) → Prop} {rest rest' : Value → List (Addr × Obj) → Prop} {y : Value}
    (h : LCg.CompEnd h₀ L m s₁ I oI C oC D oD S rest y s₂) (hr : ∀ news', rest y news' → rest' y news') : LCg.CompEnd h₀ L m s₁ I oI C oC D oD S rest' y s₂ := by
  refine Classical.byContradiction fun hn1 => ?_
  obtain ⟨h', tk, news', e, F, N, off, hS, r⟩ := h
  refine hn1 ?_
  exact ⟨h', tk, news', e, F, N, off, hS, hr _ r⟩
theorem comp_inv {prog : Program} {w : World} {A : Around} {s : Shared} {h₀ : Heap} {L : Addr} {m : Str → Option Value} {env : Env} {elt : Expr} {x : Str} {scope : Scope} {cl : List (Str × Addr)} {S : List (Addr × Obj) → Prop} {P : Nat → Value → Prop} {Fin : List Value → List (Addr × Obj) → Prop} {n : Nat} {news : List (Addr × Obj)}
    (J : Nat → List Value → List (Addr × Obj) → Prop) (h0 : J 0 [] news)
    (turn : ∀ i ys news v I oI C oC D m₂ h tk (E' : Value → Shared → Prop), i < n → J i ys news → P i v → LCg.NsObj oC m₂ → m₂ x = some v → Fr h₀ L h m → News h₀ L h ((I, oI) :: (C, oC) :: (D, LCg.lst ys) :: news) → LCg.Off3 I C D news → ((@Ne Nat I C) ∧ (@Ne Nat I D) ∧ (@Ne Nat C D)) →
      wpAny (model prog w) A (eval elt (compEnvC scope cl C env)) (LCg.CompEnd h₀ L m { s with heap := h, toks := tk } I oI C oC D (LCg.lst ys) S (fun y news' => J (i + 1) (ys ++ [y]) news')) E' { s with heap := h, toks := tk })
    (done : ∀ ys news, J n ys news → Fin ys news) : LCg.CompRest prog w A h₀ L m env elt x scope cl s S P Fin n 0 [] news := by
  have key : ∀ k i ys news, i + k = n → J i ys news → LCg.CompRest prog w A h₀ L m env elt x scope cl s S P Fin k i ys news := by
    intro k
    induction k with
    | zero => intro i ys news hi hj; exact done ys news (by rw [← hi]; exact hj)
    | succ k ih =>
      intro i ys news hi hj
      refine LCg.CompRest.succ ?_
      intro v I oI C' oC D' m' h' tk' E' hv hC hx F N off ne
      exact wpAny_mono (turn i ys news v I oI C' oC D' m' h' tk' E' (by lia) hj hv hC hx F N off ne) (fun y s₂ h₂ => CompEnd.mono h₂ fun news' hr => ih (i + 1) _ _ (by lia) hr) fun _ _ e => e
  exact key n 0 [] news (by lia) h0
end Mine
end
section
open PySem PySem.W PyProof.Rows PySem.Calls
set_option maxRecDepth 100000
namespace Mine
noncomputable abbrev LexC.back (C : LexC) (w : World) (n : Int) (tn : Tok) (vs : List Value) (kk : Nat) : List (Addr × Obj) :=
  [(C.l, W.listOf vs.toArray kk), (C.x, instObj 52 C.d), (C.d, lexDict w n C.f C.l tn C.t1 C.t2 C.t3 C.t4 C.t5)]
set_option maxHeartbeats 1000000 in
theorem gettok_back {w : World} {A : Around} {outer : List Env} {base : Heap} {s : Shared} {mean : ExcName → Option Value} {mg mb : Str → Option Value} {hb : Heap} {C : LexC} (ok : C.Ok) {n : Int} {tn : Tok} {kk : Nat} {vs : List Value} {x : Str} {tx : Tok}
    (tp9 : Tops9 w mean mg mb hb) (hA : A.depth + 20 < recursionLimit) (hh : A.handled = none) (hfr : A.frames = some outer) (B0 : Below A base outer hb) (hvl : vs.length ≤ 700)
    (lx : LedIn hb s.heap (C.back w n tn (.str x tx :: vs) kk)) (hl : C.l ∉ C.adrs) :
    GivesM w A 42 [.ref C.x] s [C.l, C.x, C.d] (fun v new => v = .str x tx ∧ new = C.back w n tn vs (kk + 1)) := by
  have tp := tp9.tops
  obtain ⟨A, rfl⟩ : ∃ A0 : Around, A = { A0 with handled := none, frames := some outer } := ⟨A, by cases A; cases hh; cases hfr; rfl⟩
  have hA1 : A.depth + 20 < recursionLimit := hA
  have nd : NdA [C.l, C.x, C.d] := ⟨fun b hb e => hl (e ▸ (List.mem_cons.mp hb).elim (fun h => h ▸ .head _) (fun h => (List.mem_singleton.mp h) ▸ .tail _ (.head _))), ⟨fun b hb => ok.nd.1 b ((List.mem_singleton.mp hb) ▸ .head _), ⟨fun _ h => (nomatch h), trivial⟩⟩⟩
  refine givesM_of_frame (led := C.back w n tn (.str x tx :: vs) kk) tp lx (by show A.depth < _; lia) (lx.keep _ _ (tp.X _ _ (by k_is))) rfl ((codeRec_of tp.X (by k_is)).keeps lx.keep) (BindsTo.of_eq rfl) (locs rfl) (fun g L h₁ tpg hkg hLs F N => ?_) (by decide) (by rfl) (by rfl) (by rfl)
  have tg9 := tp9.keeps hkg
  obtain ⟨X, T, C1, C2⟩ := id tg9
  have B : Below { A with handled := none, frames := some outer } base outer g := ⟨B0.stack, fun b o e => hkg b o (B0.stays b o e), B0.frames.of_keeps fun b o e _ => ⟨o, hkg b o e, rfl⟩⟩
  walk_at "steps"
  (rename Fr _ _ _ _ => F'); (rename News _ _ _ _ => N')
  refine kl_popAt (s := ⟨_, _, _, _, _⟩) (k := 0) (p := []) (q := vs) (y := .str x tx) (n := kk) (its := (Value.str x tx :: vs).toArray) (news' := C.back w n tn vs (kk + 1)) F' N' (by rfl) (by unfold seqIndex?; simp) (by rfl) (by show Upd _ _ (W.listOf vs.toArray (kk + 1)) _ _; k_upd) (by simp only [List.toList_toArray, List.length_cons]; unfold sizeLine; lia) ?_
  intro h' F N
  exact EndM.mk F N (fun q hq => hq) ⟨rfl, rfl⟩
theorem back_call {w : World} {A₀ A : Around} {E : Value → Shared → Prop} {s : Shared} {base g : Heap} {outer : List Env} {L : Addr} {m : Str → Option Value} {env : Env} {mean : ExcName → Option Value} {mg mb : Str → Option Value} {C : LexC} (ok : C.Ok) {n : Int} {tn : Tok} {kk : Nat} {vs : List Value} {x : Str} {tx : Tok} {news rest : List (Addr × Obj)} {Q : Value → Shared → Prop}
    (tg9 : Tops9 w mean mg mb g) (B : Below A₀ base outer g) (F : Fr g L s.heap m) (N : News g L s.heap news)
    (hA : A.frames = some (env :: outer)) (hf : env.frame = some L) (hke : env.scope.kind = .function) (hd : A.depth + 20 < recursionLimit) (hh : A.handled = none) (hvl : vs.length ≤ 700)
    (hl : C.l ∉ C.adrs) (h3 : ∀ q ∈ C.back w n tn (.str x tx :: vs) kk, q ∈ news) (h4 : ∀ q ∈ rest, q ∈ news ∧ q.1 ∉ [C.l, C.x, C.d])
    (hQ : ∀ h' tk', Fr g L h' m → News g L h' (C.back w n tn vs (kk + 1) ++ rest) → Q (.str x tx) { s with heap := h', toks := tk' }) :
    wpAny (model prg w) A (call (.ref 42) [.ref C.x]) Q E s := by
  refine Classical.byContradiction fun hn1 => ?_
  obtain ⟨g', tg', Bg, lx⟩ := ground9 tg9 B F N hA hf hke h3
  refine hn1 ?_
  refine call_M (led := C.back w n tn (.str x tx :: vs) kk) (rest := rest) F N h3 h4 (gettok_back ok tg' hd hh hA ⟨Bg.stack, Bg.stays, Bg.frames⟩ hvl lx hl) ?_
  rintro v h3' tk3 new F₃ N₃ ⟨rfl, rfl⟩
  exact hQ _ _ F₃ N₃
end Mine
end
section
open PySem PySem.W PyProof.Rows PySem.Calls
set_option maxRecDepth 100000
namespace Mine
noncomputable abbrev toksEnv (L : Addr) : Env := envOfC (Str.ofString "_law_tokens") (scopeAt 13) L 110 (.ref 109)
noncomputable def toksBody : List Stmt := (stmtsAt 13).drop 5
theorem toksBody_ok : toksBody.length = 4 := by kernel_rfl
noncomputable def lexAll (text : Str) (K : Nat) : Nat → Int → Int → Option (List Str × Int)
  | 0, _, _ => none
  | k + 1, p, n => match tokRun text K p n with
    | none => none
    | some (tok, p', n') => if tok = S "" then some ([], n') else match lexAll text K k p' n' with
      | none => none
      | some (ws, nf) => some (tok :: ws, nf)
theorem lexAll_step {text : Str} {K k : Nat} {p n nf : Int} {ws : List Str} (h : lexAll text K k p n = some (ws, nf)) :
    ∃ k' tok p' n', k = k' + 1 ∧ tokRun text K p n = some (tok, p', n') ∧ ((tok = S "" ∧ ws = [] ∧ n' = nf) ∨ (tok ≠ S "" ∧ ∃ r, lexAll text K k' p' n' = some (r, nf) ∧ ws = tok :: r)) := by
  cases k with
  | zero => cases h
  | succ k =>
    rw [lexAll] at h
    generalize e : tokRun text K p n = x at h
    rcases x with _ | ⟨tok, p', n'⟩
    · cases h
    · refine ⟨k, tok, p', n', rfl, rfl, ?_⟩
      dsimp only at h
      by_cases ht : tok = S ""
      · rw [if_pos ht] at h; cases h; exact .inl ⟨ht, rfl, rfl⟩
      · rw [if_neg ht] at h
        generalize e2 : lexAll text K k p' n' = y at h
        rcases y with _ | ⟨r, nf'⟩
        · cases h
        · cases h
          exact .inr ⟨ht, r, rfl, rfl⟩
theorem mv_in {X : Type} {a b : X} {A R : List X} : ∀ q ∈ b :: (A ++ a :: R), q ∈ a :: b :: (A ++ R) := by
  intro q h
  simp only [List.mem_cons, List.mem_append] at *
  rcases h with h | h | h | h <;> simp [h]
theorem mv_out {X : Type} {a b : X} {A R : List X} : ∀ q ∈ a :: b :: (A ++ R), q ∈ b :: (A ++ a :: R) := by
  intro q h
  simp only [List.mem_cons, List.mem_append] at *
  rcases h with h | h | h | h <;> simp [h]
theorem StrsAre.snoc {x : Str} {t : Tok} {vs : List Value} {ns : List Str} (h : StrsAre vs ns) : StrsAre (vs ++ [.str x t]) (ns ++ [x]) := by
  induction h with
  | nil => exact .cons _ _ .nil
  | cons _ _ _ ih => exact .cons _ _ ih
theorem StrsAre.dat {news : List (Addr × Obj)} : ∀ {vs : List Value} {ns : List Str}, StrsAre vs ns → DatAll news vs (ns.map Dat.str)
  | _, _, .nil => .nil
  | _, _, .cons _ _ h => .cons (.str _ _) (StrsAre.dat h)
theorem StrsAre.unsnoc {x : Str} {vs : List Value} {ns : List Str} (h : StrsAre vs (ns ++ [x])) : ∃ yi yl, vs = yi ++ [yl] ∧ StrsAre yi ns := by
  induction ns generalizing vs with
  | nil => cases h with | cons _ _ h => cases h; exact ⟨[], _, rfl, .nil⟩
  | cons n ns ih => cases h with | cons _ _ h => obtain ⟨yi, yl, rfl, h'⟩ := ih h; exact ⟨_ :: yi, yl, rfl, .cons _ _ h'⟩
theorem bne_yes {a b : Str} (h : (a != b) = true) : a ≠ b := by simpa using h
theorem bne_no {a b : Str} (h : (a != b) = false) : a = b := by simpa using h
noncomputable def TokSt (text : Str) (K : Nat) (ws : List Str) (nf : Int) (k : Nat) (p n : Int) (done : List Str) (last : Str) : Prop :=
  (last = S "" ∧ done = ws ∧ n = nf) ∨ (last ≠ S "" ∧ ∃ r, lexAll text K k p n = some (r, nf) ∧ ws = done ++ last :: r)
theorem TokSt.next {text : Str} {K : Nat} {ws : List Str} {nf : Int} {k : Nat} {p n : Int} {done : List Str} {last : Str} (h : TokSt text K ws nf k p n done last) (hl : last ≠ S "") :
    ∃ k' tok p' n', k = k' + 1 ∧ tokRun text K p n = some (tok, p', n') ∧ TokSt text K ws nf k' p' n' (done ++ [last]) tok ∧ done.length < ws.length := by
  rcases h with ⟨e, _⟩ | ⟨_, r, e, rfl⟩
  · exact absurd e hl
  · obtain ⟨k', tok, p', n', rfl, e', h'⟩ := lexAll_step e
    refine ⟨k', tok, p', n', rfl, e', ?_, by simp⟩
    rcases h' with ⟨rfl, rfl, rfl⟩ | ⟨hne, r', e2, rfl⟩
    · exact .inl ⟨rfl, rfl, rfl⟩
    · exact .inr ⟨hne, r', e2, by simp⟩
theorem tok_call {w : World} {A₀ A : Around} {E : Value → Shared → Prop} {s : Shared} {base g : Heap} {outer : List Env} {L : Addr} {m : Str → Option Value} {env : Env} {mean : ExcName → Option Value} {mg mb : Str → Option Value} {C : LexC} (ok : C.Ok) {n p : Int} {tn tp' : Tok} {kk K : Nat} {rest : List (Addr × Obj)} {R : Str × Int × Int} {Q : Value → Shared → Prop}
    (tg9 : Tops9 w mean mg mb g) (B : Below A₀ base outer g) (F : Fr g L s.heap m) (N : News g L s.heap ((C.l, W.listOf #[] kk) :: (C.led w n p tn tp' ++ rest)))
    (hA : A.frames = some (env :: outer)) (hf : env.frame = some L) (hke : env.scope.kind = .function) (hd : A.depth + 20 < recursionLimit) (hh : A.handled = none)
    (hl : C.l ∉ C.adrs) (h4 : ∀ q ∈ rest, q.1 ∉ C.l :: C.adrs) (hrun : tokRun C.text K p n = some R)
    (hQ : ∀ h' tk' t' tn' tpp, Fr g L h' m → News g L h' ((C.l, W.listOf #[] kk) :: (C.led w R.2.2 R.2.1 tn' tpp ++ rest)) → Q (.str R.1 t') { s with heap := h', toks := tk' }) :
    wpAny (model prg w) A (call (.ref 42) [.ref C.x]) Q E s := by
  have hl' : ∀ q ∈ (C.l, W.listOf #[] kk) :: C.led w n p tn tp', q ∈ (C.l, W.listOf #[] kk) :: (C.led w n p tn tp' ++ rest) := fun q hq => by
    rcases List.mem_cons.mp hq with rfl | hq
    · exact .head _
    · exact .tail _ (List.mem_append_left _ hq)
  refine Classical.byContradiction fun hn1 => ?_
  obtain ⟨g', tg', Bg, lx⟩ := ground9 tg9 B F N hA hf hke hl'
  refine hn1 ?_
  refine call_M (led := (C.l, W.listOf #[] kk) :: C.led w n p tn tp') (rest := rest) F N hl' (fun q hq => ⟨.tail _ (List.mem_append_right _ hq), h4 q hq⟩) (gettok_spec ok tg' hd hh hA ⟨Bg.stack, Bg.stays, Bg.frames⟩ lx hl hrun) ?_
  rintro v h3' tk3 new F₃ N₃ ⟨t3, tn3, tp3, rfl, rfl⟩
  exact hQ _ _ _ _ _ F₃ N₃
inductive TokJ1 (w : World) (C : LexC) (K : Nat) (ws : List Str) (nf : Int) (lt : Addr) (rest : List (Addr × Obj)) (k : Nat) (m : Str → Option Value) (nx : List (Addr × Obj)) : Prop
  | mk (p n : Int) (tn tp' : Tok) (done : List Str) (last : Str) (t : Tok) (vs : List Value) (cnt : Nat) (m1 : m (S "tokens") = some (.ref lt)) (e : nx = (lt, W.listOf (vs ++ [Value.str last t]).toArray cnt) :: (C.l, W.listOf #[] 0) :: (C.led w n p tn tp' ++ rest)) (hvs : StrsAre vs done) (hst : TokSt C.text K ws nf k p n done last) : TokJ1 w C K ws nf lt rest k m nx
inductive TokJ2 (w : World) (C : LexC) (lt : Addr) (its : List Value) (cnt : Nat) (nf p : Int) (tn tp' : Tok) (rest : List (Addr × Obj)) (i : Nat) (m : Str → Option Value) (nx : List (Addr × Obj)) : Prop
  | mk (m1 : m (S "tokens") = some (.ref lt)) (pc : Nat) (e : nx = (lt, W.listOf its.toArray cnt) :: (C.l, W.listOf (its.take i).toArray pc) :: (C.led w nf p tn tp' ++ rest)) : TokJ2 w C lt its cnt nf p tn tp' rest i m nx
inductive TokJ3 (w : World) (C : LexC) (D1 lt : Addr) (vs its : List Value) (ws : List Str) (cnt : Nat) (nf p : Int) (tn tp' : Tok) (rest : List (Addr × Obj)) (i : Nat) (ys : List Value) (nx : List (Addr × Obj)) : Prop
  | mk (hys : StrsAre ys ((ws ++ [S ""]).take i)) (pc : Nat) (e : nx = (D1, W.listOf vs.toArray 0) :: (lt, W.listOf its.toArray cnt) :: (C.l, W.listOf (its.drop i).toArray pc) :: (C.led w nf p tn tp' ++ rest)) : TokJ3 w C D1 lt vs its ws cnt nf p tn tp' rest i ys nx
set_option maxHeartbeats 1000000 in
theorem toks_rest {w : World} {env0 : Env} {base g : Heap} {s s0 : Shared} {L : Addr} {m : Str → Option Value} {mean : ExcName → Option Value} {mg mb : Str → Option Value} {C : LexC} (ok : C.Ok) {tn tp' : Tok} {oL : Obj} {rest : List (Addr × Obj)} {K k0 : Nat} {ws : List Str} {nf : Int} {P : Value → List (Addr × Obj) → Prop} {body : List Stmt}
    (hb : body = toksBody)
    (tg9 : Tops9 w mean mg mb g) (B : Below (callerA.deeper env0) base [env0] g) (hl : C.l ∉ C.adrs)
    (F : Fr g L s.heap m) (N : News g L s.heap ((C.l, W.listOf #[] 0) :: (C.led w 1 0 tn tp' ++ (L + 1 + 1, oL) :: rest)))
    (h4 : ∀ q ∈ (L + 1 + 1, oL) :: rest, q.1 ∉ C.l :: C.adrs) (hws : ws.length ≤ 600)
    (nd : NdA (C.l :: (C.adrs ++ (L + 1 + 1) :: rest.map Prod.fst)))
    (hcT : @Eq Nat C.cT (L + 1)) (hcP : @Eq Nat C.cP (L + 1 + 1 + 1)) (hoff : OwnOff rest (C.l :: C.adrs))
    (hoL : oL.data = .cell (some (.ref C.x)))
    (hrun : lexAll C.text K k0 0 1 = some (ws, nf))
    (hs0 : ∀ h tk, ({ s with heap := h, toks := tk } : Shared) = { s0 with heap := h, toks := tk })
    (hP : ∀ v new, DatIn new v (.tuple [.list (ws.map Dat.str), .list (ws.map Dat.str), .int nf]) → (∀ p ∈ (C.c', C.oc) :: rest, p ∈ new) → P v new) :
    wpAny (model prg w) ((callerA.deeper env0).deeper (toksEnv L)) (execs body (toksEnv L)) (EndM s0 g L P) NoE s := by
  refine Classical.byContradiction fun hn1 => ?_
  obtain ⟨X, T, C1, C2⟩ := id tg9
  refine hn1 ?_
  have e : body = toksBody := hb
  have e2 : toksBody = toksBody := rfl
  conv at e2 => rhs; whnf
  rw [e, e2]
  clear e e2 hb
  have on1 : On "exec For Name Name cons nil" := ⟨⟩
  have on2 : On "pyIter ref" := ⟨⟩
  have on3 : On "exec While Compare cons nil" := ⟨⟩
  have on4 : On "eval ListComp" := ⟨⟩
  have on5 : On "call ref" := ⟨⟩
  have on6 : On "subscriptTail Name UnaryOp ref int" := ⟨⟩
  have on7 : On "subscriptTail Name Slice ref ref" := ⟨⟩
  walk_at "steps"
  (rename Fr _ _ _ _ => F'); (rename News _ _ _ _ => N')
  refine Classical.byContradiction fun hn2 => ?_
  obtain ⟨k1, tok, p', n', rfl, e1, h1⟩ := lexAll_step hrun
  refine hn2 ?_
  refine Hold.mk (tok_call (s := ⟨_, _, _, _, _⟩) ok tg9 B F' N' rfl rfl (by rfl) (by show (callerA.deeper env0).depth + 1 + 20 < _; k_room) rfl hl h4 e1 ?_)
  intro h' tk' t' tn' tpp F N
  have hst : TokSt C.text K ws nf k1 p' n' [] tok := by
    rcases h1 with ⟨rfl, rfl, rfl⟩ | ⟨hne, r', e2, rfl⟩
    · exact .inl ⟨rfl, rfl, rfl⟩
    · exact .inr ⟨hne, r', e2, by simp⟩
  clear F' N' h1 e1 hrun
  dsimp only at N
  walk_at "steps"
  (rename Fr _ _ _ _ => F'); (rename News _ _ _ _ => N')
  rename_i lt _ l1 ndt _
  have hne : ∀ q ∈ C.l :: C.adrs, q ≠ lt := fun q hq e => ndt.1 q ((List.mem_cons.mp hq).elim (fun h => h ▸ .head _) (fun h => .tail _ (List.mem_append_left _ h))) e
  have hne2 : ∀ q ∈ (L + 1 + 1, oL) :: rest, q.1 ≠ lt := fun q hq e => Nat.ne_of_lt (l1 q (.tail _ (List.mem_append_right _ hq))) e
  refine Hold.mk ?_
  refine While_inv (L := L) (h₀ := g) (TokJ1 w C K ws nf lt ((L + 1 + 1, oL) :: rest)) (n₀ := k1) F' N' ⟨_, _, _, _, [], tok, _, [], _, rfl, rfl, .nil, hst⟩ ?turn
  case turn =>
    clear F' N'
    rintro k m nx h tk F N ⟨p, n, tn, tp', done, last, t, vs, cnt, m1, rfl, hvs, hst⟩
    have hl' : h.IsList lt (vs ++ [Value.str last t]).toArray := ⟨_, (N _ (.head _)).1, rfl, _, rfl⟩
    replace F := Fr.know F m1
    walk_at "steps"
    refine Hold.mk ?_
    with_unfolding_all refine last_item (by kmk_list) ?_
    walk_at "steps"
    · (rename Fr _ _ _ _ => F'); (rename News _ _ _ _ => N')
      refine Classical.byContradiction fun hn3 => ?_
      obtain ⟨k', tok', p1, n1, rfl, e1, hst', hdl⟩ := hst.next (bne_yes (by assumption))
      refine hn3 ?_
      refine Hold.mk (tok_call (s := ⟨_, _, _, _, _⟩) (rest := (lt, W.listOf (vs ++ [Value.str last t]).toArray cnt) :: (L + 1 + 1, oL) :: rest) ok tg9 B F' (News.sub N' mv_in) rfl rfl (by rfl) (by show (callerA.deeper env0).depth + 1 + 20 < _; k_room) rfl hl (fun q hq => ?_) e1 ?_)
      · rcases List.mem_cons.mp hq with rfl | hq
        · exact fun q => hne _ q rfl
        · exact h4 q hq
      intro h' tk' t' tn' tpp F N
      clear F' N'
      replace N := News.sub N mv_out
      dsimp only at N
      have hvl : vs.length ≤ 600 := by have := hvs.length; lia
      walk_at "steps"
      (rename Fr _ _ _ _ => F'); (rename News _ _ _ _ => N')
      refine WhileStep.intro (n' := k') F' N' (Nat.lt_succ_self _) ⟨p1, n1, tn', tpp, done ++ [last], tok', t', vs ++ [.str last t], cnt + 1, rfl, ?_, StrsAre.snoc hvs, hst'⟩
      rw [List.push_toArray]
    · (rename Fr _ _ _ _ => F'); (rename News _ _ _ _ => N')
      refine Classical.byContradiction fun hn4 => ?_
      obtain ⟨rfl, e2, e3⟩ : last = S "" ∧ done = ws ∧ n = nf := by
        rcases hst with h | ⟨h, _⟩
        · exact h
        · exact absurd (bne_no (by assumption)) h
      refine hn4 ?_
      rw [e2] at hvs
      rw [e3] at N'
      refine Hold.mk ?_
      refine wpAny_For ?_ (by intro _; rfl)
      walk_at "steps"
      refine Hold.mk ?_
      (rename Fr _ _ _ _ => F'); (rename News _ _ _ _ => N')
      refine Classical.byContradiction fun hn5 => ?_
      obtain ⟨its, hits⟩ : ∃ its, vs ++ [Value.str (S "") t] = its := ⟨_, rfl⟩
      refine hn5 ?_
      have hI : StrsAre its (ws ++ [S ""]) := hits ▸ StrsAre.snoc hvs
      have hIl : its.length = ws.length + 1 := by have := hI.length; simpa using this
      rw [hits] at hl' N'
      refine iter_list' (env := toksEnv L) (h₀ := g) (TokJ2 w C lt its cnt nf p tn tp' ((L + 1 + 1, oL) :: rest))
        (by rfl) hl' ((N' _ (.head _)).2.1) (.inr ⟨_, fun i m nx h => by obtain ⟨_, _, rfl⟩ := h; exact .head _⟩) (fun _ _ _ _ _ _ _ hq => wpAny_pure hq) F' N' ⟨rfl, 0, rfl⟩ ?pturn ?pdone
      case pturn =>
        clear F' N' hl'
        rintro i v m nx h tk own hv ⟨m1, pc, rfl⟩ hoffo hns F N
        refine Classical.byContradiction fun hn6 => ?_
        obtain ⟨x, tx, hx, rfl⟩ := StrsAre.item hI (by simpa using hv)
        refine hn6 ?_
        replace F := Fr.know F m1
        unfold LexC.led lexLed at N
        dsimp only [List.cons_append, List.nil_append] at N
        have hoffo0 := hoffo
        have hU := UpdAll.second (p := (lt, W.listOf its.toArray cnt)) (d := C.l) (o := W.listOf (its.take i).toArray pc) (a := C.led w nf p tn tp' ++ (L + 1 + 1, oL) :: rest) (b := own) ndt (fun q hq e => hoffo q hq _ (.tail _ (.head _)) e)
        dsimp only [LexC.led, lexLed, List.cons_append, List.nil_append] at hU
        have htk : (its.take i).length ≤ 700 := by rw [List.length_take]; lia
        refine wpAny_assign_Name ?_
        clear on5
        refine hideQ2 fun Q0 hQ0 => ?_
        walk_at "steps"
        (rename Fr _ _ _ _ => F'); (rename News _ _ _ _ => N')
        have htk1 : (its.take i).toArray.push (Value.str x tx) = (its.take (i + 1)).toArray := by
          rw [List.push_toArray, List.take_add_one, show its[i]? = some (Value.str x tx) by simpa using hv]; rfl
        rw [htk1] at N'
        refine hQ0 _ _ ?_
        exact TurnEnd.mk (nx := (lt, W.listOf its.toArray cnt) :: (C.l, W.listOf (its.take (i + 1)).toArray (pc + 1)) :: (C.led w nf p tn tp' ++ (L + 1 + 1, oL) :: rest)) F' (show News g L _ (_ ++ own) from N') (fun p hp => List.mem_append_left _ hp) (fun p hp => List.mem_append_right _ hp) ⟨⟨rfl, pc + 1, rfl⟩, hoffo0⟩
      case pdone =>
        clear F' N' hl'
        rintro m nx h tk ⟨m1, pc, rfl⟩ F N
        rw [List.size_toArray, List.take_length] at N
        replace F := Fr.know F m1
        have hl2 : h.IsList lt its.toArray := ⟨_, (N _ (.head _)).1, rfl, _, rfl⟩
        rw [← hits] at hl2
        have hvl : vs.length ≤ 600 := by have := hvs.length; lia
        dsimp only
        walk_at "steps"
        refine Hold.mk ?_
        k_dflt (refine init_slice (by k_asm) (by k_asm) (by kmk_list) ?_ (by with_unfolding_all rfl) (by kmk_pure) (by omega))
        intro D1 _ _ _ l2
        (try k_lt l2)
        (try k_sweep)
        walk_at "steps"
        (rename Fr _ _ _ _ => F'); (rename News _ _ _ _ => N')
        rename_i nd2
        refine Hold.mk ?_
        refine LCg.ListComp_U (F₀ := F') (by with_unfolding_all rfl) (by decide) (by rfl) (by decide) (by rfl) ?_
        walk1
        refine LCg.CompSrc.ledger (by rfl) F' N' (.tail _ (.head _)) (by rw [List.size_toArray]; unfold sizeLine; lia) ?_
        intro g'
        rw [List.size_toArray]
        refine comp_inv (TokJ3 w C D1 lt vs its ws cnt nf p tn tp' ((L + 1 + 1, oL) :: rest))
          ⟨.nil, pc, rfl⟩ ?cturn ?cdone
        case cturn =>
          clear F' N' hl2
          rintro i ys nx v I oI C' oC D m₂ h tk E' hi ⟨hys, pc, rfl⟩ hv hC hx F N off ne
          refine Classical.byContradiction fun hn7 => ?_
          obtain ⟨x, tx, hx', rfl⟩ := StrsAre.item hI (by simpa using hv)
          refine hn7 ?_
          unfold LexC.led lexLed at N
          dsimp only [List.cons_append, List.nil_append] at N
          have hdrop : its.drop i = .str x tx :: its.drop (i + 1) := by
            rw [List.drop_eq_getElem_cons hi]
            have : its[i]? = some (Value.str x tx) := by simpa using hv
            rw [List.getElem?_eq_getElem hi] at this
            rw [Option.some.inj this]
          rw [hdrop] at N
          refine hideQ fun Q0 hQ0 => ?_
          walk_at "steps"
          refine Hold.mk (back_call (s := ⟨_, _, _, _, _⟩) (vs := its.drop (i + 1)) (kk := pc) (n := nf) (tn := tn) (x := x) (tx := tx) (rest := (I, oI) :: (C', oC) :: (D, LCg.lst ys) :: (D1, W.listOf vs.toArray 0) :: (lt, W.listOf its.toArray cnt) :: ((C.led w nf p tn tp').drop 2 ++ (L + 1 + 1, oL) :: rest)) ok tg9 B F N rfl rfl (by rfl) (by show (callerA.deeper env0).depth + 1 + 20 < _; k_room) rfl (by rw [List.length_drop]; lia) hl ?_ ?_ ?_)
          · walk_at "mem_all"
          · have offm := off.mem
            have hlx : ∀ b ∈ [C.l, C.x, C.d], b ≠ I ∧ b ≠ C' ∧ b ≠ D := by
              intro b hb
              rcases inL3 hb with rfl | rfl | rfl
              · exact offm (C.l, _) (.tail _ (.tail _ (.head _)))
              · exact offm (C.x, _) (.tail _ (.tail _ (.tail _ (List.mem_append_left _ (.head _)))))
              · exact offm (C.d, _) (.tail _ (.tail _ (.tail _ (List.mem_append_left _ (.tail _ (.head _))))))
            refine List.forall_mem_cons.mpr ⟨⟨.head _, fun h => (hlx _ h).1 rfl⟩, ?_⟩
            refine List.forall_mem_cons.mpr ⟨⟨.tail _ (.head _), fun h => (hlx _ h).2.1 rfl⟩, ?_⟩
            refine List.forall_mem_cons.mpr ⟨⟨.tail _ (.tail _ (.head _)), fun h => (hlx _ h).2.2 rfl⟩, ?_⟩
            exact fun q hq => ⟨.tail _ (.tail _ (.tail _ (mem_skip3 hq))), nd2.three _ (List.mem_map_of_mem (f := Prod.fst) hq)⟩
          · intro h' tk' F' N'
            dsimp only [LexC.led, lexLed, List.drop_succ_cons, List.drop_zero, List.cons_append, List.nil_append] at N'
            refine hQ0 _ _ (LCg.CompEnd.intro (m := _) F' N' ((D1, W.listOf vs.toArray 0) :: (lt, W.listOf its.toArray cnt) :: (C.l, W.listOf (its.drop (i + 1)).toArray (pc + 1)) :: (C.led w nf p tn tp' ++ (L + 1 + 1, oL) :: rest)) ?_ off (.inr ⟨_, .tail _ (.head _), rfl, _, rfl⟩) ⟨?_, pc + 1, rfl⟩)
            · dsimp only [LexC.led, lexLed, List.cons_append, List.nil_append]
              iterate 15 refine List.forall_mem_cons.mpr ⟨by k_mem, ?_⟩
              intro q hq
              exact List.mem_append_right [_, _, _, _, _, _, _, _, _, _, _, _, _, _, _] hq
            · rw [List.take_add_one, hx']
              exact StrsAre.snoc hys
        case cdone =>
          clear F' N' hl2
          rintro ys nx ⟨hys, pc, rfl⟩
          rw [List.take_of_length_le (by simp [hIl])] at hys
          refine Classical.byContradiction fun hn8 => ?_
          obtain ⟨yi, yl, rfl, hyi⟩ := StrsAre.unsnoc hys
          refine hn8 ?_
          have hyl' : yi.length ≤ 600 := by have := hyi.length; lia
          unfold LCg.FinE
          intro D h tk F N o1
          have hl2 : h.IsList D (yi ++ [yl]).toArray := ⟨_, (N _ (.head _)).1, rfl, _, rfl⟩
          dsimp only
          walk_at "steps"
          refine Hold.mk ?_
          k_dflt (refine init_slice (by k_asm) (by k_asm) (by kmk_list) ?_ (by with_unfolding_all rfl) (by kmk_pure) (by omega))
          intro _ _ _ _ l9
          (try k_lt l9)
          (try k_sweep)
          walk_at "steps"
          (rename Fr _ _ _ _ => F'); (rename News _ _ _ _ => N')
          show EndM s0 g L P _ ({ s with heap := _, toks := _ } : Shared)
          rw [hs0]
          refine EndM.mk F' N' (fun q hq => hq) (hP _ _ ?_ ?_)
          · exact DatIn.tuple (vs := [.ref D1, .ref _, .int nf tn]) (.head _) (.cons (DatIn.list (vs := vs) (.tail _ (.tail _ (.tail _ (.head _)))) (StrsAre.dat hvs)) (.cons (DatIn.list (vs := yi) (.tail _ (.head _)) (StrsAre.dat hyi)) (.cons (.int _ _) .nil)))
          · intro q hq
            rcases List.mem_cons.mp hq with rfl | hq
            · exact .tail _ (.tail _ (.tail _ (.tail _ (.tail _ (.tail _ (List.mem_append_left _ (.tail _ (.tail _ (.tail _ (.tail _ (.tail _ (.head _))))))))))))
            · exact .tail _ (.tail _ (.tail _ (.tail _ (.tail _ (.tail _ (List.mem_append_right _ (.tail _ hq)))))))
end Mine
end
section
open PySem PySem.W PyProof.Rows PySem.Calls
set_option maxRecDepth 100000
namespace Mine
theorem CellsAre.three {cm : Str → Option Value} {n n' n'' : Str} {c c' c'' : Addr} {cells : List (Addr × Obj)} (x : CellsAre cm [(n, c), (n', c'), (n'', c'')] cells) :
    ∃ o o' o'', cells = [(c, o), (c', o'), (c'', o'')] ∧ o.data = .cell (cm n) ∧ o'.data = .cell (cm n') ∧ o''.data = .cell (cm n'') := by
  cases x with | cons h r => obtain ⟨o, o', rfl, h', h''⟩ := r.two; exact ⟨_, o, o', rfl, h, h', h''⟩

theorem toks_rest1 {w : World} {env0 : Env} {base g : Heap} {s s0 : Shared} {L : Addr} {m : Str → Option Value} {mean : ExcName → Option Value} {mg mb : Str → Option Value} {K k0 : Nat} {ws : List Str} {nf : Int} {P : Value → List (Addr × Obj) → Prop} {body : List Stmt}
    {x d D f fr c' c2 lp l : Addr} {tn t1 t2 t3 t4 t5 tp' tq tx : Tok} {oD oc oc2 oP oT oL o107 : Obj} {fdl : FuncData} {doc ctv pm : Value} {vs : Array Value} {text : Str}
    (hb : body = toksBody)
    (tg9 : Tops9 w mean mg mb g) (B : Below (callerA.deeper env0) base [env0] g)
    (F : Fr g L s.heap m) (N : News g L s.heap [(l, W.listOf #[] 0), (x, instObj 52 d), (d, lexDict w 1 f l tn t1 t2 t3 t4 t5), (D, oD), (f, { cls := .type "function", dict := some D, data := .func fdl }), (c2, oc2),
      (fr, readFn pm (L + 1) (L + 1 + 1 + 1) c' doc ctv), (c', oc), (lp, W.listOf #[.int 0 tp'] 0), (L + 1 + 1 + 1, oP), (L + 1 + 1, oL), (L + 1, oT), (107, o107)])
    (hD : LCg.NsObj oD (fun y => if y = S "read" then some (.ref fr) else none)) (hoc : oc.data = .fields vs) (hvs : vs[1]? = some (.str (Str.ofString "_law_tokens.<locals>.read") tq))
    (hoP : oP.data = .cell (some (.ref lp))) (hoT : oT.data = .cell (some (.str text tx))) (hoL : oL.data = .cell (some (.ref x))) (htx : text.length ≤ 100000) (hws : ws.length ≤ 600)
    (nd : NdA [l, x, d, D, f, c2, fr, c', lp, L + 1 + 1 + 1, L + 1 + 1, L + 1, 107])
    (hs0 : ∀ h tk, ({ s with heap := h, toks := tk } : Shared) = { s0 with heap := h, toks := tk })
    (hrun : lexAll text K k0 0 1 = some (ws, nf))
    (hP : ∀ v new, DatIn new v (.tuple [.list (ws.map Dat.str), .list (ws.map Dat.str), .int nf]) → (107, o107) ∈ new → (c', oc) ∈ new → P v new) :
    wpAny (model prg w) ((callerA.deeper env0).deeper (toksEnv L)) (execs body (toksEnv L)) (EndM s0 g L P) NoE s := by
  have nd := nd.perm (l' := l :: (x :: d :: D :: f :: fr :: c' :: lp :: (L + 1 + 1 + 1) :: (L + 1) :: (L + 1 + 1) :: [c2, 107])) (.cons _ (.cons _ (.cons _ (.cons _ (.cons _ ((List.perm_middle (l₁ := [fr, c', lp, L + 1 + 1 + 1, L + 1 + 1, L + 1]) (l₂ := [107])).symm.trans (.cons _ (.cons _ (.cons _ (.cons _ (.swap _ _ _)))))))))))
  have off : ∀ q ∈ (L + 1 + 1) :: [c2, 107], q ∉ [l, x, d, D, f, fr, c', lp, L + 1 + 1 + 1, L + 1] := nd.far
  refine toks_rest (C := ⟨x, d, D, f, fr, c', lp, L + 1 + 1 + 1, L + 1, l, t1, t2, t3, t4, t5, tq, tx, oD, oc, oP, oT, fdl, doc, ctv, pm, vs, text⟩) (tn := tn) (tp' := tp') (rest := [(c2, oc2), (107, o107)]) ⟨hD, hoc, hvs, hoP, hoT, htx, nd.nine⟩ hb tg9 B (fun h => nd.1 _ (List.mem_append_left (bs := (L + 1 + 1) :: [c2, 107]) h) rfl) F (News.sub N (by walk_at "mem_all")) (fun q hq => off _ (List.mem_map_of_mem (f := Prod.fst) hq)) hws nd rfl rfl (fun q hq b hb e => off _ (.tail _ (List.mem_map_of_mem (f := Prod.fst) hq)) (e ▸ hb)) hoL hrun hs0 ?_
  · intro v new h1 h2
    exact hP v new h1 (h2 _ (.tail _ (.tail _ (.head _)))) (h2 _ (.head _))
theorem toks_rest2 {w : World} {env0 : Env} {base g : Heap} {s s0 : Shared} {L : Addr} {m : Str → Option Value} {mean : ExcName → Option Value} {mg mb : Str → Option Value} {K k0 : Nat} {ws : List Str} {nf : Int} {P : Value → List (Addr × Obj) → Prop} {body : List Stmt}
    {x d D f fr c' c2 lp l : Addr} {tn t1 t2 t3 t4 t5 tp' tq tx : Tok} {oD oc oc2 oP oT oL o107 : Obj} {fdl : FuncData} {doc ctv pm : Value} {vs : Array Value} {text : Str}
    (hb : body = toksBody)
    (tg9 : Tops9 w mean mg mb g) (B : Below (callerA.deeper env0) base [env0] g)
    (F : Fr g L s.heap m) (N : News g L s.heap [(l, W.listOf #[] 0), (x, instObj 52 d), (d, lexDict w 1 f l tn t1 t2 t3 t4 t5), (D, oD), (f, { cls := .type "function", dict := some D, data := .func fdl }),
      (fr, readFn pm (L + 1) (L + 1 + 1 + 1) c' doc ctv), (lp, W.listOf #[.int 0 tp'] 0), (L + 1 + 1 + 1, oP), (L + 1 + 1, oL), (L + 1, oT), (107, o107), (c', oc)])
    (hD : LCg.NsObj oD (fun y => if y = S "read" then some (.ref fr) else none)) (hoc : oc.data = .fields vs) (hvs : vs[1]? = some (.str (Str.ofString "_law_tokens.<locals>.read") tq))
    (hoP : oP.data = .cell (some (.ref lp))) (hoT : oT.data = .cell (some (.str text tx))) (hoL : oL.data = .cell (some (.ref x))) (htx : text.length ≤ 100000) (hws : ws.length ≤ 600)
    (nd : NdA [l, x, d, D, f, fr, lp, L + 1 + 1 + 1, L + 1 + 1, L + 1, 107, c'])
    (hs0 : ∀ h tk, ({ s with heap := h, toks := tk } : Shared) = { s0 with heap := h, toks := tk })
    (hrun : lexAll text K k0 0 1 = some (ws, nf))
    (hP : ∀ v new, DatIn new v (.tuple [.list (ws.map Dat.str), .list (ws.map Dat.str), .int nf]) → (107, o107) ∈ new → (c', oc) ∈ new → P v new) :
    wpAny (model prg w) ((callerA.deeper env0).deeper (toksEnv L)) (execs body (toksEnv L)) (EndM s0 g L P) NoE s := by
  have nd := nd.perm (l' := l :: (x :: d :: D :: f :: fr :: c' :: lp :: (L + 1 + 1 + 1) :: (L + 1) :: (L + 1 + 1) :: [107])) (.cons _ (.cons _ (.cons _ (.cons _ (.cons _ (.cons _ ((List.perm_append_comm (l₁ := [lp, L + 1 + 1 + 1, L + 1 + 1, L + 1, 107]) (l₂ := [c'])).trans (.cons _ (.cons _ (.cons _ (.swap _ _ _)))))))))))
  have off : ∀ q ∈ (L + 1 + 1) :: [107], q ∉ [l, x, d, D, f, fr, c', lp, L + 1 + 1 + 1, L + 1] := nd.far
  refine toks_rest (C := ⟨x, d, D, f, fr, c', lp, L + 1 + 1 + 1, L + 1, l, t1, t2, t3, t4, t5, tq, tx, oD, oc, oP, oT, fdl, doc, ctv, pm, vs, text⟩) (tn := tn) (tp' := tp') (rest := [(107, o107)]) ⟨hD, hoc, hvs, hoP, hoT, htx, nd.nine⟩ hb tg9 B (fun h => nd.1 _ (List.mem_append_left (bs := (L + 1 + 1) :: [107]) h) rfl) F (News.sub N (by walk_at "mem_all")) (fun q hq => off _ (List.mem_map_of_mem (f := Prod.fst) hq)) hws nd rfl rfl (fun q hq b hb e => off _ (.tail _ (List.mem_map_of_mem (f := Prod.fst) hq)) (e ▸ hb)) hoL hrun hs0 ?_
  · intro v new h1 h2
    exact hP v new h1 (h2 _ (.tail _ (.head _))) (h2 _ (.head _))
set_option maxHeartbeats 1000000 in
theorem tokens_spec1 {w : World} {env0 : Env} {base : Heap} {s : Shared} {mean : ExcName → Option Value} {mg mb : Str → Option Value} {hb : Heap} {x : Str} {tx : Tok} {K k0 : Nat} {ws : List Str} {nf : Int} (tp9 : Tops9 w mean mg mb hb) (lx : LedIn hb s.heap [(107, tabObj #[])]) (B0 : Below (callerA.deeper env0) base [env0] hb)
    (htx : x.length ≤ 100000) (hws : ws.length ≤ 600) (hrun : lexAll x K k0 0 1 = some (ws, nf)) :
    GivesM w (callerA.deeper env0) 110 [.str x tx] s [107] (fun v new => DatIn new v (.tuple [.list (ws.map Dat.str), .list (ws.map Dat.str), .int nf]) ∧ ∃ c' c2 oc vs tq, (107, tabObj (#[] ++ #[rawInt ↑153, rawInt ↑4, Value.ref c'] ++ #[rawInt ↑156, rawInt ↑13, Value.ref c2])) ∈ new ∧ (c', oc) ∈ new ∧ oc.data = .fields vs ∧ vs[1]? = some (.str (Str.ofString "_law_tokens.<locals>.read") tq) ∧ @Ne Nat c' 107) := by
  have tp := tp9.tops
  refine givesM_of_cells (led := [(107, tabObj #[])]) (binds := [(S "text", .str x tx)]) tp lx (by k_room) (lx.keep _ _ (tp.X _ _ (by k_is))) rfl ((codeRec_of tp.X (by k_is)).keeps lx.keep) (BindsTo.of_eq rfl) (fun n y hy => ?_) (by decide) (fun g L h₁ tk cells tpg hkg hLs F N Y hlt => ?_) (by rfl) (by rfl) (by rfl)
  · rw [List.mem_singleton.mp hy]
    exact .inr ⟨rfl, rfl⟩
  refine Classical.byContradiction fun hn1 => ?_
  obtain ⟨o1, o2, o3, rfl, ho1, ho2, ho3⟩ := CellsAre.three Y
  replace ho3 : o3.data = .cell (some (.str x tx)) := ho3
  replace ho1 : o1.data = .cell none := ho1
  replace ho2 : o2.data = .cell none := ho2
  have l107 : @LT.lt Nat _ 107 L := hlt _ (.head _)
  have tg9 := tp9.keeps hkg
  obtain ⟨X, T, C1, C2⟩ := tg9
  refine hn1 ?_
  have B : Below (callerA.deeper env0) base [env0] g := ⟨B0.stack, fun b o e => hkg b o (B0.stays b o e), B0.frames.of_keeps fun b o e _ => ⟨o, hkg b o e, rfl⟩⟩
  clear Y hlt tpg
  have nd : NdA [L + 1 + 1 + 1, L + 1 + 1, L + 1, 107] := by simp only [NdA]; exact ⟨by simp; lia, by simp; lia, by simp; lia, by simp, trivial⟩
  dsimp only [List.cons_append, List.nil_append] at N
  have q1 : On "setAttr ref" := ⟨⟩
  walk_at "steps"
  clear q1
  refine Hold.mk ?_
  refine fn_setattr_K (by k_asm) (by k_asm) (by k_mem) (by exact rfl) (by exact rfl) (by exact rfl) (by intro D; k_upd) ?_
  intro D' o' h' tk' F' N' hns l1
  (try dsimp only at N')
  (try k_lt l1)
  have q1 : On "exec Assign cons List" := ⟨⟩
  walk_at "steps"
  clear q1
  refine Hold.mk ?_
  have q1 : On "execs cons" := ⟨⟩
  walk_at "steps"
  (rename Fr _ _ _ _ => F'); (rename News _ _ _ _ => N')
  refine Hold.mk (toks_rest1 (s := ⟨_, _, _, _, _⟩) (by kernel_rfl) ⟨X, T, C1, C2⟩ B F' N' (by assumption) (by assumption) (by assumption) (by assumption) (by assumption) (by assumption) htx hws (by assumption) (fun _ _ => rfl) hrun ?_)
  · intro v new h1 h2 h3
    exact ⟨h1, _, _, _, _, _, h2, h3, by assumption, by assumption, NdA.gt (by assumption : NdA [_, _, _, _, _, _, _, _, _, _, _, _, 107]).2.2.2.2.2.2.2 (.tail _ (.tail _ (.tail _ (.tail _ (.head _)))))⟩
end Mine
end
section
open PySem PySem.W PyProof.Rows PySem.Calls
set_option maxRecDepth 100000
namespace Mine
set_option maxHeartbeats 1000000 in
theorem tokens_spec2 {w : World} {env0 : Env} {base : Heap} {s : Shared} {mean : ExcName → Option Value} {mg mb : Str → Option Value} {hb : Heap} {x : Str} {tx : Tok} {K k0 : Nat} {ws : List Str} {nf : Int} (tp9 : Tops9 w mean mg mb hb) {c' c2 : Addr} {oc : Obj} {vs : Array Value} {tq : Tok} (lx : LedIn hb s.heap [(107, tabObj (#[] ++ #[rawInt ↑153, rawInt ↑4, Value.ref c'] ++ #[rawInt ↑156, rawInt ↑13, Value.ref c2])), (c', oc)]) (hoc : oc.data = .fields vs) (hvs : vs[1]? = some (.str (Str.ofString "_law_tokens.<locals>.read") tq)) (hcne : @Ne Nat c' 107) (B0 : Below (callerA.deeper env0) base [env0] hb)
    (htx : x.length ≤ 100000) (hws : ws.length ≤ 600) (hrun : lexAll x K k0 0 1 = some (ws, nf)) :
    GivesM w (callerA.deeper env0) 110 [.str x tx] s [107, c'] (fun v new => DatIn new v (.tuple [.list (ws.map Dat.str), .list (ws.map Dat.str), .int nf]) ∧ (107, tabObj (#[] ++ #[rawInt ↑153, rawInt ↑4, Value.ref c'] ++ #[rawInt ↑156, rawInt ↑13, Value.ref c2])) ∈ new ∧ (c', oc) ∈ new) := by
  have tp := tp9.tops
  refine givesM_of_cells (led := [(107, tabObj (#[] ++ #[rawInt ↑153, rawInt ↑4, Value.ref c'] ++ #[rawInt ↑156, rawInt ↑13, Value.ref c2])), (c', oc)]) (binds := [(S "text", .str x tx)]) tp lx (by k_room) (lx.keep _ _ (tp.X _ _ (by k_is))) rfl ((codeRec_of tp.X (by k_is)).keeps lx.keep) (BindsTo.of_eq rfl) (fun n y hy => ?_) (by decide) (fun g L h₁ tk cells tpg hkg hLs F N Y hlt => ?_) (by rfl) (by rfl) (by rfl)
  · rw [List.mem_singleton.mp hy]
    exact .inr ⟨rfl, rfl⟩
  refine Classical.byContradiction fun hn1 => ?_
  obtain ⟨o1, o2, o3, rfl, ho1, ho2, ho3⟩ := CellsAre.three Y
  replace ho3 : o3.data = .cell (some (.str x tx)) := ho3
  replace ho1 : o1.data = .cell none := ho1
  replace ho2 : o2.data = .cell none := ho2
  have l107 : @LT.lt Nat _ 107 L := hlt _ (.head _)
  have lc' : @LT.lt Nat _ c' L := hlt _ (.tail _ (.head _))
  have tg9 := tp9.keeps hkg
  obtain ⟨X, T, C1, C2⟩ := tg9
  refine hn1 ?_
  have B : Below (callerA.deeper env0) base [env0] g := ⟨B0.stack, fun b o e => hkg b o (B0.stays b o e), B0.frames.of_keeps fun b o e _ => ⟨o, hkg b o e, rfl⟩⟩
  clear Y hlt tpg
  have nd : NdA [L + 1 + 1 + 1, L + 1 + 1, L + 1, 107, c'] := by simp only [NdA]; exact ⟨by simp; lia, by simp; lia, by simp; lia, by simpa using hcne, by simp, trivial⟩
  dsimp only [List.cons_append, List.nil_append] at N
  have q1 : On "setAttr ref" := ⟨⟩
  walk_at "steps"
  clear q1
  refine Hold.mk ?_
  refine fn_setattr_K (by k_asm) (by k_asm) (by k_mem) (by exact rfl) (by exact rfl) (by exact rfl) (by intro D; k_upd) ?_
  intro D' o' h' tk' F' N' hns l1
  (try dsimp only at N')
  (try k_lt l1)
  have q1 : On "exec Assign cons List" := ⟨⟩
  walk_at "steps"
  clear q1
  refine Hold.mk ?_
  have q1 : On "execs cons" := ⟨⟩
  walk_at "steps"
  (rename Fr _ _ _ _ => F'); (rename News _ _ _ _ => N')
  refine Hold.mk (toks_rest2 (c2 := 0) (oc2 := oc) (s := ⟨_, _, _, _, _⟩) (by kernel_rfl) ⟨X, T, C1, C2⟩ B F' N' (by assumption) (by assumption) (by assumption) (by assumption) (by assumption) (by assumption) htx hws (by assumption) (fun _ _ => rfl) hrun ?_)
  · intro v new h1 h2 h3
    exact ⟨h1, h2, h3⟩
end Mine
end
section
open PySem PySem.W PyProof.Rows PySem.Calls
set_option maxRecDepth 100000
namespace Mine
section
variable {prog : Program} {w : World} {A : Around} {R : Result → Shared → Prop} {s : Shared} {id : String} {b : Builtin} {self : Value} {rest args : List Value} {T : String} {name : Str}
theorem codeAny_slot (h : Slot T name id) (hT : s.TypeIs self T) (hb : entryFor table id = some b) (ha : argsOk id ⟨self :: rest, []⟩)
    (hc : wpAny (model prog w) A.in1 (b ⟨self :: rest, []⟩) (fun fin s' => ∃ v, fin = .done (.ret v) ∧ R (.ok (.ret v)) s') (fun e s' => R (.error e) s') s) :
    codeAny (model prog w) A (.call (.builtin id) ⟨self :: rest, []⟩) R s := by
  refine codeAny_call_builtin h.plain hb (h.check _ _ _ _ _ _ _ _ hT ha (wpAny_mono hc (fun fin s' h' => ?_) fun _ _ h' => h'))
  obtain ⟨v, rfl, hv⟩ := h'; exact hv
theorem codeAny_fn (hk : builtinKind id = none) (hp : plainId id = true) (hb : entryFor table id = some b) (ha : argsOk id ⟨args, []⟩)
    (hc : wpAny (model prog w) A.in1 (b ⟨args, []⟩) (fun fin s' => ∃ v, fin = .done (.ret v) ∧ R (.ok (.ret v)) s') (fun e s' => R (.error e) s') s) :
    codeAny (model prog w) A (.call (.builtin id) ⟨args, []⟩) R s := by
  refine codeAny_call_builtin hp hb ?_
  have hfin := wpAny_mono hc (Q' := fun fin s' => match fin with
      | .done f => R (.ok f) s'
      | .again c' => c'.quiet = true ∧ codeAny (model prog w) A c' R s')
    (fun fin s' h' => by obtain ⟨v, rfl, hv⟩ := h'; exact hv) fun _ _ h' => h'
  simp only [checkBuiltinCall, hk]
  cases hsig : Manifest.signature? id with
  | none => exact wpAny_pure hfin
  | some sig =>
    have ha' : Bind.checkArgs id sig ⟨args, []⟩ = pure () := by simpa only [argsOk, hsig] using ha
    simp only [ha']
    exact wpAny_pure hfin
end
theorem wpAny_to {α : Type} {M : Model} {A : Around} {t : Sem α} {K : α → Shared → Prop} {E : Value → Shared → Prop} {s s1 : Shared} {v : α}
    (h1 : wpAny M A t (fun a s' => a = v ∧ s' = s1) (fun _ _ => False) s) (h2 : K v s1) : wpAny M A t K E s :=
  wpAny_mono h1 (fun a s' h => by obtain ⟨rfl, rfl⟩ := h; exact h2) fun _ _ h => h.elim
theorem wpAny_same {α : Type} {M : Model} {A : Around} {t : Sem α} {K : α → Shared → Prop} {E : Value → Shared → Prop} {s : Shared} (v : α)
    (h1 : wpAny M A t (fun a s' => a = v ∧ s' = s) (fun _ _ => False) s) (h2 : K v s) : wpAny M A t K E s := wpAny_to h1 h2
theorem wpAny_toS {α : Type} {M : Model} {A : Around} {t : Sem α} {K : α → Shared → Prop} {E : Value → Shared → Prop} {s : Shared} {P : α → Shared → Prop}
    (h1 : wpAny M A t P (fun _ _ => False) s) (h2 : ∀ v s1, P v s1 → K v s1) : wpAny M A t K E s :=
  wpAny_mono h1 (fun a s' h => h2 a s' h) fun _ _ h => h.elim
end Mine
end
section
open PySem PySem.W PyProof.Rows PySem.Calls
set_option maxRecDepth 100000
namespace Mine
section
variable {M : Model} {A : Around} {E : Value → Shared → Prop} {hp : Heap} {g : Array GenState} {d : Drawn} {tk : Nat} {os : OsState} {β : Type} {Q : β → Shared → Prop} {h₀ : Heap} {L a : Addr} {m : Str → Option Value} {news news' : List (Addr × Obj)} {o o' : Obj} {s : Shared}
theorem l_pure {α : Type} {x : α} {f : α → Sem β} (h : wpAny M A (f x) Q E s) : wpAny M A (pure x >>= f) Q E s := wpAny_bind (wpAny_pure h)
theorem l_eq {α : Type} {t : Sem α} {f : α → Sem β} (x : α) (e : t = pure x) (h : wpAny M A (f x) Q E s) : wpAny M A (t >>= f) Q E s := wpAny_bind (wpAny_of_eq e h)
theorem l_same {α : Type} {t : Sem α} {f : α → Sem β} (v : α) (h1 : wpAny M A t (fun a s' => a = v ∧ s' = s) (fun _ _ => False) s) (h2 : wpAny M A (f v) Q E s) : wpAny M A (t >>= f) Q E s := wpAny_bind (wpAny_same v h1 h2)
theorem l_at {p : Pos} {f : Unit → Sem β} (h : wpAny M A (f ()) Q E s) : wpAny M A (standAt p >>= f) Q E s := wpAny_bind (wpAny_standAt h)
theorem l_rule {x : String} {f : Unit → Sem β} (h : wpAny M A (f ()) Q E s) : wpAny M A (rule x >>= f) Q E s := wpAny_bind (wpAny_rule h)
theorem l_text {x : Str} {f : Value → Sem β} (h : wpAny M A (f (.str x tk)) Q E ⟨hp, g, d, tk + 1, os⟩) : wpAny M A (mkText x >>= f) Q E ⟨hp, g, d, tk, os⟩ := wpAny_bind (wpAny_mkText h)
theorem l_int {x : Int} {f : Value → Sem β} (h : wpAny M A (f (.int x tk)) Q E ⟨hp, g, d, tk + 1, os⟩) : wpAny M A (mkInt x >>= f) Q E ⟨hp, g, d, tk, os⟩ := wpAny_bind (wpAny_mkInt h)
theorem ledLt (N : News h₀ L hp news) : AllLt hp.objs.size news := allLt_of fun p hp' => Heap.lt_size (N p hp').1
theorem l_new {T : String} {data : Data} {dict : Option Addr} {f : Value → Sem β} (F : Fr h₀ L hp m) (N : News h₀ L hp news)
    (h : ∀ a hp', Fr h₀ L hp' m → News h₀ L hp' ((a, { cls := .type T, dict, data }) :: news) → AllLt a news → wpAny M A (f (.ref a)) Q E ⟨hp', g, d, tk, os⟩)
    (hd : sizeOk data) (hf : ({ cls := .type T, dict, data } : Obj).isFreed = false) : wpAny M A (newObj (.type T) data dict >>= f) Q E ⟨hp, g, d, tk, os⟩ :=
  wpAny_bind (wpAny_newObj_type (h _ _ (F.push _) (News.push F N _ hf) (ledLt N)) hd)
theorem l_alloc {f : Addr → Sem β} (F : Fr h₀ L hp m) (N : News h₀ L hp news)
    (h : ∀ a hp', Fr h₀ L hp' m → News h₀ L hp' ((a, o) :: news) → AllLt a news → wpAny M A (f a) Q E ⟨hp', g, d, tk, os⟩) (hf : o.isFreed = false) : wpAny M A (alloc o >>= f) Q E ⟨hp, g, d, tk, os⟩ :=
  wpAny_bind (wpAny_alloc (h _ _ (F.push _) (News.push F N _ hf) (ledLt N)))
theorem alloc_led {Q : Addr → Shared → Prop} (F : Fr h₀ L hp m) (N : News h₀ L hp news)
    (h : ∀ a hp', Fr h₀ L hp' m → News h₀ L hp' ((a, o) :: news) → AllLt a news → Q a ⟨hp', g, d, tk, os⟩) (hf : o.isFreed = false) : wpAny M A (alloc o) Q E ⟨hp, g, d, tk, os⟩ :=
  wpAny_alloc (h _ _ (F.push _) (News.push F N _ hf) (ledLt N))
theorem new_led {T : String} {data : Data} {dict : Option Addr} {Q : Value → Shared → Prop} (F : Fr h₀ L hp m) (N : News h₀ L hp news)
    (h : ∀ a hp', Fr h₀ L hp' m → News h₀ L hp' ((a, { cls := .type T, dict, data }) :: news) → AllLt a news → Q (.ref a) ⟨hp', g, d, tk, os⟩)
    (hd : sizeOk data) (hf : ({ cls := .type T, dict, data } : Obj).isFreed = false) : wpAny M A (newObj (.type T) data dict) Q E ⟨hp, g, d, tk, os⟩ :=
  wpAny_newObj_type (h _ _ (F.push _) (News.push F N _ hf) (ledLt N)) hd
theorem l_no {b : Bool} {t e : Sem β} (hb : b = false) (h : wpAny M A e Q E s) : wpAny M A (if b = true then t else e) Q E s := by rw [hb, if_neg Bool.false_ne_true]; exact h
theorem l_yes {b : Bool} {t e : Sem β} (hb : b = true) (h : wpAny M A t Q E s) : wpAny M A (if b = true then t else e) Q E s := by rw [hb, if_pos rfl]; exact h
theorem l_load {f : Obj → Sem β} (N : News h₀ L s.heap news) (hm : (a, o) ∈ news) (h : wpAny M A (f o) Q E s) : wpAny M A (load a >>= f) Q E s := wpAny_bind (wpAny_load (N _ hm).1 h)
theorem l_part {p : Option Value} {f : Obj → Sem β} (N : News h₀ L s.heap news) (hm : (a, o) ∈ news) (h : wpAny M A (f o) Q E s) : wpAny M A (loadPart a p >>= f) Q E s := wpAny_bind (wpAny_loadPart (N _ hm).1 h)
theorem l_typeOf {f : Value → Sem β} (N : News h₀ L s.heap news) (hm : (a, o) ∈ news) (h : wpAny M A (f o.cls) Q E s) : wpAny M A (typeOf (.ref a) >>= f) Q E s := by
  unfold typeOf
  exact wpAny_bind (wpAny_bind (wpAny_loadPart (N _ hm).1 (wpAny_pure h)))
theorem upd_news {fn : Obj → Obj} (F : Fr h₀ L hp m) (N : News h₀ L hp news) (U : Upd a o o' news news') (e : fn o = o') (hf : o'.isFreed = false) : Fr h₀ L (hp.update a fn) m ∧ News h₀ L (hp.update a fn) news' ∧ hp.get? a = some o := by
  obtain ⟨pre, post, rfl, rfl, h1, h2⟩ := U.split
  have z := N (a, o) (List.mem_append.mpr (.inr (.head _)))
  refine ⟨F.change (Heap.SameBut.update ..) z.2.1 z.2.2, news_set N h1 h2 (Heap.SameBut.update ..) ?_, z.1⟩
  subst e
  exact Heap.get?_update_self _ z.1 hf
theorem l_upd {fn : Obj → Obj} {f : Unit → Sem β} (F : Fr h₀ L hp m) (N : News h₀ L hp news) (U : Upd a o o' news news') (e : fn o = o') (hf : o'.isFreed = false)
    (h : ∀ hp', Fr h₀ L hp' m → News h₀ L hp' news' → wpAny M A (f ()) Q E ⟨hp', g, d, tk, os⟩) : wpAny M A (update a fn >>= f) Q E ⟨hp, g, d, tk, os⟩ := by
  refine Classical.byContradiction fun hn1 => ?_
  obtain ⟨F', N', z⟩ := upd_news F N U e hf
  refine hn1 ?_
  exact wpAny_bind (wpAny_update z (h _ F' N'))
theorem l_updPart {fn : Obj → Obj} {p : Option Value} {f : Unit → Sem β} (F : Fr h₀ L hp m) (N : News h₀ L hp news) (U : Upd a o o' news news') (e : fn o = o') (hf : o'.isFreed = false)
    (h : ∀ hp', Fr h₀ L hp' m → News h₀ L hp' news' → wpAny M A (f ()) Q E ⟨hp', g, d, tk, os⟩) : wpAny M A (updatePart a p fn >>= f) Q E ⟨hp, g, d, tk, os⟩ := by
  refine Classical.byContradiction fun hn1 => ?_
  obtain ⟨F', N', z⟩ := upd_news F N U e hf
  refine hn1 ?_
  exact wpAny_bind (wpAny_updatePart z (h _ F' N'))
theorem nsGet_led {name : Str} {es : List DictEntry} {n : Nat} {v : Option Value} {Q : Option Value → Shared → Prop} (N : News h₀ L s.heap news) (hm : (a, dictOf es n) ∈ news) (e : getL name es = some v) (h : Q v s) :
    wpAny M A (nsGet a name) Q E s := by
  unfold nsGet
  refine wpAny_bind (wpAny_loadPart (N _ hm).1 ?_)
  rw [nsLook_of (show lookIn name (dictOf es n) = some v from e)]
  exact wpAny_pure h
theorem l_get {name : Str} {es : List DictEntry} {n : Nat} {v : Option Value} {f : Option Value → Sem β} (N : News h₀ L s.heap news) (hm : (a, dictOf es n) ∈ news) (e : getL name es = some v) (h : wpAny M A (f v) Q E s) :
    wpAny M A (nsGet a name >>= f) Q E s := wpAny_bind (nsGet_led N hm e h)
theorem l_get0 {name : Str} {mm : Str → Option Value} {f : Option Value → Sem β} (F : Fr h₀ L s.heap m) (hn : h₀.Ns a mm) (v : Option Value) (e : mm name = v) (h : wpAny M A (f v) Q E s) :
    wpAny M A (nsGet a name >>= f) Q E s := wpAny_bind (wpAny_nsGet (hn.keeps F.keep) (e ▸ h))
end
section
variable {prog : Program} {w : World} {A : Around} {E : Value → Shared → Prop} {hp : Heap} {g : Array GenState} {d : Drawn} {tk : Nat} {os : OsState} {β : Type} {Q : β → Shared → Prop} {h₀ : Heap} {L a : Addr} {m : Str → Option Value} {news news' : List (Addr × Obj)} {o o' : Obj} {s : Shared}
theorem nsSet_led {name : Str} {es es' : List DictEntry} {n n' : Nat} {v : Value} {Q : Unit → Shared → Prop} (F : Fr h₀ L hp m) (N : News h₀ L hp news)
    (hl : (getL name es).isSome = true) (e : (putL name (PyData.keyHash w.params name) (.str name tk) v es, putN name es n) = (es', n')) (U : Upd a (dictOf es n) (dictOf es' n') news news')
    (h : ∀ hp', Fr h₀ L hp' m → News h₀ L hp' news' → Q () ⟨hp', g, d, tk + 1, os⟩) : wpAny (model prog w) A (nsSet a name v) Q E ⟨hp, g, d, tk, os⟩ := by
  refine Classical.byContradiction fun hn1 => ?_
  obtain ⟨e1, e2⟩ := Prod.mk.inj e
  obtain ⟨F', N', z⟩ := upd_news (fn := Obj.putName name (PyData.keyHash w.params name) (.str name tk) v) F N U (by rw [putName_dict, e1, e2]) rfl
  refine hn1 ?_
  unfold nsSet strHash
  refine wpAny_bind (wpAny_bind (wpAny_askSetting (wpAny_pure ?_)))
  refine wpAny_bind (wpAny_mkText ?_)
  refine wpAny_bind (wpAny_loadPart z ?_)
  dsimp only
  rw [aRefKeyMayBeTheName_at]
  rw [if_neg (by
    unfold getL at hl
    cases hf : es.find? (·.key.isStr name) with
    | some x =>
      have : es.toArray.any (·.key.isStr name) = true := by
        simp only [List.any_toArray, List.any_eq_true]
        exact ⟨x, List.mem_of_find?_eq_some hf, List.find?_some (p := fun x : DictEntry => x.key.isStr name) hf⟩
      rw [this]; simp
    | none =>
      rw [hf] at hl
      dsimp only at hl
      cases hr : es.any (·.refKey) with
      | true => rw [hr] at hl; simp at hl
      | false =>
        have : es.toArray.any (·.refKey) = false := by simpa using hr
        rw [this]; simp)]
  exact wpAny_updatePart z (h _ F' N')
theorem l_set {name : Str} {es es' : List DictEntry} {n n' : Nat} {v : Value} {f : Unit → Sem β} (F : Fr h₀ L hp m) (N : News h₀ L hp news)
    (hl : (getL name es).isSome = true) (e : (putL name (PyData.keyHash w.params name) (.str name tk) v es, putN name es n) = (es', n')) (U : Upd a (dictOf es n) (dictOf es' n') news news')
    (h : ∀ hp', Fr h₀ L hp' m → News h₀ L hp' news' → wpAny (model prog w) A (f ()) Q E ⟨hp', g, d, tk + 1, os⟩) : wpAny (model prog w) A (nsSet a name v >>= f) Q E ⟨hp, g, d, tk, os⟩ := wpAny_bind (nsSet_led F N hl e U h)
end
end Mine
end
section
open PySem PySem.W PyProof.Rows PySem.Calls
set_option maxRecDepth 100000
namespace Mine
theorem hideE {M : Model} {A : Around} {α : Type} {x : Sem α} {Q : α → Shared → Prop} {E : Value → Shared → Prop} {s : Shared} (h : ∀ E' : Value → Shared → Prop, E = E' → wpAny M A x Q E' s) : wpAny M A x Q E s := h E rfl
theorem eqE {E E' : Value → Shared → Prop} {v : Value} {s : Shared} (e : E = E') (h : E v s) : E' v s := e ▸ h
section
variable {M : Model} {A : Around} {E : Value → Shared → Prop} {hp : Heap} {g : Array GenState} {d : Drawn} {tk : Nat} {os : OsState} {h₀ : Heap} {L L0 e : Addr} {m : Str → Option Value} {new : List (Addr × Obj)} {oe o0 : Obj} {vs : Array Value} {env env0 : Env}
theorem News.drop2 {h₀ h : Heap} {L : Addr} {a b : Addr × Obj} {l : List (Addr × Obj)} (N : News h₀ L h (a :: b :: l)) : News h₀ L h (a :: l) := fun p hp => by
  rcases List.mem_cons.mp hp with rfl | hp
  · exact N _ (.head _)
  · exact N p (.tail _ (.tail _ hp))
structure TbOk (o : Obj) (L : Addr) (fl : Value) : Prop where
  ex : ∃ ts : Array Value, o.data = .fields ts ∧ ts[3]? = some fl
theorem note_first {Q : Unit → Shared → Prop} (hfr : A.frames = some [env, env0]) (hk : env.scope.kind = .function) (hf : env.frame = some L) (hk0 : env0.scope.kind ≠ .module) (hf0 : env0.frame = some L0) (h0 : ∃ es ep, o0.data = .dict es ep)
    (F : Fr h₀ L hp m) (N : News h₀ L hp ((e, oe) :: (L0, o0) :: new)) (hd : oe.data = .fields vs) (h1 : vs[1]? = some .none) (hne : ∀ p ∈ new, p.1 ≠ e ∧ p.1 ≠ L0) (he0 : e ≠ L0)
    (h : ∀ T oT sl hp', Fr h₀ L hp' m → News h₀ L hp' ((T, oT) :: (e, oe.mapFields (·.setIfInBounds 1 (.ref T))) :: (L0, { o0 with slots := sl }) :: new) → TbOk oT L (rawInt L) → AllLt T ((e, oe) :: (L0, o0) :: new) → Q () ⟨hp', g, d, tk, os⟩) :
    wpAny M A (noteFrame (.ref e) env) Q E ⟨hp, g, d, tk, os⟩ := by
  have he := (N _ (.head _)).1
  have hL0 := (N (L0, o0) (.tail _ (.head _))).1
  obtain ⟨oL, esL, epL, hL, hLd, hLr⟩ := F.ns
  have hl : hp.FunFrames { objs := #[] } [env, env0] := by
    refine ⟨by rw [hk]; decide, ⟨L, oL, hf, Heap.get?_none_of_le (Nat.zero_le _), hL, fun vs q => by rw [hLd] at q; cases q⟩, hk0, ⟨L0, o0, hf0, Heap.get?_none_of_le (Nat.zero_le _), hL0, fun vs q => ?_⟩, trivial⟩
    obtain ⟨es, ep, hd0⟩ := h0
    rw [hd0] at q; cases q
  have hsz : 1 < vs.size := (Array.getElem?_eq_some_iff.mp h1).1
  unfold noteFrame
  rw [hf]
  dsimp only
  refine wpAny_bind (wpAny_field he hd h1 ?_)
  rw [if_neg (by decide)]
  refine wpAny_bind (wpAny_frameOf_fun hfr hl hf fun h₁ hs₁ => ?_)
  refine wpAny_bind (wpAny_entryPlaceOf fun pl hpl => ?_)
  unfold EntryCells.newEntry newFields
  refine wpAny_bind (wpAny_newObj_type ?_ (hpl.sizeOk5 _ _ _ _ _))
  have hfrs : [env, env0].filterMap (·.frame) = [L, L0] := by simp [hf, hf0]
  rw [hfrs] at hs₁
  have heL : e ≠ L := (N _ (.head _)).2.1
  have hs : ∀ b, b ≠ L → b ≠ L0 → h₁.get? b = hp.get? b := fun b x y => hs₁.2.1 b (by simp [x, y])
  have he₁ : h₁.get? e = some oe := (hs e heL he0).trans he
  have he₂ := Heap.get?_push_of_some (h := h₁) { cls := .type "traceback", dict := none, data := .fields ([.none, .ref L, .none, rawInt L, .none] ++ (if pl.isEmpty then List.replicate 6 Value.none else pl)).toArray } he₁
  refine wpAny_setField he₂ hd hsz ?_
  have hT : h₁.objs.size ≠ e := Nat.ne_of_gt (Heap.lt_size he₁)
  have old : ∀ b o, b ≠ e → b ≠ L → b ≠ L0 → hp.get? b = some o → ((h₁.push { cls := .type "traceback", dict := none, data := .fields ([.none, .ref L, .none, rawInt L, .none] ++ (if pl.isEmpty then List.replicate 6 Value.none else pl)).toArray }).update e (Obj.mapFields (·.setIfInBounds 1 (Value.ref h₁.objs.size)))).get? b = some o := fun b o x y z q => by
    rw [Heap.get?_update_other _ _ (Ne.symm x)]
    exact Heap.get?_push_of_some _ ((hs b y z).trans q)
  have old' : ∀ b o, b ≠ e → hp.get? b = some o → ∃ sl, ((h₁.push { cls := .type "traceback", dict := none, data := .fields ([.none, .ref L, .none, rawInt L, .none] ++ (if pl.isEmpty then List.replicate 6 Value.none else pl)).toArray }).update e (Obj.mapFields (·.setIfInBounds 1 (Value.ref h₁.objs.size)))).get? b = some { o with slots := sl } := fun b o x q => by
    obtain ⟨sl, q'⟩ := hs₁.2.2 b o q
    exact ⟨sl, by rw [Heap.get?_update_other _ _ (Ne.symm x)]; exact Heap.get?_push_of_some _ q'⟩
  have hd₃ := Obj.data_mapFields hd (·.setIfInBounds 1 (Value.ref h₁.objs.size))
  have base : ∀ b o, h₀.get? b = some o → b ≠ e ∧ b ≠ L ∧ b ≠ L0 := fun b o q => by
    refine ⟨fun x => ?_, Nat.ne_of_lt (Nat.lt_of_lt_of_le (Heap.lt_size q) F.above), fun x => ?_⟩
    · have := (N _ (.head _)).2.2; rw [x] at q; dsimp only at this; rw [this] at q; cases q
    · have := (N (L0, o0) (.tail _ (.head _))).2.2; rw [x] at q; dsimp only at this; rw [this] at q; cases q
  obtain ⟨slL, hL'⟩ := old' L oL (Ne.symm heL) hL
  obtain ⟨sl0, hL0'⟩ := old' L0 o0 (Ne.symm he0) hL0
  have hsize : h₁.objs.size = hp.objs.size := hs₁.1
  have hTn : hp.get? h₁.objs.size = none := by rw [hsize]; exact Heap.get?_none_of_le (Nat.le_refl _)
  have hT0 : h₀.get? h₁.objs.size = none := by
    cases q : h₀.get? h₁.objs.size with
    | none => rfl
    | some o => have := F.keep _ _ q; rw [hTn] at this; cases this
  have hTL : h₁.objs.size ≠ L := fun q => by rw [q, hL] at hTn; cases hTn
  refine h h₁.objs.size { cls := .type "traceback", dict := none, data := .fields ([.none, .ref L, .none, rawInt L, .none] ++ (if pl.isEmpty then List.replicate 6 Value.none else pl)).toArray } sl0 _ ⟨⟨_, esL, epL, hL', hLd, hLr⟩, fun b o q => ?_, F.above⟩ (fun p hp' => ?_) ⟨_, rfl, ?_⟩ ?_
  · obtain ⟨x, y, z⟩ := base b o q
    exact old b o x y z (F.keep b o q)
  · rcases List.mem_cons.mp hp' with rfl | hp'
    · refine ⟨?_, hTL, hT0⟩
      rw [Heap.get?_update_other _ _ (Ne.symm hT)]
      exact Heap.get?_push_size _ rfl
    · rcases List.mem_cons.mp hp' with rfl | hp'
      · exact ⟨Heap.get?_update_self _ he₂ (Obj.isFreed_of_fields hd₃), heL, (N _ (.head _)).2.2⟩
      · rcases List.mem_cons.mp hp' with rfl | hp'
        · exact ⟨hL0', (N (L0, o0) (.tail _ (.head _))).2⟩
        · have z := N p (.tail _ (.tail _ hp'))
          exact ⟨old _ _ (hne p hp').1 z.2.1 (hne p hp').2 z.1, z.2⟩
  · rcases hpl with rfl | ⟨_, _, _, _, _, _, _, rfl⟩ <;> simp
  · rw [hsize]
    exact allLt_of fun p hp' => Heap.lt_size (N p hp').1
noncomputable def ExcOk (o : Obj) (X : String) (c : Value) : Prop := o.cls = .type X ∧ ∃ vs, o.data = .fields vs ∧ vs[1]? = some .none ∧ vs[2]? = some c
noncomputable def NotedOk (o : Obj) (X : String) (T : Addr) (c : Value) : Prop := o.cls = .type X ∧ ∃ vs, o.data = .fields vs ∧ vs[1]? = some (.ref T) ∧ vs[2]? = some c
theorem ExcOk.noted {o : Obj} {X : String} {c : Value} (x : ExcOk o X c) (T : Addr) : NotedOk (o.mapFields (·.setIfInBounds 1 (.ref T))) X T c := by
  refine Classical.byContradiction fun hn1 => ?_
  obtain ⟨a, vs, hd, h1, h2⟩ := x
  refine hn1 ?_
  have hsz : 1 < vs.size := (Array.getElem?_eq_some_iff.mp h1).1
  exact ⟨by rw [Obj.cls_mapFields]; exact a, _, Obj.data_mapFields hd _, by simp [hsz], by rw [Array.getElem?_setIfInBounds_ne (by decide)]; exact h2⟩
theorem note_again {Q : Unit → Shared → Prop} {X : String} {T : Addr} {c : Value} {oT : Obj} {s : Shared} {news : List (Addr × Obj)} (hf : env.frame = some L) (N : News h₀ L s.heap news) (he : (e, oe) ∈ news) (hT : (T, oT) ∈ news) (x : NotedOk oe X T c) (t : TbOk oT L (rawInt L)) (h : Q () s) :
    wpAny M A (noteFrame (.ref e) env) Q E s := by
  refine Classical.byContradiction fun hn1 => ?_
  obtain ⟨_, vs, hd, h1, _⟩ := x
  obtain ⟨ts, ht, h3⟩ := t
  refine hn1 ?_
  exact wpAny_noteFrame_inFlight hf (N _ he).1 hd h1 (N _ hT).1 ht h3 h
theorem flight_led {Q : Unit → Shared → Prop} {X : String} {T : Addr} {c fl : Value} {oT : Obj} {news : List (Addr × Obj)} (fr : Option Addr) (F : Fr h₀ L hp m) (N : News h₀ L hp ((T, oT) :: news)) (he : (e, oe) ∈ news) (hne : ∀ p ∈ news, p.1 ≠ T) (x : NotedOk oe X T c) (t : TbOk oT L fl)
    (h : ∀ oT' hp', Fr h₀ L hp' m → News h₀ L hp' ((T, oT') :: news) → TbOk oT' L (fr.elim .none fun f => rawInt f) → Q () ⟨hp', g, d, tk, os⟩) : wpAny M A (setFlight (.ref e) fr) Q E ⟨hp, g, d, tk, os⟩ := by
  refine Classical.byContradiction fun hn1 => ?_
  obtain ⟨_, vs, hd, h1, _⟩ := x
  obtain ⟨ts, ht, h3⟩ := t
  refine hn1 ?_
  have hsz : 3 < ts.size := (Array.getElem?_eq_some_iff.mp h3).1
  unfold setFlight
  refine wpAny_bind (wpAny_field (N _ (.tail _ he)).1 hd h1 ?_)
  rw [if_pos (show (Value.ref T != Value.none) = true from by simp)]
  refine wpAny_setField (N _ (.head _)).1 ht hsz ?_
  refine Classical.byContradiction fun hn2 => ?_
  obtain ⟨F', N', _⟩ := upd_news (fn := Obj.mapFields (·.setIfInBounds 3 (fr.elim .none fun f => rawInt f))) F N (Upd.head hne) rfl (Obj.isFreed_of_fields (Obj.data_mapFields ht _))
  refine hn2 ?_
  exact h _ _ F' N' ⟨_, Obj.data_mapFields ht _, by simp [hsz]⟩
end
section
variable {prog : Program} {w : World} {A : Around} {E : Value → Shared → Prop} {hp : Heap} {g : Array GenState} {d : Drawn} {tk : Nat} {os : OsState} {h₀ : Heap} {L L0 e : Addr} {m : Str → Option Value} {new news : List (Addr × Obj)} {oe o0 : Obj} {env env0 : Env}
theorem entry_unchain : entryFor table "proto.unchain" = some Builtin.«proto.unchain» := entryFor_of_tree (by kernel_rfl)
theorem raise_ctx {α : Type} {Q : α → Shared → Prop} {X msg : String} {e0 : Addr} {oe0 : Obj} {vs0 : Array Value} (hp' : PlainExc X) (hh : A.handled = some (.ref e0)) (F : Fr h₀ L hp m) (N : News h₀ L hp news) (h0 : (e0, oe0) ∈ news) (hd : oe0.data = .fields vs0) (h2 : vs0[2]? = some .none)
    (h : ∀ e oe hp' tk', Fr h₀ L hp' m → News h₀ L hp' ((e, oe) :: news) → ExcOk oe X (.ref e0) → AllLt e news → E (.ref e) ⟨hp', g, d, tk', os⟩) :
    wpAny (model prog w) A (raiseErrorWords X msg : Sem α) Q E ⟨hp, g, d, tk, os⟩ := by
  unfold raiseErrorWords
  refine wpAny_bind (wpAny_mkText (wpAny_bind ?_))
  unfold newExc newTuple
  refine l_new F N (fun t hp F N l1 => ?_) (by size_fits) rfl
  refine wpAny_bind (m := firstArgMember _ _) (wpAny_of_eq (a := Value.none) (by simp only [firstArgMember, hp'.first]; rfl) ?_)
  rw [hp'.own]
  refine new_led F N (fun e hp F N l2 => ?_) (by size_fits) rfl
  unfold raiseNew
  refine wpAny_bind (wpAny_handled ?_)
  rw [hh]
  dsimp only
  have l2' : @LT.lt Nat _ t e := l2.1
  have l3 : AllLt e news := l2.2
  have hne : @Ne Nat e0 e := Nat.ne_of_lt (AllLt.mem l3 _ h0)
  rw [if_pos (by simpa using hne)]
  refine wpAny_bind (wpAny_holding (wpAny_runValue (codeAny_builtin entry_unchain ?_)))
  unfold Builtin.«proto.unchain»
  dsimp only
  refine wpAny_bind (wpAny_field (N (e0, oe0) (.tail _ (.tail _ h0))).1 hd h2 ?_)
  rw [if_pos (by decide)]
  refine wpAny_bind (wpAny_pure ?_)
  refine wpAny_pure ?_
  dsimp only
  unfold updateField
  refine wpAny_bind (wpAny_bind (wpAny_load (N (e, _) (.head _)).1 ?_))
  dsimp only
  rw [if_pos (by simp)]
  obtain ⟨F', N', z⟩ := upd_news (fn := Obj.mapFields (·.setIfInBounds 2 (.ref e0))) F N (Upd.head (fun p hp => Nat.ne_of_lt (AllLt.mem l2 p hp))) rfl rfl
  refine wpAny_update z (wpAny_throw (h e _ _ _ F' (News.drop2 N') ?_ l3))
  · exact ⟨rfl, _, rfl, by simp, by simp⟩
theorem newexc_led {h hp' : Heap} {X : String} (F : Fr h₀ L h m) (N : News h₀ L h news) (x : Heap.NewExc h hp' e X) :
    ∃ oe, Fr h₀ L hp' m ∧ News h₀ L hp' ((e, oe) :: news) ∧ ExcOk oe X .none ∧ ∀ p ∈ news, p.1 ≠ e := by
  refine Classical.byContradiction fun hn1 => ?_
  obtain ⟨ob, t, he, hc, hd⟩ := x.there
  refine hn1 ?_
  have hn := x.new
  refine ⟨ob, F.kept x.keeps, fun p hp => ?_, ⟨hc, _, hd, rfl, rfl⟩, fun p hp q => ?_⟩
  · rcases List.mem_cons.mp hp with rfl | hp
    · refine ⟨he, fun q => ?_, ?_⟩
      · obtain ⟨oL, _, _, hL, _⟩ := F.ns
        rw [show e = L from q, hL] at hn; cases hn
      · cases q : h₀.get? e with
        | none => rfl
        | some o => have := F.keep _ _ q; rw [hn] at this; cases this
    · exact ⟨x.keeps _ _ (N p hp).1, (N p hp).2⟩
  · have := (N p hp).1
    rw [q, hn] at this; cases this
noncomputable def HandIs (A : Around) (news : List (Addr × Obj)) (c : Value) : Prop :=
  (A.handled = none ∧ c = .none) ∨ ∃ e0 oe0 vs0, A.handled = some (.ref e0) ∧ c = .ref e0 ∧ (e0, oe0) ∈ news ∧ oe0.data = .fields vs0 ∧ vs0[2]? = some .none
theorem getItem_out {l : Addr} {items : Array Value} {k : Int} {t : Tok} {e0 : Addr} {oe0 : Obj} {vs0 : Array Value} {Q : Value → Shared → Prop} (hh : A.handled = some (.ref e0)) (F : Fr h₀ L hp m) (N : News h₀ L hp news) (h0 : (e0, oe0) ∈ news) (hd0 : oe0.data = .fields vs0) (h2 : vs0[2]? = some .none) (hl : hp.IsList l items)
    (hout : (items.size : Int) ≤ k) (hlo : -(2 ^ 63) ≤ k) (hhi : k < 2 ^ 63)
    (h : ∀ e oe hp' tk', Fr h₀ L hp' m → News h₀ L hp' ((e, oe) :: news) → ExcOk oe "IndexError" (.ref e0) → (∀ p ∈ news, p.1 ≠ e) → E (.ref e) ⟨hp', g, d, tk', os⟩) :
    wpAny (model prog w) A (getItem (.ref l) (.int k t)) Q E ⟨hp, g, d, tk, os⟩ := by
  obtain ⟨o, ho, hc, ne, hd⟩ := id hl
  unfold getItem
  try with_reducible refine wpAny_holding ?_
  first | refine wpAny_bind (wpAny_pure ?_) | skip
  refine wpAny_bind (wpAny_sequenceKey hl.typeIs (by decide) ?_)
  refine wpAny_bind (wpAny_callSpecial?_slot (name := Str.ofString "__getitem__") hl.typeIs slot_list_getitem
    (wpAny_call_entry slot_list_getitem hl.typeIs entry_list_getitem ?_ (args_list_getitem _ _)))
  show wpAny _ _ (Builtin.List.listSubscript? (.int k t) >>= _) _ _ ⟨hp, g, d, tk, os⟩
  refine wpAny_bind (wpAny_listSubscript_int (fitsIndex_both hlo hhi) ?_)
  clear hlo hhi
  have fin : ∀ {α : Type} {Q : α → Shared → Prop} {msg : String}, wpAny (model prog w) A.in1 (raiseErrorWords "IndexError" msg : Sem α) Q E ⟨hp, g, d, tk, os⟩ := fun {α Q msg} =>
    raise_ctx plainExc_IndexError hh F N h0 hd0 h2 (fun e oe hp' tk' F' N' x1 x2 => h e oe hp' tk' F' N' x1 fun p hp => Nat.ne_of_lt (AllLt.mem x2 p hp))
  cases k with
  | negSucc j => exact absurd hout (by have := Int.negSucc_lt_zero j; lia)
  | ofNat i =>
    have hx : items[i]? = none := Array.getElem?_eq_none (by have : (items.size : Int) ≤ (i : Int) := hout; lia)
    show wpAny _ _ ((seqItemAt l i >>= fun r => pure (r.map (i, ·))) >>= _) _ _ ⟨hp, g, d, tk, os⟩
    refine wpAny_bind (wpAny_bind (wpAny_seqItemAt ho hd (wpAny_pure ?_)))
    rw [hx]
    first
      | exact wpAny_bind (wpAny_rule fin)
      | exact wpAny_bind (wpAny_rule (wpAny_bind fin))
      | exact wpAny_bind (wpAny_bind (wpAny_rule fin))
      | exact wpAny_rule fin
theorem index_out {value slice : PySem.Expr} {l : Addr} {vs : List Value} {i : Nat} {u : Tok} {c : Value} {Q : Value → Shared → Prop} (H : HandIs A news c) (F : Fr h₀ L hp m) (N : News h₀ L hp news) (hl : hp.IsList l vs.toArray) (hi : vs.length ≤ i) (hz : i ≤ 100000)
    (h : ∀ e oe hp' tk', Fr h₀ L hp' m → News h₀ L hp' ((e, oe) :: news) → ExcOk oe "IndexError" c → (∀ p ∈ news, p.1 ≠ e) → E (.ref e) ⟨hp', g, d, tk', os⟩)
    (hs : subscripted slice false (.ref l) (.int (i : Int) u) = operate [.ref l, .int (i : Int) u] (getItem (.ref l) (.int (i : Int) u)) := by with_unfolding_all rfl) :
    wpAny (model prog w) A (subscriptTail value slice (.ref l) (.int (i : Int) u)) Q E ⟨hp, g, d, tk, os⟩ := by
  rcases H with ⟨hh, rfl⟩ | ⟨e0, oe0, vs0, hh, rfl, h0, hd0, h2⟩
  · refine item_outK hh hl (.inr (by rw [List.size_toArray]; lia)) (by lia) (by lia) (fun h' tk' e x => ?_) hs
    refine Classical.byContradiction fun hn1 => ?_
    obtain ⟨oe, F', N', x1, x2⟩ := newexc_led F N x
    refine hn1 ?_
    exact h e oe _ _ F' N' x1 x2
  · exact tail_any hl.typeIs slot_list_getitem.lookup (getItem_out hh F N h0 hd0 h2 hl (by rw [List.size_toArray]; lia) (by lia) (by lia) h) hs
theorem sub_IndexError_Base : isSubtype (.type "IndexError") (.type "BaseException") = pure true := by rw [isSubtype_type]; kernel_rfl
theorem notTuple_IndexError : isSubtype (.type ((Manifest.find? "IndexError").elim "type" fun x => x.metatype)) (.type "tuple") = pure false := by
  rw [show ((Manifest.find? "IndexError").elim "type" fun x => x.metatype) = "type" from by kernel_rfl, isSubtype_type]; kernel_rfl
theorem sub_ValueError_Base : isSubtype (.type "ValueError") (.type "BaseException") = pure true := by rw [isSubtype_type]; kernel_rfl
theorem notTuple_ValueError : isSubtype (.type ((Manifest.find? "ValueError").elim "type" fun x => x.metatype)) (.type "tuple") = pure false := by
  rw [show ((Manifest.find? "ValueError").elim "type" fun x => x.metatype) = "type" from by kernel_rfl, isSubtype_type]; kernel_rfl
theorem handle_led {X T' : String} {T : Addr} {c fl : Value} {oT : Obj} {t : PySem.Expr} {b₀ : Stmt} {suite : List Stmt} {pos : Pos} {rest : List ExceptHandler} {Q : Flow → Shared → Prop}
    (F : Fr h₀ L hp m) (N : News h₀ L hp ((T, oT) :: (e, oe) :: new)) (hne : ∀ p ∈ (e, oe) :: new, p.1 ≠ T) (x : NotedOk oe X T c) (tb : TbOk oT L fl)
    (hexc : isSubtype (.type T') (.type "BaseException") = pure true) (hnt : isSubtype (.type ((Manifest.find? T').elim "type" fun x => x.metatype)) (.type "tuple") = pure false) (hsub : isSubtype (.type X) (.type T') = pure true)
    (hn : ∀ {Q : Value → Shared → Prop} {E : Value → Shared → Prop} {hp : Heap}, Fr h₀ L hp m → Q (.type T') ⟨hp, g, d, tk, os⟩ → wpAny (model prog w) (A.mark (some (.ref e))) (eval t env) Q E ⟨hp, g, d, tk, os⟩)
    (k : ∀ hp', Fr h₀ L hp' m → News h₀ L hp' new → wpAny (model prog w) (A.mark (some (.ref e))) (execs (b₀ :: suite) env) Q NoE ⟨hp', g, d, tk, os⟩) :
    wpAny (model prog w) A (setFlight (.ref e) none) (fun _ s₃ => wpAny (model prog w) A (handleBy (.ref e) env (.ExceptHandler (some t) none (b₀ :: suite) pos :: rest)) Q E s₃) E ⟨hp, g, d, tk, os⟩ := by
  refine flight_led none F N (.head _) hne x tb (fun oT' hp' F' N' tb' => ?_)
  refine wpAny_handleBy_builtin hexc hnt hsub (hn F' ⟨rfl, ⟨oe, (N' _ (.tail _ (.head _))).1, x.1⟩, ?_⟩)
  rw [if_pos rfl]
  refine flight_led none F' N' (.head _) hne x tb' (fun oT2 hp2 F2 N2 _ => wp_noE (k hp2 F2 fun p hp => N2 p (.tail _ (.tail _ hp))))
end
end Mine
end
section
open PySem PySem.W PyProof.Rows PySem.Calls
set_option maxRecDepth 100000
namespace Mine
theorem StrsAre.snoc' {x : Str} {t : Tok} : ∀ {vs : List Value} {ns : List Str}, StrsAre vs ns → StrsAre (vs ++ [.str x t]) (ns ++ [x])
  | _, _, .nil => .cons _ _ .nil
  | _, _, .cons _ _ h => .cons _ _ (StrsAre.snoc' h)
theorem StrsAre.dat' {news : List (Addr × Obj)} : ∀ {vs : List Value} {ns : List Str}, StrsAre vs ns → DatAll news vs (ns.map Dat.str)
  | _, _, .nil => .nil
  | _, _, .cons _ _ h => .cons (.str _ _) (StrsAre.dat' h)
section
variable {prog : Program} {w : World} {A : Around} {E : Value → Shared → Prop} {s : Shared} {h₀ : Heap} {L l : Addr} {m : Str → Option Value} {news : List (Addr × Obj)} {value slice : PySem.Expr} {vs : List Value} {v : Value} {Q : Value → Shared → Prop}
theorem News.free {h : Heap} {l : List (Addr × Obj)} (k : ∀ p ∈ l, h.get? p.1 = some p.2) : News ({ objs := #[] } : Heap) h.objs.size h l := fun p hp =>
  ⟨k p hp, Nat.ne_of_lt (Heap.lt_size (k p hp)), Heap.get?_none_of_le (Nat.zero_le _)⟩
theorem take_pick (k : Nat) : (slicePick vs.toArray none (some (k : Int)) none).toList = vs.take k := by
  have e : sliceBounds none (some (k : Int)) none vs.toArray.size = (((0 : Nat) : Int), ((min k vs.length : Nat) : Int), 1) := by
    simp only [sliceBounds, Option.getD_none, show (1 : Int) > 0 by decide, if_true, List.size_toArray]
    congr 1
    congr 1
    rw [if_neg (by lia)]
    lia
  rw [kmk_pick_nat _ e]
  simp only [List.drop_zero, Nat.sub_zero]
  rcases Nat.le_total k vs.length with q | q
  · rw [Nat.min_eq_left q]
  · rw [Nat.min_eq_right q, List.take_of_length_le (Nat.le_refl _), List.take_of_length_le q]
theorem drop_pick (k : Nat) : (slicePick vs.toArray (some (k : Int)) none none).toList = vs.drop k := by
  have e : sliceBounds (some (k : Int)) none none vs.toArray.size = (((min k vs.length : Nat) : Int), ((vs.length : Nat) : Int), 1) := by
    simp only [sliceBounds, Option.getD_none, show (1 : Int) > 0 by decide, if_true, List.size_toArray]
    rw [if_neg (by omega)]
    congr 1
    omega
  rw [kmk_pick_nat _ e]
  rw [kmk_drop_min, List.take_of_length_le (by rw [List.length_drop]; omega)]
theorem take_slice {k : Nat} {t : Tok} (F : Fr h₀ L s.heap m) (N : News h₀ L s.heap news) (hl : s.heap.IsList l vs.toArray)
    (h : ∀ D h', Fr h₀ L h' m → News h₀ L h' ((D, listOf (vs.take k).toArray 0) :: news) → (∀ p ∈ news, p.1 < D) → Q (.ref D) { s with heap := h' })
    (hs : subscripted slice false (.ref l) (.ref s.heap.objs.size) = operate [.ref s.heap.objs.size, .ref l] (getItem (.ref l) (.ref s.heap.objs.size))) (ht : ∀ r, letTemporaryGo value (.ref l) r = pure ()) (hz : vs.length ≤ 100000) :
    wpAny (model prog w) A (subscriptTail value slice (.ref l) (.ref s.heap.objs.size)) Q E { s with heap := s.heap.push { cls := .type "slice", data := .fields #[.none, .int (k : Int) t, .none] } } :=
  kmk_slice_lit F N hl .none (.int _ _) (take_pick k) h hs ht (by rw [List.size_toArray]; unfold sizeLine; lia)
theorem drop_slice {k : Nat} {t : Tok} (F : Fr h₀ L s.heap m) (N : News h₀ L s.heap news) (hl : s.heap.IsList l vs.toArray)
    (h : ∀ D h', Fr h₀ L h' m → News h₀ L h' ((D, listOf (vs.drop k).toArray 0) :: news) → (∀ p ∈ news, p.1 < D) → Q (.ref D) { s with heap := h' })
    (hs : subscripted slice false (.ref l) (.ref s.heap.objs.size) = operate [.ref s.heap.objs.size, .ref l] (getItem (.ref l) (.ref s.heap.objs.size))) (ht : ∀ r, letTemporaryGo value (.ref l) r = pure ()) (hz : vs.length ≤ 100000) :
    wpAny (model prog w) A (subscriptTail value slice (.ref l) (.ref s.heap.objs.size)) Q E { s with heap := s.heap.push { cls := .type "slice", data := .fields #[.int (k : Int) t, .none, .none] } } :=
  kmk_slice_lit F N hl (.int _ _) .none (drop_pick k) h hs ht (by rw [List.size_toArray]; unfold sizeLine; omega)
end
section
variable {prog : Program} {w : World} {A : Around} {E : Value → Shared → Prop} {s : Shared} {h₀ : Heap} {L l : Addr} {m : Str → Option Value} {news : List (Addr × Obj)} {vs : List Value} {ys : List Str}
noncomputable def maxAt (ys : List Str) : Nat := argBest (fun i j => decide ((ys.getD j Str.empty).cps.toList < (ys.getD i Str.empty).cps.toList)) (ys.length - 1)
noncomputable def maxS (ys : List Str) : Str := ys.getD (maxAt ys) Str.empty
theorem iter_anyList {Q : Value → Shared → Prop} (hl : s.heap.IsList l vs.toArray)
    (h : ∀ s₂ : Shared, s₂ = { s with heap := s.heap.push { cls := .type "list_iterator", data := .fields #[.ref l, .int 0 0] } } →
      (s₂.heap.IsListIter s.heap.objs.size l 0 ∧ s₂.heap.IsList l vs.toArray) → (∀ b ∈ [s.heap.objs.size, l], b < s₂.heap.objs.size) → l ≠ s.heap.objs.size → Q (.ref s.heap.objs.size) s₂) :
    wpAny (model prog w) A (pyIter (.ref l)) Q E s := by
  have hlt : l < s.heap.objs.size := by obtain ⟨_, e, _⟩ := hl; exact Heap.lt_size e
  refine wpAny_pyIter_list hl (h _ rfl ⟨⟨_, Heap.get?_push_size _ rfl, rfl, rfl⟩, hl.push _⟩ (fun b hb => ?_) (Nat.ne_of_lt hlt))
  show b < (s.heap.push _).objs.size
  rw [Heap.size_push]
  rcases List.mem_cons.mp hb with rfl | hb
  · exact Nat.lt_succ_self _
  · rcases List.mem_cons.mp hb with rfl | hb
    · exact Nat.lt_succ_of_lt hlt
    · cases hb
theorem strs_at (hi : StrsAre vs ys) {i : Nat} {v : Value} (h : vs.toArray[i]? = some v) : ∃ t, v = .str (ys.getD i Str.empty) t := by
  refine Classical.byContradiction fun hn1 => ?_
  obtain ⟨x, t, e, rfl⟩ := StrsAre.item hi (show vs[i]? = some v by simpa using h)
  refine hn1 ?_
  exact ⟨t, by rw [List.getD_eq_getElem?_getD, e]; rfl⟩
theorem max_strs {Q : Value → Shared → Prop} (hh : A.handled = none) (F : Fr h₀ L s.heap m) (N : News h₀ L s.heap news) (hl : s.heap.IsList l vs.toArray) (hi : StrsAre vs ys) (hne : 0 < ys.length)
    (h : ∀ h' tk t, Fr h₀ L h' m → News h₀ L h' news → Q (.str (maxS ys) t) { s with heap := h', toks := tk }) :
    wpAny (model prog w) A (call (.builtin "max") [.ref l]) Q E s := by
  have hlen : vs.length = ys.length := hi.length
  refine call_max_walk (iter_anyList hl fun s₂ e st hfp hlI => ?_)
  subst e
  refine ⟨_, _, _, _, _, _, (fun i j => decide ((ys.getD j Str.empty).cps.toList < (ys.getD i Str.empty).cps.toList)), rfl, Walks.list (A := A.in1) hh _ l hlI vs.toArray, st, hfp, by rw [List.size_toArray]; lia, ?_, fun v h' tk hP hk => ?_⟩
  · intro i j vi vj s' Q' E' hvi hvj hq
    obtain ⟨t, rfl⟩ := strs_at hi hvi
    obtain ⟨u, rfl⟩ := strs_at hi hvj
    exact PySem.P.gt_str hq
  · obtain ⟨t, rfl⟩ := strs_at hi hP
    have k := old_kept hk
    rw [List.size_toArray, hlen]
    exact h h' tk t (F.kept k) (News.kept N k)
end
end Mine
end
section
open PySem PySem.W PyProof.Rows PySem.Calls
set_option maxRecDepth 100000
namespace Mine
noncomputable def lackAt (xs ys : List Str) (k : Nat) : Bool := !(ys.any (· == wordAt xs (k : Int))) && (!((xs.take k).any (· == wordAt xs (k : Int))) || decide ((maxS ys).cps.toList < (wordAt xs (k : Int)).cps.toList))
noncomputable def lackL (xs ys : List Str) (i : Nat) : List Str := ((List.range i).filter (lackAt xs ys)).map fun (k : Nat) => wordAt xs (k : Int)
theorem lackL_len (xs ys : List Str) (i : Nat) : (lackL xs ys i).length ≤ i := by
  unfold lackL
  rw [List.length_map]
  have := List.length_filter_le (lackAt xs ys) (List.range i)
  rwa [List.length_range] at this
theorem lackL_succ (xs ys : List Str) (i : Nat) : lackL xs ys (i + 1) = lackL xs ys i ++ (if lackAt xs ys i = true then [wordAt xs (i : Int)] else []) := by
  unfold lackL
  rw [List.range_succ, List.filter_append, List.map_append]
  congr 1
  rw [List.filter_cons]
  split <;> simp
theorem lack_no {xs ys : List Str} {i : Nat} {ws : List Value} (h : StrsAre ws (lackL xs ys i)) (e : lackAt xs ys i = false) : StrsAre ws (lackL xs ys (i + 1)) := by
  rw [lackL_succ, e]; simpa using h
theorem lack_yes {xs ys : List Str} {i : Nat} {ws : Array Value} {t : Tok} (h : StrsAre ws.toList (lackL xs ys i)) (e : lackAt xs ys i = true) : StrsAre (ws.push (.str (xs.getD (i : Int).toNat Str.empty) t)).toList (lackL xs ys (i + 1)) := by
  rw [lackL_succ, e, Array.toList_push, if_pos rfl]; exact StrsAre.snoc' h
section
variable {xs ys : List Str} {i : Nat}
theorem lack_f1 (h : (ys.any fun x => x == xs.getD (i : Int).toNat Str.empty) = true) : lackAt xs ys i = false := by unfold lackAt wordAt; rw [h]; rfl
theorem lack_t1 (h : (ys.any fun x => x == xs.getD (i : Int).toNat Str.empty) = false) (h2 : ((xs.take i).any fun x => x == xs.getD (i : Int).toNat Str.empty) = false) : lackAt xs ys i = true := by unfold lackAt wordAt; rw [h, h2]; rfl
theorem lack_t2 (h : (ys.any fun x => x == xs.getD (i : Int).toNat Str.empty) = false) (h2 : ((xs.take i).any fun x => x == xs.getD (i : Int).toNat Str.empty) = true) (h3 : (maxS ys).cps.toList < (xs.getD (i : Int).toNat Str.empty).cps.toList) : lackAt xs ys i = true := by
  unfold lackAt wordAt; rw [h, h2, decide_eq_true h3]; rfl
theorem lack_f2 (h : (ys.any fun x => x == xs.getD (i : Int).toNat Str.empty) = false) (h2 : ((xs.take i).any fun x => x == xs.getD (i : Int).toNat Str.empty) = true) (h3 : ¬ (maxS ys).cps.toList < (xs.getD (i : Int).toNat Str.empty).cps.toList) : lackAt xs ys i = false := by
  unfold lackAt wordAt; rw [h, h2, decide_eq_false h3]; rfl
end
inductive LackJ (l1 l2 rl : Addr) (xs ys : List Str) (i : Nat) (m : Str → Option Value) (nx : List (Addr × Obj)) : Prop
  | mk (m1 : m (S "one") = some (.ref l1)) (m2 : m (S "other") = some (.ref l2)) (m3 : m (S "row") = some (.ref rl)) (ws : Array Value) (n : Nat) (e : nx = [(rl, W.listOf ws n)]) (h : StrsAre ws.toList (lackL xs ys i)) : LackJ l1 l2 rl xs ys i m nx
theorem StrsAre.take : ∀ {vs : List Value} {xs : List Str}, StrsAre vs xs → ∀ k, StrsAre (vs.take k) (xs.take k)
  | _, _, h, 0 => by rw [List.take_zero, List.take_zero]; exact .nil
  | _, _, .nil, _ + 1 => .nil
  | _, _, .cons _ _ h, k + 1 => .cons _ _ (StrsAre.take h k)
theorem eq_nil {prog : Program} {w : World} {A : Around} {E : Value → Shared → Prop} {s : Shared} {h₀ : Heap} {L a b : Addr} {news : List (Addr × Obj)} {Q : Value → Shared → Prop} {us : List Value} {ys : List Str} {nb : Nat} (N : News h₀ L s.heap news) (hl : s.heap.IsList a us.toArray) (hi : StrsAre us ys) (hm : (b, W.listOf #[] nb) ∈ news) (hne : 0 < ys.length) (hok : ∀ y ∈ ys, PyData.strOk y = true) (hu : A.units + 64 < cLine)
    (h : Q (.bool false) s) : wpAny (model prog w) A (compareOp .Eq (.ref a) (.ref b)) Q E s := by
  refine Classical.byContradiction fun hn1 => ?_
  obtain ⟨oa, ha, ca, na, da⟩ := hl
  refine hn1 ?_
  refine kqd_eq (xs := us) (ys := []) (ds := ys.map Dat.str) (es := []) (n₁ := []) (n₂ := []) (News.free (h := s.heap) (l := [(a, oa), (b, W.listOf #[] nb)]) ?_) (.head _) ca da (StrsAre.dat' hi) (fun _ h => nomatch h) (.tail _ (.head _)) rfl rfl .nil (fun _ h => nomatch h) (fun d hd => ?_) (fun _ h => nomatch h) hu ?_
  · intro p hp
    rcases List.mem_cons.mp hp with rfl | hp
    · exact ha
    · rw [List.mem_singleton.mp hp]; exact (N _ hm).1
  · obtain ⟨x, hx, rfl⟩ := List.mem_map.mp hd
    simpa [kqdOk] using hok x hx
  · rw [decide_eq_false]
    · exact h
    · intro e
      rw [List.map_eq_nil_iff] at e
      rw [e] at hne
      exact absurd hne (Nat.lt_irrefl _)
set_option maxHeartbeats 1000000 in
theorem lack_spec {w : World} {A : Around} {s : Shared} {mg mb : Str → Option Value} {l1 l2 : Addr} {vs us : List Value} {n1 n2 : Nat} {xs ys : List Str} (tp : Tops w mg mb s.heap) (hA : A.depth + 10 < recursionLimit) (hu : A.units + 100 < cLine) (hh : A.handled = none)
    (h1 : s.heap.get? l1 = some (W.listOf vs.toArray n1)) (hI : StrsAre vs xs) (h2 : s.heap.get? l2 = some (W.listOf us.toArray n2)) (hJ : StrsAre us ys) (hx : xs.length ≤ 50) (hne : 0 < ys.length) (hok : ∀ y ∈ ys, PyData.strOk y = true) :
    Gives w A 131 [.ref l1, .ref l2] s (fun v new => ∃ zs, DatIn new v (.list (zs.map Dat.str)) ∧ zs.Perm (lackL xs ys xs.length) ∧ sortedS zs = true) := by
  have o1 : On "exec For" := ⟨⟩
  have o2 : On "exec For Name Call cons nil" := ⟨⟩
  have o3 : On "pyIter ref" := ⟨⟩
  have o4 : On "subscriptTail Name Slice ref ref" := ⟨⟩
  have o5 : On "compareOp NotIn str ref" := ⟨⟩
  have o6 : On "compareOp Eq ref ref" := ⟨⟩
  have o7 : On "call builtin:max" := ⟨⟩
  have o8 : On "execs cons Assign cons" := ⟨⟩
  refine Classical.byContradiction fun hn1 => ?_
  obtain ⟨X, T⟩ := id tp
  obtain ⟨A, rfl⟩ := Around.calm hh
  refine hn1 ?_
  dsimp only at hA hu
  refine gives_of_frame tp (by show A.depth < _; lia) (by k_is) (by k_is) (BindsTo.of_eq rfl) (locs rfl) (fun L h₁ hLs F => ?_) (by rfl) (by rfl) (by rfl) (by decide)
  have N : News s.heap L h₁ [] := News.nil
  have hl1 : s.heap.IsList l1 vs.toArray := ⟨_, h1, rfl, _, rfl⟩
  have hl2 : s.heap.IsList l2 us.toArray := ⟨_, h2, rfl, _, rfl⟩
  have hvl := hI.length
  have hul := hJ.length
  walk_at "steps"
  refine Hold.mk (wpAny_execs_cons ?_)
  walk_at "steps"
  refine Hold.mk ?_
  refine wpAny_For ?_ (by intro _; rfl)
  walk_at "steps"
  refine Hold.mk ?_
  rename IsRange _ _ _ _ _ _ _ _ => hr
  (rename Fr _ _ _ _ => F'); (rename News _ _ _ _ => N')
  dsimp only at hr F' N' ⊢
  refine iter_range (n := xs.length) (LackJ l1 l2 _ xs ys) (by rfl) hr ?hsm ?hsz (fun _ _ => rfl) F' N' ⟨rfl, rfl, rfl, #[], 0, rfl, .nil⟩ ?turn ?done
  case hsm => exact range_small _ (by lia)
  case hsz => exact range_size _
  case turn =>
    clear F' N' hr
    rintro i t m₁ nx h tk own hi ⟨m1, m2, m3, ws, n, rfl, hws⟩ hoff F N
    replace F := Fr.know (Fr.know (Fr.know F m1) (x := S "other") (v := .ref l2) (by rw [if_neg (by decide)]; exact m2)) (x := S "row") (v := .ref _) (by rw [if_neg (by decide), if_neg (by decide)]; exact m3)
    refine wpAny_assign_Name (stN F N (fun h' F₂ N₂ => ?_) (by rfl) (by rfl))
    refine hideQ fun Q0 hQ0 => ?_
    clear F N
    rw [show (0 + (i : Int)) = (i : Int) by lia] at F₂
    have hl1 : h'.IsList l1 vs.toArray := ⟨_, F₂.keep _ _ h1, rfl, _, rfl⟩
    have hl2 : h'.IsList l2 us.toArray := ⟨_, F₂.keep _ _ h2, rfl, _, rfl⟩
    have hwl : ws.size ≤ 50 := by
      have q1 := hws.length
      have q2 := lackL_len xs ys i
      rw [Array.length_toList] at q1
      lia
    dsimp only [List.cons_append, List.nil_append] at N₂
    replace hoff : OwnOff own [_] := hoff
    dsimp only at hoff
    repeat' (first | ((with_reducible refine Hold.mk (p := wpAny _ _ (subscriptTail _ _ _ _) _ _ _) ?_); k_dflt (refine take_slice (by k_asm) (by k_asm) (by kmk_list) ?_ (by with_unfolding_all rfl) (by kmk_pure) (by omega)); intro D' h' F' N' l1; (try k_lt l1); (try k_sweep)) | ((with_reducible refine Hold.mk (p := wpAny _ _ (compareOp .NotIn _ _) _ _ _) ?_); first | (refine notin_list_strs (vs := List.take _ _) (by kmk_list) (StrsAre.take (by assumption) _) ?_) | (refine notin_list_strs (by kmk_list) (by assumption) ?_)) | ((with_reducible refine Hold.mk (p := wpAny _ _ (compareOp .Eq _ _) _ _ _) ?_); refine eq_nil (by k_asm) (by kmk_list) (by assumption) (by k_mem) hne hok (by simp only [units_deeper]; omega) ?_) | ((with_reducible refine Hold.mk (p := wpAny _ _ (call _ _) _ _ _) ?_); refine max_strs (by with_unfolding_all rfl) (by k_asm) (by k_asm) (by kmk_list) (by assumption) hne ?_; intro h' tk' t' F' N'; (try k_sweep)) | walk_at "step1")
    all_goals (
      (rename Fr _ _ _ _ => F'); (rename News _ _ _ _ => N')
      refine hQ0 _ _ (TurnEnd.mk (nx := [(_, _)]) F' N' (by k_allIn) (by intro p hp; k_ownIn) ⟨⟨rfl, rfl, rfl, _, _, rfl, ?_⟩, hoff⟩))
    all_goals first
      | exact lack_no (by assumption) (lack_f1 (by assumption))
      | exact lack_no (by assumption) (lack_f2 (by assumption) (by assumption) (by assumption))
      | exact lack_yes (by assumption) (lack_t1 (by assumption) (by assumption))
      | exact lack_yes (by assumption) (lack_t2 (by assumption) (by assumption) (by assumption))
  case done =>
    clear F' N'
    rintro m₁ nx h tk ⟨m1, m2, m3, ws, n, rfl, hws⟩ F N
    replace F := Fr.know F m3
    have hwl : ws.size ≤ 50 := by
      have q1 := hws.length
      have q2 := lackL_len xs ys xs.length
      rw [Array.length_toList] at q1
      lia
    dsimp only
    walk_at "steps"
    refine sorted_N_str (vs := ws.toList) F N (by rw [Array.toArray_toList]; exact ⟨_, (N _ (.head _)).1, rfl, _, rfl⟩) hws (by rw [Array.length_toList]; lia) (fun h' vs' zs e F' N' h3 h4 h5 => ?_)
    exact GivesEnd.mk F' N' ⟨zs, DatIn.list (vs := vs') (.head _) (StrsAre.dat' h3), h4, h5⟩
end Mine
end
section
open PySem PySem.W PyProof.Rows PySem.Calls
set_option maxRecDepth 100000
namespace Mine
theorem comp_invT {prog : Program} {w : World} {A : Around} {s : Shared} {h₀ : Heap} {L : Addr} {m : Str → Option Value} {env : Env} {ct elt : Expr} {x : Str} {scope : Scope} {cl : List (Str × Addr)} {S : List (Addr × Obj) → Prop} {P : Nat → Value → Prop} {Fin : List Value → List (Addr × Obj) → Prop} {n : Nat} {news : List (Addr × Obj)}
    (J : Nat → List Value → List (Addr × Obj) → Prop) (h0 : J 0 [] news)
    (turn : ∀ i ys news v I oI C oC D m₂ h tk (E' : Value → Shared → Prop), i < n → J i ys news → P i v → LCg.NsObj oC m₂ → m₂ x = some v → Fr h₀ L h m → News h₀ L h ((I, oI) :: (C, oC) :: (D, LCg.lst ys) :: news) → LCg.Off3 I C D news → ((@Ne Nat I C) ∧ (@Ne Nat I D) ∧ (@Ne Nat C D)) →
      wpAny (model prog w) A (isTrue ct (compEnvC scope cl C env) (eval ct (compEnvC scope cl C env))) (fun ok s' => if ok = true then
        wpAny (model prog w) A (eval elt (compEnvC scope cl C env)) (LCg.CompEnd h₀ L m { s with heap := h, toks := tk } I oI C oC D (LCg.lst ys) S (fun y news' => J (i + 1) (ys ++ [y]) news')) E' s'
        else LCg.CompEnd h₀ L m { s with heap := h, toks := tk } I oI C oC D (LCg.lst ys) S (fun _ news' => J (i + 1) ys news') Value.none s') E' { s with heap := h, toks := tk })
    (done : ∀ ys news, J n ys news → Fin ys news) : LCt.CompRestT prog w A h₀ L m env ct elt x scope cl s S P Fin n 0 [] news := by
  have key : ∀ k i ys news, i + k = n → J i ys news → LCt.CompRestT prog w A h₀ L m env ct elt x scope cl s S P Fin k i ys news := by
    intro k
    induction k with
    | zero => intro i ys news hi hj; exact done ys news (by rw [← hi]; exact hj)
    | succ k ih =>
      intro i ys news hi hj
      refine LCt.CompRestT.succ ?_
      intro v I oI C' oC D' m' h' tk' E' hv hC hx F N off ne
      refine wpAny_mono (turn i ys news v I oI C' oC D' m' h' tk' E' (by lia) hj hv hC hx F N off ne) (fun ok s₂ h₂ => ?_) fun _ _ e => e
      cases ok with
      | true =>
        simp only [if_true] at h₂ ⊢
        exact wpAny_mono h₂ (fun y s₃ h₃ => CompEnd.mono h₃ fun news' hr => ih (i + 1) _ _ (by lia) hr) fun _ _ e => e
      | false =>
        simp only [Bool.false_eq_true, if_false] at h₂ ⊢
        exact CompEnd.mono h₂ fun news' hr => ih (i + 1) _ _ (by lia) hr
  exact key n 0 [] news (by lia) h0
noncomputable def rowOk (r : Row) : Prop := PyData.strOk r.1 = true ∧ PyData.strOk r.2.1 = true ∧ PyData.strOk r.2.2 = true
theorem rowD_ok {r : Row} (h : rowOk r) : kqdOk 8 (rowD r) = true := by
  obtain ⟨a, b, c⟩ := h
  simp [rowD, kqdOk, a, b, c]
theorem rowD_inj {r q : Row} : rowD r = rowD q ↔ r = q := by
  obtain ⟨a, b, c⟩ := r
  obtain ⟨x, y, z⟩ := q
  simp [rowD]
theorem rows_inj {rs qs : List Row} : rs.map rowD = qs.map rowD ↔ rs = qs := by
  constructor
  · intro h
    exact List.map_inj_right (fun _ _ => rowD_inj.mp) |>.mp h
  · rintro rfl; rfl
section
variable {prog : Program} {w : World} {A : Around} {E : Value → Shared → Prop} {s : Shared} {news : List (Addr × Obj)} {l : Addr} {vs : List Value} {rows : List Row} {x : Value} {q : Row} {n : Nat}
theorem kqdPs_map : ∀ (ds : List Dat), kqdPs ds = ds.map kqdP
  | [] => rfl
  | d :: ds => by rw [kqdPs, kqdPs_map ds]; rfl
theorem rows_reads (ho : ∀ p ∈ news, s.heap.get? p.1 = some p.2) (hv : DatAll news vs (rows.map rowD)) (hx : DatIn news x (rowD q)) (hr : ∀ r ∈ rows, rowOk r) (hq : rowOk q) (hu : A.units + 20 < cLine) :
    ∃ d, (∀ y ∈ vs.toArray, SeqAt.EqAt A.in1 s y x (PyData.eqv (SeqAt.readOf s.heap y) d)) ∧ vs.map (fun y => PyData.eqv (SeqAt.readOf s.heap y) d) = rows.map (fun r => decide (r = q)) := by
  have N := News.free ho
  have hok : ∀ d ∈ rows.map rowD, kqdOk 8 d = true := fun d hd => by obtain ⟨r, hr', rfl⟩ := List.mem_map.mp hd; exact rowD_ok (hr r hr')
  refine Classical.byContradiction fun hn1 => ?_
  obtain ⟨as, ra⟩ := kqd_all N 8 hv hok
  obtain ⟨bs, rx⟩ := kqd_in N 8 hx (rowD_ok hq)
  refine hn1 ?_
  have l1 := kqd_layL hok
  have ld := kqd_lay 8 (rowD q) (rowD_ok hq)
  refine ⟨kqdP (rowD q), SeqAt.items_eqAt (by simpa using ra) rx l1.1 ld.1 ?_, ?_⟩
  · have := Nat.min_le_right (PyData.depthAll (kqdPs (rows.map rowD))) (kqdP (rowD q)).depth
    lia
  · have e := SeqAt.readsAll_map _ _ _ l1.1 ra
    rw [kqdPs_map] at e
    have e2 : vs.map (fun y => PyData.eqv (SeqAt.readOf s.heap y) (kqdP (rowD q))) = (vs.map (SeqAt.readOf s.heap)).map fun p => PyData.eqv p (kqdP (rowD q)) := by rw [List.map_map]; rfl
    rw [e2, e, List.map_map, List.map_map]
    refine List.map_congr_left fun r hr' => ?_
    show PyData.eqv (kqdP (rowD r)) (kqdP (rowD q)) = decide (r = q)
    have := kqd_eqv 8 (rowD r) (rowD q) 8 (rowD_ok (hr r hr')) (rowD_ok hq)
    rw [rowD_inj] at this
    by_cases h : r = q
    · rw [decide_eq_true h]; exact this.mpr h
    · rw [decide_eq_false h]; exact Bool.eq_false_iff.mpr fun z => h (this.mp z)
theorem countP_of_map {α : Type} {p : α → Bool} {l : List α} {bs : List Bool} (h : l.map p = bs) : l.countP p = bs.countP id := by
  rw [← h, List.countP_map]; rfl
theorem count_rows {Q : Value → Shared → Prop} (ho : ∀ p ∈ news, s.heap.get? p.1 = some p.2) (hl : s.heap.get? l = some (W.listOf vs.toArray n)) (hv : DatAll news vs (rows.map rowD)) (hx : DatIn news x (rowD q)) (hr : ∀ r ∈ rows, rowOk r) (hq : rowOk q) (hu : A.units + 20 < cLine)
    (h : ∀ t, Q (.int ((rows.countP fun r => decide (r = q) : Nat) : Int) t) { s with toks := s.toks + 1 }) :
    wpAny (model prog w) A (call (.builtin "list.count") [.ref l, x]) Q E s := by
  refine Classical.byContradiction fun hn1 => ?_
  obtain ⟨d, h1, h2⟩ := rows_reads (A := A) ho hv hx hr hq hu
  refine hn1 ?_
  refine call_meets F.slot_list_count ⟨_, hl, rfl⟩ F.entry_list_count (F.args_list_count_2 _ _) (SeqAt.list_countAt l vs.toArray n none #[] x (fun y => PyData.eqv (SeqAt.readOf s.heap y) d)) ⟨hl, h1, ?_⟩
  have e := countP_of_map h2
  rw [show (vs.toArray.toList) = vs from rfl, e, List.countP_map]
  exact h _
end
end Mine
end
section
open PySem PySem.W PyProof.Rows PySem.Calls
set_option maxRecDepth 100000
namespace Mine
theorem len_vs {prog : Program} {w : World} {A : Around} {E : Value → Shared → Prop} {s : Shared} {l : Addr} {vs : List Value} {n : Nat} {Q : Value → Shared → Prop} (hl : s.heap.IsList l vs.toArray) (hn : vs.length = n) (hz : n ≤ 100000) (h : Q (.int (n : Int) (s.toks + 1)) { s with toks := s.toks + 1 + 1 }) :
    wpAny (model prog w) A (call (.builtin "len") [.ref l]) Q E s := by
  refine PyProof.Rows.len_list hl (by rw [List.size_toArray]; lia) ?_
  rw [List.size_toArray, hn]; exact h
theorem item_vs {prog : Program} {w : World} {A : Around} {E : Value → Shared → Prop} {s : Shared} {l : Addr} {value slice : PySem.Expr} {vs : List Value} {i : Nat} {u : Tok} {v : Value} {Q : Value → Shared → Prop} (hl : s.heap.IsList l vs.toArray) (hx : vs[i]? = some v) (hz : i ≤ 100000) (h : Q v s)
    (hs : subscripted slice false (.ref l) (.int (i : Int) u) = operate [.ref l, .int (i : Int) u] (getItem (.ref l) (.int (i : Int) u)) := by with_unfolding_all rfl) (hg : ∀ r, letTemporaryGo value (.ref l) r = pure () := by intro _; with_unfolding_all rfl) :
    wpAny (model prog w) A (subscriptTail value slice (.ref l) (.int (i : Int) u)) Q E s :=
  PyProof.Rows.item_list hl (by lia) (by lia) (by simpa using hx) h hs hg
theorem getMethod_base {prog : Program} {w : World} {A : Around} {E : Value → Shared → Prop} {s : Shared} {h₀ : Heap} {L l : Addr} {m : Str → Option Value} {name : Str} {id : String} {pl : Sem Bool} {its : Array Value} {n : Nat} {Q : Value × List Value → Shared → Prop} (slot : Slot "list" name id)
    (hty : typeOf (.builtin id) = pure (.type "method_descriptor")) (F : Fr h₀ L s.heap m) (hl : h₀.get? l = some (W.listOf its n)) (h : Q (.builtin id, [.ref l]) s) :
    wpAny (model prog w) A (getMethod (.ref l) name pl) Q E s :=
  getMethod_list_of slot hty ⟨_, F.keep _ _ hl, rfl, _, rfl⟩ ⟨_, F.keep _ _ hl, rfl⟩ h
theorem DatAll.dropN {news : List (Addr × Obj)} : ∀ {vs : List Value} {ds : List Dat}, DatAll news vs ds → ∀ k, DatAll news (vs.drop k) (ds.drop k)
  | _, _, h, 0 => h
  | _, _, .nil, _ + 1 => .nil
  | _, _, .cons _ h, k + 1 => DatAll.dropN h k
theorem DatAll.takeN {news : List (Addr × Obj)} : ∀ {vs : List Value} {ds : List Dat}, DatAll news vs ds → ∀ k, DatAll news (vs.take k) (ds.take k)
  | _, _, _, 0 => by rw [List.take_zero, List.take_zero]; exact .nil
  | _, _, .nil, _ + 1 => .nil
  | _, _, .cons h' h, k + 1 => .cons h' (DatAll.takeN h k)
theorem told_succ {p : Nat → Bool} {f : Nat → Row} {i : Nat} : ((List.range (i + 1)).filter p).map f = ((List.range i).filter p).map f ++ (if p i = true then [f i] else []) := by
  rw [List.range_succ, List.filter_append, List.map_append]
  congr 1
  rw [List.filter_cons]
  split <;> simp
theorem take_slice1 {prog : Program} {w : World} {A : Around} {E : Value → Shared → Prop} {s : Shared} {h₀ : Heap} {L l : Addr} {m : Str → Option Value} {news : List (Addr × Obj)} {value slice : PySem.Expr} {vs : List Value} {Q : Value → Shared → Prop} {k : Nat} {t : Tok} (F : Fr h₀ L s.heap m) (N : News h₀ L s.heap news) (hl : s.heap.IsList l vs.toArray)
    (h : ∀ D h', Fr h₀ L h' m → News h₀ L h' ((D, listOf (vs.take (k + 1)).toArray 0) :: news) → (∀ p ∈ news, p.1 < D) → Q (.ref D) { s with heap := h' })
    (hs : subscripted slice false (.ref l) (.ref s.heap.objs.size) = operate [.ref s.heap.objs.size, .ref l] (getItem (.ref l) (.ref s.heap.objs.size))) (ht : ∀ r, letTemporaryGo value (.ref l) r = pure ()) (hz : vs.length ≤ 100000) :
    wpAny (model prog w) A (subscriptTail value slice (.ref l) (.ref s.heap.objs.size)) Q E { s with heap := s.heap.push { cls := .type "slice", data := .fields #[.none, .int ((k : Int) + 1) t, .none] } } := by
  have e : ((k : Int) + 1) = ((k + 1 : Nat) : Int) := by push_cast; rfl
  rw [e]
  exact take_slice F N hl h hs ht hz
noncomputable def told1 (fs ss : List Row) (k : Nat) : Bool := decide (ss.countP (fun r => decide (r = fs.getD k default)) < (fs.drop k).countP (fun r => decide (r = fs.getD k default)))
noncomputable def told2 (fs ss : List Row) (k : Nat) : Bool := decide (fs.countP (fun r => decide (r = ss.getD k default)) < (ss.take (k + 1)).countP (fun r => decide (r = ss.getD k default)))
noncomputable def toldM (fs ss : List Row) (n : Nat) : List Row := ((List.range n).filter (told1 fs ss)).map fun k => fs.getD k default
noncomputable def toldL (fs ss : List Row) (n : Nat) : List Row := ((List.range n).filter (told2 fs ss)).map fun k => ss.getD k default
theorem toldM_len (fs ss : List Row) (i : Nat) : (toldM fs ss i).length ≤ i := by
  unfold toldM
  rw [List.length_map]
  have := List.length_filter_le (told1 fs ss) (List.range i)
  rwa [List.length_range] at this
theorem DatAll.rev {news : List (Addr × Obj)} {vs : List Value} {ds : List Dat} (h : DatAll news vs ds) : DatAll news vs.reverse ds.reverse := by
  induction vs generalizing ds with
  | nil => cases h; exact .nil
  | cons v vs ih =>
    cases h with
    | cons h1 h2 => rw [List.reverse_cons, List.reverse_cons]; exact DatAll.append (ih h2) (.cons h1 .nil)
theorem rev_pick {ys : List Value} : slicePick ys.toArray none none (some (-1)) = ys.reverse.toArray := krv_pick ys.toArray
theorem CellsAre.two {cm : Str → Option Value} {n n' : Str} {c c' : Addr} {cells : List (Addr × Obj)} (x : CellsAre cm [(n, c), (n', c')] cells) :
    ∃ o o', cells = [(c, o), (c', o')] ∧ o.data = .cell (cm n) ∧ o'.data = .cell (cm n') := by
  cases x with | cons h r => cases r with | cons h' r => cases r; exact ⟨_, _, rfl, h, h'⟩
set_option maxHeartbeats 1000000 in
theorem told_spec {w : World} {A : Around} {s : Shared} {mg mb : Str → Option Value} {l1 l2 : Addr} {vs us : List Value} {n1 n2 : Nat} {fs ss : List Row} {objs : List (Addr × Obj)} (tp : Tops w mg mb s.heap) (hA : A.depth + 10 < recursionLimit) (hu : A.units + 100 < cLine) (hh : A.handled = none)
    (ho : ∀ p ∈ objs, s.heap.get? p.1 = some p.2) (h1 : s.heap.get? l1 = some (W.listOf vs.toArray n1)) (h2 : s.heap.get? l2 = some (W.listOf us.toArray n2)) (hv : DatAll objs vs (fs.map rowD)) (hw : DatAll objs us (ss.map rowD)) (hf : ∀ r ∈ fs, rowOk r) (hs : ∀ r ∈ ss, rowOk r) (hfn : fs.length ≤ 50) (hsn : ss.length ≤ 50) :
    Gives w A 136 [.ref l1, .ref l2] s (fun v new => DatIn (new ++ objs) v (.tuple [.list ((toldM fs ss fs.length).reverse.map rowD), .list ((toldL fs ss ss.length).map rowD)])) := by
  have o1 : On "eval ListComp" := ⟨⟩
  have o2 : On "exec Assign cons ListComp" := ⟨⟩
  have o3 : On "call builtin:list.count" := ⟨⟩
  have o4 : On "CompSrcT" := ⟨⟩
  have o5 : On "CompSrc" := ⟨⟩
  have o6 : On "subscriptTail Name Name ref int" := ⟨⟩
  have o7 : On "subscriptTail Name Slice ref ref" := ⟨⟩
  have o9 : On "call builtin:len" := ⟨⟩
  refine Classical.byContradiction fun hn1 => ?_
  obtain ⟨X, T⟩ := id tp
  obtain ⟨A, rfl⟩ := Around.calm hh
  refine hn1 ?_
  dsimp only at hA hu
  refine gives_of_cells (binds := [(S "first", .ref l1), (S "second", .ref l2)]) tp (by show A.depth < _; lia) (by k_is) (by k_is) (by rfl) (fun n y hy => ?_) (by decide) (fun L h₁ tk cells hLs F N Y => ?_) (by rfl) (by rfl) (by rfl)
  · rcases inL2 hy with rfl | rfl
    · exact .inr ⟨rfl, rfl⟩
    · exact .inr ⟨rfl, rfl⟩
  refine Classical.byContradiction fun hn2 => ?_
  obtain ⟨o1, o2, rfl, ho1, ho2⟩ := CellsAre.two Y
  refine hn2 ?_
  replace ho1 : o1.data = .cell (some (.ref l2)) := ho1
  replace ho2 : o2.data = .cell (some (.ref l1)) := ho2
  clear Y
  have hl1 : s.heap.IsList l1 vs.toArray := ⟨_, h1, rfl, _, rfl⟩
  have hl2 : s.heap.IsList l2 us.toArray := ⟨_, h2, rfl, _, rfl⟩
  have hvl : vs.length = fs.length := by have := hv.length; rw [List.length_map] at this; exact this
  have hul : us.length = ss.length := by have := hw.length; rw [List.length_map] at this; exact this
  walk_at "steps"
  refine Hold.mk (LCt.Assign_ListComp_T (F₀ := F) rfl (by with_unfolding_all rfl) (by with_unfolding_all rfl) (by decide) (by rfl) (by decide) (by rfl) (by rfl) (by rfl) ?_)
  walk_at "steps"
  refine Hold.mk ?_
  refine len_vs (by kmk_list) (by assumption) (by omega) ?_
  walk_at "steps"
  rename IsRange _ _ _ _ _ _ _ _ => hr
  (rename Fr _ _ _ _ => F'); (rename News _ _ _ _ => N')
  dsimp only at hr F' N' ⊢
  refine Hold.mk ?_
  refine LCt.CompSrcT.range (n := fs.length) (by rfl) F' N' hr (range_small _ (by lia)) (range_size _) (by unfold sizeLine; lia) (fun g' => ?_)
  refine comp_invT (fun i ys nx => DatAll objs ys ((toldM fs ss i).map rowD) ∧ nx = [(L + 1 + 1, o1), (L + 1, o2)]) ⟨.nil, rfl⟩ ?turn ?done
  case turn =>
    clear F' N' hr
    rintro i ys nx v I oI C' oC D m₂ h tk E' hi ⟨hys, rfl⟩ ⟨t, rfl⟩ hC hx F N off ne
    rw [show (0 + (i : Int)) = (i : Int) by lia] at hx
    refine Classical.byContradiction fun hn3 => ?_
    obtain ⟨u, hvi⟩ : ∃ u, vs[i]? = some u := ⟨_, List.getElem?_eq_getElem (by lia)⟩
    obtain ⟨d, hd', hin⟩ := DatAll.at hv hvi
    obtain ⟨r, hr', rfl⟩ : ∃ r, fs[i]? = some r ∧ rowD r = d := by simpa using hd'
    refine hn3 ?_
    have hl1 : h.IsList l1 vs.toArray := ⟨_, F.keep _ _ h1, rfl, _, rfl⟩
    have hl2 : h.IsList l2 us.toArray := ⟨_, F.keep _ _ h2, rfl, _, rfl⟩
    have er : fs.getD i default = r := by rw [List.getD_eq_getElem?_getD, hr']; rfl
    have hrr : r ∈ fs := List.mem_of_getElem? hr'
    repeat' (first | ((with_reducible refine Hold.mk (p := wpAny _ _ (subscriptTail _ _ _ (.int _ _)) _ _ _) ?_); refine item_vs (by kmk_list) (by assumption) (by omega) ?_) | ((with_reducible refine Hold.mk (p := wpAny _ _ (subscriptTail _ _ _ (.ref _)) _ _ _) ?_); k_dflt (refine drop_slice (by k_asm) (by k_asm) (by kmk_list) ?_ (by with_unfolding_all rfl) (by kmk_pure) (by omega)); intro D' h' F' N' l1; (try k_lt l1); (try k_sweep)) | (with_reducible refine getMethod_base PySem.F.slot_list_count PySem.F.type_list_count (by k_asm) (by assumption) ?_) | walk_at "step1")
    (rename Fr _ _ _ _ => F'); (rename News _ _ _ _ => N')
    refine Hold.mk (count_rows (s := ⟨_, _, _, _, _⟩) (news := objs) (vs := vs.drop i) (rows := fs.drop i) (q := r) (fun p hp => F'.keep _ _ (ho p hp)) (N' _ (.head _)).1 (by rw [List.map_drop]; exact DatAll.dropN hv i) hin (fun q hq => hf q (List.mem_of_mem_drop hq)) (hf r hrr) ?hu1 (fun t1 => ?_))
    case hu1 => simp only [units_deeper]; lia
    dsimp only
    repeat' (first | ((with_reducible refine Hold.mk (p := wpAny _ _ (subscriptTail _ _ _ (.int _ _)) _ _ _) ?_); refine item_vs (by kmk_list) (by assumption) (by omega) ?_) | ((with_reducible refine Hold.mk (p := wpAny _ _ (subscriptTail _ _ _ (.ref _)) _ _ _) ?_); k_dflt (refine drop_slice (by k_asm) (by k_asm) (by kmk_list) ?_ (by with_unfolding_all rfl) (by kmk_pure) (by omega)); intro D' h' F' N' l1; (try k_lt l1); (try k_sweep)) | (with_reducible refine getMethod_base PySem.F.slot_list_count PySem.F.type_list_count (by k_asm) (by assumption) ?_) | walk_at "step1")
    (rename Fr _ _ _ _ => F'); (rename News _ _ _ _ => N')
    refine Hold.mk (count_rows (s := ⟨_, _, _, _, _⟩) (news := objs) (vs := us) (rows := ss) (q := r) (fun p hp => F'.keep _ _ (ho p hp)) (F'.keep _ _ h2) hw hin hs (hf r hrr) ?hu2 (fun t2 => ?_))
    case hu2 => simp only [units_deeper]; lia
    dsimp only
    repeat' (first | ((with_reducible refine Hold.mk (p := wpAny _ _ (subscriptTail _ _ _ (.int _ _)) _ _ _) ?_); refine item_vs (by kmk_list) (by assumption) (by omega) ?_) | ((with_reducible refine Hold.mk (p := wpAny _ _ (subscriptTail _ _ _ (.ref _)) _ _ _) ?_); k_dflt (refine drop_slice (by k_asm) (by k_asm) (by kmk_list) ?_ (by with_unfolding_all rfl) (by kmk_pure) (by omega)); intro D' h' F' N' l1; (try k_lt l1); (try k_sweep)) | (with_reducible refine getMethod_base PySem.F.slot_list_count PySem.F.type_list_count (by k_asm) (by assumption) ?_) | walk_at "step1")
    all_goals (
      (rename Fr _ _ _ _ => F'); (rename News _ _ _ _ => N')
      refine LCg.CompEnd.intro F' N' [(L + 1 + 1, o1), (L + 1, o2)] (by walk_at "mem_all") off trivial ⟨?_, rfl⟩
      unfold toldM
      rw [told_succ, List.map_append])
    · rename _ < _ => hlt
      rw [if_pos (by unfold told1; rw [er]; exact decide_eq_true (by lia)), er]
      exact DatAll.append hys (.cons hin .nil)
    · rename ¬ _ < _ => hlt
      rw [if_neg (by unfold told1; rw [er]; exact fun q => hlt (by have := of_decide_eq_true q; lia)), List.map_nil, List.append_nil]
      exact hys
  case done =>
    clear F' N' hr
    rintro ys nx ⟨hys, rfl⟩ D1 h tk F N off
    dsimp only
    walk_at "steps"
    refine Hold.mk (LCt.Assign_ListComp_T (F₀ := F) rfl (by with_unfolding_all rfl) (by with_unfolding_all rfl) (by decide) (by rfl) (by decide) (by rfl) (by rfl) (by rfl) ?_)
    have hyl : ys.length ≤ 50 := by
      have q1 := hys.length
      have q2 := toldM_len fs ss fs.length
      rw [List.length_map] at q1
      lia
    walk_at "steps"
    refine Hold.mk ?_
    refine len_vs (by kmk_list) (by assumption) (by omega) ?_
    walk_at "steps"
    rename IsRange _ _ _ _ _ _ _ _ => hr
    (rename Fr _ _ _ _ => F'); (rename News _ _ _ _ => N')
    dsimp only at hr F' N' ⊢
    refine Hold.mk ?_
    refine LCt.CompSrcT.range (n := ss.length) (by rfl) F' N' hr (range_small _ (by lia)) (range_size _) (by unfold sizeLine; lia) (fun g' => ?_)
    refine comp_invT (fun i zs nx => DatAll objs zs ((toldL fs ss i).map rowD) ∧ nx = [(D1, LCg.lst ys), (L + 1 + 1, o1), (L + 1, o2)]) ⟨.nil, rfl⟩ ?turn2 ?done2
    case turn2 =>
      clear F' N' hr
      rintro i zs nx v I oI C' oC D m₂ h tk E' hi ⟨hzs, rfl⟩ ⟨t, rfl⟩ hC hx F N off ne
      rw [show (0 + (i : Int)) = (i : Int) by lia] at hx
      refine Classical.byContradiction fun hn4 => ?_
      obtain ⟨u, hvi⟩ : ∃ u, us[i]? = some u := ⟨_, List.getElem?_eq_getElem (by lia)⟩
      obtain ⟨d, hd', hin⟩ := DatAll.at hw hvi
      obtain ⟨r, hr', rfl⟩ : ∃ r, ss[i]? = some r ∧ rowD r = d := by simpa using hd'
      refine hn4 ?_
      have hl1 : h.IsList l1 vs.toArray := ⟨_, F.keep _ _ h1, rfl, _, rfl⟩
      have hl2 : h.IsList l2 us.toArray := ⟨_, F.keep _ _ h2, rfl, _, rfl⟩
      have er : ss.getD i default = r := by rw [List.getD_eq_getElem?_getD, hr']; rfl
      have hrr : r ∈ ss := List.mem_of_getElem? hr'
      repeat' (first | ((with_reducible refine Hold.mk (p := wpAny _ _ (subscriptTail _ _ _ (.int _ _)) _ _ _) ?_); refine item_vs (by kmk_list) (by assumption) (by omega) ?_) | ((with_reducible refine Hold.mk (p := wpAny _ _ (subscriptTail _ _ _ (.ref _)) _ _ _) ?_); k_dflt (refine take_slice1 (by k_asm) (by k_asm) (by kmk_list) ?_ (by with_unfolding_all rfl) (by kmk_pure) (by omega)); intro D' h' F' N' l1; (try k_lt l1); (try k_sweep)) | (with_reducible refine getMethod_base PySem.F.slot_list_count PySem.F.type_list_count (by k_asm) (by assumption) ?_) | walk_at "step1")
      (rename Fr _ _ _ _ => F'); (rename News _ _ _ _ => N')
      refine Hold.mk (count_rows (s := ⟨_, _, _, _, _⟩) (news := objs) (vs := us.take (i + 1)) (rows := ss.take (i + 1)) (q := r) (fun p hp => F'.keep _ _ (ho p hp)) (N' _ (.head _)).1 (by rw [List.map_take]; exact DatAll.takeN hw (i + 1)) hin (fun q hq => hs q (List.mem_of_mem_take hq)) (hs r hrr) ?hu1 (fun t1 => ?_))
      case hu1 => simp only [units_deeper]; lia
      dsimp only
      repeat' (first | ((with_reducible refine Hold.mk (p := wpAny _ _ (subscriptTail _ _ _ (.int _ _)) _ _ _) ?_); refine item_vs (by kmk_list) (by assumption) (by omega) ?_) | ((with_reducible refine Hold.mk (p := wpAny _ _ (subscriptTail _ _ _ (.ref _)) _ _ _) ?_); k_dflt (refine take_slice1 (by k_asm) (by k_asm) (by kmk_list) ?_ (by with_unfolding_all rfl) (by kmk_pure) (by omega)); intro D' h' F' N' l1; (try k_lt l1); (try k_sweep)) | (with_reducible refine getMethod_base PySem.F.slot_list_count PySem.F.type_list_count (by k_asm) (by assumption) ?_) | walk_at "step1")
      (rename Fr _ _ _ _ => F'); (rename News _ _ _ _ => N')
      refine Hold.mk (count_rows (s := ⟨_, _, _, _, _⟩) (news := objs) (vs := vs) (rows := fs) (q := r) (fun p hp => F'.keep _ _ (ho p hp)) (F'.keep _ _ h1) hv hin hf (hs r hrr) ?hu2 (fun t2 => ?_))
      case hu2 => simp only [units_deeper]; lia
      dsimp only
      repeat' (first | ((with_reducible refine Hold.mk (p := wpAny _ _ (subscriptTail _ _ _ (.int _ _)) _ _ _) ?_); refine item_vs (by kmk_list) (by assumption) (by omega) ?_) | ((with_reducible refine Hold.mk (p := wpAny _ _ (subscriptTail _ _ _ (.ref _)) _ _ _) ?_); k_dflt (refine take_slice1 (by k_asm) (by k_asm) (by kmk_list) ?_ (by with_unfolding_all rfl) (by kmk_pure) (by omega)); intro D' h' F' N' l1; (try k_lt l1); (try k_sweep)) | (with_reducible refine getMethod_base PySem.F.slot_list_count PySem.F.type_list_count (by k_asm) (by assumption) ?_) | walk_at "step1")
      all_goals (
        (rename Fr _ _ _ _ => F'); (rename News _ _ _ _ => N')
        refine LCg.CompEnd.intro F' N' [(D1, LCg.lst ys), (L + 1 + 1, o1), (L + 1, o2)] (by walk_at "mem_all") off trivial ⟨?_, rfl⟩
        unfold toldL
        rw [told_succ, List.map_append])
      · rename _ < _ => hlt
        rw [if_pos (by unfold told2; rw [er]; exact decide_eq_true (by lia)), er]
        exact DatAll.append hzs (.cons hin .nil)
      · rename ¬ _ < _ => hlt
        rw [if_neg (by unfold told2; rw [er]; exact fun q => hlt (by have := of_decide_eq_true q; lia)), List.map_nil, List.append_nil]
        exact hzs
    case done2 =>
      clear F' N' hr
      rintro zs nx ⟨hzs, rfl⟩ D2 h tk F N off2
      dsimp only
      clear o7
      walk_at "steps"
      (rename Fr _ _ _ _ => F'); (rename News _ _ _ _ => N')
      rw [rev_pick] at N'
      refine GivesEnd.mk F' N' (DatIn.tuple (vs := [.ref _, .ref D2]) (.head _) (.cons (DatIn.list (vs := ys.reverse) (.tail _ (.head _)) ?_) (.cons (DatIn.list (vs := zs) (.tail _ (.tail _ (.head _))) ?_) .nil)))
      · rw [List.map_reverse]
        exact DatAll.mono (fun _ h => List.mem_append_right _ h) (DatAll.rev hys)
      · exact DatAll.mono (fun _ h => List.mem_append_right _ h) hzs
end Mine
end
section
open PySem PySem.W PyProof.Rows PySem.Calls
set_option maxRecDepth 100000
namespace Mine
noncomputable abbrev sldEnv (L : Addr) : Env := envX (Str.ofString "sorted_list_difference") (scopeAt 7) L 79 (.ref 78) []
noncomputable def skipE (xs : List Str) (e : Str) : Nat → Nat → Nat
  | 0, i => i
  | f + 1, i => if xs[i]? = some e then skipE xs e f (i + 1) else i
noncomputable def skip (xs : List Str) (e : Str) (i : Nat) : Nat := skipE xs e (xs.length - i) i
theorem skip_yes {xs : List Str} {e x : Str} {i : Nat} (h : i < xs.length) (hx : xs[i]? = some x) (he : x = e) : skip xs e (i + 1) = skip xs e i := by
  unfold skip
  rw [show xs.length - i = (xs.length - (i + 1)) + 1 by lia, skipE, if_pos (by rw [hx, he])]
theorem skip_no {xs : List Str} {e x : Str} {i : Nat} (hx : xs[i]? = some x) (he : x ≠ e) : skip xs e i = i := by
  unfold skip
  cases xs.length - i with
  | zero => rfl
  | succ f => rw [skipE, if_neg (by rw [hx]; exact fun q => he (Option.some.inj q))]
theorem skip_end {xs : List Str} {e : Str} {i : Nat} (h : xs.length ≤ i) : skip xs e i = i := by
  unfold skip
  rw [show xs.length - i = 0 by lia]; rfl

inductive InnJ (news : List (Addr × Obj)) (xs : List Str) (e : Str) (i : Nat) (m : Str → Option Value) (nm : Str) (k : Nat) (m₁ : Str → Option Value) (nx : List (Addr × Obj)) : Prop
  | mk (en : nx = news) (i' : Nat) (t' : Tok) (ek : k = xs.length - i') (hi : i' ≤ xs.length) (hsk : skip xs e i' = skip xs e i) (mi : m₁ nm = some (.int ((i' : Nat) : Int) t')) (mo : ∀ y, y ≠ nm → m₁ y = m y) : InnJ news xs e i m nm k m₁ nx
set_option maxHeartbeats 1000000 in
theorem inner1 {w : World} {A : Around} {E : Value → Shared → Prop} {Q : Flow → Shared → Prop} {hp g : Heap} {gs : Array GenState} {d : Drawn} {tk : Nat} {os : OsState} {L l : Addr} {m : Str → Option Value} {news : List (Addr × Obj)} {c : Value} {vs : List Value} {xs : List Str} {i : Nat} {ti te : Tok} {e : Str} {p1 p2 p3 p4 p5 p6 p7 p8 p9 : Pos} {mg mb : Str → Option Value}
    (X : (hd.heap_39 w.params).In g) (T : TopRead hd.view_39 loose mg mb g) (F : Fr g L hp m) (N : News g L hp news) (H : HandIs A news c) (ml : m (S "expected") = some (.ref l)) (mi : m (S "i") = some (.int (i : Int) ti)) (me : m (S "e") = some (.str e te))
    (hl : g.IsList l vs.toArray) (hI : StrsAre vs xs) (hn : xs.length ≤ 50) (hi : i ≤ xs.length)
    (done : ∀ hp' tk' m' ti', Fr g L hp' m' → News g L hp' news → (∀ y, y ≠ S "i" → m' y = m y) → m' (S "i") = some (.int ((skip xs e i : Nat) : Int) ti') → skip xs e i < xs.length → Q .next ⟨hp', gs, d, tk', os⟩)
    (fail : ∀ ea oe hp' tk' m' ti', Fr g L hp' m' → News g L hp' ((ea, oe) :: news) → ExcOk oe "IndexError" c → (∀ p ∈ news, p.1 ≠ ea) → (∀ y, y ≠ S "i" → m' y = m y) → m' (S "i") = some (.int ((skip xs e i : Nat) : Int) ti') → skip xs e i = xs.length → E (.ref ea) ⟨hp', gs, d, tk', os⟩)
    (hE : PassesOwn (model prg w) A (sldEnv L) E) :
    wpAny (model prg w) A (exec (.While (.Compare (.Subscript (.Name (Str.ofString "expected") p1) (.Name (Str.ofString "i") p2) p3) [.Eq] [.Name (Str.ofString "e") p4] p5) [.AugAssign (.Name (Str.ofString "i") p6) .Add (.Constant (.int 1) 0 p7) p8] [] p9) (sldEnv L)) Q E ⟨hp, gs, d, tk, os⟩ := by
  have on1 : On "subscriptTail Name Name ref int" := ⟨⟩
  have hvl := hI.length
  refine While_inv (L := L) (h₀ := g) (InnJ news xs e i m (S "i")) (n₀ := xs.length - i) F N ⟨rfl, i, ti, rfl, hi, rfl, mi, fun _ _ => rfl⟩ ?turn hE
  clear F N
  rintro k m₁ nx h₁ tk₁ F N ⟨rfl, i', t', rfl, hi', hsk, mi', mo⟩
  have hl' : h₁.IsList l vs.toArray := by obtain ⟨o, a, b, n, c⟩ := hl; exact ⟨o, F.keep _ _ a, b, n, c⟩
  replace F := Fr.know (Fr.know (Fr.know F ((mo (S "expected") (by decide)).trans ml)) (x := S "e") (v := .str e te) (by rw [if_neg (by decide)]; exact (mo (S "e") (by decide)).trans me)) (x := S "i") (v := .int (i' : Int) t') (by rw [if_neg (by decide), if_neg (by decide)]; exact mi')
  have agree : ∀ y, y ≠ S "i" → (if y = S "i" then some (Value.int (i' : Int) t') else if y = S "e" then some (Value.str e te) else if y = S "expected" then some (Value.ref l) else m₁ y) = m y := fun y hy => by
    rw [if_neg hy]
    by_cases q : y = S "e"
    · rw [if_pos q, q]; exact me.symm
    · rw [if_neg q]
      by_cases q2 : y = S "expected"
      · rw [if_pos q2, q2]; exact ml.symm
      · rw [if_neg q2]; exact mo y hy
  by_cases hlt : i' < xs.length
  · obtain ⟨u, hvi⟩ : ∃ u, vs[i']? = some u := ⟨_, List.getElem?_eq_getElem (by lia)⟩
    refine Classical.byContradiction fun hn1 => ?_
    obtain ⟨x, tx, hxi, rfl⟩ := Mine.StrsAre.item hI hvi
    refine hn1 ?_
    walk_at "steps"
    refine Hold.mk ?_
    refine item_vs (by kmk_list) (by assumption) (by omega) ?_
    walk_at "steps"
    all_goals ((rename Fr _ _ _ _ => F'); (rename News _ _ _ _ => N'))
    · have he : x = e := by first | exact eq_of_beq (by assumption) | (simp only [beq_iff_eq, decide_eq_true_eq] at *; assumption) | assumption
      refine WhileStep.intro (n' := xs.length - (i' + 1)) F' N' (by lia) ⟨rfl, i' + 1, _, rfl, by lia, ?_, rfl, fun y hy => ?_⟩
      · rw [← hsk, skip_yes hlt hxi he]
      · dsimp only
        rw [if_neg hy]; exact agree y hy
    · have he : x ≠ e := by first | exact ne_of_beq_false (by assumption) | (simp only [beq_iff_eq, beq_eq_false_iff_ne, decide_eq_false_iff_not, ne_eq] at *; assumption) | assumption
      have e2 := skip_no hxi he
      rw [hsk] at e2
      exact done _ _ _ t' F' N' agree (by rw [if_pos rfl, e2]) (by lia)
  · have hie : i' = xs.length := by lia
    walk_at "steps"
    refine Hold.mk (index_out (vs := vs) H F N hl' (by lia) (by lia) (fun ea oe hp' tk' F' N' x1 x2 => ?_))
    have e2 := skip_end (xs := xs) (e := e) (i := i') (by lia)
    rw [hsk] at e2
    exact fail ea oe hp' tk' _ t' F' N' x1 x2 agree (by rw [if_pos rfl, e2]) (by lia)

set_option maxHeartbeats 1000000 in
theorem inner2 {w : World} {A : Around} {E : Value → Shared → Prop} {Q : Flow → Shared → Prop} {hp g : Heap} {gs : Array GenState} {d : Drawn} {tk : Nat} {os : OsState} {L l : Addr} {m : Str → Option Value} {news : List (Addr × Obj)} {c : Value} {vs : List Value} {xs : List Str} {i : Nat} {ti te : Tok} {e : Str} {p1 p2 p3 p4 p5 p6 p7 p8 p9 : Pos} {mg mb : Str → Option Value}
    (X : (hd.heap_39 w.params).In g) (T : TopRead hd.view_39 loose mg mb g) (F : Fr g L hp m) (N : News g L hp news) (H : HandIs A news c) (ml : m (S "actual") = some (.ref l)) (mi : m (S "j") = some (.int (i : Int) ti)) (me : m (S "a") = some (.str e te))
    (hl : g.IsList l vs.toArray) (hI : StrsAre vs xs) (hn : xs.length ≤ 50) (hi : i ≤ xs.length)
    (done : ∀ hp' tk' m' ti', Fr g L hp' m' → News g L hp' news → (∀ y, y ≠ S "j" → m' y = m y) → m' (S "j") = some (.int ((skip xs e i : Nat) : Int) ti') → skip xs e i < xs.length → Q .next ⟨hp', gs, d, tk', os⟩)
    (fail : ∀ ea oe hp' tk' m' ti', Fr g L hp' m' → News g L hp' ((ea, oe) :: news) → ExcOk oe "IndexError" c → (∀ p ∈ news, p.1 ≠ ea) → (∀ y, y ≠ S "j" → m' y = m y) → m' (S "j") = some (.int ((skip xs e i : Nat) : Int) ti') → skip xs e i = xs.length → E (.ref ea) ⟨hp', gs, d, tk', os⟩)
    (hE : PassesOwn (model prg w) A (sldEnv L) E) :
    wpAny (model prg w) A (exec (.While (.Compare (.Subscript (.Name (Str.ofString "actual") p1) (.Name (Str.ofString "j") p2) p3) [.Eq] [.Name (Str.ofString "a") p4] p5) [.AugAssign (.Name (Str.ofString "j") p6) .Add (.Constant (.int 1) 0 p7) p8] [] p9) (sldEnv L)) Q E ⟨hp, gs, d, tk, os⟩ := by
  have on1 : On "subscriptTail Name Name ref int" := ⟨⟩
  have hvl := hI.length
  refine While_inv (L := L) (h₀ := g) (InnJ news xs e i m (S "j")) (n₀ := xs.length - i) F N ⟨rfl, i, ti, rfl, hi, rfl, mi, fun _ _ => rfl⟩ ?turn hE
  clear F N
  rintro k m₁ nx h₁ tk₁ F N ⟨rfl, i', t', rfl, hi', hsk, mi', mo⟩
  have hl' : h₁.IsList l vs.toArray := by obtain ⟨o, a, b, n, c⟩ := hl; exact ⟨o, F.keep _ _ a, b, n, c⟩
  replace F := Fr.know (Fr.know (Fr.know F ((mo (S "actual") (by decide)).trans ml)) (x := S "a") (v := .str e te) (by rw [if_neg (by decide)]; exact (mo (S "a") (by decide)).trans me)) (x := S "j") (v := .int (i' : Int) t') (by rw [if_neg (by decide), if_neg (by decide)]; exact mi')
  have agree : ∀ y, y ≠ S "j" → (if y = S "j" then some (Value.int (i' : Int) t') else if y = S "a" then some (Value.str e te) else if y = S "actual" then some (Value.ref l) else m₁ y) = m y := fun y hy => by
    rw [if_neg hy]
    by_cases q : y = S "a"
    · rw [if_pos q, q]; exact me.symm
    · rw [if_neg q]
      by_cases q2 : y = S "actual"
      · rw [if_pos q2, q2]; exact ml.symm
      · rw [if_neg q2]; exact mo y hy
  by_cases hlt : i' < xs.length
  · obtain ⟨u, hvi⟩ : ∃ u, vs[i']? = some u := ⟨_, List.getElem?_eq_getElem (by lia)⟩
    refine Classical.byContradiction fun hn1 => ?_
    obtain ⟨x, tx, hxi, rfl⟩ := Mine.StrsAre.item hI hvi
    refine hn1 ?_
    walk_at "steps"
    refine Hold.mk ?_
    refine item_vs (by kmk_list) (by assumption) (by omega) ?_
    walk_at "steps"
    all_goals ((rename Fr _ _ _ _ => F'); (rename News _ _ _ _ => N'))
    · have he : x = e := by first | exact eq_of_beq (by assumption) | (simp only [beq_iff_eq, decide_eq_true_eq] at *; assumption) | assumption
      refine WhileStep.intro (n' := xs.length - (i' + 1)) F' N' (by lia) ⟨rfl, i' + 1, _, rfl, by lia, ?_, rfl, fun y hy => ?_⟩
      · rw [← hsk, skip_yes hlt hxi he]
      · dsimp only
        rw [if_neg hy]; exact agree y hy
    · have he : x ≠ e := by first | exact ne_of_beq_false (by assumption) | (simp only [beq_iff_eq, beq_eq_false_iff_ne, decide_eq_false_iff_not, ne_eq] at *; assumption) | assumption
      have e2 := skip_no hxi he
      rw [hsk] at e2
      exact done _ _ _ t' F' N' agree (by rw [if_pos rfl, e2]) (by lia)
  · have hie : i' = xs.length := by lia
    walk_at "steps"
    refine Hold.mk (index_out (vs := vs) H F N hl' (by lia) (by lia) (fun ea oe hp' tk' F' N' x1 x2 => ?_))
    have e2 := skip_end (xs := xs) (e := e) (i := i') (by lia)
    rw [hsk] at e2
    exact fail ea oe hp' tk' _ t' F' N' x1 x2 agree (by rw [if_pos rfl, e2]) (by lia)
end Mine
end
section
open PySem PySem.W PyProof.Rows PySem.Calls
set_option maxRecDepth 100000
namespace Mine
theorem extend_K {prog : Program} {w : World} {A : Around} {E : Value → Shared → Prop} {s : Shared} {h₀ : Heap} {L D b : Addr} {m : Str → Option Value} {news news' : List (Addr × Obj)} {its its2 : Array Value} {n n2 : Nat} {Q : Value → Shared → Prop} (F : Fr h₀ L s.heap m) (N : News h₀ L s.heap news) (hb : (b, listOf its2 n2) ∈ news)
    (U : Upd D (listOf its n) (listOf (its ++ its2) (if (its ++ its2).size == its.size then n else n + 1)) news news')
    (h : ∀ h', Fr h₀ L h' m → News h₀ L h' news' → Q .none { s with heap := h' })
    (hsz : its.size + its2.size ≤ sizeLine) :
    wpAny (model prog w) A (call (.builtin "list.extend") [.ref D, .ref b]) Q E s := by
  refine Classical.byContradiction fun hn1 => ?_
  obtain ⟨pre, post, rfl, rfl, a, c⟩ := U.split
  refine hn1 ?_
  have hm := N (D, listOf its n) (List.mem_append.mpr (.inr (.head _)))
  have hbo := (N _ hb).1
  refine call_meets PySem.F.slot_list_extend ⟨_, hm.1, rfl⟩ PySem.F.entry_list_extend (PySem.F.args_list_extend_2 _ _) (AutoSeq1.list_extend_list_list_0 D its n b its2 n2 (extend_door hsz) (Nat.le_trans (Nat.le_add_right _ _) hsz)) ⟨hm.1, hbo, ?_⟩
  refine h _ (F.change (Heap.SameBut.update ..) hm.2.1 hm.2.2) (news_set N a c (Heap.SameBut.update ..) ?_)
  exact Heap.get?_update_self _ hm.1 rfl
noncomputable def tryBody : Option Stmt → List Stmt
  | some (.Try b _ _ _ _) => b
  | _ => []
noncomputable def tryHand : Option Stmt → List ExceptHandler
  | some (.Try _ h _ _ _) => h
  | _ => []
noncomputable def whileBody : Option Stmt → List Stmt
  | some (.While _ b _ _) => b
  | _ => []
noncomputable def handBody : Option ExceptHandler → List Stmt
  | some (.ExceptHandler _ _ b _) => b
  | _ => []
noncomputable def sldTry : Option Stmt := (whileBody (stmtsAt 7)[3]?)[0]?
noncomputable def sldHand : List Stmt := handBody (tryHand sldTry)[0]?
theorem sldHand_ok : sldHand.length = 3 := by kernel_rfl
set_option maxHeartbeats 1000000 in
theorem sld_suite {w : World} {A : Around} {Q : Flow → Shared → Prop} {hp g : Heap} {gs : Array GenState} {d : Drawn} {tk : Nat} {os : OsState} {L L0 l1 l2 ml ul : Addr} {m : Str → Option Value} {vs us msV usV : List Value} {xs ys : List Str} {i j c1 c2 : Nat} {ti tj : Tok} {o0 : Obj} {mg mb : Str → Option Value}
    (X : (hd.heap_39 w.params).In g) (T : TopRead hd.view_39 loose mg mb g) (F : Fr g L hp m) (N : News g L hp [(ml, W.listOf msV.toArray c1), (ul, W.listOf usV.toArray c2), (L0, o0)]) (hne : @LT.lt Nat _ ml ul ∧ @LT.lt Nat _ L0 ml)
    (m1 : m (S "expected") = some (.ref l1)) (m2 : m (S "actual") = some (.ref l2)) (m3 : m (S "missing") = some (.ref ml)) (m4 : m (S "unexpected") = some (.ref ul)) (m5 : m (S "i") = some (.int (i : Int) ti)) (m6 : m (S "j") = some (.int (j : Int) tj))
    (hl1 : g.IsList l1 vs.toArray) (hI : StrsAre vs xs) (hl2 : g.IsList l2 us.toArray) (hJ : StrsAre us ys) (hx : xs.length ≤ 50) (hy : ys.length ≤ 50) (hm : msV.length ≤ 100) (hu : usV.length ≤ 100)
    (k : ∀ hp' tk' m' c1' c2', Fr g L hp' m' → News g L hp' [(ml, W.listOf (msV ++ vs.drop i).toArray c1'), (ul, W.listOf (usV ++ us.drop j).toArray c2'), (L0, o0)] → m' (S "missing") = some (.ref ml) → m' (S "unexpected") = some (.ref ul) → Q .brk ⟨hp', gs, d, tk', os⟩) :
    wpAny (model prg w) A (execs sldHand (sldEnv L)) Q NoE ⟨hp, gs, d, tk, os⟩ := by
  have e : sldHand = sldHand := rfl
  conv at e => rhs; whnf
  rw [e]
  clear e
  have hvl := hI.length
  have hul := hJ.length
  obtain ⟨n1, n2⟩ := hne
  replace F := Fr.know (Fr.know (Fr.know (Fr.know (Fr.know (Fr.know F m1) (x := S "actual") (v := .ref l2) (by rw [if_neg (by decide)]; exact m2)) (x := S "missing") (v := .ref ml) (by rw [if_neg (by decide), if_neg (by decide)]; exact m3)) (x := S "unexpected") (v := .ref ul) (by rw [if_neg (by decide), if_neg (by decide), if_neg (by decide)]; exact m4))
    (x := S "i") (v := .int (i : Int) ti) (by rw [if_neg (by decide), if_neg (by decide), if_neg (by decide), if_neg (by decide)]; exact m5)) (x := S "j") (v := .int (j : Int) tj) (by rw [if_neg (by decide), if_neg (by decide), if_neg (by decide), if_neg (by decide), if_neg (by decide)]; exact m6)
  have o1 : On "subscriptTail Name Slice ref ref" := ⟨⟩
  have o2 : On "call builtin:list.extend" := ⟨⟩
  walk_at "steps"
  refine Hold.mk ?_
  k_dflt (refine drop_slice (by k_asm) (by k_asm) (by kmk_list) ?_ (by with_unfolding_all rfl) (by kmk_pure) (by omega))
  intro D' h' F' N' l1
  (try k_lt l1)
  (try k_sweep)
  walk_at "steps"
  refine Hold.mk ?_
  k_dflt (refine extend_K (by k_asm) (by k_asm) (by k_mem) (by k_upd) ?_ (by simp only [List.size_toArray, List.length_drop]; unfold sizeLine; omega); k_whole)
  intro h' F' N'
  (try k_sweep)
  walk_at "steps"
  refine Hold.mk ?_
  k_dflt (refine drop_slice (by k_asm) (by k_asm) (by kmk_list) ?_ (by with_unfolding_all rfl) (by kmk_pure) (by omega))
  intro D' h' F' N' l1
  (try k_lt l1)
  (try k_sweep)
  walk_at "steps"
  refine Hold.mk ?_
  k_dflt (refine extend_K (by k_asm) (by k_asm) (by k_mem) (by k_upd) ?_ (by simp only [List.size_toArray, List.length_drop]; unfold sizeLine; omega); k_whole)
  intro h' F' N'
  (try k_sweep)
  walk_at "steps"
  (rename Fr _ _ _ _ => F'); (rename News _ _ _ _ => N')
  simp only [List.append_toArray] at N'
  exact k _ _ _ _ _ F' (News.sub N' (by walk_at "mem_all")) rfl rfl
end Mine
end
section
open PySem PySem.W PyProof.Rows PySem.Calls
set_option maxRecDepth 100000
namespace Mine
inductive BrkJ (h₀ : Heap) (L : Addr) (s : Shared) (J : Nat → (Str → Option Value) → List (Addr × Obj) → Prop) (n : Nat) (s' : Shared) : Prop
  | mk (h₁ : Heap) (tk₁ : Nat) (m₁ : Str → Option Value) (news₁ : List (Addr × Obj)) (e : s' = { s with heap := h₁, toks := tk₁ }) (F : Fr h₀ L h₁ m₁) (N : News h₀ L h₁ news₁) (j : J n m₁ news₁) : BrkJ h₀ L s J n s'
theorem While_brk {prog : Program} {w : World} {A : Around} {E : Value → Shared → Prop} {Q : Flow → Shared → Prop} {s : Shared} {env : Env} {h₀ : Heap} {L : Addr} {test : Expr} {body : List Stmt} {pos : Pos} {m : Str → Option Value} {news : List (Addr × Obj)} (J : Nat → (Str → Option Value) → List (Addr × Obj) → Prop) {n₀ : Nat}
    (F : Fr h₀ L s.heap m) (N : News h₀ L s.heap news) (hJ : J n₀ m news)
    (turn : ∀ n m₁ news₁ h₁ tk₁, Fr h₀ L h₁ m₁ → News h₀ L h₁ news₁ → J n m₁ news₁ →
      wpAny (model prog w) A (isTrue test env (eval test env)) (fun b s₂ => b = true ∧ wpAny (model prog w) A (execs body env) (fun f s₃ => match f with
        | .next => WhileStep h₀ L s J n .next s₃
        | .brk => Q .next s₃
        | _ => False) NoE s₂) NoE { s with heap := h₁, toks := tk₁ }) :
    wpAny (model prog w) A (exec (.While test body [] pos) env) Q E s := by
  refine wp_noE (wpAny_While (codeAny_whileLoop (BrkJ h₀ L s J) ?_ n₀ ⟨s.heap, s.toks, m, news, rfl, F, N, hJ⟩))
  rintro n s' ⟨h₁, tk₁, m₁, news₁, rfl, F₁, N₁, J₁⟩
  refine wp_noE (wpAny_mono (turn n m₁ news₁ h₁ tk₁ F₁ N₁ J₁) (fun b s₂ h₂ => ?_) fun _ _ e => e)
  refine Classical.byContradiction fun hn1 => ?_
  obtain ⟨rfl, h₂⟩ := h₂
  refine hn1 ?_
  simp only [if_true]
  refine wp_noE (wpAny_mono h₂ (fun f s₃ h₃ => ?_) fun _ _ e => e)
  cases f with
  | next =>
    refine Classical.byContradiction fun hn2 => ?_
    obtain ⟨-, h', tk, m₂, news₂, n', rfl, F₂, N₂, hn, J₂⟩ := h₃
    refine hn2 ?_
    exact ⟨n', hn, h', tk, m₂, news₂, rfl, F₂, N₂, J₂⟩
  | brk => exact h₃
  | cont => exact h₃.elim
  | ret v => exact h₃.elim
noncomputable abbrev sldCatch (np pos : Pos) : List ExceptHandler := [.ExceptHandler (some (.Name (S "IndexError") np)) none sldHand pos]
noncomputable abbrev SldE (w : World) (A : Around) (L : Addr) (np pos : Pos) (Q : Flow → Shared → Prop) (E : Value → Shared → Prop) (hs : List ExceptHandler) (e : Value) (s₁ : Shared) : Prop :=
  wpAny (model prg w) A (noteFrame e (sldEnv L)) (fun _ s₂ => wpAny (model prg w) A (setFlight e none) (fun _ s₃ => wpAny (model prg w) A (handleBy e (sldEnv L) hs) Q E s₃) E s₂) E s₁
noncomputable def SldFin (g : Heap) (L L0 ml ul : Addr) (o0 : Obj) (R : List Str × List Str) (gs : Array GenState) (d : Drawn) (os : OsState) (K : Shared → Prop) : Prop :=
  ∀ hp' tk' m' c1' c2' sl MS US, Fr g L hp' m' → News g L hp' [(ml, W.listOf (List.toArray MS) c1'), (ul, W.listOf (List.toArray US) c2'), (L0, { o0 with slots := sl })] → StrsAre MS R.1 → StrsAre US R.2 → m' (S "missing") = some (.ref ml) → m' (S "unexpected") = some (.ref ul) → K ⟨hp', gs, d, tk', os⟩
structure SldM (m : Str → Option Value) (l1 l2 ml ul : Addr) (i j : Nat) (ti tj : Tok) : Prop where
  m1 : m (S "expected") = some (.ref l1)
  m2 : m (S "actual") = some (.ref l2)
  m3 : m (S "missing") = some (.ref ml)
  m4 : m (S "unexpected") = some (.ref ul)
  m5 : m (S "i") = some (.int (i : Int) ti)
  m6 : m (S "j") = some (.int (j : Int) tj)
structure SldL (g : Heap) (l1 l2 : Addr) (vs us : List Value) (xs ys : List Str) (ml ul L0 : Addr) : Prop where
  hl1 : g.IsList l1 vs.toArray
  hI : StrsAre vs xs
  hl2 : g.IsList l2 us.toArray
  hJ : StrsAre us ys
  hx : xs.length ≤ 50
  hy : ys.length ≤ 50
  n1 : @LT.lt Nat _ ml ul
  n2 : @LT.lt Nat _ L0 ml
theorem StrsAre.drop : ∀ {vs : List Value} {xs : List Str}, StrsAre vs xs → ∀ k, StrsAre (vs.drop k) (xs.drop k)
  | _, _, h, 0 => h
  | _, _, .nil, _ + 1 => .nil
  | _, _, .cons _ _ h, k + 1 => StrsAre.drop h k
theorem StrsAre.app' : ∀ {vs us : List Value} {xs ys : List Str}, StrsAre vs xs → StrsAre us ys → StrsAre (vs ++ us) (xs ++ ys)
  | _, _, _, _, .nil, h => h
  | _, _, _, _, .cons _ _ h', h => .cons _ _ (StrsAre.app' h' h)
section
variable {w : World} {A : Around} {E : Value → Shared → Prop} {Q : Flow → Shared → Prop} {hp g : Heap} {gs : Array GenState} {d : Drawn} {tk : Nat} {os : OsState} {L L0 l1 l2 ml ul ea T : Addr} {m : Str → Option Value} {vs us msV usV : List Value} {xs ys ms uns : List Str} {i j c1 c2 : Nat} {ti tj : Tok} {o0 oe oT : Obj} {mg mb : Str → Option Value} {env0 : Env} {np pos : Pos} {c : Value} {R : List Str × List Str} {hs : List ExceptHandler}
theorem sld_handle {fl : Value} {sl : Array (Option Value)} (X : (hd.heap_39 w.params).In g) (Tr : TopRead hd.view_39 loose mg mb g) (SL : SldL g l1 l2 vs us xs ys ml ul L0) (M : SldM m l1 l2 ml ul i j ti tj) (hhs : hs = sldCatch np pos)
    (F : Fr g L hp m) (N : News g L hp [(T, oT), (ea, oe), (L0, { o0 with slots := sl }), (ml, W.listOf msV.toArray c1), (ul, W.listOf usV.toArray c2)]) (hne : ∀ p ∈ [(ea, oe), (L0, { o0 with slots := sl }), (ml, W.listOf msV.toArray c1), (ul, W.listOf usV.toArray c2)], p.1 ≠ T)
    (x : NotedOk oe "IndexError" T c) (tb : TbOk oT L fl) (hm : StrsAre msV ms) (hu : StrsAre usV uns) (zm : msV.length ≤ 100) (zu : usV.length ≤ 100) (hR : R = (ms ++ xs.drop i, uns ++ ys.drop j)) (fin : SldFin g L L0 ml ul o0 R gs d os (Q .brk)) :
    wpAny (model prg w) A (setFlight (.ref ea) none) (fun _ s₃ => wpAny (model prg w) A (handleBy (.ref ea) (sldEnv L) hs) Q E s₃) E ⟨hp, gs, d, tk, os⟩ := by
  subst hhs
  refine Classical.byContradiction fun hn1 => ?_
  obtain ⟨b0, suite, hb⟩ : ∃ b0 suite, sldHand = b0 :: suite := by
    have := sldHand_ok
    match h : sldHand, this with
    | b0 :: suite, _ => exact ⟨b0, suite, rfl⟩
  refine hn1 ?_
  have hX : nsIn (hd.heap_39 w.params) mainGlobals (S "IndexError") = some none := by k_is
  unfold sldCatch
  rw [hb]
  refine handle_led (X := "IndexError") (T' := "IndexError") F N hne x tb sub_IndexError_Base notTuple_IndexError (by rw [isSubtype_type]; kernel_rfl) (fun {Q E hp} F h => ?_) (fun hp' F' N' => ?_)
  · exact nameX_B F X Tr hX (by decide +kernel) (by decide +kernel) h (by kernel_rfl) (by kernel_rfl)
  rw [← hb]
  refine wp_noE ?_
  refine sld_suite (xs := xs) (ys := ys) (i := i) (j := j) X Tr F' (News.sub N' (l' := [(ml, W.listOf msV.toArray c1), (ul, W.listOf usV.toArray c2), (L0, { o0 with slots := sl })]) ?_) ⟨SL.n1, SL.n2⟩ M.m1 M.m2 M.m3 M.m4 M.m5 M.m6 SL.hl1 SL.hI SL.hl2 SL.hJ SL.hx SL.hy zm zu (fun hp2 tk2 m2 c1' c2' F2 N2 e1 e2 => ?_)
  · exact List.forall_mem_cons.mpr ⟨by k_memK, List.forall_mem_cons.mpr ⟨by k_memK, List.forall_mem_cons.mpr ⟨by k_memK, List.forall_mem_nil _⟩⟩⟩
  · exact fin hp2 tk2 m2 c1' c2' sl _ _ F2 N2 (by rw [hR]; exact StrsAre.app' hm (StrsAre.drop SL.hI i)) (by rw [hR]; exact StrsAre.app' hu (StrsAre.drop SL.hJ j)) e1 e2
theorem sld_noted {sl : Array (Option Value)} (X : (hd.heap_39 w.params).In g) (Tr : TopRead hd.view_39 loose mg mb g) (SL : SldL g l1 l2 vs us xs ys ml ul L0) (M : SldM m l1 l2 ml ul i j ti tj) (hhs : hs = sldCatch np pos)
    (F : Fr g L hp m) (N : News g L hp [(T, oT), (ea, oe), (L0, { o0 with slots := sl }), (ml, W.listOf msV.toArray c1), (ul, W.listOf usV.toArray c2)]) (hne : ∀ p ∈ [(ea, oe), (L0, { o0 with slots := sl }), (ml, W.listOf msV.toArray c1), (ul, W.listOf usV.toArray c2)], p.1 ≠ T)
    (x : NotedOk oe "IndexError" T c) (tb : TbOk oT L (rawInt L)) (hm : StrsAre msV ms) (hu : StrsAre usV uns) (zm : msV.length ≤ 100) (zu : usV.length ≤ 100) (hR : R = (ms ++ xs.drop i, uns ++ ys.drop j)) (fin : SldFin g L L0 ml ul o0 R gs d os (Q .brk)) :
    SldE w A L np pos Q E hs (.ref ea) ⟨hp, gs, d, tk, os⟩ :=
  note_again (s := ⟨hp, gs, d, tk, os⟩) rfl N (.tail _ (.head _)) (.head _) x tb (sld_handle X Tr SL M hhs F N hne x tb hm hu zm zu hR fin)
theorem sld_fresh (hfr : A.frames = some [sldEnv L, env0]) (hk0 : env0.scope.kind ≠ .module) (hf0 : env0.frame = some L0) (h0 : ∃ es ep, o0.data = .dict es ep) (X : (hd.heap_39 w.params).In g) (Tr : TopRead hd.view_39 loose mg mb g) (SL : SldL g l1 l2 vs us xs ys ml ul L0) (M : SldM m l1 l2 ml ul i j ti tj) (hhs : hs = sldCatch np pos)
    (F : Fr g L hp m) (N : News g L hp [(ea, oe), (ml, W.listOf msV.toArray c1), (ul, W.listOf usV.toArray c2), (L0, o0)]) (hne : ∀ p ∈ [(ml, W.listOf msV.toArray c1), (ul, W.listOf usV.toArray c2), (L0, o0)], p.1 ≠ ea)
    (x : ExcOk oe "IndexError" c) (hm : StrsAre msV ms) (hu : StrsAre usV uns) (zm : msV.length ≤ 100) (zu : usV.length ≤ 100) (hR : R = (ms ++ xs.drop i, uns ++ ys.drop j)) (fin : SldFin g L L0 ml ul o0 R gs d os (Q .brk)) :
    SldE w A L np pos Q E hs (.ref ea) ⟨hp, gs, d, tk, os⟩ := by
  have q1 := SL.n1
  have q2 := SL.n2
  refine Classical.byContradiction fun hn1 => ?_
  obtain ⟨xc, vx, xd, x1, x2⟩ := id x
  refine hn1 ?_
  have a1 : @Ne Nat ml ea := hne _ (.head _)
  have a2 : @Ne Nat ul ea := hne _ (.tail _ (.head _))
  have a3 : @Ne Nat L0 ea := hne _ (.tail _ (.tail _ (.head _)))
  refine note_first (new := [(ml, W.listOf msV.toArray c1), (ul, W.listOf usV.toArray c2)]) hfr (by kernel_rfl) rfl hk0 hf0 h0 F (News.sub N ?_) xd x1 ?_ (Ne.symm a3) (fun T oT sl hp' F' N' tb lt => ?_)
  · exact List.forall_mem_cons.mpr ⟨by k_memK, List.forall_mem_cons.mpr ⟨by k_memK, List.forall_mem_cons.mpr ⟨by k_memK, List.forall_mem_cons.mpr ⟨by k_memK, List.forall_mem_nil _⟩⟩⟩⟩
  · intro p hp
    rcases inL2 hp with rfl | rfl
    · exact ⟨a1, by intro q; have q : @Eq Nat ml L0 := q; lia⟩
    · exact ⟨a2, by intro q; have q : @Eq Nat ul L0 := q; lia⟩
  · have hT : ∀ p ∈ [(ea, oe), (L0, o0), (ml, W.listOf msV.toArray c1), (ul, W.listOf usV.toArray c2)], p.1 < T := AllLt.mem lt
    refine sld_handle X Tr SL M hhs F' N' (fun p hp => ?_) (x.noted T) tb hm hu zm zu hR fin
    rcases inL4 hp with rfl | rfl | rfl | rfl
    · exact Nat.ne_of_lt (hT (ea, oe) (by k_memK))
    · exact Nat.ne_of_lt (hT (L0, o0) (by k_memK))
    · exact Nat.ne_of_lt (hT (ml, _) (by k_memK))
    · exact Nat.ne_of_lt (hT (ul, _) (by k_memK))
end
end Mine
end
section
open PySem PySem.W PyProof.Rows PySem.Calls
set_option maxRecDepth 100000
namespace Mine
theorem isList_of {g h : Heap} {L l : Addr} {m : Str → Option Value} {vs : Array Value} (F : Fr g L h m) (hl : g.IsList l vs) : h.IsList l vs := by
  refine Classical.byContradiction fun hn1 => ?_
  obtain ⟨o, a, b, n, c⟩ := hl
  refine hn1 ?_
  exact ⟨o, F.keep _ _ a, b, n, c⟩
noncomputable def sldTryS : Stmt := match sldTry with
  | some t => t
  | none => .Pass default
noncomputable def sldGo (xs ys : List Str) : Nat → Nat → Nat → List Str → List Str → Option (List Str × List Str)
  | 0, _, _, _, _ => none
  | n + 1, i, j, ms, uns => match xs[i]?, ys[j]? with
    | some e, some a =>
      if e.cps.toList < a.cps.toList then sldGo xs ys n (skip xs e (i + 1)) j (ms ++ [e]) uns
      else if a.cps.toList < e.cps.toList then sldGo xs ys n i (skip ys a (j + 1)) ms (uns ++ [a])
      else sldGo xs ys n (skip xs e (i + 1)) (skip ys a (j + 1)) ms uns
    | _, _ => some (ms ++ xs.drop i, uns ++ ys.drop j)
theorem SldM.chain {l1 l2 ml ul : Addr} {m : Str → Option Value} {i j : Nat} {ti tj : Tok} (M : SldM m l1 l2 ml ul i j ti tj) :
    (fun y => if y = S "j" then some (Value.int (j : Int) tj) else if y = S "i" then some (Value.int (i : Int) ti) else if y = S "unexpected" then some (Value.ref ul) else if y = S "missing" then some (Value.ref ml) else if y = S "actual" then some (Value.ref l2) else if y = S "expected" then some (Value.ref l1) else m y) = m := by
  funext y
  split
  · next q => rw [q]; exact M.m6.symm
  split
  · next q => rw [q]; exact M.m5.symm
  split
  · next q => rw [q]; exact M.m4.symm
  split
  · next q => rw [q]; exact M.m3.symm
  split
  · next q => rw [q]; exact M.m2.symm
  split
  · next q => rw [q]; exact M.m1.symm
  rfl
theorem SldM.knowA {g hp : Heap} {L l1 l2 ml ul : Addr} {m : Str → Option Value} {i j : Nat} {ti tj : Tok} {v : Value} (M : SldM m l1 l2 ml ul i j ti tj) (F : Fr g L hp m) (ma : m (S "a") = some v) :
    Fr g L hp (fun y => if y = S "a" then some v else if y = S "j" then some (Value.int (j : Int) tj) else if y = S "i" then some (Value.int (i : Int) ti) else if y = S "unexpected" then some (Value.ref ul) else if y = S "missing" then some (Value.ref ml) else if y = S "actual" then some (Value.ref l2) else if y = S "expected" then some (Value.ref l1) else m y) :=
  Eq.mp (congrArg (fun f : Str → Option Value => Fr g L hp fun y => if y = S "a" then some v else f y) M.chain.symm) (Fr.know F ma)
theorem SldM.set_i {l1 l2 ml ul : Addr} {m m' : Str → Option Value} {i i' j : Nat} {ti ti' tj : Tok} (M : SldM m l1 l2 ml ul i j ti tj) (ag : ∀ y, y ≠ S "i" → m' y = m y) (mi : m' (S "i") = some (.int ((i' : Nat) : Int) ti')) : SldM m' l1 l2 ml ul i' j ti' tj :=
  ⟨(ag _ (by decide)).trans M.m1, (ag _ (by decide)).trans M.m2, (ag _ (by decide)).trans M.m3, (ag _ (by decide)).trans M.m4, mi, (ag _ (by decide)).trans M.m6⟩
theorem SldM.set_j {l1 l2 ml ul : Addr} {m m' : Str → Option Value} {i j j' : Nat} {ti tj tj' : Tok} (M : SldM m l1 l2 ml ul i j ti tj) (ag : ∀ y, y ≠ S "j" → m' y = m y) (mj : m' (S "j") = some (.int ((j' : Nat) : Int) tj')) : SldM m' l1 l2 ml ul i j' ti tj' :=
  ⟨(ag _ (by decide)).trans M.m1, (ag _ (by decide)).trans M.m2, (ag _ (by decide)).trans M.m3, (ag _ (by decide)).trans M.m4, (ag _ (by decide)).trans M.m5, mj⟩
theorem len_snoc {α : Type} {l : List α} {x : α} {k n : Nat} (h : l.length ≤ k) (hk : k + 1 ≤ n) : (l ++ [x]).length ≤ n := by
  rw [List.length_append]; exact Nat.le_trans (Nat.succ_le_succ h) hk
theorem sldGo_end {xs ys : List Str} {n i j : Nat} {ms uns : List Str} {R : List Str × List Str} (h : sldGo xs ys n i j ms uns = some R) (he : xs.length ≤ i ∨ ys.length ≤ j) : R = (ms ++ xs.drop i, uns ++ ys.drop j) := by
  cases n with
  | zero => cases h
  | succ n =>
    unfold sldGo at h
    split at h
    · next q1 q2 =>
      have a := (List.getElem?_eq_some_iff.mp q1).1
      have b := (List.getElem?_eq_some_iff.mp q2).1
      lia
    · exact (Option.some.inj h).symm
theorem skipE_ge {xs : List Str} {e : Str} : ∀ f i, i ≤ skipE xs e f i
  | 0, i => Nat.le_refl i
  | f + 1, i => by
    unfold skipE
    split
    · exact Nat.le_trans (Nat.le_succ i) (skipE_ge f (i + 1))
    · exact Nat.le_refl i
theorem skip_ge {xs : List Str} {e : Str} (i : Nat) : i ≤ skip xs e i := skipE_ge _ _
theorem skipE_le {xs : List Str} {e : Str} : ∀ f i, skipE xs e f i ≤ f + i
  | 0, i => by unfold skipE; lia
  | f + 1, i => by
    unfold skipE
    split
    · have := @skipE_le xs e f (i + 1); lia
    · lia
theorem skip_le {xs : List Str} {e : Str} {i : Nat} (h : i ≤ xs.length) : skip xs e i ≤ xs.length := by
  have := @skipE_le xs e (xs.length - i) i
  unfold skip
  lia
theorem sldGo_lt {xs ys : List Str} {n i j : Nat} {ms uns : List Str} {R : List Str × List Str} {e a : Str} (h : sldGo xs ys (n + 1) i j ms uns = some R) (hx : xs[i]? = some e) (hy : ys[j]? = some a) (c : e.cps.toList < a.cps.toList) : sldGo xs ys n (skip xs e (i + 1)) j (ms ++ [e]) uns = some R := by
  rw [sldGo, hx, hy] at h; dsimp only at h; rwa [if_pos c] at h
theorem sldGo_gt {xs ys : List Str} {n i j : Nat} {ms uns : List Str} {R : List Str × List Str} {e a : Str} (h : sldGo xs ys (n + 1) i j ms uns = some R) (hx : xs[i]? = some e) (hy : ys[j]? = some a) (c0 : ¬ e.cps.toList < a.cps.toList) (c : a.cps.toList < e.cps.toList) : sldGo xs ys n i (skip ys a (j + 1)) ms (uns ++ [a]) = some R := by
  rw [sldGo, hx, hy] at h; dsimp only at h; rwa [if_neg c0, if_pos c] at h
theorem sldGo_eq {xs ys : List Str} {n i j : Nat} {ms uns : List Str} {R : List Str × List Str} {e a : Str} (h : sldGo xs ys (n + 1) i j ms uns = some R) (hx : xs[i]? = some e) (hy : ys[j]? = some a) (c0 : ¬ e.cps.toList < a.cps.toList) (c : ¬ a.cps.toList < e.cps.toList) : sldGo xs ys n (skip xs e (i + 1)) (skip ys a (j + 1)) ms uns = some R := by
  rw [sldGo, hx, hy] at h; dsimp only at h; rwa [if_neg c0, if_neg c] at h
set_option maxHeartbeats 1000000 in
theorem sld_turn {w : World} {A : Around} {Q : Flow → Shared → Prop} {hp g : Heap} {gs : Array GenState} {d : Drawn} {tk : Nat} {os : OsState} {L L0 l1 l2 ml ul : Addr} {m : Str → Option Value} {vs us msV usV : List Value} {xs ys ms uns : List Str} {n i j c1 c2 : Nat} {ti tj : Tok} {o0 : Obj} {mg mb : Str → Option Value} {env0 : Env} {R : List Str × List Str}
    (hfr : A.frames = some [sldEnv L, env0]) (hhd : A.handled = none) (hk0 : env0.scope.kind ≠ .module) (hf0 : env0.frame = some L0) (h0 : ∃ es ep, o0.data = .dict es ep) (X : (hd.heap_39 w.params).In g) (T : TopRead hd.view_39 loose mg mb g) (SL : SldL g l1 l2 vs us xs ys ml ul L0)
    (F : Fr g L hp m) (N : News g L hp [(ml, W.listOf msV.toArray c1), (ul, W.listOf usV.toArray c2), (L0, o0)]) (M : SldM m l1 l2 ml ul i j ti tj) (hm : StrsAre msV ms) (hu : StrsAre usV uns) (hi : i ≤ xs.length) (hj : j ≤ ys.length) (zm : ms.length ≤ i) (zu : uns.length ≤ j)
    (hgo : sldGo xs ys (n + 1) i j ms uns = some R) (fin : SldFin g L L0 ml ul o0 R gs d os (Q .brk))
    (step : ∀ hp' tk' m' msV' usV' c1' c2' ms' uns' i' j' ti' tj', Fr g L hp' m' → News g L hp' [(ml, W.listOf (List.toArray msV') c1'), (ul, W.listOf (List.toArray usV') c2'), (L0, o0)] → SldM m' l1 l2 ml ul i' j' ti' tj' → StrsAre msV' ms' → StrsAre usV' uns' → i' ≤ xs.length → j' ≤ ys.length → ms'.length ≤ i' → uns'.length ≤ j' → sldGo xs ys n i' j' ms' uns' = some R → Q .next ⟨hp', gs, d, tk', os⟩) :
    wpAny (model prg w) A (exec sldTryS (sldEnv L)) Q NoE ⟨hp, gs, d, tk, os⟩ := by
  have o3 : On "exec While Compare cons nil" := ⟨⟩
  have o5 : On "subscriptTail Name Name ref int" := ⟨⟩
  have e : sldTryS = sldTryS := rfl
  conv at e => rhs; whnf
  rw [e]
  clear e
  have hvl := SL.hI.length
  have hul := SL.hJ.length
  have hml := hm.length
  have hnl := hu.length
  have n1 := SL.n1
  have n2 := SL.n2
  have hx := SL.hx
  have hy := SL.hy
  have m50 : msV.length ≤ 50 := by rw [hml]; exact Nat.le_trans zm (Nat.le_trans hi hx)
  have u50 : usV.length ≤ 50 := by rw [hnl]; exact Nat.le_trans zu (Nat.le_trans hj hy)
  have m100 : msV.length ≤ 100 := Nat.le_trans m50 (by decide)
  have u100 : usV.length ≤ 100 := Nat.le_trans u50 (by decide)
  replace F := Eq.mp (congrArg (Fr g L hp) M.chain.symm) F
  have hl1 := SL.hl1
  have hl2 := SL.hl2
  refine wpAny_Try_except ?_
  refine hideE fun E0 hE0 => ?_
  by_cases hlt : i < xs.length
  · obtain ⟨u, hvi⟩ : ∃ u, vs[i]? = some u := ⟨_, List.getElem?_eq_getElem (hvl ▸ hlt)⟩
    refine Classical.byContradiction fun hn1 => ?_
    obtain ⟨x, tx, hxi, rfl⟩ := Mine.StrsAre.item SL.hI hvi
    refine hn1 ?_
    by_cases hlt2 : j < ys.length
    · obtain ⟨u', hvj⟩ : ∃ u, us[j]? = some u := ⟨_, List.getElem?_eq_getElem (hul ▸ hlt2)⟩
      refine Classical.byContradiction fun hn2 => ?_
      obtain ⟨y, ty, hyj, rfl⟩ := Mine.StrsAre.item SL.hJ hvj
      refine hn2 ?_
      have gi := skip_ge (xs := xs) (e := x) (i + 1)
      have gj := skip_ge (xs := ys) (e := y) (j + 1)
      have zi := skip_le (xs := xs) (e := x) (i := i + 1) hlt
      have zj := skip_le (xs := ys) (e := y) (i := j + 1) hlt2
      walk_at "steps"
      refine Hold.mk ?_
      refine item_vs (by kmk_list) (by assumption) (by omega) ?_
      walk_at "steps"
      refine Hold.mk ?_
      refine item_vs (by kmk_list) (by assumption) (by omega) ?_
      walk_at "steps"
      all_goals ((rename Fr _ _ _ _ => F'); (rename News _ _ _ _ => N'))
      · have hg := sldGo_lt hgo hxi hyj (by assumption)
        have hm' : StrsAre (msV ++ [Value.str x tx]) (ms ++ [x]) := StrsAre.app' hm (.cons _ _ .nil)
        rw [List.push_toArray] at N'
        refine Hold.mk (inner1 (i := i + 1) X T F' N' (.inl ⟨hhd, rfl⟩) rfl rfl rfl hl1 SL.hI hx hlt (fun hp' tk' m' ti' F2 N2 ag mi hs => ?_) (fun ea oe hp' tk' m' ti' F2 N2 x1 x2 ag mi hs => ?_) (hE0 ▸ PassesOwn.looking))
        · have M2 : SldM m' l1 l2 ml ul (skip xs x (i + 1)) j ti' tj := SldM.set_i ⟨rfl, rfl, rfl, rfl, rfl, rfl⟩ ag mi
          clear F' N'
          walk_at "steps"
          exact step _ _ _ _ _ _ _ _ _ _ _ _ _ F2 N2 M2 hm' hu zi hj (len_snoc zm gi) zu hg
        · have M2 : SldM m' l1 l2 ml ul (skip xs x (i + 1)) j ti' tj := SldM.set_i ⟨rfl, rfl, rfl, rfl, rfl, rfl⟩ ag mi
          exact eqE hE0 (sld_fresh hfr hk0 hf0 h0 X T SL M2 rfl F2 N2 x2 x1 hm' hu (len_snoc m50 (by decide)) u100 (sldGo_end hg (.inl (Nat.le_of_eq hs.symm))) fin)
      · have hg := sldGo_gt hgo hxi hyj (by assumption) (by assumption)
        have hu' : StrsAre (usV ++ [Value.str y ty]) (uns ++ [y]) := StrsAre.app' hu (.cons _ _ .nil)
        rw [List.push_toArray] at N'
        replace N' := News.sub N' (l' := [(ml, W.listOf msV.toArray c1), (ul, W.listOf (usV ++ [Value.str y ty]).toArray (c2 + 1)), (L0, o0)]) (by walk_at "mem_all")
        refine Hold.mk (inner2 (i := j + 1) X T F' N' (.inl ⟨hhd, rfl⟩) rfl rfl rfl hl2 SL.hJ hy hlt2 (fun hp' tk' m' ti' F2 N2 ag mi hs => ?_) (fun ea oe hp' tk' m' ti' F2 N2 x1 x2 ag mi hs => ?_) (hE0 ▸ PassesOwn.looking))
        · have M2 : SldM m' l1 l2 ml ul i (skip ys y (j + 1)) ti ti' := SldM.set_j ⟨rfl, rfl, rfl, rfl, rfl, rfl⟩ ag mi
          clear F' N'
          walk_at "steps"
          exact step _ _ _ _ _ _ _ _ _ _ _ _ _ F2 N2 M2 hm hu' hi zj zm (len_snoc zu gj) hg
        · have M2 : SldM m' l1 l2 ml ul i (skip ys y (j + 1)) ti ti' := SldM.set_j ⟨rfl, rfl, rfl, rfl, rfl, rfl⟩ ag mi
          exact eqE hE0 (sld_fresh hfr hk0 hf0 h0 X T SL M2 rfl F2 N2 x2 x1 hm hu' m100 (len_snoc u50 (by decide)) (sldGo_end hg (.inr (Nat.le_of_eq hs.symm))) fin)
      · have hg := sldGo_eq hgo hxi hyj (by assumption) (by assumption)
        refine Hold.mk (inner1 (i := i + 1) X T F' N' (.inl ⟨hhd, rfl⟩) rfl rfl rfl hl1 SL.hI hx hlt (fun hp' tk' m' ti' F2 N2 ag mi hs => ?_) (fun ea oe hp' tk' m' ti' F2 N2 x1 x2 ag mi hs => ?_) (hE0 ▸ PassesOwn.looking))
        · have M2 : SldM m' l1 l2 ml ul (skip xs x (i + 1)) j ti' tj := SldM.set_i ⟨rfl, rfl, rfl, rfl, rfl, rfl⟩ ag mi
          have ma : m' (S "a") = some (.str y ty) := (ag _ (by decide)).trans rfl
          replace F2 := M2.knowA F2 ma
          clear F' N'
          walk_at "steps"
          (rename Fr _ _ _ _ => F'); (rename News _ _ _ _ => N')
          refine Hold.mk (wpAny_passesOwn (hE0 ▸ PassesOwn.looking) (inner2 (i := j + 1) X T F' N' (.inl ⟨hhd, rfl⟩) rfl rfl rfl hl2 SL.hJ hy hlt2 (fun hp' tk' m' ti2 F3 N3 ag mi hs => ?_) (fun ea oe hp' tk' m' ti2 F3 N3 x1 x2 ag mi hs => ?_) (hE0 ▸ PassesOwn.looking)))
          · have M3 : SldM m' l1 l2 ml ul (skip xs x (i + 1)) (skip ys y (j + 1)) ti' ti2 := SldM.set_j ⟨rfl, rfl, rfl, rfl, rfl, rfl⟩ ag mi
            clear F' N'
            walk_at "steps"
            exact step _ _ _ _ _ _ _ _ _ _ _ _ _ F3 N3 M3 hm hu zi zj (Nat.le_trans zm (Nat.le_of_succ_le gi)) (Nat.le_trans zu (Nat.le_of_succ_le gj)) hg
          · have M3 : SldM m' l1 l2 ml ul (skip xs x (i + 1)) (skip ys y (j + 1)) ti' ti2 := SldM.set_j ⟨rfl, rfl, rfl, rfl, rfl, rfl⟩ ag mi
            exact eqE hE0 (sld_fresh hfr hk0 hf0 h0 X T SL M3 rfl F3 N3 x2 x1 hm hu m100 u100 (sldGo_end hg (.inr (Nat.le_of_eq hs.symm))) fin)
        · have M2 : SldM m' l1 l2 ml ul (skip xs x (i + 1)) j ti' tj := SldM.set_i ⟨rfl, rfl, rfl, rfl, rfl, rfl⟩ ag mi
          have ma : m' (S "a") = some (.str y ty) := (ag _ (by decide)).trans rfl
          replace F2 := M2.knowA F2 ma
          clear F' N'
          refine Classical.byContradiction fun hn3 => ?_
          obtain ⟨xc, vx, xd, y1, y2⟩ := id x1
          refine hn3 ?_
          have a1 : @Ne Nat ml ea := x2 _ (.head _)
          have a2 : @Ne Nat ul ea := x2 _ (.tail _ (.head _))
          have a3 : @Ne Nat L0 ea := x2 _ (.tail _ (.tail _ (.head _)))
          refine note_first (new := [(ml, W.listOf msV.toArray c1), (ul, W.listOf usV.toArray c2)]) hfr (by kernel_rfl) rfl hk0 hf0 h0 F2 (News.sub N2 (by walk_at "mem_all")) xd y1 ?_ (Ne.symm a3) (fun T' oT sl hp3 F3 N3 tb lt => ⟨ref_ne_byPass _, ?_⟩)
          · exact List.forall_mem_cons.mpr ⟨⟨a1, Nat.ne_of_gt n2⟩, List.forall_mem_cons.mpr ⟨⟨a2, Nat.ne_of_gt (Nat.lt_trans n2 n1)⟩, List.forall_mem_nil _⟩⟩
          have hT : ∀ p ∈ [(ea, oe), (L0, o0), (ml, W.listOf msV.toArray c1), (ul, W.listOf usV.toArray c2)], p.1 < T' := AllLt.mem lt
          have hne : ∀ p ∈ [(ea, oe.mapFields (·.setIfInBounds 1 (.ref T'))), (L0, { o0 with slots := sl }), (ml, W.listOf msV.toArray c1), (ul, W.listOf usV.toArray c2)], p.1 ≠ T' := List.forall_mem_cons.mpr ⟨Nat.ne_of_lt (hT (ea, oe) (.head _)), List.forall_mem_cons.mpr ⟨Nat.ne_of_lt (hT (L0, o0) (.tail _ (.head _))), fun p hp => Nat.ne_of_lt (hT p (.tail _ (.tail _ hp)))⟩⟩
          refine note_again (s := ⟨hp3, gs, d, tk', os⟩) rfl N3 (.tail _ (.head _)) (.head _) (x1.noted T') tb ?_
          refine flight_led none F3 N3 (.head _) hne (x1.noted T') tb (fun oT' hp4 F4 N4 tb4 => wpAny_passesOwnAt (hE0 ▸ PassesOwnAt.looking) ?_)
          clear F3 N3 F2 N2
          refine Classical.byContradiction fun hn4 => ?_
          obtain ⟨xc', vx', xd', z1, z2⟩ := id (x1.noted T')
          refine hn4 ?_
          generalize oe.mapFields (·.setIfInBounds 1 (.ref T')) = oe' at *
          walk_at "steps"
          (rename Fr _ _ _ _ => F'); (rename News _ _ _ _ => N')
          refine Hold.mk (inner2 (i := j + 1) X T F' N' (.inr ⟨ea, oe', vx', rfl, rfl, by simp, xd', z2⟩) rfl rfl rfl hl2 SL.hJ hy hlt2 (fun hp' tk' m' ti2 F3 N3 ag mi hs => ?_) (fun ea2 oe2 hp' tk' m' ti2 F3 N3 x1 x2 ag mi hs => ?_) (hE0 ▸ PassesOwnAt.lookingOf (SameStack.mark A _)))
          · have M3 : SldM m' l1 l2 ml ul (skip xs x (i + 1)) (skip ys y (j + 1)) ti' ti2 := SldM.set_j ⟨rfl, rfl, rfl, rfl, rfl, rfl⟩ ag mi
            clear F' N'
            refine wpAny_execs_nil ?_
            unfold PySem.passOn
            refine wpAny_bind (wpAny_field (N3 (ea, oe') (by first | k_mem | simp)).1 xd' z1 ?_)
            rw [if_neg (by first | k_mem | simp)]
            refine wpAny_bind (flight_led (some L) F3 N3 (.head _) hne ⟨xc', vx', xd', z1, z2⟩ tb4 (fun oT2 hp5 F5 N5 tb5 => wpAny_throw ?_))
            exact eqE hE0 (sld_noted (o0 := o0) X T SL M3 rfl F5 N5 hne ⟨xc', vx', xd', z1, z2⟩ tb5 hm hu m100 u100 (sldGo_end hg (.inl (by lia))) fin)
          · have M3 : SldM m' l1 l2 ml ul (skip xs x (i + 1)) (skip ys y (j + 1)) ti' ti2 := SldM.set_j ⟨rfl, rfl, rfl, rfl, rfl, rfl⟩ ag mi
            exact eqE hE0 (sld_fresh (o0 := { o0 with slots := sl }) hfr hk0 hf0 h0 X T SL M3 rfl F3 (News.sub N3 (by walk_at "mem_all")) (fun p hp => x2 p (by rcases inL3 hp with rfl | rfl | rfl <;> k_memK)) x1 hm hu m100 u100 (sldGo_end hg (.inl (by lia))) fin)
    · walk_at "steps"
      refine Hold.mk ?_
      refine item_vs (by kmk_list) (by assumption) (by omega) ?_
      walk_at "steps"
      (rename Fr _ _ _ _ => F'); (rename News _ _ _ _ => N')
      refine Hold.mk (index_out (vs := us) (.inl ⟨hhd, rfl⟩) F' N' (isList_of F' hl2) (by lia) (by lia) (fun ea oe hp' tk' F2 N2 x1 x2 => ?_))
      exact eqE hE0 (sld_fresh hfr hk0 hf0 h0 X T SL ⟨rfl, rfl, rfl, rfl, rfl, rfl⟩ rfl F2 N2 x2 x1 hm hu m100 u100 (sldGo_end hgo (.inr (Nat.le_of_not_lt hlt2))) fin)
  · walk_at "steps"
    (rename Fr _ _ _ _ => F'); (rename News _ _ _ _ => N')
    refine Hold.mk (index_out (vs := vs) (.inl ⟨hhd, rfl⟩) F' N' (isList_of F' hl1) (by lia) (by lia) (fun ea oe hp' tk' F2 N2 x1 x2 => ?_))
    exact eqE hE0 (sld_fresh hfr hk0 hf0 h0 X T SL ⟨rfl, rfl, rfl, rfl, rfl, rfl⟩ rfl F2 N2 x2 x1 hm hu m100 u100 (sldGo_end hgo (.inl (Nat.le_of_not_lt hlt))) fin)
end Mine
end
section
open PySem PySem.W PyProof.Rows PySem.Calls
set_option maxRecDepth 100000
namespace Mine
inductive SldJ (l1 l2 ml ul L0 : Addr) (o0 : Obj) (xs ys : List Str) (R : List Str × List Str) (k : Nat) (m₁ : Str → Option Value) (nx : List (Addr × Obj)) : Prop
  | mk (i j : Nat) (ti tj : Tok) (msV usV : List Value) (c1 c2 : Nat) (ms uns : List Str) (M : SldM m₁ l1 l2 ml ul i j ti tj) (e : nx = [(ml, W.listOf (List.toArray msV) c1), (ul, W.listOf (List.toArray usV) c2), (L0, o0)]) (hm : StrsAre msV ms) (hu : StrsAre usV uns) (hi : i ≤ xs.length) (hj : j ≤ ys.length) (zm : ms.length ≤ i) (zu : uns.length ≤ j) (hgo : sldGo xs ys k i j ms uns = some R) : SldJ l1 l2 ml ul L0 o0 xs ys R k m₁ nx
set_option maxHeartbeats 1000000 in
theorem sld_loop {w : World} {A : Around} {Q : Flow → Shared → Prop} {hp g : Heap} {gs : Array GenState} {d : Drawn} {tk : Nat} {os : OsState} {L L0 l1 l2 ml ul : Addr} {m : Str → Option Value} {vs us : List Value} {xs ys : List Str} {n : Nat} {ti tj : Tok} {o0 : Obj} {mg mb : Str → Option Value} {env0 : Env} {R : List Str × List Str} {p1 p2 : Pos}
    (hfr : A.frames = some [sldEnv L, env0]) (hhd : A.handled = none) (hk0 : env0.scope.kind ≠ .module) (hf0 : env0.frame = some L0) (h0 : ∃ es ep, o0.data = .dict es ep) (X : (hd.heap_39 w.params).In g) (T : TopRead hd.view_39 loose mg mb g) (SL : SldL g l1 l2 vs us xs ys ml ul L0)
    (F : Fr g L hp m) (N : News g L hp [(ml, W.listOf #[] 0), (ul, W.listOf #[] 0), (L0, o0)]) (M : SldM m l1 l2 ml ul 0 0 ti tj) (hR : sldGo xs ys n 0 0 [] [] = some R) (fin : SldFin g L L0 ml ul o0 R gs d os (Q .next)) :
    wpAny (model prg w) A (exec (.While (.Constant (.bool true) 0 p1) [sldTryS] [] p2) (sldEnv L)) Q NoE ⟨hp, gs, d, tk, os⟩ := by
  refine While_brk (L := L) (h₀ := g) (SldJ l1 l2 ml ul L0 o0 xs ys R) (n₀ := n) F N ⟨0, 0, ti, tj, [], [], 0, 0, [], [], M, rfl, .nil, .nil, Nat.zero_le _, Nat.zero_le _, Nat.zero_le _, Nat.zero_le _, hR⟩ ?turn
  clear F N M hR
  rintro k m₁ nx h₁ tk₁ F N ⟨i, j, ti, tj, msV, usV, c1, c2, ms, uns, M, rfl, hm, hu, hi, hj, zm, zu, hgo⟩
  cases k with
  | zero => cases hgo
  | succ k =>
    walk_at "steps"
    refine sld_turn hfr hhd hk0 hf0 h0 X T SL F N M hm hu hi hj zm zu hgo fin (fun hp' tk' m' msV' usV' c1' c2' ms' uns' i' j' ti' tj' F' N' M' hm' hu' hi' hj' zm' zu' hgo' => ?_)
    refine wpAny_execs_nil ?_
    exact WhileStep.intro (n' := k) F' N' (Nat.lt_succ_self k) ⟨i', j', ti', tj', msV', usV', c1', c2', ms', uns', M', rfl, hm', hu', hi', hj', zm', zu', hgo'⟩
set_option maxHeartbeats 1000000 in
theorem sld_spec {w : World} {A : Around} {env0 : Env} {s : Shared} {mg mb : Str → Option Value} {hb : Heap} {L0 : Addr} {o0 : Obj} {l1 l2 : Addr} {vs us : List Value} {n1 n2 : Nat} {xs ys : List Str} {n : Nat} {R : List Str × List Str} (tp : Tops w mg mb hb) (lx : LedIn hb s.heap [(L0, o0)]) (hA : A.depth + 10 < recursionLimit) (hu : A.units + 100 < cLine) (hh : A.handled = none) (hfr : A.frames = some [env0]) (hk0 : env0.scope.kind ≠ .module) (hf0 : env0.frame = some L0) (h0 : ∃ es ep, o0.data = .dict es ep)
    (h1 : hb.get? l1 = some (W.listOf vs.toArray n1)) (hI : StrsAre vs xs) (h2 : hb.get? l2 = some (W.listOf us.toArray n2)) (hJ : StrsAre us ys) (hx : xs.length ≤ 50) (hy : ys.length ≤ 50) (hR : sldGo xs ys n 0 0 [] [] = some R) :
    GivesM w A 79 [.ref l1, .ref l2] s [L0] (fun v new => (∃ sl, (L0, { o0 with slots := sl }) ∈ new) ∧ DatIn new v (.tuple [.list (R.1.map Dat.str), .list (R.2.map Dat.str)])) := by
  have o1 : On "exec While" := ⟨⟩
  obtain ⟨A, rfl⟩ : ∃ A0 : Around, A = { A0 with handled := none, frames := some [env0] } := ⟨A, by cases A; cases hh; cases hfr; rfl⟩
  dsimp only at hA hu
  refine givesM_of_frame (led := [(L0, o0)]) tp lx (by show A.depth < _; lia) (lx.keep _ _ (tp.X _ _ (by k_is))) rfl ((codeRec_of tp.X (by k_is)).keeps lx.keep) (BindsTo.of_eq rfl) (locs rfl) (fun g L h₁ tpg hkg hLs F N => ?_) (by decide) (by rfl) (by rfl) (by rfl)
  obtain ⟨X, T⟩ := tpg
  walk_at "steps"
  (rename Fr _ _ _ _ => F'); (rename News _ _ _ _ => N')
  have hl1 : g.IsList l1 vs.toArray := ⟨_, hkg _ _ h1, rfl, _, rfl⟩
  have hl2 : g.IsList l2 us.toArray := ⟨_, hkg _ _ h2, rfl, _, rfl⟩
  refine Hold.mk (sld_loop (A := ({ A with handled := none, frames := some [env0] } : Around).deeper (sldEnv L)) rfl rfl hk0 hf0 h0 X T ⟨hl1, hI, hl2, hJ, hx, hy, And.left (by assumption), by assumption⟩ F' (News.sub N' (by walk_at "mem_all")) ⟨rfl, rfl, rfl, rfl, rfl, rfl⟩ hR (fun hp' tk' m' c1' c2' sl MS US F2 N2 e1 e2 g1 g2 => ?_))
  clear F' N'
  replace F2 := Fr.know (Fr.know F2 g1) (x := S "unexpected") (by rw [if_neg (by decide)]; exact g2)
  walk_at "steps"
  (rename Fr _ _ _ _ => F'); (rename News _ _ _ _ => N')
  refine EndM.mk F' N' (fun _ h => h) ⟨⟨sl, by simp⟩, DatIn.tuple (.head _) (.cons (DatIn.list (vs := MS) (.tail _ (.head _)) (StrsAre.dat' e1)) (.cons (DatIn.list (vs := US) (.tail _ (.tail _ (.head _))) (StrsAre.dat' e2)) .nil))⟩
end Mine
end
section
open PySem PySem.W PyProof.Rows PySem.Calls PySem.MeetsSeq PySem.SeqAt
set_option maxRecDepth 100000
namespace Mine
theorem remove_loopAt (l : Addr) (items : Array Value) (n : Nat) (x : Value) (e : Value → Bool) (j : Nat) (hj : j < items.size) (hit : e items[j] = true) (k : Nat) (hs1 : items.size ≤ sizeLine) :
    ∀ i : Nat, j - i = k → i ≤ j → (∀ m (hm : m < items.size), i ≤ m → m < j → e items[m] = false) → Meets (Builtin.«list.remove.loop» ⟨[.ref l, x, rawInt i], []⟩)
      (fun A R s => s.heap.get? l = some { cls := .type "list", dict := none, data := .seq items n, slots := #[] } ∧ (∀ y, y ∈ items → EqAt A.in1 s y x (e y)) ∧ R (.ok (.ret .none)) { s with heap := s.heap.update l (Obj.mapSeq fun xs => xs.eraseIdxIfInBounds j) }) := by
  induction k with
  | zero =>
    intro i hk hij hno prog w A R s h
    obtain ⟨hp, g, d, tk, os⟩ := s; obtain ⟨hl, he, h⟩ := h
    have hij' : i = j := by lia
    subst hij'
    wp_walk using wpAny_loadPart' hl
    have hi : items[((i : Nat) : Int).toNat]? = some items[i] := by simp [hj]
    rw [hi]
    refine wpAny_bind (he _ (Array.getElem_mem hj) prog w _ _ ?_)
    rw [hit]
    have hz' : (items.eraseIdxIfInBounds i).size ≤ sizeLine + 1 := Nat.le_trans (size_erased items _) (Nat.le_succ_of_le hs1)
    wp_walk using (wpAny_updateSeq hl rfl (hz := hs1) (_hz' := hz')), wpAny_loadPart' hl
    simpa using h
  | succ k ih =>
    intro i hk hij hno prog w A R s h
    obtain ⟨hp, g, d, tk, os⟩ := s; obtain ⟨hl, he, h⟩ := h
    have hlt : i < items.size := by lia
    wp_walk using wpAny_loadPart' hl
    have hi : items[((i : Nat) : Int).toNat]? = some items[i] := by simp [hlt]
    have hc : ((i : Int) + 1) = ((i + 1 : Nat) : Int) := by push_cast; rfl
    rw [hi]
    refine wpAny_bind (he _ (Array.getElem_mem hlt) prog w _ _ ?_)
    rw [hno i hlt (Nat.le_refl _) (by lia)]
    wp_walk
    rw [hc]
    exact ⟨plainId_quiet plain_remove_loop _, codeAny_builtin entry_remove_loop (by
      rw [Around.under_plainId plain_remove_loop _]
      exact ih (i + 1) (by lia) (by lia) (fun m hm h1 h2 => hno m hm (by lia) h2) prog w A R _ ⟨hl, he, h⟩)⟩
theorem list_removeAt (l : Addr) (items : Array Value) (n : Nat) (x : Value) (e : Value → Bool) (j : Nat) (hj : j < items.size)
    (hit : e items[j] = true) (hno : ∀ m (hm : m < items.size), m < j → e items[m] = false) (hs1 : items.size ≤ sizeLine) :
    Meets (Builtin.«list.remove» ⟨[.ref l, x], []⟩)
      (fun A R s => s.heap.get? l = some { cls := .type "list", dict := none, data := .seq items n, slots := #[] } ∧ (∀ y, y ∈ items → EqAt A.in1 s y x (e y)) ∧ R (.ok (.ret .none)) { s with heap := s.heap.update l (Obj.mapSeq fun xs => xs.eraseIdxIfInBounds j) }) := by
  intro prog w A R s h
  obtain ⟨hp, g, d, tk, os⟩ := s; obtain ⟨hl, he, h⟩ := h
  wp_walk using wpAny_loadPart' hl
  exact ⟨plainId_quiet plain_remove_loop _, codeAny_builtin entry_remove_loop (by
    rw [Around.under_plainId plain_remove_loop _]
    exact remove_loopAt l items n x e j hj hit _ hs1 0 rfl (Nat.zero_le _) (fun m hm _ h2 => hno m hm h2) prog w A R _ ⟨hl, he, h⟩)⟩
theorem remove_loop_noneAt (l : Addr) (items : Array Value) (n : Nat) (x : Value) (e : Value → Bool) (hno : ∀ m (hm : m < items.size), e items[m] = false) (k : Nat) :
    ∀ i : Nat, items.size - i = k → Meets (Builtin.«list.remove.loop» ⟨[.ref l, x, rawInt i], []⟩)
      (fun A R s => s.heap.get? l = some { cls := .type "list", dict := none, data := .seq items n, slots := #[] } ∧ (∀ y, y ∈ items → EqAt A.in1 s y x (e y)) ∧ raisesNew "ValueError" A R s) := by
  induction k with
  | zero =>
    intro i hk prog w A R s h
    obtain ⟨hp, g, d, tk, os⟩ := s; obtain ⟨hl, he, h⟩ := h
    wp_walk using wpAny_loadPart' hl
    have hi : items[((i : Nat) : Int).toNat]? = none := by simp; omega
    rw [hi]
    wp_walk
    exact_raiseError plainExc_ValueError h.1 h.2
  | succ k ih =>
    intro i hk prog w A R s h
    obtain ⟨hp, g, d, tk, os⟩ := s; obtain ⟨hl, he, h⟩ := h
    have hlt : i < items.size := by omega
    wp_walk using wpAny_loadPart' hl
    have hi : items[((i : Nat) : Int).toNat]? = some items[i] := by simp [hlt]
    have hc : ((i : Int) + 1) = ((i + 1 : Nat) : Int) := by push_cast; rfl
    rw [hi]
    refine wpAny_bind (he _ (Array.getElem_mem hlt) prog w _ _ ?_)
    rw [hno i hlt]
    wp_walk
    rw [hc]
    exact ⟨plainId_quiet plain_remove_loop _, codeAny_builtin entry_remove_loop (by
      rw [Around.under_plainId plain_remove_loop _]
      exact ih (i + 1) (by omega) prog w A R _ ⟨hl, he, h⟩)⟩
theorem list_remove_noneAt (l : Addr) (items : Array Value) (n : Nat) (x : Value) (e : Value → Bool) (hno : ∀ m (hm : m < items.size), e items[m] = false) :
    Meets (Builtin.«list.remove» ⟨[.ref l, x], []⟩)
      (fun A R s => s.heap.get? l = some { cls := .type "list", dict := none, data := .seq items n, slots := #[] } ∧ (∀ y, y ∈ items → EqAt A.in1 s y x (e y)) ∧ raisesNew "ValueError" A R s) := by
  intro prog w A R s h
  obtain ⟨hp, g, d, tk, os⟩ := s; obtain ⟨hl, he, h⟩ := h
  wp_walk using wpAny_loadPart' hl
  exact ⟨plainId_quiet plain_remove_loop _, codeAny_builtin entry_remove_loop (by
    rw [Around.under_plainId plain_remove_loop _]
    exact remove_loop_noneAt l items n x e hno _ 0 rfl prog w A R _ ⟨hl, he, h⟩)⟩
theorem DatAll.eraseN {news : List (Addr × Obj)} : ∀ {vs : List Value} {ds : List Dat}, DatAll news vs ds → ∀ k, DatAll news (vs.eraseIdx k) (ds.eraseIdx k)
  | _, _, .nil, _ => .nil
  | _, _, .cons _ h, 0 => h
  | _, _, .cons h' h, k + 1 => .cons h' (DatAll.eraseN h k)
noncomputable def rowAt (ss : List Row) (q : Row) : Nat := ss.findIdx fun r => decide (r = q)
section
variable {prog : Program} {w : World} {A : Around} {E : Value → Shared → Prop} {s : Shared} {h₀ : Heap} {L D : Addr} {m : Str → Option Value} {news news' objs : List (Addr × Obj)} {vs : List Value} {rows : List Row} {x : Value} {q : Row} {n : Nat}
theorem rows_at {vs : List Value} {rows : List Row} {e : Value → Bool} {q : Row} (h : vs.map e = rows.map (fun r => decide (r = q))) (i : Nat) (hi : i < vs.length) (hr : i < rows.length) : e vs[i] = decide (rows[i] = q) := by
  have := congrArg (fun l => l[i]?) h
  simpa [List.getElem?_map, List.getElem?_eq_getElem hi, List.getElem?_eq_getElem hr] using this
theorem remove_rows {Q : Value → Shared → Prop} (F : Fr h₀ L s.heap m) (N : News h₀ L s.heap news) (U : Upd D (W.listOf vs.toArray n) (W.listOf (vs.eraseIdx (rowAt rows q)).toArray (n + 1)) news news') (ho : ∀ p ∈ objs, s.heap.get? p.1 = some p.2) (hv : DatAll objs vs (rows.map rowD)) (hx : DatIn objs x (rowD q)) (hr : ∀ r ∈ rows, rowOk r) (hq : rowOk q) (hu : A.units + 20 < cLine) (hz : rows.length ≤ 100)
    (hlt : rowAt rows q < rows.length) (h : ∀ h', Fr h₀ L h' m → News h₀ L h' news' → Q .none { s with heap := h' }) :
    wpAny (model prog w) A (call (.builtin "list.remove") [.ref D, x]) Q E s := by
  refine Classical.byContradiction fun hn1 => ?_
  obtain ⟨pre, post, rfl, rfl, a', b'⟩ := U.split
  have z := N (D, W.listOf vs.toArray n) (List.mem_append.mpr (.inr (.head _)))
  obtain ⟨d, h1, h2⟩ := rows_reads (A := A) ho hv hx hr hq hu
  refine hn1 ?_
  have hlen : vs.length = rows.length := by have := congrArg List.length h2; simpa using this
  have hz' : vs.toArray.size ≤ sizeLine := by rw [sizeLine_eq, List.size_toArray]; lia
  refine call_meets PySem.F.slot_list_remove ⟨_, z.1, rfl⟩ PySem.F.entry_list_remove (PySem.F.args_list_remove_2 _ _)
    (list_removeAt D vs.toArray n x (fun y => PyData.eqv (SeqAt.readOf s.heap y) d) (rowAt rows q) (by rw [List.size_toArray]; lia) ?_ (fun i hi hlt' => ?_) hz') ⟨z.1, h1, h _ (F.change (Heap.SameBut.update ..) z.2.1 z.2.2) (kl_turn _ N a' b' ?_ ?_)⟩
  · rw [List.getElem_toArray]
    rw [rows_at (e := fun y => PyData.eqv (SeqAt.readOf s.heap y) d) h2 _ (by lia) hlt]
    exact List.findIdx_getElem (p := fun r => decide (r = q)) (w := hlt)
  · rw [List.size_toArray] at hi
    rw [List.getElem_toArray]
    rw [rows_at (e := fun y => PyData.eqv (SeqAt.readOf s.heap y) d) h2 i hi (by lia)]
    have := List.not_of_lt_findIdx (p := fun r => decide (r = q)) (xs := rows) (i := i) hlt'
    simpa using this
  · apply Array.toList_inj.mp
    rw [Array.toList_eraseIdxIfInBounds]
  · rw [List.size_toArray, List.size_toArray, List.length_eraseIdx, if_pos (by lia)]
    lia
theorem remove_rows_none {Q : Value → Shared → Prop} (hh : A.handled = none) (F : Fr h₀ L s.heap m) (N : News h₀ L s.heap news) (hD : (D, W.listOf vs.toArray n) ∈ news) (ho : ∀ p ∈ objs, s.heap.get? p.1 = some p.2) (hv : DatAll objs vs (rows.map rowD)) (hx : DatIn objs x (rowD q)) (hr : ∀ r ∈ rows, rowOk r) (hq : rowOk q) (hu : A.units + 20 < cLine)
    (hlt : ¬ rowAt rows q < rows.length) (h : ∀ e oe h' tk', Fr h₀ L h' m → News h₀ L h' ((e, oe) :: news) → ExcOk oe "ValueError" .none → (∀ p ∈ news, p.1 ≠ e) → E (.ref e) { s with heap := h', toks := tk' }) :
    wpAny (model prog w) A (call (.builtin "list.remove") [.ref D, x]) Q E s := by
  have z := N _ hD
  refine Classical.byContradiction fun hn1 => ?_
  obtain ⟨d, h1, h2⟩ := rows_reads (A := A) ho hv hx hr hq hu
  refine hn1 ?_
  have hlen : vs.length = rows.length := by have := congrArg List.length h2; simpa using this
  refine call_meets PySem.F.slot_list_remove ⟨_, z.1, rfl⟩ PySem.F.entry_list_remove (PySem.F.args_list_remove_2 _ _)
    (list_remove_noneAt D vs.toArray n x (fun y => PyData.eqv (SeqAt.readOf s.heap y) d) (fun i hi => ?_)) ⟨z.1, h1, hh, fun h' tk e x => ?_⟩
  · rw [List.size_toArray] at hi
    rw [List.getElem_toArray]
    rw [rows_at (e := fun y => PyData.eqv (SeqAt.readOf s.heap y) d) h2 i hi (by omega)]
    have := List.findIdx_eq_length.mp (show rows.findIdx (fun r => decide (r = q)) = rows.length from Nat.le_antisymm List.findIdx_le_length (Nat.le_of_not_lt hlt))
    simpa using this rows[i] (List.getElem_mem _)
  · obtain ⟨oe, F', N', x1, x2⟩ := newexc_led F N x
    exact h e oe _ _ F' N' x1 x2
end
end Mine
end
section
open PySem PySem.W PyProof.Rows PySem.Calls
set_option maxRecDepth 100000
namespace Mine
noncomputable abbrev uldEnv (L : Addr) : Env := envX (Str.ofString "unorderable_list_difference") (scopeAt 8) L 86 (.ref 85) []
noncomputable def uldGo : List Row → List Row → List Row → List Row × List Row
  | [], ss, ms => (ms, ss)
  | r :: rs, ss, ms => if rowAt ss r < ss.length then uldGo rs (ss.eraseIdx (rowAt ss r)) ms else uldGo rs ss (ms ++ [r])
theorem DatAll.unsnoc {news : List (Addr × Obj)} {ds : List Dat} {vs : List Value} {d : Dat} (h : DatAll news vs (ds ++ [d])) : ∃ p v, vs = p ++ [v] ∧ DatAll news p ds ∧ DatIn news v d := by
  induction ds generalizing vs with
  | nil => cases h with | cons h h' => cases h'; exact ⟨[], _, rfl, .nil, h⟩
  | cons _ ds ih => cases h with | cons h h' => obtain ⟨p, v, rfl, a, b⟩ := ih h'; exact ⟨_ :: p, v, rfl, .cons h a, b⟩
theorem map_eraseN {α β : Type} (f : α → β) : ∀ (l : List α) (k : Nat), (l.eraseIdx k).map f = (l.map f).eraseIdx k
  | [], _ => rfl
  | _ :: _, 0 => rfl
  | a :: l, k + 1 => by
    show f a :: (l.eraseIdx k).map f = f a :: (l.map f).eraseIdx k
    rw [map_eraseN f l k]
theorem pop_last {prog : Program} {w : World} {A : Around} {E : Value → Shared → Prop} {s : Shared} {h₀ : Heap} {L D : Addr} {m : Str → Option Value} {news news' : List (Addr × Obj)} {n : Nat} {p : List Value} {y : Value} {Q : Value → Shared → Prop} (F : Fr h₀ L s.heap m) (N : News h₀ L s.heap news) (U : Upd D (W.listOf (p ++ [y]).toArray n) (W.listOf p.toArray (n + 1)) news news')
    (hz : p.length ≤ 100) (h : ∀ h', Fr h₀ L h' m → News h₀ L h' news' → Q y { s with heap := h' }) : wpAny (model prog w) A (call (.builtin "list.pop") [.ref D]) Q E s := by
  refine Classical.byContradiction fun hn1 => ?_
  obtain ⟨pre, post, rfl, rfl, a, b⟩ := U.split
  refine hn1 ?_
  have z := N (D, W.listOf (p ++ [y]).toArray n) (List.mem_append.mpr (.inr (.head _)))
  have hz' : (p ++ [y]).toArray.size ≤ sizeLine := by rw [sizeLine_eq, List.size_toArray, List.length_append, List.length_singleton]; lia
  have hk : (p ++ [y]).toArray.size - 1 = p.length := by rw [List.size_toArray, List.length_append]; rfl
  have hy : (p ++ [y]).toArray[(p ++ [y]).toArray.size - 1]? = some y := by rw [hk]; simp
  refine call_meets PySem.F.slot_list_pop ⟨_, z.1, rfl⟩ PySem.F.entry_list_pop (PySem.F.args_list_pop_1 _) (PySem.MeetsSeq.list_pop_last D _ n y hy hz') ⟨z.1, h _ (F.change (Heap.SameBut.update ..) z.2.1 z.2.2) (kl_turn _ N a b ?_ ?_)⟩
  · show (p ++ [y]).toArray.eraseIdxIfInBounds ((p ++ [y]).toArray.size - 1) = p.toArray
    rw [hk, kl_erase, List.append_nil]
  · rw [List.size_toArray, List.size_toArray, List.length_append]
    simp
inductive UldJ (objs : List (Addr × Obj)) (l1 l2 ml L0 : Addr) (o0 : Obj) (R : List Row × List Row) (k : Nat) (m₁ : Str → Option Value) (nx : List (Addr × Obj)) : Prop
  | mk (V U M : List Value) (fs ss ms : List Row) (c1 c2 c3 : Nat) (sl : Array (Option Value)) (e1 : m₁ (S "expected") = some (.ref l1)) (e2 : m₁ (S "actual") = some (.ref l2)) (e3 : m₁ (S "missing") = some (.ref ml))
    (e : nx = [(ml, W.listOf (List.toArray M) c3), (L0, { o0 with slots := sl }), (l1, W.listOf (List.toArray V) c1), (l2, W.listOf (List.toArray U) c2)]) (hV : DatAll objs V (List.map rowD fs)) (hU : DatAll objs U (List.map rowD ss)) (hM : DatAll objs M (List.map rowD ms))
    (kf : ∀ r ∈ fs, rowOk r) (ks : ∀ r ∈ ss, rowOk r) (z1 : fs.length + ms.length ≤ 50) (z2 : ss.length ≤ 50) (hk : k = fs.length) (hgo : uldGo fs.reverse ss ms = R) : UldJ objs l1 l2 ml L0 o0 R k m₁ nx
set_option maxHeartbeats 1000000 in
theorem uld_spec {w : World} {A : Around} {env0 : Env} {s : Shared} {mg mb : Str → Option Value} {hb : Heap} {L0 l1 l2 : Addr} {o0 : Obj} {vs us : List Value} {n1 n2 : Nat} {fs ss : List Row} {objs : List (Addr × Obj)} {R : List Row × List Row} (tp : Tops w mg mb hb) (lx : LedIn hb s.heap [(L0, o0), (l1, W.listOf vs.toArray n1), (l2, W.listOf us.toArray n2)]) (hA : A.depth + 10 < recursionLimit) (hu : A.units + 100 < cLine) (hh : A.handled = none) (hfr : A.frames = some [env0]) (hk0 : env0.scope.kind ≠ .module) (hf0 : env0.frame = some L0) (h0 : ∃ es ep, o0.data = .dict es ep)
    (ho : ∀ p ∈ objs, hb.get? p.1 = some p.2) (hv : DatAll objs vs (fs.map rowD)) (hw : DatAll objs us (ss.map rowD)) (hf : ∀ r ∈ fs, rowOk r) (hs : ∀ r ∈ ss, rowOk r) (hfn : fs.length ≤ 50) (hsn : ss.length ≤ 50) (q1 : @LT.lt Nat _ L0 l1) (q2 : @LT.lt Nat _ l1 l2)
    (hR : uldGo fs.reverse ss [] = R) :
    GivesM w A 86 [.ref l1, .ref l2] s [L0, l1, l2] (fun v new => (∃ sl, (L0, { o0 with slots := sl }) ∈ new) ∧ DatIn (new ++ objs) v (.tuple [.list (R.1.map rowD), .list (R.2.map rowD)])) := by
  have o1 : On "exec While" := ⟨⟩
  have o2 : On "exec While Name nil" := ⟨⟩
  have o3 : On "exec Try" := ⟨⟩
  have o4 : On "truthy ref" := ⟨⟩
  have o5 : On "call builtin:list.remove" := ⟨⟩
  have o6 : On "call builtin:list.pop" := ⟨⟩
  obtain ⟨A, rfl⟩ : ∃ A0 : Around, A = { A0 with handled := none, frames := some [env0] } := ⟨A, by cases A; cases hh; cases hfr; rfl⟩
  dsimp only at hA hu
  refine givesM_of_frame (led := [(L0, o0), (l1, W.listOf vs.toArray n1), (l2, W.listOf us.toArray n2)]) tp lx (by show A.depth < _; lia) (lx.keep _ _ (tp.X _ _ (by k_is))) rfl ((codeRec_of tp.X (by k_is)).keeps lx.keep) (BindsTo.of_eq rfl) (locs rfl) (fun g L h₁ tpg hkg hLs F N => ?_) (by decide) (by rfl) (by rfl) (by rfl)
  refine Classical.byContradiction fun hn1 => ?_
  obtain ⟨X, T⟩ := tpg
  refine hn1 ?_
  have hog : ∀ p ∈ objs, g.get? p.1 = some p.2 := fun p hp => hkg _ _ (ho p hp)
  walk_at "steps"
  (rename Fr _ _ _ _ => F'); (rename News _ _ _ _ => N')
  rename _ ∧ _ ∧ _ => l3
  rename_i ml _ _
  refine Classical.byContradiction fun hn2 => ?_
  obtain ⟨l31, l32, l33⟩ := l3
  refine hn2 ?_
  refine Hold.mk (While_inv (L := L) (h₀ := g) (UldJ objs l1 l2 ml L0 o0 R) (n₀ := fs.length) F' N' ⟨vs, us, [], fs, ss, [], n1, n2, 0, o0.slots, rfl, rfl, rfl, rfl, hv, hw, .nil, hf, hs, by simpa using hfn, hsn, rfl, hR⟩ ?turn)
  case turn =>
  clear F' N'
  rintro k m₁ nx h₁ tk₁ F N ⟨V, U, M, fs', ss', ms, c1, c2, c3, sl, e1, e2, e3, rfl, hV, hU, hM, kf, ks, z1, z2, rfl, hgo⟩
  have hlM := DatAll.length hM
  have hlU := DatAll.length hU
  have hlV := DatAll.length hV
  rw [List.length_map] at hlM hlU hlV
  replace F := Fr.know (Fr.know (Fr.know F e1) (x := S "actual") (v := .ref l2) (by rw [if_neg (by decide)]; exact e2)) (x := S "missing") (v := .ref ml) (by rw [if_neg (by decide), if_neg (by decide)]; exact e3)
  rcases List.eq_nil_or_concat fs' with rfl | ⟨fp, r, rfl⟩
  · cases hV
    walk_at "steps"
    refine Hold.mk (wpAny_truthy_list (items := #[]) ⟨_, (N _ (.tail _ (.tail _ (.head _)))).1, rfl, _, rfl⟩ (by first | k_mem | simp) ?_)
    dsimp only
    rw [if_neg (by first | k_mem | simp)]
    walk_at "steps"
    (rename Fr _ _ _ _ => F'); (rename News _ _ _ _ => N')
    cases hgo
    refine (EndM.mk F' N' (fun _ h => h) ⟨⟨sl, by simp⟩, DatIn.tuple (.head _) (.cons (DatIn.list (vs := M) (.tail _ (.head _)) (DatAll.mono (fun _ h => List.mem_append_right _ h) hM)) (.cons (DatIn.list (vs := U) (.tail _ (.tail _ (.tail _ (.tail _ (.head _))))) (DatAll.mono (fun _ h => List.mem_append_right _ h) hU)) .nil))⟩)
  · rw [List.concat_eq_append, List.map_append] at hV
    refine Classical.byContradiction fun hn3 => ?_
    obtain ⟨p, v, rfl, hp, hv'⟩ := DatAll.unsnoc hV
    refine hn3 ?_
    rw [List.length_append, List.length_singleton] at hlV
    walk_at "steps"
    have hrr := kf r (by first | k_mem | simp)
    rw [List.length_concat] at hlV z1
    refine Hold.mk (wpAny_truthy_list (items := (p ++ [v]).toArray) ⟨_, (N _ (.tail _ (.tail _ (.head _)))).1, rfl, _, rfl⟩ (by rw [List.size_toArray]; simp; lia) ?_)
    rw [if_pos (by first | k_mem | simp)]
    refine hideQ fun Q0 hQ0 => ?_
    walk_at "steps"
    refine Hold.mk ?_
    refine pop_last (by k_asm) (by k_asm) (by k_upd) (by omega) ?_
    intro h' F' N'
    (try k_sweep)
    walk_at "steps"
    (rename Fr _ _ _ _ => F'); (rename News _ _ _ _ => N')
    rw [List.concat_eq_append, List.reverse_append, List.reverse_singleton, List.singleton_append, uldGo] at hgo
    refine Hold.mk (wpAny_Try_except ?_)
    walk_at "steps"
    refine Hold.mk ?_
    by_cases hlt : rowAt ss' r < ss'.length
    · rw [if_pos hlt] at hgo
      refine remove_rows (s := ⟨_, _, _, _, _⟩) F' N' (by k_upd) (fun p hp => F'.keep _ _ (hog p hp)) hU hv' ks hrr ?hu2 (by lia) hlt (fun h' F2 N2 => ?_)
      case hu2 => simp only [units_deeper]; lia
      clear F' N'
      dsimp only
      walk_at "steps"
      refine hQ0 _ _ (WhileStep.intro (n' := fp.length) F2 N2 (by rw [List.length_concat]; lia) ⟨p, _, M, fp, _, ms, _, _, _, sl, rfl, rfl, rfl, rfl, hp, ?_, hM, fun q hq => kf q (by simp [hq]), fun q hq => ks q (List.mem_of_mem_eraseIdx hq), by lia, ?_, rfl, hgo⟩)
      · rw [map_eraseN]
        exact DatAll.eraseN hU _
      · exact Nat.le_trans (List.length_eraseIdx_le ..) z2
    · rw [if_neg hlt] at hgo
      refine remove_rows_none (s := ⟨_, _, _, _, _⟩) rfl F' N' (by k_memK) (fun p hp => F'.keep _ _ (hog p hp)) hU hv' ks hrr ?hu2 hlt (fun e oe h' tk' F2 N2 x1 x2 => ?_)
      case hu2 => simp only [units_deeper]; lia
      clear F' N'
      refine Classical.byContradiction fun hn4 => ?_
      obtain ⟨xc, vx, xd, y1, y2⟩ := id x1
      refine hn4 ?_
      have a1 : @Ne Nat ml e := x2 _ (.head _)
      have a2 : @Ne Nat L0 e := x2 _ (.tail _ (.head _))
      have a3 : @Ne Nat l1 e := x2 _ (.tail _ (.tail _ (.head _)))
      have a4 : @Ne Nat l2 e := x2 _ (.tail _ (.tail _ (.tail _ (.head _))))
      refine note_first (o0 := { o0 with slots := sl }) (new := [(ml, W.listOf M.toArray c3), (l1, W.listOf p.toArray (c1 + 1)), (l2, W.listOf U.toArray c2)]) rfl (by kernel_rfl) rfl hk0 hf0 h0 F2 (News.sub N2 (by walk_at "mem_all")) xd y1 ?_ (Ne.symm a2) (fun T' oT sl2 hp3 F3 N3 tb lt => ?_)
      · intro z hz
        rcases inL3 hz with rfl | rfl | rfl
        · exact ⟨a1, by intro q; have q : @Eq Nat ml L0 := q; lia⟩
        · exact ⟨a3, by intro q; have q : @Eq Nat l1 L0 := q; lia⟩
        · exact ⟨a4, by intro q; have q : @Eq Nat l2 L0 := q; lia⟩
      have hT := AllLt.mem lt
      refine handle_led (T' := "ValueError") F3 N3 (fun z hz => ?_) (x1.noted T') tb sub_ValueError_Base notTuple_ValueError (by rw [isSubtype_type]; kernel_rfl) (fun {Q E hp} F h => ?_) (fun hp' F4 N4 => ?_)
      · rcases inL5 hz with rfl | rfl | rfl | rfl | rfl
        · exact Nat.ne_of_lt (hT (e, oe) (by first | k_mem | simp))
        · exact Nat.ne_of_lt (hT (L0, { o0 with slots := sl }) (.tail _ (.head _)))
        · exact Nat.ne_of_lt (hT (ml, _) (by first | k_mem | simp))
        · exact Nat.ne_of_lt (hT (l1, _) (by first | k_mem | simp))
        · exact Nat.ne_of_lt (hT (l2, _) (by first | k_mem | simp))
      · have hX : nsIn (hd.heap_39 w.params) mainGlobals (S "ValueError") = some none := by k_is
        exact nameX_B F X T hX (by decide +kernel) (by decide +kernel) h (by kernel_rfl) (by kernel_rfl)
      clear F2 N2 F3 N3
      walk_at "steps"
      (rename Fr _ _ _ _ => F'); (rename News _ _ _ _ => N')
      rw [List.push_toArray] at N'
      refine hQ0 _ _ (WhileStep.intro (n' := fp.length) F' (News.sub N' (l' := [(ml, W.listOf (M ++ [v]).toArray (c3 + 1)), (L0, { o0 with slots := sl2 }), (l1, W.listOf p.toArray (c1 + 1)), (l2, W.listOf U.toArray c2)]) (by walk_at "mem_all")) (by rw [List.length_concat]; lia) ⟨p, U, M ++ [v], fp, ss', ms ++ [r], _, _, _, sl2, rfl, rfl, rfl, rfl, hp, hU, ?_, fun q hq => kf q (by simp [hq]), ks, by rw [List.length_append, List.length_singleton]; lia, z2, rfl, hgo⟩)
      rw [List.map_append]
      exact DatAll.append hM (.cons hv' .nil)
end Mine
end
section
open PySem PySem.W PyProof.Rows PySem.Calls
set_option maxRecDepth 100000
namespace Mine
theorem Gives.toM {w : World} {A : Around} {f : Addr} {args : List Value} {s : Shared} {P : Value → List (Addr × Obj) → Prop} (g : Gives w A f args s P) : GivesM w A f args s [] P := fun R hR =>
  g R fun v h' tk' new k hn hP => hR v h' tk' new (fun b o _ e => k b o e) (fun p hp => ⟨(hn p hp).1, .inr (hn p hp).2⟩) hP
noncomputable def rm (as : List Addr) (ns : List (Addr × Obj)) : List (Addr × Obj) := ns.filter fun p => decide (p.1 ∉ as)
theorem mem_rm {as : List Addr} {ns : List (Addr × Obj)} {p : Addr × Obj} : p ∈ rm as ns ↔ p ∈ ns ∧ p.1 ∉ as := by
  unfold rm
  rw [List.mem_filter, decide_eq_true_eq]
noncomputable def NoSeqs (l : List (Addr × Obj)) : Prop := ∀ p ∈ l, ∀ vs n, p.2.data ≠ .seq vs n
section
variable {w : World} {A : Around} {E : Value → Shared → Prop} {s : Shared} {h₀ : Heap} {L : Addr} {m : Str → Option Value} {front tl led : List (Addr × Obj)} {f : Addr} {args : List Value} {P : Value → List (Addr × Obj) → Prop}
theorem call_T {Q : Value → Shared → Prop} (F : Fr h₀ L s.heap m) (N : News h₀ L s.heap (front ++ tl)) (off : OwnOff tl (front.map (·.1))) (hl : ∀ p ∈ led, p ∈ tl) (hns : NoSeqs led)
    (g : GivesM w A f args s (led.map (·.1)) P)
    (h : ∀ v h' tk' new tl', Fr h₀ L h' m → News h₀ L h' (front ++ tl') → OwnOff tl' (front.map (·.1)) → P v new → (∀ p ∈ new, p ∈ tl') → (∀ p ∈ tl, p.1 ∉ led.map (·.1) → p ∈ tl') → (∀ v d, DatIn tl v d → DatIn tl' v d) → (∀ vs ds, DatAll tl vs ds → DatAll tl' vs ds) → (∀ p ∈ new, p.1 ∈ led.map (·.1) ∨ ∀ q ∈ tl, q.1 ≠ p.1) → Q v { s with heap := h', toks := tk' }) :
    wpAny (model prg w) A (call (.ref f) args) Q E s := by
  refine wpAny_call (g _ ?_)
  intro v h' tk' new k hn hP
  have hl' : ∀ p ∈ led, p ∈ front ++ tl := fun p hp => List.mem_append_right _ (hl p hp)
  have hoff : ∀ p ∈ front, p.1 ∉ led.map (·.1) := fun p hp q => by
    obtain ⟨z, hz, e⟩ := List.mem_map.mp q
    exact off z (hl z hz) p.1 (List.mem_map_of_mem hp) e
  obtain ⟨F', N'⟩ := afterM (rest := rm (led.map (·.1)) (front ++ tl)) F N hl' (fun p hp => mem_rm.mp hp) k hn
  have keepTl : ∀ p ∈ tl, p.1 ∉ led.map (·.1) → p ∈ new ++ rm (led.map (·.1)) tl := fun p hp hq => List.mem_append_right _ (mem_rm.mpr ⟨hp, hq⟩)
  have kd : ∀ p ∈ tl, (∀ vs n, p.2.data ≠ .seq vs n) ∨ p ∈ new ++ rm (led.map (·.1)) tl := fun p hp => by
    by_cases hq : p.1 ∈ led.map (·.1)
    · obtain ⟨z, hz, e⟩ := List.mem_map.mp hq
      have e1 := (N z (hl' z hz)).1
      have e2 := (N p (List.mem_append_right _ hp)).1
      rw [show z.1 = p.1 from e] at e1
      rw [e1] at e2
      rw [← Option.some.inj e2]
      exact .inl (hns z hz)
    · exact .inr (keepTl p hp hq)
  refine h v h' tk' new (new ++ rm (led.map (·.1)) tl) F' (News.sub N' fun p hp => ?_) (fun p hp b hb e => ?_) hP (fun p hp => List.mem_append_left _ hp) keepTl (fun v d => (DatIn.drop kd).1) (fun vs ds => (DatIn.drop kd).2) (fun p hp => ?_)
  · rcases List.mem_append.mp hp with hp | hp
    · exact List.mem_append_right _ (mem_rm.mpr ⟨List.mem_append_left _ hp, hoff p hp⟩)
    · rcases List.mem_append.mp hp with hp | hp
      · exact List.mem_append_left _ hp
      · exact List.mem_append_right _ (mem_rm.mpr ⟨List.mem_append_right _ (mem_rm.mp hp).1, (mem_rm.mp hp).2⟩)
  · obtain ⟨q, hq, rfl⟩ := List.mem_map.mp hb
    rcases List.mem_append.mp hp with hp | hp
    · rcases (hn p hp).2 with z | z
      · rw [e] at z; exact hoff q hq z
      · rw [e, (N q (List.mem_append_left _ hq)).1] at z; cases z
    · exact off p (mem_rm.mp hp).1 q.1 (List.mem_map_of_mem hq) e
  · rcases (hn p hp).2 with z | z
    · exact .inl z
    · refine .inr fun q hq e => ?_
      have := (N q (List.mem_append_right _ hq)).1
      rw [show q.1 = p.1 from e, z] at this; cases this
theorem call_G {Q : Value → Shared → Prop} (F : Fr h₀ L s.heap m) (N : News h₀ L s.heap (front ++ tl)) (off : OwnOff tl (front.map (·.1)))
    (g : Gives w A f args s P)
    (h : ∀ v h' tk' new tl', Fr h₀ L h' m → News h₀ L h' (front ++ tl') → OwnOff tl' (front.map (·.1)) → P v new → (∀ p ∈ new, p ∈ tl') → (∀ p ∈ tl, p ∈ tl') → (∀ p ∈ new, ∀ q ∈ tl, q.1 ≠ p.1) → Q v { s with heap := h', toks := tk' }) :
    wpAny (model prg w) A (call (.ref f) args) Q E s :=
  call_T (led := []) F N off (fun _ h => nomatch h) (fun _ h => nomatch h) g.toM fun v h' tk' new tl' F' N' off' hP h1 h2 _ _ h3 =>
    h v h' tk' new tl' F' N' off' hP h1 (fun p hp => h2 p hp (fun q => nomatch q)) fun p hp => (h3 p hp).resolve_left fun q => nomatch q
theorem Tops9.here {mean : ExcName → Option Value} {mg mb : Str → Option Value} (t : Tops9 w mean mg mb h₀) (F : Fr h₀ L s.heap m) : Tops w mg mb s.heap := (t.keeps F.keep).tops
end
inductive TokLed : List (Addr × Obj) → Prop
  | one : TokLed [(107, tabObj #[])]
  | two {c' c2 : Addr} {oc : Obj} {vs : Array Value} {tq : Tok} (hoc : oc.data = .fields vs) (hvs : vs[1]? = some (.str (Str.ofString "_law_tokens.<locals>.read") tq)) (hne : @Ne Nat c' 107) :
      TokLed [(107, tabObj (#[] ++ #[rawInt ↑153, rawInt ↑4, Value.ref c'] ++ #[rawInt ↑156, rawInt ↑13, Value.ref c2])), (c', oc)]
theorem TokLed.noSeq {led : List (Addr × Obj)} (t : TokLed led) : NoSeqs led := by
  cases t with
  | one => intro p hp vs n; rw [List.mem_singleton.mp hp]; intro e; cases e
  | two hoc hvs hne =>
    intro p hp vs n
    rcases inL2 hp with rfl | rfl
    · intro e; cases e
    · intro e; rw [hoc] at e; cases e
theorem TokLed.tab {led : List (Addr × Obj)} (t : TokLed led) : ∃ ps, (107, tabObj ps) ∈ led := by
  cases t with
  | one => exact ⟨_, .head _⟩
  | two hoc hvs hne => exact ⟨_, .head _⟩
theorem tok_any {w : World} {env0 : Env} {base : Heap} {s : Shared} {mean : ExcName → Option Value} {mg mb : Str → Option Value} {hb : Heap} {x : Str} {tx : Tok} {K k0 : Nat} {ws : List Str} {nf : Int} {led : List (Addr × Obj)} (t : TokLed led) (tp9 : Tops9 w mean mg mb hb) (lx : LedIn hb s.heap led) (B0 : Below (callerA.deeper env0) base [env0] hb)
    (htx : x.length ≤ 100000) (hws : ws.length ≤ 600) (hrun : lexAll x K k0 0 1 = some (ws, nf)) :
    GivesM w (callerA.deeper env0) 110 [.str x tx] s (led.map (·.1)) (fun v new => DatIn new v (.tuple [.list (ws.map Dat.str), .list (ws.map Dat.str), .int nf]) ∧ ∃ led', TokLed led' ∧ ∀ p ∈ led', p ∈ new) := by
  cases t with
  | one =>
    intro R hR
    refine tokens_spec1 tp9 lx B0 htx hws hrun R fun v h' tk' new k hn hP => hR v h' tk' new k hn ⟨hP.1, ?_⟩
    refine Classical.byContradiction fun hn1 => ?_
    obtain ⟨c', c2, oc, vs, tq, m1, m2, hoc, hvs, hne⟩ := hP.2
    refine hn1 ?_
    exact ⟨_, .two hoc hvs hne, fun p hp => by
      rcases inL2 hp with rfl | rfl
      · exact m1
      · exact m2⟩
  | @two c' c2 oc vs tq hoc hvs hne =>
    intro R hR
    refine tokens_spec2 tp9 lx hoc hvs hne B0 htx hws hrun R fun v h' tk' new k hn hP => hR v h' tk' new k hn ⟨hP.1, _, .two (c2 := c2) hoc hvs hne, fun p hp => ?_⟩
    rcases inL2 hp with rfl | rfl
    · exact hP.2.1
    · exact hP.2.2
end Mine
end
section
open PySem PySem.W PyProof.Rows PySem.Calls
set_option maxRecDepth 100000
namespace Mine
noncomputable abbrev lawEnv (L fa : Addr) (cd : Value) : Env := envOfC (Str.ofString "law") (scopeAt 18) L fa cd
noncomputable abbrev nlOf (t : Str) : Int := Txt.count t (Str.ofString "\n")
theorem not_decide_self {α : Type} {a : α} {i : Decidable (a = a)} : (!@decide (a = a) i) = false := by rw [decide_eq_true rfl]; rfl
theorem vocab_ok : ∀ x ∈ vocab, PyData.strOk x = true := by decide +kernel
inductive Dat2 (news : List (Addr × Obj)) (vs : List Value) (a b : Dat) : Prop
  | mk (x y : Value) (e : vs = [x, y]) (h1 : DatIn news x a) (h2 : DatIn news y b) : Dat2 news vs a b
theorem dat2 {news : List (Addr × Obj)} {vs : List Value} {a b : Dat} (h : DatAll news vs [a, b]) : Dat2 news vs a b := by
  refine Classical.byContradiction fun hn1 => ?_
  obtain ⟨x, _, e1, h1, h⟩ := DatAll.inv h
  obtain ⟨y, _, e2, h2, h⟩ := DatAll.inv h
  refine hn1 ?_
  exact ⟨x, y, by rw [e1, e2, DatAll.inv0 h], h1, h2⟩
inductive Dat3 (news : List (Addr × Obj)) (vs : List Value) (a b c : Dat) : Prop
  | mk (x y z : Value) (e : vs = [x, y, z]) (h1 : DatIn news x a) (h2 : DatIn news y b) (h3 : DatIn news z c) : Dat3 news vs a b c
theorem dat3 {news : List (Addr × Obj)} {vs : List Value} {a b c : Dat} (h : DatAll news vs [a, b, c]) : Dat3 news vs a b c := by
  refine Classical.byContradiction fun hn1 => ?_
  obtain ⟨x, _, e1, h1, h⟩ := DatAll.inv h
  obtain ⟨y, z, e2, h2, h3⟩ := dat2 h
  refine hn1 ?_
  exact ⟨x, y, z, by rw [e1, e2], h1, h2, h3⟩
theorem off_cons {p : Addr × Obj} {tl : List (Addr × Obj)} {as : List Addr} (h : ∀ b ∈ as, p.1 ≠ b) (h' : OwnOff tl as) : OwnOff (p :: tl) as := fun q hq => by
  rcases List.mem_cons.mp hq with rfl | hq
  · exact h
  · exact h' q hq
structure Fit (rows : List Row) : Prop where
  len : rows.length ≤ 100
  wlen : (wordsOf rows).length ≤ 600
  vocab : ∀ x ∈ wordsOf rows, x ∈ vocab
  tlen : (textAt (wordsOf rows) (wordsOf rows).length).length ≤ 100000
  steps : Steps (wordsOf rows) ([], S "")
  fold : (wordsOf rows).foldl stepD ([], S "") = (rows, S "")
  lex : ∃ K k0, lexAll (textAt (wordsOf rows) (wordsOf rows).length) K k0 0 1 = some (wordsOf rows, 1 + nlOf (textAt (wordsOf rows) (wordsOf rows).length))
theorem strs_of {news : List (Addr × Obj)} {vs : List Value} {ws : List Str} (h : DatAll news vs (ws.map Dat.str)) : StrsAre vs ws := by
  induction ws generalizing vs with
  | nil => rw [DatAll.inv0 h]; exact .nil
  | cons _ _ ih => obtain ⟨_, _, e, h⟩ := DatAll.strInv h; rw [e]; exact .cons _ _ (ih h)
noncomputable def lawFor1 : List Stmt := forBody (stmtsAt 18)[2]?
set_option maxHeartbeats 1000000 in
theorem law_turn1 {w : World} {Q : Flow → Shared → Prop} {hp g : Heap} {gs : Array GenState} {d : Drawn} {tk : Nat} {os : OsState} {L fa rl cl : Addr} {cd v : Value} {m : Str → Option Value} {V : List Value} {c : Nat} {oc o58 : Obj} {tl led : List (Addr × Obj)} {rows : List Row} {mean : ExcName → Option Value} {mg mb : Str → Option Value}
    (tp9 : Tops9 w mean mg mb g) (B0 : Below callerA g [] g) (F : Fr g L hp m) (N : News g L hp ([(rl, W.listOf V.toArray c), (cl, oc), (58, o58)] ++ tl)) (off : OwnOff tl [rl, cl, 58]) (t : TokLed led) (hl : ∀ p ∈ led, p ∈ tl)
    (fit : Fit rows) (m1 : m (S "table") = some v) (m2 : m (S "rows") = some (.ref rl)) (hv : DatIn tl v (.list (rows.map rowD))) (hne : @Ne Nat rl cl ∧ @Ne Nat rl 58 ∧ @Ne Nat cl 58) (hVl : V.length ≤ 10)
    (k : ∀ h' tk' m' v' c' tl' led', Fr g L h' m' → News g L h' ([(rl, W.listOf (V ++ [v']).toArray c'), (cl, oc), (58, o58)] ++ tl') → OwnOff tl' [rl, cl, 58] → TokLed led' → (∀ p ∈ led', p ∈ tl') → (∀ p ∈ tl, p.1 ∉ led.map (·.1) → p ∈ tl') → (∀ v d, DatIn tl v d → DatIn tl' v d) → (∀ vs ds, DatAll tl vs ds → DatAll tl' vs ds) → DatIn tl' v' (.list (rows.map rowD)) →
      m' (S "tables") = m (S "tables") → m' (S "rows") = some (.ref rl) → (∀ p ∈ led', p.1 ∈ led.map (·.1) ∨ ∀ q ∈ tl, q.1 ≠ p.1) → Q .next ⟨h', gs, d, tk', os⟩) :
    wpAny (model prg w) (callerA.deeper (lawEnv L fa cd)) (execs lawFor1 (lawEnv L fa cd)) Q NoE ⟨hp, gs, d, tk, os⟩ := by
  have o1 : On "call ref" := ⟨⟩
  have o2 : On "compareOp NotEq ref ref" := ⟨⟩
  have e : lawFor1 = lawFor1 := rfl
  conv at e => rhs; whnf
  rw [e]
  clear e
  refine Classical.byContradiction fun hn1 => ?_
  obtain ⟨X, T⟩ := id tp9.tops
  obtain ⟨n1, n2, n3⟩ := hne
  refine hn1 ?_
  replace F := Fr.know (Fr.know F m1) (x := S "rows") (v := .ref rl) (by rw [if_neg (by decide)]; exact m2)
  walk_at "steps"
  refine Hold.mk (call_G (front := [(rl, W.listOf V.toArray c), (cl, oc), (58, o58)]) F N off (words_spec (s := ⟨_, _, _, _, _⟩) (tp9.here (s := ⟨_, _, _, _, _⟩) F) (by k_room) rfl (fun p hp => (N p (List.mem_append_right _ hp)).1) hv fit.len) (fun v1 h1 tk1 new1 tl1 F1 N1 off1 hP1 a1 b1 _ => ?_))
  refine Classical.byContradiction fun hn2 => ?_
  obtain ⟨lw, nw, vw, rfl, hlw, hsw⟩ := DatIn.listOf (DatIn.mono a1 hP1)
  refine hn2 ?_
  have hsw' := strs_of hsw
  dsimp only [List.cons_append, List.nil_append, List.map_cons, List.map_nil] at N1 off1
  clear F N
  dsimp only
  walk_at "steps"
  (rename Fr _ _ _ _ => F2); (rename News _ _ _ _ => N2)
  refine Hold.mk (call_G (front := [(rl, W.listOf V.toArray c), (cl, oc), (58, o58)]) F2 N2 off1 (text_spec (s := ⟨_, _, _, _, _⟩) (vs := vw) (n := nw) (tp9.here (s := ⟨_, _, _, _, _⟩) F2) (by k_room) rfl (N2 _ (List.mem_append_right [_, _, _] hlw)).1 hsw' fit.wlen fit.vocab) (fun v2 h2 tk2 new2 tl2 F3 N3 off2 hP2 a2 b2 _ => ?_))
  refine Classical.byContradiction fun hn3 => ?_
  obtain ⟨tx, rfl⟩ := hP2
  refine hn3 ?_
  dsimp only [List.cons_append, List.nil_append, List.map_cons, List.map_nil] at N3 off2
  clear F2 N2
  dsimp only
  walk_at "steps"
  (rename Fr _ _ _ _ => F2); (rename News _ _ _ _ => N2)
  refine Classical.byContradiction fun hn4 => ?_
  obtain ⟨K, k0, hrun⟩ := fit.lex
  obtain ⟨g', tg', Bg, lx⟩ := ground9 (A := callerA.deeper (lawEnv L fa cd)) (s := ⟨_, gs, d, 0, os⟩) (env := lawEnv L fa cd) (led := led) tp9 B0 F2 N2 rfl rfl (by kernel_rfl) (fun p hp => .tail _ (.tail _ (.tail _ (b2 p (b1 p (hl p hp))))))
  refine hn4 ?_
  refine Hold.mk (call_T (front := [(rl, W.listOf V.toArray c), (cl, oc), (58, o58)]) (tl := tl2) (led := led) F2 N2 off2 (fun p hp => b2 p (b1 p (hl p hp))) t.noSeq (tok_any (env0 := lawEnv L fa cd) t tg' lx Bg fit.tlen fit.wlen hrun) (fun v3 h3 tk3 new3 tl3 F4 N4 off3 hP3 a3 b3 c3 d3 e3 => ?_))
  refine Classical.byContradiction fun hn5 => ?_
  obtain ⟨hP3, led', t', hl'⟩ := hP3
  dsimp only [List.cons_append, List.nil_append, List.map_cons, List.map_nil] at N4 off3
  clear F2 N2
  obtain ⟨u3, nu3, vu3, rfl, hu3, hsu3⟩ := DatIn.tupOf (DatIn.mono a3 hP3)
  obtain ⟨vt, va, vn', rfl, y1, y2, y3⟩ := dat3 hsu3
  obtain ⟨lt, nt, vst, rfl, hlt, hst⟩ := DatIn.listOf y1
  obtain ⟨la, na, vsa, rfl, hla, hsa⟩ := DatIn.listOf y2
  obtain ⟨vn, rfl⟩ : ∃ t, vn' = .int (1 + nlOf (textAt (wordsOf rows) (wordsOf rows).length)) t := by cases y3; exact ⟨_, rfl⟩
  refine hn5 ?_
  replace N4 := News.sub N4 (l' := (u3, { cls := .type "tuple", data := .seq #[.ref lt, .ref la, .int (1 + nlOf (textAt (wordsOf rows) (wordsOf rows).length)) vn] nu3 }) :: (rl, W.listOf V.toArray c) :: (cl, oc) :: (58, o58) :: tl3) (fun p hp => by
    rcases List.mem_cons.mp hp with rfl | hp
    · exact .tail _ (.tail _ (.tail _ hu3))
    · exact hp)
  dsimp only
  walk_at "steps"
  (rename Fr _ _ _ _ => F5); (rename News _ _ _ _ => N5)
  have hlw3 : DatIn tl3 (.ref lw) (.list ((wordsOf rows).map Dat.str)) := c3 _ _ (DatIn.mono (fun p hp => b2 p (a1 p hp)) hP1)
  have okw : ∀ d ∈ (wordsOf rows).map Dat.str, kqdOk 7 d = true := fun d hd => by
    refine Classical.byContradiction fun hn6 => ?_
    obtain ⟨x, hx, rfl⟩ := List.mem_map.mp hd
    refine hn6 ?_
    have := vocab_ok x (fit.vocab x hx)
    simp [kqdOk, this]
  have okl : kqdOk 8 (Dat.list ((wordsOf rows).map Dat.str)) = true := by simpa [kqdOk] using okw
  have okw3 : ∀ d ∈ [Dat.list ((wordsOf rows).map Dat.str), Dat.list ((wordsOf rows).map Dat.str), Dat.int (1 + nlOf (textAt (wordsOf rows) (wordsOf rows).length))], kqdOk 8 d = true := List.forall_mem_cons.mpr ⟨okl, List.forall_mem_cons.mpr ⟨okl, List.forall_mem_cons.mpr ⟨rfl, List.forall_mem_nil _⟩⟩⟩
  refine Hold.mk (kqd_ne N5 (.tail _ (.head _)) rfl rfl hsu3 (fun p hp => by k_ownIn) (.head _) rfl rfl (.cons hlw3 (.cons hlw3 (.cons (.int _ _) .nil))) (fun p hp => by k_ownIn) okw3 okw3 (by simp only [units_deeper]; decide) ?_)
  rw [not_decide_self]
  walk_at "steps"
  (rename Fr _ _ _ _ => F6); (rename News _ _ _ _ => N6)
  rename_i l5 _ o5 D5 _ o6
  replace N6 := News.sub N6 (l' := [(rl, W.listOf V.toArray c), (cl, oc), (58, o58)] ++ ((D5, { cls := Value.type "tuple", data := Data.seq #[Value.ref l5, Value.str (Str.ofString "") tk] }) :: (l5, W.listOf #[] 0) :: tl3)) (show ∀ p ∈ (rl, W.listOf V.toArray c) :: (cl, oc) :: (58, o58) :: (D5, _) :: (l5, _) :: tl3, p ∈ _ from by walk_at "mem_all")
  have off4 : OwnOff ((D5, ({ cls := Value.type "tuple", data := Data.seq #[Value.ref l5, Value.str (Str.ofString "") tk] } : Obj)) :: (l5, W.listOf #[] 0) :: tl3) [rl, cl, 58] := off_cons (fun b hb => by
      rcases inL3 hb with rfl | rfl | rfl <;> (refine Nat.ne_of_gt ?_; first | exact o6.2.2.2.2.1 | exact o6.2.2.2.2.2.1 | exact o6.2.2.2.2.2.2.1)) (off_cons (fun b hb => by
      rcases inL3 hb with rfl | rfl | rfl <;> (refine Nat.ne_of_gt ?_; first | exact o5.2.2.2.1 | exact o5.2.2.2.2.1 | exact o5.2.2.2.2.2.1)) off3)
  refine Hold.mk (call_G (front := [(rl, W.listOf V.toArray c), (cl, oc), (58, o58)]) F6 N6 off4 (reduce_spec (s := ⟨_, _, _, _, _⟩) (st := ([], S "")) (objs := (D5, { cls := Value.type "tuple", data := Data.seq #[Value.ref l5, Value.str (Str.ofString "") tk] }) :: (l5, W.listOf #[] 0) :: tl3) (vs := vsa) (n := na) (tp9.here (s := ⟨_, _, _, _, _⟩) F6) (by k_room) rfl (N6 _ (List.mem_append_right [_, _, _] (.tail _ (.tail _ hla)))).1 (strs_of hsa) fit.steps (fun p hp => (N6 p (List.mem_append_right _ hp)).1) (.tuple (vs := [_, _]) (.head _) (.cons (.list (vs := []) (.tail _ (.head _)) .nil) (.cons (.str _ _) .nil)))) (fun v5 h5 tk5 new5 tl5 F7 N7 off5 hP5 a5 b5 e5 => ?_))
  rw [fit.fold] at hP5
  refine Classical.byContradiction fun hn7 => ?_
  obtain ⟨u5, nu5, vu5, rfl, hu5, hsu5⟩ := DatIn.tupOf (DatIn.mono (fun p hp => (List.mem_append.mp hp).elim (a5 p) (b5 p)) hP5)
  obtain ⟨vr, vs', rfl, z1, z2⟩ := dat2 hsu5
  refine hn7 ?_
  dsimp only [List.cons_append, List.nil_append, List.map_cons, List.map_nil] at N7 off5
  replace N7 := News.sub N7 (l' := (u5, { cls := .type "tuple", data := .seq #[vr, vs'] nu5 }) :: (rl, W.listOf V.toArray c) :: (cl, oc) :: (58, o58) :: tl5) (fun p hp => by
    rcases List.mem_cons.mp hp with rfl | hp
    · exact .tail _ (.tail _ (.tail _ hu5))
    · exact hp)
  have hu5n : @Ne Nat u5 rl := off5 _ hu5 _ (.head _)
  clear F6 N6
  dsimp only
  walk_at "steps"
  (rename Fr _ _ _ _ => F8); (rename News _ _ _ _ => N8)
  rw [List.push_toArray] at N8
  have toff : ∀ q ∈ tl, q.1 ∉ led.map (·.1) → q ∈ tl5 := fun q hq hn => b5 q (.tail _ (.tail _ (b3 q (b2 q (b1 q hq)) hn)))
  have z1' : DatIn tl5 vr (.list (rows.map rowD)) := z1
  refine k _ _ _ vr _ _ led' F8 (News.sub N8 (l' := [(rl, W.listOf (V ++ [vr]).toArray (c + 1)), (cl, oc), (58, o58)] ++ tl5) (fun q hq => by
    dsimp only [List.cons_append, List.nil_append] at hq
    exact .tail _ hq)) off5 t' (fun q hq => b5 q (.tail _ (.tail _ (a3 q (hl' q hq))))) toff
    (fun v d h => DatIn.mono (fun q hq => b5 q (.tail _ (.tail _ hq))) (c3 v d (DatIn.mono (fun q hq => b2 q (b1 q hq)) h)))
    (fun v d h => DatAll.mono (fun q hq => b5 q (.tail _ (.tail _ hq))) (d3 v d (DatAll.mono (fun q hq => b2 q (b1 q hq)) h))) z1' rfl rfl (fun p hp => ?_)
  rcases e3 p (hl' p hp) with z | z
  · exact .inl z
  · exact .inr fun q hq => z q (b2 q (b1 q hq))
end Mine
end
section
open PySem PySem.W PyProof.Rows PySem.Calls
set_option maxRecDepth 100000
namespace Mine
noncomputable def stmtOf : Option Stmt → Stmt
  | some t => t
  | none => .Pass default
noncomputable def lawFor1S : Stmt := stmtOf (stmtsAt 18)[2]?
inductive For1J (lt rl cl : Addr) (olt oc o58 : Obj) (tabs : List Value) (sides : List (List Row)) (i : Nat) (m : Str → Option Value) (nx : List (Addr × Obj)) : Prop
  | mk (V : List Value) (c : Nat) (tl led : List (Addr × Obj)) (e : nx = [(rl, W.listOf (List.toArray V) c), (cl, oc), (58, o58)] ++ tl) (off : OwnOff tl [rl, cl, 58]) (t : TokLed led) (hl : ∀ p ∈ led, p ∈ tl) (hlt : (lt, olt) ∈ tl) (hv : DatAll tl tabs (sides.map fun r => .list (r.map rowD))) (hV : DatAll tl V ((sides.take i).map fun r => .list (r.map rowD))) (e1 : m (S "tables") = some (.ref lt)) (e2 : m (S "rows") = some (.ref rl)) : For1J lt rl cl olt oc o58 tabs sides i m nx
theorem OwnOff.left {own l1 l2 : List (Addr × Obj)} (h : OwnOff own ((l1 ++ l2).map (·.1))) : OwnOff own (l1.map (·.1)) := fun p hp b hb => h p hp b (by rw [List.map_append]; exact List.mem_append_left _ hb)
theorem OwnOff.right {own l1 l2 : List (Addr × Obj)} (h : OwnOff own ((l1 ++ l2).map (·.1))) : OwnOff own (l2.map (·.1)) := fun p hp b hb => h p hp b (by rw [List.map_append]; exact List.mem_append_right _ hb)
set_option maxHeartbeats 1000000 in
theorem law_for1 {w : World} {Q : Flow → Shared → Prop} {hp g : Heap} {gs : Array GenState} {d : Drawn} {tk : Nat} {os : OsState} {L fa rl cl lt : Addr} {cd : Value} {m : Str → Option Value} {oc o58 : Obj} {tl : List (Addr × Obj)} {sides : List (List Row)} {tabs : List Value} {nt c : Nat} {mean : ExcName → Option Value} {mg mb : Str → Option Value}
    (tp9 : Tops9 w mean mg mb g) (B0 : Below callerA g [] g) (F : Fr g L hp m) (N : News g L hp ([(rl, W.listOf #[] c), (cl, oc), (58, o58)] ++ tl)) (off : OwnOff tl [rl, cl, 58]) (hl : (107, tabObj #[]) ∈ tl)
    (m1 : m (S "tables") = some (.ref lt)) (m2 : m (S "rows") = some (.ref rl)) (hlt : (lt, W.listOf tabs.toArray nt) ∈ tl) (hv : DatAll tl tabs (sides.map fun r => .list (r.map rowD))) (hne : @Ne Nat rl cl ∧ @Ne Nat rl 58 ∧ @Ne Nat cl 58) (hsz : sides.length ≤ 5) (fit : ∀ r ∈ sides, Fit r)
    (k : ∀ h' tk' m' V' c' tl' led', Fr g L h' m' → News g L h' ([(rl, W.listOf (List.toArray V') c'), (cl, oc), (58, o58)] ++ tl') → OwnOff tl' [rl, cl, 58] → TokLed led' → (∀ p ∈ led', p ∈ tl') → (lt, W.listOf tabs.toArray nt) ∈ tl' → DatAll tl' tabs (sides.map fun r => .list (r.map rowD)) → DatAll tl' V' (sides.map fun r => .list (r.map rowD)) → m' (S "tables") = some (.ref lt) → m' (S "rows") = some (.ref rl) → Q .next ⟨h', gs, d, tk', os⟩) :
    wpAny (model prg w) (callerA.deeper (lawEnv L fa cd)) (exec lawFor1S (lawEnv L fa cd)) Q NoE ⟨hp, gs, d, tk, os⟩ := by
  have o1 : On "call ref" := ⟨⟩
  have o2 : On "execs cons" := ⟨⟩
  have o3 : On "pyIter ref" := ⟨⟩
  refine Classical.byContradiction fun hn1 => ?_
  obtain ⟨X, T⟩ := id tp9.tops
  refine hn1 ?_
  replace F := Fr.know F m1
  have e : lawFor1S = lawFor1S := rfl
  conv at e => rhs; whnf
  rw [e]
  clear e
  refine wpAny_For ?_ (by intro _; rfl)
  walk_at "steps"
  refine Hold.mk ?_
  refine iter_list' (For1J lt rl cl (W.listOf tabs.toArray nt) oc o58 tabs sides) rfl (items := tabs.toArray) ⟨_, (N _ (List.mem_append_right _ hlt)).1, rfl, _, rfl⟩ (fun q => (N _ (List.mem_append_right [_, _, _] hlt)).2.1 q) (.inr ⟨W.listOf tabs.toArray nt, ?hwh⟩) ?hgo F N ⟨[], c, tl, _, rfl, off, .one, (fun p hp => by rw [List.mem_singleton.mp hp]; exact hl), hlt, hv, .nil, rfl, m2⟩ ?turn ?done
  case hwh =>
    rintro i m nx ⟨V, c, tl, led, rfl, -, -, -, h, -⟩
    exact List.mem_append_right _ h
  case hgo =>
    intro I i s' v Q' hv hit hq
    exact wpAny_pure hq
  case turn =>
    rintro i v m₁ nx h tk own hvi ⟨V, c, tl, led, rfl, off, t, hl, hlt, hv, hV, e1, e2⟩ hoff hns F₁ N₁
    have hlen := hv.length
    have hVl := hV.length
    rw [List.length_map] at hlen hVl
    have hi : i < tabs.length := (List.getElem?_eq_some_iff.mp (show tabs[i]? = some v by simpa using hvi)).1
    refine Classical.byContradiction fun hn2 => ?_
    obtain ⟨dv, hdv, hin⟩ := DatAll.at hv (i := i) (by simpa using hvi)
    rw [List.getElem?_map] at hdv
    obtain ⟨r, hr, rfl⟩ : ∃ r, sides[i]? = some r ∧ Dat.list (r.map rowD) = dv := by
      cases q : sides[i]? with
      | none => rw [q] at hdv; cases hdv
      | some r => rw [q] at hdv; exact ⟨r, rfl, Option.some.inj hdv⟩
    refine hn2 ?_
    have hoL : OwnOff own (led.map (·.1)) := fun p hp b hb => by
      refine Classical.byContradiction fun hn3 => ?_
      obtain ⟨z, hz, rfl⟩ := List.mem_map.mp hb
      refine hn3 ?_
      exact OwnOff.right hoff p hp _ (List.mem_map_of_mem (hl z hz))
    walk_at "steps"
    (rename Fr _ _ _ _ => F2); (rename News _ _ _ _ => N2)
    refine Hold.mk (law_turn1 (rows := r) (V := V) (c := c) (tl := tl ++ own) (led := led) tp9 B0 F2 N2 (OwnOff.app off (OwnOff.left (l1 := [(rl, W.listOf V.toArray c), (cl, oc), (58, o58)]) hoff)) t (fun p hp => List.mem_append_left _ (hl p hp)) (fit r (List.mem_of_getElem? hr)) rfl ((if_neg (by decide)).trans e2) (DatIn.mono (fun p hp => List.mem_append_left _ hp) hin) hne (by rw [List.length_take] at hVl; lia) (fun h' tk' m' v' c' tl' led' F3 N3 off' t' hl' keepT cD cA hv' g1 g2 fr => ?_))
    have ownT : ∀ p ∈ own, p ∈ tl' := fun p hp => keepT p (List.mem_append_right _ hp) (fun q => by
      refine Classical.byContradiction fun hn4 => ?_
      obtain ⟨z, hz, e⟩ := List.mem_map.mp q
      refine hn4 ?_
      exact hoL p hp z.1 (List.mem_map_of_mem hz) e.symm)
    have dropOwn : ∀ p ∈ tl', (∀ vs n, p.2.data ≠ .seq vs n) ∨ p ∈ rm (own.map (·.1)) tl' := fun p hp => by
      by_cases hq : p.1 ∈ own.map (·.1)
      · obtain ⟨z, hz, e⟩ := List.mem_map.mp hq
        have x1 := (N3 z (List.mem_append_right _ (ownT z hz))).1
        have x2 := (N3 p (List.mem_append_right _ hp)).1
        rw [show z.1 = p.1 from e, x2] at x1
        rw [Option.some.inj x1]
        exact .inl (hns z hz)
      · exact .inr (mem_rm.mpr ⟨hp, hq⟩)
    have offO : OwnOff own (([(rl, W.listOf (V ++ [v']).toArray c'), (cl, oc), (58, o58)] ++ rm (own.map (·.1)) tl').map (·.1)) := fun p hp b hb => by
      rw [List.map_append] at hb
      rcases List.mem_append.mp hb with hb | hb
      · exact off' p (ownT p hp) b hb
      · obtain ⟨z, hz, rfl⟩ := List.mem_map.mp hb
        exact fun e => (mem_rm.mp hz).2 (e ▸ List.mem_map_of_mem hp)
    refine TurnEnd.mk (nx := [(rl, W.listOf (V ++ [v']).toArray c'), (cl, oc), (58, o58)] ++ rm (own.map (·.1)) tl') F3 N3 (fun p hp => ?_) (fun p hp => List.mem_append_right _ (ownT p hp)) ⟨⟨V ++ [v'], c', _, led', rfl, fun p hp => off' p (mem_rm.mp hp).1, t', fun p hp => mem_rm.mpr ⟨hl' p hp, fun q => ?_⟩, ?_, ?_, ?_, g1.trans ((if_neg (by decide)).trans e1), g2⟩, offO⟩
    · rcases List.mem_append.mp hp with hp | hp
      · exact List.mem_append_left _ hp
      · exact List.mem_append_right _ (mem_rm.mp hp).1
    · obtain ⟨z, hz, e⟩ := List.mem_map.mp q
      rcases fr p hp with y | y
      · obtain ⟨u, hu, e2⟩ := List.mem_map.mp y
        exact hoL z hz u.1 (List.mem_map_of_mem hu) (e.trans e2.symm)
      · exact y z (List.mem_append_right _ hz) e
    · refine mem_rm.mpr ⟨keepT _ (List.mem_append_left _ hlt) (fun q => ?_), fun q => ?_⟩
      · obtain ⟨z, hz, e⟩ := List.mem_map.mp q
        have x1 := (N2 z (List.mem_append_left _ (List.mem_append_right _ (hl z hz)))).1
        have x2 := (N2 _ (List.mem_append_left _ (List.mem_append_right [_, _, _] hlt))).1
        rw [show z.1 = lt from e, x2] at x1
        exact t.noSeq z hz _ _ (by rw [← Option.some.inj x1])
      · obtain ⟨z, hz, e⟩ := List.mem_map.mp q
        exact OwnOff.right (l1 := [(rl, W.listOf V.toArray c), (cl, oc), (58, o58)]) hoff z hz lt (List.mem_map_of_mem hlt) e
    · exact DatAll.drop dropOwn (cA _ _ (DatAll.mono (fun p hp => List.mem_append_left _ hp) hv))
    · refine DatAll.drop dropOwn ?_
      rw [List.take_add_one, hr]
      simp only [Option.toList_some, List.map_append, List.map_cons, List.map_nil]
      exact DatAll.append (cA _ _ (DatAll.mono (fun p hp => List.mem_append_left _ hp) hV)) (.cons hv' .nil)
  case done =>
    rintro m₁ nx h tk ⟨V, c, tl, led, rfl, off, t, hl, hlt, hv, hV, e1, e2⟩ F₁ N₁
    rw [List.take_of_length_le (by have := hv.length; rw [List.length_map] at this; rw [List.size_toArray]; lia)] at hV
    exact k _ _ _ _ _ _ _ F₁ N₁ off t hl hlt hv hV e1 e2
end Mine
end
section
open PySem PySem.W PyProof.Rows PySem.Calls
set_option maxRecDepth 100000
namespace Mine
theorem tl_ga : typeLookup (.type "type") (S "__getattribute__") = pure (some (.builtin "type.__getattribute__")) := by rw [typeLookup_type, builtinLookup_eq_fast]; kernel_rfl
theorem tl_prep : typeLookup (.type "type") (S "__prepare__") = pure (some (.builtin "type.__prepare__")) := by rw [typeLookup_type, builtinLookup_eq_fast]; kernel_rfl
theorem ty_prep : typeOf (.builtin "type.__prepare__") = pure (.type "classmethod_descriptor") := by show builtinType _ = _; rw [builtinType_eq_fast]; kernel_rfl
theorem tl_cmd_get : typeLookup (.type "classmethod_descriptor") (S "__get__") = pure (some (.builtin "classmethod_descriptor.__get__")) := by rw [typeLookup_type, builtinLookup_eq_fast]; kernel_rfl
theorem tl_cmd_set : typeLookup (.type "classmethod_descriptor") (S "__set__") = pure none := by rw [typeLookup_type, builtinLookup_eq_fast]; kernel_rfl
theorem tl_cmd_del : typeLookup (.type "classmethod_descriptor") (S "__delete__") = pure none := by rw [typeLookup_type, builtinLookup_eq_fast]; kernel_rfl
theorem slot_type_ga : Slot "type" "__getattribute__" "type.__getattribute__" :=
  .of (owner := "type") (n := "__getattribute__") (by rw [typeLookup_type, builtinLookup_eq_fast]; kernel_rfl) (by decide +kernel) (by decide +kernel) (by decide +kernel)
    (by first | exact .inl (by decide +kernel) | exact .inr (by decide +kernel)) (by rw [isSubtype_type]; kernel_rfl)
theorem entry_type_ga : entryFor table "type.__getattribute__" = some Builtin.«type.__getattribute__» := entryFor_of_fast (by kernel_rfl)
theorem args_type_ga (a b : Value) : argsOk "type.__getattribute__" ⟨[a, b], []⟩ := by unfold argsOk; kernel_rfl
theorem slot_cmd_get : Slot "classmethod_descriptor" "__get__" "classmethod_descriptor.__get__" :=
  .of (owner := "classmethod_descriptor") (n := "__get__") (by rw [typeLookup_type, builtinLookup_eq_fast]; kernel_rfl) (by decide +kernel) (by decide +kernel) (by decide +kernel)
    (by first | exact .inl (by decide +kernel) | exact .inr (by decide +kernel)) (by rw [isSubtype_type]; kernel_rfl)
theorem entry_cmd_get : entryFor table "classmethod_descriptor.__get__" = some Builtin.«classmethod_descriptor.__get__» := entryFor_of_fast (by kernel_rfl)
theorem args_cmd_get (a b c : Value) : argsOk "classmethod_descriptor.__get__" ⟨[a, b, c], []⟩ := by unfold argsOk; kernel_rfl
end Mine
end
section
open PySem PySem.W PyProof.Rows PySem.Calls
set_option maxRecDepth 100000
namespace Mine
theorem mro_type : mroOf (.type "type") = pure [.type "type", .type "object"] := by first | rfl | kernel_rfl
theorem made_type : Bind.madeBy (.type "type") = pure (some "type.__new__") := by kernel_rfl
theorem check_tt (x : Str) (t : Tok) (b n : Addr) : checkTypeCall "type" ⟨[.str x t, .ref b, .ref n], []⟩ = pure () := by kernel_rfl
theorem sub_tt : isSubtype (.type "type") (.type "type") = pure true := by rw [isSubtype_type]; kernel_rfl
theorem tl_tinit : typeLookup (.type "type") (S "__init__") = pure (some (.builtin "type.__init__")) := by rw [typeLookup_type, builtinLookup_eq_fast]; kernel_rfl
theorem slot_type_init : Slot "type" "__init__" "type.__init__" :=
  .of (owner := "type") (n := "__init__") (by rw [typeLookup_type, builtinLookup_eq_fast]; kernel_rfl) (by decide +kernel) (by decide +kernel) (by decide +kernel)
    (by first | exact .inl (by decide +kernel) | exact .inr (by decide +kernel)) (by rw [isSubtype_type]; kernel_rfl)
theorem entry_type_init : entryFor table "type.__init__" = some Builtin.«type.__init__» := entryFor_of_fast (by kernel_rfl)
theorem args_type_init (a b c e : Value) : argsOk "type.__init__" ⟨[a, b, c, e], []⟩ := by unfold argsOk; kernel_rfl
theorem run_type_init (a b c e : Value) : Builtin.«type.__init__» ⟨[a, b, c, e], []⟩ = pure (.done (.ret .none)) := by kernel_rfl
set_option maxHeartbeats 1000000 in
theorem type_call {prog : Program} {w : World} {A : Around} {E : Value → Shared → Prop} {hp : Heap} {g : Array GenState} {d : Drawn} {tk : Nat} {os : OsState} {x : Str} {t : Tok} {b n : Addr} {Q : Value → Shared → Prop}
    (h : wpAny (model prog w) (A.under (.builtin "type.__call__" ⟨[.type "type", .str x t, .ref b, .ref n], []⟩)) (call (.builtin "type.__new__") [.type "type", .str x t, .ref b, .ref n]) (fun v s' => ∃ a o, v = .ref a ∧ s'.heap.get? a = some o ∧ o.cls = .type "type" ∧ Q v s') E ⟨hp, g, d, tk, os⟩) :
    wpAny (model prog w) A (call (.type "type") [.str x t, .ref b, .ref n] []) Q E ⟨hp, g, d, tk, os⟩ := by
  refine wpAny_call (codeAny_of_tree ?_)
  show wpAny _ _ (callAny (.type "type") _) _ _ _
  refine wpAny_pure (And.intro (Code.quiet_builtin _ (by decide +kernel)) (codeAny_builtin entry_typeCall ?_))
  unfold Builtin.«type.__call__»
  dsimp only
  refine l_yes (by kernel_rfl) (l_no (by kernel_rfl) (l_no (by kernel_rfl) (l_no (by kernel_rfl) ?_)))
  refine wpAny_bind (wpAny_of_eq (check_tt x t b n) ?_)
  refine wpAny_bind (wpAny_of_eq mro_type ?_)
  refine l_no (by kernel_rfl) ?_
  refine wpAny_bind (wpAny_of_eq made_type ?_)
  dsimp only
  refine wpAny_bind (wpAny_pure ?_)
  refine wpAny_bind (wpAny_holding (wpAny_mono h (fun v s' hv => ?_) fun _ _ e => e))
  refine Classical.byContradiction fun hn1 => ?_
  obtain ⟨a, o, rfl, ha, hc, hQ⟩ := hv
  refine hn1 ?_
  refine wpAny_bind (wpAny_bind (wpAny_typeOf (T := "type") ⟨o, ha, hc⟩ (wpAny_of_eq sub_tt ?_)))
  refine l_no (by kernel_rfl) ?_
  refine wpAny_bind (wpAny_holding ?_)
  have hT : Shared.TypeIs s' (.ref a) "type" := ⟨o, ha, hc⟩
  refine wpAny_callSpecial?_slot (name := Str.ofString "__init__") hT slot_type_init (wpAny_call_entry slot_type_init hT entry_type_init ?_ (args_type_init _ _ _ _))
  rw [run_type_init]
  refine wpAny_pure ⟨_, rfl, ?_⟩
  dsimp only
  exact l_no (by kernel_rfl) (wpAny_pure hQ)
end Mine
end
section
open PySem PySem.W PyProof.Rows PySem.Calls
set_option maxRecDepth 100000
namespace Mine
theorem cmd_get_tree : Builtin.«classmethod_descriptor.__get__» ⟨[.builtin "type.__prepare__", .none, .type "type"], []⟩ = (newFields "builtin_function_or_method" [.builtin "type.__prepare__", .type "type"] >>= fun v => ret v) := by kernel_rfl
theorem prep_get {prog : Program} {w : World} {A : Around} {E : Value → Shared → Prop} {s : Shared} {Q : Option Value → Shared → Prop}
    (h : ∀ tk, Q (some (.ref s.heap.objs.size)) { s with heap := s.heap.push { cls := .type "builtin_function_or_method", data := .fields #[.builtin "type.__prepare__", .type "type"] }, toks := tk }) :
    wpAny (model prog w) A (getAttr? (.type "type") (S "__prepare__")) Q E s := by
  unfold getAttr? getAttrBy? 
  refine wpAny_bind (wpAny_mkText ?_)
  refine wpAny_bind (wpAny_attempt ?_)
  unfold getAttrBy
  refine wpAny_holding (wpAny_bind ?_)
  refine wpAny_of_eq (a := Value.type "type") (by rfl) ?_
  refine wpAny_bind (wpAny_of_eq tl_ga ?_)
  dsimp only
  rw [if_neg (by decide)]
  unfold getAttrByItsOwn
  refine wpAny_bind (wpAny_of_eq (a := none) (by rfl) ?_)
  refine wpAny_bind (wpAny_attempt (wpAny_holding ?_))
  unfold callGetattribute
  rw [if_neg (by decide)]
  unfold boundAndCalled
  refine wpAny_bind (wpAny_of_eq (slot_type_ga.bind (.type "type")) ?_)
  show wpAny _ _ (call (.builtin "type.__getattribute__") [.type "type", .str (S "__prepare__") s.toks]) _ _ _
  refine wpAny_call_entry slot_type_ga (T := "type") (by rfl) entry_type_ga ?_ (args_type_ga _ _)
  have a1 := tl_prep
  have a2 := tl_cmd_get
  have a3 := tl_cmd_set
  have a4 := tl_cmd_del
  have a5 := ty_prep
  have a6 : typeOf (.type "type") = pure (.type "type") := by rfl
  have a7 : opaqueClassAbove (.type "type") = pure none := by rfl
  have a8 : Builtin.heldUnderItsOwnName (S "__prepare__") (.builtin "type.__prepare__") = false := by decide +kernel
  unfold Builtin.«type.__getattribute__»
  wp_walk
  refine codeAny_slot (A := A.in1) slot_cmd_get (T := "classmethod_descriptor") (self := .builtin "type.__prepare__") ty_prep entry_cmd_get (args_cmd_get _ _ _) ?_
  rw [cmd_get_tree]
  refine wpAny_bind (wpAny_newObj_type ?_ (by size_fits))
  refine wpAny_pure ⟨_, rfl, ?_⟩
  dsimp only
  refine wpAny_pure ⟨_, rfl, ?_⟩
  exact wpAny_pure (wpAny_pure (h _))
theorem plain_prep : plainId "type.__prepare__" = true := by decide +kernel
theorem entry_prep : entryFor table "type.__prepare__" = some Builtin.«type.__prepare__» := entryFor_of_fast (by kernel_rfl)
theorem check_prep (x : Str) (t : Tok) (b : Addr) : checkBoundCall "type.__prepare__" ⟨[.type "type", .str x t, .ref b], []⟩ = pure () := by kernel_rfl
theorem prep_tree (args : Args) : Builtin.«type.__prepare__» args = (newObj (.type "dict") (.dict #[]) >>= fun v => ret v) := rfl
theorem prep_call {prog : Program} {w : World} {A : Around} {E : Value → Shared → Prop} {s : Shared} {Q : Value → Shared → Prop} {p b : Addr} {x : Str} {t : Tok}
    (hp : s.heap.get? p = some { cls := .type "builtin_function_or_method", data := .fields #[.builtin "type.__prepare__", .type "type"] })
    (h : Q (.ref s.heap.objs.size) { s with heap := s.heap.push { cls := .type "dict", data := .dict #[] } }) :
    wpAny (model prog w) A (call (.ref p) [.str x t, .ref b] []) Q E s := by
  refine wpAny_call ?_
  obtain ⟨hh, g, dr, tk, os⟩ := s
  refine codeAny_of_tree ?_
  show wpAny _ _ (callAny (.ref p) _) _ _ _
  dsimp only at hp
  unfold callAny
  refine wpAny_bind (wpAny_load hp ?_)
  dsimp only
  rw [if_pos (by decide)]
  (try dsimp only)
  have e1 : (#[Value.builtin "type.__prepare__", Value.type "type"] : Array Value)[0]? = some (.builtin "type.__prepare__") := by rfl
  have e2 : (#[Value.builtin "type.__prepare__", Value.type "type"] : Array Value)[1]? = some (.type "type") := by rfl
  rw [e1, e2]
  dsimp only
  rw [if_pos (by decide)]
  refine wpAny_bind (wpAny_of_eq (check_prep x t b) ?_)
  refine wpAny_pure ⟨plainId_quiet plain_prep _, codeAny_builtin entry_prep ?_⟩
  rw [Around.under_plainId plain_prep _, prep_tree]
  refine wpAny_bind (wpAny_newObj_type ?_ (by size_fits))
  exact wpAny_pure h
theorem l_prep {prog : Program} {w : World} {A : Around} {E : Value → Shared → Prop} {hp : Heap} {g : Array GenState} {d : Drawn} {tk : Nat} {os : OsState} {β : Type} {Q : β → Shared → Prop} {h₀ : Heap} {L : Addr} {m : Str → Option Value} {news : List (Addr × Obj)} {f : Option Value → Sem β}
    (F : Fr h₀ L hp m) (N : News h₀ L hp news)
    (h : ∀ p hp' tk', Fr h₀ L hp' m → News h₀ L hp' ((p, { cls := .type "builtin_function_or_method", data := .fields #[.builtin "type.__prepare__", .type "type"] }) :: news) → AllLt p news → wpAny (model prog w) A (f (some (.ref p))) Q E ⟨hp', g, d, tk', os⟩) :
    wpAny (model prog w) A (getAttr? (.type "type") (S "__prepare__") >>= f) Q E ⟨hp, g, d, tk, os⟩ :=
  wpAny_bind (prep_get fun tk' => h _ _ tk' (F.push _) (News.push F N _ rfl) (ledLt N))
theorem l_prepCall {prog : Program} {w : World} {A : Around} {E : Value → Shared → Prop} {hp : Heap} {g : Array GenState} {d : Drawn} {tk : Nat} {os : OsState} {β : Type} {Q : β → Shared → Prop} {h₀ : Heap} {L : Addr} {m : Str → Option Value} {news : List (Addr × Obj)} {b p : Addr} {x : Str} {t : Tok} {f : Value → Sem β}
    (F : Fr h₀ L hp m) (N : News h₀ L hp ((p, { cls := .type "builtin_function_or_method", data := .fields #[.builtin "type.__prepare__", .type "type"] }) :: news))
    (h : ∀ a hp', Fr h₀ L hp' m → News h₀ L hp' ((a, dictOf [] 0) :: news) → AllLt a news → wpAny (model prog w) A (f (.ref a)) Q E ⟨hp', g, d, tk, os⟩) :
    wpAny (model prog w) A (call (.ref p) [.str x t, .ref b] [] >>= f) Q E ⟨hp, g, d, tk, os⟩ :=
  wpAny_bind (prep_call (N _ (.head _)).1 (h _ _ (F.push _) (News.sub (News.push F N _ rfl) (fun q hq => by rcases List.mem_cons.mp hq with rfl | hq; exact .head _; exact .tail _ (.tail _ hq))) (ledLt N).2))
end Mine
end
section
open PySem PySem.W PyProof.Rows PySem.Calls
set_option maxRecDepth 100000
namespace Mine
inductive CodeObj (o : Obj) (P : Addr) : Prop
  | mk (vs : Array Value) (file : Str) (tf : Tok) (flags : Int) (tg : Tok) (inF : Bool) (text : Int) (tt : Tok) (h1 : o.cls = .type "code") (h2 : o.data = .fields vs) (h3 : vs[11]? = some (.ref P)) (h4 : vs.getD 11 .none = .ref P) (h5 : vs.getD 18 .none = .str file tf)
    (h6 : vs.getD 7 .none = .int flags tg) (h7 : vs.getD 9 .none = .bool inF) (h8 : vs.getD 10 .none = .int text tt) : CodeObj o P
theorem CodeObj.hd {o : Obj} {h : Heap} {c P : Addr} (x : CodeObj o P) (e : h.get? c = some o) (hne : c ≠ P) : CodeHd h c P := by
  refine Classical.byContradiction fun hn1 => ?_
  obtain ⟨vs, file, tf, flags, tg, inF, text, tt, a1, a2, a3, a4, a5, a6, a7, a8⟩ := x
  refine hn1 ?_
  exact ⟨o, vs, file, tf, flags, tg, inF, text, tt, e, a1, a2, a3, a4, a5, a6, a7, a8, hne⟩
section
variable {M : Model} {A : Around} {E : Value → Shared → Prop} {hp h₀ : Heap} {gs : Array GenState} {d : Drawn} {tk : Nat} {os : OsState} {s : Shared} {L c P : Addr} {m mg mb : Str → Option Value} {news : List (Addr × Obj)} {g : Obj → List (Addr × Obj)} {env : Env}
  {p : Program} {loose : List Str} {mean : ExcName → Option Value} {name qual : Str} {params : Arguments} {body : List Stmt} {scope : Scope} {ps : Array Value} {pos : Pos} {firstLine : Nat} {clos : List (Str × Addr)}
theorem builtins_at (F : Fr h₀ L s.heap m) (hm : s.heap.get? P = some (tabObj ps)) (T : Top p loose mean mg mb h₀) : s.heap.BuiltinsAt mg P ∧ mainGlobals ≠ P := by
  have hgs := T.g.keeps F.keep
  refine Classical.byContradiction fun hn1 => ?_
  obtain ⟨bm, ob, b1, b2, b3, b4, b5, b6⟩ := T.bmain
  refine hn1 ?_
  have hgP : mainGlobals ≠ P := fun q => by
    refine Classical.byContradiction fun hn2 => ?_
    obtain ⟨o, es, ep, e, hd, _⟩ := hgs
    refine hn2 ?_
    rw [q, hm] at e; cases e; cases hd
  have hbP : bm ≠ P := fun q => by
    have e := F.keep _ _ b3
    rw [q, hm] at e; cases e; cases b4
  have hbG : bm ≠ mainGlobals := fun q => by
    refine Classical.byContradiction fun hn3 => ?_
    obtain ⟨o, es, ep, e, hd, _⟩ := T.g
    refine hn3 ?_
    rw [q, e] at b3; cases b3; rw [hd] at b6; cases b6
  exact ⟨⟨bm, ob, b1, b2, hbG, hbP, F.keep _ _ b3, b4, b5, b6⟩, hgP⟩
theorem nest_L {Q : Value → Shared → Prop} (F : Fr h₀ L s.heap m) (N : News h₀ L s.heap news) (T : Top p loose mean mg mb h₀) (C : CodeHd s.heap c P) (hcd : env.code = .ref c) (hgl : env.globals = mainGlobals) (U : UpdF P (tabObj ps) news g) (ht : TriplesOk ps.toList) (hnf : codeAmong pos ps.toList = none)
    (hcl : closureFor scope env = pure clos)
    (h : ∀ f c' oc vs t ctv doc h' tk, Fr h₀ L h' m →
      News h₀ L h' ((f, fnMade name qual params body scope clos doc ((mg "__name__").getD .none) c' ctv) :: (c', oc) :: g (tabObj (ps ++ #[rawInt pos.line, rawInt pos.col, .ref c']))) →
      oc.data = .fields vs → vs[1]? = some (.str qual t) → AllLt c' news → @LT.lt Nat _ c' f → Q (.ref f) { s with heap := h', toks := tk }) :
    wpAny M A (makeFunction name qual params (.stmts body) scope env [] [] [] pos firstLine) Q E s := by
  refine Classical.byContradiction fun hn1 => ?_
  obtain ⟨own, rest, rfl, hgr, h1, h2⟩ := U.split
  have hm := N (P, tabObj ps) (List.mem_append_right _ (.head _))
  obtain ⟨hb, hgP⟩ := builtins_at F hm.1 T
  refine hn1 ?_
  refine makeFunction_K (mg := mg) hcl hgl (T.g.keeps F.keep) hcd C hm.1 ht hnf hgP hb fun c' ctv doc h' tk hx hge hlt hrec htb => ?_
  refine Classical.byContradiction fun hn2 => ?_
  obtain ⟨c₂, oc, vs, t, e2, hoc, hd, hv⟩ := hrec
  refine hn2 ?_
  cases e2
  have hLs : L < s.heap.objs.size := F.ns.lt
  have hLc : L < c' := Nat.lt_of_lt_of_le hLs hge
  have old : ∀ b o, h₀.get? b = some o → h'.get? b = some o := fun b o e => hx b o (fun q => by rw [q, hm.2.2] at e; cases e) (F.keep b o e)
  have fresh : ∀ b, L < b → h₀.get? b = none := fun b hb => Heap.get?_none_of_le (Nat.le_trans F.above (Nat.le_of_lt hb))
  refine h h'.objs.size c' oc vs t ctv doc _ tk ⟨(F.ns.extBut hx hm.2.1.symm).push _, fun b o e => Heap.get?_push_of_some _ (old b o e), F.above⟩ (fun q hq => ?_) hd hv
    (allLt_of fun q hq => Nat.lt_of_lt_of_le (Heap.lt_size (N q hq).1) hge) hlt
  rcases List.mem_cons.mp hq with rfl | hq
  · exact ⟨Heap.get?_push_size _ rfl, Nat.ne_of_gt (Nat.lt_trans hLc hlt), fresh _ (Nat.lt_trans hLc hlt)⟩
  · rcases List.mem_cons.mp hq with rfl | hq
    · exact ⟨Heap.get?_push_of_some _ hoc, Nat.ne_of_gt hLc, fresh _ hLc⟩
    · rw [hgr] at hq
      rcases List.mem_append.mp hq with hq | hq
      · have n := N q (List.mem_append_left _ hq)
        exact ⟨Heap.get?_push_of_some _ (hx _ _ (h1 q hq) n.1), n.2⟩
      · rcases List.mem_cons.mp hq with rfl | hq
        · exact ⟨Heap.get?_push_of_some _ htb, hm.2⟩
        · have n := N q (List.mem_append_right _ (.tail _ hq))
          exact ⟨Heap.get?_push_of_some _ (hx _ _ (h2 q hq) n.1), n.2⟩
theorem nestHit_L {Q : Value → Shared → Prop} {c' : Addr} (F : Fr h₀ L s.heap m) (N : News h₀ L s.heap news) (T : Top p loose mean mg mb h₀) (C : CodeHd s.heap c P) (hcd : env.code = .ref c) (hgl : env.globals = mainGlobals) (hmem : (P, tabObj ps) ∈ news) (ht : TriplesOk ps.toList) (hf : codeAmong pos ps.toList = some (.ref c'))
    (hcl : closureFor scope env = pure clos)
    (h : ∀ f ctv doc h' tk, Fr h₀ L h' m → News h₀ L h' ((f, fnMade name qual params body scope clos doc ((mg "__name__").getD .none) c' ctv) :: news) → AllLt f news → Q (.ref f) { s with heap := h', toks := tk }) :
    wpAny M A (makeFunction name qual params (.stmts body) scope env [] [] [] pos firstLine) Q E s := by
  have hm := N (P, tabObj ps) hmem
  obtain ⟨hb, hgP⟩ := builtins_at F hm.1 T
  refine makeFunction_hit (mg := mg) hcl hgl (T.g.keeps F.keep) hcd C hm.1 ht hf hb fun ctv doc h' tk hk hsz => ?_
  have hLs : L < h'.objs.size := Nat.lt_of_lt_of_le F.ns.lt hsz
  have fresh : ∀ b, L < b → h₀.get? b = none := fun b hb => Heap.get?_none_of_le (Nat.le_trans F.above (Nat.le_of_lt hb))
  refine h h'.objs.size ctv doc _ tk ⟨(F.ns.keeps hk).push _, fun b o e => Heap.get?_push_of_some _ (hk b o (F.keep b o e)), F.above⟩ (fun q hq => ?_) (allLt_of fun q hq => Nat.lt_of_lt_of_le (Heap.lt_size (N q hq).1) hsz)
  rcases List.mem_cons.mp hq with rfl | hq
  · exact ⟨Heap.get?_push_size _ rfl, Nat.ne_of_gt hLs, fresh _ hLs⟩
  · exact ⟨Heap.get?_push_of_some _ (hk _ _ (N q hq).1), (N q hq).2⟩
theorem clsCode_new {Q : Value → Shared → Prop} (F : Fr h₀ L s.heap m) (N : News h₀ L s.heap news) (C : CodeHd s.heap c P) (hcd : env.code = .ref c) (U : UpdF P (tabObj ps) news g) (ht : TriplesOk ps.toList) (hnf : codeAmong pos ps.toList = none)
    (h : ∀ cK PK oc h' tk, Fr h₀ L h' m → News h₀ L h' ((cK, oc) :: (PK, tabObj #[]) :: g (tabObj (ps ++ #[rawInt pos.line, rawInt pos.col, .ref cK]))) → CodeObj oc PK → AllLt PK news → AllLt cK news → @Ne Nat cK PK → Q (.ref cK) { s with heap := h', toks := tk }) :
    wpAny M A (classCode env pos firstLine name qual scope) Q E s := by
  refine Classical.byContradiction fun hn1 => ?_
  obtain ⟨own, rest, rfl, hgr, h1, h2⟩ := U.split
  have hm := N (P, tabObj ps) (List.mem_append_right _ (.head _))
  obtain ⟨o, vs, file, tf, flags, tg, inF, text, tt, ho, hcls, hd, h11', h11, h2', h7, h9, h10, hne⟩ := id C
  refine hn1 ?_
  unfold classCode codeAt
  rw [hcd, if_neg (show ¬ ((Value.ref c == Value.none) = true) from Bool.false_ne_true)]
  refine wpAny_bind (wpAny_fieldsOf ho hd ?_)
  rw [h11]
  refine wpAny_bind (wpAny_fieldsOf hm.1 rfl ?_)
  rw [hnf, h2', h7, h9, h10]
  refine wpAny_bind (wpAny_newCodeX fun c' P' h' tk hk hc' hP' hcode' htab' hrec' => ?_)
  have hop' := hk _ _ hm.1
  refine wpAny_bind (wpAny_updateFieldsOfTheText hop' rfl ?_)
  have e0 : Obj.mapFields (fun vs => if (codeAmong pos vs.toList).isSome = true then vs else vs ++ #[rawInt pos.line, rawInt pos.col, .ref c']) (tabObj ps) = tabObj (ps ++ #[rawInt pos.line, rawInt pos.col, .ref c']) := by
    simp only [Obj.mapFields, tabObj, hnf]; rfl
  have hget : (h'.update P (Obj.mapFields (fun vs => if (codeAmong pos vs.toList).isSome = true then vs else vs ++ #[rawInt pos.line, rawInt pos.col, .ref c']))).get? P = some (tabObj (ps ++ #[rawInt pos.line, rawInt pos.col, .ref c'])) := by
    have := Heap.get?_update_self (h := h') (Obj.mapFields (fun vs => if (codeAmong pos vs.toList).isSome = true then vs else vs ++ #[rawInt pos.line, rawInt pos.col, .ref c'])) hop' (by rw [e0]; rfl)
    rw [e0] at this
    exact this
  refine wpAny_bind (wpAny_fieldsOf hget rfl ?_)
  have hl : (ps ++ #[rawInt pos.line, rawInt pos.col, Value.ref c']).toList = ps.toList ++ [rawInt pos.line, rawInt pos.col, .ref c'] := by simp
  rw [hl, codeAmong_snoc _ ht hnf]
  refine Classical.byContradiction fun hn2 => ?_
  obtain ⟨o2, vs2, file2, tf2, flags2, tg2, inF2, text2, tt2, op2, b1, b2, b3, b4, b5, b6, b7, b8, b9, b10, b11⟩ := hcode'
  obtain ⟨⟨oc, vc, hoc, hcc, hdc, h11c⟩, htP⟩ := htab'
  refine hn2 ?_
  have e1 : o2 = oc := Option.some.inj (b1.symm.trans hoc)
  subst e1
  have e2 : vs2 = vc := by rw [b2] at hdc; cases hdc; rfl
  subst e2
  have hx := (Heap.SameBut.update h' P (Obj.mapFields (fun vs => if (codeAmong pos vs.toList).isSome = true then vs else vs ++ #[rawInt pos.line, rawInt pos.col, .ref c']))).extBut
  have hPlt : P < s.heap.objs.size := Heap.lt_size hm.1
  have hLs : L < s.heap.objs.size := F.ns.lt
  have hLc : L < c' := Nat.lt_of_lt_of_le hLs hc'
  have hLP : L < P' := Nat.lt_of_lt_of_le hLs hP'
  have hcP : c' ≠ P := Nat.ne_of_gt (Nat.lt_of_lt_of_le hPlt hc')
  have hPP : P' ≠ P := Nat.ne_of_gt (Nat.lt_of_lt_of_le hPlt hP')
  have fresh : ∀ b, L < b → h₀.get? b = none := fun b hb => Heap.get?_none_of_le (Nat.le_trans F.above (Nat.le_of_lt hb))
  refine wpAny_pure (h c' P' o2 _ tk ⟨(F.ns.keeps hk).at' fun o e => hx _ _ hm.2.1.symm e, fun b o e => hx b o (fun q => by have := hm.2.2; dsimp only at this; rw [← q, e] at this; cases this) (hk _ _ (F.keep b o e)), F.above⟩ (fun q hq => ?_)
    ⟨vs2, file2, tf2, flags2, tg2, inF2, text2, tt2, hcc, b2, h11c, b3, b4, b5, b6, b7⟩ (allLt_of fun q hq => Nat.lt_of_lt_of_le (Heap.lt_size (N q hq).1) hP') (allLt_of fun q hq => Nat.lt_of_lt_of_le (Heap.lt_size (N q hq).1) hc') b11)
  rcases List.mem_cons.mp hq with rfl | hq
  · exact ⟨hx _ _ hcP hoc, Nat.ne_of_gt hLc, fresh _ hLc⟩
  · rcases List.mem_cons.mp hq with rfl | hq
    · exact ⟨hx _ _ hPP htP, Nat.ne_of_gt hLP, fresh _ hLP⟩
    · rw [hgr] at hq
      rcases List.mem_append.mp hq with hq | hq
      · have n := N q (List.mem_append_left _ hq)
        exact ⟨hx _ _ (h1 q hq) (hk _ _ n.1), n.2⟩
      · rcases List.mem_cons.mp hq with rfl | hq
        · exact ⟨hget, hm.2⟩
        · have n := N q (List.mem_append_right _ (.tail _ hq))
          exact ⟨hx _ _ (h2 q hq) (hk _ _ n.1), n.2⟩
theorem clsCode_hit {Q : Value → Shared → Prop} {cK : Addr} (N : News h₀ L s.heap news) (C : CodeHd s.heap c P) (hcd : env.code = .ref c) (hmem : (P, tabObj ps) ∈ news) (hf : codeAmong pos ps.toList = some (.ref cK)) (h : Q (.ref cK) s) :
    wpAny M A (classCode env pos firstLine name qual scope) Q E s := by
  have hm := N (P, tabObj ps) hmem
  refine Classical.byContradiction fun hn1 => ?_
  obtain ⟨o, vs, file, tf, flags, tg, inF, text, tt, ho, hcls, hd, h11', h11, h2', h7, h9, h10, hne⟩ := id C
  refine hn1 ?_
  unfold classCode codeAt
  rw [hcd, if_neg (show ¬ ((Value.ref c == Value.none) = true) from Bool.false_ne_true)]
  refine wpAny_bind (wpAny_fieldsOf ho hd ?_)
  rw [h11]
  refine wpAny_bind (wpAny_fieldsOf hm.1 rfl ?_)
  rw [hf]
  exact wpAny_pure h
theorem builtins_run {r : Addr} {Q : Addr → Shared → Prop} (F : Fr h₀ L s.heap m) (T : Top p loose mean mg mb h₀) (h : Q builtinsNs s) : wpAny M A (builtinsFor mainGlobals r) Q E s := by
  refine Classical.byContradiction fun hn1 => ?_
  obtain ⟨bm, ob, b1, b2, b3, b4, b5, b6⟩ := T.bmain
  refine hn1 ?_
  exact wpAny_builtinsFor (T.g.keeps F.keep) b1 b2 (F.keep _ _ b3) b4 b5 b6 h
theorem storeName_cls {v : Value} (hk : env.scope.kind = .class) (hn : env.kindOf name = some .local ∨ (env.kindOf name = none ∧ compilersOwnNames.contains name = true)) : storeName env name v = localSet env name v := by
  unfold storeName
  rcases hn with hn | ⟨hn, hc⟩
  · rw [hn, hk]
    rfl
  · rw [hn, hc]
    unfold Env.blockKind
    rw [hk]
    rfl
end
section
variable {prog : Program} {w : World} {A : Around} {E : Value → Shared → Prop} {hp h₀ : Heap} {gs : Array GenState} {d : Drawn} {tk : Nat} {os : OsState} {L : Addr} {m : Str → Option Value} {news news' : List (Addr × Obj)} {env : Env} {name : Str}
theorem l_text' {x : Str} {Q : Value → Shared → Prop} (h : Q (.str x tk) ⟨hp, gs, d, tk + 1, os⟩) : wpAny (model prog w) A (mkText x) Q E ⟨hp, gs, d, tk, os⟩ := wpAny_mkText h
theorem l_int' {x : Int} {Q : Value → Shared → Prop} (h : Q (.int x tk) ⟨hp, gs, d, tk + 1, os⟩) : wpAny (model prog w) A (mkInt x) Q E ⟨hp, gs, d, tk, os⟩ := wpAny_mkInt h
theorem store_cls {a : Addr} {es es' : List DictEntry} {n n' : Nat} {v : Value} {Q : Unit → Shared → Prop} (F : Fr h₀ L hp m) (N : News h₀ L hp news) (hk : env.scope.kind = .class) (hn : env.kindOf name = some .local ∨ (env.kindOf name = none ∧ compilersOwnNames.contains name = true))
    (ha : env.locals = a) (hm : (a, dictOf es n) ∈ news) (hl : (getL name es).isSome = true) (e : (putL name (PyData.keyHash w.params name) (.str name tk) v es, putN name es n) = (es', n')) (U : Upd a (dictOf es n) (dictOf es' n') news news')
    (h : ∀ hp', Fr h₀ L hp' m → News h₀ L hp' news' → Q () ⟨hp', gs, d, tk + 1, os⟩) : wpAny (model prog w) A (storeName env name v) Q E ⟨hp, gs, d, tk, os⟩ := by
  subst ha
  rw [storeName_cls hk hn]
  unfold localSet
  refine wpAny_bind (wpAny_load (N _ hm).1 ?_)
  rw [if_pos (by show (Value.type "dict" == Value.type "dict") = true; decide)]
  exact nsSet_led F N hl e U h
theorem load_cls {a : Addr} {es : List DictEntry} {n : Nat} {v : Value} {s : Shared} {mg : Str → Option Value} {Q : Value → Shared → Prop} (F : Fr h₀ L s.heap m) (N : News h₀ L s.heap news) (hk : env.scope.kind = .class) (hn : env.kindOf name = none) (hc : compilersOwnNames.contains name = true)
    (ha : env.locals = a) (hg : env.globals = mainGlobals) (hm : (a, dictOf es n) ∈ news) (hl : getL name es = some none) (T : h₀.Ns mainGlobals mg) (hv : mg name = some v) (h : Q v s) : wpAny (model prog w) A (loadName env name) Q E s := by
  subst ha
  unfold loadName
  have e1 : env.scope.kind.isAnnotationScope = false := by rw [hk]; rfl
  rw [e1, hn]
  unfold Env.blockKind
  rw [hk, hc]
  show wpAny _ _ (do let r ← localGet env name; _) _ _ _
  unfold localGet
  refine wpAny_bind (wpAny_bind (wpAny_load (N _ hm).1 ?_))
  rw [if_pos (by show (Value.type "dict" == Value.type "dict") = true; decide)]
  refine nsGet_led N hm hl ?_
  dsimp only
  exact loadGlobal_global (hg ▸ T.keeps F.keep) hv h
end
end Mine
end
section
open PySem PySem.W PyProof.Rows PySem.Calls
set_option maxRecDepth 100000
namespace Mine
noncomputable def clsStmt : Stmt := ((stmtsAt 3)[0]?).getD (.Pass ⟨0, 0, 0, 0⟩)
noncomputable abbrev keyEnv (L : Addr) : Env := envOfC (Str.ofString "cmp_to_key") (scopeAt 3) L 63 (.ref 62)
theorem lone_args {M : Model} {A : Around} {E : Value → Shared → Prop} {s : Shared} {f : Value} {x : Sem Value} {Q : Args → Shared → Prop}
    (h : wpAny M A x (fun v s' => Q ⟨[v], []⟩ s') E s) : wpAny M A (evalArgs f false [(false, x)] []) Q E s := by
  unfold evalArgs
  show wpAny M A (spliced [(false, x)] >>= _) Q E s
  refine wpAny_bind (spliced_cons (wpAny_mono h (fun v s' h' => spliced_nil ?_) fun _ _ x => x))
  refine wpAny_holding ?_
  exact wpAny_bind (wpAny_pure (wpAny_bind (wpAny_pure (wpAny_pure h'))))
noncomputable def clsBody : List Stmt := match clsStmt with
  | .ClassDef _ _ _ b _ _ _ _ _ _ _ => b
  | _ => []
noncomputable def clsScope : Scope := match clsStmt with
  | .ClassDef _ _ _ _ _ _ sc _ _ _ _ => sc
  | _ => default
theorem clsBody_ok : clsBody.length = 8 + 1 := by kernel_rfl
noncomputable abbrev clsEnv (nsA cK fr L : Addr) : Env := { scope := clsScope, locals := nsA, globals := mainGlobals, cells := [(S "mycmp", L + 1)], qual := S "cmp_to_key.<locals>.K" ++ Str.ofString ".", code := .ref cK, frame := some fr, builtins := builtinsNs }
noncomputable abbrev clsPos : Pos := ⟨48, 4, 69, 23⟩
end Mine
end
section
open PySem PySem.W PyProof.Rows PySem.Calls
set_option maxRecDepth 100000
set_option genInjectivity false
set_option genSizeOf false
namespace Mine
noncomputable def kBody (i : Nat) : List Stmt := match (clsBody[i]? : Option Stmt) with
  | some (.FunctionDef _ _ b _ _ _ _ _ _ _) => b
  | _ => []
noncomputable def kScope (i : Nat) : Scope := match (clsBody[i]? : Option Stmt) with
  | some (.FunctionDef _ _ _ _ _ _ sc _ _ _) => sc
  | _ => default
noncomputable def kParams (i : Nat) : Arguments := match (clsBody[i]? : Option Stmt) with
  | some (.FunctionDef _ a _ _ _ _ _ _ _ _) => a
  | _ => default
noncomputable abbrev kE (w : World) (x : Str) (t : Tok) (v : Value) : DictEntry := ⟨PyData.keyHash w.params x, .str x t, v⟩
noncomputable def CodeKnown (o : Obj) (q : Str) : Prop := ∃ vs t, o.data = .fields vs ∧ vs[1]? = some (.str q t)
noncomputable def Cod (ps : Array Value) (R : List (Addr × Obj)) (x : Pos × Option Str) : Prop :=
  codeAmong x.1 ps.toList = none ∨ ∃ c, codeAmong x.1 ps.toList = some (.ref c) ∧ ∀ q, x.2 = some q → ∃ oc, (c, oc) ∈ R ∧ CodeKnown oc q
structure Off (a b : Addr) (R : List (Addr × Obj)) : Prop where
  ne : a ≠ b
  oa : ∀ q ∈ R, q.1 ≠ a
  ob : ∀ q ∈ R, q.1 ≠ b
theorem Off.upd {a b : Addr} {R : List (Addr × Obj)} {o o' p : Obj} (x : Off a b R) : Upd b o o' ((a, p) :: (b, o) :: R) ((a, p) :: (b, o') :: R) := .tail x.ne (.head x.ob)
noncomputable def FreeOf (es : List DictEntry) (names : List Str) : Prop := ∀ e ∈ es, ∃ x t, e.key = .str x t ∧ x ∈ names
theorem FreeOf.snoc {es : List DictEntry} {names : List Str} {h : Int} {x : Str} {t : Tok} {v : Value} (fr : FreeOf es names) : FreeOf (es ++ [⟨h, .str x t, v⟩]) (x :: names) := fun e he => by
  rcases List.mem_append.mp he with he | he
  · obtain ⟨y, t, e1, e2⟩ := fr e he; exact ⟨y, t, e1, .tail _ e2⟩
  · rw [List.mem_singleton.mp he]; exact ⟨x, t, rfl, .head _⟩
theorem FreeOf.not {es : List DictEntry} {names : List Str} {name : Str} (fr : FreeOf es names) (hn : name ∉ names) {e : DictEntry} (he : e ∈ es) : e.key.isStr name = false ∧ e.refKey = false := by
  refine Classical.byContradiction fun hn1 => ?_
  obtain ⟨x, t, h, hx⟩ := fr e he
  refine hn1 ?_
  unfold DictEntry.refKey
  rw [h]
  exact ⟨beq_false_of_ne fun q => hn (q ▸ hx), rfl⟩
theorem putL_new {name : Str} {h : Int} {key v : Value} : ∀ {es : List DictEntry}, (∀ e ∈ es, e.key.isStr name = false) → putL name h key v es = es ++ [⟨h, key, v⟩]
  | [], _ => rfl
  | e :: r, hf => by
    unfold putL
    rw [hf e (.head _), if_neg Bool.false_ne_true, putL_new fun e he => hf e (.tail _ he)]
    rfl
theorem put_new {es : List DictEntry} {names : List Str} {name : Str} {h : Int} {key v : Value} {n : Nat} (fr : FreeOf es names) (hn : name ∉ names) :
    (getL name es).isSome = true ∧ (putL name h key v es, putN name es n) = (es ++ [⟨h, key, v⟩], n + 1) := by
  have e1 : es.find? (·.key.isStr name) = none := List.find?_eq_none.mpr fun e he => by rw [(fr.not hn he).1]; exact Bool.false_ne_true
  have e2 : es.any (·.refKey) = false := List.any_eq_false.mpr fun e he => by rw [(fr.not hn he).2]; exact Bool.false_ne_true
  have e3 : es.any (·.key.isStr name) = false := List.any_eq_false.mpr fun e he => by rw [(fr.not hn he).1]; exact Bool.false_ne_true
  refine ⟨?_, ?_⟩
  · unfold getL; rw [e1]; dsimp only; rw [e2]; rfl
  · unfold putN; rw [putL_new fun e he => (fr.not hn he).1, e3]; rfl
theorem codeAmong_more {p : Pos} {v : Value} {a b : Int} {c : Value} {l : List Value} (h : TriplesOk l) (e : codeAmong p l = some v) : codeAmong p (l ++ [rawInt a, rawInt b, c]) = some v := by
  fun_induction TriplesOk l with
  | case1 => cases e
  | case2 a' t b' u x rest ih =>
    simp only [List.cons_append, codeAmong] at e ⊢
    split at e
    · rename_i hc; rw [if_pos hc]; exact e
    · rename_i hc; rw [if_neg hc]; exact ih h e
  | case3 l h1 h2 => exact h.elim
theorem codeAmong_other {p : Pos} {a b : Int} {c : Value} {l : List Value} (h : TriplesOk l) (e : codeAmong p l = none) (hne : a ≠ p.line) : codeAmong p (l ++ [rawInt a, rawInt b, c]) = none := by
  fun_induction TriplesOk l with
  | case1 =>
    show (if (a == p.line && b == p.col) = true then some c else none) = none
    rw [if_neg]
    rw [beq_false_of_ne hne]; exact Bool.false_ne_true
  | case2 a' t b' u x rest ih =>
    simp only [List.cons_append, codeAmong] at e ⊢
    split at e
    · cases e
    · rename_i hc; rw [if_neg hc]; exact ih h e
  | case3 l h1 h2 => exact h.elim
structure ClsEnv (cenv : Env) (nsA cK : Addr) : Prop where
  k1 : cenv.scope.kind = .class
  k2 : cenv.locals = nsA
  k3 : cenv.globals = mainGlobals
  k4 : cenv.code = .ref cK
  kk : ∀ x, cenv.kindOf x = List.lookup x clsScope.names
section
variable {w : World} {A : Around} {E : Value → Shared → Prop} {hp h₀ : Heap} {g : Array GenState} {d : Drawn} {tk : Nat} {os : OsState} {L nsA cK PK : Addr} {m mg mb : Str → Option Value} {oK : Obj} {cenv : Env} {p : Program} {loose : List Str} {mean : ExcName → Option Value}
  {es : List DictEntry} {n : Nat} {ps : Array Value} {R : List (Addr × Obj)} {name : Str} {names : List Str} {v : Value}
theorem store_new {Q : Unit → Shared → Prop} (C : ClsEnv cenv nsA cK) (F : Fr h₀ L hp m) (N : News h₀ L hp ((PK, tabObj ps) :: (nsA, dictOf es n) :: R)) (off : Off PK nsA R) (fr : FreeOf es names) (hn : name ∉ names)
    (hk : cenv.kindOf name = some .local ∨ (cenv.kindOf name = none ∧ compilersOwnNames.contains name = true))
    (h : ∀ es' hp', es' = es ++ [kE w name tk v] → FreeOf es' (name :: names) → Fr h₀ L hp' m → News h₀ L hp' ((PK, tabObj ps) :: (nsA, dictOf es' (n + 1)) :: R) → Q () ⟨hp', g, d, tk + 1, os⟩) :
    wpAny (model prg w) A (storeName cenv name v) Q E ⟨hp, g, d, tk, os⟩ :=
  have q := put_new (h := PyData.keyHash w.params name) (key := .str name tk) (v := v) (n := n) fr hn
  store_cls F N C.k1 hk C.k2 (.tail _ (.head _)) q.1 q.2 off.upd fun hp' F' N' => h _ hp' rfl fr.snoc F' N'
theorem mv_2 {a b c d q : Addr × Obj} {R : List (Addr × Obj)} (h : q ∈ c :: d :: a :: b :: R) : q ∈ a :: b :: c :: d :: R := by
  rcases List.mem_cons.mp h with rfl | h
  · exact .tail _ (.tail _ (.head _))
  · rcases List.mem_cons.mp h with rfl | h
    · exact .tail _ (.tail _ (.tail _ (.head _)))
    · rcases List.mem_cons.mp h with rfl | h
      · exact .head _
      · rcases List.mem_cons.mp h with rfl | h
        · exact .tail _ (.head _)
        · exact .tail _ (.tail _ (.tail _ (.tail _ h)))
theorem mv_1 {a b c q : Addr × Obj} {R : List (Addr × Obj)} (h : q ∈ b :: c :: a :: R) : q ∈ a :: b :: c :: R := by
  rcases List.mem_cons.mp h with rfl | h
  · exact .tail _ (.head _)
  · rcases List.mem_cons.mp h with rfl | h
    · exact .tail _ (.tail _ (.head _))
    · rcases List.mem_cons.mp h with rfl | h
      · exact .head _
      · exact .tail _ (.tail _ (.tail _ h))
theorem def_any {Q : Flow → Shared → Prop} {params : Arguments} {body rest : List Stmt} {scope : Scope} {pos : Pos} {clos : List (Str × Addr)} {x2 : Option Str} {l : List (Pos × Option Str)} {done : List (Pos × Addr)}
    (C : ClsEnv cenv nsA cK) (T : Top p loose mean mg mb h₀) (hK : CodeObj oK PK) (F : Fr h₀ L hp m) (N : News h₀ L hp ((PK, tabObj ps) :: (nsA, dictOf es n) :: R)) (off : Off PK nsA R) (mK : (cK, oK) ∈ R)
    (ht : TriplesOk ps.toList) (td : ∀ y ∈ (pos, x2) :: l, Cod ps R y) (hl : ∀ y ∈ l, ((pos.line : Nat) : Int) ≠ y.1.line) (dn : ∀ y ∈ done, codeAmong y.1 ps.toList = some (.ref y.2)) (fr : FreeOf es names) (hn : name ∉ names)
    (hk : clsScope.names.lookup name = some .local) (hq : ∀ q, x2 = some q → qualnameIn cenv name name = q) (hcl : closureFor scope cenv = pure clos) (d0 : params.defaults = []) (k0 : params.kw_defaults = []) (a0 : annTrees params none cenv = [])
    (h : ∀ f c' ps' es' R' o doc ctv t' hp' tk', es' = es ++ [kE w name t' (.ref f)] → o = fnMade name (qualnameIn cenv name name) params body scope clos doc ((mg "__name__").getD .none) c' ctv →
      Fr h₀ L hp' m → News h₀ L hp' ((PK, tabObj ps') :: (nsA, dictOf es' (n + 1)) :: R') → Off PK nsA R' → (∀ q ∈ R, q ∈ R' ∧ q.1 ≠ f) → (f, o) ∈ R' → (∀ q, x2 = some q → ∃ oc, (c', oc) ∈ R' ∧ CodeKnown oc q) →
      TriplesOk ps'.toList → (∀ y ∈ l, Cod ps' R' y) → (∀ y ∈ (pos, c') :: done, codeAmong y.1 ps'.toList = some (.ref y.2)) → FreeOf es' (name :: names) → wpAny (model prg w) A (execs rest cenv) Q E ⟨hp', g, d, tk', os⟩) :
    wpAny (model prg w) A (execs (.FunctionDef name params body [] none [] scope none name pos :: rest) cenv) Q E ⟨hp, g, d, tk, os⟩ := by
  have hd : CodeHd hp cK PK := hK.hd (N _ (.tail _ (.tail _ mK))).1 (off.oa _ mK)
  have hk' : cenv.kindOf name = some .local ∨ (cenv.kindOf name = none ∧ compilersOwnNames.contains name = true) := .inl (by rw [C.kk]; exact hk)
  have td' : ∀ y ∈ l, Cod ps R y := fun y hy => td y (.tail _ hy)
  refine wpAny_execs_cons (nestDef_K d0 k0 a0 ?_)
  rcases td _ (.head _) with hm | ⟨c, hc, hkn⟩
  · refine nest_L F N T hd C.k4 C.k3 (UpdF.head (List.forall_mem_cons.mpr ⟨fun e => off.ne e.symm, off.oa⟩)) ht hm hcl (fun f c' oc vs t ctv doc hp1 tk1 F1 N1 e1 e2 l1 l2 => ?_)
    have l1' := Mine.AllLt.mem l1
    have a1 : ∀ q ∈ R, q.1 ≠ f ∧ q.1 ≠ c' := fun q hq => ⟨Nat.ne_of_lt (Nat.lt_trans (l1' q (.tail _ (.tail _ hq))) l2), Nat.ne_of_lt (l1' q (.tail _ (.tail _ hq)))⟩
    have b1 := l1' _ (.head _)
    have b2 := l1' _ (.tail _ (.head _))
    have off' : Off PK nsA ((f, fnMade name (qualnameIn cenv name name) params body scope clos doc ((mg "__name__").getD .none) c' ctv) :: (c', oc) :: R) :=
      ⟨off.ne, List.forall_mem_cons.mpr ⟨Nat.ne_of_gt (Nat.lt_trans b1 l2), List.forall_mem_cons.mpr ⟨Nat.ne_of_gt b1, off.oa⟩⟩, List.forall_mem_cons.mpr ⟨Nat.ne_of_gt (Nat.lt_trans b2 l2), List.forall_mem_cons.mpr ⟨Nat.ne_of_gt b2, off.ob⟩⟩⟩
    refine store_new C F1 (News.sub N1 (fun q hq => mv_2 hq)) off' fr hn hk' (fun es' hp2 he hf F2 N2 => ?_)
    have hs := TriplesOk_snoc pos.line pos.col (.ref c') _ ht
    have hl' : (ps ++ #[rawInt pos.line, rawInt pos.col, Value.ref c']).toList = ps.toList ++ [rawInt pos.line, rawInt pos.col, .ref c'] := Array.toList_append
    refine h f c' _ es' _ _ doc ctv _ _ _ he rfl F2 N2 off' (fun q hq => ⟨.tail _ (.tail _ hq), (a1 q hq).1⟩) (.head _) (fun q hx => ⟨oc, .tail _ (.head _), vs, t, e1, hq q hx ▸ e2⟩) (hl' ▸ hs) (fun y hy => ?_) (List.forall_mem_cons.mpr ⟨hl' ▸ codeAmong_snoc _ ht hm, fun y hy => hl' ▸ codeAmong_more ht (dn y hy)⟩) hf
    unfold Cod
    rw [hl']
    exact (td' y hy).elim (fun q => .inl (codeAmong_other ht q (hl y hy))) fun ⟨c, q, r⟩ => .inr ⟨c, codeAmong_more ht q, fun z hz => let ⟨oc, a, b⟩ := r z hz; ⟨oc, .tail _ (.tail _ a), b⟩⟩
  · refine nestHit_L (c' := c) F N T hd C.k4 C.k3 (.head _) ht hc hcl (fun f ctv doc hp1 tk1 F1 N1 l1 => ?_)
    have l1' := Mine.AllLt.mem l1
    have off' : Off PK nsA ((f, fnMade name (qualnameIn cenv name name) params body scope clos doc ((mg "__name__").getD .none) c ctv) :: R) :=
      ⟨off.ne, List.forall_mem_cons.mpr ⟨Nat.ne_of_gt (l1' _ (.head _)), off.oa⟩, List.forall_mem_cons.mpr ⟨Nat.ne_of_gt (l1' _ (.tail _ (.head _))), off.ob⟩⟩
    refine store_new C F1 (News.sub N1 (fun q hq => mv_1 hq)) off' fr hn hk' (fun es' hp2 he hf F2 N2 => ?_)
    exact h f c ps es' _ _ doc ctv _ _ _ he rfl F2 N2 off' (fun q hq => ⟨.tail _ hq, Nat.ne_of_lt (l1' q (.tail _ (.tail _ hq)))⟩) (.head _) (fun q hx => let ⟨oc, a, b⟩ := hkn q hx; ⟨oc, .tail _ a, b⟩) ht
      (fun y hy => (td' y hy).imp id fun ⟨c, q, r⟩ => ⟨c, q, fun z hz => let ⟨oc, a, b⟩ := r z hz; ⟨oc, .tail _ a, b⟩⟩) (List.forall_mem_cons.mpr ⟨hc, dn⟩) hf
end
end Mine
end
section
open PySem PySem.W PyProof.Rows PySem.Calls
set_option maxRecDepth 100000
set_option genInjectivity false
set_option genSizeOf false
namespace Mine
noncomputable abbrev kp1 : Pos := ⟨52, 8, 53, 26⟩
noncomputable abbrev kp2 : Pos := ⟨55, 8, 56, 49⟩
noncomputable abbrev kp3 : Pos := ⟨58, 8, 59, 49⟩
noncomputable abbrev kp4 : Pos := ⟨61, 8, 62, 50⟩
noncomputable abbrev kp5 : Pos := ⟨64, 8, 65, 50⟩
noncomputable abbrev kp6 : Pos := ⟨67, 8, 68, 50⟩
noncomputable abbrev kq1 : Str := S "cmp_to_key.<locals>.K.__init__"
noncomputable abbrev kq2 : Str := S "cmp_to_key.<locals>.K.__lt__"
noncomputable abbrev kTodo : List (Pos × Option Str) := [(kp1, some kq1), (kp2, some kq2), (kp3, none), (kp4, none), (kp5, none), (kp6, none)]
set_option genInjectivity false in
set_option genSizeOf false in
structure KB where
  (cc bt nsA PK cK ls f1 c1 f2 c2 f3 f4 f5 f6 c3 c4 c5 c6 : Addr) (oC oK of1 of2 of3 of4 of5 of6 oc1 oc2 : Obj) (t1 t2 t3 t4 t5 t6 t7 t8 t9 t10 t11 tm tl : Tok) (v2 v3 : Value) (ps tab : Array Value)
noncomputable abbrev KB.es (k : KB) (w : World) : List DictEntry :=
  [kE w (S "__module__") k.t1 (.str (S "cpy313.functools") k.tm), kE w (S "__qualname__") k.t2 k.v2, kE w (S "__firstlineno__") k.t3 k.v3, kE w (S "__slots__") k.t4 (.ref k.ls), kE w (S "__init__") k.t5 (.ref k.f1), kE w (S "__lt__") k.t6 (.ref k.f2),
    kE w (S "__gt__") k.t7 (.ref k.f3), kE w (S "__eq__") k.t8 (.ref k.f4), kE w (S "__le__") k.t9 (.ref k.f5), kE w (S "__ge__") k.t10 (.ref k.f6), kE w (S "__hash__") k.t11 .none]
structure KB.Ok (k : KB) (mg : Str → Option Value) : Prop where
  ho1 : ∃ doc ctv, k.of1 = fnMade (S "__init__") kq1 (kParams 2) (kBody 2) (kScope 2) [] doc ((mg (S "__name__")).getD .none) k.c1 ctv
  ho2 : ∃ doc ctv, k.of2 = fnMade (S "__lt__") kq2 (kParams 3) (kBody 3) (kScope 3) [(S "mycmp", k.cc)] doc ((mg (S "__name__")).getD .none) k.c2 ctv
  hc1 : CodeKnown k.oc1 kq1
  hc2 : CodeKnown k.oc2 kq2
  ht : TriplesOk k.ps.toList
  dn : ∀ y ∈ [(kp6, k.c6), (kp5, k.c5), (kp4, k.c4), (kp3, k.c3), (kp2, k.c2), (kp1, k.c1)], codeAmong y.1 k.ps.toList = some (.ref y.2)
  hff : k.f1 ≠ k.f2
structure KB.In (k : KB) (R : List (Addr × Obj)) : Prop where
  m1 : (k.f1, k.of1) ∈ R
  m2 : (k.f2, k.of2) ∈ R
  m3 : (k.f3, k.of3) ∈ R ∧ k.of3.cls = .type "function"
  m4 : (k.f4, k.of4) ∈ R ∧ k.of4.cls = .type "function"
  m5 : (k.f5, k.of5) ∈ R ∧ k.of5.cls = .type "function"
  m6 : (k.f6, k.of6) ∈ R ∧ k.of6.cls = .type "function"
  n1 : (k.c1, k.oc1) ∈ R
  n2 : (k.c2, k.oc2) ∈ R
  ml : (k.ls, W.listOf #[.str (S "obj") k.tl] 0) ∈ R
theorem fn_cls {o : Obj} {name qual : Str} {params : Arguments} {body : List Stmt} {scope : Scope} {clos : List (Str × Addr)} {doc pm ctv : Value} {c : Addr} (h : o = fnMade name qual params body scope clos doc pm c ctv) : o.cls = .type "function" := h ▸ rfl
set_option maxHeartbeats 4000000 in
theorem cls_body {w : World} {A : Around} {E : Value → Shared → Prop} {hp h₀ : Heap} {g : Array GenState} {d : Drawn} {tk : Nat} {os : OsState} {L nsA cK PK cc fr bt : Addr} {m mg mb : Str → Option Value} {oK oC : Obj} {cenv : Env} {Q : Flow → Shared → Prop} {p : Program} {loose : List Str} {mean : ExcName → Option Value}
    (T : Top p loose mean mg mb h₀) (hE : clsEnv nsA cK fr L = cenv) {nm v2 v3 : Value} {t1 t2 t3 : Tok} {ps tab : Array Value} {R : List (Addr × Obj)}
    (F : Fr h₀ L hp m) (N : News h₀ L hp ((PK, tabObj ps) :: (nsA, dictOf [kE w (S "__module__") t1 nm, kE w (S "__qualname__") t2 v2, kE w (S "__firstlineno__") t3 v3] 3) :: R))
    (off : Off PK nsA R) (mK : (cK, oK) ∈ R) (hK : CodeObj oK PK) (lcc : @Eq Nat cc (L + 1)) (ht : TriplesOk ps.toList) (td : ∀ y ∈ kTodo, Cod ps R y)
    (h : ∀ (k : KB) R' hp' tk', k.Ok mg → k.In R' → (∀ q ∈ R, q ∈ R') → k.cc = cc ∧ k.nsA = nsA ∧ k.PK = PK ∧ k.cK = cK ∧ k.oK = oK ∧ k.oC = oC ∧ k.bt = bt ∧ k.tab = tab ∧ k.v2 = v2 ∧ k.v3 = v3 →
      Off PK nsA R' → Fr h₀ L hp' m → News h₀ L hp' ((PK, tabObj k.ps) :: (nsA, dictOf (k.es w) 11) :: R') → Q .next ⟨hp', g, d, tk', os⟩) :
    wpAny (model prg w) A (execs clsBody cenv) Q E ⟨hp, g, d, tk, os⟩ := by
  have C : ClsEnv cenv nsA cK := hE ▸ ⟨by kernel_rfl, rfl, rfl, rfl, fun _ => rfl⟩
  have e : clsBody = clsBody := rfl
  conv at e => rhs; whnf
  rw [e]
  clear e
  have q1 : ∀ q, some kq1 = some q → qualnameIn cenv (S "__init__") (S "__init__") = q := fun q e => by cases e; rw [← hE]; kernel_rfl
  have q2 : ∀ q, some kq2 = some q → qualnameIn cenv (S "__lt__") (S "__lt__") = q := fun q e => by cases e; rw [← hE]; kernel_rfl
  have q0 : ∀ (x : Str) (q : Str), (none : Option Str) = some q → x = q := fun _ _ e => nomatch e
  have hc : ∀ i, i = 3 ∨ i = 4 ∨ i = 5 ∨ i = 6 ∨ i = 7 → closureFor (kScope i) cenv = pure [(S "mycmp", L + 1)] := by
    rw [← hE]
    rintro i (rfl | rfl | rfl | rfl | rfl) <;> kernel_rfl
  have fr0 : FreeOf [kE w (S "__module__") t1 (.str (S "cpy313.functools") tk), kE w (S "__qualname__") t2 v2, kE w (S "__firstlineno__") t3 v3] [S "__module__", S "__qualname__", S "__firstlineno__"] :=
    List.forall_mem_cons.mpr ⟨⟨_, _, rfl, by k_mem⟩, List.forall_mem_cons.mpr ⟨⟨_, _, rfl, by k_mem⟩, List.forall_mem_cons.mpr ⟨⟨_, _, rfl, by k_mem⟩, List.forall_mem_nil _⟩⟩⟩
  refine wpAny_execs_cons (wpAny_Assign_Name ?_ (by rfl))
  walk1
  refine store_cls F N C.k1 (.inl (by rw [C.kk]; kernel_rfl)) C.k2 (.tail _ (.head _)) (by rfl) (by k_put) off.upd (fun hp F N => ?_)
  refine wpAny_execs_cons (wpAny_Assign_Name ?_ (by rfl))
  walk1
  walk1
  walk1
  walk1
  unfold newList
  refine new_led F N (fun ls hp F N l1 => ?_) (by size_fits) rfl
  have l1' := Mine.AllLt.mem l1
  have off1 : Off PK nsA ((ls, W.listOf #[.str (S "obj") (tk + 1 + 1)] 0) :: R) := ⟨off.ne, List.forall_mem_cons.mpr ⟨Nat.ne_of_gt (l1' _ (.head _)), off.oa⟩, List.forall_mem_cons.mpr ⟨Nat.ne_of_gt (l1' _ (.tail _ (.head _))), off.ob⟩⟩
  have td1 : ∀ y ∈ kTodo, Cod ps ((ls, W.listOf #[.str (S "obj") (tk + 1 + 1)] 0) :: R) y := fun y hy => (td y hy).imp id fun ⟨c, q, r⟩ => ⟨c, q, fun z hz => let ⟨oc, a, b⟩ := r z hz; ⟨oc, .tail _ a, b⟩⟩
  refine store_new C F (News.sub N (fun q hq => mv_1 hq)) off1 fr0 (by decide +kernel) (.inl (by rw [C.kk]; kernel_rfl)) (fun es1 hp he1 fr1 F N => ?_)
  refine def_any (x2 := some kq1) C T hK F N off1 (.tail _ mK) ht td1 (by decide) (done := []) (fun _ hy => nomatch hy) fr1 (by decide +kernel) (by kernel_rfl) q1 (clos := []) (by rw [← hE]; kernel_rfl) rfl rfl rfl (fun f1 c1 ps es2 R1 of1 doc1 ctv1 t5 hp tk he2 ho1 F N off s1 m1 hc1 ht td dn fr => ?_)
  refine def_any (x2 := some kq2) C T hK F N off (s1 _ (.tail _ mK)).1 ht td (by decide) dn fr (by decide +kernel) (by kernel_rfl) q2 (hc 3 (.inl rfl)) rfl rfl rfl (fun f2 c2 ps es3 R2 of2 doc2 ctv2 t6 hp tk he3 ho2 F N off s2 m2 hc2 ht td dn fr => ?_)
  refine def_any C T hK F N off (s2 _ (s1 _ (.tail _ mK)).1).1 ht td (by decide) dn fr (by decide +kernel) (by kernel_rfl) (q0 _) (hc 4 (.inr (.inl rfl))) rfl rfl rfl (fun f3 c3 ps es4 R3 of3 doc3 ctv3 t7 hp tk he4 ho3 F N off s3 m3 _ ht td dn fr => ?_)
  refine def_any C T hK F N off (s3 _ (s2 _ (s1 _ (.tail _ mK)).1).1).1 ht td (by decide) dn fr (by decide +kernel) (by kernel_rfl) (q0 _) (hc 5 (.inr (.inr (.inl rfl)))) rfl rfl rfl (fun f4 c4 ps es5 R4 of4 doc4 ctv4 t8 hp tk he5 ho4 F N off s4 m4 _ ht td dn fr => ?_)
  refine def_any C T hK F N off (s4 _ (s3 _ (s2 _ (s1 _ (.tail _ mK)).1).1).1).1 ht td (by decide) dn fr (by decide +kernel) (by kernel_rfl) (q0 _) (hc 6 (.inr (.inr (.inr (.inl rfl))))) rfl rfl rfl (fun f5 c5 ps es6 R5 of5 doc5 ctv5 t9 hp tk he6 ho5 F N off s5 m5 _ ht td dn fr => ?_)
  refine def_any C T hK F N off (s5 _ (s4 _ (s3 _ (s2 _ (s1 _ (.tail _ mK)).1).1).1).1).1 ht td (by decide) dn fr (by decide +kernel) (by kernel_rfl) (q0 _) (hc 7 (.inr (.inr (.inr (.inr rfl))))) rfl rfl rfl (fun f6 c6 ps es7 R6 of6 doc6 ctv6 t10 hp tk he7 ho6 F N off s6 m6 _ ht td dn fr => ?_)
  refine wpAny_execs_cons (wpAny_Assign_Name ?_ (by rfl))
  refine wpAny_Constant_none ?_
  refine store_new C F N off fr (by decide +kernel) (.inl (by rw [C.kk]; kernel_rfl)) (fun es8 hp he8 _ F N => ?_)
  refine wpAny_execs_nil ?_
  have s56 : ∀ q ∈ R4, q ∈ R6 := fun q h => (s6 q (s5 q h).1).1
  have s36 : ∀ q ∈ R2, q ∈ R6 := fun q h => s56 q (s4 q (s3 q h).1).1
  have s16 : ∀ q ∈ R1, q ∈ R6 := fun q h => s36 q (s2 q h).1
  refine Classical.byContradiction fun hn1 => ?_
  obtain ⟨oc1, hc1, hk1⟩ := hc1 _ rfl
  obtain ⟨oc2, hc2, hk2⟩ := hc2 _ rfl
  refine hn1 ?_
  subst lcc he1 he2 he3 he4 he5 he6 he7 he8
  rw [q1 _ rfl] at ho1
  rw [q2 _ rfl] at ho2
  exact h ⟨L + 1, bt, nsA, PK, cK, ls, f1, c1, f2, c2, f3, f4, f5, f6, c3, c4, c5, c6, oC, oK, of1, of2, of3, of4, of5, of6, oc1, oc2, t1, t2, t3, _, t5, t6, t7, t8, t9, t10, _, _, _, v2, v3, ps, tab⟩ R6 _ _
    ⟨⟨_, _, ho1⟩, ⟨_, _, ho2⟩, hk1, hk2, ht, dn, (s2 _ m1).2⟩ ⟨s16 _ m1, s36 _ m2, ⟨s56 _ (s4 _ m3).1, fn_cls ho3⟩, ⟨s56 _ m4, fn_cls ho4⟩, ⟨(s6 _ m5).1, fn_cls ho5⟩, ⟨m6, fn_cls ho6⟩, s16 _ hc1, s36 _ hc2, s16 _ (s1 _ (.head _)).1⟩ (fun q hq => s16 _ (s1 _ (.tail _ hq)).1)
    ⟨rfl, rfl, rfl, rfl, rfl, rfl, rfl, rfl, rfl, rfl⟩ off F N
end Mine
end
section
open PySem PySem.W PyProof.Rows PySem.Calls
set_option maxRecDepth 100000
namespace Mine
open PySem.Builtin
theorem bb_obj : Slots.bestBase [.type "object"] = pure (.type "object") := by kernel_rfl
theorem sn_obj : Slots.slotNamesOf (.type "object") = pure [] := by kernel_rfl
theorem gd_obj : Slots.givesDict (.type "object") = pure false := by kernel_rfl
theorem gw_obj : Slots.givesWeak (.type "object") = pure false := by kernel_rfl
theorem vs_obj : Slots.varSize (.type "object") = pure false := by kernel_rfl
theorem eb_obj : extendedBase [.type "object"] = pure (.type "object") := by kernel_rfl
theorem nt_obj : notOverATurnedClass [.type "object"] = pure () := by kernel_rfl
theorem li_obj : linearize [.type "object"] mroOf = pure [.type "object"] := by kernel_rfl
theorem mh_type : mroHook? (.type "type") = pure none := by kernel_rfl
theorem mb_obj : Bind.madeBy (.type "object") = pure (some "object.__new__") := by kernel_rfl
theorem ns_obj (a : Addr) : noteSubclassOfBuiltin "object" a = pure () := by kernel_rfl
noncomputable abbrev KB.es12 (k : KB) (w : World) (st : Addr) (t : Tok) : List DictEntry :=
  [kE w (S "__module__") k.t1 (.str (S "cpy313.functools") k.tm), kE w (S "__qualname__") k.t2 k.v2, kE w (S "__firstlineno__") k.t3 k.v3, kE w (S "__slots__") k.t4 (.ref k.ls), kE w (S "__init__") k.t5 (.ref k.f1), kE w (S "__lt__") k.t6 (.ref k.f2),
    kE w (S "__gt__") k.t7 (.ref k.f3), kE w (S "__eq__") k.t8 (.ref k.f4), kE w (S "__le__") k.t9 (.ref k.f5), kE w (S "__ge__") k.t10 (.ref k.f6), kE w (S "__hash__") k.t11 .none, kE w (S "__static_attributes__") t (.ref st)]
theorem collect_led {prog : Program} {w : World} {A : Around} {E : Value → Shared → Prop} {hp h₀ : Heap} {g : Array GenState} {d : Drawn} {tk : Nat} {os : OsState} {L l : Addr} {m : Str → Option Value} {news : List (Addr × Obj)} {vs : List Value} {n : Nat} {Q : List Value → Shared → Prop}
    (F : Fr h₀ L hp m) (N : News h₀ L hp news) (hm : (l, W.listOf vs.toArray n) ∈ news) (hsz : vs.length ≤ sizeLine)
    (h : ∀ hp', Fr h₀ L hp' m → News h₀ L hp' news → Q vs ⟨hp', g, d, tk, os⟩) : wpAny (model prog w) A (collect (.ref l)) Q E ⟨hp, g, d, tk, os⟩ := by
  have h0 : h₀.get? hp.objs.size = none := by
    cases q : h₀.get? hp.objs.size with
    | none => rfl
    | some o => exact absurd (Heap.lt_size (F.keep _ _ q)) (Nat.lt_irrefl _)
  refine collect_list ⟨_, (N _ hm).1, rfl, _, rfl⟩ (h _ ((F.push _).change (Heap.SameBut.update ..) (Nat.ne_of_gt F.ns.lt) h0) (fun p hp' => ?_)) hsz
  have hne : p.1 ≠ hp.objs.size := Nat.ne_of_lt (Heap.lt_size (N p hp').1)
  exact ⟨(Heap.SameBut.update ..).extBut _ _ hne (Heap.get?_push_of_some _ (N p hp').1), (N p hp').2⟩
set_option maxHeartbeats 1000000 in
theorem slots_read {prog : Program} {w : World} {A : Around} {E : Value → Shared → Prop} {hp h₀ : Heap} {g : Array GenState} {d : Drawn} {tk : Nat} {os : OsState} {L : Addr} {m : Str → Option Value} {news : List (Addr × Obj)} {k : KB} {st : Addr} {t : Tok} {Q : Slots.Plan → Shared → Prop}
    (F : Fr h₀ L hp m) (N : News h₀ L hp news) (hm : (k.ls, W.listOf #[.str (S "obj") k.tl] 0) ∈ news)
    (h : ∀ hp', Fr h₀ L hp' m → News h₀ L hp' news → Q ⟨[S "obj"], false, false, []⟩ ⟨hp', g, d, tk, os⟩) :
    wpAny (model prog w) A (Slots.read (S "K") [.type "object"] (k.es12 w st t).toArray) Q E ⟨hp, g, d, tk, os⟩ := by
  unfold Slots.read
  refine wpAny_bind (wpAny_of_eq bb_obj ?_)
  refine wpAny_bind (wpAny_of_eq sn_obj ?_)
  refine wpAny_bind (wpAny_bind (wpAny_of_eq gd_obj (wpAny_pure ?_)))
  refine wpAny_bind (wpAny_of_eq gw_obj ?_)
  refine wpAny_bind (wpAny_of_eq vs_obj ?_)
  refine wpAny_bind (wpAny_rule ?_)
  have e1 : wpAny (model prog w) A (asStr? (.ref k.ls)) (fun a s' => a = none ∧ s' = ⟨hp, g, d, tk, os⟩) (fun _ _ => False) ⟨hp, g, d, tk, os⟩ := by
    unfold asStr?
    refine wpAny_bind (wpAny_load (N _ hm).1 ?_)
    exact wpAny_pure ⟨rfl, rfl⟩
  refine wpAny_bind (wpAny_same none e1 ?_)
  refine l_no (by rfl) ?_
  refine wpAny_bind (collect_led (l := k.ls) (vs := [.str (S "obj") k.tl]) F N hm (by simp only [List.length_cons, List.length_nil]; unfold sizeLine; lia) (fun hp F N => ?_))
  exact wpAny_of_eq (by kernel_rfl) (h _ F N)
end Mine
end
section
open PySem PySem.W PyProof.Rows PySem.Calls
set_option maxRecDepth 100000
namespace Mine
open PySem.Builtin
section
variable {M : Model} {A : Around} {E : Value → Shared → Prop} {hp : Heap} {g : Array GenState} {d : Drawn} {tk : Nat} {os : OsState} {β : Type} {Q : β → Shared → Prop} {h₀ : Heap} {L a : Addr} {m : Str → Option Value} {news news' : List (Addr × Obj)} {o o' : Obj} {s : Shared}
theorem l_slot {i : Nat} {v : Option Value} {f : Unit → Sem β} (F : Fr h₀ L hp m) (N : News h₀ L hp news) (hi : i < 6) (U : Upd a o o' news news')
    (e : ({ o with slots := (o.slots ++ Array.replicate (i + 1 - o.slots.size) none).setIfInBounds i v } : Obj) = o') (hf : o'.isFreed = false)
    (h : ∀ hp', Fr h₀ L hp' m → News h₀ L hp' news' → wpAny M A (f ()) Q E ⟨hp', g, d, tk, os⟩) : wpAny M A (setSlotAt a i v >>= f) Q E ⟨hp, g, d, tk, os⟩ := by
  unfold setSlotAt
  rw [if_neg (by unfold sizeLine; lia)]
  exact l_updPart F N U e hf h
theorem l_slotAt {i : Nat} {f : Option Value → Sem β} (N : News h₀ L s.heap news) (hm : (a, o) ∈ news) (v : Option Value) (e : (o.slots[i]?).join = v) (h : wpAny M A (f v) Q E s) : wpAny M A (slotAt a i >>= f) Q E s := by
  unfold slotAt
  refine wpAny_bind (wpAny_bind (wpAny_loadPart (N _ hm).1 (wpAny_pure ?_)))
  rw [e]; exact h
theorem l_del {name : Str} {es es' : List DictEntry} {n n' : Nat} {f : Bool → Sem β} (F : Fr h₀ L hp m) (N : News h₀ L hp news)
    (hh : nsHas name (dictOf es n) = pure true) (e : Obj.dropName name (dictOf es n) = dictOf es' n') (U : Upd a (dictOf es n) (dictOf es' n') news news')
    (h : ∀ hp', Fr h₀ L hp' m → News h₀ L hp' news' → wpAny M A (f true) Q E ⟨hp', g, d, tk, os⟩) : wpAny M A (nsDel a name >>= f) Q E ⟨hp, g, d, tk, os⟩ := by
  refine Classical.byContradiction fun hn1 => ?_
  obtain ⟨F', N', z⟩ := upd_news F N U e rfl
  refine hn1 ?_
  unfold nsDel
  refine wpAny_bind (wpAny_bind (wpAny_loadPart z ?_))
  rw [hh]
  refine wpAny_bind (wpAny_pure ?_)
  refine l_yes rfl ?_
  exact wpAny_bind (wpAny_updatePart z (wpAny_pure (h _ F' N')))
theorem updCls_led {fn : ClassData → ClassData} {c c' : ClassData} {cls : Value} {dd : Option Addr} {sl : Array (Option Value)} {Q : Unit → Shared → Prop} (F : Fr h₀ L hp m) (N : News h₀ L hp news)
    (U : Upd a { cls := cls, dict := dd, data := .cls c, slots := sl } { cls := cls, dict := dd, data := .cls c', slots := sl } news news')
    (e : fn c = c') (hp0 : (Data.cls c').pastItsLine = none)
    (h : ∀ hp', Fr h₀ L hp' m → News h₀ L hp' news' → Q () ⟨hp', g, d, tk, os⟩) : wpAny M A (updateCls a fn) Q E ⟨hp, g, d, tk, os⟩ := by
  refine Classical.byContradiction fun hn1 => ?_
  obtain ⟨F', N', z⟩ := upd_news (fn := Obj.mapCls fn) F N U (by subst e; rfl) rfl
  refine hn1 ?_
  unfold updateCls
  refine wpAny_bind (wpAny_load z ?_)
  refine wpAny_bind (wpAny_update z ?_)
  unfold lookBehind
  have hm' : (a, ({ cls := cls, dict := dd, data := .cls c', slots := sl } : Obj)) ∈ news' := by
    refine Classical.byContradiction fun hn2 => ?_
    obtain ⟨pre, post, rfl, rfl, h1, h2⟩ := U.split
    refine hn2 ?_
    exact List.mem_append.mpr (.inr (.head _))
  refine wpAny_bind (wpAny_loadPart (N' _ hm').1 ?_)
  rw [show (({ cls := cls, dict := dd, data := .cls c', slots := sl } : Obj).data).pastItsLine = none from hp0]
  exact wpAny_pure (h _ F' N')
theorem l_updCls {fn : ClassData → ClassData} {c c' : ClassData} {cls : Value} {dd : Option Addr} {sl : Array (Option Value)} {f : Unit → Sem β} (F : Fr h₀ L hp m) (N : News h₀ L hp news)
    (U : Upd a { cls := cls, dict := dd, data := .cls c, slots := sl } { cls := cls, dict := dd, data := .cls c', slots := sl } news news')
    (e : fn c = c') (hp0 : (Data.cls c').pastItsLine = none)
    (h : ∀ hp', Fr h₀ L hp' m → News h₀ L hp' news' → wpAny M A (f ()) Q E ⟨hp', g, d, tk, os⟩) : wpAny M A (updateCls a fn >>= f) Q E ⟨hp, g, d, tk, os⟩ :=
  wpAny_bind (updCls_led F N U e hp0 h)
theorem l_cdata {c : ClassData} {cls : Value} {dd : Option Addr} {sl : Array (Option Value)} {f : ClassData → Sem β} (N : News h₀ L s.heap news) (hm : (a, ({ cls := cls, dict := dd, data := .cls c, slots := sl } : Obj)) ∈ news)
    (h : wpAny M A (f c) Q E s) : wpAny M A (classData a >>= f) Q E s := by
  unfold classData
  exact wpAny_bind (wpAny_bind (wpAny_load (N _ hm).1 (wpAny_pure h)))
theorem tl_led {c : ClassData} {cls : Value} {dd : Option Addr} {sl : Array (Option Value)} {ns : Addr} {es : List DictEntry} {n : Nat} {name : Str} {v x : Option Value} {Q : Option Value → Shared → Prop} (N : News h₀ L s.heap news)
    (hm : (a, ({ cls := cls, dict := dd, data := .cls c, slots := sl } : Obj)) ∈ news) (hn : (ns, dictOf es n) ∈ news) (h1 : c.mro = [.ref a, .type "object"]) (h2 : c.ns = ns)
    (e : getL name es = some v) (eo : v.isSome = true ∨ builtinOwn "object" name = x) (h : Q (v.orElse fun _ => x) s) : wpAny M A (typeLookup (.ref a) name) Q E s := by
  unfold typeLookup
  unfold mroOf
  refine wpAny_bind (l_cdata N hm (wpAny_pure ?_))
  rw [h1]
  refine wpAny_bind ?_
  rw [List.forIn_cons]
  unfold classOwn
  refine wpAny_bind (wpAny_bind (l_cdata N hm ?_))
  rw [h2]
  refine nsGet_led N hn e ?_
  cases v with
  | some v0 =>
    refine wpAny_pure ?_
    refine wpAny_pure ?_
    exact wpAny_pure h
  | none =>
    refine wpAny_pure ?_
    dsimp only
    rw [List.forIn_cons]
    have eo' : builtinOwn "object" name = x := by
      rcases eo with q | q
      · cases q
      · exact q
    dsimp only
    rw [eo']
    refine wpAny_bind (wpAny_bind (wpAny_pure ?_))
    cases x with
    | some x0 =>
      refine wpAny_pure ?_
      refine wpAny_pure ?_
      exact wpAny_pure h
    | none =>
      refine wpAny_pure ?_
      dsimp only
      rw [List.forIn_nil]
      refine wpAny_pure ?_
      exact wpAny_pure h
end
section
variable {prog : Program} {w : World} {A : Around} {E : Value → Shared → Prop} {hp : Heap} {g : Array GenState} {d : Drawn} {tk : Nat} {os : OsState} {β : Type} {Q : β → Shared → Prop} {h₀ : Heap} {L a : Addr} {m : Str → Option Value} {news news' : List (Addr × Obj)} {o o' : Obj} {s : Shared}
theorem l_setV {name : Str} {es es' : List DictEntry} {n n' : Nat} {v : Value} {f : Unit → Sem β} (F : Fr h₀ L hp m) (N : News h₀ L hp news) (hm : (a, dictOf es n) ∈ news)
    (hs : es.length ≤ 100) (hl : (getL name es).isSome = true) (e : (putL name (PyData.keyHash w.params name) (.str name tk) v es, putN name es n) = (es', n')) (U : Upd a (dictOf es n) (dictOf es' n') news news')
    (h : ∀ hp', Fr h₀ L hp' m → News h₀ L hp' news' → wpAny (model prog w) A (f ()) Q E ⟨hp', g, d, tk + 1, os⟩) : wpAny (model prog w) A (nsSetByValue a name v >>= f) Q E ⟨hp, g, d, tk, os⟩ := by
  unfold nsSetByValue
  refine wpAny_bind (wpAny_bind (wpAny_loadPart (N _ hm).1 ?_))
  dsimp only
  rw [if_neg (by
    have : ¬ (es.toArray.size > sizeLine) := by rw [List.size_toArray]; unfold sizeLine; lia
    rw [decide_eq_false this, Bool.false_and]; exact Bool.false_ne_true)]
  exact nsSet_led F N hl e U h
end
end Mine
end
section
open PySem PySem.W PyProof.Rows PySem.Calls
set_option maxRecDepth 100000
namespace Mine
open PySem.Builtin
section
variable {prog : Program} {w : World} {M : Model} {A : Around} {E : Value → Shared → Prop} {hp h₀ : Heap} {g : Array GenState} {d : Drawn} {tk : Nat} {os : OsState} {L a : Addr} {m : Str → Option Value} {news : List (Addr × Obj)} {cd : ClassData} {dd : Option Addr} {sl : Array (Option Value)}
theorem sub_self {s : Shared} {Q : Bool → Shared → Prop} (N : News h₀ L s.heap news) (hm : (a, ({ cls := .type "type", dict := dd, data := .cls cd, slots := sl } : Obj)) ∈ news) (h1 : cd.mro = [.ref a, .type "object"]) (b : Value)
    (hb : b = .ref a ∨ b = .type "object") (h : Q true s) : wpAny M A (isSubtype (.ref a) b) Q E s := by
  unfold isSubtype mroOf
  refine wpAny_bind (l_cdata N hm (wpAny_pure ?_))
  rw [h1]
  dsimp only
  refine l_no (by rfl) ?_
  have : ([Value.ref a, Value.type "object"].contains b) = true := by
    rcases hb with rfl | rfl <;> simp
  rw [this]
  exact wpAny_pure h
theorem super_cls {Q : Value → Shared → Prop} (F : Fr h₀ L hp m) (N : News h₀ L hp news) (hm : (a, ({ cls := .type "type", dict := dd, data := .cls cd, slots := sl } : Obj)) ∈ news) (h1 : cd.mro = [.ref a, .type "object"])
    (h : ∀ so hp', Fr h₀ L hp' m → News h₀ L hp' ((so, ks_superObj a a a) :: news) → AllLt so news → Q (.ref so) ⟨hp', g, d, tk, os⟩) : wpAny (model prog w) A (call (.type "super") [.ref a, .ref a]) Q E ⟨hp, g, d, tk, os⟩ := by
  have hD := (N _ hm).1
  refine ks_callType_codesW (Q₁ := fun obj s₁ => obj = .ref hp.objs.size ∧ s₁ = ⟨hp.push { cls := .type "super", data := .fields #[.none, .none, .none] }, g, d, tk, os⟩) PySem.F.ks_called_super (ks_wpAny_checkTypeCall_super hD rfl) PySem.F.ks_entry_super_init
    (ks_code_super_new _ _ ⟨rfl, rfl⟩) fun obj s₁ h₁ => ?_
  obtain ⟨rfl, rfl⟩ := h₁
  have up : ∀ y o, hp.get? y = some o → (hp.push { cls := .type "super", data := .fields #[.none, .none, .none] }).get? y = some o := fun y o e => Heap.get?_push_of_some _ e
  have hso : (hp.push { cls := .type "super", data := .fields #[.none, .none, .none] }).get? hp.objs.size = some { cls := .type "super", dict := none, data := .fields #[.none, .none, .none], slots := #[] } := Heap.get?_push_at rfl rfl
  have hD' := up _ _ hD
  refine ⟨⟨_, hso, rfl⟩, PySem.F.ks_initArgs_super _ _ _, ?_⟩
  have F1 := F.push { cls := .type "super", data := .fields #[.none, .none, .none] }
  have N1 := News.push F N { cls := .type "super", data := .fields #[.none, .none, .none] } rfl
  have l1 := ledLt N
  unfold Builtin.«super.__init__» noKeywords
  refine wpAny_bind (l_yes rfl (wpAny_pure ?_))
  (try wp_delta)
  refine l_pure ?_
  (try wp_delta)
  refine wpAny_bind (ks_wpAny_isType_cls hD' rfl ?_)
  (try wp_delta)
  refine l_no rfl ?_
  refine l_no (by rfl) ?_
  refine wpAny_bind ?_
  wp_step
  refine wpAny_bind (ks_wpAny_isType_cls hD' rfl ?_)
  (try wp_delta)
  refine l_yes rfl ?_
  refine wpAny_bind (sub_self N1 (.tail _ hm) h1 _ (.inl rfl) ?_)
  refine l_yes rfl (wpAny_pure ?_)
  refine ks_wpAny_super_set3 hso (fun h' e k => ⟨rfl, ?_⟩)
  obtain ⟨F', N', l'⟩ := ks_newsPush (s := ⟨hp, g, d, tk, os⟩) (o := ks_superObj a a a) F N rfl e (fun y o ey => k y o (Nat.ne_of_lt (Heap.lt_size ey)) (up y o ey))
  exact h _ _ F' N' l1
theorem entry_isub : entryFor table "object.__init_subclass__" = some Builtin.«object.__init_subclass__» := entryFor_of_tree (by kernel_rfl)
theorem entry_cmget : entryFor table "classmethod_descriptor.__get__" = some Builtin.«classmethod_descriptor.__get__» := entryFor_of_tree (by kernel_rfl)
theorem slot_cmget : Slot "classmethod_descriptor" "__get__" "classmethod_descriptor.__get__" := .of (owner := "classmethod_descriptor") (n := "__get__") (by rw [typeLookup_type, builtinLookup_eq_fast]; kernel_rfl) (by decide +kernel) (by decide +kernel) (by decide +kernel)
  (by first | exact .inl (by decide +kernel) | exact .inr (by decide +kernel)) (by rw [isSubtype_type]; kernel_rfl)
theorem args_cmget (a b c : Value) : argsOk "classmethod_descriptor.__get__" ⟨[a, b, c], []⟩ := by unfold argsOk; kernel_rfl
theorem own_isub : classOwn (.type "object") (S "__init_subclass__") = pure (some (.builtin "object.__init_subclass__")) := by unfold classOwn; dsimp only; rw [builtinOwn_eq_fast]; kernel_rfl
theorem type_isub : typeOf (.builtin "object.__init_subclass__") = pure (.type "classmethod_descriptor") := by kernel_rfl
theorem isub_is (s : Shared) : s.TypeIs (.builtin "object.__init_subclass__") "classmethod_descriptor" := type_isub
noncomputable abbrev bfObj (a : Addr) : Obj := { cls := .type "builtin_function_or_method", data := .fields #[.builtin "object.__init_subclass__", .ref a] }
theorem cmget_led {Q : Fin → Shared → Prop} (F : Fr h₀ L hp m) (N : News h₀ L hp news) (hm : (a, ({ cls := .type "type", dict := dd, data := .cls cd, slots := sl } : Obj)) ∈ news) (h1 : cd.mro = [.ref a, .type "object"])
    (h : ∀ so hp', Fr h₀ L hp' m → News h₀ L hp' ((so, bfObj a) :: news) → AllLt so news → Q (.done (.ret (.ref so))) ⟨hp', g, d, tk, os⟩) :
    wpAny M A (Builtin.«classmethod_descriptor.__get__» ⟨[.builtin "object.__init_subclass__", .none, .ref a], []⟩) Q E ⟨hp, g, d, tk, os⟩ := by
  have hD := (N _ hm).1
  unfold Builtin.«classmethod_descriptor.__get__»
  refine wpAny_bind (wpAny_of_eq (a := (.builtin "object.__init_subclass__", none, some (.ref a))) (by kernel_rfl) ?_)
  (try wp_delta)
  refine l_pure ?_
  (try wp_delta)
  refine wpAny_bind (ks_wpAny_isType_cls hD rfl ?_)
  refine l_no rfl ?_
  refine wpAny_bind (sub_self N hm h1 _ (.inr (by kernel_rfl)) ?_)
  refine l_no rfl ?_
  unfold newFields
  exact l_new F N (fun q hp F N l => wpAny_pure (h _ _ F N l)) (by size_fits) rfl
end
end Mine
end
section
open PySem PySem.W PyProof.Rows PySem.Calls
set_option maxRecDepth 100000
namespace Mine
section
variable {prog : Program} {w : World} {M : Model} {A : Around} {E : Value → Shared → Prop} {hp h₀ : Heap} {g : Array GenState} {d : Drawn} {tk : Nat} {os : OsState} {L a so : Addr} {m : Str → Option Value} {news : List (Addr × Obj)} {cd : ClassData} {dd : Option Addr} {sl : Array (Option Value)}
theorem l_field {o : Obj} {vs : Array Value} {i : Nat} {x : Value} {β : Type} {f : Value → Sem β} {Q : β → Shared → Prop} {s : Shared} (N : News h₀ L s.heap news) (hm : (so, o) ∈ news) (hd : o.data = .fields vs) (hx : vs[i]? = some x) (h : wpAny M A (f x) Q E s) :
    wpAny M A (field (.ref so) i >>= f) Q E s := wpAny_bind (wpAny_field (N _ hm).1 hd hx h)
theorem super_ga_cls {Q : Fin → Shared → Prop} {t : Tok} (F : Fr h₀ L hp m) (N : News h₀ L hp news) (hm : (a, ({ cls := .type "type", dict := dd, data := .cls cd, slots := sl } : Obj)) ∈ news) (h1 : cd.mro = [.ref a, .type "object"])
    (hs : (so, ks_superObj a a a) ∈ news) (hno : Looks (model prog w) hp (opaqueClassAbove (.ref a)) none)
    (h : ∀ q hp', Fr h₀ L hp' m → News h₀ L hp' ((q, bfObj a) :: news) → AllLt q news → Q (.done (.ret (.ref q))) ⟨hp', g, d, tk, os⟩) :
    wpAny (model prog w) A (Builtin.«super.__getattribute__» ⟨[.ref so, .str (S "__init_subclass__") t], []⟩) Q E ⟨hp, g, d, tk, os⟩ := by
  have hl : (([.ref a, .type "object"] : List Value).dropWhile (· != .ref a)).drop 1 = [.type "object"] := by simp
  unfold Builtin.«super.__getattribute__»
  refine l_pure ?_
  refine l_no (by rfl) ?_
  refine l_pure ?_
  refine l_field (x := .ref a) N hs rfl rfl ?_
  refine l_field (x := .ref a) N hs rfl rfl ?_
  refine l_field (x := .ref a) N hs rfl rfl ?_
  (try wp_delta)
  refine l_no (by kernel_rfl) ?_
  refine wpAny_bind (ks_wpAny_notOpaque hno ?_)
  refine l_no (by kernel_rfl) ?_
  unfold mroOf
  refine wpAny_bind (l_cdata N hm (wpAny_pure ?_))
  rw [h1, hl]
  refine wpAny_bind ?_
  rw [List.forIn_cons]
  refine wpAny_bind (wpAny_bind (wpAny_of_eq own_isub ?_))
  refine wpAny_bind (wpAny_of_eq type_isub ?_)
  refine wpAny_bind (wpAny_of_eq (slot_cmget.lookup) ?_)
  have hb : ((Value.ref a == Value.ref a) = true) := by simp
  rw [if_pos hb]
  refine wpAny_bind (wpAny_holding (wpAny_call_entry slot_cmget (isub_is _) entry_cmget (cmget_led F N hm h1 (fun q hp F N l => ⟨_, rfl, ?_⟩)) (args_cmget _ _ _)))
  refine l_pure (wpAny_pure ?_)
  refine wpAny_pure ?_
  exact wpAny_pure (h _ _ F N l)
theorem getattr_isub {Q : Value → Shared → Prop} (F : Fr h₀ L hp m) (N : News h₀ L hp news) (hm : (a, ({ cls := .type "type", dict := dd, data := .cls cd, slots := sl } : Obj)) ∈ news) (h1 : cd.mro = [.ref a, .type "object"])
    (hs : (so, ks_superObj a a a) ∈ news) (hno : Looks (model prog w) hp (opaqueClassAbove (.ref a)) none)
    (h : ∀ q hp', Fr h₀ L hp' m → News h₀ L hp' ((q, bfObj a) :: news) → AllLt q news → Q (.ref q) ⟨hp', g, d, tk + 1, os⟩) :
    wpAny (model prog w) A (getAttr (.ref so) (S "__init_subclass__")) Q E ⟨hp, g, d, tk, os⟩ := by
  have hlk := PySem.F.ks_slot_super_ga.lookup
  have hT : ∀ t', (⟨hp, g, d, t', os⟩ : Shared).TypeIs (.ref so) "super" := fun _ => ⟨_, (N _ hs).1, rfl⟩
  unfold getAttr getAttrBy
  refine wpAny_bind (wpAny_mkText (wpAny_holding (wpAny_bind (wpAny_typeOf (hT _) (wpAny_bind (wpAny_of_eq hlk ?_))))))
  show wpAny _ _ (getAttrByItsOwn (.ref so) (.str (S "__init_subclass__") tk) (.type "super") (.builtin "super.__getattribute__") true false) _ _ _
  unfold getAttrByItsOwn hookBefore callGetattribute boundAndCalled
  refine wpAny_bind (wpAny_of_eq (show (if onTheHeap (.type "super") then typeLookup (.type "super") "__getattr__" else pure none) = pure none from rfl) ?_)
  refine wpAny_bind (wpAny_attempt (wpAny_holding ?_))
  show wpAny _ _ (bindSpecial (.builtin "super.__getattribute__") (.ref so) >>= _) _ _ _
  refine wpAny_bind (wpAny_of_eq (PySem.F.ks_slot_super_ga.bind _) ?_)
  refine wpAny_toS (P := fun v s' => Q v s' ∧ ∃ q, v = .ref q) ?_ (fun v s1 hv => ?_)
  · exact wpAny_call_entry PySem.F.ks_slot_super_ga (hT _) PySem.F.ks_entry_super_ga (super_ga_cls F N hm h1 hs hno (fun q hp F N l => ⟨_, rfl, h _ _ F N l, q, rfl⟩)) (PySem.F.ks_gaArgs_super _ _)
  · obtain ⟨hq, q, rfl⟩ := hv
    exact wpAny_pure hq
theorem call_isub {q : Addr} {Q : Value → Shared → Prop} {s : Shared} (N : News h₀ L s.heap news) (hm : (a, ({ cls := .type "type", dict := dd, data := .cls cd, slots := sl } : Obj)) ∈ news) (h1 : cd.mro = [.ref a, .type "object"]) (hq : cd.qualname = S "cmp_to_key.<locals>.K")
    (hs : (q, bfObj a) ∈ news) (h : Q .none s) : wpAny (model prog w) A (call (.ref q) []) Q E s := by
  have hD := (N _ hm).1
  refine wpAny_call (codeAny_of_tree ?_)
  show wpAny _ _ (callAny (.ref q) _) _ _ _
  unfold callAny
  refine wpAny_bind (wpAny_load (N _ hs).1 ?_)
  refine l_yes (by rfl) ?_
  refine l_yes (by rfl) ?_
  refine wpAny_bind ?_
  unfold checkBoundCall
  refine l_no (by kernel_rfl) ?_
  refine wpAny_bind (wpAny_isInstance (T := "type") (b := false) ⟨_, hD, rfl⟩ (by rw [isSubtype_type]; kernel_rfl) ?_)
  refine l_no (by kernel_rfl) ?_
  refine wpAny_bind (show wpAny _ _ (isType (.ref a)) _ _ _ from ks_wpAny_isType_cls (g := s.gens) (d := s.drawn) (t := s.toks) (os := s.os) hD rfl ?_)
  refine l_yes rfl (l_pure ?_)
  refine l_cdata N hm ?_
  rw [hq]
  refine l_typeOf N hm ?_
  refine l_yes (by rfl) ?_
  refine wpAny_of_eq (a := ()) (by kernel_rfl) ?_
  refine wpAny_pure ⟨Code.quiet_builtin _ (by decide +kernel), codeAny_builtin entry_isub ?_⟩
  refine wpAny_of_eq (a := .done (.ret .none)) (by kernel_rfl) ?_
  exact h
end
end Mine
end
section
open PySem PySem.W PyProof.Rows PySem.Calls
set_option maxRecDepth 100000
namespace Mine
open PySem.Builtin
theorem plain_tnew : plainId "type.__new__" = true := by decide +kernel
theorem entry_tnew : entryFor table "type.__new__" = some Builtin.«type.__new__» := entryFor_of_fast (by kernel_rfl)
theorem check_tnew (x : Str) (t : Tok) (b n : Addr) : checkBuiltinCall "type.__new__" ⟨[.type "type", .str x t, .ref b, .ref n], []⟩ = pure () := by kernel_rfl
theorem sub_tup : isSubtype (.type "tuple") (.type "tuple") = pure true := by rw [isSubtype_type]; kernel_rfl
theorem sub_dict : isSubtype (.type "dict") (.type "dict") = pure true := by rw [isSubtype_type]; kernel_rfl
theorem tl_diter : typeLookup (.type "dict") (S "__iter__") = pure (some (.builtin "dict.__iter__")) := by rw [typeLookup_type, builtinLookup_eq_fast]; kernel_rfl
theorem tl_sn_str : typeLookup (.type "str") "__set_name__" = pure none := by rw [typeLookup_type, builtinLookup_eq_fast]; kernel_rfl
theorem tl_sn_int : typeLookup (.type "int") "__set_name__" = pure none := by rw [typeLookup_type, builtinLookup_eq_fast]; kernel_rfl
theorem tl_sn_list : typeLookup (.type "list") "__set_name__" = pure none := by rw [typeLookup_type, builtinLookup_eq_fast]; kernel_rfl
theorem tl_sn_function : typeLookup (.type "function") "__set_name__" = pure none := by rw [typeLookup_type, builtinLookup_eq_fast]; kernel_rfl
theorem tl_sn_NoneType : typeLookup (.type "NoneType") "__set_name__" = pure none := by rw [typeLookup_type, builtinLookup_eq_fast]; kernel_rfl
theorem tl_sn_tuple : typeLookup (.type "tuple") "__set_name__" = pure none := by rw [typeLookup_type, builtinLookup_eq_fast]; kernel_rfl
theorem tl_sn_member_descriptor : typeLookup (.type "member_descriptor") "__set_name__" = pure none := by rw [typeLookup_type, builtinLookup_eq_fast]; kernel_rfl
theorem forIn_quiet {M : Model} {A : Around} {E : Value → Shared → Prop} {α β : Type} {b : β} {f : α → β → Sem (ForInStep β)} {Q : β → Shared → Prop} {s : Shared} : ∀ {l : List α}, (∀ e ∈ l, wpAny M A (f e b) (fun r s' => r = .yield b ∧ s' = s) (fun _ _ => False) s) → Q b s → wpAny M A (forIn l b f) Q E s
  | [], _, h => by rw [List.forIn_nil]; exact wpAny_pure h
  | x :: l, hf, h => by
    rw [List.forIn_cons]
    refine wpAny_bind (wpAny_same _ (hf x (.head _)) ?_)
    exact forIn_quiet (fun e he => hf e (.tail _ he)) h
theorem upd0 {d : Addr} {o o' : Obj} {r : List (Addr × Obj)} (l : AllLt d r) : Upd d o o' ((d, o) :: r) ((d, o') :: r) := .head (AllLt.ne l)
theorem upd1 {d e : Addr} {o o' oe o1 : Obj} {r : List (Addr × Obj)} (l2 : AllLt e ((d, o1) :: r)) (l : AllLt d r) : Upd d o o' ((e, oe) :: (d, o) :: r) ((e, oe) :: (d, o') :: r) := .tail (Nat.ne_of_gt l2.1) (upd0 l)
theorem upd2 {d e f : Addr} {o o' oe of o1 o2 o3 : Obj} {r : List (Addr × Obj)} (l3 : AllLt f ((e, o2) :: (d, o3) :: r)) (l2 : AllLt e ((d, o1) :: r)) (l : AllLt d r) : Upd d o o' ((f, of) :: (e, oe) :: (d, o) :: r) ((f, of) :: (e, oe) :: (d, o') :: r) :=
  .tail (Nat.ne_of_gt l3.2.1) (upd1 l2 l)
noncomputable abbrev KB.es11 (k : KB) (w : World) (st : Addr) (t : Tok) : List DictEntry :=
  [kE w (S "__module__") k.t1 (.str (S "cpy313.functools") k.tm), kE w (S "__firstlineno__") k.t3 k.v3, kE w (S "__slots__") k.t4 (.ref k.ls), kE w (S "__init__") k.t5 (.ref k.f1), kE w (S "__lt__") k.t6 (.ref k.f2),
    kE w (S "__gt__") k.t7 (.ref k.f3), kE w (S "__eq__") k.t8 (.ref k.f4), kE w (S "__le__") k.t9 (.ref k.f5), kE w (S "__ge__") k.t10 (.ref k.f6), kE w (S "__hash__") k.t11 .none, kE w (S "__static_attributes__") t (.ref st)]
noncomputable abbrev KB.es12b (k : KB) (w : World) (st : Addr) (t t2 : Tok) (md : Addr) : List DictEntry :=
  [kE w (S "__module__") k.t1 (.str (S "cpy313.functools") k.tm), kE w (S "__firstlineno__") k.t3 k.v3, kE w (S "__slots__") k.t4 (.ref k.ls), kE w (S "__init__") k.t5 (.ref k.f1), kE w (S "__lt__") k.t6 (.ref k.f2),
    kE w (S "__gt__") k.t7 (.ref k.f3), kE w (S "__eq__") k.t8 (.ref k.f4), kE w (S "__le__") k.t9 (.ref k.f5), kE w (S "__ge__") k.t10 (.ref k.f6), kE w (S "__hash__") k.t11 .none, kE w (S "__static_attributes__") t (.ref st),
    kE w (S "obj") t2 (.ref md)]
noncomputable abbrev KB.es13 (k : KB) (w : World) (st : Addr) (t t2 t3 : Tok) (md : Addr) : List DictEntry :=
  [kE w (S "__module__") k.t1 (.str (S "cpy313.functools") k.tm), kE w (S "__firstlineno__") k.t3 k.v3, kE w (S "__slots__") k.t4 (.ref k.ls), kE w (S "__init__") k.t5 (.ref k.f1), kE w (S "__lt__") k.t6 (.ref k.f2),
    kE w (S "__gt__") k.t7 (.ref k.f3), kE w (S "__eq__") k.t8 (.ref k.f4), kE w (S "__le__") k.t9 (.ref k.f5), kE w (S "__ge__") k.t10 (.ref k.f6), kE w (S "__hash__") k.t11 .none, kE w (S "__static_attributes__") t (.ref st),
    kE w (S "obj") t2 (.ref md), kE w (S "__doc__") t3 .none]
noncomputable abbrev kMd (a : Addr) (t : Tok) : Obj := { cls := .type "member_descriptor", data := .fields #[.str (S "obj") t, .ref a, .builtin "proto.slot", .builtin "proto.slot#set", rawInt 0] }
noncomputable abbrev kCls (ns : Addr) (mro : List Value) (hd : Bool) (sn : List Str) (sl : Array (Option Value)) : Obj :=
  { cls := .type "type", dict := none, data := .cls { name := S "K", bases := [.type "object"], mro := mro, ns := ns, qualname := S "cmp_to_key.<locals>.K", hasDict := hd, slotNames := sn }, slots := sl }
set_option maxHeartbeats 8000000 in
theorem type_new {prog : Program} {w : World} {A : Around} {E : Value → Shared → Prop} {hp h₀ : Heap} {g : Array GenState} {d : Drawn} {tk : Nat} {os : OsState} {L : Addr} {m : Str → Option Value} {k : KB} {st : Addr} {t ts tx : Tok} {Q : Value → Shared → Prop} {news : List (Addr × Obj)}
    (F : Fr h₀ L hp m) (N : News h₀ L hp news) (kin : k.In news) (hbt : (k.bt, ({ cls := .type "tuple", data := .seq #[.type "object"] } : Obj)) ∈ news) (hns : (k.nsA, dictOf (k.es12 w st t) 12) ∈ news) (hst : (st, ({ cls := .type "tuple", data := .seq #[.str (S "obj") ts] } : Obj)) ∈ news) (hn1 : @Ne Nat k.nsA 1) (h1c : k.of1.cls = .type "function") (h2c : k.of2.cls = .type "function")
    (hno : Looks (model prog w) h₀ (nsGet cStatics "thirdparty.any") none) (hv3 : ∃ i t3, k.v3 = .int i t3) (hv2 : ∃ tv, k.v2 = .str (S "cmp_to_key.<locals>.K") tv)
    (h : ∀ ns a md so q t2 t3 tm sl hp' tk', Fr h₀ L hp' m → News h₀ L hp' ((q, bfObj a) :: (so, ks_superObj a a a) :: (md, kMd a tm) :: (a, kCls ns [.ref a, .type "object"] false [S "obj"] sl) :: (ns, dictOf (k.es13 w st t t2 t3 md) 3) :: news) →
      sl[4]? = some (some (.builtin "object.__new__")) → sl[5]? = some (some (.bool false)) → sl.size = 6 → AllLt ns news → @LT.lt Nat _ ns a → @LT.lt Nat _ a md → Q (.ref a) ⟨hp', g, d, tk', os⟩) :
    wpAny (model prog w) A (call (.builtin "type.__new__") [.type "type", .str (S "K") tx, .ref k.bt, .ref k.nsA]) Q E ⟨hp, g, d, tk, os⟩ := by
  obtain ⟨tv, hv2⟩ := hv2
  obtain ⟨i3, t3, hv3⟩ := hv3
  refine wpAny_call (codeAny_call_builtin plain_tnew entry_tnew (wpAny_of_eq (check_tnew _ _ _ _) ?_))
  unfold Builtin.«type.__new__»
  refine wpAny_bind (wpAny_pure ?_)
  refine wpAny_bind (wpAny_isInstance (T := "tuple") (b := true) ⟨_, (N _ hbt).1, rfl⟩ sub_tup ?_)
  refine l_no (by rfl) ?_
  refine wpAny_bind (wpAny_isInstance (T := "dict") (b := true) ⟨_, (N _ hns).1, rfl⟩ sub_dict ?_)
  refine l_no (by rfl) ?_
  refine wpAny_bind (wpAny_same (some #[.type "object"]) ?_ ?_)
  · unfold seqItems?
    refine wpAny_bind (wpAny_load (N _ hbt).1 ?_)
    exact wpAny_pure ⟨rfl, rfl⟩
  rw [if_neg (by decide)]
  refine wpAny_bind (wpAny_of_eq (a := PUnit.unit) (by kernel_rfl) ?_)
  refine wpAny_bind (wpAny_of_eq (a := Value.type "type") (by kernel_rfl) ?_)
  refine l_no (by rfl) ?_
  refine wpAny_bind (wpAny_of_eq nt_obj ?_)
  refine wpAny_bind (wpAny_of_eq eb_obj ?_)
  refine l_no (beq_false_of_ne hn1) ?_
  refine wpAny_bind (wpAny_dictEntries (N _ hns).1 rfl ?_)
  refine wpAny_bind (wpAny_same (some (.builtin "dict.__iter__")) ?_ ?_)
  · unfold specialOf
    exact l_typeOf N hns (wpAny_of_eq tl_diter ⟨rfl, rfl⟩)
  refine l_yes (by rfl) ?_
  refine wpAny_bind (wpAny_pure ?_)
  refine wpAny_bind (wpAny_holding (slots_read F N kin.ml (fun hp F N => ?_)))
  refine l_new F N (fun ns hp F N l1 => ?_) (by size_fits) rfl
  refine l_no (by kernel_rfl) ?_
  refine wpAny_bind (wpAny_of_eq (a := ()) (by kernel_rfl) ?_)
  refine l_no (by kernel_rfl) ?_
  refine wpAny_bind (nsGet_led (es := k.es12 w st t) (n := 0) (v := some k.v2) N (by k_mem) (by rfl) ?_)
  refine wpAny_bind (nsGet_led (es := k.es12 w st t) (n := 0) (v := some k.v2) N (by k_mem) (by rfl) ?_)
  rw [hv2]
  refine wpAny_bind (wpAny_pure ?_)
  refine wpAny_bind (wpAny_pure ?_)
  refine wpAny_bind (nsGet_led (es := k.es12 w st t) (n := 0) (v := none) N (by k_mem) (by rfl) ?_)
  refine l_alloc (o := kCls ns [] true [] #[]) F N (fun a hp F N l2 => ?_) rfl
  refine l_yes (by rfl) ?_
  refine l_slot (o' := kCls ns [] true [] #[some (.ref k.bt)]) F N (by decide) (upd0 l2) rfl rfl (fun hp F N => ?_)
  refine l_slot (o' := kCls ns [] true [] #[some (.ref k.bt), none, some (.str (S "K") tx)]) F N (by decide) (upd0 l2) rfl rfl (fun hp F N => ?_)
  refine l_slot (o' := kCls ns [] true [] #[some (.ref k.bt), none, some (.str (S "K") tx), some (.str (S "cmp_to_key.<locals>.K") tv)]) F N (by decide) (upd0 l2) rfl rfl (fun hp F N => ?_)
  refine l_del (es := k.es12 w st t) (es' := k.es11 w st t) (n := 0) (n' := 1) F N (by kernel_rfl) (by kernel_rfl) (upd1 l2 l1) (fun hp F N => ?_)
  (try wp_delta)
  refine l_get (es := k.es11 w st t) (n := 1) (v := none) N (by k_mem) (by rfl) ?_
  refine wpAny_bind (wpAny_same PUnit.unit ?_ ?_)
  · rw [List.forIn_cons]
    refine wpAny_bind (l_get (es := k.es11 w st t) (n := 1) (v := none) N (by k_mem) (by rfl) (wpAny_pure ?_))
    (try wp_delta)
    rw [List.forIn_cons]
    refine wpAny_bind (l_get (es := k.es11 w st t) (n := 1) (v := none) N (by k_mem) (by rfl) (wpAny_pure ?_))
    exact wpAny_pure ⟨rfl, rfl⟩
  refine l_get (es := k.es11 w st t) (n := 1) (v := none) N (by k_mem) (by rfl) ?_
  refine l_get (es := k.es11 w st t) (n := 1) (v := none) N (by k_mem) (by rfl) ?_
  refine wpAny_bind (wpAny_of_eq mh_type ?_)
  refine wpAny_bind (wpAny_of_eq li_obj ?_)
  refine l_pure ?_
  have ef : List.filter (fun x => x != Value.ref a) [Value.ref a, Value.type "object"] = [Value.type "object"] := by simp
  refine wpAny_bind (wpAny_same false ?_ ?_)
  · rw [ef]
    exact wpAny_of_eq (by kernel_rfl) ⟨rfl, rfl⟩
  refine l_updCls (c' := { name := S "K", bases := [.type "object"], mro := [.ref a, .type "object"], ns := ns, qualname := S "cmp_to_key.<locals>.K", hasDict := true, slotNames := [] }) F N (upd0 l2) (by kernel_rfl) (by rfl) (fun hp F N => ?_)
  refine wpAny_bind (wpAny_of_eq mb_obj ?_)
  refine l_slot (o' := kCls ns [.ref a, .type "object"] true [] #[some (.ref k.bt), none, some (.str (S "K") tx), some (.str (S "cmp_to_key.<locals>.K") tv), some (.builtin "object.__new__")]) F N (by decide) (upd0 l2) rfl rfl (fun hp F N => ?_)
  (try wp_delta)
  refine wpAny_bind (wpAny_same PUnit.unit ?_ ?_)
  · unfold Bind.refreshMaker
    refine l_slotAt (o := kCls ns [.ref a, .type "object"] true [] #[some (.ref k.bt), none, some (.str (S "K") tx), some (.str (S "cmp_to_key.<locals>.K") tv), some (.builtin "object.__new__")]) N (by k_mem) (some (.builtin "object.__new__")) (by rfl) ?_
    refine l_no (by rfl) ?_
    (try wp_delta)
    refine wpAny_bind (tl_led (ns := ns) (es := k.es11 w st t) (n := 1) (v := none) (x := some (.builtin "object.__new__")) N (by k_mem) (by k_mem) rfl rfl (by rfl) (.inr (by rw [builtinOwn_eq_fast]; kernel_rfl)) ?_)
    (try wp_delta)
    rw [if_neg (by decide +kernel)]
    exact wpAny_pure ⟨rfl, rfl⟩
  refine wpAny_bind ?_
  unfold Slots.install
  refine wpAny_bind ?_
  show wpAny _ _ (forIn [S "obj"] 1 _) _ _ _
  rw [List.forIn_cons]
  refine wpAny_bind (l_get (es := k.es11 w st t) (n := 1) (v := none) N (by k_mem) (by rfl) ?_)
  (try wp_delta)
  refine l_yes (by rfl) ?_
  unfold mkStr
  refine l_text ?_
  unfold newFields
  refine l_new F N (fun md hp F N l3 => ?_) (by size_fits) rfl
  refine l_setV (es := k.es11 w st t) (n := 1) (es' := k.es12b w st t (tk + 1) md) (n' := 2) F N (by k_mem) (by simp) (by rfl) (by k_put) (upd2 l3 l2 l1) (fun hp F N => ?_)
  refine wpAny_pure ?_
  (try wp_delta)
  rw [List.forIn_nil]
  refine wpAny_pure ?_
  refine wpAny_bind (wpAny_of_eq (a := false) (by kernel_rfl) ?_)
  rw [if_neg (by show ¬ (1 > sizeLine); unfold sizeLine; omega)]
  refine updCls_led (c' := { name := S "K", bases := [.type "object"], mro := [.ref a, .type "object"], ns := ns, qualname := S "cmp_to_key.<locals>.K", hasDict := false, slotNames := [S "obj"] }) F N (upd1 l3 l2) (by kernel_rfl) (by rfl) (fun hp F N => ?_)
  refine wpAny_bind (wpAny_of_eq gw_obj ?_)
  refine l_slot (o' := kCls ns [.ref a, .type "object"] false [S "obj"] #[some (.ref k.bt), none, some (.str (S "K") tx), some (.str (S "cmp_to_key.<locals>.K") tv), some (.builtin "object.__new__"), some (.bool false)]) F N (by decide) (upd1 l3 l2) rfl rfl (fun hp F N => ?_)
  rw [if_neg (by decide)]
  rw [if_neg (by decide)]
  refine l_get (es := k.es12b w st t (tk + 1) md) (n := 2) (v := none) N (by k_mem) (by rfl) ?_
  refine l_yes (by rfl) ?_
  refine l_set (es := k.es12b w st t (tk + 1) md) (n := 2) (es' := k.es13 w st t (tk + 1) (tk + 1 + 1) md) (n' := 3) F N (by rfl) (by k_put) (upd2 l3 l2 l1) (fun hp F N => ?_)
  refine l_get (es := k.es13 w st t (tk + 1) (tk + 1 + 1) md) (n := 3) (v := some (.ref k.f4)) N (by k_mem) (by rfl) ?_
  refine l_yes (by rfl) ?_
  refine l_get (es := k.es13 w st t (tk + 1) (tk + 1 + 1) md) (n := 3) (v := some .none) N (by k_mem) (by rfl) ?_
  (try wp_delta)
  refine l_no (by rfl) ?_
  refine wpAny_bind (wpAny_of_eq (a := ()) (by kernel_rfl) ?_)
  refine wpAny_bind (wpAny_tryCatch (wpAny_holding ?_))
  refine wpAny_bind (wpAny_dictEntries (N (ns, _) (by k_mem)).1 rfl ?_)
  (try wp_delta)
  refine wpAny_bind (wpAny_of_eq (a := false) (by kernel_rfl) ?_)
  refine l_no rfl ?_
  refine wpAny_bind (wpAny_dictEntries (N (ns, _) (by k_mem)).1 rfl ?_)
  (try wp_delta)
  rw [List.forIn_toArray]
  refine wpAny_bind (forIn_quiet (fun e he => ?_) ?_)
  · rcases inL13 he with rfl | rfl | rfl | rfl | rfl | rfl | rfl | rfl | rfl | rfl | rfl | rfl | rfl
    · exact l_no (by kernel_rfl) (wpAny_bind (wpAny_specialOf (T := "str") rfl tl_sn_str (wpAny_pure ⟨rfl, rfl⟩)))
    · exact l_no (by rw [hv3]; kernel_rfl) (wpAny_bind (wpAny_specialOf (T := "int") (by rw [hv3]; rfl) tl_sn_int (wpAny_pure ⟨rfl, rfl⟩)))
    · exact l_no (by kernel_rfl) (wpAny_bind (wpAny_specialOf (T := "list") ⟨_, (N _ (.tail _ (.tail _ (.tail _ kin.ml)))).1, rfl⟩ tl_sn_list (wpAny_pure ⟨rfl, rfl⟩)))
    · exact l_no (by kernel_rfl) (wpAny_bind (wpAny_specialOf (T := "function") ⟨_, (N _ (.tail _ (.tail _ (.tail _ kin.m1)))).1, h1c⟩ tl_sn_function (wpAny_pure ⟨rfl, rfl⟩)))
    · exact l_no (by kernel_rfl) (wpAny_bind (wpAny_specialOf (T := "function") ⟨_, (N _ (.tail _ (.tail _ (.tail _ kin.m2)))).1, h2c⟩ tl_sn_function (wpAny_pure ⟨rfl, rfl⟩)))
    · exact l_no (by kernel_rfl) (wpAny_bind (wpAny_specialOf (T := "function") ⟨_, (N _ (.tail _ (.tail _ (.tail _ kin.m3.1)))).1, kin.m3.2⟩ tl_sn_function (wpAny_pure ⟨rfl, rfl⟩)))
    · exact l_no (by kernel_rfl) (wpAny_bind (wpAny_specialOf (T := "function") ⟨_, (N _ (.tail _ (.tail _ (.tail _ kin.m4.1)))).1, kin.m4.2⟩ tl_sn_function (wpAny_pure ⟨rfl, rfl⟩)))
    · exact l_no (by kernel_rfl) (wpAny_bind (wpAny_specialOf (T := "function") ⟨_, (N _ (.tail _ (.tail _ (.tail _ kin.m5.1)))).1, kin.m5.2⟩ tl_sn_function (wpAny_pure ⟨rfl, rfl⟩)))
    · exact l_no (by kernel_rfl) (wpAny_bind (wpAny_specialOf (T := "function") ⟨_, (N _ (.tail _ (.tail _ (.tail _ kin.m6.1)))).1, kin.m6.2⟩ tl_sn_function (wpAny_pure ⟨rfl, rfl⟩)))
    · exact l_no (by kernel_rfl) (wpAny_bind (wpAny_specialOf (T := "NoneType") rfl tl_sn_NoneType (wpAny_pure ⟨rfl, rfl⟩)))
    · exact l_no (by kernel_rfl) (wpAny_bind (wpAny_specialOf (T := "tuple") ⟨_, (N _ (.tail _ (.tail _ (.tail _ hst)))).1, rfl⟩ tl_sn_tuple (wpAny_pure ⟨rfl, rfl⟩)))
    · exact l_no (by kernel_rfl) (wpAny_bind (wpAny_specialOf (T := "member_descriptor") ⟨_, (N (md, _) (by k_mem)).1, rfl⟩ tl_sn_member_descriptor (wpAny_pure ⟨rfl, rfl⟩)))
    · exact l_no (by kernel_rfl) (wpAny_bind (wpAny_specialOf (T := "NoneType") rfl tl_sn_NoneType (wpAny_pure ⟨rfl, rfl⟩)))
  refine wpAny_bind (super_cls F N (a := a) (by k_mem) rfl (fun so hp F N l4 => ?_))
  have hop : Looks (model prog w) hp (opaqueClassAbove (.ref a)) none :=
    Looks.andThen (a := false) ((hno.keeps F.keep).andThen .now) (by show Looks _ _ (if (!false) = true then pure none else _) none; rw [if_pos (show (!false) = true from rfl)]; exact .now)
  refine wpAny_bind (wpAny_holding (getattr_isub F N (a := a) (by k_mem) rfl (by k_mem) hop (fun q hp F N l5 => ?_)))
  refine wpAny_bind (call_isub N (a := a) (by k_mem) rfl rfl (by k_mem) ?_)
  refine wpAny_pure ?_
  refine wpAny_pure ?_
  exact h ns a md so q _ _ _ _ _ _ F N rfl rfl rfl l1 l2.1 l3.1
end Mine
end
section
open PySem PySem.W PyProof.Rows PySem.Calls
set_option maxRecDepth 100000
set_option genInjectivity false
set_option genSizeOf false
namespace Mine
set_option genInjectivity false in
set_option genSizeOf false in
structure KX where
  (a ns md st : Addr) (t t2 t3 tm : Tok) (sl : Array (Option Value))
noncomputable abbrev KB.tabs (k : KB) : List (Addr × Obj) := [(58, tabObj k.tab), (k.PK, tabObj k.ps), (k.cK, k.oK), (k.c1, k.oc1), (k.c2, k.oc2)]
noncomputable abbrev KX.led (x : KX) (w : World) (k : KB) : List (Addr × Obj) :=
  (x.md, kMd x.a x.tm) :: (x.a, kCls x.ns [.ref x.a, .type "object"] false [S "obj"] x.sl) :: (x.ns, dictOf (k.es13 w x.st x.t x.t2 x.t3 x.md) 3) :: (k.f1, k.of1) :: (k.f2, k.of2) :: (k.cc, k.oC) :: k.tabs
structure KX.Ok (x : KX) (k : KB) : Prop where
  s4 : x.sl[4]? = some (some (.builtin "object.__new__"))
  s5 : x.sl[5]? = some (some (.bool false))
  s6 : x.sl.size = 6
  n1 : @LT.lt Nat _ k.f1 x.ns
  n2 : @LT.lt Nat _ k.f2 x.ns
  n3 : @LT.lt Nat _ x.ns x.a
  n4 : @LT.lt Nat _ x.a x.md
structure Kept (k : KB) : Prop where
  hK : CodeObj k.oK k.PK
  ht : TriplesOk k.tab.toList
  hc : codeAmong clsPos k.tab.toList = some (.ref k.cK)
  off : ∀ q ∈ [(58, tabObj k.tab), (k.cK, k.oK), (k.c1, k.oc1), (k.c2, k.oc2)], q.1 ≠ k.PK
inductive Start (mg : Str → Option Value) : List (Addr × Obj) → Prop
  | one : Start mg [(58, tabObj #[])]
  | two {k : KB} (ok : k.Ok mg) (kp : Kept k) : Start mg k.tabs
theorem cls_code {w : World} {A : Around} {E : Value → Shared → Prop} {hp h₀ : Heap} {g : Array GenState} {d : Drawn} {tk : Nat} {os : OsState} {L nsA bt cc : Addr} {m mg : Str → Option Value} {oC o1 o2 : Obj} {led : List (Addr × Obj)} {name qual : Str} {scope : Scope} {fl : Nat} {Q : Value → Shared → Prop}
    (st : Start mg led) (F : Fr h₀ L hp m) (N : News h₀ L hp ((nsA, o1) :: (bt, o2) :: (cc, oC) :: led)) (C : CodeHd h₀ 62 58) (l1 : AllLt nsA ((bt, o2) :: (cc, oC) :: led)) (l2 : AllLt bt ((cc, oC) :: led)) (l3 : ∀ q ∈ led, @LT.lt Nat _ q.1 cc)
    (h : ∀ cK PK oK ps tab R hp' tk', Fr h₀ L hp' m → News h₀ L hp' ((PK, tabObj ps) :: (nsA, o1) :: R) → Off PK nsA R → (cK, oK) ∈ R → CodeObj oK PK → TriplesOk ps.toList → (∀ y ∈ kTodo, Cod ps R y) → (bt, o2) ∈ R → (cc, oC) ∈ R → (58, tabObj tab) ∈ R →
      TriplesOk tab.toList → codeAmong clsPos tab.toList = some (.ref cK) → Q (.ref cK) ⟨hp', g, d, tk', os⟩) :
    wpAny (model prg w) A (classCode (keyEnv L) clsPos fl name qual scope) Q E ⟨hp, g, d, tk, os⟩ := by
  have r1 := AllLt.ne l1
  have u2 := l2
  cases st with
  | one =>
    have l58 : @LT.lt Nat _ 58 cc := l3 (58, tabObj #[]) (.head _)
    refine clsCode_new (ps := #[]) (g := fun o => [(nsA, o1), (bt, o2), (cc, oC), (58, o)]) F N (C.keeps F.keep) rfl (.tail (Nat.ne_of_gt l1.2.2.1) (.tail (Nat.ne_of_gt l2.2.1) (.tail (Nat.ne_of_gt l58) (.head (List.forall_mem_nil _))))) trivial rfl (fun cK PK oc h' tk' F1 N1 hK m1 m2 hne => ?_)
    refine h cK PK oc #[] _ [(cK, oc), (bt, o2), (cc, oC), (58, _)] _ _ F1 (News.sub N1 (fun q hq => ?_)) ⟨Nat.ne_of_gt m1.1, ?_, ?_⟩ (.head _) hK trivial (fun y _ => .inl rfl) (by k_mem) (by k_mem) (by k_mem) (TriplesOk_snoc _ _ _ [] trivial) (codeAmong_snoc [] trivial rfl)
    · rcases List.mem_cons.mp hq with rfl | hq
      · exact .tail _ (.head _)
      · rcases List.mem_cons.mp hq with rfl | hq
        · exact .tail _ (.tail _ (.head _))
        · rcases List.mem_cons.mp hq with rfl | hq
          · exact .head _
          · exact .tail _ (.tail _ (.tail _ hq))
    · exact List.forall_mem_cons.mpr ⟨hne, List.forall_mem_cons.mpr ⟨Nat.ne_of_lt m1.2.1, List.forall_mem_cons.mpr ⟨Nat.ne_of_lt m1.2.2.1, List.forall_mem_cons.mpr ⟨Nat.ne_of_lt m1.2.2.2.1, List.forall_mem_nil _⟩⟩⟩⟩
    · exact List.forall_mem_cons.mpr ⟨Nat.ne_of_gt m2.1, List.forall_mem_cons.mpr ⟨Nat.ne_of_lt l1.1, List.forall_mem_cons.mpr ⟨Nat.ne_of_lt l1.2.1, List.forall_mem_cons.mpr ⟨Nat.ne_of_lt l1.2.2.1, List.forall_mem_nil _⟩⟩⟩⟩
  | @two k ok kp =>
    refine clsCode_hit N (C.keeps F.keep) rfl (by k_mem) kp.hc ?_
    have hb : @LT.lt Nat _ k.PK bt := l2.2.2.1
    have hn : @LT.lt Nat _ k.PK nsA := l1.2.2.2.1
    have hcc : @LT.lt Nat _ k.PK cc := l3 (k.PK, tabObj k.ps) (.tail _ (.head _))
    refine h k.cK k.PK k.oK k.ps k.tab [(bt, o2), (cc, oC), (58, tabObj k.tab), (k.cK, k.oK), (k.c1, k.oc1), (k.c2, k.oc2)] _ _ F (News.sub N (fun q hq => ?_)) ⟨Nat.ne_of_lt hn, ?_, ?_⟩ (by k_mem) kp.hK ok.ht ?_ (by k_mem) (by k_mem) (by k_mem) kp.ht kp.hc
    · rcases List.mem_cons.mp hq with rfl | hq
      · k_mem
      · rcases List.mem_cons.mp hq with rfl | hq
        · exact .head _
        · rcases List.mem_cons.mp hq with rfl | hq
          · exact .tail _ (.head _)
          · rcases List.mem_cons.mp hq with rfl | hq
            · exact .tail _ (.tail _ (.head _))
            · rcases List.mem_cons.mp hq with rfl | hq
              · exact .tail _ (.tail _ (.tail _ (.head _)))
              · exact .tail _ (.tail _ (.tail _ (.tail _ (.tail _ hq))))
    · exact List.forall_mem_cons.mpr ⟨Nat.ne_of_gt hb, List.forall_mem_cons.mpr ⟨Nat.ne_of_gt hcc, kp.off⟩⟩
    · exact fun q hq => r1 q (by
        rcases List.mem_cons.mp hq with rfl | hq
        · exact .head _
        · rcases List.mem_cons.mp hq with rfl | hq
          · exact .tail _ (.head _)
          · rcases List.mem_cons.mp hq with rfl | hq
            · exact .tail _ (.tail _ (.head _))
            · exact .tail _ (.tail _ (.tail _ (.tail _ hq))))
    · have dn := ok.dn
      refine List.forall_mem_cons.mpr ⟨.inr ⟨k.c1, dn (kp1, k.c1) (by k_mem), fun q e => ⟨k.oc1, by k_mem, by cases e; exact ok.hc1⟩⟩, List.forall_mem_cons.mpr ⟨.inr ⟨k.c2, dn (kp2, k.c2) (by k_mem), fun q e => ⟨k.oc2, by k_mem, by cases e; exact ok.hc2⟩⟩,
        List.forall_mem_cons.mpr ⟨.inr ⟨k.c3, dn (kp3, k.c3) (by k_mem), fun q e => nomatch e⟩, List.forall_mem_cons.mpr ⟨.inr ⟨k.c4, dn (kp4, k.c4) (by k_mem), fun q e => nomatch e⟩, List.forall_mem_cons.mpr ⟨.inr ⟨k.c5, dn (kp5, k.c5) (by k_mem), fun q e => nomatch e⟩,
        List.forall_mem_cons.mpr ⟨.inr ⟨k.c6, dn (kp6, k.c6) (by k_mem), fun q e => nomatch e⟩, List.forall_mem_nil _⟩⟩⟩⟩⟩⟩
set_option maxHeartbeats 4000000 in
theorem build_cls {w : World} {A : Around} {E : Value → Shared → Prop} {hp h₀ : Heap} {g : Array GenState} {d : Drawn} {tk : Nat} {os : OsState} {L cc : Addr} {m mg mb : Str → Option Value} {oC : Obj} {Q : Value → Shared → Prop} {led : List (Addr × Obj)} (st : Start mg led)
    (F : Fr h₀ L hp m) (N : News h₀ L hp ((cc, oC) :: led))
    {p : Program} {loose : List Str} {mean : ExcName → Option Value} (T : Top p loose mean mg mb h₀) (C2 : CodeHd h₀ 62 58) (hno : Looks (model prg w) h₀ (nsGet cStatics "thirdparty.any") none) (hd : A.depth + 2 < recursionLimit) (hl : ∀ q ∈ led, @LT.lt Nat _ q.1 L) (l58 : @LT.lt Nat _ 58 L) (lcc : @Eq Nat cc (L + 1)) {nm : Value} (hnm : mg (S "__name__") = some nm)
    (h : ∀ (k : KB) (x : KX) hp' tk', k.Ok mg → x.Ok k → Kept k → k.oC = oC → Fr h₀ L hp' m → News h₀ L hp' (x.led w k) → Q (.ref x.a) ⟨hp', g, d, tk', os⟩) :
    wpAny (model prg w) A (buildClass (S "K") (S "cmp_to_key.<locals>.K") [.type "object"] [] clsBody clsScope [S "obj"] 48 (keyEnv L) clsPos none) Q E ⟨hp, g, d, tk, os⟩ := by
  have l3 : ∀ q ∈ led, @LT.lt Nat _ q.1 cc := fun q hq => by rw [lcc]; exact Nat.lt_succ_of_lt (hl q hq)
  have lc1 : @LT.lt Nat _ 1 cc := by rw [lcc]; exact Nat.lt_succ_of_lt (Nat.lt_trans (by decide) l58)
  unfold buildClass
  have g0 : (keyEnv L).globals = mainGlobals := rfl
  have a2 : typeOf (.type "object") = pure (.type "type") := by rfl
  have a3 : isType (.type "type") = pure true := by rfl
  have a1 : isType (.type "object") = pure true := by rfl
  have a4 : isSubtype (.type "type") (.type "type") = pure true := by rw [isSubtype_type]; kernel_rfl
  unfold newTuple
  refine l_new F N (fun bt hp F N l2 => ?_) (by size_fits) rfl
  refine l_same ([.type "object"], false) ?_ ?_
  · wp_walk
    exact ⟨rfl, rfl⟩
  refine l_eq _ a2 ?_
  refine l_eq _ a3 ?_
  refine l_same (.type "type") ?_ ?_
  · wp_walk
    exact ⟨rfl, rfl⟩
  refine l_text ?_
  refine l_pure ?_
  refine wpAny_holding ?_
  refine l_prep F N (fun p hp tk F N l => ?_)
  refine l_prepCall F N (fun nsA hp F N l1 => ?_)
  clear l
  (try wp_delta)
  have hn1 : @Ne Nat nsA 1 := Nat.ne_of_gt (Nat.lt_trans lc1 l1.2.1)
  unfold notTheModulesDict
  refine l_same () ?_ ?_
  · rw [if_neg (show ¬ ((nsA == sysModules) = true) from fun q => hn1 (eq_of_beq q))]
    exact wpAny_pure ⟨rfl, rfl⟩
  refine l_same (some (.builtin "dict.__getitem__")) ?_ ?_
  · unfold specialOf
    refine l_typeOf N (.head _) ?_
    exact wpAny_of_eq (by show typeLookup (.type "dict") (Str.ofString "__getitem__") = _; rw [typeLookup_type, builtinLookup_eq_fast]; kernel_rfl) ⟨rfl, rfl⟩
  rw [if_neg (by decide)]
  refine wpAny_holding ?_
  rw [if_neg (by rw [show (List.lookup (Str.ofString "__class__") clsScope.names == some NameKind.cell) = false from by kernel_rfl]; decide)]
  refine l_pure ?_
  (try wp_delta)
  rw [if_neg (by rw [show (List.lookup (Str.ofString "__classdict__") clsScope.names == some NameKind.cell) = false from by kernel_rfl]; decide)]
  refine l_pure ?_
  refine wpAny_bind (cls_code st F N C2 l1 l2 l3 (fun cK PK oK ps tab R hp tk F N off mK hK ht td mbt mcc m58 ht8 hc8 => ?_))
  dsimp only
  refine wpAny_bind (builtins_run F T ?_)
  unfold newBodyFrame
  refine wpAny_bind (wpAny_bind (wpAny_nsGet (T.g.keeps F.keep) ?_))
  refine alloc_led F N (fun fr hp F N _ => ?_) (by rfl)
  replace N := News.sub N (fun q hq => .tail _ hq)
  refine l_eq [(S "mycmp", L + 1)] (by kernel_rfl) ?_
  (try wp_delta)
  refine wpAny_holding ?_
  generalize hE : ({ scope := clsScope, locals := nsA, globals := (keyEnv L).globals, cells := _, qual := _, code := _, frame := _, builtins := _ } : Env) = cenv
  replace hE : clsEnv nsA cK fr L = cenv := hE
  refine wpAny_bind (wpAny_enterFrame (T.nolimit.keeps F.keep) (Nat.lt_of_le_of_lt (Nat.le_succ _) (Nat.lt_of_succ_lt hd)) ?_)
  refine wpAny_bind (wpAny_onRaise ?_)
  have C : ClsEnv cenv nsA cK := hE ▸ ⟨by kernel_rfl, rfl, rfl, rfl, fun _ => rfl⟩
  refine wpAny_bind (load_cls F N C.k1 (by rw [C.kk]; kernel_rfl) (by decide +kernel) C.k2 C.k3 (.tail _ (.head _)) (by rfl) T.g hnm ?_)
  refine wpAny_bind (store_cls F N C.k1 (.inl (by rw [C.kk]; kernel_rfl)) C.k2 (.tail _ (.head _)) (by rfl) (by k_put) off.upd (fun hp F N => ?_))
  refine wpAny_bind (l_text' ?_)
  refine wpAny_bind (store_cls F N C.k1 (.inr ⟨by rw [C.kk]; kernel_rfl, by decide +kernel⟩) C.k2 (.tail _ (.head _)) (by rfl) (by k_put) off.upd (fun hp F N => ?_))
  refine wpAny_bind (l_int' ?_)
  refine wpAny_bind (store_cls F N C.k1 (.inr ⟨by rw [C.kk]; kernel_rfl, by decide +kernel⟩) C.k2 (.tail _ (.head _)) (by rfl) (by k_put) off.upd (fun hp F N => ?_))
  (try wp_delta)
  refine wpAny_pure ?_
  (try wp_delta)
  refine wpAny_bind (wpAny_run (codeAny_body (by kernel_rfl) (by kernel_rfl) (cls_body (oC := oC) (bt := bt) (tab := tab) T hE F N off mK hK lcc ht td (fun k R' hp2 tk2 ok kin sR hk off F2 N2 => ?_))))
  clear F N
  obtain ⟨e1, e2, e3, e4, e5, e6, e7, e8, e9, e10⟩ := hk
  subst e1 e2 e3 e4 e5 e6 e7 e8
  refine wpAny_bind (wpAny_onRaise ?_)
  have em : List.mapM mkText [S "obj"] = (mkText (S "obj") >>= fun b => pure [b]) := rfl
  rw [em]
  refine wpAny_bind (wpAny_bind (l_text' (wpAny_pure ?_)))
  have en : ∀ l : List Value, newTextTuple l = (alloc { cls := .type "tuple", data := .seq l.toArray } >>= fun a => pure (.ref a)) := fun l => rfl
  rw [en]
  refine wpAny_bind (wpAny_bind (alloc_led F2 N2 (fun sta hp F N l1 => ?_) rfl))
  refine wpAny_pure ?_
  refine wpAny_bind (store_cls F N C.k1 (.inr ⟨by rw [C.kk]; kernel_rfl, by decide +kernel⟩) C.k2 (.tail _ (.tail _ (.head _))) (by rfl) (by k_put) (.tail (Nat.ne_of_gt l1.2.1) off.upd) (fun hp F N => ?_))
  obtain ⟨t0, N⟩ : ∃ t0, News h₀ L hp ((sta, _) :: (k.PK, _) :: (k.nsA, dictOf (k.es12 w sta t0) 12) :: R') := ⟨_, N⟩
  refine wpAny_pure ?_
  rw [if_neg (by decide)]
  have up : ∀ {q : Addr × Obj} {o1 o2 o3 : Obj}, q ∈ R' → q ∈ (sta, o1) :: (k.PK, o2) :: (k.nsA, o3) :: R' := fun h => .tail _ (.tail _ (.tail _ h))
  have h1 := ok.ho1
  have h2 := ok.ho2
  obtain ⟨_, _, h1⟩ := h1
  obtain ⟨_, _, h2⟩ := h2
  refine wpAny_bind (type_call (type_new (k := k) (st := sta) (t := t0) F N ⟨up kin.m1, up kin.m2, ⟨up kin.m3.1, kin.m3.2⟩, ⟨up kin.m4.1, kin.m4.2⟩, ⟨up kin.m5.1, kin.m5.2⟩, ⟨up kin.m6.1, kin.m6.2⟩, up kin.n1, up kin.n2, up kin.ml⟩ (up (sR _ mbt)) (.tail _ (.tail _ (.head _))) (.head _) hn1 (fn_cls h1) (fn_cls h2) hno (by rw [e10]; exact ⟨_, _, rfl⟩) (by rw [e9]; exact ⟨_, rfl⟩) ?_))
  intro ns a md so q t2 t3 tm sl hp' tk' F N hs4 hs5 hs6 r1 r2 r3
  have r1' := Mine.AllLt.mem r1
  refine ⟨a, _, rfl, (N (a, _) (by k_mem)).1, rfl, ?_⟩
  have up' : ∀ {q p1 p2 p3 p4 p5 p6 p7 p8 : Addr × Obj}, q ∈ R' → q ∈ p1 :: p2 :: p3 :: p4 :: p5 :: p6 :: p7 :: p8 :: R' := fun h => .tail _ (.tail _ (.tail _ (.tail _ (.tail _ (.tail _ (.tail _ (.tail _ h)))))))
  refine wpAny_pure (h k ⟨a, ns, md, sta, t0, t2, t3, tm, sl⟩ _ _ ok ⟨hs4, hs5, hs6, r1' _ (up kin.m1), r1' _ (up kin.m2), r2, r3⟩ ⟨hK, ht8, hc8, ?_⟩ rfl F (News.sub N ?_))
  · exact List.forall_mem_cons.mpr ⟨off.oa _ (sR _ m58), List.forall_mem_cons.mpr ⟨off.oa _ (sR _ mK), List.forall_mem_cons.mpr ⟨off.oa _ kin.n1, List.forall_mem_cons.mpr ⟨off.oa _ kin.n2, List.forall_mem_nil _⟩⟩⟩⟩
  · exact List.forall_mem_cons.mpr ⟨by k_mem, List.forall_mem_cons.mpr ⟨by k_mem, List.forall_mem_cons.mpr ⟨by k_mem, List.forall_mem_cons.mpr ⟨up' kin.m1, List.forall_mem_cons.mpr ⟨up' kin.m2, List.forall_mem_cons.mpr ⟨up' (sR _ mcc), List.forall_mem_cons.mpr ⟨up' (sR _ m58), List.forall_mem_cons.mpr ⟨by k_mem, List.forall_mem_cons.mpr ⟨up' (sR _ mK), List.forall_mem_cons.mpr ⟨up' kin.n1, List.forall_mem_cons.mpr ⟨up' kin.n2, List.forall_mem_nil _⟩⟩⟩⟩⟩⟩⟩⟩⟩⟩⟩
end Mine
end
section
open PySem PySem.W PyProof.Rows PySem.Calls
set_option maxRecDepth 100000
namespace Mine
theorem CellsAre.one {cm : Str → Option Value} {n : Str} {c : Addr} {cells : List (Addr × Obj)} (x : CellsAre cm [(n, c)] cells) :
    ∃ o, cells = [(c, o)] ∧ o.data = .cell (cm n) := by
  cases x with | cons h r => cases r; exact ⟨_, rfl, h⟩
theorem guard_ok {prog : Program} {w : World} {A : Around} {E : Value → Shared → Prop} {s : Shared} {mb : Str → Option Value} {L : Addr} {Q : Unit → Shared → Prop} (hb : s.heap.Ns builtinsNs mb) (hm : ∀ x : Str, x ≠ "__name__" → mb x = bootBuiltins x) (h : Q () s) :
    wpAny (model prog w) A (buildClassGuard (keyEnv L)) Q E s := by
  unfold buildClassGuard
  refine wpAny_bind (wpAny_nsGet hb ?_)
  rw [hm _ (by decide +kernel), show bootBuiltins "__build_class__" = some (.builtin "__build_class__") from by decide +kernel]
  exact wpAny_pure h
theorem exec_cls {w : World} {A : Around} {E : Value → Shared → Prop} {hp h₀ : Heap} {gs : Array GenState} {d : Drawn} {tk : Nat} {os : OsState} {L : Addr} {m mg mb : Str → Option Value} {st : Stmt} {Q : Flow → Shared → Prop} {mean : ExcName → Option Value}
    (hst : st = clsStmt) (F : Fr h₀ L hp m) (X : (hd.heap_39 w.params).In h₀) (T : Top topProg LL mean mg mb h₀)
    (h : wpAny (model prg w) A (buildClass (S "K") (S "cmp_to_key.<locals>.K") [.type "object"] [] clsBody clsScope [S "obj"] 48 (keyEnv L) clsPos none)
      (fun v s' => (∃ hp' tk', s' = ⟨hp', gs, d, tk', os⟩ ∧ Fr h₀ L hp' m) ∧ ∀ hp', Fr h₀ L hp' (fun y => if y = S "K" then some v else m y) → (∀ b o, b ≠ L → s'.heap.get? b = some o → hp'.get? b = some o) → ∀ tk', Q .next ⟨hp', gs, d, tk', os⟩) E ⟨hp, gs, d, tk, os⟩) :
    wpAny (model prg w) A (exec st (keyEnv L)) Q E ⟨hp, gs, d, tk, os⟩ := by
  have e : st = .ClassDef (S "K") [.Name (S "object") ⟨48, 12, 48, 18⟩] [] clsBody [] [] clsScope none (S "K") [S "obj"] clsPos := by rw [hst]; kernel_rfl
  rw [e, arm_exec_ClassDef]
  refine wpAny_bind ?_
  unfold evalEach evalAll
  refine wpAny_pure ?_
  refine wpAny_bind (wpAny_standAt ?_)
  refine wpAny_bind (guard_ok (T.b.keeps F.keep) T.builtins ?_)
  refine wpAny_bind (wpAny_holding ?_)
  refine wpAny_bind ?_
  refine lone_args ?_
  rw [if_neg Bool.false_ne_true]
  have hX : nsIn (hd.heap_39 w.params) mainGlobals (S "object") = some none := by k_is
  refine wpAny_mono (Q := fun v s' => v = .type "object" ∧ s' = ⟨hp, gs, d, tk, os⟩) (E := fun _ _ => False) ?_ (fun v s' hv => ?_) (fun _ _ x => x.elim)
  · exact nameX_B F X (topread_back T) hX (by decide +kernel) (by decide +kernel) ⟨rfl, rfl⟩ (by kernel_rfl) (by kernel_rfl)
  obtain ⟨rfl, rfl⟩ := hv
  refine wpAny_bind (wpAny_standAt ?_)
  refine wpAny_holding ?_
  refine wpAny_mono h (fun v s' hv => ?_) (fun _ _ x => x)
  obtain ⟨⟨hp', tk', rfl, F'⟩, hv⟩ := hv
  refine wpAny_bind (wpAny_pure ?_)
  refine wpAny_bind (wpAny_standAt ?_)
  refine wpAny_bind (wpAny_bindName ?_)
  refine wpAny_storeName_local (by kernel_rfl) F'.ns (fun h2 hn hs => ?_) (by kernel_rfl)
  exact wpAny_pure (hv _ (F'.set hn hs) (fun b o hb e => (hs.2 b hb).trans e) _)
noncomputable def KeyMade (w : World) (mg : Str → Option Value) (v : Value) (new : List (Addr × Obj)) : Prop :=
  ∃ (k : KB) (x : KX), v = .ref x.a ∧ k.Ok mg ∧ x.Ok k ∧ Kept k ∧ k.oC.data = .cell (some (.ref 124)) ∧ new = x.led w k
set_option maxHeartbeats 1000000 in
theorem key_spec {w : World} {env0 : Env} {base : Heap} {s : Shared} {mean : ExcName → Option Value} {mg mb : Str → Option Value} {hb : Heap} {led : List (Addr × Obj)} (st : Start mg led) (tp9 : Tops9 w mean mg mb hb) (lx : LedIn hb s.heap led) (B0 : Below (callerA.deeper env0) base [env0] hb) :
    GivesM w (callerA.deeper env0) 63 [.ref 124] s (led.map (·.1)) (KeyMade w mg) := by
  have tp := tp9.tops
  have on1 : On "exec ClassDef cons nil cons nil" := ⟨⟩
  refine givesM_of_cells (led := led) (binds := [(S "mycmp", .ref 124)]) tp lx (by k_room) (lx.keep _ _ (tp.X _ _ (by k_is))) rfl ((codeRec_of tp.X (by k_is)).keeps lx.keep) (BindsTo.of_eq rfl) (fun n y hy => ?_) (by decide) (fun g L h₁ tk cells tpg hkg hLs F N Y hlt => ?_) (by rfl) (by rfl) (by rfl)
  · rw [List.mem_singleton.mp hy]
    exact .inr ⟨rfl, rfl⟩
  refine Classical.byContradiction fun hn1 => ?_
  obtain ⟨o1, rfl, ho1⟩ := CellsAre.one Y
  replace ho1 : o1.data = .cell (some (.ref 124)) := ho1
  have l58 : @LT.lt Nat _ 58 L := by
    cases st with
    | one => exact hlt _ (.head _)
    | two _ _ => exact hlt _ (.head _)
  obtain ⟨X, T, C1, C2⟩ := tp9.keeps hkg
  refine hn1 ?_
  clear Y tpg
  walk_at "steps"
  refine Hold.mk (exec_cls (by kernel_rfl) F X T (build_cls st F N T C2 (looks_nsIn X (by k_is)) ?_ hlt l58 rfl (mg_of X T.g (by k_is)) ?_))
  · k_room
  intro k x hp' tk' ok okx kp hoC F' N'
  refine ⟨⟨_, _, rfl, F'⟩, fun hp2 F2 hk2 tk2 => ?_⟩
  replace N' : News g L hp2 (x.led w k) := fun p hp => ⟨hk2 _ _ (N' p hp).2.1 (N' p hp).1, (N' p hp).2⟩
  dsimp only
  walk_at "steps"
  exact EndM.mk F2 N' (fun p hp => hp) ⟨k, x, rfl, ok, okx, kp, by rw [hoC]; exact ho1, rfl⟩
end Mine
end
section
open PySem PySem.W PyProof.Rows PySem.Calls
set_option maxRecDepth 100000
namespace Mine
noncomputable def pairLt (i j : Int) (x y : Str) : Bool := if i = j then (if x = y then false else decide (x.cps.toList < y.cps.toList)) else decide (i < j)
section
variable {prog : Program} {w : World} {A : Around} {E : Value → Shared → Prop} {s : Shared} {a b : Addr} {oa ob : Obj} {na nb : Nat} {i j : Int} {x y : Str} {t1 t2 u1 u2 : Tok}
theorem step_pair {op : CmpOp} {v1 v2 : Value} {l : List (Value × Value)} {K : Option Fin × Unit → Shared → Prop} {g : Value × Value → Option Fin × Unit → Sem (ForInStep (Option Fin × Unit))} (e : Bool) (c : Value)
    (he : ∀ {Q : Bool → Shared → Prop}, Q e s → wpAny (model prog w) A (eqBool v1 v2) Q E s) (hc : ∀ {Q : Value → Shared → Prop}, Q c s → wpAny (model prog w) A (richCompare op v1 v2) Q E s)
    (hg : g (v1, v2) (none, ()) = (eqBool v1 v2 >>= fun __do_lift => if (!__do_lift) = true then do
      rule "tuple.compare.by-the-first-pair-that-differs"
      let __do_lift ← richCompare op v1 v2
      let __do_lift ← ret __do_lift
      pure (ForInStep.done (some __do_lift, ()))
    else pure (ForInStep.yield (none, ()))))
    (h1 : e = true → wpAny (model prog w) A (forIn l (none, ()) g) K E s) (h2 : e = false → K (some (.done (.ret c)), ()) s) :
    wpAny (model prog w) A (forIn ((v1, v2) :: l) (none, ()) g) K E s := by
  rw [List.forIn_cons, hg]
  refine wpAny_bind (wpAny_bind (he ?_))
  cases e with
  | false =>
    rw [if_pos (by decide)]
    refine wpAny_bind (wpAny_rule (wpAny_bind (hc (wpAny_bind (wpAny_pure (wpAny_pure ?_))))))
    exact wpAny_pure (h2 rfl)
  | true =>
    rw [if_neg (by decide)]
    refine wpAny_pure ?_
    exact h1 rfl
theorem tup_lt_tree {P : Fin → Shared → Prop} (ha : s.heap.get? a = some oa) (da : oa.data = .seq #[.int i t1, .str x t2] na) (hb : s.heap.get? b = some ob) (cb : ob.cls = .type "tuple") (db : ob.data = .seq #[.int j u1, .str y u2] nb)
    (h : P (.done (.ret (.bool (pairLt i j x y)))) s) : wpAny (model prog w) A (Builtin.«tuple.__lt__» ⟨[.ref a, .ref b], []⟩) P E s := by
  show wpAny _ _ (isInstance (.ref b) (.type "tuple") >>= _) _ _ s
  refine wpAny_bind (wpAny_isInstance (T := "tuple") ⟨ob, hb, cb⟩ isSubtype_tuple_tuple ?_)
  simp only [Bool.not_true, Bool.false_eq_true, if_false]
  refine wpAny_bind (wpAny_tupleItemsOf ha da ?_)
  refine wpAny_bind (wpAny_tupleItemsOf hb db ?_)
  unfold pairLt at h
  refine wpAny_bind ?_
  refine step_pair (op := .Lt) (v1 := .int i t1) (v2 := .int j u1) (l := [(.str x t2, .str y u2)]) (i == j) (.bool (decide (i < j))) (fun h => wpAny_eqBool_int h) (fun h => PyProof.Rows.lt_int h) rfl (fun e => ?_) (fun e => ?_)
  · rw [if_pos (eq_of_beq e)] at h
    refine step_pair (op := .Lt) (v1 := .str x t2) (v2 := .str y u2) (l := []) (decide (x = y)) (.bool (decide (x.cps.toList < y.cps.toList))) (fun h => wpAny_eqBool_str h) (fun h => PyProof.Rows.lt_str h) rfl (fun e => ?_) (fun e => ?_)
    · rw [if_pos (of_decide_eq_true e)] at h
      exact wpAny_pure (wpAny_pure h)
    · rw [if_neg (of_decide_eq_false e)] at h
      exact wpAny_pure h
  · rw [if_neg (ne_of_beq_false e)] at h
    exact wpAny_pure h
theorem tup_gt_tree {P : Fin → Shared → Prop} (ha : s.heap.get? a = some oa) (da : oa.data = .seq #[.int i t1, .str x t2] na) (hb : s.heap.get? b = some ob) (cb : ob.cls = .type "tuple") (db : ob.data = .seq #[.int j u1, .str y u2] nb)
    (h : P (.done (.ret (.bool (pairLt j i y x)))) s) : wpAny (model prog w) A (Builtin.«tuple.__gt__» ⟨[.ref a, .ref b], []⟩) P E s := by
  show wpAny _ _ (isInstance (.ref b) (.type "tuple") >>= _) _ _ s
  refine wpAny_bind (wpAny_isInstance (T := "tuple") ⟨ob, hb, cb⟩ isSubtype_tuple_tuple ?_)
  simp only [Bool.not_true, Bool.false_eq_true, if_false]
  refine wpAny_bind (wpAny_tupleItemsOf ha da ?_)
  refine wpAny_bind (wpAny_tupleItemsOf hb db ?_)
  unfold pairLt at h
  refine wpAny_bind ?_
  refine step_pair (op := .Gt) (v1 := .int i t1) (v2 := .int j u1) (l := [(.str x t2, .str y u2)]) (i == j) (.bool (decide (j < i))) (fun h => wpAny_eqBool_int h) (fun h => PyProof.Rows.gt_int h) rfl (fun e => ?_) (fun e => ?_)
  · rw [if_pos (eq_of_beq e).symm] at h
    refine step_pair (op := .Gt) (v1 := .str x t2) (v2 := .str y u2) (l := []) (decide (x = y)) (.bool (decide (y.cps.toList < x.cps.toList))) (fun h => wpAny_eqBool_str h) (fun h => PySem.P.gt_str h) rfl (fun e => ?_) (fun e => ?_)
    · rw [if_pos (of_decide_eq_true e).symm] at h
      exact wpAny_pure (wpAny_pure h)
    · rw [if_neg (fun q => of_decide_eq_false e q.symm)] at h
      exact wpAny_pure h
  · rw [if_neg (fun q => ne_of_beq_false e q.symm)] at h
    exact wpAny_pure h
theorem tup_lt {Q : Value → Shared → Prop} (ha : s.heap.get? a = some oa) (ca : oa.cls = .type "tuple") (da : oa.data = .seq #[.int i t1, .str x t2] na) (hb : s.heap.get? b = some ob) (cb : ob.cls = .type "tuple") (db : ob.data = .seq #[.int j u1, .str y u2] nb) (hu : A.units < cLine)
    (h : Q (.bool (pairLt i j x y)) s) : wpAny (model prog w) A (compareOp .Lt (.ref a) (.ref b)) Q E s :=
  wpAny_richCompare_same_room (op := .Lt) (T := "tuple") ⟨oa, ha, ca⟩ ⟨ob, hb, cb⟩ F.slot_tuple_lt
      (wpAny_call_entry F.slot_tuple_lt (T := "tuple") ⟨oa, ha, ca⟩ F.entry_tuple_lt (tup_lt_tree ha da hb cb db ⟨_, rfl, (fun e => nomatch e), h⟩) (F.args_tuple_lt_2 _ _)) hu
theorem tup_gt {Q : Value → Shared → Prop} (ha : s.heap.get? a = some oa) (ca : oa.cls = .type "tuple") (da : oa.data = .seq #[.int i t1, .str x t2] na) (hb : s.heap.get? b = some ob) (cb : ob.cls = .type "tuple") (db : ob.data = .seq #[.int j u1, .str y u2] nb) (hu : A.units < cLine)
    (h : Q (.bool (pairLt j i y x)) s) : wpAny (model prog w) A (compareOp .Gt (.ref a) (.ref b)) Q E s :=
  wpAny_richCompare_same_room (op := .Gt) (T := "tuple") ⟨oa, ha, ca⟩ ⟨ob, hb, cb⟩ F.slot_tuple_gt
      (wpAny_call_entry F.slot_tuple_gt (T := "tuple") ⟨oa, ha, ca⟩ F.entry_tuple_gt (tup_gt_tree ha da hb cb db ⟨_, rfl, (fun e => nomatch e), h⟩) (F.args_tuple_gt_2 _ _)) hu
end
end Mine
end
section
open PySem PySem.W PyProof.Rows PySem.Calls
set_option maxRecDepth 100000
namespace Mine
noncomputable def nameLt (r q : Row) : Bool := pairLt (r.1.length : Int) (q.1.length : Int) r.1 q.1
noncomputable def cmpOf (r q : Row) : Int := 5 * (if nameLt q r = true then 1 else 0) - 3 * (if nameLt r q = true then 1 else 0)
set_option maxHeartbeats 1000000 in
theorem compared_spec {w : World} {A : Around} {s : Shared} {mg mb : Str → Option Value} {a b na nb : Nat} {r q : Row} {u1 u2 u3 v1 v2 v3 : Tok} (tp : Tops w mg mb s.heap) (hA : A.depth < recursionLimit) (hh : A.handled = none) (hu : A.units + 10 < cLine)
    (ha : s.heap.get? a = some { cls := .type "tuple", data := .seq #[.str r.1 u1, .str r.2.1 u2, .str r.2.2 u3] na }) (hb : s.heap.get? b = some { cls := .type "tuple", data := .seq #[.str q.1 v1, .str q.2.1 v2, .str q.2.2 v3] nb }) (hr : r.1.length ≤ 100) (hq : q.1.length ≤ 100) :
    Gives w A 124 [.ref a, .ref b] s (fun v new => ∃ t, v = .int (cmpOf r q) t) := by
  obtain ⟨X, T⟩ := id tp
  obtain ⟨A, rfl⟩ := Around.calm hh
  dsimp only at hu
  refine gives_of_frame tp hA (by k_is) (by k_is) (BindsTo.of_eq rfl) (locs rfl) (fun L h₁ hL F => ?_) (by rfl) (by rfl) (by rfl) (by decide)
  refine hideQ fun Q0 hQ0 => ?_
  have N : News s.heap L h₁ [] := News.nil
  have hT : IsTup s.heap a #[.str r.1 u1, .str r.2.1 u2, .str r.2.2 u3] := ⟨_, ha, rfl, _, rfl⟩
  have hT2 : IsTup s.heap b #[.str q.1 v1, .str q.2.1 v2, .str q.2.2 v3] := ⟨_, hb, rfl, _, rfl⟩
  have on1 : On "compareOp Gt ref ref" := ⟨⟩
  have on2 : On "compareOp Lt ref ref" := ⟨⟩
  walk_at "steps"
  (refine Hold.mk ?_; refine' tup_gt ?a ?b ?c ?d ?e ?f ?u ?_; (case a => exact News.get (by k_asm) (by k_mem)); (case b => exact rfl); (case c => exact rfl); (case d => exact News.get (by k_asm) (by k_mem)); (case e => exact rfl); (case f => exact rfl); (case u => (simp only [units_deeper]; omega)); walk_at "steps")
  (refine Hold.mk ?_; refine' tup_lt ?a ?b ?c ?d ?e ?f ?u ?_; (case a => exact News.get (by k_asm) (by k_mem)); (case b => exact rfl); (case c => exact rfl); (case d => exact News.get (by k_asm) (by k_mem)); (case e => exact rfl); (case f => exact rfl); (case u => (simp only [units_deeper]; omega)); walk_at "steps")
  (rename Fr _ _ _ _ => F'); (rename News _ _ _ _ => N')
  exact hQ0 _ _ (GivesEnd.mk F' N' ⟨_, rfl⟩)
theorem lst_irr (x : List Nat) : ¬ x < x := List.lt_irrefl x
theorem str_eq {x y : Str} (h : x.cps.toList = y.cps.toList) : x = y := by
  cases x; cases y; simp only [Str.mk.injEq]; exact Array.toList_inj.mp h
theorem pairLt_irr (i : Int) (x : Str) : pairLt i i x x = false := by unfold pairLt; simp
theorem pairLt_tr {i j k : Int} {x y z : Str} (h1 : pairLt i j x y = true) (h2 : pairLt j k y z = true) : pairLt i k x z = true := by
  unfold pairLt at *
  split at h1
  · rename_i e1; subst e1
    split at h1
    · cases h1
    · split at h2
      · rename_i e2; subst e2
        split at h2
        · cases h2
        · have a := of_decide_eq_true h1
          have b := of_decide_eq_true h2
          have c := List.lt_trans a b
          rw [if_pos rfl, if_neg (fun e => by subst e; exact lst_irr _ c)]
          exact decide_eq_true c
      · rename_i e2; rw [if_neg e2]; exact h2
  · rename_i e1
    split at h2
    · rename_i e2; subst e2; rw [if_neg e1]; exact h1
    · have a := of_decide_eq_true h1
      have b := of_decide_eq_true h2
      rw [if_neg (by omega)]; exact decide_eq_true (by omega)
theorem pairLt_co {i j k : Int} {x y z : Str} (h : pairLt i k x z = true) : pairLt i j x y = true ∨ pairLt j k y z = true := by
  unfold pairLt at *
  split at h
  · rename_i e1; subst e1
    split at h
    · cases h
    · rename_i e1
      have a := of_decide_eq_true h
      by_cases e2 : i = j
      · subst e2
        rw [if_pos rfl, if_pos rfl]
        by_cases e3 : x = y
        · subst e3; right; rw [if_neg e1]; exact h
        · by_cases e4 : y = z
          · subst e4; left; rw [if_neg e3]; exact h
          · rw [if_neg e3, if_neg e4]
            by_cases q : x.cps.toList < y.cps.toList
            · exact .inl (decide_eq_true q)
            · right
              refine decide_eq_true ?_
              have : y.cps.toList ≤ x.cps.toList := List.not_lt.mp q
              exact List.lt_of_le_of_lt this a
      · rw [if_neg e2, if_neg (fun q => e2 q.symm)]
        by_cases q : i < j
        · exact .inl (decide_eq_true q)
        · exact .inr (decide_eq_true (by omega))
  · rename_i e1
    have a := of_decide_eq_true h
    by_cases e2 : i = j
    · subst e2; right; rw [if_neg e1]; exact h
    · by_cases e3 : j = k
      · subst e3; left; rw [if_neg e2]; exact h
      · rw [if_neg e2, if_neg e3]
        by_cases q : i < j
        · exact .inl (decide_eq_true q)
        · exact .inr (decide_eq_true (by omega))
theorem cmp_neg (r q : Row) : decide (cmpOf r q < 0) = nameLt r q := by
  unfold cmpOf
  cases h1 : nameLt r q with
  | false => cases nameLt q r <;> decide
  | true =>
    cases h2 : nameLt q r with
    | false => decide
    | true =>
      have := pairLt_tr h1 h2
      rw [pairLt_irr] at this; cases this
end Mine
end
section
open PySem PySem.W PyProof.Rows PySem.Calls
set_option maxRecDepth 100000
namespace Mine
noncomputable def KF (w : World) (k : KB) (x : KX) : Frag :=
  [(x.a, kCls x.ns [.ref x.a, .type "object"] false [S "obj"] x.sl), (x.ns, dictOf (k.es13 w x.st x.t x.t2 x.t3 x.md) 3), (x.md, kMd x.a x.tm), (k.f1, k.of1), (k.f2, k.of2)]
section
variable {w : World} {mg : Str → Option Value} {L : Addr} {k : KB} {x : KX}
theorem lk_a : (KF w k x).lookup x.a = some (kCls x.ns [.ref x.a, .type "object"] false [S "obj"] x.sl) := by unfold KF; simp [List.lookup]
theorem lkstep {a b : Addr} {o : Obj} {r : Frag} (h : @Ne Nat a b) : List.lookup a ((b, o) :: r) = List.lookup a r := by
  rw [List.lookup_cons, beq_false_of_ne h]
theorem KX.Ok.a_md (X : x.Ok k) : @LT.lt Nat _ x.ns x.md := Nat.lt_trans X.n3 X.n4
theorem lk_ns (X : x.Ok k) : (KF w k x).lookup x.ns = some (dictOf (k.es13 w x.st x.t x.t2 x.t3 x.md) 3) := by
  unfold KF; rw [lkstep (Nat.ne_of_lt X.n3)]; exact List.lookup_cons_self
theorem lk_md (X : x.Ok k) : (KF w k x).lookup x.md = some (kMd x.a x.tm) := by
  unfold KF; rw [lkstep (Nat.ne_of_gt X.n4), lkstep (Nat.ne_of_gt X.a_md)]; exact List.lookup_cons_self
theorem lk_f1 (X : x.Ok k) : (KF w k x).lookup k.f1 = some k.of1 := by
  unfold KF; rw [lkstep (Nat.ne_of_lt (Nat.lt_trans X.n1 X.n3)), lkstep (Nat.ne_of_lt X.n1), lkstep (Nat.ne_of_lt (Nat.lt_trans X.n1 X.a_md))]; exact List.lookup_cons_self
theorem lk_f2 (O : k.Ok mg) (X : x.Ok k) : (KF w k x).lookup k.f2 = some k.of2 := by
  unfold KF; rw [lkstep (Nat.ne_of_lt (Nat.lt_trans X.n2 X.n3)), lkstep (Nat.ne_of_lt X.n2), lkstep (Nat.ne_of_lt (Nat.lt_trans X.n2 X.a_md)), lkstep (fun e => O.hff e.symm)]; exact List.lookup_cons_self
theorem KF.in_ {h : Heap} {h₀ : Heap} {LL : Addr} {news : List (Addr × Obj)} (N : News h₀ LL h news) (hs : ∀ p ∈ x.led w k, p ∈ news) : (KF w k x).In h := by
  intro a o e
  have key : ∀ p ∈ KF w k x, h.get? p.1 = some p.2 := by
    have g : ∀ {a o}, (a, o) ∈ x.led w k → h.get? a = some o := fun m => (N _ (hs _ m)).1
    exact List.forall_mem_cons.mpr ⟨g (by k_mem), List.forall_mem_cons.mpr ⟨g (by k_mem), List.forall_mem_cons.mpr ⟨g (by k_mem), List.forall_mem_cons.mpr ⟨g (by k_mem), List.forall_mem_cons.mpr ⟨g (by k_mem), List.forall_mem_nil _⟩⟩⟩⟩⟩
  have : ∀ l : Frag, (∀ p ∈ l, h.get? p.1 = some p.2) → l.lookup a = some o → h.get? a = some o := by
    intro l
    induction l with
    | nil => intro _ e; cases e
    | cons p r ih =>
      intro hp e
      obtain ⟨b, y⟩ := p
      simp only [List.lookup] at e
      split at e
      · rename_i q; cases e; rw [beq_iff_eq.mp q]; exact hp _ (.head _)
      · exact ih (fun p h => hp p (.tail _ h)) e
  exact this _ key e
theorem kf_cls : clsIn (KF w k x) x.a = some { name := S "K", bases := [.type "object"], mro := [.ref x.a, .type "object"], ns := x.ns, qualname := S "cmp_to_key.<locals>.K", hasDict := false, slotNames := [S "obj"] } := by
  unfold clsIn; rw [lk_a]
theorem kf_ns (X : x.Ok k) {name : Str} {v : Option Value} (h : getL name (k.es13 w x.st x.t x.t2 x.t3 x.md) = some v) : nsIn (KF w k x) x.ns name = some v := by
  unfold nsIn; rw [lk_ns X]
  exact h
theorem kf_find (X : x.Ok k) {name : Str} {v : Value} (h : getL name (k.es13 w x.st x.t x.t2 x.t3 x.md) = some (some v)) : findIn (KF w k x) (.ref x.a) name = some (some v) := by
  unfold findIn; dsimp only; rw [lk_a]; dsimp only
  unfold alongIn ownIn; dsimp only
  rw [lk_a]; dsimp only; rw [kf_ns X h]
theorem kf_find0 (X : x.Ok k) {name : Str} {v : Option Value} (h : getL name (k.es13 w x.st x.t x.t2 x.t3 x.md) = some none) (h' : fastBuiltinOwn "object" name = v) : findIn (KF w k x) (.ref x.a) name = some v := by
  unfold findIn; dsimp only; rw [lk_a]; dsimp only
  unfold alongIn ownIn; dsimp only
  rw [lk_a]; dsimp only; rw [kf_ns X h]
  unfold alongIn ownIn; dsimp only
  rw [h']
  cases v <;> rfl
theorem kf_init (X : x.Ok k) : findIn (KF w k x) (.ref x.a) "__init__" = some (some (.ref k.f1)) := kf_find X (by rfl)
theorem kf_lt (X : x.Ok k) : findIn (KF w k x) (.ref x.a) "__lt__" = some (some (.ref k.f2)) := kf_find X (by rfl)
theorem kf_obj (X : x.Ok k) : findIn (KF w k x) (.ref x.a) (S "obj") = some (some (.ref x.md)) := kf_find X (by rfl)
theorem kf_f1 (O : k.Ok mg) (X : x.Ok k) : typeIn (KF w k x) (.ref k.f1) = some (.type "function") := by
  refine Classical.byContradiction fun hn1 => ?_
  obtain ⟨_, _, h⟩ := O.ho1
  refine hn1 ?_
  unfold typeIn; dsimp only; rw [lk_f1 X, h]; rfl
theorem kf_f2 (O : k.Ok mg) (X : x.Ok k) : isFn (KF w k x) (.ref k.f2) = true := by
  refine Classical.byContradiction fun hn1 => ?_
  obtain ⟨_, _, h⟩ := O.ho2
  refine hn1 ?_
  unfold isFn typeIn; dsimp only; rw [lk_f2 O X, h]; rfl
theorem kf_md (X : x.Ok k) : typeIn (KF w k x) (.ref x.md) = some (.type "member_descriptor") := by
  unfold typeIn; dsimp only; rw [lk_md X]; rfl
theorem kf_slot (X : x.Ok k) : slotIn (KF w k x) x.md x.a = some 0 := by
  unfold slotIn recIn; rw [lk_md X, kf_cls]
  simp [rawInt]
theorem kf_sets (X : x.Ok k) : findIn (KF w k x) (.ref x.a) "__setattr__" = some (some (.builtin "object.__setattr__")) := kf_find0 X (by rfl) (by kernel_rfl)
theorem kf_ga (X : x.Ok k) : plainGet (KF w k x) x.a (S "obj") = true := by
  unfold plainGet
  rw [kf_find0 X (name := "__getattribute__") (v := some (.builtin "object.__getattribute__")) (by rfl) (by kernel_rfl), kf_find0 X (name := "__getattr__") (v := none) (by rfl) (by kernel_rfl)]
  rfl
theorem kf_plain : plainOver (KF w k x) x.a = true := by
  unfold plainOver; rw [kf_cls]; rfl
theorem kf_special (X : x.Ok k) {name : Str} {v : Option Value} (h : fastLookup "member_descriptor" name = some v) : specialIn (KF w k x) (.ref x.md) name = some v := by
  unfold specialIn; rw [kf_md X]; exact h
theorem kf_takes (X : x.Ok k) : takesIn (KF w k x) (.ref x.md) = some true := by
  unfold takesIn
  rw [kf_special X (name := "__set__") (v := some (.builtin "member_descriptor.__set__")) (by kernel_rfl)]
theorem kf_taker (X : x.Ok k) : takerIn (KF w k x) x.a (S "obj") = some (some (.ref x.md)) := by
  unfold takerIn; rw [kf_obj X]
  show (takesIn (KF w k x) (.ref x.md)).map _ = _
  rw [kf_takes X]; rfl
theorem kf_makes (X : x.Ok k) : makesIn (KF w k x) x.a = true := by
  unfold makesIn; rw [lk_a]
  have s4 := X.s4
  rw [← Array.getElem?_toList] at s4
  unfold specialIn instIn subIn typeIn
  dsimp only
  rw [lk_a]
  simp only [s4]
  simp only [Option.map_some, Option.bind_some, findIn]
  simp
  refine ⟨?_, ?_⟩
  · kernel_rfl
  · exact ⟨[.type "type", .type "object"], by kernel_rfl, by simp⟩
end
end Mine
end
section
open PySem PySem.W PyProof.Rows PySem.Calls
set_option maxRecDepth 100000
namespace Mine
noncomputable abbrev instSlot (C dx : Addr) (v : Value) : Obj := { cls := .ref C, dict := some dx, data := .plain, slots := #[some v] }
set_option maxHeartbeats 1000000 in
theorem kinit_spec {w : World} {A : Around} {s : Shared} {mg mb : Str → Option Value} {hb : Heap} {k : KB} {x : KX} {i dx : Addr} {v : Value} (tp : Tops w mg mb hb) (hA : A.depth + 10 < recursionLimit) (hh : A.handled = none) (ok : k.Ok mg) (okx : x.Ok k)
    (hK : (KF w k x).In hb) (hc : hb.get? k.c1 = some k.oc1) (hdx : hb.get? dx = some emptyDict) (lx : LedIn hb s.heap [(i, instObj x.a dx)]) :
    GivesM w A k.f1 [.ref i, v] s [i] (fun r new => r = .none ∧ new = [(i, instSlot x.a dx v)]) := by
  have o1 : On "setAttr ref" := ⟨⟩
  refine Classical.byContradiction fun hn1 => ?_
  obtain ⟨A, rfl⟩ := Around.calm hh
  refine hn1 ?_
  dsimp only at hA
  have hf : s.heap.get? k.f1 = some k.of1 := lx.keep _ _ (hK _ _ (lk_f1 okx))
  refine Classical.byContradiction fun hn2 => ?_
  obtain ⟨doc, ctv, e1⟩ := ok.ho1
  obtain ⟨vs1, tq1, hcd, hcv⟩ := ok.hc1
  refine hn2 ?_
  refine givesM_of_frame (led := [(i, instObj x.a dx)]) (binds := [(S "self", .ref i), (S "obj", v)]) tp lx (by show A.depth < _; lia) hf (by rw [e1]) ⟨_, _, _, _, rfl, lx.keep _ _ hc, hcd, hcv⟩ (BindsTo.of_eq rfl) (locs rfl) (fun g L h₁ tpg hkg hLs F N => ?_) (by decide) (by rfl) (by rfl) (by rfl)
  have X := tpg.X
  have T := tpg.T
  have XK : (KF w k x).In g := hK.keeps hkg
  walk_at "steps"
  refine Hold.mk (set_slot (s := ⟨_, _, _, _, _⟩) (K := KF w k x) (C := x.a) (ox' := instSlot x.a dx v) F XK N ⟨(N _ (.head _)).1, rfl, rfl, F.keep _ _ (hkg _ _ hdx)⟩ (kf_sets okx) kf_plain (kf_taker okx) (kf_md okx) (kf_slot okx) (by decide) rfl rfl (by k_upd) ?_)
  intro h' F' N'
  dsimp only
  walk_at "steps"
  exact EndM.mk F' N' (fun p hp => hp) ⟨rfl, rfl⟩
end Mine
end
section
open PySem PySem.W PyProof.Rows PySem.Calls
set_option maxRecDepth 100000
namespace Mine
set_option maxHeartbeats 1000000 in
theorem klt_spec {w : World} {A : Around} {s : Shared} {mg mb : Str → Option Value} {k : KB} {x : KX} {i j dx dy a b na nb : Nat} {r q : Row} {u1 u2 u3 v1 v2 v3 : Tok} (tp : Tops w mg mb s.heap) (hA : A.depth + 10 < recursionLimit) (hu : A.units + 20 < cLine) (hh : A.handled = none) (ok : k.Ok mg) (okx : x.Ok k)
    (hK : (KF w k x).In s.heap) (hc : s.heap.get? k.c2 = some k.oc2) (hcc : s.heap.get? k.cc = some k.oC) (hoC : k.oC.data = .cell (some (.ref 124)))
    (hi : s.heap.get? i = some (instSlot x.a dx (.ref a))) (hj : s.heap.get? j = some (instSlot x.a dy (.ref b))) (hdx : s.heap.get? dx = some emptyDict) (hdy : s.heap.get? dy = some emptyDict)
    (ha : s.heap.get? a = some { cls := .type "tuple", data := .seq #[.str r.1 u1, .str r.2.1 u2, .str r.2.2 u3] na }) (hb : s.heap.get? b = some { cls := .type "tuple", data := .seq #[.str q.1 v1, .str q.2.1 v2, .str q.2.2 v3] nb }) (hr : r.1.length ≤ 100) (hq : q.1.length ≤ 100) :
    GivesM w A k.f2 [.ref i, .ref j] s [] (fun v new => v = .bool (nameLt r q)) := by
  have o1 : On "getAttr ref" := ⟨⟩
  have o2 : On "call ref" := ⟨⟩
  obtain ⟨A, rfl⟩ := Around.calm hh
  dsimp only at hA hu
  have hf : s.heap.get? k.f2 = some k.of2 := hK _ _ (lk_f2 ok okx)
  obtain ⟨doc, ctv, e1⟩ := ok.ho2
  obtain ⟨vs1, tq1, hcd, hcv⟩ := ok.hc2
  refine givesM_of_frame (led := []) (binds := [(S "self", .ref i), (S "other", .ref j)]) tp ⟨fun _ _ e => e, fun _ h => nomatch h⟩ (by show A.depth < _; lia) hf (by rw [e1]) ⟨_, _, _, _, rfl, hc, hcd, hcv⟩ (BindsTo.of_eq rfl) (locs rfl) (fun g L h₁ tpg hkg hLs F N => ?_) (by decide) (by rfl) (by rfl) (by rfl)
  have X := tpg.X
  have T := tpg.T
  have XK : Hold ((KF w k x).In g) := ⟨hK.keeps hkg⟩
  clear hK
  have o3 : On "eval Name" := ⟨⟩
  walk_at "steps"
  clear o3
  have kp : ∀ {h' : Heap} {m : Str → Option Value} {p : Addr} {o : Obj}, Fr g L h' m → s.heap.get? p = some o → h'.get? p = some o := fun F e => F.keep _ _ (hkg _ _ e)
  refine Hold.mk (wpAny_Name (wpAny_loadName_free (c := k.cc) (by kernel_rfl) (by kernel_rfl) (by rfl) ⟨k.oC, kp F hcc, hoC⟩ ?_ (by decide +kernel)) (by decide +kernel))
  walk_at "steps"
  (rename Fr _ _ _ _ => F')
  refine Hold.mk (get_slot (s := ⟨_, _, _, _, _⟩) (K := KF w k x) (C := x.a) (i := 0) (p := x.md) (v := .ref a) F' XK.out ⟨kp F' hi, rfl, rfl, kp F' hdx⟩ (kf_ga okx) (by unfold isClsIn; rw [kf_cls]; rfl) (kf_obj okx) (kf_special okx (by kernel_rfl)) (kf_takes okx) (kf_slot okx) rfl rfl ?_)
  walk_at "steps"
  refine Hold.mk (get_slot (s := ⟨_, _, _, _, _⟩) (K := KF w k x) (C := x.a) (i := 0) (p := x.md) (v := .ref b) F' XK.out ⟨kp F' hj, rfl, rfl, kp F' hdy⟩ (kf_ga okx) (by unfold isClsIn; rw [kf_cls]; rfl) (kf_obj okx) (kf_special okx (by kernel_rfl)) (kf_takes okx) (kf_slot okx) rfl rfl ?_)
  walk_at "steps"
  refine Hold.mk (call_gives' (compared_spec (r := r) (q := q) (s := ⟨_, _, _, _, _⟩) (tpg.keeps F'.keep) ?_ rfl ?_ (kp F' ha) (kp F' hb) hr hq) (fun v1 h1 tk1 new hk1 hn1 hP => ?_))
  · show A.depth + 1 < _; lia
  · simp only [units_deeper]; lia
  obtain ⟨t, rfl⟩ := hP
  have F2 := F'.kept hk1
  clear F'
  walk_at "steps"
  (rename Fr _ _ _ _ => F')
  exact EndM.mk F' (News.nil) (fun p hp => hp) (by show Value.bool _ = _; rw [cmp_neg])
end Mine
end
section
open PySem PySem.W PyProof.Rows PySem.Calls
set_option maxRecDepth 100000
namespace Mine
section
variable {w : World} {A : Around} {E : Value → Shared → Prop} {s : Shared} {h₀ : Heap} {L : Addr} {m mg mb : Str → Option Value} {news : List (Addr × Obj)} {k : KB} {x : KX}
theorem News.hidden {h : Heap} {l : List Addr} (N : News h₀ L h news) (hn : ∀ p ∈ news, p.1 ∉ l) : News h₀ L (hideAll h l) news := fun p hp => ⟨hideAll_get _ (N p hp).1 (hn p hp), (N p hp).2⟩
theorem k_make {Q : Value → Shared → Prop} {v : Value} (F : Fr h₀ L s.heap m) (N : News h₀ L s.heap news) (hs : ∀ p ∈ x.led w k, p ∈ news) (ok : k.Ok mg) (okx : x.Ok k) (tp : Tops w mg mb h₀) (hA : A.depth + 20 < recursionLimit) (hh : A.handled = none)
    (h : ∀ i dx h' tk', Fr h₀ L h' m → News h₀ L h' ((i, instSlot x.a dx v) :: (dx, emptyDict) :: news) → (∀ p ∈ news, @LT.lt Nat _ p.1 dx) → @LT.lt Nat _ dx i → Q (.ref i) { s with heap := h', toks := tk' }) :
    wpAny (model prg w) A (call (.ref x.a) [v]) Q E s := by
  refine wpAny_call (make_K (K := KF w k x) F N (KF.in_ N hs) (kf_makes okx) (kf_init okx) (kf_f1 ok okx) (fun i dx h' F' N' l1 l2 => ?_))
  have ne1 : ∀ p ∈ news, p.1 ∉ [i] := fun p hp q => Nat.ne_of_lt (Nat.lt_trans (l1 p hp) l2) (List.mem_singleton.mp q)
  have Nn : News h₀ L h' news := fun p hp => N' p (.tail _ (.tail _ hp))
  have Nh := News.hidden Nn ne1
  have Ni := N' (i, instObj x.a dx) (.head _)
  have Nd := N' (dx, emptyDict) (.tail _ (.head _))
  have hc1 : (k.c1, k.oc1) ∈ x.led w k := by k_mem
  have g := kinit_spec (A := A.under (.builtin "type.__call__" ⟨.ref x.a :: [v], []⟩)) (s := { s with heap := h' }) (v := v) (hb := hideAll h' [i]) (dx := dx) (i := i) (k := k) (x := x) (mg := mg) (mb := mb) (w := w)
    (tp.keeps fun b o e => hideAll_get _ (F'.keep b o e) fun q => by have := Ni.2.2; dsimp only at this; rw [List.mem_singleton.mp q, this] at e; cases e)
    (by show A.depth + 1 + 10 < _; lia) hh ok okx (KF.in_ Nh hs) (Nh _ (hs _ hc1)).1
    (hideAll_get _ Nd.1 fun q => Nat.ne_of_lt l2 (List.mem_singleton.mp q))
    ⟨fun b o e => of_hideAll _ e, fun p hp => by rw [List.mem_singleton.mp hp]; exact ⟨Ni.1, hideAll_none _ (.head _)⟩⟩
  refine g _ fun r h2 tk2 new hk hn hP => ?_
  obtain ⟨rfl, rfl⟩ := hP
  obtain ⟨F2, N2⟩ := afterM (s := { s with heap := h' }) (led := [(i, instObj x.a dx)]) (rest := (dx, emptyDict) :: news) F' N' (fun p hp => by rw [List.mem_singleton.mp hp]; exact .head _)
    (fun p hp => ⟨.tail _ hp, by
      rcases List.mem_cons.mp hp with rfl | hp
      · exact fun q => Nat.ne_of_lt l2 (List.mem_singleton.mp q)
      · exact ne1 p hp⟩) hk hn
  exact ⟨rfl, h i dx h2 tk2 F2 N2 l1 l2⟩
end
end Mine
end
section
open PySem PySem.W PyProof.Rows
namespace Mine
noncomputable def wpr (lt : Nat → Nat → Bool) (n : Nat) {α : Type} : KasT α → (α → Prop) → Prop
  | .ret a, Q => Q a
  | .ask i j k, Q => i < n ∧ j < n ∧ wpr lt n (k (lt i j)) Q
theorem wpr_bind {lt : Nat → Nat → Bool} {n : Nat} {α β : Type} {f : α → KasT β} {Q : β → Prop} : ∀ {t : KasT α}, wpr lt n t (fun a => wpr lt n (f a) Q) → wpr lt n (t.bind f) Q
  | .ret _, h => h
  | .ask _ _ _, h => ⟨h.1, h.2.1, wpr_bind h.2.2⟩
theorem wpr_mono {lt : Nat → Nat → Bool} {n : Nat} {α : Type} {Q Q' : α → Prop} (hq : ∀ a, Q a → Q' a) : ∀ {t : KasT α}, wpr lt n t Q → wpr lt n t Q'
  | .ret _, h => hq _ h
  | .ask _ _ _, h => ⟨h.1, h.2.1, wpr_mono hq h.2.2⟩
theorem kasWp_of_wpr {lt : Nat → Nat → Bool} {n : Nat} {α : Type} {cmp : Nat → Nat → (Bool → Shared → Prop) → Shared → Prop} {I : Shared → Prop} {G : α → Prop} {Q : α → Shared → Prop}
    (hc : ∀ i j C s, i < n → j < n → I s → (∀ s', I s' → C (lt i j) s') → cmp i j C s) (hq : ∀ a s, G a → I s → Q a s) :
    ∀ {t : KasT α} {s : Shared}, wpr lt n t G → I s → t.kasWp cmp Q s
  | .ret _, _, h, hs => hq _ _ h hs
  | .ask _ _ _, _, h, hs => hc _ _ _ _ h.1 h.2.1 hs fun _ hs' => kasWp_of_wpr hc hq h.2.2 hs'
structure Weak (lt : Nat → Nat → Bool) : Prop where
  irr : ∀ i, lt i i = false
  tr : ∀ i j k, lt i j = true → lt j k = true → lt i k = true
  co : ∀ i j k, lt i k = true → lt i j = true ∨ lt j k = true
noncomputable def RR (lt : Nat → Nat → Bool) (i j : Nat) : Prop := lt i j = true ∨ (lt j i = false ∧ i < j)
section
variable {lt : Nat → Nat → Bool} {n : Nat}
theorem no_of {a b : Bool} (h : a = true) (h' : a = false) : b = true := by rw [h] at h'; cases h'
theorem Weak.asy (W : Weak lt) {i j : Nat} (h : lt i j = true) : lt j i = false := by
  cases e : lt j i with
  | false => rfl
  | true => have := W.tr i j i h e; rw [W.irr] at this; cases this
theorem RR.le (W : Weak lt) {i j : Nat} (h : RR lt i j) : lt j i = false := h.elim W.asy (·.1)
theorem Weak.ncl (W : Weak lt) {i j k : Nat} (h : lt i k = true) (h1 : lt i j = false) : lt j k = true := (W.co i j k h).elim (fun e => no_of e h1) id
theorem Weak.ncr (W : Weak lt) {i j k : Nat} (h : lt i k = true) (h1 : lt j k = false) : lt i j = true := (W.co i j k h).elim id (fun e => no_of e h1)
theorem Weak.le_tr (W : Weak lt) {i j k : Nat} (h1 : lt i j = false) (h2 : lt j k = false) : lt i k = false := by
  cases e : lt i k with
  | false => rfl
  | true => exact (W.co i j k e).elim (fun q => by rw [h1] at q; cases q) (fun q => by rw [h2] at q; cases q)
theorem RR.tr (W : Weak lt) {i j k : Nat} (h1 : RR lt i j) (h2 : RR lt j k) : RR lt i k := by
  have a1 := h1.le W
  have a2 := h2.le W
  cases e : lt i k with
  | true => exact .inl e
  | false =>
    refine .inr ⟨W.le_tr a2 a1, ?_⟩
    rcases h1 with h1 | h1
    · exact (by have := W.ncr h1 a2; rw [e] at this; cases this)
    · rcases h2 with h2 | h2
      · exact (by have := W.ncl h2 a1; rw [e] at this; cases this)
      · lia
theorem RR.irr (W : Weak lt) {i : Nat} (h : RR lt i i) : False := by
  rcases h with h | h
  · rw [W.irr] at h; cases h
  · lia
theorem RR.asy (W : Weak lt) {i j : Nat} (h : RR lt i j) (h' : RR lt j i) : False := (h.tr W h').irr W
theorem rd {p : Array Nat} {a b : List Nat} {x : Nat} (h : p.toList = a ++ x :: b) : p.getD a.length 0 = x := by
  rw [Array.getD_eq_getD_getElem?, ← Array.getElem?_toList, h, List.getElem?_append_right (Nat.le_refl _), Nat.sub_self]; rfl
theorem rng {k n : Nat} (h : k < n) : List.range' k (n - k) = k :: List.range' (k + 1) (n - (k + 1)) := by
  rw [show n - k = (n - (k + 1)) + 1 by lia, List.range'_succ]
theorem rev_list {p : Array Nat} {a b c : List Nat} {i j : Nat} (h : p.toList = a ++ (b ++ c)) (hi : i = a.length) (hj : j = i + b.length) : (kas_rev p i j).toList = a ++ (b.reverse ++ c) := by
  subst hi hj
  have hz : p.size = a.length + (b.length + c.length) := by rw [← Array.length_toList, h, List.length_append, List.length_append]
  apply List.ext_getElem?
  intro k
  rw [Array.getElem?_toList]
  unfold kas_rev
  rw [getElem?_mirror_all (by omega), ← Array.getElem?_toList, ← Array.getElem?_toList, h]
  by_cases h1 : k < a.length
  · rw [if_neg (by omega), List.getElem?_append_left h1, List.getElem?_append_left h1]
  · have h1' := Nat.le_of_not_lt h1
    rw [List.getElem?_append_right h1' (l₂ := b.reverse ++ c)]
    by_cases h2 : k - a.length < b.length
    · rw [if_pos ⟨h1', by omega⟩, List.getElem?_append_left (l₁ := b.reverse) (by rw [List.length_reverse]; exact h2), List.getElem?_reverse h2, List.getElem?_append_right (by omega), List.getElem?_append_left (by omega)]
      congr 1; omega
    · rw [if_neg (by omega), List.getElem?_append_right h1', List.getElem?_append_right (Nat.le_of_not_lt h2), List.getElem?_append_right (by rw [List.length_reverse]; exact Nat.le_of_not_lt h2), List.length_reverse]
theorem bub_list {p : Array Nat} {a b c : List Nat} {x : Nat} (h : p.toList = a ++ (b ++ x :: c)) : (bubble p (a.length + b.length) b.length).toList = a ++ (x :: (b ++ c)) := by
  have hz : p.size = a.length + (b.length + (c.length + 1)) := by rw [← Array.length_toList, h, List.length_append, List.length_append, List.length_cons]
  apply List.ext_getElem?
  intro k
  rw [Array.getElem?_toList, getElem?_bubble (by lia) _ (by lia), Nat.add_sub_cancel]
  repeat rw [← Array.getElem?_toList]
  rw [h]
  by_cases h0 : k = a.length
  · rw [if_pos h0, h0, List.getElem?_append_right (Nat.le_add_right _ _), List.getElem?_append_right (by lia), List.getElem?_append_right (Nat.le_refl _), Nat.sub_self]
    rw [show a.length + b.length - a.length - b.length = 0 by lia]; rfl
  rw [if_neg h0]
  by_cases h1 : k < a.length
  · rw [if_neg (by lia), List.getElem?_append_left h1, List.getElem?_append_left h1]
  · obtain ⟨e, rfl⟩ : ∃ e, k = a.length + (e + 1) := ⟨k - a.length - 1, by lia⟩
    rw [List.getElem?_append_right (Nat.le_add_right _ _) (l₂ := x :: (b ++ c)), Nat.add_sub_cancel_left, List.getElem?_cons_succ]
    by_cases h2 : e < b.length
    · rw [if_pos ⟨by lia, by lia⟩, List.getElem?_append_left h2, List.getElem?_append_right (by lia), List.getElem?_append_left (by lia)]
      congr 1; lia
    · rw [if_neg (by lia), List.getElem?_append_right (Nat.le_of_not_lt h2), List.getElem?_append_right (Nat.le_add_right _ _), Nat.add_sub_cancel_left, List.getElem?_append_right (by lia), show e + 1 - b.length = (e - b.length) + 1 by lia, List.getElem?_cons_succ]
structure SL (lt : Nat → Nat → Bool) (n : Nat) (p : Array Nat) (l : List Nat) (k : Nat) : Prop where
  e : p.toList = l ++ List.range' k (n - k)
  pm : l.Perm (List.range k)
  le : k ≤ n
  pw : l.Pairwise (RR lt)
theorem bd_of {l : List Nat} {k x : Nat} (pm : l.Perm (List.range k)) (h : x ∈ l) : x < k := List.mem_range.mp (pm.mem_iff.mp h)
theorem len_of {l : List Nat} {k : Nat} (pm : l.Perm (List.range k)) : l.length = k := pm.length_eq.trans List.length_range
theorem pm_snoc {l : List Nat} {k : Nat} (pm : l.Perm (List.range k)) : (l ++ [k]).Perm (List.range (k + 1)) := by
  rw [List.range_succ]; exact pm.append_right _
theorem pw_snoc {R : Nat → Nat → Prop} {l : List Nat} {k : Nat} (h : l.Pairwise R) (hk : ∀ a ∈ l, R a k) : (l ++ [k]).Pairwise R :=
  List.pairwise_append.mpr ⟨h, List.pairwise_singleton _ _, fun a ha b hb => List.mem_singleton.mp hb ▸ hk a ha⟩
theorem last_of {l : List Nat} {k : Nat} (h : l.length = k + 1) : ∃ l0 y, l = l0 ++ [y] ∧ l0.length = k := by
  refine ⟨l.dropLast, l.getLast (fun e => by rw [e] at h; cases h), (List.dropLast_concat_getLast _).symm, ?_⟩
  rw [List.length_dropLast, h]; rfl
noncomputable def AscQ (lt : Nat → Nat → Bool) (n : Nat) (p : Array Nat) (f k m : Nat) : Prop := k ≤ m ∧ ∃ l, SL lt n p l m ∧ (m < k + f → ∃ l0 y, l = l0 ++ [y] ∧ lt m y = true)
theorem asc_ok (W : Weak lt) {p : Array Nat} : ∀ (f k : Nat) {l : List Nat}, SL lt n p l k → 1 ≤ k → k + f ≤ n → wpr lt n (kas_asc p f k) (AscQ lt n p f k)
  | 0, k, l, h, _, _ => ⟨Nat.le_refl _, l, h, fun q => absurd q (Nat.lt_irrefl _)⟩
  | f + 1, k, l, h, h1, hf => by
    have hkn : k < n := Nat.lt_of_lt_of_le (Nat.lt_add_of_pos_right (Nat.succ_pos f)) hf
    have hl := len_of h.pm
    obtain ⟨k', rfl⟩ : ∃ k', k = k' + 1 := ⟨k - 1, (Nat.sub_add_cancel h1).symm⟩
    refine Classical.byContradiction fun hn1 => ?_
    obtain ⟨l0, y, rfl, hl0⟩ := last_of hl
    refine hn1 ?_
    have he := h.e
    rw [rng hkn] at he
    have r1 := rd he
    rw [hl] at r1
    rw [List.append_assoc] at he
    have r2 := rd (b := (k' + 1) :: List.range' (k' + 1 + 1) (n - (k' + 1 + 1))) he
    rw [hl0] at r2
    have hy : y < k' + 1 := bd_of h.pm (List.mem_append_right _ (.head _))
    unfold kas_asc
    rw [Nat.add_sub_cancel, r1, r2]
    refine ⟨hkn, Nat.lt_trans hy hkn, ?_⟩
    show wpr lt n (if lt (k' + 1) y = true then _ else _) _
    cases hc : lt (k' + 1) y with
    | true => rw [if_pos rfl]; exact ⟨Nat.le_refl _, _, h, fun _ => ⟨_, _, rfl, hc⟩⟩
    | false =>
      rw [if_neg Bool.false_ne_true]
      have last : RR lt y (k' + 1) := .inr ⟨hc, hy⟩
      refine wpr_mono (fun m hm => ⟨Nat.le_of_succ_le hm.1, hm.2.imp fun l hl => ⟨hl.1, fun q => hl.2 (by rw [Nat.add_right_comm]; exact q)⟩⟩) (asc_ok W f (k' + 1 + 1) (l := l0 ++ [y] ++ [k' + 1]) ⟨?_, pm_snoc h.pm, hkn, pw_snoc h.pw fun a ha => ?_⟩ (Nat.le_add_left _ _) (by rw [Nat.add_right_comm]; exact hf))
      · rw [h.e, rng hkn, List.append_assoc (l0 ++ [y])]; rfl
      · rcases List.mem_append.mp ha with ha | ha
        · exact ((List.pairwise_append.mp h.pw).2.2 a ha y (.head _)).tr W last
        · exact List.mem_singleton.mp ha ▸ last
structure DL (lt : Nat → Nat → Bool) (n : Nat) (p : Array Nat) (d e : List Nat) (m q : Nat) : Prop where
  eq : p.toList = d ++ (e ++ List.range' m (n - m))
  pm : (d ++ e).Perm (List.range m)
  le : m ≤ n
  q : e.length = q + 1
  D : d.Pairwise fun a b => RR lt b a
  T : e.Pairwise fun a b => RR lt a b ∧ lt a b = false
  X : ∀ a ∈ d, ∀ b ∈ e, lt b a = true
theorem DL.turn {p : Array Nat} {d e : List Nat} {m q : Nat} (h : DL lt n p d e m q) : (if q > 0 then kas_rev p (m - (q + 1)) m else p).toList = d ++ (e.reverse ++ List.range' m (n - m)) := by
  have hl := len_of h.pm
  rw [List.length_append] at hl
  split
  · exact rev_list h.eq (by rw [← hl, h.q, Nat.add_sub_cancel]) (by rw [← hl, h.q, Nat.add_sub_cancel])
  · rename_i hq
    have : q = 0 := Nat.eq_zero_of_not_pos hq
    subst this
    obtain ⟨x, rfl⟩ := List.length_eq_one_iff.mp h.q
    exact h.eq
theorem pw_turn {d e : List Nat} (D : d.Pairwise fun a b => RR lt b a) (T : e.Pairwise fun a b => RR lt a b ∧ lt a b = false) (X : ∀ a ∈ d, ∀ b ∈ e, lt b a = true) : (d ++ e.reverse).Pairwise fun a b => RR lt b a :=
  List.pairwise_append.mpr ⟨D, List.pairwise_reverse.mpr (T.imp fun h => h.1), fun a ha b hb => .inl (X a ha b (List.mem_reverse.mp hb))⟩
theorem desc_ok (W : Weak lt) : ∀ (f : Nat) (p : Array Nat) (m q : Nat) {d e : List Nat}, DL lt n p d e m q → m + f ≤ n → wpr lt n (kas_desc f p m q) (fun r => m ≤ r.2.1 ∧ ∃ d e, DL lt n r.1 d e r.2.1 r.2.2)
  | 0, p, m, q, d, e, h, _ => ⟨Nat.le_refl _, d, e, h⟩
  | f + 1, p, m, q, d, e, h, hf => by
    have hkn : m < n := Nat.lt_of_lt_of_le (Nat.lt_add_of_pos_right (Nat.succ_pos f)) hf
    have hf' : m + 1 + f ≤ n := by rw [Nat.add_right_comm]; exact hf
    have hl := len_of h.pm
    refine Classical.byContradiction fun hn1 => ?_
    obtain ⟨e0, y, rfl, he0⟩ := last_of h.q
    refine hn1 ?_
    have he := h.eq
    rw [rng hkn] at he
    have r1 := rd (a := d ++ (e0 ++ [y])) (x := m) (b := List.range' (m + 1) (n - (m + 1))) (he.trans (List.append_assoc _ _ _).symm)
    rw [hl] at r1
    have r2 := rd (a := d ++ e0) (x := y) (b := m :: List.range' (m + 1) (n - (m + 1))) (by rw [he, List.append_assoc, List.append_assoc]; rfl)
    rw [show (d ++ e0).length = m - 1 by rw [← hl, ← List.append_assoc, List.length_append (bs := [y])]; rfl] at r2
    have hy : y < m := bd_of h.pm (List.mem_append_right _ (List.mem_append_right _ (.head _)))
    unfold kas_desc
    rw [r1, r2]
    refine ⟨hkn, Nat.lt_trans hy hkn, ?_⟩
    have T := List.pairwise_append.mp h.T
    have hr : ∀ a ∈ e0, RR lt a y ∧ lt a y = false := fun a ha => T.2.2 a ha y (.head _)
    show wpr lt n (if lt m y = true then _ else _) _
    cases hc : lt m y with
    | true =>
      rw [if_pos rfl]
      have go : wpr lt n (kas_desc f (if q > 0 then kas_rev p (m - (q + 1)) m else p) (m + 1) 0) (fun r => m ≤ r.2.1 ∧ ∃ d e, DL lt n r.1 d e r.2.1 r.2.2) := by
        refine wpr_mono (fun r hr => ⟨Nat.le_of_succ_le hr.1, hr.2⟩) (desc_ok W f _ (m + 1) 0 (d := d ++ (e0 ++ [y]).reverse) (e := [m]) ⟨?_, pm_snoc (((List.reverse_perm _).append_left d).trans h.pm), hkn, rfl, pw_turn h.D h.T h.X, List.pairwise_singleton _ _, fun a ha b hb => ?_⟩ hf')
        · rw [h.turn, rng hkn, List.append_assoc]; rfl
        · rw [List.mem_singleton.mp hb]
          rcases List.mem_append.mp ha with ha | ha
          · exact W.tr _ _ _ hc (h.X a ha y (List.mem_append_right _ (.head _)))
          · rcases List.mem_append.mp (List.mem_reverse.mp ha) with ha | ha
            · exact W.ncr hc (hr a ha).2
            · exact List.mem_singleton.mp ha ▸ hc
      split
      · rename_i hq; rw [if_pos hq] at go; exact go
      · rename_i hq; rw [if_neg hq] at go; exact go
    | false =>
      rw [if_neg Bool.false_ne_true]
      refine ⟨Nat.lt_trans hy hkn, hkn, ?_⟩
      show wpr lt n (if lt y m = true then _ else _) _
      cases hd : lt y m with
      | true => rw [if_pos rfl]; exact ⟨Nat.le_refl _, _, _, h⟩
      | false =>
        rw [if_neg Bool.false_ne_true]
        have last : RR lt y m := .inr ⟨hc, hy⟩
        refine wpr_mono (fun r hr => ⟨Nat.le_of_succ_le hr.1, hr.2⟩) (desc_ok W f p (m + 1) (q + 1) (d := d) (e := e0 ++ [y] ++ [m]) ⟨?_, by rw [← List.append_assoc]; exact pm_snoc h.pm, hkn, by rw [List.length_append, h.q]; rfl, h.D, pw_snoc h.T fun a ha => ?_, fun a ha b hb => ?_⟩ hf')
        · rw [h.eq, rng hkn, List.append_assoc (e0 ++ [y])]; rfl
        · rcases List.mem_append.mp ha with ha | ha
          · exact ⟨(hr a ha).1.tr W last, W.le_tr (hr a ha).2 hd⟩
          · exact List.mem_singleton.mp ha ▸ ⟨last, hd⟩
        · rcases List.mem_append.mp hb with hb | hb
          · exact h.X a ha b hb
          · exact List.mem_singleton.mp hb ▸ W.ncl (h.X a ha y (List.mem_append_right _ (.head _))) hd
noncomputable def CntQ (lt : Nat → Nat → Bool) (n : Nat) (r : Nat × Array Nat) : Prop := 1 ≤ r.1 ∧ ∃ l, SL lt n r.2 l r.1
theorem descPart_ok (W : Weak lt) {p : Array Nat} {m : Nat} {d : List Nat} (hm : m + 1 ≤ n) (h : DL lt n p d [m] (m + 1) 0) : wpr lt n (kas_descPart m n p) (CntQ lt n) := by
  unfold kas_descPart
  refine wpr_bind (wpr_mono (fun r hr => ?_) (desc_ok W _ _ _ _ h (Nat.le_of_eq (Nat.add_sub_of_le hm))))
  obtain ⟨p, m, q⟩ := r
  obtain ⟨hm', d, e, h⟩ := hr
  dsimp only at hm' h ⊢
  have t := h.turn
  have hl := len_of h.pm
  have go : wpr lt n (kas_tail3 m n (if q > 0 then kas_rev p (m - (q + 1)) m else p)) (CntQ lt n) := by
    unfold kas_tail3
    generalize (if q > 0 then kas_rev p (m - (q + 1)) m else p) = pe at t
    have s0 : SL lt n (kas_rev pe 0 m) (d ++ e.reverse).reverse m := by
      refine ⟨?_, (List.reverse_perm _).trans (((List.reverse_perm _).append_left d).trans h.pm), h.le, List.pairwise_reverse.mpr (pw_turn h.D h.T h.X)⟩
      exact rev_list (a := []) (b := d ++ e.reverse) (by rw [t, List.append_assoc]; rfl) rfl (by rw [Nat.zero_add, List.length_append, List.length_reverse, ← List.length_append]; exact hl.symm)
    have hm1 : 1 ≤ m := Nat.le_trans (Nat.le_add_left 1 _) hm'
    refine wpr_bind (wpr_mono (fun m' hm' => ?_) (asc_ok W _ m s0 hm1 (Nat.le_of_eq (Nat.add_sub_of_le h.le))))
    exact ⟨Nat.le_trans hm1 hm'.1, hm'.2.imp fun _ x => x.1⟩
  split
  · rename_i hq; rw [if_pos hq] at go; exact go
  · rename_i hq; rw [if_neg hq] at go; exact go
theorem count_ok (W : Weak lt) (h1 : 1 ≤ n) : wpr lt n (kas_count n (List.toArray (List.range n))) (CntQ lt n) := by
  unfold kas_count
  have s0 : SL lt n (List.toArray (List.range n)) [0] 1 := ⟨by rw [List.range_eq_range']; exact rng (k := 0) h1, .refl _, h1, List.pairwise_singleton _ _⟩
  refine wpr_bind (wpr_mono (fun m hm => ?_) (asc_ok W _ 1 s0 (Nat.le_refl _) (Nat.le_of_eq (Nat.add_sub_of_le h1))))
  refine Classical.byContradiction fun hn1 => ?_
  obtain ⟨a1, l, a3, a4⟩ := hm
  refine hn1 ?_
  generalize (List.toArray (List.range n)) = p at a3
  by_cases hn : m = n
  · rw [if_pos (beq_iff_eq.mpr hn)]; exact ⟨a1, l, a3⟩
  rw [if_neg (fun q => hn (beq_iff_eq.mp q))]
  have hmn : m < n := Nat.lt_of_le_of_ne a3.le hn
  refine Classical.byContradiction fun hn2 => ?_
  obtain ⟨l0, y, rfl, hlt⟩ := a4 (by rw [Nat.add_sub_of_le h1]; exact hmn)
  refine hn2 ?_
  have hl := len_of a3.pm
  have hpr : (kas_rev p 0 m).toList = (l0 ++ [y]).reverse ++ List.range' m (n - m) := rev_list (a := []) (b := l0 ++ [y]) a3.e rfl (by rw [Nat.zero_add]; exact hl.symm)
  have part : ∀ p' : Array Nat, p'.toList = (l0 ++ [y]).reverse ++ List.range' m (n - m) → (∀ a ∈ l0, lt a y = false) → wpr lt n (kas_descPart m n p') (CntQ lt n) := fun p' e' ha => by
    refine descPart_ok W hmn (d := (l0 ++ [y]).reverse) ⟨by rw [e', rng hmn]; rfl, pm_snoc ((List.reverse_perm _).trans a3.pm), hmn, rfl, List.pairwise_reverse.mpr a3.pw, List.pairwise_singleton _ _, fun a h b hb => ?_⟩
    rw [List.mem_singleton.mp hb]
    rcases List.mem_append.mp (List.mem_reverse.mp h) with h | h
    · exact W.ncr hlt (ha a h)
    · exact List.mem_singleton.mp h ▸ hlt
  cases l0 with
  | nil =>
    have : m = 1 := hl.symm
    subst this
    rw [if_neg (by decide)]
    exact part p a3.e fun _ h => nomatch h
  | cons x r =>
    have hm1 : m > 1 := by rw [← hl, List.cons_append, List.length_cons, List.length_append]; exact Nat.succ_lt_succ (Nat.lt_of_lt_of_le (Nat.succ_pos _) (Nat.le_add_left _ _))
    rw [if_pos hm1]
    have r1 := rd (a := []) (x := x) (b := r ++ [y] ++ List.range' m (n - m)) a3.e
    have r2 := rd (a := x :: r) (x := y) (b := List.range' m (n - m)) (by rw [a3.e, List.append_assoc]; rfl)
    rw [show (x :: r).length = m - 1 by rw [← hl, List.length_append]; rfl] at r2
    rw [show p.getD 0 0 = x from r1, r2]
    have hx := bd_of a3.pm (List.mem_append_left _ (.head r))
    have hy := bd_of a3.pm (List.mem_append_right _ (.head []))
    refine ⟨Nat.lt_trans hx hmn, Nat.lt_trans hy hmn, ?_⟩
    show wpr lt n (if lt x y = true then _ else _) _
    cases hc : lt x y with
    | true => rw [if_pos rfl]; exact ⟨a1, _, a3⟩
    | false =>
      rw [if_neg Bool.false_ne_true]
      refine part _ hpr fun a ha => ?_
      rcases List.mem_cons.mp ha with rfl | ha
      · exact hc
      · exact W.le_tr ((List.rel_of_pairwise_cons (List.pairwise_append.mp a3.pw).1 ha).le W) hc
theorem place_ok (W : Weak lt) {p : Array Nat} {l : List Nat} {k : Nat} (h : SL lt n p l k) (hk : k < n) : ∀ (f : Nat) (A M B : List Nat) {i j : Nat}, l = A ++ (M ++ B) → A.length = i → i + M.length = j → M.length ≤ f → (∀ a ∈ A, lt k a = false) → (∀ b ∈ B, lt k b = true) →
    wpr lt n (kas_place p k f i j) (fun i => ∃ A B, l = A ++ B ∧ A.length = i ∧ (∀ a ∈ A, lt k a = false) ∧ (∀ b ∈ B, lt k b = true))
  | 0, A, M, B, i, j, e, ea, _, c, x, y => ⟨A, B, by rw [e, List.length_eq_zero_iff.mp (Nat.le_zero.mp c)]; rfl, ea, x, y⟩
  | f + 1, A, M, B, i, j, e, ea, ej, c, x, y => by
    unfold kas_place
    split
    · rename_i hge
      have : M = [] := List.length_eq_zero_iff.mp (Nat.le_zero.mp (Nat.le_of_add_le_add_left (a := i) (ej ▸ hge)))
      subst this
      exact ⟨A, B, e, ea, x, y⟩
    · rename_i hlt
      refine Classical.byContradiction fun hn1 => ?_
      obtain ⟨c', hc'⟩ : ∃ c', (i + j) / 2 = i + c' ∧ c' < M.length := ⟨(i + j) / 2 - i, by lia, by lia⟩
      obtain ⟨M1, z, M2, rfl, hM1⟩ : ∃ M1 z M2, M = M1 ++ z :: M2 ∧ M1.length = c' := ⟨M.take c', M[c'], M.drop (c' + 1), by rw [← List.drop_eq_getElem_cons hc'.2, List.take_append_drop], List.length_take_of_le (Nat.le_of_lt hc'.2)⟩
      refine hn1 ?_
      have r1 := rd (a := l) (x := k) (b := List.range' (k + 1) (n - (k + 1))) (by rw [h.e, rng hk])
      rw [len_of h.pm] at r1
      have r2 := rd (a := A ++ M1) (x := z) (b := M2 ++ B ++ List.range' k (n - k)) (by rw [h.e, e]; simp only [List.append_assoc, List.cons_append])
      rw [List.length_append, ea, hM1] at r2
      have hz : z ∈ l := by rw [e]; exact List.mem_append_right _ (List.mem_append_left _ (List.mem_append_right _ (.head _)))
      rw [hc'.1, r1, r2]
      refine ⟨hk, Nat.lt_trans (bd_of h.pm hz) hk, ?_⟩
      show wpr lt n (if lt k z = true then _ else _) _
      rw [List.length_append, List.length_cons, hM1] at c ej
      have pw := h.pw
      rw [e] at pw
      have pM := List.pairwise_append.mp (List.pairwise_append.mp (List.pairwise_append.mp pw).2.1).1
      cases hcz : lt k z with
      | true =>
        rw [if_pos rfl]
        refine place_ok W h hk f A M1 (z :: M2 ++ B) (by rw [e, List.append_assoc]) ea (by rw [hM1]) (by lia) x fun b hb => ?_
        rcases List.mem_append.mp hb with hb | hb
        · rcases List.mem_cons.mp hb with rfl | hb
          · exact hcz
          · exact W.ncr hcz ((List.rel_of_pairwise_cons pM.2.1 hb).le W)
        · exact y b hb
      | false =>
        rw [if_neg Bool.false_ne_true]
        refine place_ok W h hk f (A ++ (M1 ++ [z])) M2 B (by rw [e]; simp only [List.append_assoc, List.cons_append, List.nil_append]) (by rw [List.length_append, List.length_append, ea, hM1]; rfl) (by lia) (by lia) (fun a ha => ?_) y
        rcases List.mem_append.mp ha with ha | ha
        · exact x a ha
        · rcases List.mem_append.mp ha with ha | ha
          · exact W.le_tr hcz ((pM.2.2 a ha z (.head _)).le W)
          · exact List.mem_singleton.mp ha ▸ hcz
theorem bin_ok (W : Weak lt) : ∀ (f : Nat) (p : Array Nat) (k : Nat) {l : List Nat}, SL lt n p l k → k + f ≤ n → wpr lt n (kas_bin f p k) (fun p => ∃ l, SL lt n p l (k + f))
  | 0, p, k, l, h, _ => ⟨l, h⟩
  | f + 1, p, k, l, h, hf => by
    have hkn : k < n := Nat.lt_of_lt_of_le (Nat.lt_add_of_pos_right (Nat.succ_pos f)) hf
    have hl := len_of h.pm
    unfold kas_bin
    refine wpr_bind (wpr_mono (fun i hi => ?_) (place_ok W h hkn k [] l [] (by rw [List.append_nil]; rfl) rfl (by rw [hl, Nat.zero_add]) (Nat.le_of_eq hl) (fun _ h => nomatch h) (fun _ h => nomatch h)))
    obtain ⟨A, B, rfl, rfl, x, y⟩ := hi
    have pw := List.pairwise_append.mp h.pw
    rw [List.length_append] at hl
    have hb := bub_list (p := p) (a := A) (b := B) (x := k) (c := List.range' (k + 1) (n - (k + 1))) (by rw [h.e, rng hkn, List.append_assoc])
    rw [hl, show B.length = k - A.length by rw [← hl, Nat.add_sub_cancel_left]] at hb
    rw [show k + (f + 1) = k + 1 + f by rw [Nat.add_right_comm]; rfl]
    refine bin_ok W f _ (k + 1) (l := A ++ (k :: B)) ⟨by rw [hb, List.append_assoc]; rfl, ?_, hkn, List.pairwise_append.mpr ⟨pw.1, List.pairwise_cons.mpr ⟨fun b hb => .inl (y b hb), pw.2.1⟩, fun a ha b hb => ?_⟩⟩ (by rw [Nat.add_right_comm]; exact hf)
    · exact (List.perm_middle.trans (List.perm_append_singleton k (A ++ B)).symm).trans (pm_snoc h.pm)
    · rcases List.mem_cons.mp hb with rfl | hb
      · exact .inr ⟨x a ha, bd_of h.pm (List.mem_append_left _ ha)⟩
      · exact pw.2.2 a ha b hb
structure St (lt : Nat → Nat → Bool) (n : Nat) (p : Array Nat) (_k : Nat) : Prop where
  pm : p.toList.Perm (List.range n)
  pw : p.toList.Pairwise (RR lt)
theorem SL.st {p : Array Nat} {l : List Nat} (h : SL lt n p l n) : St lt n p n := by
  have e := h.e
  rw [Nat.sub_self] at e
  have e : p.toList = l := e.trans (List.append_nil l)
  exact ⟨e ▸ h.pm, e ▸ h.pw⟩
theorem sort_ok (W : Weak lt) (h1 : 1 ≤ n) : wpr lt n (kas_sort n) (fun p => St lt n p n) := by
  unfold kas_sort
  refine wpr_bind (wpr_mono (fun r hr => ?_) (count_ok W h1))
  refine Classical.byContradiction fun hn1 => ?_
  obtain ⟨hr1, l, hr⟩ := hr
  refine hn1 ?_
  split
  · rename_i hlt
    rw [Nat.max_eq_left hr1]
    refine wpr_mono (fun p hp => ?_) (bin_ok W (n - r.1) r.2 r.1 hr (Nat.le_of_eq (Nat.add_sub_of_le hr.le)))
    rw [Nat.add_sub_of_le hr.le] at hp
    exact hp.elim fun _ h => h.st
  · rename_i hge
    have e : r.1 = n := Nat.le_antisymm hr.le (Nat.le_of_not_lt hge)
    exact (e ▸ hr : SL lt n r.2 l n).st
theorem St.same (W : Weak lt) {lt' : Nat → Nat → Bool} {p q : Array Nat} (h : St lt n p n) (h' : St lt' n q n) (e : ∀ i j, i < n → j < n → RR lt' i j → RR lt i j) : p = q := by
  refine Array.toList_inj.mp ?_
  exact (h.pm.trans h'.pm.symm).eq_of_pairwise (fun a b _ _ h1 h2 => (h1.asy W h2).elim) h.pw (h'.pw.imp_of_mem fun ha hb r => e _ _ (bd_of h'.pm ha) (bd_of h'.pm hb) r)
end
end Mine
end
section
open PySem PySem.W PyProof.Rows PySem.Calls
set_option maxRecDepth 100000
namespace Mine
noncomputable def rowLt (rows : List Row) (i j : Nat) : Bool := nameLt (rows.getD i default) (rows.getD j default)
theorem rowLt_weak (rows : List Row) : Weak (rowLt rows) := ⟨fun i => by unfold rowLt nameLt; exact pairLt_irr _ _, fun i j k h1 h2 => by unfold rowLt nameLt at *; exact pairLt_tr h1 h2, fun i j k h => by unfold rowLt nameLt at *; exact pairLt_co h⟩
noncomputable def KeysOk (a : Addr) (insts : List (Addr × Obj)) (ks done : List Value) : Prop :=
  ks.length = done.length ∧ ∀ (i : Nat) (v : Value), done[i]? = some v → ∃ (ii dx : Addr), ks[i]? = some (Value.ref ii) ∧ (ii, instSlot a dx v) ∈ insts ∧ (dx, emptyDict) ∈ insts
theorem KeysOk.snoc {a : Addr} {insts : List (Addr × Obj)} {ks done : List Value} {i dx : Addr} {v : Value} (h : KeysOk a insts ks done) : KeysOk a ((i, instSlot a dx v) :: (dx, emptyDict) :: insts) (ks ++ [.ref i]) (done ++ [v]) := by
  refine ⟨by simp [h.1], fun j u hj => ?_⟩
  by_cases hlt : j < done.length
  · rw [List.getElem?_append_left hlt] at hj
    refine Classical.byContradiction fun hn1 => ?_
    obtain ⟨ii, d, a1, a2, a3⟩ := h.2 j u hj
    refine hn1 ?_
    exact ⟨ii, d, by rw [List.getElem?_append_left (by rw [h.1]; exact hlt)]; exact a1, .tail _ (.tail _ a2), .tail _ (.tail _ a3)⟩
  · have hj' : j = done.length := by
      have := (List.getElem?_eq_some_iff.mp hj).1
      rw [List.length_append] at this
      simp only [List.length_cons, List.length_nil] at this
      lia
    subst hj'
    rw [List.getElem?_append_right (Nat.le_refl _)] at hj
    simp only [Nat.sub_self, List.getElem?_cons_zero, Option.some.injEq] at hj
    subst hj
    exact ⟨i, dx, by rw [← h.1, List.getElem?_append_right (Nat.le_refl _)]; simp, .head _, .tail _ (.head _)⟩
inductive KItem (x : KX) (ks : List Value) (insts news : List (Addr × Obj)) (r : Row) (i : Nat) : Prop
  | mk (ii dx a : Addr) (na : Nat) (t1 t2 t3 : Tok) (e1 : ks.getD i Value.none = Value.ref ii) (e2 : (ii, instSlot x.a dx (.ref a)) ∈ insts) (e3 : (dx, emptyDict) ∈ insts) (e4 : (a, ({ cls := .type "tuple", data := .seq #[.str r.1 t1, .str r.2.1 t2, .str r.2.2 t3] na } : Obj)) ∈ news) : KItem x ks insts news r i
inductive KSI (h₀ : Heap) (L : Addr) (m : Str → Option Value) (s : Shared) (nw : List (Addr × Obj)) (s' : Shared) : Prop
  | mk (h' : Heap) (tk' : Nat) (e : s' = { s with heap := h', toks := tk' }) (F : Fr h₀ L h' m) (N : News h₀ L h' nw) : KSI h₀ L m s nw s'
section
variable {w : World} {A : Around} {E : Value → Shared → Prop} {s : Shared} {h₀ : Heap} {L : Addr} {m mg mb : Str → Option Value} {news : List (Addr × Obj)} {k : KB} {x : KX}
theorem keys_loop {base : List (Addr × Obj)} {kS : Addr} {vs : List Value} {Fin : List Value → Nat → Shared → Prop} (hs : ∀ p ∈ x.led w k, p ∈ base) (ok : k.Ok mg) (okx : x.Ok k) (tp : Tops w mg mb h₀) (hA : A.depth + 20 < recursionLimit) (hh : A.handled = none)
    (hfin : ∀ ks e insts h' tk', Fr h₀ L h' m → News h₀ L h' ((kS, seqObj "list" ks.toArray e) :: (insts ++ base)) → KeysOk x.a insts ks vs → (∀ p ∈ insts ++ base, p.1 ≠ kS) → Fin ks e { s with heap := h', toks := tk' }) :
    ∀ (r done ks : List Value) (e : Nat) (insts : List (Addr × Obj)) (h' : Heap) (tk' : Nat), vs = done ++ r → Fr h₀ L h' m → News h₀ L h' ((kS, seqObj "list" ks.toArray e) :: (insts ++ base)) → KeysOk x.a insts ks done → (∀ p ∈ insts ++ base, p.1 ≠ kS) →
      KatKeys prg w A h₀ L m kS (.ref x.a) Fin r ks e { s with heap := h', toks := tk' }
  | [], done, ks, e, insts, h', tk', hv, F, N, hk, hne => by
    rw [List.append_nil] at hv
    subst hv
    exact KatKeys.nil (hfin ks e insts h' tk' F N hk hne)
  | v :: r, done, ks, e, insts, h', tk', hv, F, N, hk, hne => by
    refine KatKeys.cons (k_make (s := { s with heap := h', toks := tk' }) F N (fun p hp => .tail _ (List.mem_append_right _ (hs p hp))) ok okx tp hA hh (fun i dx h2 tk2 F2 N2 l1 l2 => ?_))
    have lk : @LT.lt Nat _ kS dx := l1 _ (.head _)
    have hne' : ∀ p ∈ (i, instSlot x.a dx v) :: (dx, emptyDict) :: (insts ++ base), p.1 ≠ kS := by
      intro p hp
      rcases List.mem_cons.mp hp with rfl | hp
      · exact Nat.ne_of_gt (Nat.lt_trans lk l2)
      · rcases List.mem_cons.mp hp with rfl | hp
        · exact Nat.ne_of_gt lk
        · exact hne p hp
    refine KatBack.intro (news := (kS, seqObj "list" ks.toArray e) :: (i, instSlot x.a dx v) :: (dx, emptyDict) :: (insts ++ base)) F2 (News.sub N2 ?_) (UpdF.head hne') (fun h3 c F3 N3 => ?_)
    · intro p hp
      rcases List.mem_cons.mp hp with rfl | hp
      · exact .tail _ (.tail _ (.head _))
      · rcases List.mem_cons.mp hp with rfl | hp
        · exact .head _
        · rcases List.mem_cons.mp hp with rfl | hp
          · exact .tail _ (.head _)
          · exact .tail _ (.tail _ (.tail _ hp))
    exact keys_loop hs ok okx tp hA hh hfin r (done ++ [v]) (ks ++ [.ref i]) c ((i, instSlot x.a dx v) :: (dx, emptyDict) :: insts) h3 tk2 (by rw [hv]; simp) F3 N3 hk.snoc hne'
theorem key_sort {Q : Value → Shared → Prop} {l : Addr} {vs : List Value} {rows : List Row} (F : Fr h₀ L s.heap m) (N : News h₀ L s.heap news) (hs : ∀ p ∈ x.led w k, p ∈ news) (ok : k.Ok mg) (okx : x.Ok k) (tp : Tops w mg mb h₀) (hoC : k.oC.data = .cell (some (.ref 124)))
    (hA : A.depth + 30 < recursionLimit) (hu : A.units + 60 < cLine) (hh : A.handled = none) (hl : s.heap.IsList l vs.toArray) (hv : DatAll news vs (rows.map rowD)) (hr : ∀ r ∈ rows, r.1.length ≤ 100) (h2 : 2 ≤ rows.length) (h64 : rows.length < 64)
    (h : ∀ D c p h' tk', St (rowLt rows) rows.length p rows.length → Fr h₀ L h' m → News h₀ L h' ((D, listOf (p.toList.map fun i => vs.getD i Value.none).toArray c) :: news) → (∀ q ∈ news, @LT.lt Nat _ q.1 D) → Q (.ref D) { s with heap := h', toks := tk' }) :
    wpAny (model prg w) A (call (.builtin "sorted") [.ref l] [(Str.ofString "key", .ref x.a)]) Q E s := by
  have hlen : vs.length = rows.length := by have := hv.length; rw [List.length_map] at this; exact this
  refine kat_sortedK F N hl (by lia) (by lia) (ksk_s1 _ _) (fun _ => ksk_l1 _ _) (fun _ => ksk_t1 _ _) (fun D kS e1 h1 F1 N1 l0 l1 => ?_)
  have hd1 : A.in1.in1.depth = A.depth := rfl
  refine keys_loop (A := A.in1.in1) (s := s) (base := (D, seqObj "list" #[] e1) :: news) (vs := vs) (fun p hp => .tail _ (hs p hp)) ok okx tp (by rw [hd1]; lia) hh ?_ vs [] [] 0 [] h1 s.toks rfl F1 N1 ⟨rfl, fun i v hi => by simp at hi⟩ ?_
  rotate_left
  · intro p hp
    rw [List.nil_append] at hp
    rcases List.mem_cons.mp hp with rfl | hp
    · exact Nat.ne_of_lt l0
    · exact Nat.ne_of_lt (Nat.lt_trans (l1 p hp) l0)
  intro ks e insts h2' tk2 F2 N2 hk hne
  have hkl : ks.length = rows.length := by rw [hk.1, hlen]
  have item : ∀ i, i < rows.length → KItem x ks insts news (rows.getD i default) i := by
    intro i hi
    refine Classical.byContradiction fun hn1 => ?_
    obtain ⟨v, hvi⟩ : ∃ v, vs[i]? = some v := ⟨_, List.getElem?_eq_getElem (by lia)⟩
    obtain ⟨ii, dx, a1, a2, a3⟩ := hk.2 i v hvi
    obtain ⟨d, hd', hin⟩ := DatAll.at hv hvi
    obtain ⟨r, hr', rfl⟩ : ∃ r, rows[i]? = some r ∧ rowD r = d := by simpa using hd'
    obtain ⟨a, na, t1, t2, t3, rfl, ha⟩ := DatIn.row hin
    refine hn1 ?_
    have er : rows.getD i default = r := by rw [List.getD_eq_getElem?_getD, hr']; rfl
    exact ⟨ii, dx, a, na, t1, t2, t3, by rw [List.getD_eq_getElem?_getD, a1]; rfl, a2, a3, er ▸ ha⟩
  have N2' := N2
  refine kas_kind (T := .ref x.a) (by lia) (fun v hv' => ?_) rfl (by simp) ?_
  · obtain ⟨i, hi, rfl⟩ := List.mem_iff_getElem.mp hv'
    refine Classical.byContradiction fun hn2 => ?_
    obtain ⟨ii, dx, a, na, t1, t2, t3, e1', e2', e3', e4'⟩ := item i (by lia)
    refine hn2 ?_
    rw [List.getD_eq_getElem?_getD, List.getElem?_eq_getElem hi] at e1'
    rw [show ks[i] = .ref ii from e1']
    exact (Looks.ld (part := none) (N2 _ (.tail _ (List.mem_append_left _ e2'))).1).andThen .now
  rw [hlen]
  refine kasWp_of_wpr (lt := rowLt rows) (n := rows.length) (G := fun p => St (rowLt rows) rows.length p rows.length) (I := KSI h₀ L m s ((kS, seqObj "list" ks.toArray e) :: (insts ++ (D, seqObj "list" #[] e1) :: news))) ?_ ?_ (sort_ok (rowLt_weak rows) (by lia)) ⟨h2', tk2, rfl, F2, N2⟩
  · rintro i j C s' hi hj ⟨h', tk', rfl, F', N'⟩ hC
    refine Classical.byContradiction fun hn3 => ?_
    obtain ⟨ii, dx, a, na, t1, t2, t3, i1, i2, i3, i4⟩ := item i hi
    obtain ⟨jj, dy, b, nb, u1, u2, u3, j1, j2, j3, j4⟩ := item j hj
    refine hn3 ?_
    unfold kas_ask katRev
    rw [if_neg Bool.false_ne_true, i1, j1, keyLt'_oneType, oneLt'_eq]
    simp only [if_true]
    have nn : ∀ p ∈ news, p ∈ (kS, seqObj "list" ks.toArray e) :: (insts ++ (D, seqObj "list" #[] e1) :: news) := fun p hp => .tail _ (List.mem_append_right _ (.tail _ hp))
    have ni : ∀ p ∈ insts, p ∈ (kS, seqObj "list" ks.toArray e) :: (insts ++ (D, seqObj "list" #[] e1) :: news) := fun p hp => .tail _ (List.mem_append_left _ hp)
    have XK := KF.in_ (k := k) (x := x) (w := w) N' (fun p hp => nn p (hs p hp))
    have hc2 : (k.c2, k.oc2) ∈ x.led w k := by k_mem
    have hcc : (k.cc, k.oC) ∈ x.led w k := by k_mem
    refine wpAny_bind (wpAny_cRoomFor (by simp only [units_in1]; lia) ?_)
    refine wpAny_bind (ifBound_K (od := some emptyDict) XK ⟨(N' _ (ni _ i2)).1, rfl, rfl, (N' _ (ni _ i3)).1⟩ (kf_lt okx) (kf_f2 ok okx) ?_)
    refine wpAny_call (klt_spec (A := A.in1.in1) (i := ii) (j := jj) (s := { s with heap := h', toks := tk' }) (k := k) (x := x) (r := rows.getD i default) (q := rows.getD j default) (tp.keeps F'.keep) (by rw [hd1]; lia) (by simp only [units_in1]; lia) hh ok okx XK (N' _ (nn _ (hs _ hc2))).1 (N' _ (nn _ (hs _ hcc))).1 hoC
      (N' _ (ni _ i2)).1 (N' _ (ni _ j2)).1 (N' _ (ni _ i3)).1 (N' _ (ni _ j3)).1 (N' _ (nn _ i4)).1 (N' _ (nn _ j4)).1 (hr _ ?_) (hr _ ?_) _ fun v h3 tk3 new hk3 hn hP => ?_)
    · rw [List.getD_eq_getElem?_getD, List.getElem?_eq_getElem hi]; exact List.getElem_mem _
    · rw [List.getD_eq_getElem?_getD, List.getElem?_eq_getElem hj]; exact List.getElem_mem _
    · subst hP
      have kk : Keep h' h3 := fun b o e => hk3 b o (fun q => nomatch q) e
      exact wpAny_truthy_bool (hC _ ⟨h3, tk3, rfl, F'.kept kk, News.kept N' kk⟩)
  · rintro p s' hp ⟨h', tk', rfl, F', N'⟩
    refine KatFin.intro F' N' (UpdF.head hne) (fun h3 c F3 N3 => ?_)
    refine KasFin.intro (news := (D, seqObj "list" #[] e1) :: news) (g := fun o => (D, o) :: news) F3 (News.sub N3 fun q hq => .tail _ (List.mem_append_right _ hq)) (UpdF.head fun q hq => Nat.ne_of_lt (l1 q hq)) (fun h4 c4 F4 N4 => ?_)
    unfold katRev at N4
    rw [if_neg Bool.false_ne_true, if_neg Bool.false_ne_true] at N4
    exact h D c4 p h4 tk' hp F4 N4 l1
end
end Mine
end
section
open PySem PySem.W PyProof.Rows PySem.Calls
set_option maxRecDepth 100000
namespace Mine
noncomputable def nmAt (rows : List Row) (i : Nat) : Str := (rows.getD i default).1
noncomputable def triLt (rows : List Row) (i j : Nat) : Bool := if nmAt rows i = nmAt rows j then decide (i < j) else rowLt rows i j
theorem nameLt_tri {r q : Row} (h : r.1 ≠ q.1) : nameLt r q = true ∨ nameLt q r = true := by
  unfold nameLt pairLt
  by_cases e : (r.1.length : Int) = q.1.length
  · rw [if_pos e, if_neg h, if_pos e.symm, if_neg (fun q => h q.symm)]
    by_cases a : r.1.cps.toList < q.1.cps.toList
    · exact .inl (decide_eq_true a)
    · by_cases b : q.1.cps.toList < r.1.cps.toList
      · exact .inr (decide_eq_true b)
      · refine absurd ?_ h
        have : r.1.cps.toList = q.1.cps.toList := List.le_antisymm (List.not_lt.mp b) (List.not_lt.mp a)
        have h2 : r.1.cps = q.1.cps := Array.toList_inj.mp this
        cases hr : r.1; cases hq : q.1
        rw [hr, hq] at h2
        congr
  · rw [if_neg e, if_neg (fun q => e q.symm)]
    by_cases a : (r.1.length : Int) < q.1.length
    · exact .inl (decide_eq_true a)
    · exact .inr (decide_eq_true (by lia))
theorem rowLt_ne {rows : List Row} {i j : Nat} (h : rowLt rows i j = true) : nmAt rows i ≠ nmAt rows j := fun e => by
  unfold rowLt nameLt at h
  unfold nmAt at e
  rw [e, pairLt_irr] at h
  cases h
theorem rowLt_nm {rows : List Row} {i i' j j' : Nat} (h1 : nmAt rows i = nmAt rows i') (h2 : nmAt rows j = nmAt rows j') : rowLt rows i j = rowLt rows i' j' := by
  unfold rowLt nameLt
  unfold nmAt at h1 h2
  rw [h1, h2]
theorem triLt_weak (rows : List Row) : Weak (triLt rows) := by
  refine ⟨fun i => ?_, fun i j k h1 h2 => ?_, fun i j k h => ?_⟩
  · unfold triLt; rw [if_pos rfl]; exact decide_eq_false (Nat.lt_irrefl i)
  · unfold triLt at *
    by_cases e1 : nmAt rows i = nmAt rows j
    · rw [if_pos e1] at h1
      by_cases e2 : nmAt rows j = nmAt rows k
      · rw [if_pos e2] at h2
        rw [if_pos (e1.trans e2)]
        exact decide_eq_true (Nat.lt_trans (of_decide_eq_true h1) (of_decide_eq_true h2))
      · rw [if_neg e2] at h2
        rw [if_neg (by rw [e1]; exact e2), rowLt_nm e1 rfl]; exact h2
    · rw [if_neg e1] at h1
      by_cases e2 : nmAt rows j = nmAt rows k
      · rw [if_neg (by rw [← e2]; exact e1), rowLt_nm rfl e2.symm]; exact h1
      · rw [if_neg e2] at h2
        have h3 := (rowLt_weak rows).tr i j k h1 h2
        rw [if_neg (rowLt_ne h3)]; exact h3
  · unfold triLt at *
    by_cases e : nmAt rows i = nmAt rows k
    · rw [if_pos e] at h
      have hik := of_decide_eq_true h
      by_cases e1 : nmAt rows i = nmAt rows j
      · rw [if_pos e1, if_pos (e1.symm.trans e)]
        by_cases q : i < j
        · exact .inl (decide_eq_true q)
        · exact .inr (decide_eq_true (by omega))
      · rw [if_neg e1, if_neg (fun q => e1 (e.trans q.symm))]
        rcases nameLt_tri (r := rows.getD i default) (q := rows.getD j default) e1 with a | a
        · exact .inl a
        · refine .inr ?_
          rw [rowLt_nm rfl e.symm]; exact a
    · rw [if_neg e] at h
      by_cases e1 : nmAt rows i = nmAt rows j
      · right
        rw [if_neg (fun q => e (e1.trans q)), ← rowLt_nm e1 rfl]; exact h
      · by_cases e2 : nmAt rows j = nmAt rows k
        · left
          rw [if_neg e1, rowLt_nm rfl e2]; exact h
        · rw [if_neg e1, if_neg e2]
          exact (rowLt_weak rows).co i j k h
theorem triLt_rr {rows : List Row} {i j : Nat} (h : RR (triLt rows) i j) : RR (rowLt rows) i j := by
  unfold RR triLt at *
  by_cases e : nmAt rows i = nmAt rows j
  · rw [if_pos e, if_pos e.symm] at h
    have n1 : rowLt rows j i = false := by
      cases q : rowLt rows j i with
      | false => rfl
      | true => exact absurd e.symm (rowLt_ne q)
    rcases h with h | ⟨-, h⟩
    · exact .inr ⟨n1, of_decide_eq_true h⟩
    · exact .inr ⟨n1, h⟩
  · rw [if_neg e, if_neg (fun q => e q.symm)] at h
    exact h
theorem triLt_st {rows : List Row} {n : Nat} {p : Array Nat} {k : Nat} (h : St (triLt rows) n p k) : St (rowLt rows) n p k :=
  ⟨h.pm, h.pw.imp triLt_rr⟩
noncomputable def keyD (rows : List Row) (i : Nat) : Dat := .tuple [.int ((nmAt rows i).length : Int), .str (nmAt rows i), .int (i : Int)]
section
variable {w : World} {A : Around} {E : Value → Shared → Prop} {s : Shared} {h₀ : Heap} {L : Addr} {m : Str → Option Value} {news : List (Addr × Obj)}
theorem tup_sort {Q : Value → Shared → Prop} {l : Addr} {vs : List Value} {rows : List Row} (F : Fr h₀ L s.heap m) (N : News h₀ L s.heap news)
    (hl : s.heap.IsList l vs.toArray) (hv : DatAll news vs ((List.range rows.length).map (keyD rows))) (h2 : 2 ≤ rows.length) (h64 : rows.length < 64)
    (h : ∀ D c p h' tk', St (triLt rows) rows.length p rows.length → Fr h₀ L h' m → News h₀ L h' ((D, listOf (p.toList.map fun i => vs.getD i Value.none).toArray c) :: news) → (∀ q ∈ news, @LT.lt Nat _ q.1 D) → Q (.ref D) { s with heap := h', toks := tk' }) :
    wpAny (model prg w) A (call (.builtin "sorted") [.ref l]) Q E s := by
  have hlen : vs.length = rows.length := by have := hv.length; rw [List.length_map, List.length_range] at this; exact this
  refine kat_sorted F N hl (by lia) (by lia) (fun D e1 h1 F1 N1 l1 => ?_)
  have item : ∀ i, i < rows.length → ∃ (a : Addr) (na : Nat) (t1 t2 t3 : Tok), vs.getD i Value.none = Value.ref a ∧ (a, ({ cls := .type "tuple", data := .seq #[.int ((nmAt rows i).length : Int) t1, .str (nmAt rows i) t2, .int (i : Int) t3] na } : Obj)) ∈ news := by
    intro i hi
    refine Classical.byContradiction fun hn1 => ?_
    obtain ⟨v, hvi⟩ : ∃ v, vs[i]? = some v := ⟨_, List.getElem?_eq_getElem (by lia)⟩
    obtain ⟨d, hd', hin⟩ := DatAll.at hv hvi
    refine hn1 ?_
    rw [List.getElem?_map, List.getElem?_range hi] at hd'
    obtain rfl := Option.some.inj hd'
    refine Classical.byContradiction fun hn2 => ?_
    obtain ⟨a, na, us, rfl, ha, hus⟩ := DatIn.tupOf hin
    obtain ⟨x, y, z, rfl, z1, z2, z3⟩ := dat3 hus
    refine hn2 ?_
    cases z1; cases z2; cases z3
    exact ⟨a, na, _, _, _, by rw [List.getD_eq_getElem?_getD, hvi]; rfl, ha⟩
  have tups : ∃ fs, KatTups h1 vs fs ∧ fs.length = vs.length ∧ ∀ v ∈ fs, ∃ n t, v = Value.int n t := by
    have key : ∀ (us : List Value) (f : Nat → Nat), (∀ j, j < us.length → us[j]? = some (vs.getD (f j) Value.none) ∧ f j < rows.length) → ∃ fs, KatTups h1 us fs ∧ fs.length = us.length ∧ ∀ v ∈ fs, ∃ n t, v = Value.int n t := by
      intro us
      induction us with
      | nil => intro f _; exact ⟨[], .nil, rfl, fun _ h => nomatch h⟩
      | cons u us ih =>
        intro f hf
        refine Classical.byContradiction fun hn3 => ?_
        obtain ⟨fs, a1, a2, a3⟩ := ih (fun j => f (j + 1)) (fun j hj => by
          have := hf (j + 1) (by simpa using hj)
          simpa using this)
        have h0 := hf 0 (by simp)
        obtain ⟨a, na, t1, t2, t3, e1, e2⟩ := item (f 0) h0.2
        refine hn3 ?_
        have e3 : u = .ref a := by
          have := h0.1
          simp only [List.getElem?_cons_zero, Option.some.injEq] at this
          rw [this, e1]
        subst e3
        refine ⟨.int ((nmAt rows (f 0)).length : Int) t1 :: fs, .cons (N1 _ (.tail _ e2)).1 rfl rfl (by simp) a1, by simp [a2], fun v hv => ?_⟩
        rcases List.mem_cons.mp hv with rfl | hv
        · exact ⟨_, _, rfl⟩
        · exact a3 v hv
    exact key vs id fun j hj => ⟨by rw [List.getD_eq_getElem?_getD]; simp [hj], by show j < rows.length; lia⟩
  refine Classical.byContradiction fun hn4 => ?_
  obtain ⟨fs, tk, tl, ti⟩ := tups
  refine hn4 ?_
  refine kat_kind (T := .type "int") tk (by lia) (fun v hv => ?_) (by simp) ?_
  · obtain ⟨n, t, rfl⟩ := ti v hv
    exact Looks.now
  rw [hlen]
  refine kasWp_of_wpr (lt := triLt rows) (n := rows.length) (G := fun p => St (triLt rows) rows.length p rows.length) (I := fun s' => ∃ h' tk', s' = { s with heap := h', toks := tk' } ∧ Fr h₀ L h' m ∧ News h₀ L h' ((D, seqObj "list" #[] e1) :: news)) ?_ ?_ (sort_ok (triLt_weak rows) (by lia)) ⟨h1, s.toks, rfl, F1, N1⟩
  · rintro i j C s' hi hj ⟨h', tk', rfl, F', N'⟩ hC
    refine Classical.byContradiction fun hn5 => ?_
    obtain ⟨a, na, t1, t2, t3, i1, i2⟩ := item i hi
    obtain ⟨b, nb, u1, u2, u3, j1, j2⟩ := item j hj
    refine hn5 ?_
    unfold kas_ask
    rw [i1, j1]
    have done : ∀ b, b = triLt rows i j → C b { s with heap := h', toks := tk' } := fun b e => by rw [e]; exact hC _ ⟨h', tk', rfl, F', N'⟩
    refine kat_lt (N' _ (.tail _ i2)).1 rfl (N' _ (.tail _ j2)).1 rfl ?_
    show KatLex _ _ _ _ _ _ [(_, _), (_, _), (_, _)] 0 _
    refine kat_cons (wpAny_eqBool_int (kat_go (fun e => kat_yes ?_) (fun e => kat_no ?_)))
    · have e : ((nmAt rows i).length : Int) = (nmAt rows j).length := eq_of_beq e
      refine kat_cons (wpAny_eqBool_str (kat_go (fun e4 => kat_yes ?_) (fun e4 => kat_no ?_)))
      · have e := of_decide_eq_true e4
        refine kat_cons (wpAny_eqBool_int (kat_go (fun e2 => kat_yes (kat_nil ?_)) (fun e2 => kat_no ?_)))
        · have e2 : (i : Int) = j := eq_of_beq e2
          refine done _ ?_
          unfold triLt
          rw [if_pos e]
          exact (decide_eq_false (by simp)).trans (decide_eq_false (by lia)).symm
        · refine kat_one _ _ (PyProof.Rows.lt_int ?_)
          refine done _ ?_
          unfold triLt
          rw [if_pos e]
          simp
      · have e3 := of_decide_eq_false e4
        refine kat_one _ _ (PyProof.Rows.lt_str ?_)
        refine done _ ?_
        unfold triLt rowLt nameLt pairLt
        unfold nmAt at *
        rw [if_neg e3, if_pos e, if_neg e3]
    · have e : ((nmAt rows i).length : Int) ≠ (nmAt rows j).length := ne_of_beq_false e
      refine oneLt_int ?_
      refine done _ ?_
      unfold triLt rowLt nameLt pairLt
      unfold nmAt at *
      rw [if_neg (fun q => e (by rw [q])), if_neg e]
  · rintro p s' hp ⟨h', tk', rfl, F', N'⟩
    refine KasFin.intro (news := (D, seqObj "list" #[] e1) :: news) (g := fun o => (D, o) :: news) F' N' (UpdF.head fun q hq => Nat.ne_of_lt (l1 q hq)) (fun h4 c4 F4 N4 => ?_)
    exact h D c4 p h4 tk' hp F4 N4 l1
end
end Mine
end
section
open PySem PySem.W PyProof.Rows PySem.Calls
set_option maxRecDepth 100000
namespace Mine
theorem Start.tab {mg : Str → Option Value} {led : List (Addr × Obj)} (t : Start mg led) : ∃ ps, (58, tabObj ps) ∈ led := by
  cases t with
  | one => exact ⟨_, .head _⟩
  | two _ _ => exact ⟨_, .head _⟩
theorem NoSeqs.cons {p : Addr × Obj} {l : List (Addr × Obj)} (h : ∀ vs n, p.2.data ≠ .seq vs n) (r : NoSeqs l) : NoSeqs (p :: l) := fun q hq => by
  rcases List.mem_cons.mp hq with rfl | hq
  · exact h
  · exact r q hq
theorem NoSeqs.nil : NoSeqs [] := fun _ hq => nomatch hq
theorem Start.noSeq {mg : Str → Option Value} {led : List (Addr × Obj)} (t : Start mg led) : NoSeqs led := by
  have h0 : ∀ ps vs n, (tabObj ps).data ≠ .seq vs n := fun _ _ _ e => by cases e
  have h1 : ∀ {o q vs n}, CodeKnown o q → o.data ≠ .seq vs n := fun ⟨_, _, a, _⟩ e => by rw [a] at e; cases e
  cases t with
  | one => exact .cons (h0 _) .nil
  | two ok kp => exact .cons (h0 _) (.cons (h0 _) (.cons (fun vs n e => by obtain ⟨us, _, _, _, _, _, _, _, _, hd9, _⟩ := kp.hK; rw [hd9] at e; cases e) (.cons (fun _ _ => h1 ok.hc1) (.cons (fun _ _ => h1 ok.hc2) .nil))))
theorem seq_keep {g h : Heap} {L a : Addr} {ns led : List (Addr × Obj)} {o : Obj} {us : Array Value} {n : Nat} (N : News g L h ns) (hl : ∀ p ∈ led, p ∈ ns) (hns : NoSeqs led) (hm : (a, o) ∈ ns) (hd : o.data = .seq us n) : a ∉ led.map (·.1) := fun q => by
  obtain ⟨z, hz, e⟩ := List.mem_map.mp q
  have x1 := (N z (hl z hz)).1
  have x2 := (N _ hm).1
  rw [show z.1 = a from e, x2] at x1
  exact hns z hz us n (by rw [← Option.some.inj x1]; exact hd)
theorem DatAll.pick {news : List (Addr × Obj)} {vs : List Value} {rows : List Row} (hv : DatAll news vs (rows.map rowD)) : ∀ js : List Nat, (∀ j ∈ js, j < rows.length) → DatAll news (js.map fun i => vs.getD i Value.none) (js.map fun j => rowD (rows.getD j default))
  | [], _ => .nil
  | j :: js, h => by
    refine .cons ?_ (DatAll.pick hv js fun i hi => h i (.tail _ hi))
    have hj := h j (.head _)
    have hlen := hv.length
    rw [List.length_map] at hlen
    have hvj : vs[j]? = some vs[j] := List.getElem?_eq_getElem (by omega)
    refine Classical.byContradiction fun hn1 => ?_
    obtain ⟨d, hd', hin⟩ := DatAll.at hv hvj
    obtain ⟨r, hr', rfl⟩ : ∃ r, rows[j]? = some r ∧ rowD r = d := by simpa using hd'
    refine hn1 ?_
    show DatIn news (vs.getD j Value.none) (rowD (rows.getD j default))
    rw [List.getD_eq_getElem?_getD, List.getD_eq_getElem?_getD, hvj, hr']
    exact hin
noncomputable def lawFor2 : List Stmt := forBody (stmtsAt 18)[4]?
inductive KeyJ (L : Addr) (oc : Obj) (tl : List (Addr × Obj)) (rows : List Row) (i : Nat) (ys : List Value) (nx : List (Addr × Obj)) : Prop
  | mk (tl' : List (Addr × Obj)) (e : nx = (L + 1, oc) :: tl') (off : OwnOff tl' [L + 1]) (sub : ∀ p ∈ tl, p ∈ tl') (h : DatAll tl' ys ((List.range i).map (keyD rows))) : KeyJ L oc tl rows i ys nx
set_option maxHeartbeats 1000000 in
theorem law_turn2 {w : World} {Q : Flow → Shared → Prop} {hp g : Heap} {gs : Array GenState} {d : Drawn} {tk : Nat} {os : OsState} {L fa le : Addr} {cd : Value} {m : Str → Option Value} {vs : List Value} {ne : Nat} {oc : Obj} {tl led : List (Addr × Obj)} {rows : List Row} {mean : ExcName → Option Value} {mg mb : Str → Option Value}
    (tp9 : Tops9 w mean mg mb g) (B0 : Below callerA g [] g) (F : Fr g L hp m) (N : News g L hp ([(L + 1, oc)] ++ tl)) (off : OwnOff tl [L + 1]) (hoc : oc.data = .cell (some (.ref le)))
    (t : Start mg led) (hl : ∀ p ∈ led, p ∈ tl) (hle : (le, W.listOf vs.toArray ne) ∈ tl) (hv : DatAll tl vs (rows.map rowD)) (h2 : 2 ≤ rows.length) (h64 : rows.length < 64) (hrs : ∀ r ∈ rows, r.1.length ≤ 100) (hok : ∀ r ∈ rows, rowOk r)
    (cont : ∀ h' tk' m' tl' led', Fr g L h' m' → News g L h' ([(L + 1, oc)] ++ tl') → OwnOff tl' [L + 1] → Start mg led' → (∀ p ∈ led', p ∈ tl') → (∀ p ∈ tl, p.1 ∉ led.map (·.1) → p ∈ tl') → (∀ vs ds, DatAll tl vs ds → DatAll tl' vs ds) → (∀ y, y ≠ S "order" → m' y = m y) → (∀ p ∈ led', p.1 ∈ led.map (·.1) ∨ ∀ q ∈ tl, q.1 ≠ p.1) → Q .next ⟨h', gs, d, tk', os⟩) :
    wpAny (model prg w) (callerA.deeper (lawEnv L fa cd)) (execs lawFor2 (lawEnv L fa cd)) Q NoE ⟨hp, gs, d, tk, os⟩ := by
  have o1 : On "call ref" := ⟨⟩
  have o2 : On "compareOp NotEq ref ref" := ⟨⟩
  have o3 : On "eval ListComp" := ⟨⟩
  have o5 : On "CompSrc" := ⟨⟩
  have o6 : On "call builtin:sorted" := ⟨⟩
  have o7 : On "call builtin:len" := ⟨⟩
  have o8 : On "subscriptTail Name Name ref int" := ⟨⟩
  have o9 : On "subscriptTail Name Subscript ref int" := ⟨⟩
  have e : lawFor2 = lawFor2 := rfl
  conv at e => rhs; whnf
  rw [e]
  clear e
  refine Classical.byContradiction fun hn1 => ?_
  obtain ⟨X, T⟩ := id tp9.tops
  refine hn1 ?_
  have T9 := tp9.T9
  dsimp only [List.cons_append, List.nil_append] at N
  walk_at "steps"
  have hlen := hv.length
  rw [List.length_map] at hlen
  refine Hold.mk (LCg.ListComp_U (F₀ := F) (by with_unfolding_all rfl) (by decide) (by rfl) (by decide) (by rfl) ?_)
  have N9 := News.sub N (l' := (le, W.listOf vs.toArray ne) :: (L + 1, oc) :: tl) (fun p hp => by
    rcases List.mem_cons.mp hp with rfl | hp
    · exact .tail _ hle
    · exact hp)
  clear N
  walk_at "steps"
  refine Hold.mk ?_
  refine len_vs (by kmk_list) (by assumption) (by omega) ?_
  clear o7
  walk_at "steps"
  rename IsRange _ _ _ _ _ _ _ _ => hr
  (rename Fr _ _ _ _ => F'); (rename News _ _ _ _ => N')
  refine Hold.mk ?_
  refine LCg.CompSrc.range (n := rows.length) (by rfl) F' (News.sub N' (l' := (L + 1, oc) :: tl) (fun p hp => .tail _ hp)) hr (range_small _ (by lia)) (range_size _) (by unfold sizeLine; lia) (fun g' => ?_)
  dsimp only
  refine comp_inv (KeyJ L oc tl rows) ⟨tl, rfl, off, fun _ h => h, .nil⟩ ?turn ?done
  case turn =>
    clear F' N' hr
    rintro i ys nx v I oI C' oC D m₂ h tk E' hi ⟨tl', rfl, off', sub', hys⟩ ⟨t, rfl⟩ hC hx F N offT neT
    rw [show (0 + (i : Int)) = (i : Int) by lia] at hx
    refine Classical.byContradiction fun hn2 => ?_
    obtain ⟨u, hvi⟩ : ∃ u, vs[i]? = some u := ⟨_, List.getElem?_eq_getElem (by lia)⟩
    obtain ⟨dd, hdd, hin⟩ := DatAll.at hv hvi
    obtain ⟨r, hr', rfl⟩ : ∃ r, rows[i]? = some r ∧ rowD r = dd := by simpa using hdd
    obtain ⟨ea, na, t1, t2, t3, rfl, hea⟩ := DatIn.row hin
    refine hn2 ?_
    have er : rows.getD i default = r := by rw [List.getD_eq_getElem?_getD, hr']; rfl
    have hrl := hrs r (List.mem_of_getElem? hr')
    replace N := News.sub N (l' := (ea, { cls := .type "tuple", data := .seq #[.str r.1 t1, .str r.2.1 t2, .str r.2.2 t3] na }) :: (le, W.listOf vs.toArray ne) :: (I, oI) :: (C', oC) :: (D, LCg.lst ys) :: (L + 1, oc) :: tl') (List.forall_mem_cons.mpr ⟨.tail _ (.tail _ (.tail _ (.tail _ (sub' _ hea)))), List.forall_mem_cons.mpr ⟨.tail _ (.tail _ (.tail _ (.tail _ (sub' _ hle)))), fun _ hp => hp⟩⟩)
    dsimp only
    refine hideQ fun Q0 hQ0 => ?_
    walk_at "steps"
    refine Hold.mk ?_
    refine item_vs (by kmk_list) (by assumption) (by omega) ?_
    walk_at "steps"
    refine Hold.mk ?_
    refine item_vs (by kmk_list) (by assumption) (by omega) ?_
    walk_at "steps"
    (rename Fr _ _ _ _ => F2); (rename News _ _ _ _ => N2)
    rename _ ∧ _ => l3
    rename_i D2 _
    refine Classical.byContradiction fun hn3 => ?_
    obtain ⟨tn, N2⟩ : ∃ tn, News g L _ ((D2, { cls := Value.type "tuple", data := Data.seq #[Value.int (r.1.length : Int) tn, Value.str r.1 t1, Value.int (i : Int) t] }) :: (ea, { cls := .type "tuple", data := .seq #[.str r.1 t1, .str r.2.1 t2, .str r.2.2 t3] na }) :: (le, W.listOf vs.toArray ne) :: (I, oI) :: (C', oC) :: (D, LCg.lst ys) :: (L + 1, oc) :: tl') := ⟨_, N2⟩
    refine hn3 ?_
    have eri : nmAt rows i = r.1 := by unfold nmAt; rw [er]
    refine hQ0 _ _ (LCg.CompEnd.intro F2 N2 ((L + 1, oc) :: (D2, { cls := Value.type "tuple", data := Data.seq #[Value.int (r.1.length : Int) tn, Value.str r.1 t1, Value.int (i : Int) t] }) :: tl') (by walk_at "mem_all") ⟨⟨?_, ?_, ?_⟩, ⟨?_, ?_, ?_⟩, offT.2⟩ trivial ⟨_, rfl, off_cons (fun b hb => ?_) off', fun p hp => .tail _ (sub' p hp), ?_⟩)
    · exact offT.1.1
    · exact offT.1.2.1
    · exact offT.1.2.2
    · exact Nat.ne_of_gt l3.2.2.1
    · exact Nat.ne_of_gt l3.2.2.2.1
    · exact Nat.ne_of_gt l3.2.2.2.2.1
    · rw [List.mem_singleton.mp hb]
      exact Nat.ne_of_gt l3.2.2.2.2.2.1
    · rw [List.range_succ, List.map_append]
      refine DatAll.append (DatAll.mono (fun p hp => .tail _ hp) hys) (.cons ?_ .nil)
      unfold keyD
      rw [eri]
      exact .tuple (vs := [_, _, _]) (.head _) (.cons (.int _ _) (.cons (.str _ _) (.cons (.int _ _) .nil)))
  case done =>
    rintro ys nx ⟨tl', rfl, off', sub', hys⟩ D h tk F N offD
    clear F' N' hr
    walk_at "steps"
    refine Hold.mk (tup_sort (s := ⟨_, _, _, _, _⟩) (vs := ys) (rows := rows) F N ⟨_, (N _ (.head _)).1, rfl, _, rfl⟩ (DatAll.mono (fun p hp => .tail _ (.tail _ hp)) hys) h2 h64 (fun D2 c2 p1 h1 tk1 st1 F1 N1 l1 => ?_))
    clear F N
    dsimp only
    walk_at "steps"
    (rename Fr _ _ _ _ => F2); (rename News _ _ _ _ => N2)
    have offD' : ∀ z, (z = L + 1 → @Ne Nat D z) := fun z e => by rw [e]; exact Ne.symm offD.1
    have off2 : OwnOff ((D2, W.listOf (List.map (fun i => ys.getD i Value.none) p1.toList).toArray c2) :: (D, LCg.lst ys) :: tl') [L + 1] := off_cons (fun b hb => by rw [List.mem_singleton.mp hb]; exact Nat.ne_of_gt (l1 _ (.tail _ (.head _)))) (off_cons (fun b hb => offD' b (List.mem_singleton.mp hb)) off')
    refine Classical.byContradiction fun hn4 => ?_
    obtain ⟨g', tg', Bg, lx⟩ := ground9 (A := callerA.deeper (lawEnv L fa cd)) (s := ⟨_, gs, d, 0, os⟩) (env := lawEnv L fa cd) (led := led) tp9 B0 F2 N2 rfl rfl (by kernel_rfl) (fun p hp => .tail _ (.tail _ (.tail _ (sub' p (hl p hp)))))
    refine hn4 ?_
    refine Hold.mk (call_T (front := [(L + 1, oc)]) (tl := (D2, W.listOf (List.map (fun i => ys.getD i Value.none) p1.toList).toArray c2) :: (D, LCg.lst ys) :: tl') (led := led) F2 (News.sub N2 (show ∀ p ∈ (L + 1, oc) :: (D2, _) :: (D, _) :: tl', p ∈ _ from by walk_at "mem_all")) off2 (fun p hp => .tail _ (.tail _ (sub' p (hl p hp)))) t.noSeq (key_spec (env0 := lawEnv L fa cd) t tg' lx Bg) (fun v3 h3 tk3 new3 tl3 F4 N4 off3 hP3 a3 b3 c3 d3 e3 => ?_))
    have nd2 := seq_keep N2 (led := led) (fun p hp => .tail _ (.tail _ (.tail _ (sub' p (hl p hp))))) t.noSeq (.head _) rfl
    have nle := seq_keep N2 (led := led) (a := le) (fun p hp => .tail _ (.tail _ (.tail _ (sub' p (hl p hp))))) t.noSeq (.tail _ (.tail _ (.tail _ (sub' _ hle)))) rfl
    refine Classical.byContradiction fun hn5 => ?_
    obtain ⟨k, x, rfl, ok, okx, kp, hoC, rfl⟩ := hP3
    refine hn5 ?_
    dsimp only [List.cons_append, List.nil_append, List.map_cons, List.map_nil] at N4 off3
    clear F2 N2
    dsimp only
    walk_at "steps"
    have kd2 := b3 (D2, W.listOf (List.map (fun i => ys.getD i Value.none) p1.toList).toArray c2) (.head _)
    have kle := b3 (le, W.listOf vs.toArray ne) (.tail _ (.tail _ (sub' _ hle)))
    have hv3 : DatAll tl3 vs (rows.map rowD) := d3 _ _ (DatAll.mono (fun p hp => .tail _ (.tail _ (sub' p hp))) hv)
    have hy3 : DatAll tl3 ys ((List.range rows.length).map (keyD rows)) := d3 _ _ (DatAll.mono (fun p hp => .tail _ (.tail _ hp)) hys)
    replace kd2 := kd2 nd2
    replace kle := kle nle
    refine Hold.mk (key_sort (s := ⟨_, _, _, _, _⟩) (vs := vs) (rows := rows) F4 N4 (fun p hp => .tail _ (a3 p hp)) ok okx tp9.tops hoC (by k_room) (by simp only [units_deeper]; decide) rfl ⟨_, (N4 _ (.tail _ kle)).1, rfl, _, rfl⟩ (DatAll.mono (fun p hp => .tail _ hp) hv3) hrs h2 h64 (fun D3 c4 p2 h4 tk4 st2 F5 N5 l5 => ?_))
    clear F4 N4
    dsimp only
    walk_at "steps"
    obtain rfl : p2 = p1 := St.same (rowLt_weak rows) st2 st1 (fun i j _ _ h => triLt_rr h)
    have hpn : ∀ j ∈ p2.toList, j < rows.length := fun j hj => List.mem_range.mp (st1.pm.mem_iff.mp hj)
    have hpl : p2.toList.length = rows.length := by have := st1.pm.length_eq; rw [List.length_range] at this; exact this
    refine Hold.mk (LCg.ListComp_U (F₀ := F5) (by with_unfolding_all rfl) (by decide) (by rfl) (by decide) (by rfl) ?_)
    walk_at "steps"
    refine Hold.mk ?_
    refine LCg.CompSrc.ledger (by rfl) F5 N5 (.tail _ (.tail _ kd2)) (by rw [List.size_toArray, List.length_map]; unfold sizeLine; lia) (fun g9 => ?_)
    refine comp_inv (fun i us nx => nx = (D3, W.listOf (List.map (fun i => vs.getD i Value.none) p2.toList).toArray c4) :: (L + 1, oc) :: tl3 ∧ us = (p2.toList.take i).map fun j => vs.getD j Value.none) ⟨rfl, rfl⟩ ?turn ?done
    case turn =>
      rintro i us nx v I oI C' oC D9 m₂ h tk E' hi ⟨rfl, rfl⟩ hvi hC hx F N offT neT
      rw [List.size_toArray, List.length_map] at hi
      have hji : p2.toList[i]? = some p2.toList[i] := List.getElem?_eq_getElem hi
      generalize p2.toList[i] = j at hji
      have hj := hpn j (List.mem_of_getElem? hji)
      have hvi' : v = ys.getD j Value.none := by
        rw [List.getElem?_toArray, List.getElem?_map, hji] at hvi
        exact (Option.some.inj hvi).symm
      have hyl : ys.length = rows.length := by have := hys.length; rw [List.length_map, List.length_range] at this; exact this
      have hyj : ys[j]? = some ys[j] := List.getElem?_eq_getElem (by lia)
      rw [List.getD_eq_getElem?_getD, hyj] at hvi'
      refine Classical.byContradiction fun hn6 => ?_
      obtain ⟨dd, hdd, hin⟩ := DatAll.at hy3 hyj
      refine hn6 ?_
      rw [List.getElem?_map, List.getElem?_range hj] at hdd
      obtain rfl := Option.some.inj hdd
      refine Classical.byContradiction fun hn7 => ?_
      obtain ⟨ea, na, us9, hea', hea, hus⟩ := DatIn.tupOf hin
      obtain ⟨x1, x2, x3, rfl, z1, z2, z3⟩ := dat3 hus
      obtain ⟨tj, rfl⟩ : ∃ t, x3 = .int (j : Int) t := by cases z3; exact ⟨_, rfl⟩
      refine hn7 ?_
      obtain rfl : v = .ref ea := hvi'.trans hea'
      refine Classical.byContradiction fun hn8 => ?_
      obtain ⟨u, hvu⟩ : ∃ u, vs[j]? = some u := ⟨_, List.getElem?_eq_getElem (by lia)⟩
      refine hn8 ?_
      replace N := News.sub N (l' := (ea, { cls := .type "tuple", data := .seq #[x1, x2, .int (j : Int) tj] na }) :: (le, W.listOf vs.toArray ne) :: (I, oI) :: (C', oC) :: (D9, LCg.lst ((p2.toList.take i).map fun j => vs.getD j Value.none)) :: (D3, W.listOf (List.map (fun i => vs.getD i Value.none) p2.toList).toArray c4) :: (L + 1, oc) :: tl3) (List.forall_mem_cons.mpr ⟨.tail _ (.tail _ (.tail _ (.tail _ (.tail _ hea)))), List.forall_mem_cons.mpr ⟨.tail _ (.tail _ (.tail _ (.tail _ (.tail _ kle)))), fun _ hp => hp⟩⟩)
      dsimp only
      refine hideQ fun Q0 hQ0 => ?_
      walk_at "steps"
      refine Hold.mk ?_
      refine item_vs (by kmk_list) (by assumption) (by omega) ?_
      walk_at "steps"
      refine hQ0 _ _ (LCg.CompEnd.intro F N ((D3, W.listOf (List.map (fun i => vs.getD i Value.none) p2.toList).toArray c4) :: (L + 1, oc) :: tl3) (fun p hp => .tail _ (.tail _ hp)) offT (.inr ⟨_, .tail _ (.tail _ kd2), rfl, _, rfl⟩) ⟨rfl, ?_⟩)
      rw [List.take_add_one, hji, List.map_append]
      simp only [Option.toList_some, List.map_cons, List.map_nil]
      rw [List.getD_eq_getElem?_getD, hvu]
      rfl
    case done =>
      rintro us nx ⟨rfl, rfl⟩ D9 h tk F N offD
      clear F5 N5
      dsimp only
      walk_at "steps"
      have tk : List.take (List.map (fun i => ys.getD i Value.none) p2.toList).toArray.size p2.toList = p2.toList := List.take_of_length_le (by rw [List.size_toArray, List.length_map]; exact Nat.le_refl _)
      rw [tk] at N
      have pick := DatAll.pick hv3 p2.toList hpn
      have okd : ∀ d ∈ p2.toList.map fun j => rowD (rows.getD j default), kqdOk 8 d = true := fun d hd => by
        refine Classical.byContradiction fun hn9 => ?_
        obtain ⟨j, hj, rfl⟩ := List.mem_map.mp hd
        refine hn9 ?_
        have hj' := hpn j hj
        refine rowD_ok (hok _ ?_)
        rw [List.getD_eq_getElem?_getD, List.getElem?_eq_getElem hj']
        exact List.getElem_mem _
      refine Hold.mk (kqd_ne N (.tail _ (.head _)) rfl rfl pick (fun p hp => .tail _ (.tail _ (.tail _ hp))) (.head _) rfl rfl pick (fun p hp => .tail _ (.tail _ (.tail _ hp))) okd okd (by simp only [units_deeper]; decide) ?_)
      rw [not_decide_self]
      walk_at "steps"
      have m0 : ∀ p ∈ k.tabs, p ∈ x.led w k := fun p hp => .tail _ (.tail _ (.tail _ (.tail _ (.tail _ (.tail _ hp)))))
      refine cont _ _ _ tl3 _ F (News.sub N (fun p hp => .tail _ (.tail _ hp))) off3 (.two ok kp) (fun p hp => a3 p (m0 p hp)) (fun p hp hn => b3 p (.tail _ (.tail _ (sub' p hp))) hn) (fun us ds hd => d3 us ds (DatAll.mono (fun p hp => .tail _ (.tail _ (sub' p hp))) hd)) (fun y hy => if_neg hy) (fun p hp => ?_)
      rcases e3 p (m0 p hp) with z | z
      · exact .inl z
      · exact .inr fun q hq => z q (.tail _ (.tail _ (sub' q hq)))
end Mine
end
section
open PySem PySem.W PyProof.Rows PySem.Calls
set_option maxRecDepth 100000
namespace Mine
noncomputable def lawFor2S : Stmt := stmtOf (stmtsAt 18)[4]?
noncomputable def sidesD (sides : List (List Row)) : List Dat := sides.map fun r => .list (r.map rowD)
inductive For2J (mg : Str → Option Value) (L lt lr : Addr) (tabs V : List Value) (sides : List (List Row)) (kp : List (Addr × Obj)) (i : Nat) (m : Str → Option Value) (nx : List (Addr × Obj)) : Prop
  | mk (oc : Obj) (tl led : List (Addr × Obj)) (e : nx = [(L + 1, oc)] ++ tl) (off : OwnOff tl [L + 1]) (hoc : ∃ v, oc.data = .cell v) (st : Start mg led) (hl : ∀ p ∈ led, p ∈ tl) (hkp : ∀ p ∈ kp, p ∈ tl) (hko : OwnOff kp (led.map (·.1))) (ht : DatAll tl tabs (sidesD sides)) (hv : DatAll tl V (sidesD sides)) (e1 : m (S "tables") = some (.ref lt)) (e2 : m (S "rows") = some (.ref lr)) : For2J mg L lt lr tabs V sides kp i m nx
set_option maxHeartbeats 1000000 in
theorem law_for2 {w : World} {Q : Flow → Shared → Prop} {hp g : Heap} {gs : Array GenState} {d : Drawn} {tk : Nat} {os : OsState} {L fa lr lt : Addr} {cd : Value} {m : Str → Option Value} {oc : Obj} {tl kp : List (Addr × Obj)} {sides : List (List Row)} {tabs V : List Value} {nr : Nat} {mean : ExcName → Option Value} {mg mb : Str → Option Value}
    (tp9 : Tops9 w mean mg mb g) (B0 : Below callerA g [] g) (F : Fr g L hp m) (N : News g L hp ([(L + 1, oc)] ++ tl)) (off : OwnOff tl [L + 1]) (hoc : ∃ v, oc.data = .cell v) (hl : (58, tabObj #[]) ∈ tl) (hkp : ∀ p ∈ kp, p ∈ tl) (hk58 : ∀ p ∈ kp, p.1 ≠ 58)
    (m1 : m (S "tables") = some (.ref lt)) (m2 : m (S "rows") = some (.ref lr)) (hlr : (lr, W.listOf V.toArray nr) ∈ kp) (ht : DatAll tl tabs (sidesD sides)) (hv : DatAll tl V (sidesD sides))
    (hs : ∀ r ∈ sides, 2 ≤ r.length ∧ r.length < 64 ∧ ∀ x ∈ r, x.1.length ≤ 100 ∧ rowOk x)
    (k : ∀ h' tk' m' oc' tl' led', Fr g L h' m' → News g L h' ([(L + 1, oc')] ++ tl') → OwnOff tl' [L + 1] → Start mg led' → (∀ p ∈ led', p ∈ tl') → (∀ p ∈ kp, p ∈ tl') → DatAll tl' tabs (sidesD sides) → DatAll tl' V (sidesD sides) → m' (S "tables") = some (.ref lt) → m' (S "rows") = some (.ref lr) → Q .next ⟨h', gs, d, tk', os⟩) :
    wpAny (model prg w) (callerA.deeper (lawEnv L fa cd)) (exec lawFor2S (lawEnv L fa cd)) Q NoE ⟨hp, gs, d, tk, os⟩ := by
  have o1 : On "call ref" := ⟨⟩
  have o2 : On "execs cons" := ⟨⟩
  have o3 : On "pyIter ref" := ⟨⟩
  refine Classical.byContradiction fun hn1 => ?_
  obtain ⟨X, T⟩ := id tp9.tops
  refine hn1 ?_
  replace F := Fr.know F m2
  have e : lawFor2S = lawFor2S := rfl
  conv at e => rhs; whnf
  rw [e]
  clear e
  refine wpAny_For ?_ (by intro _; rfl)
  walk_at "steps"
  refine Hold.mk ?_
  have hlr' := hkp _ hlr
  refine iter_list' (For2J mg L lt lr tabs V sides kp) rfl (items := V.toArray) ⟨_, (N _ (List.mem_append_right _ hlr')).1, rfl, _, rfl⟩ (fun q => (N _ (List.mem_append_right [_] hlr')).2.1 q) (.inr ⟨W.listOf V.toArray nr, ?hwh⟩) ?hgo F N ⟨oc, tl, _, rfl, off, hoc, .one, (fun p hp => by rw [List.mem_singleton.mp hp]; exact hl), hkp, (fun p hp b hb => by rw [List.mem_singleton.mp hb]; exact hk58 p hp), ht, hv, (if_neg (by decide)).trans m1, rfl⟩ ?turn ?done
  case hwh =>
    rintro i m nx ⟨oc, tl, led, rfl, -, -, -, -, h, -⟩
    exact List.mem_append_right _ (h _ hlr)
  case hgo =>
    intro I i s' v Q' hv hit hq
    exact wpAny_pure hq
  case turn =>
    rintro i v m₁ nx h tk own hvi ⟨oc, tl, led, rfl, off, ⟨v0, hoc⟩, t, hl, hkp, hko, ht, hv, e1, e2⟩ hoff hns F₁ N₁
    have hlen := hv.length
    unfold sidesD at hlen
    rw [List.length_map] at hlen
    have hi : i < V.length := (List.getElem?_eq_some_iff.mp (show V[i]? = some v by simpa using hvi)).1
    refine Classical.byContradiction fun hn2 => ?_
    obtain ⟨dv, hdv, hin⟩ := DatAll.at hv (i := i) (by simpa using hvi)
    refine hn2 ?_
    unfold sidesD at hdv
    rw [List.getElem?_map] at hdv
    refine Classical.byContradiction fun hn3 => ?_
    obtain ⟨r, hr, rfl⟩ : ∃ r, sides[i]? = some r ∧ Dat.list (r.map rowD) = dv := by
      cases q : sides[i]? with
      | none => rw [q] at hdv; cases hdv
      | some r => rw [q] at hdv; exact ⟨r, rfl, Option.some.inj hdv⟩
    obtain ⟨hr1, hr2, hr3⟩ := hs r (List.mem_of_getElem? hr)
    obtain ⟨le, ne, vs, rfl, hle, hvs⟩ := DatIn.listOf hin
    refine hn3 ?_
    have hoL : OwnOff own (led.map (·.1)) := fun p hp b hb => by
      refine Classical.byContradiction fun hn4 => ?_
      obtain ⟨z, hz, rfl⟩ := List.mem_map.mp hb
      refine hn4 ?_
      exact OwnOff.right (l1 := [(L + 1, oc)]) hoff p hp _ (List.mem_map_of_mem (hl z hz))
    have hoT : OwnOff (tl ++ own) [L + 1] := OwnOff.app off (OwnOff.left (l1 := [(L + 1, oc)]) hoff)
    rw [List.append_assoc] at N₁
    dsimp only [List.cons_append, List.nil_append] at N₁
    walk_at "steps"
    (rename Fr _ _ _ _ => F2); (rename News _ _ _ _ => N2)
    rename _ = Data.cell (some (Value.ref le)) => hoc2
    refine Hold.mk (law_turn2 (rows := r) (vs := vs) (ne := ne) (tl := tl ++ own) (led := led) tp9 B0 F2 N2 hoT hoc2 t (fun p hp => List.mem_append_left _ (hl p hp)) (List.mem_append_left _ hle) (DatAll.mono (fun p hp => List.mem_append_left _ hp) hvs) hr1 hr2 (fun x hx => (hr3 x hx).1) (fun x hx => (hr3 x hx).2) (fun h' tk' m' tl' led' F3 N3 off' t' hl' keepT cA ag fr => ?_))
    have ownT : ∀ p ∈ own, p ∈ tl' := fun p hp => keepT p (List.mem_append_right _ hp) (fun q => by
      refine Classical.byContradiction fun hn5 => ?_
      obtain ⟨z, hz, e⟩ := List.mem_map.mp q
      refine hn5 ?_
      exact hoL p hp z.1 (List.mem_map_of_mem hz) e.symm)
    have dropOwn : ∀ p ∈ tl', (∀ vs n, p.2.data ≠ .seq vs n) ∨ p ∈ rm (own.map (·.1)) tl' := fun p hp => by
      by_cases hq : p.1 ∈ own.map (·.1)
      · obtain ⟨z, hz, e⟩ := List.mem_map.mp hq
        have x1 := (N3 z (List.mem_append_right _ (ownT z hz))).1
        have x2 := (N3 p (List.mem_append_right _ hp)).1
        rw [show z.1 = p.1 from e, x2] at x1
        rw [Option.some.inj x1]
        exact .inl (hns z hz)
      · exact .inr (mem_rm.mpr ⟨hp, hq⟩)
    rename Obj => o9
    have offO : OwnOff own (([(L + 1, o9)] ++ rm (own.map (·.1)) tl').map (·.1)) := fun p hp b hb => by
      rw [List.map_append] at hb
      rcases List.mem_append.mp hb with hb | hb
      · exact off' p (ownT p hp) b hb
      · obtain ⟨z, hz, rfl⟩ := List.mem_map.mp hb
        exact fun e => (mem_rm.mp hz).2 (e ▸ List.mem_map_of_mem hp)
    refine TurnEnd.mk (nx := [(L + 1, o9)] ++ rm (own.map (·.1)) tl') F3 N3 (fun p hp => ?_) (fun p hp => List.mem_append_right _ (ownT p hp)) ⟨⟨o9, _, led', rfl, fun p hp => off' p (mem_rm.mp hp).1, ⟨_, hoc2⟩, t', fun p hp => mem_rm.mpr ⟨hl' p hp, fun q => ?_⟩, fun p hp => mem_rm.mpr ⟨keepT p (List.mem_append_left _ (hkp p hp)) (fun q => hko p hp _ q rfl), fun q => ?_⟩, fun p hp b hb e => ?_, ?_, ?_, (ag _ (by decide)).trans e1, (ag _ (by decide)).trans e2⟩, offO⟩
    · rcases List.mem_append.mp hp with hp | hp
      · exact List.mem_append_left _ hp
      · exact List.mem_append_right _ (mem_rm.mp hp).1
    · obtain ⟨z, hz, e⟩ := List.mem_map.mp q
      rcases fr p hp with y | y
      · obtain ⟨u, hu, e2⟩ := List.mem_map.mp y
        exact hoL z hz u.1 (List.mem_map_of_mem hu) (e.trans e2.symm)
      · exact y z (List.mem_append_right _ hz) e
    · obtain ⟨z, hz, e⟩ := List.mem_map.mp q
      exact OwnOff.right (l1 := [(L + 1, oc)]) hoff z hz p.1 (List.mem_map_of_mem (hkp p hp)) e
    · obtain ⟨z, hz, rfl⟩ := List.mem_map.mp hb
      rcases fr z hz with y | y
      · exact hko p hp z.1 y e
      · exact y p (List.mem_append_left _ (hkp p hp)) e
    · exact DatAll.drop dropOwn (cA _ _ (DatAll.mono (fun p hp => List.mem_append_left _ hp) ht))
    · exact DatAll.drop dropOwn (cA _ _ (DatAll.mono (fun p hp => List.mem_append_left _ hp) hv))
  case done =>
    rintro m₁ nx h tk ⟨oc, tl, led, rfl, off, hoc, t, hl, hkp, hko, ht, hv, e1, e2⟩ F₁ N₁
    exact k _ _ _ _ _ _ F₁ N₁ off t hl hkp ht hv e1 e2
end Mine
end
section
open PySem PySem.W PyProof.Rows PySem.Calls
set_option maxRecDepth 100000
namespace Mine
section
variable {w : World} {A : Around} {E : Value → Shared → Prop} {s : Shared} {g : Heap} {L : Addr} {m : Str → Option Value} {tl led : List (Addr × Obj)} {f : Addr} {args : List Value} {P : Value → List (Addr × Obj) → Prop} {o0 : Obj} {mg mb : Str → Option Value}
theorem fr_none {h : Heap} (F : Fr g L h m) : g.get? L = none := Heap.get?_none_of_le F.above
theorem kd_rmL {h : Heap} {new : List (Addr × Obj)} {sl : Array (Option Value)} (hd : ∃ es ep, o0.data = .dict es ep) (hu : ∀ p ∈ new, h.get? p.1 = some p.2) (hsl : (L, { o0 with slots := sl }) ∈ new) : ∀ p ∈ new, (∀ vs n, p.2.data ≠ .seq vs n) ∨ p ∈ rm [L] new := fun p hp => by
  by_cases hq : p.1 = L
  · obtain ⟨es, ep, hd⟩ := hd
    have e1 := hu p hp
    have e2 := hu _ hsl
    rw [hq] at e1
    rw [e1] at e2
    rw [Option.some.inj e2]
    exact .inl fun vs n q => by
      have q : o0.data = .seq vs n := q
      rw [hd] at q; cases q
  · exact .inr (mem_rm.mpr ⟨hp, fun q => hq (List.mem_singleton.mp q)⟩)
theorem ground_F (tp : Tops w mg mb g) (F : Fr g L s.heap m) (N : News g L s.heap tl) (hL : s.heap.get? L = some o0) (hl : ∀ p ∈ led, p ∈ tl) :
    Tops w mg mb (hideAll s.heap (L :: led.map (·.1))) ∧ LedIn (hideAll s.heap (L :: led.map (·.1))) s.heap ((L, o0) :: led) := by
  refine ⟨tp.keeps fun b o e => hideAll_get _ (F.keep b o e) fun q => ?_, fun b o e => of_hideAll _ e, fun p hp => ?_⟩
  · rcases List.mem_cons.mp q with rfl | q
    · rw [fr_none F] at e; cases e
    · obtain ⟨z, hz, rfl⟩ := List.mem_map.mp q
      rw [(N z (hl z hz)).2.2] at e; cases e
  · rcases List.mem_cons.mp hp with rfl | hp
    · exact ⟨hL, hideAll_none _ (.head _)⟩
    · exact ⟨(N p (hl p hp)).1, hideAll_none _ (.tail _ (List.mem_map_of_mem hp))⟩
theorem call_F {Q : Value → Shared → Prop} (F : Fr g L s.heap m) (N : News g L s.heap tl) (hL : s.heap.get? L = some o0) (hd : ∃ es ep, o0.data = .dict es ep) (hl : ∀ p ∈ led, p ∈ tl)
    (gm : GivesM w A f args s (L :: led.map (·.1)) (fun v new => (∃ sl, (L, { o0 with slots := sl }) ∈ new) ∧ P v new))
    (h : ∀ v h' tk' new, Fr g L h' m → News g L h' (rm [L] new ++ rm (led.map (·.1)) tl) → P v new → (∀ p ∈ new, (∀ vs n, p.2.data ≠ .seq vs n) ∨ p ∈ rm [L] new) → (∀ p ∈ rm (led.map (·.1)) tl, p ∈ tl ∧ p.1 ∉ led.map (·.1)) → Q v { s with heap := h', toks := tk' }) :
    wpAny (model prg w) A (call (.ref f) args) Q E s := by
  refine wpAny_call (gm _ ?_)
  rintro v h' tk' new k hn ⟨⟨sl, hsl⟩, hP⟩
  have h0 : ∀ b o, g.get? b = some o → b ∉ L :: led.map (·.1) := fun b o e q => by
    rcases List.mem_cons.mp q with rfl | q
    · rw [fr_none F] at e; cases e
    · obtain ⟨z, hz, rfl⟩ := List.mem_map.mp q
      rw [(N z (hl z hz)).2.2] at e; cases e
  have hL' : h'.get? L = some { o0 with slots := sl } := (hn _ hsl).1
  refine Classical.byContradiction fun hn1 => ?_
  obtain ⟨o, es, ep, e1, e2, e3⟩ := F.ns
  refine hn1 ?_
  have e4 : o0 = o := by rw [hL] at e1; exact Option.some.inj e1
  subst e4
  refine h v h' tk' new ⟨⟨_, es, ep, hL', e2, e3⟩, fun b o e => k b o (h0 b o e) (F.keep b o e), F.above⟩ (fun p hp => ?_) hP (kd_rmL (h := h') hd (fun p hp => (hn p hp).1) hsl) (fun p hp => mem_rm.mp hp)
  rcases List.mem_append.mp hp with hp | hp
  · obtain ⟨hp1, hp2⟩ := mem_rm.mp hp
    have hpL : p.1 ≠ L := fun q => hp2 (by rw [q]; exact .head _)
    refine ⟨(hn p hp1).1, hpL, ?_⟩
    rcases (hn p hp1).2 with z | z
    · rcases List.mem_cons.mp z with z | z
      · exact absurd z hpL
      · obtain ⟨y, hy, e⟩ := List.mem_map.mp z
        rw [← show y.1 = p.1 from e]
        exact (N y (hl y hy)).2.2
    · cases q : g.get? p.1 with
      | none => rfl
      | some o => have := F.keep _ _ q; rw [z] at this; cases this
  · obtain ⟨hp1, hp2⟩ := mem_rm.mp hp
    refine ⟨k _ _ (fun q => ?_) (N p hp1).1, (N p hp1).2⟩
    rcases List.mem_cons.mp q with q | q
    · exact (N p hp1).2.1 q
    · exact hp2 q
end
end Mine
end
section
open PySem PySem.W PyProof.Rows PySem.Calls
set_option maxRecDepth 100000
namespace Mine
noncomputable def lawLast : List Stmt := (stmtsAt 18).drop 8
theorem dat_eq {prog : Program} {w : World} {A : Around} {E : Value → Shared → Prop} {s : Shared} {h₀ : Heap} {L : Addr} {news : List (Addr × Obj)} {a b : Value} {da db : Dat} {Q : Value → Shared → Prop} (N : News h₀ L s.heap news) (ha : DatIn news a da) (hb : DatIn news b db) (oa : kqdOk 8 da = true) (ob : kqdOk 8 db = true) (hu : A.units + 64 < cLine)
    (h : ∀ c, (c = true ↔ da = db) → Q (.bool c) s) : wpAny (model prog w) A (compareOp .Eq a b) Q E s := by
  refine Classical.byContradiction fun hn1 => ?_
  obtain ⟨as, ra⟩ := kqd_in N 8 ha oa
  obtain ⟨bs, rb⟩ := kqd_in N 8 hb ob
  refine hn1 ?_
  have la := kqd_lay 8 da oa
  have lb := kqd_lay 8 db ob
  refine eq_dataH ra rb ?_ ?_ hu (h _ (kqd_eqv 8 da db 8 oa ob))
  · unfold SeqAt.shaped; rw [la.1, Bool.true_and]; exact decide_eq_true (Nat.le_trans la.2 (by decide))
  · unfold SeqAt.shaped; rw [lb.1, Bool.true_and]; exact decide_eq_true (Nat.le_trans lb.2 (by decide))
theorem dat_ne {prog : Program} {w : World} {A : Around} {E : Value → Shared → Prop} {s : Shared} {h₀ : Heap} {L : Addr} {news : List (Addr × Obj)} {a b : Value} {da db : Dat} {Q : Value → Shared → Prop} (N : News h₀ L s.heap news) (ha : DatIn news a da) (hb : DatIn news b db) (oa : kqdOk 8 da = true) (ob : kqdOk 8 db = true) (hu : A.units + 64 < cLine)
    (h : ∀ c, (c = true ↔ da = db) → Q (.bool (!c)) s) : wpAny (model prog w) A (compareOp .NotEq a b) Q E s := by
  refine Classical.byContradiction fun hn1 => ?_
  obtain ⟨as, ra⟩ := kqd_in N 8 ha oa
  obtain ⟨bs, rb⟩ := kqd_in N 8 hb ob
  refine hn1 ?_
  have la := kqd_lay 8 da oa
  have lb := kqd_lay 8 db ob
  refine ne_dataH ra rb ?_ ?_ hu (h _ (kqd_eqv 8 da db 8 oa ob))
  · unfold SeqAt.shaped; rw [la.1, Bool.true_and]; exact decide_eq_true (Nat.le_trans la.2 (by decide))
  · unfold SeqAt.shaped; rw [lb.1, Bool.true_and]; exact decide_eq_true (Nat.le_trans lb.2 (by decide))
theorem pick_mem {α : Type} [Inhabited α] {xs : List α} {p : Nat → Bool} {n : Nat} (hn : n ≤ xs.length) {x : α} (h : x ∈ ((List.range n).filter p).map fun k => xs.getD k default) : x ∈ xs := by
  obtain ⟨k, hk, rfl⟩ := List.mem_map.mp h
  have hk' : k < xs.length := Nat.lt_of_lt_of_le (List.mem_range.mp (List.mem_filter.mp hk).1) hn
  rw [List.getD_eq_getElem?_getD, List.getElem?_eq_getElem hk']
  exact List.getElem_mem _
theorem toldM_mem {fs ss : List Row} {x : Row} (h : x ∈ toldM fs ss fs.length) : x ∈ fs := pick_mem (Nat.le_refl _) h
theorem toldL_mem {fs ss : List Row} {x : Row} (h : x ∈ toldL fs ss ss.length) : x ∈ ss := pick_mem (Nat.le_refl _) h
theorem rowD_ok6 {r : Row} (h : rowOk r) : kqdOk 6 (rowD r) = true := by
  obtain ⟨a, b, c⟩ := h
  simp [rowD, kqdOk, a, b, c]
set_option maxHeartbeats 1000000 in
theorem law_last {w : World} {Q : Flow → Shared → Prop} {hp g : Heap} {gs : Array GenState} {d : Drawn} {tk : Nat} {os : OsState} {L fa lr lt la0 la1 : Addr} {cd : Value} {m : Str → Option Value} {tl : List (Addr × Obj)} {left right : List Row} {t0 t1 : Value} {nt nr na0 na1 : Nat} {va0 va1 : List Value} {oc : Obj} {ps7 ps8 : Array Value} {mean : ExcName → Option Value} {mg mb : Str → Option Value}
    (tp9 : Tops9 w mean mg mb g) (F : Fr g L hp m) (N : News g L hp tl)
    (m1 : m (S "tables") = some (.ref lt)) (m2 : m (S "rows") = some (.ref lr)) (hlr : (lr, W.listOf #[.ref la0, .ref la1] nr) ∈ tl) (hlt : (lt, W.listOf #[t0, t1] nt) ∈ tl) (hla0 : (la0, W.listOf va0.toArray na0) ∈ tl) (hla1 : (la1, W.listOf va1.toArray na1) ∈ tl)
    (h0 : DatIn tl t0 (.list (left.map rowD))) (h1 : DatIn tl t1 (.list (right.map rowD))) (hva0 : DatAll tl va0 (left.map rowD)) (hva1 : DatAll tl va1 (right.map rowD)) (hz : ∀ r ∈ [left, right], r.length ≤ 50) (hok : ∀ r ∈ [left, right], ∀ x ∈ r, rowOk x)
    (pureU : uldGo left.reverse right [] = ((toldM left right left.length).reverse, toldL left right right.length))
    (hcl : (L + 1, oc) ∈ tl) (h107 : (107, tabObj ps7) ∈ tl) (h58 : (58, tabObj ps8) ∈ tl)
    (fin : ∀ h' tk' m' tl', Fr g L h' m' → News g L h' tl' → (107, tabObj ps7) ∈ tl' → (58, tabObj ps8) ∈ tl' → Q (.ret (.bool true)) ⟨h', gs, d, tk', os⟩) :
    wpAny (model prg w) (callerA.deeper (lawEnv L fa cd)) (execs lawLast (lawEnv L fa cd)) Q NoE ⟨hp, gs, d, tk, os⟩ := by
  have o1 : On "call ref" := ⟨⟩
  have o3 : On "call type:list" := ⟨⟩
  have e : lawLast = lawLast := rfl
  conv at e => rhs; whnf
  rw [e]
  clear e
  refine Classical.byContradiction fun hn1 => ?_
  obtain ⟨X, T⟩ := id tp9.tops
  refine hn1 ?_
  have T9 := tp9.T9
  replace F := Fr.know (Fr.know F m1) (x := S "rows") (v := .ref lr) (by rw [if_neg (by decide)]; exact m2)
  have hz0 := hz left (.head _)
  have hz1 := hz right (.tail _ (.head _))
  have hl0 := hva0.length
  have hl1 := hva1.length
  rw [List.length_map] at hl0 hl1
  have N0 := News.sub N (l' := (lr, W.listOf #[.ref la0, .ref la1] nr) :: tl) (fun p hp => by
    rcases List.mem_cons.mp hp with rfl | hp
    · exact hlr
    · exact hp)
  clear N
  walk_at "steps"
  refine Hold.mk (list_copyK (s := ⟨_, _, _, _, _⟩) F N0 ⟨_, (N0 _ (.tail _ hla0)).1, rfl, _, rfl⟩ (fun D0 c0 h2 F2 N2 l2 => ?_) (by rw [sizeLine_eq, List.size_toArray]; lia))
  walk_at "steps"
  refine Hold.mk (list_copyK (s := ⟨_, _, _, _, _⟩) F2 N2 ⟨_, (N2 _ (.tail _ (.tail _ hla1))).1, rfl, _, rfl⟩ (fun D1 c1 h3 F3 N3 l3 => ?_) (by rw [sizeLine_eq, List.size_toArray]; lia))
  clear F2 N2
  walk_at "steps"
  refine Classical.byContradiction fun hn2 => ?_
  obtain ⟨o0, es0, ep0, hL0, hd0, -⟩ := id F3.ns
  have hd0' : ∃ es ep, o0.data = .dict es ep := ⟨es0, ep0, hd0⟩
  have q0 : @LT.lt Nat _ (L + 1) D0 := l2 _ (.tail _ hcl)
  have q1 : @LT.lt Nat _ L D0 := by lia
  have q2 : @LT.lt Nat _ D0 D1 := l3 _ (.head _)
  have hled : ∀ p ∈ [(D0, W.listOf va0.toArray c0), (D1, W.listOf va1.toArray c1)], p ∈ (D1, W.listOf va1.toArray c1) :: (D0, W.listOf va0.toArray c0) :: (lr, W.listOf #[.ref la0, .ref la1] nr) :: tl := by walk_at "mem_all"
  obtain ⟨tpb, lxb⟩ := ground_F (s := ⟨h3, gs, d, 0, os⟩) (led := [(D0, W.listOf va0.toArray c0), (D1, W.listOf va1.toArray c1)]) tp9.tops F3 N3 hL0 hled
  refine hn2 ?_
  have nD : ∀ p ∈ tl, p.1 ∉ [D0, D1] := fun p hp q => by
    have a : @LT.lt Nat _ p.1 D0 := l2 p (.tail _ hp)
    rcases inL2 q with q | q
    · have q : @Eq Nat p.1 D0 := q; lia
    · have q : @Eq Nat p.1 D1 := q; lia
  have hobj : ∀ p ∈ tl, (hideAll h3 [L, D0, D1]).get? p.1 = some p.2 := fun p hp => hideAll_get _ (N3 p (.tail _ (.tail _ (.tail _ hp)))).1 (fun q => by
    rcases List.mem_cons.mp q with q | q
    · exact (N3 p (.tail _ (.tail _ (.tail _ hp)))).2.1 q
    · exact nD p hp q)
  refine Hold.mk (call_F (s := ⟨_, _, _, _, _⟩) (o0 := o0) (led := [(D0, W.listOf va0.toArray c0), (D1, W.listOf va1.toArray c1)]) F3 N3 hL0 hd0' hled (uld_spec (env0 := lawEnv L fa cd) (o0 := o0) (L0 := L) (objs := tl) (fs := left) (ss := right) tpb lxb (by k_room) (by simp only [units_deeper]; decide) rfl rfl (by rw [show (lawEnv L fa cd).scope.kind = .function by kernel_rfl]; decide) rfl hd0' hobj hva0 hva1 (hok left (.head _)) (hok right (.tail _ (.head _))) hz0 hz1 q1 q2 pureU) (fun v6 h6 tk6 new6 F6 N6 hP6 rm6 k6 => ?_))
  refine Classical.byContradiction fun hn3 => ?_
  obtain ⟨tl6, N7, sub6, sp6⟩ : ∃ tl6, News g L h6 tl6 ∧ (∀ p ∈ tl, p ∈ tl6) ∧ DatIn tl6 v6 (.tuple [.list ((toldM left right left.length).reverse.map rowD), .list ((toldL left right right.length).map rowD)]) := by
    have subT : ∀ p ∈ tl, p ∈ rm [L] new6 ++ rm (List.map (·.1) [(D0, W.listOf va0.toArray c0), (D1, W.listOf va1.toArray c1)]) ((D1, W.listOf va1.toArray c1) :: (D0, W.listOf va0.toArray c0) :: (lr, W.listOf #[.ref la0, .ref la1] nr) :: tl) := fun p hp => List.mem_append_right _ (mem_rm.mpr ⟨.tail _ (.tail _ (.tail _ hp)), nD p hp⟩)
    refine ⟨_, N6, subT, (DatIn.drop fun p hp => ?_).1 hP6⟩
    rcases List.mem_append.mp hp with hp | hp
    · exact (rm6 p hp).elim .inl fun z => .inr (List.mem_append_left _ z)
    · exact .inr (subT p hp)
  refine hn3 ?_
  clear N6 k6 rm6 F3 N3
  replace N7 := News.sub N7 (l' := (lt, W.listOf #[t0, t1] nt) :: tl6) (fun p hp => by
    rcases List.mem_cons.mp hp with rfl | hp
    · exact sub6 _ hlt
    · exact hp)
  walk_at "steps"
  refine Classical.byContradiction fun hn4 => ?_
  obtain ⟨l0, k0, w0, rfl, hw0, hwa0⟩ := DatIn.listOf h0
  obtain ⟨l1, k1, w1, rfl, hw1, hwa1⟩ := DatIn.listOf h1
  refine hn4 ?_
  have no0 : ∀ l : List (Addr × Obj), OwnOff l (([] : List (Addr × Obj)).map (·.1)) := fun _ _ _ _ h => nomatch h
  refine Hold.mk (call_G (s := ⟨_, _, _, _, _⟩) (front := []) F6 N7 (no0 _) (told_spec (s := ⟨_, _, _, _, _⟩) (objs := tl) (fs := left) (ss := right) (tp9.here (s := ⟨_, _, _, _, _⟩) F6) (by k_room) (by simp only [units_deeper]; decide) rfl (fun p hp => (N7 p (.tail _ (sub6 p hp))).1) (N7 _ (.tail _ (sub6 _ hw0))).1 (N7 _ (.tail _ (sub6 _ hw1))).1 hwa0 hwa1 (hok left (.head _)) (hok right (.tail _ (.head _))) hz0 hz1) (fun v9 h9 tk9 new9 tl9 F9 N9 _ hP9 a9 b9 _ => ?_))
  dsimp only [List.nil_append] at N9
  have okM : ∀ d ∈ (toldM left right left.length).reverse.map rowD, kqdOk 6 d = true := fun d hd => by
    refine Classical.byContradiction fun hn5 => ?_
    obtain ⟨x, hx, rfl⟩ := List.mem_map.mp hd
    refine hn5 ?_
    exact rowD_ok6 (hok left (.head _) x (toldM_mem (List.mem_reverse.mp hx)))
  have okL : ∀ d ∈ (toldL left right right.length).map rowD, kqdOk 6 d = true := fun d hd => by
    refine Classical.byContradiction fun hn6 => ?_
    obtain ⟨x, hx, rfl⟩ := List.mem_map.mp hd
    refine hn6 ?_
    exact rowD_ok6 (hok right (.tail _ (.head _)) x (toldL_mem hx))
  have okT : kqdOk 8 (.tuple [.list ((toldM left right left.length).reverse.map rowD), .list ((toldL left right right.length).map rowD)]) = true := by
    simp only [kqdOk, List.all_cons, List.all_nil, Bool.and_true, Bool.and_eq_true, List.all_eq_true]
    exact ⟨okM, okL⟩
  refine dat_eq N9 (DatIn.mono (fun p hp => b9 p (.tail _ hp)) sp6) (DatIn.mono (fun p hp => (List.mem_append.mp hp).elim (a9 p) fun hp => b9 p (.tail _ (sub6 p hp))) hP9) okT okT (by simp only [units_deeper]; decide) (fun c hc => ?_)
  obtain rfl : c = true := hc.mpr rfl
  exact fin _ _ _ _ F9 N9 (b9 _ (.tail _ (sub6 _ h107))) (b9 _ (.tail _ (sub6 _ h58)))
end Mine
end
section
open PySem PySem.W PyProof.Rows PySem.Calls
set_option maxRecDepth 100000
namespace Mine
noncomputable def lawTail : List Stmt := (stmtsAt 18).drop 5
noncomputable abbrev rowScope : Scope := { kind := .function, names := [(Str.ofString ".0", .local), (Str.ofString "row", .local)], isGenerator := false, isCoroutine := false }
set_option maxHeartbeats 1000000 in
theorem names_src {w : World} {A : Around} {env : Env} {cl : List (Str × Addr)} {Fin : Shared → List Value → List (Addr × Obj) → Prop} {hp g : Heap} {gs : Array GenState} {d : Drawn} {tk : Nat} {os : OsState} {L le : Addr} {m : Str → Option Value} {news : List (Addr × Obj)} {vs : List Value} {n : Nat} {rows : List Row} {mg mb : Str → Option Value} {p1 p2 p3 : Pos}
    (X : (hd.heap_39 w.params).In g) (T : TopRead hd.view_39 loose mg mb g) (hh : A.handled = none) (F : Fr g L hp m) (N : News g L hp news) (hle : (le, W.listOf vs.toArray n) ∈ news) (hv : DatAll news vs (rows.map rowD)) (hz : rows.length ≤ 50)
    (fin : ∀ hp' us, StrsAre us (rows.map (·.1)) → Fin ⟨hp', gs, d, tk, os⟩ us news) :
    LCg.CompSrc prg w A g L m env (.Subscript (.Name (Str.ofString "row") p1) (.Constant (.int 0) 0 p2) p3) (Str.ofString "row") rowScope cl Fin (.ref le) ⟨hp, gs, d, tk, os⟩ := by
  have o1 : On "call ref" := ⟨⟩
  have o2 : On "compareOp NotEq ref ref" := ⟨⟩
  have o3 : On "compareOp Eq ref ref" := ⟨⟩
  have o4 : On "eval ListComp" := ⟨⟩
  have o5 : On "exec Assign cons ListComp" := ⟨⟩
  have o6 : On "CompSrcT" := ⟨⟩
  have o7 : On "CompSrc" := ⟨⟩
  have o8 : On "call builtin:sorted" := ⟨⟩
  have o9 : On "call type:list" := ⟨⟩
  have hlen := hv.length
  rw [List.length_map] at hlen
  refine LCg.CompSrc.ledger hh F N hle (by rw [List.size_toArray]; unfold sizeLine; lia) (fun g9 => ?_)
  refine comp_inv (fun i us nx => nx = news ∧ StrsAre us ((rows.take i).map (·.1))) ⟨rfl, .nil⟩ ?turn ?done
  case turn =>
    clear F N
    rintro i us nx v I oI C' oC D9 m₂ h tk E' hi ⟨rfl, hus⟩ hvi hC hx F N offT neT
    refine Classical.byContradiction fun hn1 => ?_
    obtain ⟨dd, hdd, hin⟩ := DatAll.at hv (i := i) (by simpa using hvi)
    obtain ⟨r, hr', rfl⟩ : ∃ r, rows[i]? = some r ∧ rowD r = dd := by simpa using hdd
    obtain ⟨ea, na, t1, t2, t3, rfl, hea⟩ := DatIn.row hin
    refine hn1 ?_
    replace N := News.sub N (l' := (ea, { cls := .type "tuple", data := .seq #[.str r.1 t1, .str r.2.1 t2, .str r.2.2 t3] na }) :: (I, oI) :: (C', oC) :: (D9, LCg.lst us) :: nx) (List.forall_mem_cons.mpr ⟨.tail _ (.tail _ (.tail _ hea)), fun _ hp => hp⟩)
    dsimp only
    refine hideQ fun Q0 hQ0 => ?_
    walk_at "steps"
    refine hQ0 _ _ (LCg.CompEnd.intro F N nx (fun p hp => .tail _ hp) offT (.inr ⟨_, hle, rfl, _, rfl⟩) ⟨rfl, ?_⟩)
    rw [List.take_add_one, hr', List.map_append]
    exact StrsAre.snoc' hus
  case done =>
    rintro us nx ⟨rfl, hus⟩
    rw [List.take_of_length_le (by rw [List.size_toArray]; lia)] at hus
    exact fin _ us hus
theorem lackL_mem {xs ys : List Str} {x : Str} (h : x ∈ lackL xs ys xs.length) : x ∈ xs := by
  obtain ⟨k, hk, rfl⟩ := List.mem_map.mp h
  have hk' : k < xs.length := List.mem_range.mp (List.mem_filter.mp hk).1
  have := wordAt_mem (ws := xs) hk'
  rwa [show (0 + (k : Int)) = k by lia] at this
set_option maxHeartbeats 1000000 in
theorem law_tail {w : World} {Q : Flow → Shared → Prop} {hp g : Heap} {gs : Array GenState} {d : Drawn} {tk : Nat} {os : OsState} {L fa lr lt : Addr} {cd : Value} {m : Str → Option Value} {tl : List (Addr × Obj)} {left right : List Row} {t0 t1 r0 r1 : Value} {nt nr : Nat} {oc : Obj} {ps7 ps8 : Array Value} {mean : ExcName → Option Value} {mg mb : Str → Option Value}
    (tp9 : Tops9 w mean mg mb g) (B0 : Below callerA g [] g) (F : Fr g L hp m) (N : News g L hp tl)
    (m1 : m (S "tables") = some (.ref lt)) (m2 : m (S "rows") = some (.ref lr)) (hlr : (lr, W.listOf #[r0, r1] nr) ∈ tl) (hlt : (lt, W.listOf #[t0, t1] nt) ∈ tl)
    (h0 : DatIn tl t0 (.list (left.map rowD))) (h1 : DatIn tl t1 (.list (right.map rowD))) (h2 : DatIn tl r0 (.list (left.map rowD))) (h3 : DatIn tl r1 (.list (right.map rowD))) (hz : ∀ r ∈ [left, right], r.length ≤ 50) (hz2 : ∀ r ∈ [left, right], 0 < r.length) (hok : ∀ r ∈ [left, right], ∀ x ∈ r, rowOk x)
    (pureS : ∀ ss0 ss1 : List Str, ss0.Perm (left.map (·.1)) → sortedS ss0 = true → ss1.Perm (right.map (·.1)) → sortedS ss1 = true → ∃ n R, sldGo ss0 ss1 n 0 0 [] [] = some R ∧ (∀ zs0 zs1, zs0.Perm (lackL (left.map (·.1)) (right.map (·.1)) left.length) → sortedS zs0 = true → zs1.Perm (lackL (right.map (·.1)) (left.map (·.1)) right.length) → sortedS zs1 = true → R = (zs0, zs1)))
    (pureU : uldGo left.reverse right [] = ((toldM left right left.length).reverse, toldL left right right.length))
    (hcl : (L + 1, oc) ∈ tl) (h107 : (107, tabObj ps7) ∈ tl) (h58 : (58, tabObj ps8) ∈ tl)
    (fin : ∀ h' tk' m' tl', Fr g L h' m' → News g L h' tl' → (107, tabObj ps7) ∈ tl' → (58, tabObj ps8) ∈ tl' → Q (.ret (.bool true)) ⟨h', gs, d, tk', os⟩) :
    wpAny (model prg w) (callerA.deeper (lawEnv L fa cd)) (execs lawTail (lawEnv L fa cd)) Q NoE ⟨hp, gs, d, tk, os⟩ := by
  have o1 : On "call ref" := ⟨⟩
  have o2 : On "compareOp NotEq ref ref" := ⟨⟩
  have o3 : On "compareOp Eq ref ref" := ⟨⟩
  have o4 : On "eval ListComp" := ⟨⟩
  have o5 : On "exec Assign cons ListComp" := ⟨⟩
  have o6 : On "CompSrcT" := ⟨⟩
  have o7 : On "CompSrc" := ⟨⟩
  have o8 : On "call builtin:sorted" := ⟨⟩
  have o9 : On "call type:list" := ⟨⟩
  have e : lawTail = lawTail := rfl
  conv at e => rhs; whnf
  rw [e]
  clear e
  refine Classical.byContradiction fun hn1 => ?_
  obtain ⟨X, T⟩ := id tp9.tops
  refine hn1 ?_
  have T9 := tp9.T9
  replace F := Fr.know (Fr.know F m1) (x := S "rows") (v := .ref lr) (by rw [if_neg (by decide)]; exact m2)
  walk_at "steps"
  refine Hold.mk (LCg.Assign_ListComp_U (F₀ := F) rfl (by with_unfolding_all rfl) (by with_unfolding_all rfl) (by decide) (by rfl) (by decide) (by rfl) (by rfl) (by rfl) ?_)
  walk_at "steps"
  refine Hold.mk ?_
  have ht : DatAll tl [t0, t1] (sidesD [left, right]) := .cons h0 (.cons h1 .nil)
  refine LCg.CompSrc.ledger (by rfl) F N hlt (by simp; decide) (fun g9 => ?_)
  refine comp_inv (fun i ys nx => (∀ p ∈ tl, p ∈ nx) ∧ DatAll nx ys (([left, right].take i).map fun r => .list ((r.map (·.1)).map Dat.str))) ⟨fun _ h => h, .nil⟩ ?turn ?done
  case turn =>
    clear F N
    rintro i ys nx v I oI C' oC D9 m₂ h tk E' hi ⟨sub, hys⟩ hvi hC hx F N offT neT
    refine Classical.byContradiction fun hn2 => ?_
    obtain ⟨dd, hdd, hin⟩ := DatAll.at ht (i := i) (by simpa using hvi)
    refine hn2 ?_
    unfold sidesD at hdd
    rw [List.getElem?_map] at hdd
    refine Classical.byContradiction fun hn3 => ?_
    obtain ⟨r, hr, rfl⟩ : ∃ r, [left, right][i]? = some r ∧ Dat.list (r.map rowD) = dd := by
      cases q : [left, right][i]? with
      | none => rw [q] at hdd; cases hdd
      | some r => rw [q] at hdd; exact ⟨r, rfl, Option.some.inj hdd⟩
    have hrz : r.length ≤ 50 := hz r (List.mem_of_getElem? hr)
    obtain ⟨le, ne, vs, rfl, hle, hvs⟩ := DatIn.listOf (DatIn.mono sub hin)
    refine hn3 ?_
    dsimp only
    refine hideQ fun Q0 hQ0 => ?_
    walk_at "steps"
    refine Hold.mk (LCg.ListComp_U (F₀ := F) (by with_unfolding_all rfl) (by decide) (by rfl) (by decide) (by rfl) ?_)
    walk_at "steps"
    refine Hold.mk (names_src (news := (I, oI) :: (C', oC) :: (D9, LCg.lst ys) :: nx) X T rfl F N (.tail _ (.tail _ (.tail _ hle))) (DatAll.mono (fun p hp => .tail _ (.tail _ (.tail _ hp))) hvs) hrz (fun hp' us hus D2 h2 tk2 F2 N2 offD => ?_))
    refine hQ0 _ _ (LCg.CompEnd.intro F2 N2 ((D2, LCg.lst us) :: nx) (by walk_at "mem_all") ⟨⟨Ne.symm offD.1, Ne.symm offD.2.1, Ne.symm offD.2.2.1⟩, offT⟩ (.inr ⟨_, .tail _ (sub _ hlt), rfl, _, rfl⟩) ⟨fun p hp => .tail _ (sub p hp), ?_⟩)
    · rw [List.take_add_one, hr, List.map_append]
      exact DatAll.append (DatAll.mono (fun p hp => .tail _ hp) hys) (.cons (.list (vs := us) (.head _) (StrsAre.dat' hus)) .nil)
  case done =>
    clear F N
    rintro ys nx ⟨sub, hys⟩ D h tk F N offD
    refine Classical.byContradiction fun hn4 => ?_
    obtain ⟨nv0, nv1, rfl, hn0, hn1⟩ := dat2 (show DatAll nx ys [.list ((left.map (·.1)).map Dat.str), .list ((right.map (·.1)).map Dat.str)] from hys)
    refine hn4 ?_
    dsimp only
    refine Classical.byContradiction fun hn5 => ?_
    obtain ⟨la0, na0, va0, rfl, hla0, hva0⟩ := DatIn.listOf (DatIn.mono sub h2)
    obtain ⟨la1, na1, va1, rfl, hla1, hva1⟩ := DatIn.listOf (DatIn.mono sub h3)
    refine hn5 ?_
    have hz0 := hz left (.head _)
    have hz1 := hz right (.tail _ (.head _))
    replace N := News.sub N (l' := (lr, W.listOf #[.ref la0, .ref la1] nr) :: (D, LCg.lst [nv0, nv1]) :: nx) (fun p hp => by
      rcases List.mem_cons.mp hp with rfl | hp
      · exact .tail _ (sub _ hlr)
      · exact hp)
    walk_at "steps"
    refine Hold.mk (LCg.ListComp_U (F₀ := by assumption) (by with_unfolding_all rfl) (by decide) (by rfl) (by decide) (by rfl) ?_)
    walk_at "steps"
    (rename Fr _ _ _ _ => F2); (rename News _ _ _ _ => N2)
    refine Hold.mk (names_src X T rfl F2 N2 (.tail _ (.tail _ hla0)) (DatAll.mono (fun p hp => .tail _ (.tail _ hp)) hva0) hz0 (fun hp' us0 hus0 D0 h2 tk2 F3 N3 offD0 => ?_))
    clear F2 N2
    dsimp only
    have hul0 := hus0.length
    rw [List.length_map] at hul0
    walk_at "steps"
    refine Hold.mk (sorted_N_str (s := ⟨_, _, _, _, _⟩) (vs := us0) F3 N3 ⟨_, (N3 _ (.head _)).1, rfl, _, rfl⟩ hus0 (by lia) (fun h4 vs0 ss0 e0 F4 N4 hs0 hp0 ho0 => ?_))
    clear F3 N3
    dsimp only
    walk_at "steps"
    refine Hold.mk (LCg.ListComp_U (F₀ := by assumption) (by with_unfolding_all rfl) (by decide) (by rfl) (by decide) (by rfl) ?_)
    walk_at "steps"
    (rename Fr _ _ _ _ => F2); (rename News _ _ _ _ => N2)
    refine Hold.mk (names_src X T rfl F2 N2 (.tail _ (.tail _ (.tail _ (.tail _ hla1)))) (DatAll.mono (fun p hp => .tail _ (.tail _ (.tail _ (.tail _ hp)))) hva1) hz1 (fun hp' us1 hus1 D1 h2 tk2 F3 N3 offD1 => ?_))
    clear F2 N2
    dsimp only
    have hul1 := hus1.length
    rw [List.length_map] at hul1
    walk_at "steps"
    refine Hold.mk (sorted_N_str (s := ⟨_, _, _, _, _⟩) (vs := us1) F3 N3 ⟨_, (N3 _ (.head _)).1, rfl, _, rfl⟩ hus1 (by lia) (fun h5 vs1 ss1 e1 F5 N5 hs1 hp1 ho1 => ?_))
    clear F3 N3
    dsimp only
    walk_at "steps"
    refine Classical.byContradiction fun hn6 => ?_
    obtain ⟨o0, es0, ep0, hL0, hd0, -⟩ := id F5.ns
    have hd0' : ∃ es ep, o0.data = .dict es ep := ⟨es0, ep0, hd0⟩
    obtain ⟨nS, RS, hgo, hfin⟩ := pureS ss0 ss1 hp0 ho0 hp1 ho1
    obtain ⟨tpb, lxb⟩ := ground_F (s := ⟨_, gs, d, 0, os⟩) (led := []) tp9.tops F5 N5 hL0 (fun _ h => nomatch h)
    refine hn6 ?_
    have hbL : ∀ q o, (q, o) ∈ _ → (hideAll h5 [L]).get? q = some o := fun q o hm => hideAll_get _ (N5 _ hm).1 (fun z => (N5 _ hm).2.1 (List.mem_singleton.mp z))
    have hll0 : ss0.length ≤ 50 := by have := hp0.length_eq; rw [List.length_map] at this; lia
    have hll1 : ss1.length ≤ 50 := by have := hp1.length_eq; rw [List.length_map] at this; lia
    refine Hold.mk (call_F (s := ⟨_, _, _, _, _⟩) (o0 := o0) (led := []) F5 N5 hL0 hd0' (fun _ h => nomatch h) (sld_spec (env0 := lawEnv L fa cd) (o0 := o0) (L0 := L) (vs := vs0) (us := vs1) tpb lxb (by k_room) (by simp only [units_deeper]; decide) rfl rfl (by rw [show (lawEnv L fa cd).scope.kind = .function by kernel_rfl]; decide) rfl hd0' (hbL _ _ (.tail _ (.tail _ (.head _)))) hs0 (hbL _ _ (.head _)) hs1 hll0 hll1 hgo) (fun v6 h6 tk6 new6 F6 N6 hP6 rm6 k6 => ?_))
    have nomem : ∀ p : Addr × Obj, p.1 ∉ ([] : List (Addr × Obj)).map (·.1) := fun _ h => nomatch h
    refine Classical.byContradiction fun hn7 => ?_
    obtain ⟨tl6, N7, hD6, sub6, sp6⟩ : ∃ tl6, News g L h6 tl6 ∧ (D, LCg.lst [nv0, nv1]) ∈ tl6 ∧ (∀ p ∈ nx, p ∈ tl6) ∧ DatIn tl6 v6 (.tuple [.list (RS.1.map Dat.str), .list (RS.2.map Dat.str)]) :=
      ⟨_, N6, List.mem_append_right _ (mem_rm.mpr ⟨.tail _ (.tail _ (.tail _ (.tail _ (.tail _ (.head _))))), nomem _⟩), fun p hp => List.mem_append_right _ (mem_rm.mpr ⟨.tail _ (.tail _ (.tail _ (.tail _ (.tail _ (.tail _ hp))))), nomem _⟩), DatIn.mono (fun p hp => List.mem_append_left _ hp) ((DatIn.drop rm6).1 hP6)⟩
    clear N6 k6 rm6 F5 N5
    obtain ⟨sa, nsa, vsa, rfl, hsa, hsv⟩ := DatIn.tupOf sp6
    obtain ⟨ln0, kn0, vn0, rfl, hln0, hvn0⟩ := DatIn.listOf hn0
    obtain ⟨ln1, kn1, vn1, rfl, hln1, hvn1⟩ := DatIn.listOf hn1
    refine hn7 ?_
    replace N7 := News.sub N7 (l' := [(D, LCg.lst [.ref ln0, .ref ln1]), (lr, W.listOf #[.ref la0, .ref la1] nr), (lt, W.listOf #[t0, t1] nt)] ++ tl6) (show ∀ p ∈ _ :: _ :: _ :: tl6, p ∈ _ from List.forall_mem_cons.mpr ⟨hD6, List.forall_mem_cons.mpr ⟨sub6 _ (sub _ hlr), List.forall_mem_cons.mpr ⟨sub6 _ (sub _ hlt), fun _ hp => hp⟩⟩⟩)
    dsimp only [List.cons_append, List.nil_append] at N7
    dsimp only
    walk_at "steps"
    (rename Fr _ _ _ _ => F7); (rename News _ _ _ _ => N7)
    have no0 : ∀ l : List (Addr × Obj), OwnOff l (([] : List (Addr × Obj)).map (·.1)) := fun _ _ _ _ h => nomatch h
    have ok0 : ∀ y ∈ left.map (·.1), PyData.strOk y = true := fun y hy => by obtain ⟨r, hr, rfl⟩ := List.mem_map.mp hy; exact (hok left (.head _) r hr).1
    have ok1 : ∀ y ∈ right.map (·.1), PyData.strOk y = true := fun y hy => by obtain ⟨r, hr, rfl⟩ := List.mem_map.mp hy; exact (hok right (.tail _ (.head _)) r hr).1
    have nl0 : (left.map (·.1)).length = left.length := List.length_map ..
    have nl1 : (right.map (·.1)).length = right.length := List.length_map ..
    have hlt0 := hz2 left (.head _)
    have hlt1 := hz2 right (.tail _ (.head _))
    refine Hold.mk (call_G (front := []) (tl := (D, LCg.lst [.ref ln0, .ref ln1]) :: (lr, W.listOf #[.ref la0, .ref la1] nr) :: (lt, W.listOf #[t0, t1] nt) :: tl6) F7 N7 (no0 _) (lack_spec (s := ⟨_, _, _, _, _⟩) (vs := vn0) (us := vn1) (xs := left.map (·.1)) (ys := right.map (·.1)) (tp9.here (s := ⟨_, _, _, _, _⟩) F7) (by k_room) (by simp only [units_deeper]; decide) rfl (N7 _ (.tail _ (.tail _ (.tail _ (sub6 _ hln0))))).1 (strs_of hvn0) (N7 _ (.tail _ (.tail _ (.tail _ (sub6 _ hln1))))).1 (strs_of hvn1) (by lia) (by lia) ok1) (fun v8 h8 tk8 new8 tl8 F8 N8 _ hP8 a8 b8 _ => ?_))
    refine Classical.byContradiction fun hn8 => ?_
    obtain ⟨zs0, hzd0, hzp0, hzs0⟩ := hP8
    refine hn8 ?_
    rw [nl0] at hzp0
    replace N8 := News.sub N8 (l' := (D, LCg.lst [.ref ln0, .ref ln1]) :: tl8) (fun p hp => by
      rcases List.mem_cons.mp hp with rfl | hp
      · exact b8 _ (.head _)
      · exact hp)
    clear F7 N7
    dsimp only
    walk_at "steps"
    (rename Fr _ _ _ _ => F7); (rename News _ _ _ _ => N7)
    refine Hold.mk (call_G (front := []) (tl := (D, LCg.lst [.ref ln0, .ref ln1]) :: tl8) F7 N7 (no0 _) (lack_spec (s := ⟨_, _, _, _, _⟩) (vs := vn1) (us := vn0) (xs := right.map (·.1)) (ys := left.map (·.1)) (tp9.here (s := ⟨_, _, _, _, _⟩) F7) (by k_room) (by simp only [units_deeper]; decide) rfl (N7 _ (.tail _ (b8 _ (.tail _ (.tail _ (.tail _ (sub6 _ hln1))))))).1 (strs_of hvn1) (N7 _ (.tail _ (b8 _ (.tail _ (.tail _ (.tail _ (sub6 _ hln0))))))).1 (strs_of hvn0) (by lia) (by lia) ok0) (fun v9 h9 tk9 new9 tl9 F9 N9 _ hP9 a9 b9 _ => ?_))
    refine Classical.byContradiction fun hn9 => ?_
    obtain ⟨zs1, hzd1, hzp1, hzs1⟩ := hP9
    refine hn9 ?_
    rw [nl1] at hzp1
    obtain rfl := hfin zs0 zs1 hzp0 hzs0 hzp1 hzs1
    dsimp only [List.nil_append] at N9
    clear F7 N7
    dsimp only
    walk_at "steps"
    (rename Fr _ _ _ _ => F7); (rename News _ _ _ _ => N7)
    have okz0 : ∀ d ∈ zs0.map Dat.str, kqdOk 6 d = true := fun d hd => by
      refine Classical.byContradiction fun hn10 => ?_
      obtain ⟨x, hx, rfl⟩ := List.mem_map.mp hd
      refine hn10 ?_
      have := ok0 x (lackL_mem (by rw [nl0]; exact hzp0.mem_iff.mp hx))
      simp [kqdOk, this]
    have okz1 : ∀ d ∈ zs1.map Dat.str, kqdOk 6 d = true := fun d hd => by
      refine Classical.byContradiction fun hn11 => ?_
      obtain ⟨x, hx, rfl⟩ := List.mem_map.mp hd
      refine hn11 ?_
      have := ok1 x (lackL_mem (by rw [nl1]; exact hzp1.mem_iff.mp hx))
      simp [kqdOk, this]
    have okT : kqdOk 8 (.tuple [.list (zs0.map Dat.str), .list (zs1.map Dat.str)]) = true := by
      simp only [kqdOk, List.all_cons, List.all_nil, Bool.and_true, Bool.and_eq_true, List.all_eq_true]
      exact ⟨okz0, okz1⟩
    have up6 : ∀ p ∈ tl6, p ∈ tl9 := fun p hp => b9 p (.tail _ (b8 p (.tail _ (.tail _ (.tail _ hp)))))
    refine Hold.mk (dat_ne N7 (DatIn.mono (fun p hp => .tail _ (up6 p hp)) sp6) (.tuple (vs := [_, _]) (.head _) (.cons (DatIn.mono (fun p hp => .tail _ (b9 p (.tail _ (a8 p hp)))) hzd0) (.cons (DatIn.mono (fun p hp => .tail _ (a9 p hp)) hzd1) .nil))) okT okT (by simp only [units_deeper]; decide) (fun c hc => ?_))
    obtain rfl : c = true := hc.mpr rfl
    have oz : On "execs cons" := ⟨⟩
    walk_at "steps"
    have upN : ∀ p ∈ nx, p ∈ tl9 := fun p hp => up6 p (sub6 p hp)
    have upT : ∀ p ∈ tl, p ∈ tl9 := fun p hp => upN p (sub p hp)
    refine Hold.mk (law_last (tl := (_, _) :: tl9) (oc := oc) (ps7 := ps7) (ps8 := ps8) tp9 F7 N7 ?_ ?_ (.tail _ (upT _ hlr)) (.tail _ (upT _ hlt)) (.tail _ (upN _ hla0)) (.tail _ (upN _ hla1)) (DatIn.mono (fun p hp => .tail _ (upT p hp)) h0) (DatIn.mono (fun p hp => .tail _ (upT p hp)) h1) (DatAll.mono (fun p hp => .tail _ (upN p hp)) hva0) (DatAll.mono (fun p hp => .tail _ (upN p hp)) hva1) hz hok pureU (.tail _ (upT _ hcl)) (.tail _ (upT _ h107)) (.tail _ (upT _ h58)) fin)
    · rfl
    · rfl
end Mine
end
section
open PySem PySem.W PyProof.Rows PySem.Calls
set_option maxRecDepth 100000
namespace Mine
structure Pure (left right : List Row) : Prop where
  fit : ∀ r ∈ [left, right], Fit r
  two : ∀ r ∈ [left, right], 2 ≤ r.length
  most : ∀ r ∈ [left, right], r.length ≤ 50
  names : ∀ r ∈ [left, right], ∀ x ∈ r, x.1.length ≤ 100 ∧ rowOk x
  S : ∀ ss0 ss1 : List Str, ss0.Perm (left.map (·.1)) → sortedS ss0 = true → ss1.Perm (right.map (·.1)) → sortedS ss1 = true → ∃ n R, sldGo ss0 ss1 n 0 0 [] [] = some R ∧ (∀ zs0 zs1, zs0.Perm (lackL (left.map (·.1)) (right.map (·.1)) left.length) → sortedS zs0 = true → zs1.Perm (lackL (right.map (·.1)) (left.map (·.1)) right.length) → sortedS zs1 = true → R = (zs0, zs1))
  U : uldGo left.reverse right [] = ((toldM left right left.length).reverse, toldL left right right.length)
set_option maxHeartbeats 1000000 in
theorem law_walk {w : World} {Q : Flow → Shared → Prop} {hp g : Heap} {gs : Array GenState} {d : Drawn} {tk : Nat} {os : OsState} {L fa l : Addr} {cd : Value} {m : Str → Option Value} {oc : Obj} {items : Array Value} {ns : List Int} {ov : Option Value} {mean : ExcName → Option Value} {mg mb : Str → Option Value}
    (tp9 : Tops9 w mean mg mb g) (B0 : Below callerA g [] g) (F : Fr g L hp m) (N : News g L hp [(L + 1, oc), (107, tabObj #[]), (58, tabObj #[])]) (hoc : oc.data = .cell ov) (h9 : @LT.lt Nat _ 107 L ∧ @LT.lt Nat _ 58 L)
    (m1 : m (S "script") = some (.ref l)) (hl : g.IsList l items) (hI : IntsAre items.toList ns) (hn : ns.length ≤ 63) (hP : Pure (leftOf (drawn ns)) (rightOf (drawn ns)))
    (fin : ∀ h' tk' m' tl' ps7 ps8, Fr g L h' m' → News g L h' tl' → (107, tabObj ps7) ∈ tl' → (58, tabObj ps8) ∈ tl' → Q (.ret (.bool true)) ⟨h', gs, d, tk', os⟩) :
    wpAny (model prg w) (callerA.deeper (lawEnv L fa cd)) (execs (stmtsAt 18) (lawEnv L fa cd)) Q NoE ⟨hp, gs, d, tk, os⟩ := by
  have o1 : On "call ref" := ⟨⟩
  have o2 : On "compareOp NotEq ref ref" := ⟨⟩
  have o3 : On "exec For" := ⟨⟩
  have e : stmtsAt 18 = stmtsAt 18 := rfl
  conv at e => rhs; whnf
  rw [e]
  clear e
  refine Classical.byContradiction fun hn1 => ?_
  obtain ⟨X, T⟩ := id tp9.tops
  refine hn1 ?_
  have T9 := tp9.T9
  replace F := Fr.know F m1
  have no0 : ∀ l : List (Addr × Obj), OwnOff l (([] : List (Addr × Obj)).map (·.1)) := fun _ _ _ _ h => nomatch h
  walk_at "steps"
  refine Hold.mk (call_G (s := ⟨_, _, _, _, _⟩) (front := [(L + 1, oc), (107, tabObj #[]), (58, tabObj #[])]) (tl := []) F N (fun _ h => nomatch h) (tables_spec (s := ⟨_, _, _, _, _⟩) (tp9.here (s := ⟨_, _, _, _, _⟩) F) (by k_room) rfl (isList_of F hl) hI hn) (fun v1 h1 tk1 new1 tl1 F1 N1 off1 hP1 a1 _ _ => ?_))
  refine Classical.byContradiction fun hn2 => ?_
  obtain ⟨lt, nt, vt, rfl, hlt, hvt⟩ := DatIn.listOf (DatIn.mono a1 hP1)
  obtain ⟨t0, t1, rfl, ht0, ht1⟩ := dat2 hvt
  refine hn2 ?_
  dsimp only [List.cons_append, List.nil_append, List.map_cons, List.map_nil] at N1 off1
  clear F N
  dsimp only
  walk_at "steps"
  (rename Fr _ _ _ _ => F2); (rename News _ _ _ _ => N2)
  rename _ ∧ _ ∧ _ ∧ _ => l4
  rename_i rl _ _
  refine Classical.byContradiction fun hn3 => ?_
  obtain ⟨q1, q2, q3, q9⟩ := l4
  refine hn3 ?_
  have lall := AllLt.mem q9
  have q4 : @LT.lt Nat _ 58 L := h9.2
  have hne : @Ne Nat rl (L + 1) ∧ @Ne Nat rl 58 ∧ @Ne Nat (L + 1) 58 := ⟨by lia, by lia, by lia⟩
  have off2 : OwnOff ((107, tabObj #[]) :: tl1) [rl, L + 1, 58] := fun p hp b hb => by
    replace hb := inL3 hb
    rcases List.mem_cons.mp hp with rfl | hp
    · have q5 : @LT.lt Nat _ 107 L := h9.1
      rcases hb with rfl | rfl | rfl
      · exact Nat.ne_of_lt q2
      · exact Nat.ne_of_lt (Nat.lt_succ_of_lt q5)
      · decide
    · rcases hb with rfl | rfl | rfl
      · exact Nat.ne_of_lt (lall p hp)
      · exact off1 p hp _ (.head _)
      · exact off1 p hp _ (.tail _ (.tail _ (.head _)))
  have two2 : ∀ {P : List Row → Prop}, (∀ r ∈ [leftOf (drawn ns), rightOf (drawn ns)], P r) → ∀ r ∈ [leftOf (drawn ns), rightOf (drawn ns)], P r := fun h => h
  refine Hold.mk (law_for1 (sides := [leftOf (drawn ns), rightOf (drawn ns)]) (tabs := [t0, t1]) (nt := nt) (tl := (107, tabObj #[]) :: tl1) (lt := lt) (rl := rl) (cl := L + 1) (oc := oc) (o58 := tabObj #[]) (c := 0) tp9 B0 F2 (News.sub N2 (fun p hp => ?_)) off2 (.head _) rfl rfl (.tail _ hlt) (.cons (DatIn.mono (fun p hp => .tail _ hp) ht0) (.cons (DatIn.mono (fun p hp => .tail _ hp) ht1) .nil)) hne (by simp) hP.fit (fun h3 tk3 m3 V c3 tl3 led3 F3 N3 off3 t3 hl3 hlt3 ht3 hV3 e1 e2 => ?_))
  · revert p
    exact (show ∀ p ∈ (rl, _) :: (L + 1, oc) :: (58, _) :: (107, _) :: tl1, p ∈ _ from by walk_at "mem_all")
  clear F2 N2
  dsimp only [List.cons_append, List.nil_append] at N3
  dsimp only
  replace F3 := Fr.know (Fr.know F3 e1) (x := S "rows") (v := .ref rl) (by rw [if_neg (by decide)]; exact e2)
  walk_at "steps"
  have okS : kqdOk 8 (.list (sidesD [leftOf (drawn ns), rightOf (drawn ns)])) = true := by
    have o : ∀ r ∈ [leftOf (drawn ns), rightOf (drawn ns)], kqdOk 7 (.list (r.map rowD)) = true := fun r hr => by
      simp only [kqdOk, List.all_eq_true]
      intro dd hdd
      refine Classical.byContradiction fun hn4 => ?_
      obtain ⟨x, hx, rfl⟩ := List.mem_map.mp hdd
      refine hn4 ?_
      exact rowD_ok6 (hP.names r hr x hx).2
    simp only [kqdOk, List.all_eq_true]
    intro dd hdd
    refine Classical.byContradiction fun hn5 => ?_
    obtain ⟨r, hr, rfl⟩ := List.mem_map.mp hdd
    refine hn5 ?_
    exact o r hr
  refine Hold.mk (dat_ne N3 (.list (vs := V) (ds := sidesD [leftOf (drawn ns), rightOf (drawn ns)]) (.head _) (DatAll.mono (fun p hp => .tail _ (.tail _ (.tail _ hp))) hV3)) (.list (vs := [t0, t1]) (ds := sidesD [leftOf (drawn ns), rightOf (drawn ns)]) (.tail _ (.tail _ (.tail _ hlt3))) (DatAll.mono (fun p hp => .tail _ (.tail _ (.tail _ hp))) ht3)) okS okS (by simp only [units_deeper]; decide) (fun cc hcc => ?_))
  obtain rfl : cc = true := hcc.mpr rfl
  walk_at "steps"
  refine Classical.byContradiction fun hn6 => ?_
  obtain ⟨ps7, hp7⟩ := t3.tab
  refine hn6 ?_
  have hp7' := hl3 _ hp7
  have off4 : OwnOff ((rl, W.listOf V.toArray c3) :: (58, tabObj #[]) :: tl3) [L + 1] := off_cons (fun b hb => by rw [List.mem_singleton.mp hb]; exact hne.1) (off_cons (fun b hb => by rw [List.mem_singleton.mp hb]; exact Ne.symm hne.2.2) (fun p hp b hb => by rw [List.mem_singleton.mp hb]; exact off3 p hp _ (.tail _ (.head _))))
  refine Hold.mk (law_for2 (sides := [leftOf (drawn ns), rightOf (drawn ns)]) (tabs := [t0, t1]) (V := V) (lr := rl) (lt := lt) (nr := c3) (oc := oc) (tl := (rl, W.listOf V.toArray c3) :: (58, tabObj #[]) :: tl3) (kp := [(107, tabObj ps7), (lt, W.listOf [t0, t1].toArray nt), (rl, W.listOf V.toArray c3)]) tp9 B0 F3 (News.sub N3 (fun p hp => ?_)) off4 ⟨_, hoc⟩ (.tail _ (.head _)) (fun p hp => ?_) (fun p hp => ?_) rfl rfl (.tail _ (.tail _ (.head _))) (DatAll.mono (fun p hp => .tail _ (.tail _ hp)) ht3) (DatAll.mono (fun p hp => .tail _ (.tail _ hp)) hV3) (fun r hr => ⟨hP.two r hr, by have := hP.most r hr; lia, hP.names r hr⟩) (fun h5 tk5 m5 oc5 tl5 led5 F5 N5 off5 t5 hl5 hkp5 ht5 hV5 e3 e4 => ?_))
  · revert p
    exact (show ∀ p ∈ (L + 1, oc) :: (rl, _) :: (58, _) :: tl3, p ∈ _ from by walk_at "mem_all")
  · rcases inL3 hp with rfl | rfl | rfl
    · exact .tail _ (.tail _ hp7')
    · exact .tail _ (.tail _ hlt3)
    · exact .head _
  · rcases inL3 hp with rfl | rfl | rfl
    · show @Ne Nat 107 58
      decide
    · exact off3 _ hlt3 _ (.tail _ (.tail _ (.head _)))
    · exact hne.2.1
  clear F3 N3
  dsimp only [List.cons_append, List.nil_append] at N5
  dsimp only
  refine Classical.byContradiction fun hn7 => ?_
  obtain ⟨r0, r1, rfl, hr0, hr1⟩ := dat2 (show DatAll tl5 V [.list ((leftOf (drawn ns)).map rowD), .list ((rightOf (drawn ns)).map rowD)] from hV5)
  obtain ⟨ps8, hp8⟩ := t5.tab
  obtain ⟨ht0', ht1'⟩ : DatIn tl5 t0 (.list ((leftOf (drawn ns)).map rowD)) ∧ DatIn tl5 t1 (.list ((rightOf (drawn ns)).map rowD)) := by
    obtain ⟨x, y, e, a, b⟩ := dat2 (show DatAll tl5 [t0, t1] [.list ((leftOf (drawn ns)).map rowD), .list ((rightOf (drawn ns)).map rowD)] from ht5)
    cases e
    exact ⟨a, b⟩
  refine hn7 ?_
  exact law_tail (tl := (L + 1, oc5) :: tl5) (nt := nt) (nr := c3) (t0 := t0) (t1 := t1) (r0 := r0) (r1 := r1) (oc := oc5) (ps7 := ps7) (ps8 := ps8) tp9 B0 F5 N5 e3 e4 (.tail _ (hkp5 _ (.tail _ (.tail _ (.head _))))) (.tail _ (hkp5 _ (.tail _ (.head _)))) (DatIn.mono (fun p hp => .tail _ hp) ht0') (DatIn.mono (fun p hp => .tail _ hp) ht1') (DatIn.mono (fun p hp => .tail _ hp) hr0) (DatIn.mono (fun p hp => .tail _ hp) hr1) hP.most (fun r hr => by have := hP.two r hr; lia) (fun r hr x hx => (hP.names r hr x hx).2) hP.S hP.U (.head _) (.tail _ (hkp5 _ (.head _))) (.tail _ (hl5 _ hp8)) (fun h' tk' m' tl' F' N' a b => fin h' tk' m' tl' ps7 ps8 F' N' a b)
end Mine
end
section
open PySem PySem.W PyProof.Rows PySem.Calls
set_option maxRecDepth 100000
namespace Mine
noncomputable def blankN (c : Nat) : Bool := c == 10 || c == 9 || c == 13 || c == 32
noncomputable def nlN (n : Int) (c : Nat) : Int := if c = 10 then n + 1 else n
noncomputable def bareL : Bool → List Nat → List Nat → Int → Option (List Nat × List Nat × Int)
  | _, [], _, _ => none
  | true, c :: r, tok, n => bareL false r (tok ++ [c]) (nlN n c)
  | false, c :: r, tok, n => if blankN c = true then some (tok, r, nlN n c) else if c = 92 then bareL true r tok (nlN n c) else bareL false r (tok ++ [c]) (nlN n c)
noncomputable def quoteL : Bool → List Nat → List Nat → Int → Option (List Nat × List Nat × Int)
  | _, [], _, _ => none
  | true, c :: r, tok, n => quoteL false r (tok ++ [c]) (nlN n c)
  | false, c :: r, tok, n => if c = 34 then some (tok, r, nlN n c) else if c = 92 then quoteL true r tok (nlN n c) else quoteL false r (tok ++ [c]) (nlN n c)
noncomputable def tokL : List Nat → Int → Option (List Nat × List Nat × Int)
  | [], n => some ([], [], n)
  | c :: r, n => if blankN c = true then tokL r (nlN n c) else if c = 34 then quoteL false r [] (nlN n c) else if c = 92 then bareL true r [] (nlN n c) else bareL false r [c] (nlN n c)
noncomputable def chL : List Nat → Str
  | [] => S ""
  | c :: _ => ⟨#[c]⟩
theorem chAt_drop {text : Str} {p : Nat} {l : List Nat} (hp : p ≤ text.length) (hl : text.cps.toList.drop p = l) : chAt text (p : Int) = chL l := by
  have hlen : text.cps.toList.length = text.length := Array.length_toList
  unfold chAt
  by_cases h : p < text.length
  · have e := beq_iff_eq.mp (slice_closesL (x := text) (i := (p : Int)) (j := (p : Int) + 1) (by lia) (by lia) (by lia))
    rw [e]
    cases l with
    | nil =>
      have := congrArg List.length hl
      rw [List.length_drop, hlen] at this
      simp at this
      lia
    | cons c r =>
      rw [show (p : Int).toNat = p by lia, hl, show ((p : Int) + 1 - p).toNat = 1 by lia]
      rfl
  · have hpe : p = text.length := by lia
    have e0 : l = [] := by rw [← hl]; exact List.drop_eq_nil_of_le (by lia)
    rw [e0]
    have e2 : Txt.slice text (some (p : Int)) (some ((p : Int) + 1)) = Txt.slice text (some (p : Int)) (some (p : Int)) := by
      have h0 : ¬ (p : Int) < 0 := by lia
      have h1 : ¬ (p : Int) + 1 < 0 := by lia
      have h2 : (1 : Int) > 0 := by decide
      have h3 : min ((p : Int) + 1) (text.length : Int) = p := by lia
      have h4 : min (p : Int) (text.length : Int) = p := by lia
      unfold Txt.slice
      simp only [Builtin.Str.strSliceIndices, h0, h1, h2, if_false, if_true, h3, h4]
    rw [e2]
    have e := beq_iff_eq.mp (slice_closesL (x := text) (i := (p : Int)) (j := (p : Int)) (by lia) (by lia) (by lia))
    rw [e, show ((p : Int) - p).toNat = 0 by lia, List.take_zero]
    rfl
theorem one_ne (c : Nat) : (⟨#[c]⟩ : Str) ≠ S "" := by
  intro h
  have := congrArg Str.length h
  revert this
  show ¬ ((1 : Nat) = 0)
  lia
theorem one_eq (c : Nat) (d : Nat) : ((⟨#[c]⟩ : Str) = ⟨#[d]⟩) ↔ c = d := by
  constructor
  · intro h; injection h with h; simpa using h
  · rintro rfl; rfl
theorem ne_bs {c : Nat} (h : c ≠ 92) : (⟨#[c]⟩ : Str) ≠ S "\\" := fun q => h ((one_eq c 92).mp q)
theorem ne_qu {c : Nat} (h : c ≠ 34) : (⟨#[c]⟩ : Str) ≠ S "\"" := fun q => h ((one_eq c 34).mp q)
theorem blank_eq (c : Nat) : inBlank ⟨#[c]⟩ = blankN c := by
  unfold inBlank
  rw [empty_one, Bool.not_not]
  have e : blanks.cps.toList = [10, 9, 13, 32] := by decide +kernel
  rw [e]
  unfold blankN
  by_cases h1 : c = 10
  · subst h1; rfl
  · by_cases h2 : c = 9
    · subst h2; rfl
    · by_cases h3 : c = 13
      · subst h3; rfl
      · by_cases h4 : c = 32
        · subst h4; rfl
        · simp [h1, h2, h3, h4]
theorem nl_eq (text : Str) (n : Int) (p : Nat) {c : Nat} {r : List Nat} (hp : p ≤ text.length) (hl : text.cps.toList.drop p = c :: r) : nlAt text n (p : Int) = nlN n c := by
  unfold nlAt nlN
  rw [chAt_drop hp hl]
  by_cases h : c = 10
  · rw [if_pos h]
    exact if_pos (by rw [h]; rfl)
  · rw [if_neg h]
    exact if_neg (fun q => h ((one_eq c 10).mp q))
theorem drop_succ {text : Str} {p : Nat} {c : Nat} {r : List Nat} (hl : text.cps.toList.drop p = c :: r) : text.cps.toList.drop (p + 1) = r ∧ p + 1 ≤ text.length := by
  constructor
  · rw [← List.drop_drop, hl]; rfl
  · have h := congrArg List.length hl
    have hlen : text.cps.toList.length = text.length := Array.length_toList
    rw [List.length_drop, hlen, List.length_cons] at h
    omega
theorem snoc_str (tok : List Nat) (c : Nat) : (⟨tok.toArray⟩ : Str) ++ (⟨#[c]⟩ : Str) = ⟨(tok ++ [c]).toArray⟩ := by
  show (⟨tok.toArray ++ #[c]⟩ : Str) = _
  simp
theorem bare_of {text : Str} : ∀ (k : Nat) (l tok : List Nat) (n : Int) (p : Nat) {tok' l' : List Nat} {n' : Int}, bareL false l tok n = some (tok', l', n') → text.cps.toList.drop p = l → p ≤ text.length → l.length < k → tok.length + l.length ≤ 1000 →
    ∃ p' : Nat, bareRun text k (p : Int) n ⟨tok.toArray⟩ = some (⟨tok'.toArray⟩, (p' : Int), n') ∧ text.cps.toList.drop p' = l' ∧ p' ≤ text.length
  | 0, l, tok, n, p, _, _, _, h, hl, hp, hk, _ => absurd hk (Nat.not_lt_zero _)
  | k + 1, [], tok, n, p, _, _, _, h, hl, hp, hk, _ => by cases h
  | k + 1, c :: r, tok, n, p, tok', l', n', h, hl, hp, hk, hz => by
    obtain ⟨d1, d2⟩ := drop_succ hl
    have hc := chAt_drop hp hl
    have hn := nl_eq text n p hp hl
    rw [List.length_cons] at hk hz
    unfold bareRun
    rw [hc, hn]
    rw [show chL (c :: r) = (⟨#[c]⟩ : Str) from rfl, if_neg (fun q => q.elim (one_ne c) (fun q => by have : (⟨tok.toArray⟩ : Str).length = tok.length := List.size_toArray ..; lia)), blank_eq]
    unfold bareL at h
    by_cases hb : blankN c = true
    · rw [if_pos hb] at h ⊢
      cases h
      exact ⟨p + 1, by push_cast; rfl, d1, d2⟩
    · rw [if_neg hb] at h ⊢
      by_cases h92 : c = 92
      · rw [if_pos h92] at h
        rw [if_pos (by rw [h92]; rfl)]
        cases r with
        | nil => cases h
        | cons d r' =>
          unfold bareL at h
          obtain ⟨f1, f2⟩ := drop_succ d1
          have hc' := chAt_drop d2 d1
          have hn' := nl_eq text (nlN n c) (p + 1) d2 d1
          rw [List.length_cons] at hk hz
          obtain ⟨p', a, b, e⟩ := bare_of k r' (tok ++ [d]) _ (p + 1 + 1) h f1 f2 (by lia) (by rw [List.length_append, List.length_singleton]; lia)
          refine ⟨p', ?_, b, e⟩
          have e1 : ((p : Int) + 1) = ((p + 1 : Nat) : Int) := by push_cast; rfl
          have e2 : (((p + 1 : Nat) : Int) + 1) = ((p + 1 + 1 : Nat) : Int) := by push_cast; rfl
          rw [e1, hc', hn', e2]
          show bareRun text k _ _ ((⟨tok.toArray⟩ : Str) ++ (⟨#[d]⟩ : Str)) = _
          rw [snoc_str]
          exact a
      · rw [if_neg h92] at h
        rw [if_neg (ne_bs h92)]
        obtain ⟨p', a, b, e⟩ := bare_of k r (tok ++ [c]) _ (p + 1) h d1 d2 (by lia) (by rw [List.length_append, List.length_singleton]; lia)
        refine ⟨p', ?_, b, e⟩
        have e1 : ((p : Int) + 1) = ((p + 1 : Nat) : Int) := by push_cast; rfl
        rw [e1]
        show bareRun text k _ _ ((⟨tok.toArray⟩ : Str) ++ (⟨#[c]⟩ : Str)) = _
        rw [snoc_str]
        exact a
theorem quote_of {text : Str} : ∀ (k : Nat) (l tok : List Nat) (n : Int) (p : Nat) {tok' l' : List Nat} {n' : Int}, quoteL false l tok n = some (tok', l', n') → text.cps.toList.drop p = l → p ≤ text.length → l.length < k → tok.length + l.length ≤ 1000 →
    ∃ p' : Nat, quoteRun text k (p : Int) n ⟨tok.toArray⟩ = some (⟨tok'.toArray⟩, (p' : Int), n') ∧ text.cps.toList.drop p' = l' ∧ p' ≤ text.length
  | 0, l, tok, n, p, _, _, _, h, hl, hp, hk, _ => absurd hk (Nat.not_lt_zero _)
  | k + 1, [], tok, n, p, _, _, _, h, hl, hp, hk, _ => by cases h
  | k + 1, c :: r, tok, n, p, tok', l', n', h, hl, hp, hk, hz => by
    obtain ⟨d1, d2⟩ := drop_succ hl
    have hc := chAt_drop hp hl
    have hn := nl_eq text n p hp hl
    rw [List.length_cons] at hk hz
    unfold quoteRun
    rw [hc, hn]
    rw [show chL (c :: r) = (⟨#[c]⟩ : Str) from rfl, if_neg (fun q => q.elim (one_ne c) (fun q => by have : (⟨tok.toArray⟩ : Str).length = tok.length := List.size_toArray ..; omega))]
    unfold quoteL at h
    by_cases hb : c = 34
    · rw [if_pos hb] at h
      rw [if_pos (by rw [hb]; rfl)]
      cases h
      exact ⟨p + 1, by push_cast; rfl, d1, d2⟩
    · rw [if_neg hb] at h
      rw [if_neg (ne_qu hb)]
      by_cases h92 : c = 92
      · rw [if_pos h92] at h
        rw [if_pos (by rw [h92]; rfl)]
        cases r with
        | nil => cases h
        | cons d r' =>
          unfold quoteL at h
          obtain ⟨f1, f2⟩ := drop_succ d1
          have hc' := chAt_drop d2 d1
          have hn' := nl_eq text (nlN n c) (p + 1) d2 d1
          rw [List.length_cons] at hk hz
          obtain ⟨p', a, b, e⟩ := quote_of k r' (tok ++ [d]) _ (p + 1 + 1) h f1 f2 (by omega) (by rw [List.length_append, List.length_singleton]; omega)
          refine ⟨p', ?_, b, e⟩
          have e1 : ((p : Int) + 1) = ((p + 1 : Nat) : Int) := by push_cast; rfl
          have e2 : (((p + 1 : Nat) : Int) + 1) = ((p + 1 + 1 : Nat) : Int) := by push_cast; rfl
          rw [e1, hc', hn', e2]
          show quoteRun text k _ _ ((⟨tok.toArray⟩ : Str) ++ (⟨#[d]⟩ : Str)) = _
          rw [snoc_str]
          exact a
      · rw [if_neg h92] at h
        rw [if_neg (ne_bs h92)]
        obtain ⟨p', a, b, e⟩ := quote_of k r (tok ++ [c]) _ (p + 1) h d1 d2 (by omega) (by rw [List.length_append, List.length_singleton]; omega)
        refine ⟨p', ?_, b, e⟩
        have e1 : ((p : Int) + 1) = ((p + 1 : Nat) : Int) := by push_cast; rfl
        rw [e1]
        show quoteRun text k _ _ ((⟨tok.toArray⟩ : Str) ++ (⟨#[c]⟩ : Str)) = _
        rw [snoc_str]
        exact a
end Mine
end
section
open PySem PySem.W PyProof.Rows PySem.Calls
set_option maxRecDepth 100000
namespace Mine
theorem tok_of {text : Str} : ∀ (k : Nat) (l : List Nat) (n : Int) (p : Nat) {tok' l' : List Nat} {n' : Int}, tokL l n = some (tok', l', n') → text.cps.toList.drop p = l → p ≤ text.length → l.length < k → l.length ≤ 999 →
    (l = [] ∨ ∃ p' : Nat, tokRun text k (p : Int) n = some (⟨tok'.toArray⟩, (p' : Int), n') ∧ text.cps.toList.drop p' = l' ∧ p' ≤ text.length) ∨ (tok' = [] ∧ ∃ p' : Int, tokRun text k (p : Int) n = some (S "", p', n'))
  | 0, l, n, p, _, _, _, h, hl, hp, hk, _ => absurd hk (Nat.not_lt_zero _)
  | k + 1, [], n, p, _, _, _, h, hl, hp, hk, _ => .inl (.inl rfl)
  | k + 1, c :: r, n, p, tok', l', n', h, hl, hp, hk, hz => by
    obtain ⟨d1, d2⟩ := drop_succ hl
    have hc := chAt_drop hp hl
    have hn := nl_eq text n p hp hl
    rw [List.length_cons] at hk hz
    have e1 : ((p : Int) + 1) = ((p + 1 : Nat) : Int) := by push_cast; rfl
    have em : ∀ x : Str, S "" ++ x = x := fun x => by
      show (⟨#[] ++ x.cps⟩ : Str) = x
      simp
    unfold tokRun
    rw [hc, hn, show chL (c :: r) = (⟨#[c]⟩ : Str) from rfl, if_neg (one_ne c), blank_eq]
    unfold tokL at h
    by_cases hb : blankN c = true
    · rw [if_pos hb] at h ⊢
      rw [e1]
      cases r with
      | nil =>
        cases h
        right
        refine ⟨rfl, ?_⟩
        cases k with
        | zero => rw [List.length_nil] at hk; lia
        | succ k =>
          refine ⟨((p + 1 : Nat) : Int) + 1, ?_⟩
          unfold tokRun
          have hc' := chAt_drop d2 d1
          have hn' : nlAt text (nlN n c) ((p + 1 : Nat) : Int) = nlN n c := by
            unfold nlAt
            rw [hc']
            exact if_neg (fun q => by have := congrArg Str.length q; revert this; show ¬ ((0 : Nat) = 1); lia)
          rw [hn', hc']
          exact if_pos rfl
      | cons d r' =>
        rcases tok_of k (d :: r') _ (p + 1) h d1 d2 (by lia) (by lia) with (q | q) | q
        · cases q
        · exact .inl (.inr q)
        · exact .inr q
    · left; right
      rw [if_neg hb] at h ⊢
      by_cases h34 : c = 34
      · rw [if_pos h34] at h
        rw [if_pos (by rw [h34]; rfl), e1]
        exact quote_of k r [] _ (p + 1) h d1 d2 (by lia) (by simp; lia)
      · rw [if_neg h34] at h
        rw [if_neg (ne_qu h34)]
        by_cases h92 : c = 92
        · rw [if_pos h92] at h
          rw [if_pos (by rw [h92]; rfl)]
          cases r with
          | nil => cases h
          | cons d r' =>
            unfold bareL at h
            obtain ⟨f1, f2⟩ := drop_succ d1
            have hc' := chAt_drop d2 d1
            have hn' := nl_eq text (nlN n c) (p + 1) d2 d1
            rw [List.length_cons] at hk hz
            have e2 : (((p + 1 : Nat) : Int) + 1) = ((p + 1 + 1 : Nat) : Int) := by push_cast; rfl
            rw [e1, hc', hn', e2, em]
            exact bare_of k r' [d] _ (p + 1 + 1) h f1 f2 (by lia) (by simp; lia)
        · rw [if_neg h92] at h
          rw [if_neg (ne_bs h92), e1, em]
          exact bare_of k r [c] _ (p + 1) h d1 d2 (by lia) (by simp; lia)
noncomputable def escN (w : Str) : List Nat := (escW w).cps.toList
noncomputable def quoN (w : Str) : List Nat := (quoteW w).cps.toList
noncomputable def sepN (k : Nat) : Nat := [32, 9, 10, 13].getD (k % 4) 0
noncomputable def chunkN (w : Str) (k : Nat) : List Nat := if k % 3 = 1 then quoN w else escN w
noncomputable def restL : List Str → Nat → List Nat
  | [], _ => []
  | w :: ws, k => chunkN w k ++ sepN k :: restL ws (k + 1)
theorem esc_tab : vocab.map escN = [[97], [108, 111, 103, 105, 110], [98, 92, 32, 99], [113, 92, 34], [92, 92], [92, 35, 120], [109, 97, 99, 104, 105, 110, 101], [112, 97, 115, 115, 119, 111, 114, 100]] := by decide +kernel
theorem quo_tab : vocab.map quoN = [[34, 97, 34], [34, 108, 111, 103, 105, 110, 34], [34, 98, 32, 99, 34], [34, 113, 92, 34, 34], [34, 92, 92, 34], [34, 35, 120, 34], [34, 109, 97, 99, 104, 105, 110, 101, 34], [34, 112, 97, 115, 115, 119, 111, 114, 100, 34]] := by decide +kernel
theorem cps_tab : vocab.map (fun w => w.cps.toList) = [[97], [108, 111, 103, 105, 110], [98, 32, 99], [113, 34], [92], [35, 120], [109, 97, 99, 104, 105, 110, 101], [112, 97, 115, 115, 119, 111, 114, 100]] := by decide +kernel
theorem sep_blank (k : Nat) : blankN (sepN k) = true := by
  unfold sepN
  have : k % 4 < 4 := Nat.mod_lt _ (by decide)
  generalize k % 4 = j at this
  match j, this with
  | 0, _ => rfl
  | 1, _ => rfl
  | 2, _ => rfl
  | 3, _ => rfl
theorem blank_cases {z : Nat} (h : blankN z = true) : z = 10 ∨ z = 9 ∨ z = 13 ∨ z = 32 := by
  unfold blankN at h
  simp only [Bool.or_eq_true, beq_iff_eq] at h
  lia
theorem esc_run {w : Str} (hw : w ∈ vocab) (z : Nat) (hz : blankN z = true) (post : List Nat) (n : Int) : tokL (escN w ++ z :: post) n = some (w.cps.toList, post, nlN n z) := by
  have e := esc_tab
  simp only [vocab, List.map_cons, List.map_nil, List.cons.injEq, and_true] at e
  obtain ⟨e1, e2, e3, e4, e5, e6, e7, e8⟩ := e
  have e' := cps_tab
  simp only [vocab, List.map_cons, List.map_nil, List.cons.injEq, and_true] at e'
  obtain ⟨f1, f2, f3, f4, f5, f6, f7, f8⟩ := e'
  simp only [vocab, List.mem_cons, List.not_mem_nil, or_false] at hw
  rcases hw with rfl | rfl | rfl | rfl | rfl | rfl | rfl | rfl
  all_goals
    first
    | rw [e1, f1]
    | rw [e2, f2]
    | rw [e3, f3]
    | rw [e4, f4]
    | rw [e5, f5]
    | rw [e6, f6]
    | rw [e7, f7]
    | rw [e8, f8]
  all_goals
    rcases blank_cases hz with rfl | rfl | rfl | rfl <;> rfl
theorem quo_run {w : Str} (hw : w ∈ vocab) (post : List Nat) (n : Int) : tokL (quoN w ++ post) n = some (w.cps.toList, post, n) := by
  have e := quo_tab
  simp only [vocab, List.map_cons, List.map_nil, List.cons.injEq, and_true] at e
  obtain ⟨e1, e2, e3, e4, e5, e6, e7, e8⟩ := e
  have e' := cps_tab
  simp only [vocab, List.map_cons, List.map_nil, List.cons.injEq, and_true] at e'
  obtain ⟨f1, f2, f3, f4, f5, f6, f7, f8⟩ := e'
  simp only [vocab, List.mem_cons, List.not_mem_nil, or_false] at hw
  rcases hw with rfl | rfl | rfl | rfl | rfl | rfl | rfl | rfl
  all_goals
    first
    | rw [e1, f1]
    | rw [e2, f2]
    | rw [e3, f3]
    | rw [e4, f4]
    | rw [e5, f5]
    | rw [e6, f6]
    | rw [e7, f7]
    | rw [e8, f8]
  all_goals rfl
theorem esc_nl {w : Str} (hw : w ∈ vocab) (l : List Nat) : cnt 10 (escN w ++ l) = cnt 10 l := by
  have e := esc_tab
  simp only [vocab, List.map_cons, List.map_nil, List.cons.injEq, and_true] at e
  obtain ⟨e1, e2, e3, e4, e5, e6, e7, e8⟩ := e
  simp only [vocab, List.mem_cons, List.not_mem_nil, or_false] at hw
  rcases hw with rfl | rfl | rfl | rfl | rfl | rfl | rfl | rfl
  all_goals
    first
    | rw [e1]
    | rw [e2]
    | rw [e3]
    | rw [e4]
    | rw [e5]
    | rw [e6]
    | rw [e7]
    | rw [e8]
  all_goals simp [cnt_cons]
theorem quo_nl {w : Str} (hw : w ∈ vocab) (l : List Nat) : cnt 10 (quoN w ++ l) = cnt 10 l := by
  have e := quo_tab
  simp only [vocab, List.map_cons, List.map_nil, List.cons.injEq, and_true] at e
  obtain ⟨e1, e2, e3, e4, e5, e6, e7, e8⟩ := e
  simp only [vocab, List.mem_cons, List.not_mem_nil, or_false] at hw
  rcases hw with rfl | rfl | rfl | rfl | rfl | rfl | rfl | rfl
  all_goals
    first
    | rw [e1]
    | rw [e2]
    | rw [e3]
    | rw [e4]
    | rw [e5]
    | rw [e6]
    | rw [e7]
    | rw [e8]
  all_goals simp [cnt_cons]
theorem vocab_ne : ∀ w ∈ vocab, w ≠ S "" := by decide +kernel
theorem str_of (w : Str) : (⟨w.cps.toList.toArray⟩ : Str) = w := by simp
noncomputable def LoOk (lo : List Nat) : Prop := lo = [] ∨ ∃ z, blankN z = true ∧ lo = [z]
noncomputable def loN (lo : List Nat) (n : Int) : Int := match lo with | [] => n | z :: _ => nlN n z
theorem lo_run {lo : List Nat} (h : LoOk lo) (l : List Nat) (n : Int) : tokL (lo ++ l) n = tokL l (loN lo n) := by
  rcases h with rfl | ⟨z, hz, rfl⟩
  · rfl
  · show tokL (z :: l) n = _
    exact if_pos hz
theorem nl_cnt (n : Int) (c : Nat) : nlN n c = n + cnt 10 [c] := by
  unfold nlN
  rw [cnt_cons, cnt_nil]
  split <;> lia
theorem lo_cnt {lo : List Nat} (h : LoOk lo) (n : Int) (l : List Nat) : loN lo n + cnt 10 l = n + cnt 10 (lo ++ l) := by
  rcases h with rfl | ⟨z, hz, rfl⟩
  · rfl
  · show nlN n z + _ = _
    rw [nl_cnt, List.singleton_append, cnt_cons, cnt_cons, cnt_nil]
    lia
theorem lex_from {text : Str} {K : Nat} (hK : text.length < K) (hz : text.length ≤ 999) : ∀ (rem : List Str) (k : Nat) (lo : List Nat) (p : Nat) (n : Int), (∀ w ∈ rem, w ∈ vocab) → LoOk lo → text.cps.toList.drop p = lo ++ restL rem k → p ≤ text.length →
    lexAll text K (rem.length + 1) (p : Int) n = some (rem, n + cnt 10 (lo ++ restL rem k))
  | [], k, lo, p, n, hv, hlo, hl, hp => by
    have hlen : text.cps.toList.length = text.length := Array.length_toList
    have hll : (lo ++ restL [] k).length ≤ text.length := by rw [← hl, List.length_drop, hlen]; lia
    rw [restL, List.append_nil] at hl ⊢
    rw [restL, List.append_nil] at hll
    have h0 := lo_run hlo [] n
    rw [List.append_nil] at h0
    have h1 : tokL lo n = some ([], [], loN lo n) := h0
    have hc := lo_cnt hlo n []
    rw [List.append_nil, cnt_nil] at hc
    have key : ∃ p' : Int, tokRun text K (p : Int) n = some (S "", p', loN lo n) := by
      rcases tok_of K lo n p h1 hl hp (by lia) (by lia) with (q | ⟨p', a, b, e⟩) | ⟨-, p', a⟩
      · subst q
        have hp' : p = text.length := by
          have := congrArg List.length hl
          rw [List.length_drop, hlen] at this
          simp at this
          lia
        cases K with
        | zero => lia
        | succ K =>
          refine ⟨(p : Int) + 1, ?_⟩
          unfold tokRun
          have hc' := chAt_drop hp hl
          have hn' : nlAt text n (p : Int) = n := by
            unfold nlAt
            rw [hc']
            exact if_neg (fun q => by have := congrArg Str.length q; revert this; show ¬ ((0 : Nat) = 1); lia)
          rw [hn', hc']
          exact if_pos rfl
      · exact ⟨p', a⟩
      · exact ⟨p', a⟩
    obtain ⟨p', a⟩ := key
    unfold lexAll
    rw [a]
    dsimp only
    rw [if_pos rfl]
    congr 2
    lia
  | w :: rem, k, lo, p, n, hv, hlo, hl, hp => by
    have hlen : text.cps.toList.length = text.length := Array.length_toList
    have hll : (lo ++ restL (w :: rem) k).length ≤ text.length := by rw [← hl, List.length_drop, hlen]; lia
    have hw := hv w (.head _)
    have hz' := sep_blank k
    have hrun := lo_run hlo (restL (w :: rem) k) n
    have hc := lo_cnt hlo n (restL (w :: rem) k)
    have step : ∃ lo', LoOk lo' ∧ ∃ n', tokL (lo ++ restL (w :: rem) k) n = some (w.cps.toList, lo' ++ restL rem (k + 1), n') ∧ n' + cnt 10 (lo' ++ restL rem (k + 1)) = n + cnt 10 (lo ++ restL (w :: rem) k) := by
      rw [hrun]
      by_cases hk : k % 3 = 1
      · refine ⟨[sepN k], .inr ⟨_, hz', rfl⟩, loN lo n, ?_, ?_⟩
        · rw [restL, chunkN, if_pos hk]
          exact quo_run hw _ _
        · rw [← hc, restL, chunkN, if_pos hk, quo_nl hw]
          rfl
      · refine ⟨[], .inl rfl, nlN (loN lo n) (sepN k), ?_, ?_⟩
        · rw [restL, chunkN, if_neg hk]
          exact esc_run hw _ hz' _ _
        · rw [← hc, restL, chunkN, if_neg hk, esc_nl hw, List.nil_append, cnt_cons, nl_cnt, cnt_cons, cnt_nil]
          lia
    obtain ⟨lo', hlo', n', h1, h2⟩ := step
    rcases tok_of K _ n p h1 hl hp (by lia) (by lia) with (q | ⟨p', a, b, e⟩) | ⟨q, -⟩
    · exfalso
      have := congrArg List.length q
      rw [List.length_append, restL, List.length_append, List.length_cons] at this
      simp at this
    · rw [List.length_cons]
      unfold lexAll
      rw [a, str_of]
      dsimp only
      rw [if_neg (vocab_ne w hw), lex_from hK hz rem (k + 1) lo' p' n' (fun x hx => hv x (.tail _ hx)) hlo' b e, h2]
    · exfalso
      refine vocab_ne w hw ?_
      rw [← str_of w, q]
      rfl
end Mine
end
section
open PySem PySem.W PyProof.Rows PySem.Calls
set_option maxRecDepth 100000
namespace Mine
theorem app_cps (a b : Str) : (a ++ b).cps.toList = a.cps.toList ++ b.cps.toList := by
  show (a.cps ++ b.cps).toList = _
  simp
theorem chunkAt_cps {ws : List Str} {i : Nat} (h : i < ws.length) : (chunkAt ws (0 + (i : Int))).cps.toList = chunkN ws[i] i := by
  have e1 : wordAt ws (0 + (i : Int)) = ws[i] := by
    unfold wordAt
    rw [show (0 + (i : Int)).toNat = i by lia, List.getD_eq_getElem?_getD, List.getElem?_eq_getElem h]
    rfl
  have e2 : (Int.fmod (0 + (i : Int)) 3 = 1) ↔ i % 3 = 1 := by
    rw [Int.fmod_eq_emod_of_nonneg _ (by decide)]
    lia
  unfold chunkAt chunkN
  rw [e1]
  by_cases hk : i % 3 = 1
  · rw [if_pos hk, if_pos (e2.mpr hk)]; rfl
  · rw [if_neg hk, if_neg (fun q => hk (e2.mp q))]; rfl
theorem sep_tab : seps.map (fun w => w.cps.toList) = [[32], [9], [10], [13]] := by decide +kernel
theorem sepAt_cps (i : Nat) : (sepAt (0 + (i : Int))).cps.toList = [sepN i] := by
  have e2 : (Int.fmod (0 + (i : Int)) 4).toNat = i % 4 := by
    rw [Int.fmod_eq_emod_of_nonneg _ (by decide)]
    lia
  unfold sepAt sepN
  rw [e2]
  have : i % 4 < 4 := Nat.mod_lt _ (by decide)
  generalize i % 4 = j at this
  have e := sep_tab
  simp only [seps, List.map_cons, List.map_nil, List.cons.injEq, and_true] at e
  match j, this with
  | 0, _ => exact e.1
  | 1, _ => exact e.2.1
  | 2, _ => exact e.2.2.1
  | 3, _ => exact e.2.2.2
theorem text_rest {ws : List Str} : ∀ i, i ≤ ws.length → (textAt ws i).cps.toList ++ restL (ws.drop i) i = restL ws 0
  | 0, _ => rfl
  | i + 1, h => by
    rw [← text_rest i (by lia), textAt, app_cps, app_cps, chunkAt_cps (by lia), sepAt_cps, List.append_assoc, List.append_assoc]
    have e : ws.drop i = ws[i] :: ws.drop (i + 1) := List.drop_eq_getElem_cons (by lia)
    rw [e, restL]
    rfl
theorem text_all (ws : List Str) : (textAt ws ws.length).cps.toList = restL ws 0 := by
  have := text_rest (ws := ws) ws.length (Nat.le_refl _)
  rw [List.drop_length, restL, List.append_nil] at this
  exact this
theorem lex_all {ws : List Str} (hv : ∀ w ∈ ws, w ∈ vocab) (hz : ws.length ≤ 60) : ∃ K k, lexAll (textAt ws ws.length) K k 0 1 = some (ws, 1 + nlOf (textAt ws ws.length)) := by
  have hl := text_len hv ws.length (Nat.le_refl _)
  refine ⟨(textAt ws ws.length).length + 1, ws.length + 1, ?_⟩
  have h := lex_from (text := textAt ws ws.length) (K := (textAt ws ws.length).length + 1) (by lia) (by lia) ws 0 [] 0 1 hv (.inl rfl) (by rw [List.drop_zero, text_all]; rfl) (Nat.zero_le _)
  have e : nlOf (textAt ws ws.length) = cnt 10 (restL ws 0) := by
    rw [← text_all]
    exact count_cnt _ 10
  rw [e]
  exact h
noncomputable def OkSt (st : List Row × Str) : Prop := st.1.length ≤ 100 ∧ (st.2 = S "" ∨ st.2 = S "machine" ∨ st.1 ≠ [])
theorem Steps.nil {st : List Row × Str} : Steps [] st := fun i h => absurd h (Nat.not_lt_zero _)
theorem Steps.cons {w : Str} {ws : List Str} {st : List Row × Str} (h : OkSt st) (h' : Steps ws (stepD st w)) : Steps (w :: ws) st := fun i hi => by
  cases i with
  | zero => exact h
  | succ i => exact h' i (by simpa using hi)
theorem Steps.app {ws us : List Str} : ∀ {st : List Row × Str}, Steps ws st → Steps us (ws.foldl stepD st) → Steps (ws ++ us) st := by
  induction ws with
  | nil => intro st _ h; exact h
  | cons w ws ih =>
    intro st h h'
    refine Steps.cons (h 0 (by simp)) (ih (fun i hi => ?_) h')
    exact h (i + 1) (by simpa using hi)
theorem step0 (acc : List Row) (t : Str) : stepD (acc, S "") t = (acc, t) := if_pos rfl
theorem stepM (acc : List Row) (t : Str) : stepD (acc, S "machine") t = (acc ++ [(t, S "", S "")], S "") := by
  unfold stepD
  dsimp only
  rw [if_neg (by decide), if_pos rfl]
theorem stepL (acc : List Row) (r : Row) (t : Str) : stepD (acc ++ [r], S "login") t = (acc ++ [(r.1, t, r.2.2)], S "") := by
  unfold stepD
  dsimp only
  rw [if_neg (by decide), if_neg (by decide), List.getLast?_concat]
  dsimp only
  rw [List.dropLast_concat, if_pos rfl]
theorem stepP (acc : List Row) (r : Row) (t : Str) : stepD (acc ++ [r], S "password") t = (acc ++ [(r.1, r.2.1, t)], S "") := by
  unfold stepD
  dsimp only
  rw [if_neg (by decide), if_neg (by decide), List.getLast?_concat]
  dsimp only
  rw [List.dropLast_concat, if_neg (by decide)]
theorem row_fold (acc : List Row) (r : Row) : (rowWords r).foldl stepD (acc, S "") = (acc ++ [r], S "") := by
  obtain ⟨a, b, c⟩ := r
  unfold rowWords
  dsimp only
  by_cases hb : b = S ""
  · by_cases hc : c = S ""
    · subst hb; subst hc
      simp only [bne_self_eq_false, Bool.false_eq_true, if_false, List.append_nil, List.foldl_cons, List.foldl_nil, step0, stepM]
    · subst hb
      simp only [bne_self_eq_false, Bool.false_eq_true, if_false, List.append_nil, bne_iff_ne, ne_eq, hc, not_false_eq_true, if_true, List.cons_append, List.nil_append, List.foldl_cons, List.foldl_nil, step0, stepM, stepP]
  · by_cases hc : c = S ""
    · subst hc
      simp only [bne_self_eq_false, Bool.false_eq_true, if_false, List.append_nil, bne_iff_ne, ne_eq, hb, not_false_eq_true, if_true, List.cons_append, List.nil_append, List.foldl_cons, List.foldl_nil, step0, stepM, stepL]
    · simp only [bne_iff_ne, ne_eq, hb, hc, not_false_eq_true, if_true, List.cons_append, List.nil_append, List.foldl_cons, List.foldl_nil, step0, stepM, stepL, stepP]
theorem row_steps (acc : List Row) (r : Row) (hz : acc.length < 100) : Steps (rowWords r) (acc, S "") := by
  obtain ⟨a, b, c⟩ := r
  have o1 : OkSt (acc, S "") := ⟨by dsimp only; lia, .inl rfl⟩
  have o2 : OkSt (acc, S "machine") := ⟨by dsimp only; lia, .inr (.inl rfl)⟩
  have o3 : ∀ (r : Row) (t : Str), OkSt (acc ++ [r], t) := fun r t => ⟨by dsimp only; rw [List.length_append, List.length_singleton]; lia, .inr (.inr (by simp))⟩
  unfold rowWords
  dsimp only
  refine Steps.cons o1 ?_
  rw [step0]
  refine Steps.cons o2 ?_
  rw [stepM]
  refine Steps.app (ws := if (b != S "") = true then [S "login", b] else []) ?_ ?_
  · split
    · refine Steps.cons (o3 _ _) ?_
      rw [step0]
      exact Steps.cons (o3 _ _) Steps.nil
    · exact Steps.nil
  · have e : ∃ r', (if (b != S "") = true then [S "login", b] else []).foldl stepD (acc ++ [(a, S "", S "")], S "") = (acc ++ [r'], S "") := by
      split
      · exact ⟨_, by rw [List.foldl_cons, List.foldl_cons, List.foldl_nil, step0, stepL]⟩
      · exact ⟨_, rfl⟩
    obtain ⟨r', e⟩ := e
    rw [e]
    split
    · refine Steps.cons (o3 _ _) ?_
      rw [step0]
      exact Steps.cons (o3 _ _) Steps.nil
    · exact Steps.nil
theorem rows_fold : ∀ (rows acc : List Row), (wordsOf rows).foldl stepD (acc, S "") = (acc ++ rows, S "")
  | [], acc => by simp [wordsOf]
  | r :: rows, acc => by
    show ((rowWords r) ++ wordsOf rows).foldl stepD _ = _
    rw [List.foldl_append, row_fold, rows_fold rows (acc ++ [r]), List.append_assoc]
    rfl
theorem rows_steps : ∀ (rows acc : List Row), acc.length + rows.length ≤ 100 → Steps (wordsOf rows) (acc, S "")
  | [], acc, _ => Steps.nil
  | r :: rows, acc, h => by
    rw [List.length_cons] at h
    show Steps (rowWords r ++ wordsOf rows) _
    refine Steps.app (row_steps acc r (by lia)) ?_
    rw [row_fold]
    exact rows_steps rows (acc ++ [r]) (by rw [List.length_append, List.length_singleton]; lia)
noncomputable def GoodRow (r : Row) : Prop := r.1 ∈ piecesL ∧ (r.2.1 = S "" ∨ r.2.1 ∈ piecesL) ∧ (r.2.2 = S "" ∨ r.2.2 ∈ piecesL)
theorem piece_mem (k : Int) : pieceAt (Int.fmod k 7) ∈ piecesL := by
  have h0 := Int.fmod_nonneg_of_pos k (b := 7) (by decide)
  have h1 := Int.fmod_lt_of_pos k (b := 7) (by decide)
  have h2 : (Int.fmod k 7).toNat < piecesL.length := by show _ < 7; lia
  unfold pieceAt
  rw [List.getD_eq_getElem?_getD, List.getElem?_eq_getElem h2]
  exact List.getElem_mem _
theorem rowOf_good (x : Int) : GoodRow (rowOf x) := by
  refine ⟨piece_mem _, ?_, ?_⟩
  · unfold rowOf
    dsimp only
    split
    · exact .inl rfl
    · exact .inr (piece_mem _)
  · unfold rowOf
    dsimp only
    split
    · exact .inl rfl
    · exact .inr (piece_mem _)
theorem pieces_vocab : ∀ x ∈ piecesL, x ∈ vocab := by decide +kernel
theorem pieces_ok : ∀ x ∈ piecesL, x.length ≤ 100 ∧ PyData.strOk x = true := by decide +kernel
theorem good_ok {r : Row} (h : GoodRow r) : r.1.length ≤ 100 ∧ rowOk r := by
  have e : PyData.strOk (S "") = true := by decide +kernel
  refine ⟨(pieces_ok _ h.1).1, (pieces_ok _ h.1).2, ?_, ?_⟩
  · rcases h.2.1 with q | q
    · rw [q]; exact e
    · exact (pieces_ok _ q).2
  · rcases h.2.2 with q | q
    · rw [q]; exact e
    · exact (pieces_ok _ q).2
theorem good_vocab {r : Row} (h : GoodRow r) : ∀ w ∈ rowWords r, w ∈ vocab := by
  intro w hw
  unfold rowWords at hw
  rcases List.mem_append.mp hw with hw | hw
  · rcases List.mem_append.mp hw with hw | hw
    · rcases inL2 hw with rfl | rfl
      · decide +kernel
      · exact pieces_vocab _ h.1
    · by_cases hb : (r.2.1 != S "") = true
      · rw [if_pos hb] at hw
        rcases inL2 hw with rfl | rfl
        · decide +kernel
        · exact pieces_vocab _ (h.2.1.resolve_left (by simpa using hb))
      · rw [if_neg hb] at hw; cases hw
  · by_cases hb : (r.2.2 != S "") = true
    · rw [if_pos hb] at hw
      rcases inL2 hw with rfl | rfl
      · decide +kernel
      · exact pieces_vocab _ (h.2.2.resolve_left (by simpa using hb))
    · rw [if_neg hb] at hw; cases hw
theorem rows_fit {rows : List Row} (hg : ∀ r ∈ rows, GoodRow r) (hz : rows.length ≤ 10) : Fit rows := by
  have hv : ∀ w ∈ wordsOf rows, w ∈ vocab := fun w hw => by
    obtain ⟨r, hr, hw⟩ := List.mem_flatMap.mp hw
    exact good_vocab (hg r hr) w hw
  have hl := wordsOf_len rows
  have ht := text_len hv (wordsOf rows).length (Nat.le_refl _)
  exact ⟨by lia, by lia, hv, by lia, rows_steps rows [] (by simp; lia), rows_fold rows [], lex_all hv (by lia)⟩
end Mine
end
section
open PySem PySem.W PyProof.Rows PySem.Calls
set_option maxRecDepth 100000
namespace Mine
noncomputable def ct (l : List Row) (q : Row) : Nat := l.countP fun r => decide (r = q)
theorem ct_nil (q : Row) : ct [] q = 0 := rfl
theorem ct_cons (x : Row) (l : List Row) (q : Row) : ct (x :: l) q = ct l q + (if x = q then 1 else 0) := by
  unfold ct
  rw [List.countP_cons]
  by_cases h : x = q
  · rw [if_pos h, if_pos (decide_eq_true h)]
  · rw [if_neg h, if_neg (by simpa using h)]
theorem ct_app (a b : List Row) (q : Row) : ct (a ++ b) q = ct a q + ct b q := List.countP_append
theorem ct_snoc (l : List Row) (x q : Row) : ct (l ++ [x]) q = ct l q + (if x = q then 1 else 0) := by
  rw [ct_app, ct_cons, ct_nil, Nat.zero_add]
theorem ct_zero {l : List Row} {q : Row} (h : q ∉ l) : ct l q = 0 := by
  unfold ct
  rw [List.countP_eq_zero]
  intro r hr
  simp only [decide_eq_true_eq]
  rintro rfl
  exact h hr
theorem ct_pos {l : List Row} {q : Row} (h : q ∈ l) : 1 ≤ ct l q := by
  unfold ct
  exact List.countP_pos_iff.mpr ⟨q, h, decide_eq_true rfl⟩
noncomputable def MM (ss : List Row) : List Row → List Row
  | [] => []
  | y :: r => (if ct ss y < ct (y :: r) y then [y] else []) ++ MM ss r
noncomputable def LeL (fs : List Row) : List Row → List Row → List Row
  | _, [] => []
  | pre, y :: r => (if ct fs y < ct (pre ++ [y]) y then [y] else []) ++ LeL fs (pre ++ [y]) r
theorem toldM_MM {fs ss : List Row} : ∀ (rest pre : List Row), fs = pre ++ rest → toldM fs ss fs.length = toldM fs ss pre.length ++ MM ss rest
  | [], pre, h => by
    rw [List.append_nil] at h
    rw [← h, MM, List.append_nil]
  | y :: rest, pre, h => by
    have ih := toldM_MM (fs := fs) (ss := ss) rest (pre ++ [y]) (by rw [h]; simp)
    rw [ih, List.length_append, List.length_singleton, MM, ← List.append_assoc]
    congr 1
    unfold toldM
    rw [told_succ]
    congr 1
    have e1 : fs.getD pre.length default = y := by rw [h, List.getD_eq_getElem?_getD]; simp
    have e2 : fs.drop pre.length = y :: rest := by rw [h]; simp
    unfold told1
    rw [e1, e2]
    by_cases hc : ct ss y < ct (y :: rest) y
    · rw [if_pos hc]
      exact if_pos (decide_eq_true hc)
    · rw [if_neg hc]
      exact if_neg (fun q => hc (of_decide_eq_true q))
theorem toldL_LL {fs ss : List Row} : ∀ (rest pre : List Row), ss = pre ++ rest → toldL fs ss ss.length = toldL fs ss pre.length ++ LeL fs pre rest
  | [], pre, h => by
    rw [List.append_nil] at h
    rw [← h, LeL, List.append_nil]
  | y :: rest, pre, h => by
    have ih := toldL_LL (fs := fs) (ss := ss) rest (pre ++ [y]) (by rw [h]; simp)
    rw [ih, List.length_append, List.length_singleton, LeL, ← List.append_assoc]
    congr 1
    unfold toldL
    rw [told_succ]
    congr 1
    have e1 : ss.getD pre.length default = y := by rw [h, List.getD_eq_getElem?_getD]; simp
    have e2 : ss.take (pre.length + 1) = pre ++ [y] := by rw [h, show pre ++ y :: rest = (pre ++ [y]) ++ rest by simp]; exact List.take_left' (by simp)
    unfold told2
    rw [e1, e2]
    by_cases hc : ct fs y < ct (pre ++ [y]) y
    · rw [if_pos hc]
      exact if_pos (decide_eq_true hc)
    · rw [if_neg hc]
      exact if_neg (fun q => hc (of_decide_eq_true q))
theorem MM_out {ss : List Row} {x : Row} (h : x ∉ ss) : ∀ f, MM ss (f ++ [x]) = MM ss f ++ [x]
  | [] => by
    show MM ss [x] = _
    rw [MM, MM, MM, ct_zero h, ct_cons, ct_nil, if_pos rfl, if_pos (by lia)]
    rfl
  | y :: f => by
    show MM ss (y :: (f ++ [x])) = _
    rw [MM, MM, MM_out h f, List.append_assoc]
    congr 1
    have e : ct (y :: (f ++ [x])) y = ct (y :: f) y + (if x = y then 1 else 0) := by rw [ct_cons, ct_snoc, ct_cons]; lia
    rw [e]
    by_cases hx : x = y
    · subst hx
      rw [ct_zero h, if_pos (by rw [if_pos rfl]; lia), if_pos (by rw [ct_cons, if_pos rfl]; lia)]
    · rw [if_neg hx, Nat.add_zero]
theorem MM_in {ss ss' : List Row} {x : Row} (h : ∀ q, ct ss q = ct ss' q + (if x = q then 1 else 0)) : ∀ f, MM ss (f ++ [x]) = MM ss' f
  | [] => by
    show MM ss [x] = _
    rw [MM, MM, MM, h x, ct_cons, ct_nil, if_pos rfl, if_neg (by lia)]
    rfl
  | y :: f => by
    show MM ss (y :: (f ++ [x])) = _
    rw [MM, MM, MM_in h f]
    congr 1
    have e : ct (y :: (f ++ [x])) y = ct (y :: f) y + (if x = y then 1 else 0) := by rw [ct_cons, ct_snoc, ct_cons]; lia
    rw [e, h y]
    by_cases hc : ct ss' y < ct (y :: f) y
    · rw [if_pos hc, if_pos (by lia)]
    · rw [if_neg hc, if_neg (by lia)]
theorem LeL_out {f : List Row} {x : Row} : ∀ (rest pre : List Row), x ∉ rest → LeL (f ++ [x]) pre rest = LeL f pre rest
  | [], _, _ => rfl
  | y :: rest, pre, h => by
    rw [LeL, LeL, LeL_out rest (pre ++ [y]) (fun q => h (.tail _ q))]
    congr 1
    have e : ct (f ++ [x]) y = ct f y := by rw [ct_snoc, if_neg (fun e => h (by rw [e]; exact .head _)), Nat.add_zero]
    rw [e]
theorem LeL_sh {f : List Row} {x : Row} : ∀ (rest pre pre2 : List Row), (∀ q, ct pre q = ct pre2 q + (if x = q then 1 else 0)) → LeL (f ++ [x]) pre rest = LeL f pre2 rest
  | [], _, _, _ => rfl
  | y :: rest, pre, pre2, h => by
    rw [LeL, LeL, LeL_sh rest (pre ++ [y]) (pre2 ++ [y]) (fun q => by rw [ct_snoc, ct_snoc, h q]; lia)]
    congr 1
    rw [ct_snoc f, ct_snoc pre, ct_snoc pre2, h y]
    by_cases hc : ct f y < ct pre2 y + (if y = y then 1 else 0)
    · rw [if_pos hc, if_pos (by lia)]
    · rw [if_neg hc, if_neg (by lia)]
theorem LeL_in {f b : List Row} {x : Row} : ∀ (a pre : List Row), x ∉ a → x ∉ pre → LeL (f ++ [x]) pre (a ++ x :: b) = LeL f pre (a ++ b)
  | [], pre, _, hp => by
    show LeL (f ++ [x]) pre (x :: b) = LeL f pre b
    rw [LeL, LeL_sh b (pre ++ [x]) pre (fun q => ct_snoc pre x q), ct_snoc, ct_snoc, ct_zero hp, if_pos rfl, if_neg (by omega)]
    rfl
  | y :: a, pre, ha, hp => by
    have hy : x ≠ y := fun e => ha (by rw [e]; exact .head _)
    show LeL (f ++ [x]) pre (y :: (a ++ x :: b)) = LeL f pre (y :: (a ++ b))
    rw [LeL, LeL, LeL_in a (pre ++ [y]) (fun q => ha (.tail _ q)) (fun q => by
      rcases List.mem_append.mp q with q | q
      · exact hp q
      · exact hy (List.mem_singleton.mp q)), ct_snoc f, if_neg hy, Nat.add_zero]
theorem rowAt_yes {x : Row} : ∀ {ss : List Row}, rowAt ss x < ss.length → ∃ a b, ss = a ++ x :: b ∧ x ∉ a ∧ ss.eraseIdx (rowAt ss x) = a ++ b
  | [], h => absurd h (Nat.not_lt_zero _)
  | y :: ss, h => by
    by_cases e : y = x
    · have e0 : rowAt (y :: ss) x = 0 := by unfold rowAt; rw [List.findIdx_cons, decide_eq_true e]; rfl
      exact ⟨[], ss, by rw [e]; rfl, by simp, by rw [e0]; rfl⟩
    · have e0 : rowAt (y :: ss) x = rowAt ss x + 1 := by unfold rowAt; rw [List.findIdx_cons, decide_eq_false e]; rfl
      rw [e0, List.length_cons] at h
      refine Classical.byContradiction fun hn1 => ?_
      obtain ⟨a, b, h1, h2, h3⟩ := rowAt_yes (x := x) (ss := ss) (by lia)
      refine hn1 ?_
      refine ⟨y :: a, b, by rw [h1]; rfl, fun q => ?_, by rw [e0]; show y :: ss.eraseIdx (rowAt ss x) = _; rw [h3]; rfl⟩
      rcases List.mem_cons.mp q with q | q
      · exact e q.symm
      · exact h2 q
theorem rowAt_no {x : Row} {ss : List Row} (h : ¬ rowAt ss x < ss.length) : x ∉ ss := fun q => h (by
  unfold rowAt
  exact List.findIdx_lt_length_of_exists ⟨x, q, decide_eq_true rfl⟩)
theorem uld_law : ∀ (rs ss ms : List Row), uldGo rs ss ms = (ms ++ (MM ss rs.reverse).reverse, LeL rs.reverse [] ss)
  | [], ss, ms => by
    have key : ∀ (rest pre : List Row), LeL [] pre rest = rest := by
      intro rest
      induction rest with
      | nil => intro pre; rfl
      | cons y rest ih =>
        intro pre
        rw [LeL, ih, ct_nil, ct_snoc, if_pos rfl, if_pos (by lia)]
        rfl
    rw [uldGo, List.reverse_nil, MM, key]
    simp
  | x :: rs, ss, ms => by
    rw [uldGo, List.reverse_cons]
    by_cases h : rowAt ss x < ss.length
    · rw [if_pos h, uld_law rs]
      refine Classical.byContradiction fun hn1 => ?_
      obtain ⟨a, b, h1, h2, h3⟩ := rowAt_yes h
      refine hn1 ?_
      rw [h3]
      have e1 : MM ss (rs.reverse ++ [x]) = MM (a ++ b) rs.reverse := MM_in (fun q => by rw [h1, ct_app, ct_cons, ct_app]; lia) _
      have e2 : LeL (rs.reverse ++ [x]) [] ss = LeL rs.reverse [] (a ++ b) := by rw [h1]; exact LeL_in a [] h2 (by simp)
      rw [e1, e2]
    · rw [if_neg h, uld_law rs]
      have hx := rowAt_no h
      rw [MM_out hx, LeL_out ss [] hx]
      simp
theorem uld_told (left right : List Row) : uldGo left.reverse right [] = ((toldM left right left.length).reverse, toldL left right right.length) := by
  rw [uld_law, List.reverse_reverse, List.nil_append]
  have e1 := toldM_MM (fs := left) (ss := right) left [] rfl
  have e2 := toldL_LL (fs := left) (ss := right) right [] rfl
  have z1 : toldM left right ([] : List Row).length = [] := rfl
  have z2 : toldL left right ([] : List Row).length = [] := rfl
  rw [z1, List.nil_append] at e1
  rw [z2, List.nil_append] at e2
  rw [e1, e2]
end Mine
end
section
open PySem PySem.W PyProof.Rows PySem.Calls
set_option maxRecDepth 100000
namespace Mine
noncomputable abbrev sl (a b : Str) : Prop := a.cps.toList < b.cps.toList
theorem sl_irr (a : Str) : ¬ sl a a := List.lt_irrefl _
theorem sl_tr {a b c : Str} (h : sl a b) (h' : sl b c) : sl a c := List.lt_trans h h'
theorem sl_tri (a b : Str) : sl a b ∨ a = b ∨ sl b a := by
  by_cases h1 : sl a b
  · exact .inl h1
  · by_cases h2 : sl b a
    · exact .inr (.inr h2)
    · refine .inr (.inl ?_)
      have : a.cps.toList = b.cps.toList := List.le_antisymm (List.not_lt.mp h2) (List.not_lt.mp h1)
      have h3 : a.cps = b.cps := Array.toList_inj.mp this
      cases a; cases b
      congr
theorem sl_asy {a b : Str} (h : sl a b) : ¬ sl b a := fun q => sl_irr a (sl_tr h q)
noncomputable def Asc (l : List Str) : Prop := l.Pairwise fun a b => ¬ sl b a
theorem rising_asc : ∀ (l : List Str) (p : Str), risingS p l = true → (∀ x ∈ l, ¬ sl x p) ∧ Asc l
  | [], p, _ => ⟨(fun _ h => nomatch h), List.Pairwise.nil⟩
  | x :: r, p, h => by
    unfold risingS at h
    rw [Bool.and_eq_true] at h
    obtain ⟨h1, h2⟩ := rising_asc r x h.2
    have h3 : ¬ sl x p := by
      have := h.1
      rw [ltCps_eq] at this
      simpa using this
    refine ⟨fun y hy => ?_, .cons (fun y hy => h1 y hy) h2⟩
    rcases List.mem_cons.mp hy with rfl | hy
    · exact h3
    · intro q
      rcases sl_tri p x with a | a | a
      · exact h1 y hy (sl_tr q a)
      · exact h1 y hy (a ▸ q)
      · exact h3 a
theorem sorted_asc {l : List Str} (h : sortedS l = true) : Asc l := by
  cases l with
  | nil => exact .nil
  | cons x r =>
    obtain ⟨h1, h2⟩ := rising_asc r x h
    exact .cons (fun y hy => h1 y hy) h2
theorem asc_uniq {l l' : List Str} (h : Asc l) (h' : Asc l') (p : l.Perm l') : l = l' := by
  refine p.eq_of_pairwise (fun a b _ _ x y => ?_) h h'
  rcases sl_tri a b with q | q | q
  · exact absurd q y
  · exact q
  · exact absurd q x
noncomputable def dropE (e : Str) : List Str → List Str
  | [] => []
  | x :: r => if x = e then dropE e r else x :: r
theorem skipE_drop (xs : List Str) (e : Str) : ∀ f i, f = xs.length - i → xs.drop (skipE xs e f i) = dropE e (xs.drop i)
  | 0, i, h => by
    have : xs.drop i = [] := List.drop_eq_nil_of_le (by lia)
    unfold skipE
    rw [this]; rfl
  | f + 1, i, h => by
    have hi : i < xs.length := by lia
    have e1 : xs.drop i = xs[i] :: xs.drop (i + 1) := List.drop_eq_getElem_cons hi
    unfold skipE
    rw [e1, dropE, List.getElem?_eq_getElem hi]
    by_cases hx : xs[i] = e
    · rw [if_pos (by rw [hx]), if_pos hx]
      exact skipE_drop xs e f (i + 1) (by lia)
    · rw [if_neg (fun q => hx (Option.some.inj q)), if_neg hx, e1]
theorem skip_drop (xs : List Str) (e : Str) (i : Nat) : xs.drop (skip xs e i) = dropE e (xs.drop i) := skipE_drop xs e _ i rfl
noncomputable def sldL : Nat → List Str → List Str → Option (List Str × List Str)
  | 0, _, _ => none
  | _ + 1, [], Y => some ([], Y)
  | _ + 1, X, [] => some (X, [])
  | n + 1, e :: X, a :: Y =>
    if sl e a then (sldL n (dropE e X) (a :: Y)).map fun r => (e :: r.1, r.2)
    else if sl a e then (sldL n (e :: X) (dropE a Y)).map fun r => (r.1, a :: r.2)
    else sldL n (dropE e X) (dropE a Y)
theorem sldGo_L (xs ys : List Str) : ∀ n i j ms uns, sldGo xs ys n i j ms uns = (sldL n (xs.drop i) (ys.drop j)).map fun r => (ms ++ r.1, uns ++ r.2)
  | 0, _, _, _, _ => rfl
  | n + 1, i, j, ms, uns => by
    unfold sldGo
    by_cases hi : i < xs.length
    · by_cases hj : j < ys.length
      · have e1 : xs.drop i = xs[i] :: xs.drop (i + 1) := List.drop_eq_getElem_cons hi
        have e2 : ys.drop j = ys[j] :: ys.drop (j + 1) := List.drop_eq_getElem_cons hj
        rw [List.getElem?_eq_getElem hi, List.getElem?_eq_getElem hj, e1, e2]
        dsimp only
        unfold sldL
        by_cases c1 : sl xs[i] ys[j]
        · rw [if_pos c1, if_pos c1, sldGo_L xs ys n, skip_drop, e2, Option.map_map]
          congr 1
          funext r
          simp
        · rw [if_neg c1, if_neg c1]
          by_cases c2 : sl ys[j] xs[i]
          · rw [if_pos c2, if_pos c2, sldGo_L xs ys n, skip_drop, e1, Option.map_map]
            congr 1
            funext r
            simp
          · rw [if_neg c2, if_neg c2, sldGo_L xs ys n, skip_drop, skip_drop]
      · have e2 : ys.drop j = [] := List.drop_eq_nil_of_le (by lia)
        have e3 : ys[j]? = none := List.getElem?_eq_none (by lia)
        rw [e2, e3]
        cases hx : xs.drop i with
        | nil => rw [List.getElem?_eq_getElem hi]; simp [sldL]
        | cons a r => rw [List.getElem?_eq_getElem hi]; simp [sldL]
    · have e2 : xs.drop i = [] := List.drop_eq_nil_of_le (by lia)
      have e3 : xs[i]? = none := List.getElem?_eq_none (by lia)
      rw [e2, e3]
      simp [sldL]
theorem dropE_len (e : Str) : ∀ X, (dropE e X).length ≤ X.length
  | [] => Nat.le_refl _
  | x :: r => by
    unfold dropE
    split
    · exact Nat.le_trans (dropE_len e r) (Nat.le_succ _)
    · exact Nat.le_refl _
theorem sldL_ends : ∀ n X Y, X.length + Y.length < n → ∃ R, sldL n X Y = some R
  | 0, _, _, h => absurd h (Nat.not_lt_zero _)
  | n + 1, [], Y, _ => ⟨_, rfl⟩
  | n + 1, e :: X, [], _ => ⟨_, rfl⟩
  | n + 1, e :: X, a :: Y, h => by
    have d1 := dropE_len e X
    have d2 := dropE_len a Y
    simp only [List.length_cons] at h
    unfold sldL
    split
    · obtain ⟨R, q⟩ := sldL_ends n (dropE e X) (a :: Y) (by rw [List.length_cons]; lia)
      exact ⟨_, by rw [q]; rfl⟩
    · split
      · obtain ⟨R, q⟩ := sldL_ends n (e :: X) (dropE a Y) (by rw [List.length_cons]; lia)
        exact ⟨_, by rw [q]; rfl⟩
      · exact sldL_ends n (dropE e X) (dropE a Y) (by lia)
end Mine
end
section
open PySem PySem.W PyProof.Rows PySem.Calls
set_option maxRecDepth 100000
namespace Mine
noncomputable def sct (l : List Str) (q : Str) : Nat := l.countP fun x => decide (x = q)
theorem sct_nil (q : Str) : sct [] q = 0 := rfl
theorem sct_cons (x : Str) (l : List Str) (q : Str) : sct (x :: l) q = sct l q + (if x = q then 1 else 0) := by
  unfold sct
  rw [List.countP_cons]
  by_cases h : x = q
  · rw [if_pos h, if_pos (decide_eq_true h)]
  · rw [if_neg h, if_neg (by simpa using h)]
theorem sct_app (a b : List Str) (q : Str) : sct (a ++ b) q = sct a q + sct b q := List.countP_append
theorem sct_pos {l : List Str} {q : Str} : 1 ≤ sct l q ↔ q ∈ l := by
  unfold sct
  constructor
  · intro h
    obtain ⟨x, hx, e⟩ := List.countP_pos_iff.mp h
    rw [← of_decide_eq_true e]; exact hx
  · intro h; exact List.countP_pos_iff.mpr ⟨q, h, decide_eq_true rfl⟩
theorem sct_perm {a b : List Str} (h : a.Perm b) (q : Str) : sct a q = sct b q := h.countP_eq _
theorem perm_of_sct {a b : List Str} (h : ∀ q, sct a q = sct b q) : a.Perm b := by
  rw [List.perm_iff_count]
  intro q
  have e : ∀ l : List Str, List.count q l = sct l q := fun l => by
    unfold sct List.count
    congr 1
  rw [e, e, h]
open Classical in
noncomputable def CC (X Y : List Str) (q : Str) : Nat := if q ∈ Y then 0 else if (∀ y ∈ Y, sl y q) then sct X q else min 1 (sct X q)
theorem CC_mem {X Y : List Str} {q : Str} (h : q ∈ Y) : CC X Y q = 0 := if_pos h
theorem CC_above {X Y : List Str} {q : Str} (h : q ∉ Y) (h2 : ∀ y ∈ Y, sl y q) : CC X Y q = sct X q := by
  unfold CC; rw [if_neg h, if_pos h2]
theorem CC_below {X Y : List Str} {q : Str} (h : q ∉ Y) (h2 : ¬ ∀ y ∈ Y, sl y q) : CC X Y q = min 1 (sct X q) := by
  unfold CC; rw [if_neg h, if_neg h2]
theorem CC_zero {X Y : List Str} {q : Str} (h : sct X q = 0) : CC X Y q = 0 := by
  unfold CC
  rw [h]
  split
  · rfl
  · split <;> rfl
theorem CC_le {X Y : List Str} {q : Str} : CC X Y q ≤ sct X q := by
  unfold CC
  split
  · exact Nat.zero_le _
  · split
    · exact Nat.le_refl _
    · exact Nat.min_le_right _ _
theorem CC_left {X X' Y : List Str} {q : Str} (h : sct X q = sct X' q) : CC X Y q = CC X' Y q := by
  unfold CC; rw [h]
theorem CC_right {X Y Y' : List Str} {q : Str} (h : q ∈ Y ↔ q ∈ Y') (h2 : (∀ y ∈ Y, sl y q) ↔ ∀ y ∈ Y', sl y q) : CC X Y q = CC X Y' q := by
  by_cases a : q ∈ Y
  · rw [CC_mem a, CC_mem (h.mp a)]
  · have a' := fun z => a (h.mpr z)
    by_cases b : ∀ y ∈ Y, sl y q
    · rw [CC_above a b, CC_above a' (h2.mp b)]
    · rw [CC_below a b, CC_below a' (fun z => b (h2.mpr z))]
theorem dropE_mem {e : Str} : ∀ {X : List Str} {x : Str}, x ∈ dropE e X → x ∈ X
  | [], _, h => nomatch h
  | y :: r, x, h => by
    unfold dropE at h
    split at h
    · exact .tail _ (dropE_mem h)
    · exact h
theorem dropE_spec {e : Str} : ∀ {X : List Str}, Asc (e :: X) → Asc (dropE e X) ∧ (∀ x ∈ dropE e X, sl e x) ∧ (∀ q, q ≠ e → sct (dropE e X) q = sct X q)
  | [], _ => ⟨List.Pairwise.nil, (fun _ h => nomatch h), fun _ _ => rfl⟩
  | y :: r, h => by
    obtain ⟨h1, h2⟩ := List.pairwise_cons.mp h
    obtain ⟨h3, h4⟩ := List.pairwise_cons.mp h2
    unfold dropE
    by_cases hy : y = e
    · rw [if_pos hy]
      obtain ⟨a, b, c⟩ := dropE_spec (e := e) (X := r) (List.pairwise_cons.mpr ⟨fun z hz => h1 z (.tail _ hz), h4⟩)
      refine ⟨a, b, fun q hq => ?_⟩
      rw [c q hq, sct_cons, if_neg (fun z => hq (by rw [← z, hy])), Nat.add_zero]
    · rw [if_neg hy]
      have hey : sl e y := by
        rcases sl_tri e y with a | a | a
        · exact a
        · exact absurd a.symm hy
        · exact absurd a (h1 y (.head _))
      refine ⟨h2, fun z hz => ?_, fun _ _ => rfl⟩
      rcases List.mem_cons.mp hz with rfl | hz
      · exact hey
      · rcases sl_tri e z with a | a | a
        · exact a
        · exact absurd (a ▸ hey) (h3 z hz)
        · exact absurd (sl_tr a hey) (h3 z hz)
theorem dropE_e {e : Str} {X : List Str} (h : Asc (e :: X)) : sct (dropE e X) e = 0 := by
  cases q : sct (dropE e X) e with
  | zero => rfl
  | succ n => exact absurd ((dropE_spec h).2.1 e (sct_pos.mp (by lia))) (sl_irr e)
theorem CC_drop {e q : Str} {Y Z : List Str} (h : Asc (e :: Y)) (hq : sl e q) : CC Z (e :: Y) q = CC Z (dropE e Y) q := by
  have hne : q ≠ e := fun z => sl_irr e (by rw [z] at hq; exact hq)
  obtain ⟨-, -, c⟩ := dropE_spec h
  have m : ∀ x, x ≠ e → (x ∈ Y ↔ x ∈ dropE e Y) := fun x hx => by rw [← sct_pos, ← sct_pos, c x hx]
  refine CC_right ⟨fun z => ?_, fun z => .tail _ (dropE_mem z)⟩ ⟨fun z y hy => z y (.tail _ (dropE_mem hy)), fun z y hy => ?_⟩
  · rcases List.mem_cons.mp z with z | z
    · exact absurd z hne
    · exact (m q hne).mp z
  · by_cases he : y = e
    · rw [he]; exact hq
    · rcases List.mem_cons.mp hy with hy | hy
      · exact absurd hy he
      · exact z y ((m y he).mp hy)
theorem asc_above {e : Str} {X : List Str} (h : Asc (e :: X)) {q : Str} (hq : q ∈ e :: X) (hne : q ≠ e) : sl e q := by
  rcases List.mem_cons.mp hq with z | z
  · exact absurd z hne
  · rcases sl_tri e q with a | a | a
    · exact a
    · exact absurd a.symm hne
    · exact absurd a ((List.pairwise_cons.mp h).1 q z)
theorem step_lt {e a : Str} {X Y : List Str} (hX : Asc (e :: X)) (hY : Asc (a :: Y)) (c : sl e a) :
    (∀ q, CC (e :: X) (a :: Y) q = CC (dropE e X) (a :: Y) q + (if e = q then 1 else 0)) ∧ ∀ q, CC (a :: Y) (e :: X) q = CC (a :: Y) (dropE e X) q := by
  have below : ∀ y ∈ a :: Y, sl e y := fun y hy => by
    by_cases h : y = a
    · rw [h]; exact c
    · exact sl_tr c (asc_above hY hy h)
  refine Classical.byContradiction fun hn1 => ?_
  obtain ⟨-, -, k⟩ := dropE_spec hX
  refine hn1 ?_
  refine ⟨fun q => ?_, fun q => ?_⟩
  · by_cases hq : e = q
    · subst hq
      have n1 : e ∉ a :: Y := fun z => sl_irr e (below e z)
      have n2 : ¬ ∀ y ∈ a :: Y, sl y e := fun z => sl_asy c (z a (.head _))
      rw [CC_below n1 n2, CC_below n1 n2, dropE_e hX, if_pos rfl, sct_cons, if_pos rfl]
      lia
    · rw [if_neg hq, Nat.add_zero]
      exact CC_left (by rw [k q (fun z => hq z.symm), sct_cons, if_neg hq, Nat.add_zero])
  · by_cases h0 : sct (a :: Y) q = 0
    · rw [CC_zero h0, CC_zero h0]
    · exact CC_drop hX (below q (sct_pos.mp (by lia)))
theorem step_eq {e : Str} {X Y : List Str} (hX : Asc (e :: X)) (hY : Asc (e :: Y)) (q : Str) : CC (e :: X) (e :: Y) q = CC (dropE e X) (dropE e Y) q := by
  by_cases hq : q = e
  · subst hq
    rw [CC_mem (.head _), CC_zero (dropE_e hX)]
  · obtain ⟨-, -, k⟩ := dropE_spec hX
    have hs : sct (e :: X) q = sct (dropE e X) q := by rw [k q hq, sct_cons, if_neg (fun z => hq z.symm), Nat.add_zero]
    by_cases h0 : sct (e :: X) q = 0
    · rw [CC_zero h0, CC_zero (by rw [← hs]; exact h0)]
    · have := asc_above hX (sct_pos.mp (by lia : 1 ≤ sct (e :: X) q)) hq
      rw [CC_drop hY this]
      exact CC_left hs
theorem asc_cons {e : Str} {A D Y : List Str} (hA : Asc A) (hc : ∀ q, sct A q = CC D Y q) (hD : ∀ x ∈ D, sl e x) : Asc (e :: A) :=
  List.pairwise_cons.mpr ⟨fun q hq => sl_asy (hD q (sct_pos.mp (by
    have h1 := sct_pos.mpr hq
    rw [hc] at h1
    exact Nat.le_trans h1 CC_le))), hA⟩
theorem CC_nil_left (Y : List Str) (q : Str) : CC [] Y q = 0 := CC_zero rfl
theorem CC_nil_right (X : List Str) (q : Str) : CC X [] q = sct X q := CC_above (by simp) (fun _ h => nomatch h)
theorem sldL_counts : ∀ n X Y A B, sldL n X Y = some (A, B) → Asc X → Asc Y → (∀ q, sct A q = CC X Y q) ∧ (∀ q, sct B q = CC Y X q) ∧ Asc A ∧ Asc B
  | 0, _, _, _, _, h, _, _ => by cases h
  | n + 1, [], Y, A, B, h, hX, hY => by
    unfold sldL at h
    cases h
    exact ⟨fun q => (CC_nil_left Y q).symm, fun q => (CC_nil_right Y q).symm, hX, hY⟩
  | n + 1, e :: X, [], A, B, h, hX, hY => by
    unfold sldL at h
    cases h
    exact ⟨fun q => (CC_nil_right _ q).symm, fun q => (CC_nil_left _ q).symm, hX, hY⟩
  | n + 1, e :: X, a :: Y, A, B, h, hX, hY => by
    unfold sldL at h
    by_cases c1 : sl e a
    · rw [if_pos c1] at h
      cases hr : sldL n (dropE e X) (a :: Y) with
      | none => rw [hr] at h; cases h
      | some r =>
        rw [hr] at h
        cases h
        refine Classical.byContradiction fun hn1 => ?_
        obtain ⟨d1, d2, -⟩ := dropE_spec hX
        obtain ⟨i1, i2, i3, i4⟩ := sldL_counts n _ _ r.1 r.2 hr d1 hY
        obtain ⟨s1, s2⟩ := step_lt hX hY c1
        refine hn1 ?_
        exact ⟨fun q => by rw [sct_cons, i1, s1], fun q => by rw [i2, s2], asc_cons i3 i1 d2, i4⟩
    · rw [if_neg c1] at h
      by_cases c2 : sl a e
      · rw [if_pos c2] at h
        cases hr : sldL n (e :: X) (dropE a Y) with
        | none => rw [hr] at h; cases h
        | some r =>
          rw [hr] at h
          cases h
          refine Classical.byContradiction fun hn2 => ?_
          obtain ⟨d1, d2, -⟩ := dropE_spec hY
          obtain ⟨i1, i2, i3, i4⟩ := sldL_counts n _ _ r.1 r.2 hr hX d1
          obtain ⟨s1, s2⟩ := step_lt hY hX c2
          refine hn2 ?_
          exact ⟨fun q => by rw [i1, s2], fun q => by rw [sct_cons, i2, s1], i3, asc_cons i4 i2 d2⟩
      · rw [if_neg c2] at h
        have he : e = a := by
          rcases sl_tri e a with q | q | q
          · exact absurd q c1
          · exact q
          · exact absurd q c2
        subst he
        refine Classical.byContradiction fun hn3 => ?_
        obtain ⟨i1, i2, i3, i4⟩ := sldL_counts n _ _ A B h (dropE_spec hX).1 (dropE_spec hY).1
        refine hn3 ?_
        exact ⟨fun q => by rw [i1, step_eq hX hY], fun q => by rw [i2, step_eq hY hX], i3, i4⟩
theorem max_spec (f : Nat → Str) : ∀ k, argBest (fun i j => decide ((f j).cps.toList < (f i).cps.toList)) k ≤ k ∧ ∀ j, j ≤ k → ¬ sl (f (argBest (fun i j => decide ((f j).cps.toList < (f i).cps.toList)) k)) (f j)
  | 0 => ⟨Nat.le_refl _, fun j hj => by rw [show j = 0 by lia]; exact sl_irr _⟩
  | k + 1 => by
    obtain ⟨h1, h2⟩ := max_spec f k
    unfold argBest
    split
    · next hc =>
      have hc : sl (f (argBest (fun i j => decide ((f j).cps.toList < (f i).cps.toList)) k)) (f (k + 1)) := of_decide_eq_true hc
      refine ⟨Nat.le_refl _, fun j hj q => ?_⟩
      by_cases hk : j = k + 1
      · rw [hk] at q; exact sl_irr _ q
      · exact h2 j (by lia) (sl_tr hc q)
    · next hc =>
      have hc : ¬ sl (f (argBest (fun i j => decide ((f j).cps.toList < (f i).cps.toList)) k)) (f (k + 1)) := fun q => hc (decide_eq_true q)
      refine ⟨Nat.le_succ_of_le h1, fun j hj => ?_⟩
      by_cases hk : j = k + 1
      · rw [hk]; exact hc
      · exact h2 j (by lia)
theorem max_lt {ys : List Str} (hne : 0 < ys.length) (q : Str) : sl (maxS ys) q ↔ ∀ y ∈ ys, sl y q := by
  obtain ⟨h1, h2⟩ := max_spec (fun i => ys.getD i Str.empty) (ys.length - 1)
  constructor
  · intro h y hy
    obtain ⟨j, hj, e⟩ := List.mem_iff_getElem.mp hy
    have h3 := h2 j (by omega)
    have e2 : ys.getD j Str.empty = y := by rw [List.getD_eq_getElem?_getD, List.getElem?_eq_getElem hj, e]; rfl
    rw [e2] at h3
    rcases sl_tri y q with a | a | a
    · exact a
    · subst a; exact absurd h h3
    · exact absurd (sl_tr h a) h3
  · intro h
    refine h _ ?_
    unfold maxS maxAt
    have h4 : argBest (fun i j => decide ((ys.getD j Str.empty).cps.toList < (ys.getD i Str.empty).cps.toList)) (ys.length - 1) < ys.length := by
      have h5 : argBest (fun i j => decide ((ys.getD j Str.empty).cps.toList < (ys.getD i Str.empty).cps.toList)) (ys.length - 1) ≤ ys.length - 1 := h1
      omega
    rw [List.getD_eq_getElem?_getD, List.getElem?_eq_getElem h4]
    exact List.getElem_mem _
theorem any_mem {l : List Str} {q : Str} : (l.any (· == q)) = true ↔ q ∈ l := by
  rw [List.any_eq_true]
  constructor
  · rintro ⟨x, hx, e⟩
    rw [← eq_of_beq e]; exact hx
  · intro h; exact ⟨q, h, beq_self_eq_true q⟩
theorem lack_counts {xs ys : List Str} (hne : 0 < ys.length) (q : Str) : ∀ i, i ≤ xs.length → sct (lackL xs ys i) q = CC (xs.take i) ys q
  | 0, _ => by rw [List.take_zero, CC_nil_left]; rfl
  | i + 1, hi => by
    have ih := lack_counts (xs := xs) (ys := ys) hne q i (by lia)
    have hi' : i < xs.length := by lia
    have ht : xs.take (i + 1) = xs.take i ++ [xs[i]] := by rw [List.take_add_one, List.getElem?_eq_getElem hi']; rfl
    have hw : wordAt xs (i : Int) = xs[i] := by
      unfold wordAt
      rw [show ((i : Int)).toNat = i by lia, List.getD_eq_getElem?_getD, List.getElem?_eq_getElem hi']
      rfl
    rw [lackL_succ, sct_app, ih, ht, hw]
    generalize hx : xs[i] = x
    by_cases hq : x = q
    · subst hq
      have hs : sct (xs.take i ++ [x]) x = sct (xs.take i) x + 1 := by rw [sct_app, sct_cons, sct_nil, if_pos rfl]
      by_cases hm : x ∈ ys
      · have hl : lackAt xs ys i = false := by
          unfold lackAt
          rw [hw, hx, any_mem.mpr hm]
          rfl
        rw [CC_mem hm, CC_mem hm, if_neg (by rw [hl]; decide)]
        rfl
      · have hm' : (ys.any (· == x)) = false := Bool.eq_false_iff.mpr fun z => hm (any_mem.mp z)
        by_cases hb : ∀ y ∈ ys, sl y x
        · have hl : lackAt xs ys i = true := by
            unfold lackAt
            rw [hw, hx, hm', decide_eq_true ((max_lt hne x).mpr hb)]
            simp
          rw [CC_above hm hb, CC_above hm hb, if_pos hl, hs, sct_cons, sct_nil, if_pos rfl]
        · have hd : decide ((maxS ys).cps.toList < x.cps.toList) = false := decide_eq_false fun z => hb ((max_lt hne x).mp z)
          rw [CC_below hm hb, CC_below hm hb, hs]
          by_cases ht2 : x ∈ xs.take i
          · have hl : lackAt xs ys i = false := by
              unfold lackAt
              rw [hw, hx, hm', hd, any_mem.mpr ht2]
              rfl
            have := sct_pos.mpr ht2
            rw [if_neg (by rw [hl]; decide), sct_nil]
            lia
          · have hl : lackAt xs ys i = true := by
              unfold lackAt
              rw [hw, hx, hm', hd, Bool.eq_false_iff.mpr (fun z => ht2 (any_mem.mp z))]
              rfl
            have : sct (xs.take i) x = 0 := by
              cases z : sct (xs.take i) x with
              | zero => rfl
              | succ n => exact absurd (sct_pos.mp (by lia)) ht2
            rw [if_pos hl, sct_cons, sct_nil, if_pos rfl, this]
            rfl
    · have hs : sct (xs.take i ++ [x]) q = sct (xs.take i) q := by rw [sct_app, sct_cons, sct_nil, if_neg hq, Nat.add_zero]
      rw [CC_left hs]
      split
      · rw [sct_cons, sct_nil, if_neg hq]; rfl
      · rfl
theorem CC_perm {X X' Y Y' : List Str} (hX : X.Perm X') (hY : Y.Perm Y') (q : Str) : CC X Y q = CC X' Y' q :=
  (CC_left (sct_perm hX q)).trans (CC_right hY.mem_iff ⟨fun h y hy => h y (hY.mem_iff.mpr hy), fun h y hy => h y (hY.mem_iff.mp hy)⟩)
theorem sld_law {xs ys : List Str} (hx : 0 < xs.length) (hy : 0 < ys.length) (ss0 ss1 : List Str) (p0 : ss0.Perm xs) (s0 : sortedS ss0 = true) (p1 : ss1.Perm ys) (s1 : sortedS ss1 = true) :
    ∃ n R, sldGo ss0 ss1 n 0 0 [] [] = some R ∧ ∀ zs0 zs1, zs0.Perm (lackL xs ys xs.length) → sortedS zs0 = true → zs1.Perm (lackL ys xs ys.length) → sortedS zs1 = true → R = (zs0, zs1) := by
  refine Classical.byContradiction fun hn1 => ?_
  obtain ⟨⟨A, B⟩, hR⟩ := sldL_ends (ss0.length + ss1.length + 1) ss0 ss1 (by lia)
  obtain ⟨c1, c2, c3, c4⟩ := sldL_counts _ _ _ A B hR (sorted_asc s0) (sorted_asc s1)
  refine hn1 ?_
  refine ⟨ss0.length + ss1.length + 1, (A, B), ?_, fun zs0 zs1 z1 z2 z3 z4 => ?_⟩
  · rw [sldGo_L, List.drop_zero, List.drop_zero, hR]
    rfl
  · have e0 : A = zs0 := asc_uniq c3 (sorted_asc z2) (perm_of_sct fun q => by
      rw [c1, sct_perm z1, lack_counts hy q xs.length (Nat.le_refl _), List.take_length, CC_perm p0 p1])
    have e1 : B = zs1 := asc_uniq c4 (sorted_asc z4) (perm_of_sct fun q => by
      rw [c2, sct_perm z3, lack_counts hx q ys.length (Nat.le_refl _), List.take_length, CC_perm p1 p0])
    rw [e0, e1]
end Mine
end
section
open PySem PySem.W PyProof.Rows PySem.Calls
set_option maxRecDepth 100000
namespace Mine
theorem left_app (a b : List Int) : leftOf (a ++ b) = leftOf a ++ leftOf b := by unfold leftOf; rw [List.filter_append, List.map_append]
theorem right_app (a b : List Int) : rightOf (a ++ b) = rightOf a ++ rightOf b := by unfold rightOf; rw [List.filter_append, List.map_append]
theorem left_le (a : List Int) : (leftOf a).length ≤ a.length := by unfold leftOf; rw [List.length_map]; exact List.length_filter_le _ _
theorem right_le (a : List Int) : (rightOf a).length ≤ a.length := by unfold rightOf; rw [List.length_map]; exact List.length_filter_le _ _
theorem left_fix : (leftOf [2130, 1009, 5, 152, 1092]).length = 4 := by decide +kernel
theorem right_fix : (rightOf [2130, 1009, 5, 152, 1092]).length = 2 := by decide +kernel
theorem pure_all (ns : List Int) : Pure (leftOf (drawn ns)) (rightOf (drawn ns)) := by
  have gl : ∀ r ∈ leftOf (drawn ns), GoodRow r := fun r hr => by
    unfold leftOf at hr
    refine Classical.byContradiction fun hn1 => ?_
    obtain ⟨x, -, rfl⟩ := List.mem_map.mp hr
    refine hn1 ?_
    exact rowOf_good x
  have gr : ∀ r ∈ rightOf (drawn ns), GoodRow r := fun r hr => by
    unfold rightOf at hr
    refine Classical.byContradiction fun hn2 => ?_
    obtain ⟨x, -, rfl⟩ := List.mem_map.mp hr
    refine hn2 ?_
    exact rowOf_good x
  have hd : (drawn ns).length ≤ 10 := by
    unfold drawn
    rw [List.length_append, List.length_take]
    show min 5 ns.length + 5 ≤ 10
    lia
  have l1 := left_le (drawn ns)
  have l2 := right_le (drawn ns)
  have l3 : 4 ≤ (leftOf (drawn ns)).length := by unfold drawn; rw [left_app, List.length_append, left_fix]; lia
  have l4 : 2 ≤ (rightOf (drawn ns)).length := by unfold drawn; rw [right_app, List.length_append, right_fix]; lia
  generalize leftOf (drawn ns) = left at *
  generalize rightOf (drawn ns) = right at *
  have two : ∀ {P : List Row → Prop}, P left → P right → ∀ r ∈ [left, right], P r := fun h1 h2 r hr => by
    rcases inL2 hr with rfl | rfl
    · exact h1
    · exact h2
  refine ⟨two (rows_fit gl (by lia)) (rows_fit gr (by lia)), two (by lia) l4, two (by lia) (by lia), two (fun x hx => good_ok (gl x hx)) (fun x hx => good_ok (gr x hx)), fun ss0 ss1 p0 s0 p1 s1 => ?_, uld_told left right⟩
  have h := sld_law (xs := left.map (·.1)) (ys := right.map (·.1)) (by rw [List.length_map]; lia) (by rw [List.length_map]; lia) ss0 ss1 p0 s0 p1 s1
  rw [List.length_map, List.length_map] at h
  exact h
end Mine
end
end
open PySem PySem.W PyProof.Rows PySem.Calls
set_option maxRecDepth 100000 in
set_option maxHeartbeats 8000000 in
theorem PySem.Challenge.cw_in0135_01_holds : PySem.Challenge.rw_in0135_01.Holds := by
  refine holds_law Mine.law_said fun said => ?_
  refine holds_open (q := Mine.hd.view_39) (loose := Mine.looseL) (XP := XL Mine.hd.view_39 []) (Yf := (kmHook Mine.hd.heap_39 Mine.adrsL Mine.heap_adrs [107, 58]).obs) (Ya := (kmHook Mine.hd.heap_39 Mine.adrsL Mine.heap_adrs [107, 58]).val) (YP := (kmHook Mine.hd.heap_39 Mine.adrsL Mine.heap_adrs [107, 58]).says) (N := 1710) Mine.law_left (kmHook Mine.hd.heap_39 Mine.adrsL Mine.heap_adrs [107, 58]).of (kmHook Mine.hd.heap_39 Mine.adrsL Mine.heap_adrs [107, 58]).keeps (fun s e => xl_of s (Bool.and_eq_true_iff.mp e).1) XL.keeps (by rfl) (by rfl) (by rfl) (fun s e => recFacts_of (Bool.and_eq_true_iff.mp e).2) (by rfl) said (by decide +kernel) ⟨rfl, rfl, rfl, rfl, rfl, by decide +kernel⟩ ?hw ?hc
  case hw => w_witness2
  case hc =>
    k_go0
    refine Mine.wp_noE (Mine.law_walk ⟨by assumption, by assumption, by assumption, by assumption⟩ (by assumption) (by assumption) (by assumption) (by assumption) (by assumption) rfl (by assumption) (by assumption) (by omega) (Mine.pure_all _) (fun h' tk' m' tl' ps7 ps8 F' N' a b => ?_))
    refine ⟨?_, ⟨ps7, (N' _ a).1⟩, ⟨ps8, (N' _ b).1⟩, trivial⟩
    dsimp only
    wrow_close
