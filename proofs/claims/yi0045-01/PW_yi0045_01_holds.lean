import PyProof.Rows.All
import Wide.All
import OpenK.AllK
import Wide.FinOn
import PySem.Challenge.RW_yi0045_01
set_option Elab.async false
section
open Lean PySem PySem.W PyProof.Rows
set_option maxRecDepth 100000
set_option maxHeartbeats 8000000
namespace Mine
abbrev pg : Program := PySem.Challenge.pw_yi0045_01
/-- a row of the text -/
noncomputable def rowAt (i : Nat) : Stmt := PySem.Challenge.pw_yi0045_01.main.body.getD i (.Pass ⟨0, 0, 0, 0⟩)
/-- a row of a class -/
noncomputable def defAt (i j : Nat) : Stmt := (match rowAt i with | .ClassDef _ _ _ b .. => b | _ => []).getD j (.Pass ⟨0, 0, 0, 0⟩)
/-- the text without the rows that the head does not look at -/
noncomputable def V : Program := { PySem.Challenge.pw_yi0045_01 with main := { PySem.Challenge.pw_yi0045_01.main with body := [rowAt 0, rowAt 2, rowAt 3, rowAt 5, rowAt 6, rowAt 7, rowAt 9, rowAt 10, rowAt 11, rowAt 12] } }
/-- the object that a def of the text stands as -/
noncomputable def fO (c : Value) (st : Stmt) (qual : Str) (globals : Addr) (closure : List (Str × Addr)) (defaults kwdefaults doc pyModule : Value) (annotations : Option Addr) (code closureTuple : Value) (builtins : Addr) : Obj := match st with
  | .FunctionDef nm ar b _ _ _ sc _ _ _ => { cls := c, data := .func { name := nm, qualname := qual, params := ar, body := .stmts b, scope := sc, globals, closure, defaults, kwdefaults, doc, pyModule, annotations, code, closureTuple, builtins } }
  | _ => default
abbrev n := BT.node
abbrev z := BT.nil
noncomputable def ob11 (_ : Params) : Obj := { cls := Value.type "tuple", data := Data.seq #[] }
noncomputable def ob12 (_ : Params) : Obj := { cls := Value.none, data := Data.fields #[] }
noncomputable def ob13 (_ : Params) : Obj := { cls := Value.type "code", data := Data.fields #[Value.str (Str.ofString "<module>") 182, Value.str (Str.ofString "<module>") 183, Value.str (Str.ofString "/claim/cut.py") 184, Value.int 1 0, Value.int 0 0, Value.int 0 0, Value.int 0 0, Value.int 0 0, Value.ref 11, Value.bool false, Value.int 181 0, Value.ref 12, Value.none, Value.none, Value.none, Value.none, Value.int 185 0, Value.int 1 0, Value.str (Str.ofString "/claim/cut.py") 186] }
noncomputable def ob14 (_ : Params) : Obj := { cls := Value.type "frame", slots := #[some (Value.ref 13), some (Value.ref 3), some (Value.ref 3), none, some (Value.str (Str.ofString "__main__") 164), none, some (Value.ref 0)] }
noncomputable def ob3 (P : Params) : Obj := { cls := Value.type "dict", data := Data.dict #[{ hash := PyData.keyHash P (Str.ofString "__name__"), key := Value.str (Str.ofString "__name__") 165, val := Value.str (Str.ofString "kyber_py.polynomials.polynomials_generic") 194 }, { hash := PyData.keyHash P (Str.ofString "__doc__"), key := Value.str (Str.ofString "__doc__") 166, val := Value.none }, { hash := PyData.keyHash P (Str.ofString "__package__"), key := Value.str (Str.ofString "__package__") 167, val := Value.none }, { hash := PyData.keyHash P (Str.ofString "__loader__"), key := Value.str (Str.ofString "__loader__") 168, val := Value.builtin "__main__.__loader__#opaque" }, { hash := PyData.keyHash P (Str.ofString "__spec__"), key := Value.str (Str.ofString "__spec__") 169, val := Value.none }, { hash := PyData.keyHash P (Str.ofString "__annotations__"), key := Value.str (Str.ofString "__annotations__") 170, val := Value.ref 6 }, { hash := PyData.keyHash P (Str.ofString "__builtins__"), key := Value.str (Str.ofString "__builtins__") 171, val := Value.ref 4 }, { hash := PyData.keyHash P (Str.ofString "__file__"), key := Value.str (Str.ofString "__file__") 173, val := Value.str (Str.ofString "/claim/cut.py") 172 }, { hash := PyData.keyHash P (Str.ofString "__cached__"), key := Value.str (Str.ofString "__cached__") 174, val := Value.none }, { hash := PyData.keyHash P (Str.ofString "_wall"), key := Value.str (Str.ofString "_wall") 193, val := Value.ref 21 }, { hash := PyData.keyHash P (Str.ofString "GenericPolynomialRing"), key := Value.str (Str.ofString "GenericPolynomialRing") 248, val := Value.ref 59 }, { hash := PyData.keyHash P (Str.ofString "GenericPolynomial"), key := Value.str (Str.ofString "GenericPolynomial") 446, val := Value.ref 220 }] 12 }
noncomputable def ob12v1 (_ : Params) : Obj := { cls := Value.none, data := Data.fields #[Value.int 1 0, Value.int 0 0, Value.ref 20, Value.int 5 0, Value.int 0 0, Value.ref 27, Value.int 23 0, Value.int 0 0, Value.ref 69] }
noncomputable def ob15 (_ : Params) : Obj := { cls := Value.type "tuple", data := Data.seq #[] }
noncomputable def ob16 (_ : Params) : Obj := { cls := Value.none, data := Data.fields #[] }
noncomputable def ob17 (_ : Params) : Obj := { cls := Value.type "tuple", data := Data.seq #[Value.str (Str.ofString "k") 190] }
noncomputable def ob18 (_ : Params) : Obj := { cls := Value.type "tuple", data := Data.seq #[] }
noncomputable def ob19 (_ : Params) : Obj := fO (Value.none) (rowAt 0) (Str.ofString "_wall") 0 ([]) (Value.none) (Value.none) (Value.none) (Value.none) (none) (Value.none) (Value.none) 0
noncomputable def ob20 (_ : Params) : Obj := { cls := Value.type "code", data := Data.fields #[Value.str (Str.ofString "_wall") 187, Value.str (Str.ofString "_wall") 188, Value.str (Str.ofString "/claim/cut.py") 189, Value.int 1 0, Value.int 1 0, Value.int 0 0, Value.int 0 0, Value.int 3 0, Value.ref 15, Value.bool true, Value.int 181 0, Value.ref 16, Value.none, Value.ref 17, Value.ref 18, Value.ref 19, Value.int 191 0, Value.int 1 0, Value.str (Str.ofString "/claim/cut.py") 192] }
noncomputable def ob21 (_ : Params) : Obj := fO (Value.type "function") (rowAt 0) (Str.ofString "_wall") 3 ([]) (Value.none) (Value.none) (Value.none) (Value.str (Str.ofString "__main__") 164) (none) (Value.ref 20) (Value.none) 0
noncomputable def ob22 (_ : Params) : Obj := { cls := Value.type "tuple", data := Data.seq #[] }
noncomputable def ob23 (_ : Params) : Obj := { cls := Value.type "builtin_function_or_method", data := Data.fields #[Value.builtin "type.__prepare__", Value.type "type"] }
noncomputable def ob24 (P : Params) : Obj := { cls := Value.type "dict", data := Data.dict #[{ hash := PyData.keyHash P (Str.ofString "__module__"), key := Value.str (Str.ofString "__module__") 203, val := Value.str (Str.ofString "kyber_py.polynomials.polynomials_generic") 194 }, { hash := PyData.keyHash P (Str.ofString "__qualname__"), key := Value.str (Str.ofString "__qualname__") 205, val := Value.str (Str.ofString "GenericPolynomialRing") 204 }, { hash := PyData.keyHash P (Str.ofString "__firstlineno__"), key := Value.str (Str.ofString "__firstlineno__") 207, val := Value.int 5 206 }, { hash := PyData.keyHash P (Str.ofString "__init__"), key := Value.str (Str.ofString "__init__") 216, val := Value.ref 35 }, { hash := PyData.keyHash P (Str.ofString "zero"), key := Value.str (Str.ofString "zero") 223, val := Value.ref 42 }, { hash := PyData.keyHash P (Str.ofString "gen"), key := Value.str (Str.ofString "gen") 230, val := Value.ref 49 }, { hash := PyData.keyHash P (Str.ofString "__call__"), key := Value.str (Str.ofString "__call__") 238, val := Value.ref 56 }, { hash := PyData.keyHash P (Str.ofString "__static_attributes__"), key := Value.str (Str.ofString "__static_attributes__") 241, val := Value.ref 57 }] 8 }
noncomputable def ob25 (_ : Params) : Obj := { cls := Value.type "tuple", data := Data.seq #[] }
noncomputable def ob26 (_ : Params) : Obj := { cls := Value.none, data := Data.fields #[Value.int 7 0, Value.int 4 0, Value.ref 34, Value.int 11 0, Value.int 4 0, Value.ref 41, Value.int 14 0, Value.int 4 0, Value.ref 48, Value.int 17 0, Value.int 4 0, Value.ref 55] }
noncomputable def ob27 (_ : Params) : Obj := { cls := Value.type "code", data := Data.fields #[Value.str (Str.ofString "GenericPolynomialRing") 198, Value.str (Str.ofString "GenericPolynomialRing") 199, Value.str (Str.ofString "/claim/cut.py") 200, Value.int 5 0, Value.int 0 0, Value.int 0 0, Value.int 0 0, Value.int 0 0, Value.ref 25, Value.bool false, Value.int 181 0, Value.ref 26, Value.none, Value.none, Value.none, Value.none, Value.int 201 0, Value.int 5 0, Value.str (Str.ofString "/claim/cut.py") 202] }
noncomputable def ob28 (_ : Params) : Obj := { cls := Value.type "frame", slots := #[some (Value.ref 27), some (Value.ref 3), some (Value.ref 24), none, some (Value.str (Str.ofString "kyber_py.polynomials.polynomials_generic") 194), none, some (Value.ref 0)] }
noncomputable def ob29 (_ : Params) : Obj := { cls := Value.type "tuple", data := Data.seq #[] }
noncomputable def ob30 (_ : Params) : Obj := { cls := Value.none, data := Data.fields #[] }
noncomputable def ob31 (_ : Params) : Obj := { cls := Value.type "tuple", data := Data.seq #[Value.str (Str.ofString "self") 211, Value.str (Str.ofString "q") 212, Value.str (Str.ofString "n") 213] }
noncomputable def ob32 (_ : Params) : Obj := { cls := Value.type "tuple", data := Data.seq #[] }
noncomputable def ob33 (_ : Params) : Obj := fO (Value.none) (defAt 2 0) (Str.ofString "GenericPolynomialRing.__init__") 0 ([]) (Value.none) (Value.none) (Value.none) (Value.none) (none) (Value.none) (Value.none) 0
noncomputable def ob34 (_ : Params) : Obj := { cls := Value.type "code", data := Data.fields #[Value.str (Str.ofString "__init__") 208, Value.str (Str.ofString "GenericPolynomialRing.__init__") 209, Value.str (Str.ofString "/claim/cut.py") 210, Value.int 7 0, Value.int 3 0, Value.int 0 0, Value.int 0 0, Value.int 3 0, Value.ref 29, Value.bool true, Value.int 181 0, Value.ref 30, Value.none, Value.ref 31, Value.ref 32, Value.ref 33, Value.int 214 0, Value.int 7 0, Value.str (Str.ofString "/claim/cut.py") 215] }
noncomputable def ob35 (_ : Params) : Obj := fO (Value.type "function") (defAt 2 0) (Str.ofString "GenericPolynomialRing.__init__") 3 ([]) (Value.none) (Value.none) (Value.none) (Value.str (Str.ofString "kyber_py.polynomials.polynomials_generic") 194) (none) (Value.ref 34) (Value.none) 0
noncomputable def ob36 (_ : Params) : Obj := { cls := Value.type "tuple", data := Data.seq #[] }
noncomputable def ob37 (_ : Params) : Obj := { cls := Value.none, data := Data.fields #[] }
noncomputable def ob38 (_ : Params) : Obj := { cls := Value.type "tuple", data := Data.seq #[Value.str (Str.ofString "self") 220] }
noncomputable def ob39 (_ : Params) : Obj := { cls := Value.type "tuple", data := Data.seq #[] }
noncomputable def ob40 (_ : Params) : Obj := fO (Value.none) (defAt 2 1) (Str.ofString "GenericPolynomialRing.zero") 0 ([]) (Value.none) (Value.none) (Value.none) (Value.none) (none) (Value.none) (Value.none) 0
noncomputable def ob41 (_ : Params) : Obj := { cls := Value.type "code", data := Data.fields #[Value.str (Str.ofString "zero") 217, Value.str (Str.ofString "GenericPolynomialRing.zero") 218, Value.str (Str.ofString "/claim/cut.py") 219, Value.int 11 0, Value.int 1 0, Value.int 0 0, Value.int 0 0, Value.int 3 0, Value.ref 36, Value.bool true, Value.int 181 0, Value.ref 37, Value.none, Value.ref 38, Value.ref 39, Value.ref 40, Value.int 221 0, Value.int 11 0, Value.str (Str.ofString "/claim/cut.py") 222] }
noncomputable def ob42 (_ : Params) : Obj := fO (Value.type "function") (defAt 2 1) (Str.ofString "GenericPolynomialRing.zero") 3 ([]) (Value.none) (Value.none) (Value.none) (Value.str (Str.ofString "kyber_py.polynomials.polynomials_generic") 194) (none) (Value.ref 41) (Value.none) 0
noncomputable def ob43 (_ : Params) : Obj := { cls := Value.type "tuple", data := Data.seq #[] }
noncomputable def ob44 (_ : Params) : Obj := { cls := Value.none, data := Data.fields #[] }
noncomputable def ob45 (_ : Params) : Obj := { cls := Value.type "tuple", data := Data.seq #[Value.str (Str.ofString "self") 227] }
noncomputable def ob46 (_ : Params) : Obj := { cls := Value.type "tuple", data := Data.seq #[] }
noncomputable def ob47 (_ : Params) : Obj := fO (Value.none) (defAt 2 2) (Str.ofString "GenericPolynomialRing.gen") 0 ([]) (Value.none) (Value.none) (Value.none) (Value.none) (none) (Value.none) (Value.none) 0
noncomputable def ob48 (_ : Params) : Obj := { cls := Value.type "code", data := Data.fields #[Value.str (Str.ofString "gen") 224, Value.str (Str.ofString "GenericPolynomialRing.gen") 225, Value.str (Str.ofString "/claim/cut.py") 226, Value.int 14 0, Value.int 1 0, Value.int 0 0, Value.int 0 0, Value.int 3 0, Value.ref 43, Value.bool true, Value.int 181 0, Value.ref 44, Value.none, Value.ref 45, Value.ref 46, Value.ref 47, Value.int 228 0, Value.int 14 0, Value.str (Str.ofString "/claim/cut.py") 229] }
noncomputable def ob49 (_ : Params) : Obj := fO (Value.type "function") (defAt 2 2) (Str.ofString "GenericPolynomialRing.gen") 3 ([]) (Value.none) (Value.none) (Value.none) (Value.str (Str.ofString "kyber_py.polynomials.polynomials_generic") 194) (none) (Value.ref 48) (Value.none) 0
noncomputable def ob50 (_ : Params) : Obj := { cls := Value.type "tuple", data := Data.seq #[] }
noncomputable def ob51 (_ : Params) : Obj := { cls := Value.none, data := Data.fields #[] }
noncomputable def ob52 (_ : Params) : Obj := { cls := Value.type "tuple", data := Data.seq #[Value.str (Str.ofString "self") 234, Value.str (Str.ofString "coefficients") 235] }
noncomputable def ob53 (_ : Params) : Obj := { cls := Value.type "tuple", data := Data.seq #[] }
noncomputable def ob54 (_ : Params) : Obj := fO (Value.none) (defAt 2 3) (Str.ofString "GenericPolynomialRing.__call__") 0 ([]) (Value.none) (Value.none) (Value.none) (Value.none) (none) (Value.none) (Value.none) 0
noncomputable def ob55 (_ : Params) : Obj := { cls := Value.type "code", data := Data.fields #[Value.str (Str.ofString "__call__") 231, Value.str (Str.ofString "GenericPolynomialRing.__call__") 232, Value.str (Str.ofString "/claim/cut.py") 233, Value.int 17 0, Value.int 2 0, Value.int 0 0, Value.int 0 0, Value.int 3 0, Value.ref 50, Value.bool true, Value.int 181 0, Value.ref 51, Value.none, Value.ref 52, Value.ref 53, Value.ref 54, Value.int 236 0, Value.int 17 0, Value.str (Str.ofString "/claim/cut.py") 237] }
noncomputable def ob56 (_ : Params) : Obj := fO (Value.type "function") (defAt 2 3) (Str.ofString "GenericPolynomialRing.__call__") 3 ([]) (Value.none) (Value.none) (Value.none) (Value.str (Str.ofString "kyber_py.polynomials.polynomials_generic") 194) (none) (Value.ref 55) (Value.none) 0
noncomputable def ob57 (_ : Params) : Obj := { cls := Value.type "tuple", data := Data.seq #[Value.str (Str.ofString "n") 239, Value.str (Str.ofString "q") 240] }
noncomputable def ob58 (P : Params) : Obj := { cls := Value.type "dict", data := Data.dict #[{ hash := PyData.keyHash P (Str.ofString "__module__"), key := Value.str (Str.ofString "__module__") 203, val := Value.str (Str.ofString "kyber_py.polynomials.polynomials_generic") 194 }, { hash := PyData.keyHash P (Str.ofString "__firstlineno__"), key := Value.str (Str.ofString "__firstlineno__") 207, val := Value.int 5 206 }, { hash := PyData.keyHash P (Str.ofString "__init__"), key := Value.str (Str.ofString "__init__") 216, val := Value.ref 35 }, { hash := PyData.keyHash P (Str.ofString "zero"), key := Value.str (Str.ofString "zero") 223, val := Value.ref 42 }, { hash := PyData.keyHash P (Str.ofString "gen"), key := Value.str (Str.ofString "gen") 230, val := Value.ref 49 }, { hash := PyData.keyHash P (Str.ofString "__call__"), key := Value.str (Str.ofString "__call__") 238, val := Value.ref 56 }, { hash := PyData.keyHash P (Str.ofString "__static_attributes__"), key := Value.str (Str.ofString "__static_attributes__") 241, val := Value.ref 57 }, { hash := PyData.keyHash P (Str.ofString "__dict__"), key := Value.str (Str.ofString "__dict__") 243, val := Value.ref 60 }, { hash := PyData.keyHash P (Str.ofString "__weakref__"), key := Value.str (Str.ofString "__weakref__") 245, val := Value.ref 61 }, { hash := PyData.keyHash P (Str.ofString "__doc__"), key := Value.str (Str.ofString "__doc__") 246, val := Value.none }] 4 }
noncomputable def ob59 (_ : Params) : Obj := { cls := Value.type "type", data := Data.cls { name := Str.ofString "GenericPolynomialRing", bases := [Value.type "object"], mro := [Value.ref 59, Value.type "object"], ns := 58, qualname := Str.ofString "GenericPolynomialRing" }, slots := #[none, none, some (Value.str (Str.ofString "GenericPolynomialRing") 196), some (Value.str (Str.ofString "GenericPolynomialRing") 204), some (Value.builtin "object.__new__"), some (Value.bool true)] }
noncomputable def ob60 (_ : Params) : Obj := { cls := Value.type "getset_descriptor", data := Data.fields #[Value.str (Str.ofString "__dict__") 242, Value.ref 59, Value.builtin "function.__dict__", Value.builtin "function.__dict__#set"] }
noncomputable def ob61 (_ : Params) : Obj := { cls := Value.type "getset_descriptor", data := Data.fields #[Value.str (Str.ofString "__weakref__") 244, Value.ref 59, Value.builtin "ExceptionGroup.__weakref__", Value.none] }
noncomputable def ob62 (_ : Params) : Obj := { cls := Value.type "super", data := Data.fields #[Value.ref 59, Value.ref 59, Value.ref 59] }
noncomputable def ob63 (_ : Params) : Obj := { cls := Value.type "builtin_function_or_method", data := Data.fields #[Value.builtin "object.__init_subclass__", Value.ref 59] }
noncomputable def ob64 (_ : Params) : Obj := { cls := Value.type "tuple", data := Data.seq #[] }
noncomputable def ob65 (_ : Params) : Obj := { cls := Value.type "builtin_function_or_method", data := Data.fields #[Value.builtin "type.__prepare__", Value.type "type"] }
noncomputable def ob66 (P : Params) : Obj := { cls := Value.type "dict", data := Data.dict #[{ hash := PyData.keyHash P (Str.ofString "__module__"), key := Value.str (Str.ofString "__module__") 256, val := Value.str (Str.ofString "kyber_py.polynomials.polynomials_generic") 194 }, { hash := PyData.keyHash P (Str.ofString "__qualname__"), key := Value.str (Str.ofString "__qualname__") 258, val := Value.str (Str.ofString "GenericPolynomial") 257 }, { hash := PyData.keyHash P (Str.ofString "__firstlineno__"), key := Value.str (Str.ofString "__firstlineno__") 260, val := Value.int 23 259 }, { hash := PyData.keyHash P (Str.ofString "__init__"), key := Value.str (Str.ofString "__init__") 269, val := Value.ref 77 }, { hash := PyData.keyHash P (Str.ofString "is_zero"), key := Value.str (Str.ofString "is_zero") 276, val := Value.ref 84 }, { hash := PyData.keyHash P (Str.ofString "is_constant"), key := Value.str (Str.ofString "is_constant") 283, val := Value.ref 91 }, { hash := PyData.keyHash P (Str.ofString "_parse_coefficients"), key := Value.str (Str.ofString "_parse_coefficients") 289, val := Value.ref 96 }, { hash := PyData.keyHash P (Str.ofString "reduce_coefficients"), key := Value.str (Str.ofString "reduce_coefficients") 295, val := Value.ref 101 }, { hash := PyData.keyHash P (Str.ofString "_add_mod_q"), key := Value.str (Str.ofString "_add_mod_q") 304, val := Value.ref 108 }, { hash := PyData.keyHash P (Str.ofString "_sub_mod_q"), key := Value.str (Str.ofString "_sub_mod_q") 313, val := Value.ref 115 }, { hash := PyData.keyHash P (Str.ofString "_schoolbook_multiplication"), key := Value.str (Str.ofString "_schoolbook_multiplication") 319, val := Value.ref 120 }, { hash := PyData.keyHash P (Str.ofString "__neg__"), key := Value.str (Str.ofString "__neg__") 325, val := Value.ref 125 }, { hash := PyData.keyHash P (Str.ofString "_add_"), key := Value.str (Str.ofString "_add_") 331, val := Value.ref 130 }, { hash := PyData.keyHash P (Str.ofString "__add__"), key := Value.str (Str.ofString "__add__") 340, val := Value.ref 137 }, { hash := PyData.keyHash P (Str.ofString "__radd__"), key := Value.str (Str.ofString "__radd__") 348, val := Value.ref 144 }, { hash := PyData.keyHash P (Str.ofString "__iadd__"), key := Value.str (Str.ofString "__iadd__") 356, val := Value.ref 151 }, { hash := PyData.keyHash P (Str.ofString "_sub_"), key := Value.str (Str.ofString "_sub_") 362, val := Value.ref 156 }, { hash := PyData.keyHash P (Str.ofString "__sub__"), key := Value.str (Str.ofString "__sub__") 371, val := Value.ref 163 }, { hash := PyData.keyHash P (Str.ofString "__rsub__"), key := Value.str (Str.ofString "__rsub__") 379, val := Value.ref 170 }, { hash := PyData.keyHash P (Str.ofString "__isub__"), key := Value.str (Str.ofString "__isub__") 387, val := Value.ref 177 }, { hash := PyData.keyHash P (Str.ofString "__mul__"), key := Value.str (Str.ofString "__mul__") 393, val := Value.ref 182 }, { hash := PyData.keyHash P (Str.ofString "__rmul__"), key := Value.str (Str.ofString "__rmul__") 401, val := Value.ref 189 }, { hash := PyData.keyHash P (Str.ofString "__imul__"), key := Value.str (Str.ofString "__imul__") 409, val := Value.ref 196 }, { hash := PyData.keyHash P (Str.ofString "__pow__"), key := Value.str (Str.ofString "__pow__") 419, val := Value.ref 203 }, { hash := PyData.keyHash P (Str.ofString "__eq__"), key := Value.str (Str.ofString "__eq__") 427, val := Value.ref 210 }, { hash := PyData.keyHash P (Str.ofString "__getitem__"), key := Value.str (Str.ofString "__getitem__") 435, val := Value.ref 217 }, { hash := PyData.keyHash P (Str.ofString "__static_attributes__"), key := Value.str (Str.ofString "__static_attributes__") 438, val := Value.ref 218 }] 27 }
noncomputable def ob67 (_ : Params) : Obj := { cls := Value.type "tuple", data := Data.seq #[] }
noncomputable def ob68 (_ : Params) : Obj := { cls := Value.none, data := Data.fields #[Value.int 25 0, Value.int 4 0, Value.ref 76, Value.int 29 0, Value.int 4 0, Value.ref 83, Value.int 32 0, Value.int 4 0, Value.ref 90, Value.int 35 0, Value.int 4 0, Value.ref 95, Value.int 43 0, Value.int 4 0, Value.ref 100, Value.int 47 0, Value.int 4 0, Value.ref 107, Value.int 50 0, Value.int 4 0, Value.ref 114, Value.int 53 0, Value.int 4 0, Value.ref 119, Value.int 66 0, Value.int 4 0, Value.ref 124, Value.int 70 0, Value.int 4 0, Value.ref 129, Value.int 80 0, Value.int 4 0, Value.ref 136, Value.int 84 0, Value.int 4 0, Value.ref 143, Value.int 87 0, Value.int 4 0, Value.ref 150, Value.int 91 0, Value.int 4 0, Value.ref 155, Value.int 101 0, Value.int 4 0, Value.ref 162, Value.int 105 0, Value.int 4 0, Value.ref 169, Value.int 108 0, Value.int 4 0, Value.ref 176, Value.int 112 0, Value.int 4 0, Value.ref 181, Value.int 121 0, Value.int 4 0, Value.ref 188, Value.int 124 0, Value.int 4 0, Value.ref 195, Value.int 128 0, Value.int 4 0, Value.ref 202, Value.int 142 0, Value.int 4 0, Value.ref 209, Value.int 150 0, Value.int 4 0, Value.ref 216] }
noncomputable def ob69 (_ : Params) : Obj := { cls := Value.type "code", data := Data.fields #[Value.str (Str.ofString "GenericPolynomial") 251, Value.str (Str.ofString "GenericPolynomial") 252, Value.str (Str.ofString "/claim/cut.py") 253, Value.int 23 0, Value.int 0 0, Value.int 0 0, Value.int 0 0, Value.int 0 0, Value.ref 67, Value.bool false, Value.int 181 0, Value.ref 68, Value.none, Value.none, Value.none, Value.none, Value.int 254 0, Value.int 23 0, Value.str (Str.ofString "/claim/cut.py") 255] }
noncomputable def ob70 (_ : Params) : Obj := { cls := Value.type "frame", slots := #[some (Value.ref 69), some (Value.ref 3), some (Value.ref 66), none, some (Value.str (Str.ofString "kyber_py.polynomials.polynomials_generic") 194), none, some (Value.ref 0)] }
noncomputable def ob71 (_ : Params) : Obj := { cls := Value.type "tuple", data := Data.seq #[] }
noncomputable def ob72 (_ : Params) : Obj := { cls := Value.none, data := Data.fields #[] }
noncomputable def ob73 (_ : Params) : Obj := { cls := Value.type "tuple", data := Data.seq #[Value.str (Str.ofString "self") 264, Value.str (Str.ofString "parent") 265, Value.str (Str.ofString "coefficients") 266] }
noncomputable def ob74 (_ : Params) : Obj := { cls := Value.type "tuple", data := Data.seq #[] }
noncomputable def ob75 (_ : Params) : Obj := fO (Value.none) (defAt 3 0) (Str.ofString "GenericPolynomial.__init__") 0 ([]) (Value.none) (Value.none) (Value.none) (Value.none) (none) (Value.none) (Value.none) 0
noncomputable def ob76 (_ : Params) : Obj := { cls := Value.type "code", data := Data.fields #[Value.str (Str.ofString "__init__") 261, Value.str (Str.ofString "GenericPolynomial.__init__") 262, Value.str (Str.ofString "/claim/cut.py") 263, Value.int 25 0, Value.int 3 0, Value.int 0 0, Value.int 0 0, Value.int 3 0, Value.ref 71, Value.bool true, Value.int 181 0, Value.ref 72, Value.none, Value.ref 73, Value.ref 74, Value.ref 75, Value.int 267 0, Value.int 25 0, Value.str (Str.ofString "/claim/cut.py") 268] }
noncomputable def ob77 (_ : Params) : Obj := fO (Value.type "function") (defAt 3 0) (Str.ofString "GenericPolynomial.__init__") 3 ([]) (Value.none) (Value.none) (Value.none) (Value.str (Str.ofString "kyber_py.polynomials.polynomials_generic") 194) (none) (Value.ref 76) (Value.none) 0
noncomputable def ob78 (_ : Params) : Obj := { cls := Value.type "tuple", data := Data.seq #[] }
noncomputable def ob79 (_ : Params) : Obj := { cls := Value.none, data := Data.fields #[] }
noncomputable def ob80 (_ : Params) : Obj := { cls := Value.type "tuple", data := Data.seq #[Value.str (Str.ofString "self") 273] }
noncomputable def ob81 (_ : Params) : Obj := { cls := Value.type "tuple", data := Data.seq #[] }
noncomputable def ob82 (_ : Params) : Obj := fO (Value.none) (defAt 3 1) (Str.ofString "GenericPolynomial.is_zero") 0 ([]) (Value.none) (Value.none) (Value.none) (Value.none) (none) (Value.none) (Value.none) 0
noncomputable def ob83 (_ : Params) : Obj := { cls := Value.type "code", data := Data.fields #[Value.str (Str.ofString "is_zero") 270, Value.str (Str.ofString "GenericPolynomial.is_zero") 271, Value.str (Str.ofString "/claim/cut.py") 272, Value.int 29 0, Value.int 1 0, Value.int 0 0, Value.int 0 0, Value.int 3 0, Value.ref 78, Value.bool true, Value.int 181 0, Value.ref 79, Value.none, Value.ref 80, Value.ref 81, Value.ref 82, Value.int 274 0, Value.int 29 0, Value.str (Str.ofString "/claim/cut.py") 275] }
noncomputable def ob84 (_ : Params) : Obj := fO (Value.type "function") (defAt 3 1) (Str.ofString "GenericPolynomial.is_zero") 3 ([]) (Value.none) (Value.none) (Value.none) (Value.str (Str.ofString "kyber_py.polynomials.polynomials_generic") 194) (none) (Value.ref 83) (Value.none) 0
noncomputable def ob85 (_ : Params) : Obj := { cls := Value.type "tuple", data := Data.seq #[] }
noncomputable def ob86 (_ : Params) : Obj := { cls := Value.none, data := Data.fields #[] }
noncomputable def ob87 (_ : Params) : Obj := { cls := Value.type "tuple", data := Data.seq #[Value.str (Str.ofString "self") 280] }
noncomputable def ob88 (_ : Params) : Obj := { cls := Value.type "tuple", data := Data.seq #[] }
noncomputable def ob89 (_ : Params) : Obj := fO (Value.none) (defAt 3 2) (Str.ofString "GenericPolynomial.is_constant") 0 ([]) (Value.none) (Value.none) (Value.none) (Value.none) (none) (Value.none) (Value.none) 0
noncomputable def ob90 (_ : Params) : Obj := { cls := Value.type "code", data := Data.fields #[Value.str (Str.ofString "is_constant") 277, Value.str (Str.ofString "GenericPolynomial.is_constant") 278, Value.str (Str.ofString "/claim/cut.py") 279, Value.int 32 0, Value.int 1 0, Value.int 0 0, Value.int 0 0, Value.int 3 0, Value.ref 85, Value.bool true, Value.int 181 0, Value.ref 86, Value.none, Value.ref 87, Value.ref 88, Value.ref 89, Value.int 281 0, Value.int 32 0, Value.str (Str.ofString "/claim/cut.py") 282] }
noncomputable def ob91 (_ : Params) : Obj := fO (Value.type "function") (defAt 3 2) (Str.ofString "GenericPolynomial.is_constant") 3 ([]) (Value.none) (Value.none) (Value.none) (Value.str (Str.ofString "kyber_py.polynomials.polynomials_generic") 194) (none) (Value.ref 90) (Value.none) 0
noncomputable def ob92 (_ : Params) : Obj := { cls := Value.type "tuple", data := Data.seq #[] }
noncomputable def ob93 (_ : Params) : Obj := { cls := Value.none, data := Data.fields #[] }
noncomputable def ob94 (_ : Params) : Obj := fO (Value.none) (defAt 3 3) (Str.ofString "GenericPolynomial._parse_coefficients") 0 ([]) (Value.none) (Value.none) (Value.none) (Value.none) (none) (Value.none) (Value.none) 0
noncomputable def ob95 (_ : Params) : Obj := { cls := Value.type "code", data := Data.fields #[Value.str (Str.ofString "_parse_coefficients") 284, Value.str (Str.ofString "GenericPolynomial._parse_coefficients") 285, Value.str (Str.ofString "/claim/cut.py") 286, Value.int 35 0, Value.int 2 0, Value.int 0 0, Value.int 0 0, Value.int 3 0, Value.ref 92, Value.bool true, Value.int 181 0, Value.ref 93, Value.none, Value.none, Value.none, Value.ref 94, Value.int 287 0, Value.int 35 0, Value.str (Str.ofString "/claim/cut.py") 288] }
noncomputable def ob96 (_ : Params) : Obj := fO (Value.type "function") (defAt 3 3) (Str.ofString "GenericPolynomial._parse_coefficients") 3 ([]) (Value.none) (Value.none) (Value.none) (Value.str (Str.ofString "kyber_py.polynomials.polynomials_generic") 194) (none) (Value.ref 95) (Value.none) 0
noncomputable def ob97 (_ : Params) : Obj := { cls := Value.type "tuple", data := Data.seq #[] }
noncomputable def ob98 (_ : Params) : Obj := { cls := Value.none, data := Data.fields #[] }
noncomputable def ob99 (_ : Params) : Obj := fO (Value.none) (defAt 3 4) (Str.ofString "GenericPolynomial.reduce_coefficients") 0 ([]) (Value.none) (Value.none) (Value.none) (Value.none) (none) (Value.none) (Value.none) 0
noncomputable def ob100 (_ : Params) : Obj := { cls := Value.type "code", data := Data.fields #[Value.str (Str.ofString "reduce_coefficients") 290, Value.str (Str.ofString "GenericPolynomial.reduce_coefficients") 291, Value.str (Str.ofString "/claim/cut.py") 292, Value.int 43 0, Value.int 1 0, Value.int 0 0, Value.int 0 0, Value.int 3 0, Value.ref 97, Value.bool true, Value.int 181 0, Value.ref 98, Value.none, Value.none, Value.none, Value.ref 99, Value.int 293 0, Value.int 43 0, Value.str (Str.ofString "/claim/cut.py") 294] }
noncomputable def ob101 (_ : Params) : Obj := fO (Value.type "function") (defAt 3 4) (Str.ofString "GenericPolynomial.reduce_coefficients") 3 ([]) (Value.none) (Value.none) (Value.none) (Value.str (Str.ofString "kyber_py.polynomials.polynomials_generic") 194) (none) (Value.ref 100) (Value.none) 0
noncomputable def ob102 (_ : Params) : Obj := { cls := Value.type "tuple", data := Data.seq #[] }
noncomputable def ob103 (_ : Params) : Obj := { cls := Value.none, data := Data.fields #[] }
noncomputable def ob104 (_ : Params) : Obj := { cls := Value.type "tuple", data := Data.seq #[Value.str (Str.ofString "self") 299, Value.str (Str.ofString "x") 300, Value.str (Str.ofString "y") 301] }
noncomputable def ob105 (_ : Params) : Obj := { cls := Value.type "tuple", data := Data.seq #[] }
noncomputable def ob106 (_ : Params) : Obj := fO (Value.none) (defAt 3 5) (Str.ofString "GenericPolynomial._add_mod_q") 0 ([]) (Value.none) (Value.none) (Value.none) (Value.none) (none) (Value.none) (Value.none) 0
noncomputable def ob107 (_ : Params) : Obj := { cls := Value.type "code", data := Data.fields #[Value.str (Str.ofString "_add_mod_q") 296, Value.str (Str.ofString "GenericPolynomial._add_mod_q") 297, Value.str (Str.ofString "/claim/cut.py") 298, Value.int 47 0, Value.int 3 0, Value.int 0 0, Value.int 0 0, Value.int 3 0, Value.ref 102, Value.bool true, Value.int 181 0, Value.ref 103, Value.none, Value.ref 104, Value.ref 105, Value.ref 106, Value.int 302 0, Value.int 47 0, Value.str (Str.ofString "/claim/cut.py") 303] }
noncomputable def ob108 (_ : Params) : Obj := fO (Value.type "function") (defAt 3 5) (Str.ofString "GenericPolynomial._add_mod_q") 3 ([]) (Value.none) (Value.none) (Value.none) (Value.str (Str.ofString "kyber_py.polynomials.polynomials_generic") 194) (none) (Value.ref 107) (Value.none) 0
noncomputable def ob109 (_ : Params) : Obj := { cls := Value.type "tuple", data := Data.seq #[] }
noncomputable def ob110 (_ : Params) : Obj := { cls := Value.none, data := Data.fields #[] }
noncomputable def ob111 (_ : Params) : Obj := { cls := Value.type "tuple", data := Data.seq #[Value.str (Str.ofString "self") 308, Value.str (Str.ofString "x") 309, Value.str (Str.ofString "y") 310] }
noncomputable def ob112 (_ : Params) : Obj := { cls := Value.type "tuple", data := Data.seq #[] }
noncomputable def ob113 (_ : Params) : Obj := fO (Value.none) (defAt 3 6) (Str.ofString "GenericPolynomial._sub_mod_q") 0 ([]) (Value.none) (Value.none) (Value.none) (Value.none) (none) (Value.none) (Value.none) 0
noncomputable def ob114 (_ : Params) : Obj := { cls := Value.type "code", data := Data.fields #[Value.str (Str.ofString "_sub_mod_q") 305, Value.str (Str.ofString "GenericPolynomial._sub_mod_q") 306, Value.str (Str.ofString "/claim/cut.py") 307, Value.int 50 0, Value.int 3 0, Value.int 0 0, Value.int 0 0, Value.int 3 0, Value.ref 109, Value.bool true, Value.int 181 0, Value.ref 110, Value.none, Value.ref 111, Value.ref 112, Value.ref 113, Value.int 311 0, Value.int 50 0, Value.str (Str.ofString "/claim/cut.py") 312] }
noncomputable def ob115 (_ : Params) : Obj := fO (Value.type "function") (defAt 3 6) (Str.ofString "GenericPolynomial._sub_mod_q") 3 ([]) (Value.none) (Value.none) (Value.none) (Value.str (Str.ofString "kyber_py.polynomials.polynomials_generic") 194) (none) (Value.ref 114) (Value.none) 0
noncomputable def ob116 (_ : Params) : Obj := { cls := Value.type "tuple", data := Data.seq #[] }
noncomputable def ob117 (_ : Params) : Obj := { cls := Value.none, data := Data.fields #[] }
noncomputable def ob118 (_ : Params) : Obj := fO (Value.none) (defAt 3 7) (Str.ofString "GenericPolynomial._schoolbook_multiplication") 0 ([]) (Value.none) (Value.none) (Value.none) (Value.none) (none) (Value.none) (Value.none) 0
noncomputable def ob119 (_ : Params) : Obj := { cls := Value.type "code", data := Data.fields #[Value.str (Str.ofString "_schoolbook_multiplication") 314, Value.str (Str.ofString "GenericPolynomial._schoolbook_multiplication") 315, Value.str (Str.ofString "/claim/cut.py") 316, Value.int 53 0, Value.int 2 0, Value.int 0 0, Value.int 0 0, Value.int 3 0, Value.ref 116, Value.bool true, Value.int 181 0, Value.ref 117, Value.none, Value.none, Value.none, Value.ref 118, Value.int 317 0, Value.int 53 0, Value.str (Str.ofString "/claim/cut.py") 318] }
noncomputable def ob120 (_ : Params) : Obj := fO (Value.type "function") (defAt 3 7) (Str.ofString "GenericPolynomial._schoolbook_multiplication") 3 ([]) (Value.none) (Value.none) (Value.none) (Value.str (Str.ofString "kyber_py.polynomials.polynomials_generic") 194) (none) (Value.ref 119) (Value.none) 0
noncomputable def ob121 (_ : Params) : Obj := { cls := Value.type "tuple", data := Data.seq #[] }
noncomputable def ob122 (_ : Params) : Obj := { cls := Value.none, data := Data.fields #[] }
noncomputable def ob123 (_ : Params) : Obj := fO (Value.none) (defAt 3 8) (Str.ofString "GenericPolynomial.__neg__") 0 ([]) (Value.none) (Value.none) (Value.none) (Value.none) (none) (Value.none) (Value.none) 0
noncomputable def ob124 (_ : Params) : Obj := { cls := Value.type "code", data := Data.fields #[Value.str (Str.ofString "__neg__") 320, Value.str (Str.ofString "GenericPolynomial.__neg__") 321, Value.str (Str.ofString "/claim/cut.py") 322, Value.int 66 0, Value.int 1 0, Value.int 0 0, Value.int 0 0, Value.int 3 0, Value.ref 121, Value.bool true, Value.int 181 0, Value.ref 122, Value.none, Value.none, Value.none, Value.ref 123, Value.int 323 0, Value.int 66 0, Value.str (Str.ofString "/claim/cut.py") 324] }
noncomputable def ob125 (_ : Params) : Obj := fO (Value.type "function") (defAt 3 8) (Str.ofString "GenericPolynomial.__neg__") 3 ([]) (Value.none) (Value.none) (Value.none) (Value.str (Str.ofString "kyber_py.polynomials.polynomials_generic") 194) (none) (Value.ref 124) (Value.none) 0
noncomputable def ob126 (_ : Params) : Obj := { cls := Value.type "tuple", data := Data.seq #[] }
noncomputable def ob127 (_ : Params) : Obj := { cls := Value.none, data := Data.fields #[] }
noncomputable def ob128 (_ : Params) : Obj := fO (Value.none) (defAt 3 9) (Str.ofString "GenericPolynomial._add_") 0 ([]) (Value.none) (Value.none) (Value.none) (Value.none) (none) (Value.none) (Value.none) 0
noncomputable def ob129 (_ : Params) : Obj := { cls := Value.type "code", data := Data.fields #[Value.str (Str.ofString "_add_") 326, Value.str (Str.ofString "GenericPolynomial._add_") 327, Value.str (Str.ofString "/claim/cut.py") 328, Value.int 70 0, Value.int 2 0, Value.int 0 0, Value.int 0 0, Value.int 3 0, Value.ref 126, Value.bool true, Value.int 181 0, Value.ref 127, Value.none, Value.none, Value.none, Value.ref 128, Value.int 329 0, Value.int 70 0, Value.str (Str.ofString "/claim/cut.py") 330] }
noncomputable def ob130 (_ : Params) : Obj := fO (Value.type "function") (defAt 3 9) (Str.ofString "GenericPolynomial._add_") 3 ([]) (Value.none) (Value.none) (Value.none) (Value.str (Str.ofString "kyber_py.polynomials.polynomials_generic") 194) (none) (Value.ref 129) (Value.none) 0
noncomputable def ob131 (_ : Params) : Obj := { cls := Value.type "tuple", data := Data.seq #[] }
noncomputable def ob132 (_ : Params) : Obj := { cls := Value.none, data := Data.fields #[] }
noncomputable def ob133 (_ : Params) : Obj := { cls := Value.type "tuple", data := Data.seq #[Value.str (Str.ofString "self") 335, Value.str (Str.ofString "other") 336, Value.str (Str.ofString "new_coeffs") 337] }
noncomputable def ob134 (_ : Params) : Obj := { cls := Value.type "tuple", data := Data.seq #[] }
noncomputable def ob135 (_ : Params) : Obj := fO (Value.none) (defAt 3 10) (Str.ofString "GenericPolynomial.__add__") 0 ([]) (Value.none) (Value.none) (Value.none) (Value.none) (none) (Value.none) (Value.none) 0
noncomputable def ob136 (_ : Params) : Obj := { cls := Value.type "code", data := Data.fields #[Value.str (Str.ofString "__add__") 332, Value.str (Str.ofString "GenericPolynomial.__add__") 333, Value.str (Str.ofString "/claim/cut.py") 334, Value.int 80 0, Value.int 2 0, Value.int 0 0, Value.int 0 0, Value.int 3 0, Value.ref 131, Value.bool true, Value.int 181 0, Value.ref 132, Value.none, Value.ref 133, Value.ref 134, Value.ref 135, Value.int 338 0, Value.int 80 0, Value.str (Str.ofString "/claim/cut.py") 339] }
noncomputable def ob137 (_ : Params) : Obj := fO (Value.type "function") (defAt 3 10) (Str.ofString "GenericPolynomial.__add__") 3 ([]) (Value.none) (Value.none) (Value.none) (Value.str (Str.ofString "kyber_py.polynomials.polynomials_generic") 194) (none) (Value.ref 136) (Value.none) 0
noncomputable def ob138 (_ : Params) : Obj := { cls := Value.type "tuple", data := Data.seq #[] }
noncomputable def ob139 (_ : Params) : Obj := { cls := Value.none, data := Data.fields #[] }
noncomputable def ob140 (_ : Params) : Obj := { cls := Value.type "tuple", data := Data.seq #[Value.str (Str.ofString "self") 344, Value.str (Str.ofString "other") 345] }
noncomputable def ob141 (_ : Params) : Obj := { cls := Value.type "tuple", data := Data.seq #[] }
noncomputable def ob142 (_ : Params) : Obj := fO (Value.none) (defAt 3 11) (Str.ofString "GenericPolynomial.__radd__") 0 ([]) (Value.none) (Value.none) (Value.none) (Value.none) (none) (Value.none) (Value.none) 0
noncomputable def ob143 (_ : Params) : Obj := { cls := Value.type "code", data := Data.fields #[Value.str (Str.ofString "__radd__") 341, Value.str (Str.ofString "GenericPolynomial.__radd__") 342, Value.str (Str.ofString "/claim/cut.py") 343, Value.int 84 0, Value.int 2 0, Value.int 0 0, Value.int 0 0, Value.int 3 0, Value.ref 138, Value.bool true, Value.int 181 0, Value.ref 139, Value.none, Value.ref 140, Value.ref 141, Value.ref 142, Value.int 346 0, Value.int 84 0, Value.str (Str.ofString "/claim/cut.py") 347] }
noncomputable def ob144 (_ : Params) : Obj := fO (Value.type "function") (defAt 3 11) (Str.ofString "GenericPolynomial.__radd__") 3 ([]) (Value.none) (Value.none) (Value.none) (Value.str (Str.ofString "kyber_py.polynomials.polynomials_generic") 194) (none) (Value.ref 143) (Value.none) 0
noncomputable def ob145 (_ : Params) : Obj := { cls := Value.type "tuple", data := Data.seq #[] }
noncomputable def ob146 (_ : Params) : Obj := { cls := Value.none, data := Data.fields #[] }
noncomputable def ob147 (_ : Params) : Obj := { cls := Value.type "tuple", data := Data.seq #[Value.str (Str.ofString "self") 352, Value.str (Str.ofString "other") 353] }
noncomputable def ob148 (_ : Params) : Obj := { cls := Value.type "tuple", data := Data.seq #[] }
noncomputable def ob149 (_ : Params) : Obj := fO (Value.none) (defAt 3 12) (Str.ofString "GenericPolynomial.__iadd__") 0 ([]) (Value.none) (Value.none) (Value.none) (Value.none) (none) (Value.none) (Value.none) 0
noncomputable def ob150 (_ : Params) : Obj := { cls := Value.type "code", data := Data.fields #[Value.str (Str.ofString "__iadd__") 349, Value.str (Str.ofString "GenericPolynomial.__iadd__") 350, Value.str (Str.ofString "/claim/cut.py") 351, Value.int 87 0, Value.int 2 0, Value.int 0 0, Value.int 0 0, Value.int 3 0, Value.ref 145, Value.bool true, Value.int 181 0, Value.ref 146, Value.none, Value.ref 147, Value.ref 148, Value.ref 149, Value.int 354 0, Value.int 87 0, Value.str (Str.ofString "/claim/cut.py") 355] }
noncomputable def ob151 (_ : Params) : Obj := fO (Value.type "function") (defAt 3 12) (Str.ofString "GenericPolynomial.__iadd__") 3 ([]) (Value.none) (Value.none) (Value.none) (Value.str (Str.ofString "kyber_py.polynomials.polynomials_generic") 194) (none) (Value.ref 150) (Value.none) 0
noncomputable def ob152 (_ : Params) : Obj := { cls := Value.type "tuple", data := Data.seq #[] }
noncomputable def ob153 (_ : Params) : Obj := { cls := Value.none, data := Data.fields #[] }
noncomputable def ob154 (_ : Params) : Obj := fO (Value.none) (defAt 3 13) (Str.ofString "GenericPolynomial._sub_") 0 ([]) (Value.none) (Value.none) (Value.none) (Value.none) (none) (Value.none) (Value.none) 0
noncomputable def ob155 (_ : Params) : Obj := { cls := Value.type "code", data := Data.fields #[Value.str (Str.ofString "_sub_") 357, Value.str (Str.ofString "GenericPolynomial._sub_") 358, Value.str (Str.ofString "/claim/cut.py") 359, Value.int 91 0, Value.int 2 0, Value.int 0 0, Value.int 0 0, Value.int 3 0, Value.ref 152, Value.bool true, Value.int 181 0, Value.ref 153, Value.none, Value.none, Value.none, Value.ref 154, Value.int 360 0, Value.int 91 0, Value.str (Str.ofString "/claim/cut.py") 361] }
noncomputable def ob156 (_ : Params) : Obj := fO (Value.type "function") (defAt 3 13) (Str.ofString "GenericPolynomial._sub_") 3 ([]) (Value.none) (Value.none) (Value.none) (Value.str (Str.ofString "kyber_py.polynomials.polynomials_generic") 194) (none) (Value.ref 155) (Value.none) 0
noncomputable def ob157 (_ : Params) : Obj := { cls := Value.type "tuple", data := Data.seq #[] }
noncomputable def ob158 (_ : Params) : Obj := { cls := Value.none, data := Data.fields #[] }
noncomputable def ob159 (_ : Params) : Obj := { cls := Value.type "tuple", data := Data.seq #[Value.str (Str.ofString "self") 366, Value.str (Str.ofString "other") 367, Value.str (Str.ofString "new_coeffs") 368] }
noncomputable def ob160 (_ : Params) : Obj := { cls := Value.type "tuple", data := Data.seq #[] }
noncomputable def ob161 (_ : Params) : Obj := fO (Value.none) (defAt 3 14) (Str.ofString "GenericPolynomial.__sub__") 0 ([]) (Value.none) (Value.none) (Value.none) (Value.none) (none) (Value.none) (Value.none) 0
noncomputable def ob162 (_ : Params) : Obj := { cls := Value.type "code", data := Data.fields #[Value.str (Str.ofString "__sub__") 363, Value.str (Str.ofString "GenericPolynomial.__sub__") 364, Value.str (Str.ofString "/claim/cut.py") 365, Value.int 101 0, Value.int 2 0, Value.int 0 0, Value.int 0 0, Value.int 3 0, Value.ref 157, Value.bool true, Value.int 181 0, Value.ref 158, Value.none, Value.ref 159, Value.ref 160, Value.ref 161, Value.int 369 0, Value.int 101 0, Value.str (Str.ofString "/claim/cut.py") 370] }
noncomputable def ob163 (_ : Params) : Obj := fO (Value.type "function") (defAt 3 14) (Str.ofString "GenericPolynomial.__sub__") 3 ([]) (Value.none) (Value.none) (Value.none) (Value.str (Str.ofString "kyber_py.polynomials.polynomials_generic") 194) (none) (Value.ref 162) (Value.none) 0
noncomputable def ob164 (_ : Params) : Obj := { cls := Value.type "tuple", data := Data.seq #[] }
noncomputable def ob165 (_ : Params) : Obj := { cls := Value.none, data := Data.fields #[] }
noncomputable def ob166 (_ : Params) : Obj := { cls := Value.type "tuple", data := Data.seq #[Value.str (Str.ofString "self") 375, Value.str (Str.ofString "other") 376] }
noncomputable def ob167 (_ : Params) : Obj := { cls := Value.type "tuple", data := Data.seq #[] }
noncomputable def ob168 (_ : Params) : Obj := fO (Value.none) (defAt 3 15) (Str.ofString "GenericPolynomial.__rsub__") 0 ([]) (Value.none) (Value.none) (Value.none) (Value.none) (none) (Value.none) (Value.none) 0
noncomputable def ob169 (_ : Params) : Obj := { cls := Value.type "code", data := Data.fields #[Value.str (Str.ofString "__rsub__") 372, Value.str (Str.ofString "GenericPolynomial.__rsub__") 373, Value.str (Str.ofString "/claim/cut.py") 374, Value.int 105 0, Value.int 2 0, Value.int 0 0, Value.int 0 0, Value.int 3 0, Value.ref 164, Value.bool true, Value.int 181 0, Value.ref 165, Value.none, Value.ref 166, Value.ref 167, Value.ref 168, Value.int 377 0, Value.int 105 0, Value.str (Str.ofString "/claim/cut.py") 378] }
noncomputable def ob170 (_ : Params) : Obj := fO (Value.type "function") (defAt 3 15) (Str.ofString "GenericPolynomial.__rsub__") 3 ([]) (Value.none) (Value.none) (Value.none) (Value.str (Str.ofString "kyber_py.polynomials.polynomials_generic") 194) (none) (Value.ref 169) (Value.none) 0
noncomputable def ob171 (_ : Params) : Obj := { cls := Value.type "tuple", data := Data.seq #[] }
noncomputable def ob172 (_ : Params) : Obj := { cls := Value.none, data := Data.fields #[] }
noncomputable def ob173 (_ : Params) : Obj := { cls := Value.type "tuple", data := Data.seq #[Value.str (Str.ofString "self") 383, Value.str (Str.ofString "other") 384] }
noncomputable def ob174 (_ : Params) : Obj := { cls := Value.type "tuple", data := Data.seq #[] }
noncomputable def ob175 (_ : Params) : Obj := fO (Value.none) (defAt 3 16) (Str.ofString "GenericPolynomial.__isub__") 0 ([]) (Value.none) (Value.none) (Value.none) (Value.none) (none) (Value.none) (Value.none) 0
noncomputable def ob176 (_ : Params) : Obj := { cls := Value.type "code", data := Data.fields #[Value.str (Str.ofString "__isub__") 380, Value.str (Str.ofString "GenericPolynomial.__isub__") 381, Value.str (Str.ofString "/claim/cut.py") 382, Value.int 108 0, Value.int 2 0, Value.int 0 0, Value.int 0 0, Value.int 3 0, Value.ref 171, Value.bool true, Value.int 181 0, Value.ref 172, Value.none, Value.ref 173, Value.ref 174, Value.ref 175, Value.int 385 0, Value.int 108 0, Value.str (Str.ofString "/claim/cut.py") 386] }
noncomputable def ob177 (_ : Params) : Obj := fO (Value.type "function") (defAt 3 16) (Str.ofString "GenericPolynomial.__isub__") 3 ([]) (Value.none) (Value.none) (Value.none) (Value.str (Str.ofString "kyber_py.polynomials.polynomials_generic") 194) (none) (Value.ref 176) (Value.none) 0
noncomputable def ob178 (_ : Params) : Obj := { cls := Value.type "tuple", data := Data.seq #[] }
noncomputable def ob179 (_ : Params) : Obj := { cls := Value.none, data := Data.fields #[] }
noncomputable def ob180 (_ : Params) : Obj := fO (Value.none) (defAt 3 17) (Str.ofString "GenericPolynomial.__mul__") 0 ([]) (Value.none) (Value.none) (Value.none) (Value.none) (none) (Value.none) (Value.none) 0
noncomputable def ob181 (_ : Params) : Obj := { cls := Value.type "code", data := Data.fields #[Value.str (Str.ofString "__mul__") 388, Value.str (Str.ofString "GenericPolynomial.__mul__") 389, Value.str (Str.ofString "/claim/cut.py") 390, Value.int 112 0, Value.int 2 0, Value.int 0 0, Value.int 0 0, Value.int 3 0, Value.ref 178, Value.bool true, Value.int 181 0, Value.ref 179, Value.none, Value.none, Value.none, Value.ref 180, Value.int 391 0, Value.int 112 0, Value.str (Str.ofString "/claim/cut.py") 392] }
noncomputable def ob182 (_ : Params) : Obj := fO (Value.type "function") (defAt 3 17) (Str.ofString "GenericPolynomial.__mul__") 3 ([]) (Value.none) (Value.none) (Value.none) (Value.str (Str.ofString "kyber_py.polynomials.polynomials_generic") 194) (none) (Value.ref 181) (Value.none) 0
noncomputable def ob183 (_ : Params) : Obj := { cls := Value.type "tuple", data := Data.seq #[] }
noncomputable def ob184 (_ : Params) : Obj := { cls := Value.none, data := Data.fields #[] }
noncomputable def ob185 (_ : Params) : Obj := { cls := Value.type "tuple", data := Data.seq #[Value.str (Str.ofString "self") 397, Value.str (Str.ofString "other") 398] }
noncomputable def ob186 (_ : Params) : Obj := { cls := Value.type "tuple", data := Data.seq #[] }
noncomputable def ob187 (_ : Params) : Obj := fO (Value.none) (defAt 3 18) (Str.ofString "GenericPolynomial.__rmul__") 0 ([]) (Value.none) (Value.none) (Value.none) (Value.none) (none) (Value.none) (Value.none) 0
noncomputable def ob188 (_ : Params) : Obj := { cls := Value.type "code", data := Data.fields #[Value.str (Str.ofString "__rmul__") 394, Value.str (Str.ofString "GenericPolynomial.__rmul__") 395, Value.str (Str.ofString "/claim/cut.py") 396, Value.int 121 0, Value.int 2 0, Value.int 0 0, Value.int 0 0, Value.int 3 0, Value.ref 183, Value.bool true, Value.int 181 0, Value.ref 184, Value.none, Value.ref 185, Value.ref 186, Value.ref 187, Value.int 399 0, Value.int 121 0, Value.str (Str.ofString "/claim/cut.py") 400] }
noncomputable def ob189 (_ : Params) : Obj := fO (Value.type "function") (defAt 3 18) (Str.ofString "GenericPolynomial.__rmul__") 3 ([]) (Value.none) (Value.none) (Value.none) (Value.str (Str.ofString "kyber_py.polynomials.polynomials_generic") 194) (none) (Value.ref 188) (Value.none) 0
noncomputable def ob190 (_ : Params) : Obj := { cls := Value.type "tuple", data := Data.seq #[] }
noncomputable def ob191 (_ : Params) : Obj := { cls := Value.none, data := Data.fields #[] }
noncomputable def ob192 (_ : Params) : Obj := { cls := Value.type "tuple", data := Data.seq #[Value.str (Str.ofString "self") 405, Value.str (Str.ofString "other") 406] }
noncomputable def ob193 (_ : Params) : Obj := { cls := Value.type "tuple", data := Data.seq #[] }
noncomputable def ob194 (_ : Params) : Obj := fO (Value.none) (defAt 3 19) (Str.ofString "GenericPolynomial.__imul__") 0 ([]) (Value.none) (Value.none) (Value.none) (Value.none) (none) (Value.none) (Value.none) 0
noncomputable def ob195 (_ : Params) : Obj := { cls := Value.type "code", data := Data.fields #[Value.str (Str.ofString "__imul__") 402, Value.str (Str.ofString "GenericPolynomial.__imul__") 403, Value.str (Str.ofString "/claim/cut.py") 404, Value.int 124 0, Value.int 2 0, Value.int 0 0, Value.int 0 0, Value.int 3 0, Value.ref 190, Value.bool true, Value.int 181 0, Value.ref 191, Value.none, Value.ref 192, Value.ref 193, Value.ref 194, Value.int 407 0, Value.int 124 0, Value.str (Str.ofString "/claim/cut.py") 408] }
noncomputable def ob196 (_ : Params) : Obj := fO (Value.type "function") (defAt 3 19) (Str.ofString "GenericPolynomial.__imul__") 3 ([]) (Value.none) (Value.none) (Value.none) (Value.str (Str.ofString "kyber_py.polynomials.polynomials_generic") 194) (none) (Value.ref 195) (Value.none) 0
noncomputable def ob197 (_ : Params) : Obj := { cls := Value.type "tuple", data := Data.seq #[] }
noncomputable def ob198 (_ : Params) : Obj := { cls := Value.none, data := Data.fields #[] }
noncomputable def ob199 (_ : Params) : Obj := { cls := Value.type "tuple", data := Data.seq #[Value.str (Str.ofString "self") 413, Value.str (Str.ofString "n") 414, Value.str (Str.ofString "f") 415, Value.str (Str.ofString "g") 416] }
noncomputable def ob200 (_ : Params) : Obj := { cls := Value.type "tuple", data := Data.seq #[] }
noncomputable def ob201 (_ : Params) : Obj := fO (Value.none) (defAt 3 20) (Str.ofString "GenericPolynomial.__pow__") 0 ([]) (Value.none) (Value.none) (Value.none) (Value.none) (none) (Value.none) (Value.none) 0
noncomputable def ob202 (_ : Params) : Obj := { cls := Value.type "code", data := Data.fields #[Value.str (Str.ofString "__pow__") 410, Value.str (Str.ofString "GenericPolynomial.__pow__") 411, Value.str (Str.ofString "/claim/cut.py") 412, Value.int 128 0, Value.int 2 0, Value.int 0 0, Value.int 0 0, Value.int 3 0, Value.ref 197, Value.bool true, Value.int 181 0, Value.ref 198, Value.none, Value.ref 199, Value.ref 200, Value.ref 201, Value.int 417 0, Value.int 128 0, Value.str (Str.ofString "/claim/cut.py") 418] }
noncomputable def ob203 (_ : Params) : Obj := fO (Value.type "function") (defAt 3 20) (Str.ofString "GenericPolynomial.__pow__") 3 ([]) (Value.none) (Value.none) (Value.none) (Value.str (Str.ofString "kyber_py.polynomials.polynomials_generic") 194) (none) (Value.ref 202) (Value.none) 0
noncomputable def ob204 (_ : Params) : Obj := { cls := Value.type "tuple", data := Data.seq #[] }
noncomputable def ob205 (_ : Params) : Obj := { cls := Value.none, data := Data.fields #[] }
noncomputable def ob206 (_ : Params) : Obj := { cls := Value.type "tuple", data := Data.seq #[Value.str (Str.ofString "self") 423, Value.str (Str.ofString "other") 424] }
noncomputable def ob207 (_ : Params) : Obj := { cls := Value.type "tuple", data := Data.seq #[] }
noncomputable def ob208 (_ : Params) : Obj := fO (Value.none) (defAt 3 21) (Str.ofString "GenericPolynomial.__eq__") 0 ([]) (Value.none) (Value.none) (Value.none) (Value.none) (none) (Value.none) (Value.none) 0
noncomputable def ob209 (_ : Params) : Obj := { cls := Value.type "code", data := Data.fields #[Value.str (Str.ofString "__eq__") 420, Value.str (Str.ofString "GenericPolynomial.__eq__") 421, Value.str (Str.ofString "/claim/cut.py") 422, Value.int 142 0, Value.int 2 0, Value.int 0 0, Value.int 0 0, Value.int 3 0, Value.ref 204, Value.bool true, Value.int 181 0, Value.ref 205, Value.none, Value.ref 206, Value.ref 207, Value.ref 208, Value.int 425 0, Value.int 142 0, Value.str (Str.ofString "/claim/cut.py") 426] }
noncomputable def ob210 (_ : Params) : Obj := fO (Value.type "function") (defAt 3 21) (Str.ofString "GenericPolynomial.__eq__") 3 ([]) (Value.none) (Value.none) (Value.none) (Value.str (Str.ofString "kyber_py.polynomials.polynomials_generic") 194) (none) (Value.ref 209) (Value.none) 0
noncomputable def ob211 (_ : Params) : Obj := { cls := Value.type "tuple", data := Data.seq #[] }
noncomputable def ob212 (_ : Params) : Obj := { cls := Value.none, data := Data.fields #[] }
noncomputable def ob213 (_ : Params) : Obj := { cls := Value.type "tuple", data := Data.seq #[Value.str (Str.ofString "self") 431, Value.str (Str.ofString "idx") 432] }
noncomputable def ob214 (_ : Params) : Obj := { cls := Value.type "tuple", data := Data.seq #[] }
noncomputable def ob215 (_ : Params) : Obj := fO (Value.none) (defAt 3 22) (Str.ofString "GenericPolynomial.__getitem__") 0 ([]) (Value.none) (Value.none) (Value.none) (Value.none) (none) (Value.none) (Value.none) 0
noncomputable def ob216 (_ : Params) : Obj := { cls := Value.type "code", data := Data.fields #[Value.str (Str.ofString "__getitem__") 428, Value.str (Str.ofString "GenericPolynomial.__getitem__") 429, Value.str (Str.ofString "/claim/cut.py") 430, Value.int 150 0, Value.int 2 0, Value.int 0 0, Value.int 0 0, Value.int 3 0, Value.ref 211, Value.bool true, Value.int 181 0, Value.ref 212, Value.none, Value.ref 213, Value.ref 214, Value.ref 215, Value.int 433 0, Value.int 150 0, Value.str (Str.ofString "/claim/cut.py") 434] }
noncomputable def ob217 (_ : Params) : Obj := fO (Value.type "function") (defAt 3 22) (Str.ofString "GenericPolynomial.__getitem__") 3 ([]) (Value.none) (Value.none) (Value.none) (Value.str (Str.ofString "kyber_py.polynomials.polynomials_generic") 194) (none) (Value.ref 216) (Value.none) 0
noncomputable def ob218 (_ : Params) : Obj := { cls := Value.type "tuple", data := Data.seq #[Value.str (Str.ofString "coeffs") 436, Value.str (Str.ofString "parent") 437] }
noncomputable def ob219 (P : Params) : Obj := { cls := Value.type "dict", data := Data.dict #[{ hash := PyData.keyHash P (Str.ofString "__module__"), key := Value.str (Str.ofString "__module__") 256, val := Value.str (Str.ofString "kyber_py.polynomials.polynomials_generic") 194 }, { hash := PyData.keyHash P (Str.ofString "__firstlineno__"), key := Value.str (Str.ofString "__firstlineno__") 260, val := Value.int 23 259 }, { hash := PyData.keyHash P (Str.ofString "__init__"), key := Value.str (Str.ofString "__init__") 269, val := Value.ref 77 }, { hash := PyData.keyHash P (Str.ofString "is_zero"), key := Value.str (Str.ofString "is_zero") 276, val := Value.ref 84 }, { hash := PyData.keyHash P (Str.ofString "is_constant"), key := Value.str (Str.ofString "is_constant") 283, val := Value.ref 91 }, { hash := PyData.keyHash P (Str.ofString "_parse_coefficients"), key := Value.str (Str.ofString "_parse_coefficients") 289, val := Value.ref 96 }, { hash := PyData.keyHash P (Str.ofString "reduce_coefficients"), key := Value.str (Str.ofString "reduce_coefficients") 295, val := Value.ref 101 }, { hash := PyData.keyHash P (Str.ofString "_add_mod_q"), key := Value.str (Str.ofString "_add_mod_q") 304, val := Value.ref 108 }, { hash := PyData.keyHash P (Str.ofString "_sub_mod_q"), key := Value.str (Str.ofString "_sub_mod_q") 313, val := Value.ref 115 }, { hash := PyData.keyHash P (Str.ofString "_schoolbook_multiplication"), key := Value.str (Str.ofString "_schoolbook_multiplication") 319, val := Value.ref 120 }, { hash := PyData.keyHash P (Str.ofString "__neg__"), key := Value.str (Str.ofString "__neg__") 325, val := Value.ref 125 }, { hash := PyData.keyHash P (Str.ofString "_add_"), key := Value.str (Str.ofString "_add_") 331, val := Value.ref 130 }, { hash := PyData.keyHash P (Str.ofString "__add__"), key := Value.str (Str.ofString "__add__") 340, val := Value.ref 137 }, { hash := PyData.keyHash P (Str.ofString "__radd__"), key := Value.str (Str.ofString "__radd__") 348, val := Value.ref 144 }, { hash := PyData.keyHash P (Str.ofString "__iadd__"), key := Value.str (Str.ofString "__iadd__") 356, val := Value.ref 151 }, { hash := PyData.keyHash P (Str.ofString "_sub_"), key := Value.str (Str.ofString "_sub_") 362, val := Value.ref 156 }, { hash := PyData.keyHash P (Str.ofString "__sub__"), key := Value.str (Str.ofString "__sub__") 371, val := Value.ref 163 }, { hash := PyData.keyHash P (Str.ofString "__rsub__"), key := Value.str (Str.ofString "__rsub__") 379, val := Value.ref 170 }, { hash := PyData.keyHash P (Str.ofString "__isub__"), key := Value.str (Str.ofString "__isub__") 387, val := Value.ref 177 }, { hash := PyData.keyHash P (Str.ofString "__mul__"), key := Value.str (Str.ofString "__mul__") 393, val := Value.ref 182 }, { hash := PyData.keyHash P (Str.ofString "__rmul__"), key := Value.str (Str.ofString "__rmul__") 401, val := Value.ref 189 }, { hash := PyData.keyHash P (Str.ofString "__imul__"), key := Value.str (Str.ofString "__imul__") 409, val := Value.ref 196 }, { hash := PyData.keyHash P (Str.ofString "__pow__"), key := Value.str (Str.ofString "__pow__") 419, val := Value.ref 203 }, { hash := PyData.keyHash P (Str.ofString "__eq__"), key := Value.str (Str.ofString "__eq__") 427, val := Value.ref 210 }, { hash := PyData.keyHash P (Str.ofString "__getitem__"), key := Value.str (Str.ofString "__getitem__") 435, val := Value.ref 217 }, { hash := PyData.keyHash P (Str.ofString "__static_attributes__"), key := Value.str (Str.ofString "__static_attributes__") 438, val := Value.ref 218 }, { hash := PyData.keyHash P (Str.ofString "__dict__"), key := Value.str (Str.ofString "__dict__") 440, val := Value.ref 221 }, { hash := PyData.keyHash P (Str.ofString "__weakref__"), key := Value.str (Str.ofString "__weakref__") 442, val := Value.ref 222 }, { hash := PyData.keyHash P (Str.ofString "__doc__"), key := Value.str (Str.ofString "__doc__") 443, val := Value.none }, { hash := PyData.keyHash P (Str.ofString "__hash__"), key := Value.str (Str.ofString "__hash__") 444, val := Value.none }] 5 }
noncomputable def ob220 (_ : Params) : Obj := { cls := Value.type "type", data := Data.cls { name := Str.ofString "GenericPolynomial", bases := [Value.type "object"], mro := [Value.ref 220, Value.type "object"], ns := 219, qualname := Str.ofString "GenericPolynomial" }, slots := #[none, none, some (Value.str (Str.ofString "GenericPolynomial") 249), some (Value.str (Str.ofString "GenericPolynomial") 257), some (Value.builtin "object.__new__"), some (Value.bool true)] }
noncomputable def ob221 (_ : Params) : Obj := { cls := Value.type "getset_descriptor", data := Data.fields #[Value.str (Str.ofString "__dict__") 439, Value.ref 220, Value.builtin "function.__dict__", Value.builtin "function.__dict__#set"] }
noncomputable def ob222 (_ : Params) : Obj := { cls := Value.type "getset_descriptor", data := Data.fields #[Value.str (Str.ofString "__weakref__") 441, Value.ref 220, Value.builtin "ExceptionGroup.__weakref__", Value.none] }
noncomputable def ob223 (_ : Params) : Obj := { cls := Value.type "super", data := Data.fields #[Value.ref 220, Value.ref 220, Value.ref 220] }
noncomputable def ob224 (_ : Params) : Obj := { cls := Value.type "builtin_function_or_method", data := Data.fields #[Value.builtin "object.__init_subclass__", Value.ref 220] }
noncomputable def ob3v1 (P : Params) : Obj := { cls := Value.type "dict", data := Data.dict #[{ hash := PyData.keyHash P (Str.ofString "__name__"), key := Value.str (Str.ofString "__name__") 165, val := Value.str (Str.ofString "kyber_py.polynomials.polynomials") 447 }, { hash := PyData.keyHash P (Str.ofString "__doc__"), key := Value.str (Str.ofString "__doc__") 166, val := Value.none }, { hash := PyData.keyHash P (Str.ofString "__package__"), key := Value.str (Str.ofString "__package__") 167, val := Value.none }, { hash := PyData.keyHash P (Str.ofString "__loader__"), key := Value.str (Str.ofString "__loader__") 168, val := Value.builtin "__main__.__loader__#opaque" }, { hash := PyData.keyHash P (Str.ofString "__spec__"), key := Value.str (Str.ofString "__spec__") 169, val := Value.none }, { hash := PyData.keyHash P (Str.ofString "__annotations__"), key := Value.str (Str.ofString "__annotations__") 170, val := Value.ref 6 }, { hash := PyData.keyHash P (Str.ofString "__builtins__"), key := Value.str (Str.ofString "__builtins__") 171, val := Value.ref 4 }, { hash := PyData.keyHash P (Str.ofString "__file__"), key := Value.str (Str.ofString "__file__") 173, val := Value.str (Str.ofString "/claim/cut.py") 172 }, { hash := PyData.keyHash P (Str.ofString "__cached__"), key := Value.str (Str.ofString "__cached__") 174, val := Value.none }, { hash := PyData.keyHash P (Str.ofString "_wall"), key := Value.str (Str.ofString "_wall") 193, val := Value.ref 21 }, { hash := PyData.keyHash P (Str.ofString "GenericPolynomialRing"), key := Value.str (Str.ofString "GenericPolynomialRing") 248, val := Value.ref 59 }, { hash := PyData.keyHash P (Str.ofString "GenericPolynomial"), key := Value.str (Str.ofString "GenericPolynomial") 446, val := Value.ref 220 }, { hash := PyData.keyHash P (Str.ofString "PolynomialRing"), key := Value.str (Str.ofString "PolynomialRing") 532, val := Value.ref 280 }, { hash := PyData.keyHash P (Str.ofString "Polynomial"), key := Value.str (Str.ofString "Polynomial") 615, val := Value.ref 348 }] 14 }
noncomputable def ob12v2 (_ : Params) : Obj := { cls := Value.none, data := Data.fields #[Value.int 1 0, Value.int 0 0, Value.ref 20, Value.int 5 0, Value.int 0 0, Value.ref 27, Value.int 23 0, Value.int 0 0, Value.ref 69, Value.int 153 0, Value.int 0 0, Value.ref 230, Value.int 184 0, Value.int 0 0, Value.ref 288] }
noncomputable def ob59v1 (_ : Params) : Obj := { cls := Value.type "type", data := Data.cls { name := Str.ofString "GenericPolynomialRing", bases := [Value.type "object"], mro := [Value.ref 59, Value.type "object"], ns := 58, qualname := Str.ofString "GenericPolynomialRing", subclasses := [Value.ref 280] }, slots := #[none, none, some (Value.str (Str.ofString "GenericPolynomialRing") 196), some (Value.str (Str.ofString "GenericPolynomialRing") 204), some (Value.builtin "object.__new__"), some (Value.bool true)] }
noncomputable def ob220v1 (_ : Params) : Obj := { cls := Value.type "type", data := Data.cls { name := Str.ofString "GenericPolynomial", bases := [Value.type "object"], mro := [Value.ref 220, Value.type "object"], ns := 219, qualname := Str.ofString "GenericPolynomial", subclasses := [Value.ref 348] }, slots := #[none, none, some (Value.str (Str.ofString "GenericPolynomial") 249), some (Value.str (Str.ofString "GenericPolynomial") 257), some (Value.builtin "object.__new__"), some (Value.bool true)] }
noncomputable def ob225 (_ : Params) : Obj := { cls := Value.type "tuple", data := Data.seq #[Value.ref 59] }
noncomputable def ob226 (_ : Params) : Obj := { cls := Value.type "builtin_function_or_method", data := Data.fields #[Value.builtin "type.__prepare__", Value.type "type"] }
noncomputable def ob227 (P : Params) : Obj := { cls := Value.type "dict", data := Data.dict #[{ hash := PyData.keyHash P (Str.ofString "__module__"), key := Value.str (Str.ofString "__module__") 456, val := Value.str (Str.ofString "kyber_py.polynomials.polynomials") 447 }, { hash := PyData.keyHash P (Str.ofString "__qualname__"), key := Value.str (Str.ofString "__qualname__") 458, val := Value.str (Str.ofString "PolynomialRing") 457 }, { hash := PyData.keyHash P (Str.ofString "__firstlineno__"), key := Value.str (Str.ofString "__firstlineno__") 460, val := Value.int 153 459 }, { hash := PyData.keyHash P (Str.ofString "__init__"), key := Value.str (Str.ofString "__init__") 466, val := Value.ref 236 }, { hash := PyData.keyHash P (Str.ofString "_br"), key := Value.str (Str.ofString "_br") 487, val := Value.ref 245 }, { hash := PyData.keyHash P (Str.ofString "ntt_sample"), key := Value.str (Str.ofString "ntt_sample") 495, val := Value.ref 253 }, { hash := PyData.keyHash P (Str.ofString "cbd"), key := Value.str (Str.ofString "cbd") 505, val := Value.ref 261 }, { hash := PyData.keyHash P (Str.ofString "decode"), key := Value.str (Str.ofString "decode") 515, val := Value.ref 269 }, { hash := PyData.keyHash P (Str.ofString "__call__"), key := Value.str (Str.ofString "__call__") 524, val := Value.ref 277 }, { hash := PyData.keyHash P (Str.ofString "__static_attributes__"), key := Value.str (Str.ofString "__static_attributes__") 529, val := Value.ref 278 }] 10 }
noncomputable def ob228 (_ : Params) : Obj := { cls := Value.type "tuple", data := Data.seq #[] }
noncomputable def ob229 (_ : Params) : Obj := { cls := Value.none, data := Data.fields #[Value.int 155 0, Value.int 4 0, Value.ref 235, Value.int 163 0, Value.int 4 0, Value.ref 242, Value.int 167 0, Value.int 4 0, Value.ref 252, Value.int 170 0, Value.int 4 0, Value.ref 260, Value.int 173 0, Value.int 4 0, Value.ref 268, Value.int 176 0, Value.int 4 0, Value.ref 276] }
noncomputable def ob230 (_ : Params) : Obj := { cls := Value.type "code", data := Data.fields #[Value.str (Str.ofString "PolynomialRing") 451, Value.str (Str.ofString "PolynomialRing") 452, Value.str (Str.ofString "/claim/cut.py") 453, Value.int 153 0, Value.int 0 0, Value.int 0 0, Value.int 0 0, Value.int 0 0, Value.ref 228, Value.bool false, Value.int 181 0, Value.ref 229, Value.none, Value.none, Value.none, Value.none, Value.int 454 0, Value.int 153 0, Value.str (Str.ofString "/claim/cut.py") 455] }
noncomputable def ob231 (_ : Params) : Obj := { cls := Value.type "frame", slots := #[some (Value.ref 230), some (Value.ref 3), some (Value.ref 227), none, some (Value.str (Str.ofString "kyber_py.polynomials.polynomials") 447), none, some (Value.ref 0)] }
noncomputable def ob232 (_ : Params) : Obj := { cls := Value.type "tuple", data := Data.seq #[] }
noncomputable def ob233 (_ : Params) : Obj := { cls := Value.none, data := Data.fields #[] }
noncomputable def ob234 (_ : Params) : Obj := fO (Value.none) (defAt 5 0) (Str.ofString "PolynomialRing.__init__") 0 ([]) (Value.none) (Value.none) (Value.none) (Value.none) (none) (Value.none) (Value.none) 0
noncomputable def ob235 (_ : Params) : Obj := { cls := Value.type "code", data := Data.fields #[Value.str (Str.ofString "__init__") 461, Value.str (Str.ofString "PolynomialRing.__init__") 462, Value.str (Str.ofString "/claim/cut.py") 463, Value.int 155 0, Value.int 1 0, Value.int 0 0, Value.int 0 0, Value.int 3 0, Value.ref 232, Value.bool true, Value.int 181 0, Value.ref 233, Value.none, Value.none, Value.none, Value.ref 234, Value.int 464 0, Value.int 155 0, Value.str (Str.ofString "/claim/cut.py") 465] }
noncomputable def ob236 (_ : Params) : Obj := fO (Value.type "function") (defAt 5 0) (Str.ofString "PolynomialRing.__init__") 3 ([]) (Value.none) (Value.none) (Value.none) (Value.str (Str.ofString "kyber_py.polynomials.polynomials") 447) (none) (Value.ref 235) (Value.none) 0
noncomputable def ob237 (_ : Params) : Obj := { cls := Value.type "tuple", data := Data.seq #[] }
noncomputable def ob238 (_ : Params) : Obj := { cls := Value.none, data := Data.fields #[] }
noncomputable def ob239 (_ : Params) : Obj := { cls := Value.type "tuple", data := Data.seq #[Value.str (Str.ofString "i") 470, Value.str (Str.ofString "k") 471, Value.str (Str.ofString "bin_i") 472] }
noncomputable def ob240 (_ : Params) : Obj := { cls := Value.type "tuple", data := Data.seq #[] }
noncomputable def ob241 (_ : Params) : Obj := fO (Value.none) (defAt 5 1) (Str.ofString "PolynomialRing._br") 0 ([]) (Value.none) (Value.none) (Value.none) (Value.none) (none) (Value.none) (Value.none) 0
noncomputable def ob242 (_ : Params) : Obj := { cls := Value.type "code", data := Data.fields #[Value.str (Str.ofString "_br") 467, Value.str (Str.ofString "PolynomialRing._br") 468, Value.str (Str.ofString "/claim/cut.py") 469, Value.int 162 0, Value.int 2 0, Value.int 0 0, Value.int 0 0, Value.int 3 0, Value.ref 237, Value.bool true, Value.int 181 0, Value.ref 238, Value.none, Value.ref 239, Value.ref 240, Value.ref 241, Value.int 473 0, Value.int 162 0, Value.str (Str.ofString "/claim/cut.py") 474] }
noncomputable def ob243 (_ : Params) : Obj := fO (Value.type "function") (defAt 5 1) (Str.ofString "PolynomialRing._br") 3 ([]) (Value.none) (Value.none) (Value.none) (Value.str (Str.ofString "kyber_py.polynomials.polynomials") 447) (some 246) (Value.ref 242) (Value.none) 0
noncomputable def ob244 (P : Params) : Obj := { cls := Value.type "dict", data := Data.dict #[{ hash := PyData.keyHash P (Str.ofString "__module__"), key := Value.str (Str.ofString "__module__") 476, val := Value.str (Str.ofString "kyber_py.polynomials.polynomials") 447 }, { hash := PyData.keyHash P (Str.ofString "__name__"), key := Value.str (Str.ofString "__name__") 479, val := Value.str (Str.ofString "_br") 478 }, { hash := PyData.keyHash P (Str.ofString "__qualname__"), key := Value.str (Str.ofString "__qualname__") 482, val := Value.str (Str.ofString "PolynomialRing._br") 481 }, { hash := PyData.keyHash P (Str.ofString "__doc__"), key := Value.str (Str.ofString "__doc__") 484, val := Value.none }, { hash := PyData.keyHash P (Str.ofString "__annotations__"), key := Value.str (Str.ofString "__annotations__") 486, val := Value.ref 246 }] 5 }
noncomputable def ob245 (_ : Params) : Obj := { cls := Value.type "staticmethod", dict := some 244, data := Data.fields #[Value.ref 243, Value.bool false] }
noncomputable def ob246 (_ : Params) : Obj := { cls := Value.type "dict", data := Data.dict #[] }
noncomputable def ob247 (_ : Params) : Obj := { cls := Value.type "tuple", data := Data.seq #[] }
noncomputable def ob248 (_ : Params) : Obj := { cls := Value.none, data := Data.fields #[] }
noncomputable def ob249 (_ : Params) : Obj := { cls := Value.type "tuple", data := Data.seq #[Value.str (Str.ofString "self") 491, Value.str (Str.ofString "input_bytes") 492] }
noncomputable def ob250 (_ : Params) : Obj := { cls := Value.type "tuple", data := Data.seq #[] }
noncomputable def ob251 (_ : Params) : Obj := fO (Value.none) (defAt 5 2) (Str.ofString "PolynomialRing.ntt_sample") 0 ([]) (Value.none) (Value.none) (Value.none) (Value.none) (none) (Value.none) (Value.none) 0
noncomputable def ob252 (_ : Params) : Obj := { cls := Value.type "code", data := Data.fields #[Value.str (Str.ofString "ntt_sample") 488, Value.str (Str.ofString "PolynomialRing.ntt_sample") 489, Value.str (Str.ofString "/claim/cut.py") 490, Value.int 167 0, Value.int 2 0, Value.int 0 0, Value.int 0 0, Value.int 3 0, Value.ref 247, Value.bool true, Value.int 181 0, Value.ref 248, Value.none, Value.ref 249, Value.ref 250, Value.ref 251, Value.int 493 0, Value.int 167 0, Value.str (Str.ofString "/claim/cut.py") 494] }
noncomputable def ob253 (_ : Params) : Obj := fO (Value.type "function") (defAt 5 2) (Str.ofString "PolynomialRing.ntt_sample") 3 ([]) (Value.none) (Value.none) (Value.none) (Value.str (Str.ofString "kyber_py.polynomials.polynomials") 447) (none) (Value.ref 252) (Value.none) 0
noncomputable def ob254 (_ : Params) : Obj := { cls := Value.type "tuple", data := Data.seq #[Value.bool false] }
noncomputable def ob255 (_ : Params) : Obj := { cls := Value.type "tuple", data := Data.seq #[] }
noncomputable def ob256 (_ : Params) : Obj := { cls := Value.none, data := Data.fields #[] }
noncomputable def ob257 (_ : Params) : Obj := { cls := Value.type "tuple", data := Data.seq #[Value.str (Str.ofString "self") 499, Value.str (Str.ofString "input_bytes") 500, Value.str (Str.ofString "eta") 501, Value.str (Str.ofString "is_ntt") 502] }
noncomputable def ob258 (_ : Params) : Obj := { cls := Value.type "tuple", data := Data.seq #[] }
noncomputable def ob259 (_ : Params) : Obj := fO (Value.none) (defAt 5 3) (Str.ofString "PolynomialRing.cbd") 0 ([]) (Value.none) (Value.none) (Value.none) (Value.none) (none) (Value.none) (Value.none) 0
noncomputable def ob260 (_ : Params) : Obj := { cls := Value.type "code", data := Data.fields #[Value.str (Str.ofString "cbd") 496, Value.str (Str.ofString "PolynomialRing.cbd") 497, Value.str (Str.ofString "/claim/cut.py") 498, Value.int 170 0, Value.int 4 0, Value.int 0 0, Value.int 0 0, Value.int 3 0, Value.ref 255, Value.bool true, Value.int 181 0, Value.ref 256, Value.none, Value.ref 257, Value.ref 258, Value.ref 259, Value.int 503 0, Value.int 170 0, Value.str (Str.ofString "/claim/cut.py") 504] }
noncomputable def ob261 (_ : Params) : Obj := fO (Value.type "function") (defAt 5 3) (Str.ofString "PolynomialRing.cbd") 3 ([]) (Value.ref 254) (Value.none) (Value.none) (Value.str (Str.ofString "kyber_py.polynomials.polynomials") 447) (none) (Value.ref 260) (Value.none) 0
noncomputable def ob262 (_ : Params) : Obj := { cls := Value.type "tuple", data := Data.seq #[Value.bool false] }
noncomputable def ob263 (_ : Params) : Obj := { cls := Value.type "tuple", data := Data.seq #[] }
noncomputable def ob264 (_ : Params) : Obj := { cls := Value.none, data := Data.fields #[] }
noncomputable def ob265 (_ : Params) : Obj := { cls := Value.type "tuple", data := Data.seq #[Value.str (Str.ofString "self") 509, Value.str (Str.ofString "input_bytes") 510, Value.str (Str.ofString "d") 511, Value.str (Str.ofString "is_ntt") 512] }
noncomputable def ob266 (_ : Params) : Obj := { cls := Value.type "tuple", data := Data.seq #[] }
noncomputable def ob267 (_ : Params) : Obj := fO (Value.none) (defAt 5 4) (Str.ofString "PolynomialRing.decode") 0 ([]) (Value.none) (Value.none) (Value.none) (Value.none) (none) (Value.none) (Value.none) 0
noncomputable def ob268 (_ : Params) : Obj := { cls := Value.type "code", data := Data.fields #[Value.str (Str.ofString "decode") 506, Value.str (Str.ofString "PolynomialRing.decode") 507, Value.str (Str.ofString "/claim/cut.py") 508, Value.int 173 0, Value.int 4 0, Value.int 0 0, Value.int 0 0, Value.int 3 0, Value.ref 263, Value.bool true, Value.int 181 0, Value.ref 264, Value.none, Value.ref 265, Value.ref 266, Value.ref 267, Value.int 513 0, Value.int 173 0, Value.str (Str.ofString "/claim/cut.py") 514] }
noncomputable def ob269 (_ : Params) : Obj := fO (Value.type "function") (defAt 5 4) (Str.ofString "PolynomialRing.decode") 3 ([]) (Value.ref 262) (Value.none) (Value.none) (Value.str (Str.ofString "kyber_py.polynomials.polynomials") 447) (none) (Value.ref 268) (Value.none) 0
noncomputable def ob270 (_ : Params) : Obj := { cls := Value.type "tuple", data := Data.seq #[Value.bool false] }
noncomputable def ob271 (_ : Params) : Obj := { cls := Value.type "tuple", data := Data.seq #[] }
noncomputable def ob272 (_ : Params) : Obj := { cls := Value.none, data := Data.fields #[] }
noncomputable def ob273 (_ : Params) : Obj := { cls := Value.type "tuple", data := Data.seq #[Value.str (Str.ofString "self") 519, Value.str (Str.ofString "coefficients") 520, Value.str (Str.ofString "is_ntt") 521] }
noncomputable def ob274 (_ : Params) : Obj := { cls := Value.type "tuple", data := Data.seq #[] }
noncomputable def ob275 (_ : Params) : Obj := fO (Value.none) (defAt 5 5) (Str.ofString "PolynomialRing.__call__") 0 ([]) (Value.none) (Value.none) (Value.none) (Value.none) (none) (Value.none) (Value.none) 0
noncomputable def ob276 (_ : Params) : Obj := { cls := Value.type "code", data := Data.fields #[Value.str (Str.ofString "__call__") 516, Value.str (Str.ofString "PolynomialRing.__call__") 517, Value.str (Str.ofString "/claim/cut.py") 518, Value.int 176 0, Value.int 3 0, Value.int 0 0, Value.int 0 0, Value.int 3 0, Value.ref 271, Value.bool true, Value.int 181 0, Value.ref 272, Value.none, Value.ref 273, Value.ref 274, Value.ref 275, Value.int 522 0, Value.int 176 0, Value.str (Str.ofString "/claim/cut.py") 523] }
noncomputable def ob277 (_ : Params) : Obj := fO (Value.type "function") (defAt 5 5) (Str.ofString "PolynomialRing.__call__") 3 ([]) (Value.ref 270) (Value.none) (Value.none) (Value.str (Str.ofString "kyber_py.polynomials.polynomials") 447) (none) (Value.ref 276) (Value.none) 0
noncomputable def ob278 (_ : Params) : Obj := { cls := Value.type "tuple", data := Data.seq #[Value.str (Str.ofString "n") 525, Value.str (Str.ofString "ntt_f") 526, Value.str (Str.ofString "ntt_zetas") 527, Value.str (Str.ofString "q") 528] }
noncomputable def ob279 (P : Params) : Obj := { cls := Value.type "dict", data := Data.dict #[{ hash := PyData.keyHash P (Str.ofString "__module__"), key := Value.str (Str.ofString "__module__") 456, val := Value.str (Str.ofString "kyber_py.polynomials.polynomials") 447 }, { hash := PyData.keyHash P (Str.ofString "__firstlineno__"), key := Value.str (Str.ofString "__firstlineno__") 460, val := Value.int 153 459 }, { hash := PyData.keyHash P (Str.ofString "__init__"), key := Value.str (Str.ofString "__init__") 466, val := Value.ref 236 }, { hash := PyData.keyHash P (Str.ofString "_br"), key := Value.str (Str.ofString "_br") 487, val := Value.ref 245 }, { hash := PyData.keyHash P (Str.ofString "ntt_sample"), key := Value.str (Str.ofString "ntt_sample") 495, val := Value.ref 253 }, { hash := PyData.keyHash P (Str.ofString "cbd"), key := Value.str (Str.ofString "cbd") 505, val := Value.ref 261 }, { hash := PyData.keyHash P (Str.ofString "decode"), key := Value.str (Str.ofString "decode") 515, val := Value.ref 269 }, { hash := PyData.keyHash P (Str.ofString "__call__"), key := Value.str (Str.ofString "__call__") 524, val := Value.ref 277 }, { hash := PyData.keyHash P (Str.ofString "__static_attributes__"), key := Value.str (Str.ofString "__static_attributes__") 529, val := Value.ref 278 }, { hash := PyData.keyHash P (Str.ofString "__doc__"), key := Value.str (Str.ofString "__doc__") 530, val := Value.none }] 2 }
noncomputable def ob280 (_ : Params) : Obj := { cls := Value.type "type", data := Data.cls { name := Str.ofString "PolynomialRing", bases := [Value.ref 59], mro := [Value.ref 280, Value.ref 59, Value.type "object"], ns := 279, qualname := Str.ofString "PolynomialRing" }, slots := #[some (Value.ref 225), none, some (Value.str (Str.ofString "PolynomialRing") 449), some (Value.str (Str.ofString "PolynomialRing") 457), some (Value.builtin "object.__new__"), some (Value.bool true)] }
noncomputable def ob281 (_ : Params) : Obj := { cls := Value.type "super", data := Data.fields #[Value.ref 280, Value.ref 280, Value.ref 280] }
noncomputable def ob282 (_ : Params) : Obj := { cls := Value.type "builtin_function_or_method", data := Data.fields #[Value.builtin "object.__init_subclass__", Value.ref 280] }
noncomputable def ob283 (_ : Params) : Obj := { cls := Value.type "tuple", data := Data.seq #[Value.ref 220] }
noncomputable def ob284 (_ : Params) : Obj := { cls := Value.type "builtin_function_or_method", data := Data.fields #[Value.builtin "type.__prepare__", Value.type "type"] }
noncomputable def ob285 (P : Params) : Obj := { cls := Value.type "dict", data := Data.dict #[{ hash := PyData.keyHash P (Str.ofString "__module__"), key := Value.str (Str.ofString "__module__") 540, val := Value.str (Str.ofString "kyber_py.polynomials.polynomials") 447 }, { hash := PyData.keyHash P (Str.ofString "__qualname__"), key := Value.str (Str.ofString "__qualname__") 542, val := Value.str (Str.ofString "Polynomial") 541 }, { hash := PyData.keyHash P (Str.ofString "__firstlineno__"), key := Value.str (Str.ofString "__firstlineno__") 544, val := Value.int 184 543 }, { hash := PyData.keyHash P (Str.ofString "__init__"), key := Value.str (Str.ofString "__init__") 553, val := Value.ref 296 }, { hash := PyData.keyHash P (Str.ofString "encode"), key := Value.str (Str.ofString "encode") 561, val := Value.ref 303 }, { hash := PyData.keyHash P (Str.ofString "_compress_ele"), key := Value.str (Str.ofString "_compress_ele") 570, val := Value.ref 310 }, { hash := PyData.keyHash P (Str.ofString "_decompress_ele"), key := Value.str (Str.ofString "_decompress_ele") 579, val := Value.ref 317 }, { hash := PyData.keyHash P (Str.ofString "compress"), key := Value.str (Str.ofString "compress") 587, val := Value.ref 324 }, { hash := PyData.keyHash P (Str.ofString "decompress"), key := Value.str (Str.ofString "decompress") 595, val := Value.ref 331 }, { hash := PyData.keyHash P (Str.ofString "to_ntt"), key := Value.str (Str.ofString "to_ntt") 602, val := Value.ref 338 }, { hash := PyData.keyHash P (Str.ofString "from_ntt"), key := Value.str (Str.ofString "from_ntt") 609, val := Value.ref 345 }, { hash := PyData.keyHash P (Str.ofString "__static_attributes__"), key := Value.str (Str.ofString "__static_attributes__") 612, val := Value.ref 346 }] 12 }
noncomputable def ob286 (_ : Params) : Obj := { cls := Value.type "tuple", data := Data.seq #[] }
noncomputable def ob287 (_ : Params) : Obj := { cls := Value.none, data := Data.fields #[Value.int 186 0, Value.int 4 0, Value.ref 295, Value.int 190 0, Value.int 4 0, Value.ref 302, Value.int 193 0, Value.int 4 0, Value.ref 309, Value.int 196 0, Value.int 4 0, Value.ref 316, Value.int 199 0, Value.int 4 0, Value.ref 323, Value.int 202 0, Value.int 4 0, Value.ref 330, Value.int 205 0, Value.int 4 0, Value.ref 337, Value.int 208 0, Value.int 4 0, Value.ref 344] }
noncomputable def ob288 (_ : Params) : Obj := { cls := Value.type "code", data := Data.fields #[Value.str (Str.ofString "Polynomial") 535, Value.str (Str.ofString "Polynomial") 536, Value.str (Str.ofString "/claim/cut.py") 537, Value.int 184 0, Value.int 0 0, Value.int 0 0, Value.int 0 0, Value.int 0 0, Value.ref 286, Value.bool false, Value.int 181 0, Value.ref 287, Value.none, Value.none, Value.none, Value.none, Value.int 538 0, Value.int 184 0, Value.str (Str.ofString "/claim/cut.py") 539] }
noncomputable def ob289 (_ : Params) : Obj := { cls := Value.type "frame", slots := #[some (Value.ref 288), some (Value.ref 3), some (Value.ref 285), none, some (Value.str (Str.ofString "kyber_py.polynomials.polynomials") 447), none, some (Value.ref 0)] }
noncomputable def ob290 (_ : Params) : Obj := { cls := Value.type "tuple", data := Data.seq #[] }
noncomputable def ob291 (_ : Params) : Obj := { cls := Value.none, data := Data.fields #[] }
noncomputable def ob292 (_ : Params) : Obj := { cls := Value.type "tuple", data := Data.seq #[Value.str (Str.ofString "self") 548, Value.str (Str.ofString "parent") 549, Value.str (Str.ofString "coefficients") 550] }
noncomputable def ob293 (_ : Params) : Obj := { cls := Value.type "tuple", data := Data.seq #[] }
noncomputable def ob294 (_ : Params) : Obj := fO (Value.none) (defAt 6 0) (Str.ofString "Polynomial.__init__") 0 ([]) (Value.none) (Value.none) (Value.none) (Value.none) (none) (Value.none) (Value.none) 0
noncomputable def ob295 (_ : Params) : Obj := { cls := Value.type "code", data := Data.fields #[Value.str (Str.ofString "__init__") 545, Value.str (Str.ofString "Polynomial.__init__") 546, Value.str (Str.ofString "/claim/cut.py") 547, Value.int 186 0, Value.int 3 0, Value.int 0 0, Value.int 0 0, Value.int 3 0, Value.ref 290, Value.bool true, Value.int 181 0, Value.ref 291, Value.none, Value.ref 292, Value.ref 293, Value.ref 294, Value.int 551 0, Value.int 186 0, Value.str (Str.ofString "/claim/cut.py") 552] }
noncomputable def ob296 (_ : Params) : Obj := fO (Value.type "function") (defAt 6 0) (Str.ofString "Polynomial.__init__") 3 ([]) (Value.none) (Value.none) (Value.none) (Value.str (Str.ofString "kyber_py.polynomials.polynomials") 447) (none) (Value.ref 295) (Value.none) 0
noncomputable def ob297 (_ : Params) : Obj := { cls := Value.type "tuple", data := Data.seq #[] }
noncomputable def ob298 (_ : Params) : Obj := { cls := Value.none, data := Data.fields #[] }
noncomputable def ob299 (_ : Params) : Obj := { cls := Value.type "tuple", data := Data.seq #[Value.str (Str.ofString "self") 557, Value.str (Str.ofString "d") 558] }
noncomputable def ob300 (_ : Params) : Obj := { cls := Value.type "tuple", data := Data.seq #[] }
noncomputable def ob301 (_ : Params) : Obj := fO (Value.none) (defAt 6 1) (Str.ofString "Polynomial.encode") 0 ([]) (Value.none) (Value.none) (Value.none) (Value.none) (none) (Value.none) (Value.none) 0
noncomputable def ob302 (_ : Params) : Obj := { cls := Value.type "code", data := Data.fields #[Value.str (Str.ofString "encode") 554, Value.str (Str.ofString "Polynomial.encode") 555, Value.str (Str.ofString "/claim/cut.py") 556, Value.int 190 0, Value.int 2 0, Value.int 0 0, Value.int 0 0, Value.int 3 0, Value.ref 297, Value.bool true, Value.int 181 0, Value.ref 298, Value.none, Value.ref 299, Value.ref 300, Value.ref 301, Value.int 559 0, Value.int 190 0, Value.str (Str.ofString "/claim/cut.py") 560] }
noncomputable def ob303 (_ : Params) : Obj := fO (Value.type "function") (defAt 6 1) (Str.ofString "Polynomial.encode") 3 ([]) (Value.none) (Value.none) (Value.none) (Value.str (Str.ofString "kyber_py.polynomials.polynomials") 447) (none) (Value.ref 302) (Value.none) 0
noncomputable def ob304 (_ : Params) : Obj := { cls := Value.type "tuple", data := Data.seq #[] }
noncomputable def ob305 (_ : Params) : Obj := { cls := Value.none, data := Data.fields #[] }
noncomputable def ob306 (_ : Params) : Obj := { cls := Value.type "tuple", data := Data.seq #[Value.str (Str.ofString "self") 565, Value.str (Str.ofString "x") 566, Value.str (Str.ofString "d") 567] }
noncomputable def ob307 (_ : Params) : Obj := { cls := Value.type "tuple", data := Data.seq #[] }
noncomputable def ob308 (_ : Params) : Obj := fO (Value.none) (defAt 6 2) (Str.ofString "Polynomial._compress_ele") 0 ([]) (Value.none) (Value.none) (Value.none) (Value.none) (none) (Value.none) (Value.none) 0
noncomputable def ob309 (_ : Params) : Obj := { cls := Value.type "code", data := Data.fields #[Value.str (Str.ofString "_compress_ele") 562, Value.str (Str.ofString "Polynomial._compress_ele") 563, Value.str (Str.ofString "/claim/cut.py") 564, Value.int 193 0, Value.int 3 0, Value.int 0 0, Value.int 0 0, Value.int 3 0, Value.ref 304, Value.bool true, Value.int 181 0, Value.ref 305, Value.none, Value.ref 306, Value.ref 307, Value.ref 308, Value.int 568 0, Value.int 193 0, Value.str (Str.ofString "/claim/cut.py") 569] }
noncomputable def ob310 (_ : Params) : Obj := fO (Value.type "function") (defAt 6 2) (Str.ofString "Polynomial._compress_ele") 3 ([]) (Value.none) (Value.none) (Value.none) (Value.str (Str.ofString "kyber_py.polynomials.polynomials") 447) (none) (Value.ref 309) (Value.none) 0
noncomputable def ob311 (_ : Params) : Obj := { cls := Value.type "tuple", data := Data.seq #[] }
noncomputable def ob312 (_ : Params) : Obj := { cls := Value.none, data := Data.fields #[] }
noncomputable def ob313 (_ : Params) : Obj := { cls := Value.type "tuple", data := Data.seq #[Value.str (Str.ofString "self") 574, Value.str (Str.ofString "x") 575, Value.str (Str.ofString "d") 576] }
noncomputable def ob314 (_ : Params) : Obj := { cls := Value.type "tuple", data := Data.seq #[] }
noncomputable def ob315 (_ : Params) : Obj := fO (Value.none) (defAt 6 3) (Str.ofString "Polynomial._decompress_ele") 0 ([]) (Value.none) (Value.none) (Value.none) (Value.none) (none) (Value.none) (Value.none) 0
noncomputable def ob316 (_ : Params) : Obj := { cls := Value.type "code", data := Data.fields #[Value.str (Str.ofString "_decompress_ele") 571, Value.str (Str.ofString "Polynomial._decompress_ele") 572, Value.str (Str.ofString "/claim/cut.py") 573, Value.int 196 0, Value.int 3 0, Value.int 0 0, Value.int 0 0, Value.int 3 0, Value.ref 311, Value.bool true, Value.int 181 0, Value.ref 312, Value.none, Value.ref 313, Value.ref 314, Value.ref 315, Value.int 577 0, Value.int 196 0, Value.str (Str.ofString "/claim/cut.py") 578] }
noncomputable def ob317 (_ : Params) : Obj := fO (Value.type "function") (defAt 6 3) (Str.ofString "Polynomial._decompress_ele") 3 ([]) (Value.none) (Value.none) (Value.none) (Value.str (Str.ofString "kyber_py.polynomials.polynomials") 447) (none) (Value.ref 316) (Value.none) 0
noncomputable def ob318 (_ : Params) : Obj := { cls := Value.type "tuple", data := Data.seq #[] }
noncomputable def ob319 (_ : Params) : Obj := { cls := Value.none, data := Data.fields #[] }
noncomputable def ob320 (_ : Params) : Obj := { cls := Value.type "tuple", data := Data.seq #[Value.str (Str.ofString "self") 583, Value.str (Str.ofString "d") 584] }
noncomputable def ob321 (_ : Params) : Obj := { cls := Value.type "tuple", data := Data.seq #[] }
noncomputable def ob322 (_ : Params) : Obj := fO (Value.none) (defAt 6 4) (Str.ofString "Polynomial.compress") 0 ([]) (Value.none) (Value.none) (Value.none) (Value.none) (none) (Value.none) (Value.none) 0
noncomputable def ob323 (_ : Params) : Obj := { cls := Value.type "code", data := Data.fields #[Value.str (Str.ofString "compress") 580, Value.str (Str.ofString "Polynomial.compress") 581, Value.str (Str.ofString "/claim/cut.py") 582, Value.int 199 0, Value.int 2 0, Value.int 0 0, Value.int 0 0, Value.int 3 0, Value.ref 318, Value.bool true, Value.int 181 0, Value.ref 319, Value.none, Value.ref 320, Value.ref 321, Value.ref 322, Value.int 585 0, Value.int 199 0, Value.str (Str.ofString "/claim/cut.py") 586] }
noncomputable def ob324 (_ : Params) : Obj := fO (Value.type "function") (defAt 6 4) (Str.ofString "Polynomial.compress") 3 ([]) (Value.none) (Value.none) (Value.none) (Value.str (Str.ofString "kyber_py.polynomials.polynomials") 447) (none) (Value.ref 323) (Value.none) 0
noncomputable def ob325 (_ : Params) : Obj := { cls := Value.type "tuple", data := Data.seq #[] }
noncomputable def ob326 (_ : Params) : Obj := { cls := Value.none, data := Data.fields #[] }
noncomputable def ob327 (_ : Params) : Obj := { cls := Value.type "tuple", data := Data.seq #[Value.str (Str.ofString "self") 591, Value.str (Str.ofString "d") 592] }
noncomputable def ob328 (_ : Params) : Obj := { cls := Value.type "tuple", data := Data.seq #[] }
noncomputable def ob329 (_ : Params) : Obj := fO (Value.none) (defAt 6 5) (Str.ofString "Polynomial.decompress") 0 ([]) (Value.none) (Value.none) (Value.none) (Value.none) (none) (Value.none) (Value.none) 0
noncomputable def ob330 (_ : Params) : Obj := { cls := Value.type "code", data := Data.fields #[Value.str (Str.ofString "decompress") 588, Value.str (Str.ofString "Polynomial.decompress") 589, Value.str (Str.ofString "/claim/cut.py") 590, Value.int 202 0, Value.int 2 0, Value.int 0 0, Value.int 0 0, Value.int 3 0, Value.ref 325, Value.bool true, Value.int 181 0, Value.ref 326, Value.none, Value.ref 327, Value.ref 328, Value.ref 329, Value.int 593 0, Value.int 202 0, Value.str (Str.ofString "/claim/cut.py") 594] }
noncomputable def ob331 (_ : Params) : Obj := fO (Value.type "function") (defAt 6 5) (Str.ofString "Polynomial.decompress") 3 ([]) (Value.none) (Value.none) (Value.none) (Value.str (Str.ofString "kyber_py.polynomials.polynomials") 447) (none) (Value.ref 330) (Value.none) 0
noncomputable def ob332 (_ : Params) : Obj := { cls := Value.type "tuple", data := Data.seq #[] }
noncomputable def ob333 (_ : Params) : Obj := { cls := Value.none, data := Data.fields #[] }
noncomputable def ob334 (_ : Params) : Obj := { cls := Value.type "tuple", data := Data.seq #[Value.str (Str.ofString "self") 599] }
noncomputable def ob335 (_ : Params) : Obj := { cls := Value.type "tuple", data := Data.seq #[] }
noncomputable def ob336 (_ : Params) : Obj := fO (Value.none) (defAt 6 6) (Str.ofString "Polynomial.to_ntt") 0 ([]) (Value.none) (Value.none) (Value.none) (Value.none) (none) (Value.none) (Value.none) 0
noncomputable def ob337 (_ : Params) : Obj := { cls := Value.type "code", data := Data.fields #[Value.str (Str.ofString "to_ntt") 596, Value.str (Str.ofString "Polynomial.to_ntt") 597, Value.str (Str.ofString "/claim/cut.py") 598, Value.int 205 0, Value.int 1 0, Value.int 0 0, Value.int 0 0, Value.int 3 0, Value.ref 332, Value.bool true, Value.int 181 0, Value.ref 333, Value.none, Value.ref 334, Value.ref 335, Value.ref 336, Value.int 600 0, Value.int 205 0, Value.str (Str.ofString "/claim/cut.py") 601] }
noncomputable def ob338 (_ : Params) : Obj := fO (Value.type "function") (defAt 6 6) (Str.ofString "Polynomial.to_ntt") 3 ([]) (Value.none) (Value.none) (Value.none) (Value.str (Str.ofString "kyber_py.polynomials.polynomials") 447) (none) (Value.ref 337) (Value.none) 0
noncomputable def ob339 (_ : Params) : Obj := { cls := Value.type "tuple", data := Data.seq #[] }
noncomputable def ob340 (_ : Params) : Obj := { cls := Value.none, data := Data.fields #[] }
noncomputable def ob341 (_ : Params) : Obj := { cls := Value.type "tuple", data := Data.seq #[Value.str (Str.ofString "self") 606] }
noncomputable def ob342 (_ : Params) : Obj := { cls := Value.type "tuple", data := Data.seq #[] }
noncomputable def ob343 (_ : Params) : Obj := fO (Value.none) (defAt 6 7) (Str.ofString "Polynomial.from_ntt") 0 ([]) (Value.none) (Value.none) (Value.none) (Value.none) (none) (Value.none) (Value.none) 0
noncomputable def ob344 (_ : Params) : Obj := { cls := Value.type "code", data := Data.fields #[Value.str (Str.ofString "from_ntt") 603, Value.str (Str.ofString "Polynomial.from_ntt") 604, Value.str (Str.ofString "/claim/cut.py") 605, Value.int 208 0, Value.int 1 0, Value.int 0 0, Value.int 0 0, Value.int 3 0, Value.ref 339, Value.bool true, Value.int 181 0, Value.ref 340, Value.none, Value.ref 341, Value.ref 342, Value.ref 343, Value.int 607 0, Value.int 208 0, Value.str (Str.ofString "/claim/cut.py") 608] }
noncomputable def ob345 (_ : Params) : Obj := fO (Value.type "function") (defAt 6 7) (Str.ofString "Polynomial.from_ntt") 3 ([]) (Value.none) (Value.none) (Value.none) (Value.str (Str.ofString "kyber_py.polynomials.polynomials") 447) (none) (Value.ref 344) (Value.none) 0
noncomputable def ob346 (_ : Params) : Obj := { cls := Value.type "tuple", data := Data.seq #[Value.str (Str.ofString "coeffs") 610, Value.str (Str.ofString "parent") 611] }
noncomputable def ob347 (P : Params) : Obj := { cls := Value.type "dict", data := Data.dict #[{ hash := PyData.keyHash P (Str.ofString "__module__"), key := Value.str (Str.ofString "__module__") 540, val := Value.str (Str.ofString "kyber_py.polynomials.polynomials") 447 }, { hash := PyData.keyHash P (Str.ofString "__firstlineno__"), key := Value.str (Str.ofString "__firstlineno__") 544, val := Value.int 184 543 }, { hash := PyData.keyHash P (Str.ofString "__init__"), key := Value.str (Str.ofString "__init__") 553, val := Value.ref 296 }, { hash := PyData.keyHash P (Str.ofString "encode"), key := Value.str (Str.ofString "encode") 561, val := Value.ref 303 }, { hash := PyData.keyHash P (Str.ofString "_compress_ele"), key := Value.str (Str.ofString "_compress_ele") 570, val := Value.ref 310 }, { hash := PyData.keyHash P (Str.ofString "_decompress_ele"), key := Value.str (Str.ofString "_decompress_ele") 579, val := Value.ref 317 }, { hash := PyData.keyHash P (Str.ofString "compress"), key := Value.str (Str.ofString "compress") 587, val := Value.ref 324 }, { hash := PyData.keyHash P (Str.ofString "decompress"), key := Value.str (Str.ofString "decompress") 595, val := Value.ref 331 }, { hash := PyData.keyHash P (Str.ofString "to_ntt"), key := Value.str (Str.ofString "to_ntt") 602, val := Value.ref 338 }, { hash := PyData.keyHash P (Str.ofString "from_ntt"), key := Value.str (Str.ofString "from_ntt") 609, val := Value.ref 345 }, { hash := PyData.keyHash P (Str.ofString "__static_attributes__"), key := Value.str (Str.ofString "__static_attributes__") 612, val := Value.ref 346 }, { hash := PyData.keyHash P (Str.ofString "__doc__"), key := Value.str (Str.ofString "__doc__") 613, val := Value.none }] 2 }
noncomputable def ob348 (_ : Params) : Obj := { cls := Value.type "type", data := Data.cls { name := Str.ofString "Polynomial", bases := [Value.ref 220], mro := [Value.ref 348, Value.ref 220, Value.type "object"], ns := 347, qualname := Str.ofString "Polynomial" }, slots := #[some (Value.ref 283), none, some (Value.str (Str.ofString "Polynomial") 533), some (Value.str (Str.ofString "Polynomial") 541), some (Value.builtin "object.__new__"), some (Value.bool true)] }
noncomputable def ob349 (_ : Params) : Obj := { cls := Value.type "super", data := Data.fields #[Value.ref 348, Value.ref 348, Value.ref 348] }
noncomputable def ob350 (_ : Params) : Obj := { cls := Value.type "builtin_function_or_method", data := Data.fields #[Value.builtin "object.__init_subclass__", Value.ref 348] }
noncomputable def ob3v2 (P : Params) : Obj := { cls := Value.type "dict", data := Data.dict #[{ hash := PyData.keyHash P (Str.ofString "__name__"), key := Value.str (Str.ofString "__name__") 165, val := Value.str (Str.ofString "law_yi0045_01") 731 }, { hash := PyData.keyHash P (Str.ofString "__doc__"), key := Value.str (Str.ofString "__doc__") 166, val := Value.none }, { hash := PyData.keyHash P (Str.ofString "__package__"), key := Value.str (Str.ofString "__package__") 167, val := Value.none }, { hash := PyData.keyHash P (Str.ofString "__loader__"), key := Value.str (Str.ofString "__loader__") 168, val := Value.builtin "__main__.__loader__#opaque" }, { hash := PyData.keyHash P (Str.ofString "__spec__"), key := Value.str (Str.ofString "__spec__") 169, val := Value.none }, { hash := PyData.keyHash P (Str.ofString "__annotations__"), key := Value.str (Str.ofString "__annotations__") 170, val := Value.ref 6 }, { hash := PyData.keyHash P (Str.ofString "__builtins__"), key := Value.str (Str.ofString "__builtins__") 171, val := Value.ref 4 }, { hash := PyData.keyHash P (Str.ofString "__file__"), key := Value.str (Str.ofString "__file__") 173, val := Value.str (Str.ofString "/claim/cut.py") 172 }, { hash := PyData.keyHash P (Str.ofString "__cached__"), key := Value.str (Str.ofString "__cached__") 174, val := Value.none }, { hash := PyData.keyHash P (Str.ofString "_wall"), key := Value.str (Str.ofString "_wall") 193, val := Value.ref 21 }, { hash := PyData.keyHash P (Str.ofString "GenericPolynomialRing"), key := Value.str (Str.ofString "GenericPolynomialRing") 248, val := Value.ref 59 }, { hash := PyData.keyHash P (Str.ofString "GenericPolynomial"), key := Value.str (Str.ofString "GenericPolynomial") 446, val := Value.ref 220 }, { hash := PyData.keyHash P (Str.ofString "PolynomialRing"), key := Value.str (Str.ofString "PolynomialRing") 532, val := Value.ref 280 }, { hash := PyData.keyHash P (Str.ofString "Polynomial"), key := Value.str (Str.ofString "Polynomial") 615, val := Value.ref 348 }, { hash := PyData.keyHash P (Str.ofString "PolynomialNTT"), key := Value.str (Str.ofString "PolynomialNTT") 730, val := Value.ref 424 }, { hash := PyData.keyHash P (Str.ofString "_law_state"), key := Value.str (Str.ofString "_law_state") 738, val := Value.ref 431 }, { hash := PyData.keyHash P (Str.ofString "_law_take"), key := Value.str (Str.ofString "_law_take") 750, val := Value.ref 438 }, { hash := PyData.keyHash P (Str.ofString "_law_full"), key := Value.str (Str.ofString "_law_full") 756, val := Value.ref 443 }, { hash := PyData.keyHash P (Str.ofString "law"), key := Value.str (Str.ofString "law") 762, val := Value.ref 448 }] 19 }
noncomputable def ob12v3 (_ : Params) : Obj := { cls := Value.none, data := Data.fields #[Value.int 1 0, Value.int 0 0, Value.ref 20, Value.int 5 0, Value.int 0 0, Value.ref 27, Value.int 23 0, Value.int 0 0, Value.ref 69, Value.int 153 0, Value.int 0 0, Value.ref 230, Value.int 184 0, Value.int 0 0, Value.ref 288, Value.int 210 0, Value.int 0 0, Value.ref 356, Value.int 258 0, Value.int 0 0, Value.ref 430, Value.int 263 0, Value.int 0 0, Value.ref 437, Value.int 274 0, Value.int 0 0, Value.ref 442, Value.int 277 0, Value.int 0 0, Value.ref 447] }
noncomputable def ob348v1 (_ : Params) : Obj := { cls := Value.type "type", data := Data.cls { name := Str.ofString "Polynomial", bases := [Value.ref 220], mro := [Value.ref 348, Value.ref 220, Value.type "object"], ns := 347, qualname := Str.ofString "Polynomial", subclasses := [Value.ref 424] }, slots := #[some (Value.ref 283), none, some (Value.str (Str.ofString "Polynomial") 533), some (Value.str (Str.ofString "Polynomial") 541), some (Value.builtin "object.__new__"), some (Value.bool true)] }
noncomputable def ob351 (_ : Params) : Obj := { cls := Value.type "tuple", data := Data.seq #[Value.ref 348] }
noncomputable def ob352 (_ : Params) : Obj := { cls := Value.type "builtin_function_or_method", data := Data.fields #[Value.builtin "type.__prepare__", Value.type "type"] }
noncomputable def ob353 (P : Params) : Obj := { cls := Value.type "dict", data := Data.dict #[{ hash := PyData.keyHash P (Str.ofString "__module__"), key := Value.str (Str.ofString "__module__") 623, val := Value.str (Str.ofString "kyber_py.polynomials.polynomials") 447 }, { hash := PyData.keyHash P (Str.ofString "__qualname__"), key := Value.str (Str.ofString "__qualname__") 625, val := Value.str (Str.ofString "PolynomialNTT") 624 }, { hash := PyData.keyHash P (Str.ofString "__firstlineno__"), key := Value.str (Str.ofString "__firstlineno__") 627, val := Value.int 210 626 }, { hash := PyData.keyHash P (Str.ofString "__init__"), key := Value.str (Str.ofString "__init__") 636, val := Value.ref 364 }, { hash := PyData.keyHash P (Str.ofString "to_ntt"), key := Value.str (Str.ofString "to_ntt") 643, val := Value.ref 371 }, { hash := PyData.keyHash P (Str.ofString "from_ntt"), key := Value.str (Str.ofString "from_ntt") 650, val := Value.ref 378 }, { hash := PyData.keyHash P (Str.ofString "_ntt_base_multiplication"), key := Value.str (Str.ofString "_ntt_base_multiplication") 675, val := Value.ref 387 }, { hash := PyData.keyHash P (Str.ofString "_ntt_coefficient_multiplication"), key := Value.str (Str.ofString "_ntt_coefficient_multiplication") 691, val := Value.ref 395 }, { hash := PyData.keyHash P (Str.ofString "_ntt_multiplication"), key := Value.str (Str.ofString "_ntt_multiplication") 700, val := Value.ref 402 }, { hash := PyData.keyHash P (Str.ofString "__add__"), key := Value.str (Str.ofString "__add__") 709, val := Value.ref 409 }, { hash := PyData.keyHash P (Str.ofString "__sub__"), key := Value.str (Str.ofString "__sub__") 718, val := Value.ref 416 }, { hash := PyData.keyHash P (Str.ofString "__mul__"), key := Value.str (Str.ofString "__mul__") 724, val := Value.ref 421 }, { hash := PyData.keyHash P (Str.ofString "__static_attributes__"), key := Value.str (Str.ofString "__static_attributes__") 727, val := Value.ref 422 }] 13 }
noncomputable def ob354 (_ : Params) : Obj := { cls := Value.type "tuple", data := Data.seq #[] }
noncomputable def ob355 (_ : Params) : Obj := { cls := Value.none, data := Data.fields #[Value.int 212 0, Value.int 4 0, Value.ref 363, Value.int 216 0, Value.int 4 0, Value.ref 370, Value.int 219 0, Value.int 4 0, Value.ref 377, Value.int 223 0, Value.int 4 0, Value.ref 384, Value.int 228 0, Value.int 4 0, Value.ref 394, Value.int 237 0, Value.int 4 0, Value.ref 401, Value.int 241 0, Value.int 4 0, Value.ref 408, Value.int 245 0, Value.int 4 0, Value.ref 415, Value.int 249 0, Value.int 4 0, Value.ref 420] }
noncomputable def ob356 (_ : Params) : Obj := { cls := Value.type "code", data := Data.fields #[Value.str (Str.ofString "PolynomialNTT") 618, Value.str (Str.ofString "PolynomialNTT") 619, Value.str (Str.ofString "/claim/cut.py") 620, Value.int 210 0, Value.int 0 0, Value.int 0 0, Value.int 0 0, Value.int 0 0, Value.ref 354, Value.bool false, Value.int 181 0, Value.ref 355, Value.none, Value.none, Value.none, Value.none, Value.int 621 0, Value.int 210 0, Value.str (Str.ofString "/claim/cut.py") 622] }
noncomputable def ob357 (_ : Params) : Obj := { cls := Value.type "frame", slots := #[some (Value.ref 356), some (Value.ref 3), some (Value.ref 353), none, some (Value.str (Str.ofString "kyber_py.polynomials.polynomials") 447), none, some (Value.ref 0)] }
noncomputable def ob358 (_ : Params) : Obj := { cls := Value.type "tuple", data := Data.seq #[] }
noncomputable def ob359 (_ : Params) : Obj := { cls := Value.none, data := Data.fields #[] }
noncomputable def ob360 (_ : Params) : Obj := { cls := Value.type "tuple", data := Data.seq #[Value.str (Str.ofString "self") 631, Value.str (Str.ofString "parent") 632, Value.str (Str.ofString "coefficients") 633] }
noncomputable def ob361 (_ : Params) : Obj := { cls := Value.type "tuple", data := Data.seq #[] }
noncomputable def ob362 (_ : Params) : Obj := fO (Value.none) (defAt 7 0) (Str.ofString "PolynomialNTT.__init__") 0 ([]) (Value.none) (Value.none) (Value.none) (Value.none) (none) (Value.none) (Value.none) 0
noncomputable def ob363 (_ : Params) : Obj := { cls := Value.type "code", data := Data.fields #[Value.str (Str.ofString "__init__") 628, Value.str (Str.ofString "PolynomialNTT.__init__") 629, Value.str (Str.ofString "/claim/cut.py") 630, Value.int 212 0, Value.int 3 0, Value.int 0 0, Value.int 0 0, Value.int 3 0, Value.ref 358, Value.bool true, Value.int 181 0, Value.ref 359, Value.none, Value.ref 360, Value.ref 361, Value.ref 362, Value.int 634 0, Value.int 212 0, Value.str (Str.ofString "/claim/cut.py") 635] }
noncomputable def ob364 (_ : Params) : Obj := fO (Value.type "function") (defAt 7 0) (Str.ofString "PolynomialNTT.__init__") 3 ([]) (Value.none) (Value.none) (Value.none) (Value.str (Str.ofString "kyber_py.polynomials.polynomials") 447) (none) (Value.ref 363) (Value.none) 0
noncomputable def ob365 (_ : Params) : Obj := { cls := Value.type "tuple", data := Data.seq #[] }
noncomputable def ob366 (_ : Params) : Obj := { cls := Value.none, data := Data.fields #[] }
noncomputable def ob367 (_ : Params) : Obj := { cls := Value.type "tuple", data := Data.seq #[Value.str (Str.ofString "self") 640] }
noncomputable def ob368 (_ : Params) : Obj := { cls := Value.type "tuple", data := Data.seq #[] }
noncomputable def ob369 (_ : Params) : Obj := fO (Value.none) (defAt 7 1) (Str.ofString "PolynomialNTT.to_ntt") 0 ([]) (Value.none) (Value.none) (Value.none) (Value.none) (none) (Value.none) (Value.none) 0
noncomputable def ob370 (_ : Params) : Obj := { cls := Value.type "code", data := Data.fields #[Value.str (Str.ofString "to_ntt") 637, Value.str (Str.ofString "PolynomialNTT.to_ntt") 638, Value.str (Str.ofString "/claim/cut.py") 639, Value.int 216 0, Value.int 1 0, Value.int 0 0, Value.int 0 0, Value.int 3 0, Value.ref 365, Value.bool true, Value.int 181 0, Value.ref 366, Value.none, Value.ref 367, Value.ref 368, Value.ref 369, Value.int 641 0, Value.int 216 0, Value.str (Str.ofString "/claim/cut.py") 642] }
noncomputable def ob371 (_ : Params) : Obj := fO (Value.type "function") (defAt 7 1) (Str.ofString "PolynomialNTT.to_ntt") 3 ([]) (Value.none) (Value.none) (Value.none) (Value.str (Str.ofString "kyber_py.polynomials.polynomials") 447) (none) (Value.ref 370) (Value.none) 0
noncomputable def ob372 (_ : Params) : Obj := { cls := Value.type "tuple", data := Data.seq #[] }
noncomputable def ob373 (_ : Params) : Obj := { cls := Value.none, data := Data.fields #[] }
noncomputable def ob374 (_ : Params) : Obj := { cls := Value.type "tuple", data := Data.seq #[Value.str (Str.ofString "self") 647] }
noncomputable def ob375 (_ : Params) : Obj := { cls := Value.type "tuple", data := Data.seq #[] }
noncomputable def ob376 (_ : Params) : Obj := fO (Value.none) (defAt 7 2) (Str.ofString "PolynomialNTT.from_ntt") 0 ([]) (Value.none) (Value.none) (Value.none) (Value.none) (none) (Value.none) (Value.none) 0
noncomputable def ob377 (_ : Params) : Obj := { cls := Value.type "code", data := Data.fields #[Value.str (Str.ofString "from_ntt") 644, Value.str (Str.ofString "PolynomialNTT.from_ntt") 645, Value.str (Str.ofString "/claim/cut.py") 646, Value.int 219 0, Value.int 1 0, Value.int 0 0, Value.int 0 0, Value.int 3 0, Value.ref 372, Value.bool true, Value.int 181 0, Value.ref 373, Value.none, Value.ref 374, Value.ref 375, Value.ref 376, Value.int 648 0, Value.int 219 0, Value.str (Str.ofString "/claim/cut.py") 649] }
noncomputable def ob378 (_ : Params) : Obj := fO (Value.type "function") (defAt 7 2) (Str.ofString "PolynomialNTT.from_ntt") 3 ([]) (Value.none) (Value.none) (Value.none) (Value.str (Str.ofString "kyber_py.polynomials.polynomials") 447) (none) (Value.ref 377) (Value.none) 0
noncomputable def ob379 (_ : Params) : Obj := { cls := Value.type "tuple", data := Data.seq #[] }
noncomputable def ob380 (_ : Params) : Obj := { cls := Value.none, data := Data.fields #[] }
noncomputable def ob381 (_ : Params) : Obj := { cls := Value.type "tuple", data := Data.seq #[Value.str (Str.ofString "a0") 654, Value.str (Str.ofString "a1") 655, Value.str (Str.ofString "b0") 656, Value.str (Str.ofString "b1") 657, Value.str (Str.ofString "zeta") 658, Value.str (Str.ofString "r0") 659, Value.str (Str.ofString "r1") 660] }
noncomputable def ob382 (_ : Params) : Obj := { cls := Value.type "tuple", data := Data.seq #[] }
noncomputable def ob383 (_ : Params) : Obj := fO (Value.none) (defAt 7 3) (Str.ofString "PolynomialNTT._ntt_base_multiplication") 0 ([]) (Value.none) (Value.none) (Value.none) (Value.none) (none) (Value.none) (Value.none) 0
noncomputable def ob384 (_ : Params) : Obj := { cls := Value.type "code", data := Data.fields #[Value.str (Str.ofString "_ntt_base_multiplication") 651, Value.str (Str.ofString "PolynomialNTT._ntt_base_multiplication") 652, Value.str (Str.ofString "/claim/cut.py") 653, Value.int 222 0, Value.int 5 0, Value.int 0 0, Value.int 0 0, Value.int 3 0, Value.ref 379, Value.bool true, Value.int 181 0, Value.ref 380, Value.none, Value.ref 381, Value.ref 382, Value.ref 383, Value.int 661 0, Value.int 222 0, Value.str (Str.ofString "/claim/cut.py") 662] }
noncomputable def ob385 (_ : Params) : Obj := fO (Value.type "function") (defAt 7 3) (Str.ofString "PolynomialNTT._ntt_base_multiplication") 3 ([]) (Value.none) (Value.none) (Value.none) (Value.str (Str.ofString "kyber_py.polynomials.polynomials") 447) (some 388) (Value.ref 384) (Value.none) 0
noncomputable def ob386 (P : Params) : Obj := { cls := Value.type "dict", data := Data.dict #[{ hash := PyData.keyHash P (Str.ofString "__module__"), key := Value.str (Str.ofString "__module__") 664, val := Value.str (Str.ofString "kyber_py.polynomials.polynomials") 447 }, { hash := PyData.keyHash P (Str.ofString "__name__"), key := Value.str (Str.ofString "__name__") 667, val := Value.str (Str.ofString "_ntt_base_multiplication") 666 }, { hash := PyData.keyHash P (Str.ofString "__qualname__"), key := Value.str (Str.ofString "__qualname__") 670, val := Value.str (Str.ofString "PolynomialNTT._ntt_base_multiplication") 669 }, { hash := PyData.keyHash P (Str.ofString "__doc__"), key := Value.str (Str.ofString "__doc__") 672, val := Value.none }, { hash := PyData.keyHash P (Str.ofString "__annotations__"), key := Value.str (Str.ofString "__annotations__") 674, val := Value.ref 388 }] 5 }
noncomputable def ob387 (_ : Params) : Obj := { cls := Value.type "staticmethod", dict := some 386, data := Data.fields #[Value.ref 385, Value.bool false] }
noncomputable def ob388 (_ : Params) : Obj := { cls := Value.type "dict", data := Data.dict #[] }
noncomputable def ob389 (_ : Params) : Obj := { cls := Value.type "tuple", data := Data.seq #[] }
noncomputable def ob390 (_ : Params) : Obj := { cls := Value.none, data := Data.fields #[] }
noncomputable def ob391 (_ : Params) : Obj := { cls := Value.type "tuple", data := Data.seq #[Value.str (Str.ofString "self") 679, Value.str (Str.ofString "f_coeffs") 680, Value.str (Str.ofString "g_coeffs") 681, Value.str (Str.ofString "new_coeffs") 682, Value.str (Str.ofString "zetas") 683, Value.str (Str.ofString "i") 684, Value.str (Str.ofString "r0") 685, Value.str (Str.ofString "r1") 686, Value.str (Str.ofString "r2") 687, Value.str (Str.ofString "r3") 688] }
noncomputable def ob392 (_ : Params) : Obj := { cls := Value.type "tuple", data := Data.seq #[] }
noncomputable def ob393 (_ : Params) : Obj := fO (Value.none) (defAt 7 4) (Str.ofString "PolynomialNTT._ntt_coefficient_multiplication") 0 ([]) (Value.none) (Value.none) (Value.none) (Value.none) (none) (Value.none) (Value.none) 0
noncomputable def ob394 (_ : Params) : Obj := { cls := Value.type "code", data := Data.fields #[Value.str (Str.ofString "_ntt_coefficient_multiplication") 676, Value.str (Str.ofString "PolynomialNTT._ntt_coefficient_multiplication") 677, Value.str (Str.ofString "/claim/cut.py") 678, Value.int 228 0, Value.int 3 0, Value.int 0 0, Value.int 0 0, Value.int 3 0, Value.ref 389, Value.bool true, Value.int 181 0, Value.ref 390, Value.none, Value.ref 391, Value.ref 392, Value.ref 393, Value.int 689 0, Value.int 228 0, Value.str (Str.ofString "/claim/cut.py") 690] }
noncomputable def ob395 (_ : Params) : Obj := fO (Value.type "function") (defAt 7 4) (Str.ofString "PolynomialNTT._ntt_coefficient_multiplication") 3 ([]) (Value.none) (Value.none) (Value.none) (Value.str (Str.ofString "kyber_py.polynomials.polynomials") 447) (none) (Value.ref 394) (Value.none) 0
noncomputable def ob396 (_ : Params) : Obj := { cls := Value.type "tuple", data := Data.seq #[] }
noncomputable def ob397 (_ : Params) : Obj := { cls := Value.none, data := Data.fields #[] }
noncomputable def ob398 (_ : Params) : Obj := { cls := Value.type "tuple", data := Data.seq #[Value.str (Str.ofString "self") 695, Value.str (Str.ofString "other") 696, Value.str (Str.ofString "new_coeffs") 697] }
noncomputable def ob399 (_ : Params) : Obj := { cls := Value.type "tuple", data := Data.seq #[] }
noncomputable def ob400 (_ : Params) : Obj := fO (Value.none) (defAt 7 5) (Str.ofString "PolynomialNTT._ntt_multiplication") 0 ([]) (Value.none) (Value.none) (Value.none) (Value.none) (none) (Value.none) (Value.none) 0
noncomputable def ob401 (_ : Params) : Obj := { cls := Value.type "code", data := Data.fields #[Value.str (Str.ofString "_ntt_multiplication") 692, Value.str (Str.ofString "PolynomialNTT._ntt_multiplication") 693, Value.str (Str.ofString "/claim/cut.py") 694, Value.int 237 0, Value.int 2 0, Value.int 0 0, Value.int 0 0, Value.int 3 0, Value.ref 396, Value.bool true, Value.int 181 0, Value.ref 397, Value.none, Value.ref 398, Value.ref 399, Value.ref 400, Value.int 698 0, Value.int 237 0, Value.str (Str.ofString "/claim/cut.py") 699] }
noncomputable def ob402 (_ : Params) : Obj := fO (Value.type "function") (defAt 7 5) (Str.ofString "PolynomialNTT._ntt_multiplication") 3 ([]) (Value.none) (Value.none) (Value.none) (Value.str (Str.ofString "kyber_py.polynomials.polynomials") 447) (none) (Value.ref 401) (Value.none) 0
noncomputable def ob403 (_ : Params) : Obj := { cls := Value.type "tuple", data := Data.seq #[] }
noncomputable def ob404 (_ : Params) : Obj := { cls := Value.none, data := Data.fields #[] }
noncomputable def ob405 (_ : Params) : Obj := { cls := Value.type "tuple", data := Data.seq #[Value.str (Str.ofString "self") 704, Value.str (Str.ofString "other") 705, Value.str (Str.ofString "new_coeffs") 706] }
noncomputable def ob406 (_ : Params) : Obj := { cls := Value.type "tuple", data := Data.seq #[] }
noncomputable def ob407 (_ : Params) : Obj := fO (Value.none) (defAt 7 6) (Str.ofString "PolynomialNTT.__add__") 0 ([]) (Value.none) (Value.none) (Value.none) (Value.none) (none) (Value.none) (Value.none) 0
noncomputable def ob408 (_ : Params) : Obj := { cls := Value.type "code", data := Data.fields #[Value.str (Str.ofString "__add__") 701, Value.str (Str.ofString "PolynomialNTT.__add__") 702, Value.str (Str.ofString "/claim/cut.py") 703, Value.int 241 0, Value.int 2 0, Value.int 0 0, Value.int 0 0, Value.int 3 0, Value.ref 403, Value.bool true, Value.int 181 0, Value.ref 404, Value.none, Value.ref 405, Value.ref 406, Value.ref 407, Value.int 707 0, Value.int 241 0, Value.str (Str.ofString "/claim/cut.py") 708] }
noncomputable def ob409 (_ : Params) : Obj := fO (Value.type "function") (defAt 7 6) (Str.ofString "PolynomialNTT.__add__") 3 ([]) (Value.none) (Value.none) (Value.none) (Value.str (Str.ofString "kyber_py.polynomials.polynomials") 447) (none) (Value.ref 408) (Value.none) 0
noncomputable def ob410 (_ : Params) : Obj := { cls := Value.type "tuple", data := Data.seq #[] }
noncomputable def ob411 (_ : Params) : Obj := { cls := Value.none, data := Data.fields #[] }
noncomputable def ob412 (_ : Params) : Obj := { cls := Value.type "tuple", data := Data.seq #[Value.str (Str.ofString "self") 713, Value.str (Str.ofString "other") 714, Value.str (Str.ofString "new_coeffs") 715] }
noncomputable def ob413 (_ : Params) : Obj := { cls := Value.type "tuple", data := Data.seq #[] }
noncomputable def ob414 (_ : Params) : Obj := fO (Value.none) (defAt 7 7) (Str.ofString "PolynomialNTT.__sub__") 0 ([]) (Value.none) (Value.none) (Value.none) (Value.none) (none) (Value.none) (Value.none) 0
noncomputable def ob415 (_ : Params) : Obj := { cls := Value.type "code", data := Data.fields #[Value.str (Str.ofString "__sub__") 710, Value.str (Str.ofString "PolynomialNTT.__sub__") 711, Value.str (Str.ofString "/claim/cut.py") 712, Value.int 245 0, Value.int 2 0, Value.int 0 0, Value.int 0 0, Value.int 3 0, Value.ref 410, Value.bool true, Value.int 181 0, Value.ref 411, Value.none, Value.ref 412, Value.ref 413, Value.ref 414, Value.int 716 0, Value.int 245 0, Value.str (Str.ofString "/claim/cut.py") 717] }
noncomputable def ob416 (_ : Params) : Obj := fO (Value.type "function") (defAt 7 7) (Str.ofString "PolynomialNTT.__sub__") 3 ([]) (Value.none) (Value.none) (Value.none) (Value.str (Str.ofString "kyber_py.polynomials.polynomials") 447) (none) (Value.ref 415) (Value.none) 0
noncomputable def ob417 (_ : Params) : Obj := { cls := Value.type "tuple", data := Data.seq #[] }
noncomputable def ob418 (_ : Params) : Obj := { cls := Value.none, data := Data.fields #[] }
noncomputable def ob419 (_ : Params) : Obj := fO (Value.none) (defAt 7 8) (Str.ofString "PolynomialNTT.__mul__") 0 ([]) (Value.none) (Value.none) (Value.none) (Value.none) (none) (Value.none) (Value.none) 0
noncomputable def ob420 (_ : Params) : Obj := { cls := Value.type "code", data := Data.fields #[Value.str (Str.ofString "__mul__") 719, Value.str (Str.ofString "PolynomialNTT.__mul__") 720, Value.str (Str.ofString "/claim/cut.py") 721, Value.int 249 0, Value.int 2 0, Value.int 0 0, Value.int 0 0, Value.int 3 0, Value.ref 417, Value.bool true, Value.int 181 0, Value.ref 418, Value.none, Value.none, Value.none, Value.ref 419, Value.int 722 0, Value.int 249 0, Value.str (Str.ofString "/claim/cut.py") 723] }
noncomputable def ob421 (_ : Params) : Obj := fO (Value.type "function") (defAt 7 8) (Str.ofString "PolynomialNTT.__mul__") 3 ([]) (Value.none) (Value.none) (Value.none) (Value.str (Str.ofString "kyber_py.polynomials.polynomials") 447) (none) (Value.ref 420) (Value.none) 0
noncomputable def ob422 (_ : Params) : Obj := { cls := Value.type "tuple", data := Data.seq #[Value.str (Str.ofString "coeffs") 725, Value.str (Str.ofString "parent") 726] }
noncomputable def ob423 (P : Params) : Obj := { cls := Value.type "dict", data := Data.dict #[{ hash := PyData.keyHash P (Str.ofString "__module__"), key := Value.str (Str.ofString "__module__") 623, val := Value.str (Str.ofString "kyber_py.polynomials.polynomials") 447 }, { hash := PyData.keyHash P (Str.ofString "__firstlineno__"), key := Value.str (Str.ofString "__firstlineno__") 627, val := Value.int 210 626 }, { hash := PyData.keyHash P (Str.ofString "__init__"), key := Value.str (Str.ofString "__init__") 636, val := Value.ref 364 }, { hash := PyData.keyHash P (Str.ofString "to_ntt"), key := Value.str (Str.ofString "to_ntt") 643, val := Value.ref 371 }, { hash := PyData.keyHash P (Str.ofString "from_ntt"), key := Value.str (Str.ofString "from_ntt") 650, val := Value.ref 378 }, { hash := PyData.keyHash P (Str.ofString "_ntt_base_multiplication"), key := Value.str (Str.ofString "_ntt_base_multiplication") 675, val := Value.ref 387 }, { hash := PyData.keyHash P (Str.ofString "_ntt_coefficient_multiplication"), key := Value.str (Str.ofString "_ntt_coefficient_multiplication") 691, val := Value.ref 395 }, { hash := PyData.keyHash P (Str.ofString "_ntt_multiplication"), key := Value.str (Str.ofString "_ntt_multiplication") 700, val := Value.ref 402 }, { hash := PyData.keyHash P (Str.ofString "__add__"), key := Value.str (Str.ofString "__add__") 709, val := Value.ref 409 }, { hash := PyData.keyHash P (Str.ofString "__sub__"), key := Value.str (Str.ofString "__sub__") 718, val := Value.ref 416 }, { hash := PyData.keyHash P (Str.ofString "__mul__"), key := Value.str (Str.ofString "__mul__") 724, val := Value.ref 421 }, { hash := PyData.keyHash P (Str.ofString "__static_attributes__"), key := Value.str (Str.ofString "__static_attributes__") 727, val := Value.ref 422 }, { hash := PyData.keyHash P (Str.ofString "__doc__"), key := Value.str (Str.ofString "__doc__") 728, val := Value.none }] 2 }
noncomputable def ob424 (_ : Params) : Obj := { cls := Value.type "type", data := Data.cls { name := Str.ofString "PolynomialNTT", bases := [Value.ref 348], mro := [Value.ref 424, Value.ref 348, Value.ref 220, Value.type "object"], ns := 423, qualname := Str.ofString "PolynomialNTT" }, slots := #[some (Value.ref 351), none, some (Value.str (Str.ofString "PolynomialNTT") 616), some (Value.str (Str.ofString "PolynomialNTT") 624), some (Value.builtin "object.__new__"), some (Value.bool true)] }
noncomputable def ob425 (_ : Params) : Obj := { cls := Value.type "super", data := Data.fields #[Value.ref 424, Value.ref 424, Value.ref 424] }
noncomputable def ob426 (_ : Params) : Obj := { cls := Value.type "builtin_function_or_method", data := Data.fields #[Value.builtin "object.__init_subclass__", Value.ref 424] }
noncomputable def ob427 (_ : Params) : Obj := { cls := Value.type "tuple", data := Data.seq #[] }
noncomputable def ob428 (_ : Params) : Obj := { cls := Value.none, data := Data.fields #[] }
noncomputable def ob429 (_ : Params) : Obj := fO (Value.none) (rowAt 9) (Str.ofString "_law_state") 0 ([]) (Value.none) (Value.none) (Value.none) (Value.none) (none) (Value.none) (Value.none) 0
noncomputable def ob430 (_ : Params) : Obj := { cls := Value.type "code", data := Data.fields #[Value.str (Str.ofString "_law_state") 733, Value.str (Str.ofString "_law_state") 734, Value.str (Str.ofString "/claim/cut.py") 735, Value.int 258 0, Value.int 1 0, Value.int 0 0, Value.int 0 0, Value.int 3 0, Value.ref 427, Value.bool true, Value.int 181 0, Value.ref 428, Value.none, Value.none, Value.none, Value.ref 429, Value.int 736 0, Value.int 258 0, Value.str (Str.ofString "/claim/cut.py") 737] }
noncomputable def ob431 (_ : Params) : Obj := fO (Value.type "function") (rowAt 9) (Str.ofString "_law_state") 3 ([]) (Value.none) (Value.none) (Value.none) (Value.str (Str.ofString "law_yi0045_01") 731) (none) (Value.ref 430) (Value.none) 0
noncomputable def ob432 (_ : Params) : Obj := { cls := Value.type "tuple", data := Data.seq #[] }
noncomputable def ob433 (_ : Params) : Obj := { cls := Value.none, data := Data.fields #[] }
noncomputable def ob434 (_ : Params) : Obj := { cls := Value.type "tuple", data := Data.seq #[Value.str (Str.ofString "state") 742, Value.str (Str.ofString "most") 743, Value.str (Str.ofString "cells") 744, Value.str (Str.ofString "at") 745, Value.str (Str.ofString "cell") 746, Value.str (Str.ofString "mixed") 747] }
noncomputable def ob435 (_ : Params) : Obj := { cls := Value.type "tuple", data := Data.seq #[] }
noncomputable def ob436 (_ : Params) : Obj := fO (Value.none) (rowAt 10) (Str.ofString "_law_take") 0 ([]) (Value.none) (Value.none) (Value.none) (Value.none) (none) (Value.none) (Value.none) 0
noncomputable def ob437 (_ : Params) : Obj := { cls := Value.type "code", data := Data.fields #[Value.str (Str.ofString "_law_take") 739, Value.str (Str.ofString "_law_take") 740, Value.str (Str.ofString "/claim/cut.py") 741, Value.int 263 0, Value.int 2 0, Value.int 0 0, Value.int 0 0, Value.int 3 0, Value.ref 432, Value.bool true, Value.int 181 0, Value.ref 433, Value.none, Value.ref 434, Value.ref 435, Value.ref 436, Value.int 748 0, Value.int 263 0, Value.str (Str.ofString "/claim/cut.py") 749] }
noncomputable def ob438 (_ : Params) : Obj := fO (Value.type "function") (rowAt 10) (Str.ofString "_law_take") 3 ([]) (Value.none) (Value.none) (Value.none) (Value.str (Str.ofString "law_yi0045_01") 731) (none) (Value.ref 437) (Value.none) 0
noncomputable def ob439 (_ : Params) : Obj := { cls := Value.type "tuple", data := Data.seq #[] }
noncomputable def ob440 (_ : Params) : Obj := { cls := Value.none, data := Data.fields #[] }
noncomputable def ob441 (_ : Params) : Obj := fO (Value.none) (rowAt 11) (Str.ofString "_law_full") 0 ([]) (Value.none) (Value.none) (Value.none) (Value.none) (none) (Value.none) (Value.none) 0
noncomputable def ob442 (_ : Params) : Obj := { cls := Value.type "code", data := Data.fields #[Value.str (Str.ofString "_law_full") 751, Value.str (Str.ofString "_law_full") 752, Value.str (Str.ofString "/claim/cut.py") 753, Value.int 274 0, Value.int 2 0, Value.int 0 0, Value.int 0 0, Value.int 3 0, Value.ref 439, Value.bool true, Value.int 181 0, Value.ref 440, Value.none, Value.none, Value.none, Value.ref 441, Value.int 754 0, Value.int 274 0, Value.str (Str.ofString "/claim/cut.py") 755] }
noncomputable def ob443 (_ : Params) : Obj := fO (Value.type "function") (rowAt 11) (Str.ofString "_law_full") 3 ([]) (Value.none) (Value.none) (Value.none) (Value.str (Str.ofString "law_yi0045_01") 731) (none) (Value.ref 442) (Value.none) 0
noncomputable def ob444 (_ : Params) : Obj := { cls := Value.type "tuple", data := Data.seq #[] }
noncomputable def ob445 (_ : Params) : Obj := { cls := Value.none, data := Data.fields #[] }
noncomputable def ob446 (_ : Params) : Obj := fO (Value.none) (rowAt 12) (Str.ofString "law") 0 ([]) (Value.none) (Value.none) (Value.none) (Value.none) (none) (Value.none) (Value.none) 0
noncomputable def ob447 (_ : Params) : Obj := { cls := Value.type "code", data := Data.fields #[Value.str (Str.ofString "law") 757, Value.str (Str.ofString "law") 758, Value.str (Str.ofString "/claim/cut.py") 759, Value.int 277 0, Value.int 1 0, Value.int 0 0, Value.int 0 0, Value.int 3 0, Value.ref 444, Value.bool true, Value.int 181 0, Value.ref 445, Value.none, Value.none, Value.none, Value.ref 446, Value.int 760 0, Value.int 277 0, Value.str (Str.ofString "/claim/cut.py") 761] }
noncomputable def ob448 (_ : Params) : Obj := fO (Value.type "function") (rowAt 12) (Str.ofString "law") 3 ([]) (Value.none) (Value.none) (Value.none) (Value.str (Str.ofString "law_yi0045_01") 731) (none) (Value.ref 447) (Value.none) 0
noncomputable def trB (P : Params) : BT := (n (boot_o_0 P) (n (boot_o_1 P) (n (boot_o_3 P) (n (boot_o_7 P) z z) (n (ob11 P) z z)) (n (boot_o_5 P) (n (boot_o_9 P) z z) (n (ob13 P) z z))) (n (boot_o_2 P) (n (boot_o_4 P) (n (boot_o_8 P) z z) (n (ob12 P) z z)) (n (boot_o_6 P) (n (boot_o_10 P) z z) (n (ob14 P) z z))))
noncomputable def stB (w : World) (os : OsState) : SharedT := ⟨trB w.params, 15, {}, #[], {}, 187, os⟩
noncomputable def psB : Pos := { line := 0, col := 0, endLine := 0, endCol := 0 }
noncomputable def tr3 (P : Params) : BT := (n (boot_o_0 P) (n (boot_o_1 P) (n (ob3 P) (n (boot_o_7 P) (n (ob15 P) (n (ob31 P) (n (ob63 P) (n (ob127 P) z z) (n (ob191 P) z z)) (n (ob95 P) (n (ob159 P) z z) (n (ob223 P) z z))) (n (ob47 P) (n (ob79 P) (n (ob143 P) z z) (n (ob207 P) z z)) (n (ob111 P) (n (ob175 P) z z) z))) (n (ob23 P) (n (ob39 P) (n (ob71 P) (n (ob135 P) z z) (n (ob199 P) z z)) (n (ob103 P) (n (ob167 P) z z) z)) (n (ob55 P) (n (ob87 P) (n (ob151 P) z z) (n (ob215 P) z z)) (n (ob119 P) (n (ob183 P) z z) z)))) (n (ob11 P) (n (ob19 P) (n (ob35 P) (n (ob67 P) (n (ob131 P) z z) (n (ob195 P) z z)) (n (ob99 P) (n (ob163 P) z z) z)) (n (ob51 P) (n (ob83 P) (n (ob147 P) z z) (n (ob211 P) z z)) (n (ob115 P) (n (ob179 P) z z) z))) (n (ob27 P) (n (ob43 P) (n (ob75 P) (n (ob139 P) z z) (n (ob203 P) z z)) (n (ob107 P) (n (ob171 P) z z) z)) (n (ob59 P) (n (ob91 P) (n (ob155 P) z z) (n (ob219 P) z z)) (n (ob123 P) (n (ob187 P) z z) z))))) (n (boot_o_5 P) (n (boot_o_9 P) (n (ob17 P) (n (ob33 P) (n (ob65 P) (n (ob129 P) z z) (n (ob193 P) z z)) (n (ob97 P) (n (ob161 P) z z) z)) (n (ob49 P) (n (ob81 P) (n (ob145 P) z z) (n (ob209 P) z z)) (n (ob113 P) (n (ob177 P) z z) z))) (n (ob25 P) (n (ob41 P) (n (ob73 P) (n (ob137 P) z z) (n (ob201 P) z z)) (n (ob105 P) (n (ob169 P) z z) z)) (n (ob57 P) (n (ob89 P) (n (ob153 P) z z) (n (ob217 P) z z)) (n (ob121 P) (n (ob185 P) z z) z)))) (n (ob13 P) (n (ob21 P) (n (ob37 P) (n (ob69 P) (n (ob133 P) z z) (n (ob197 P) z z)) (n (ob101 P) (n (ob165 P) z z) z)) (n (ob53 P) (n (ob85 P) (n (ob149 P) z z) (n (ob213 P) z z)) (n (ob117 P) (n (ob181 P) z z) z))) (n (ob29 P) (n (ob45 P) (n (ob77 P) (n (ob141 P) z z) (n (ob205 P) z z)) (n (ob109 P) (n (ob173 P) z z) z)) (n (ob61 P) (n (ob93 P) (n (ob157 P) z z) (n (ob221 P) z z)) (n (ob125 P) (n (ob189 P) z z) z)))))) (n (boot_o_2 P) (n (boot_o_4 P) (n (boot_o_8 P) (n (ob16 P) (n (ob32 P) (n (ob64 P) (n (ob128 P) z z) (n (ob192 P) z z)) (n (ob96 P) (n (ob160 P) z z) (n (ob224 P) z z))) (n (ob48 P) (n (ob80 P) (n (ob144 P) z z) (n (ob208 P) z z)) (n (ob112 P) (n (ob176 P) z z) z))) (n (ob24 P) (n (ob40 P) (n (ob72 P) (n (ob136 P) z z) (n (ob200 P) z z)) (n (ob104 P) (n (ob168 P) z z) z)) (n (ob56 P) (n (ob88 P) (n (ob152 P) z z) (n (ob216 P) z z)) (n (ob120 P) (n (ob184 P) z z) z)))) (n (ob12v1 P) (n (ob20 P) (n (ob36 P) (n (ob68 P) (n (ob132 P) z z) (n (ob196 P) z z)) (n (ob100 P) (n (ob164 P) z z) z)) (n (ob52 P) (n (ob84 P) (n (ob148 P) z z) (n (ob212 P) z z)) (n (ob116 P) (n (ob180 P) z z) z))) (n (ob28 P) (n (ob44 P) (n (ob76 P) (n (ob140 P) z z) (n (ob204 P) z z)) (n (ob108 P) (n (ob172 P) z z) z)) (n (ob60 P) (n (ob92 P) (n (ob156 P) z z) (n (ob220 P) z z)) (n (ob124 P) (n (ob188 P) z z) z))))) (n (boot_o_6 P) (n (boot_o_10 P) (n (ob18 P) (n (ob34 P) (n (ob66 P) (n (ob130 P) z z) (n (ob194 P) z z)) (n (ob98 P) (n (ob162 P) z z) z)) (n (ob50 P) (n (ob82 P) (n (ob146 P) z z) (n (ob210 P) z z)) (n (ob114 P) (n (ob178 P) z z) z))) (n (ob26 P) (n (ob42 P) (n (ob74 P) (n (ob138 P) z z) (n (ob202 P) z z)) (n (ob106 P) (n (ob170 P) z z) z)) (n (ob58 P) (n (ob90 P) (n (ob154 P) z z) (n (ob218 P) z z)) (n (ob122 P) (n (ob186 P) z z) z)))) (n (ob14 P) (n (ob22 P) (n (ob38 P) (n (ob70 P) (n (ob134 P) z z) (n (ob198 P) z z)) (n (ob102 P) (n (ob166 P) z z) z)) (n (ob54 P) (n (ob86 P) (n (ob150 P) z z) (n (ob214 P) z z)) (n (ob118 P) (n (ob182 P) z z) z))) (n (ob30 P) (n (ob46 P) (n (ob78 P) (n (ob142 P) z z) (n (ob206 P) z z)) (n (ob110 P) (n (ob174 P) z z) z)) (n (ob62 P) (n (ob94 P) (n (ob158 P) z z) (n (ob222 P) z z)) (n (ob126 P) (n (ob190 P) z z) z)))))))
noncomputable def st3 (w : World) (os : OsState) : SharedT := ⟨tr3 w.params, 225, {}, #[], {}, 447, os⟩
noncomputable def ps3 : Pos := { line := 23, col := 0, endLine := 151, endCol := 31 }
noncomputable def tr6 (P : Params) : BT := (n (boot_o_0 P) (n (boot_o_1 P) (n (ob3v1 P) (n (boot_o_7 P) (n (ob15 P) (n (ob31 P) (n (ob63 P) (n (ob127 P) (n (ob255 P) z z) z) (n (ob191 P) (n (ob319 P) z z) z)) (n (ob95 P) (n (ob159 P) (n (ob287 P) z z) z) (n (ob223 P) z z))) (n (ob47 P) (n (ob79 P) (n (ob143 P) (n (ob271 P) z z) z) (n (ob207 P) (n (ob335 P) z z) z)) (n (ob111 P) (n (ob175 P) (n (ob303 P) z z) z) (n (ob239 P) z z)))) (n (ob23 P) (n (ob39 P) (n (ob71 P) (n (ob135 P) (n (ob263 P) z z) z) (n (ob199 P) (n (ob327 P) z z) z)) (n (ob103 P) (n (ob167 P) (n (ob295 P) z z) z) (n (ob231 P) z z))) (n (ob55 P) (n (ob87 P) (n (ob151 P) (n (ob279 P) z z) z) (n (ob215 P) (n (ob343 P) z z) z)) (n (ob119 P) (n (ob183 P) (n (ob311 P) z z) z) (n (ob247 P) z z))))) (n (ob11 P) (n (ob19 P) (n (ob35 P) (n (ob67 P) (n (ob131 P) (n (ob259 P) z z) z) (n (ob195 P) (n (ob323 P) z z) z)) (n (ob99 P) (n (ob163 P) (n (ob291 P) z z) z) (n (ob227 P) z z))) (n (ob51 P) (n (ob83 P) (n (ob147 P) (n (ob275 P) z z) z) (n (ob211 P) (n (ob339 P) z z) z)) (n (ob115 P) (n (ob179 P) (n (ob307 P) z z) z) (n (ob243 P) z z)))) (n (ob27 P) (n (ob43 P) (n (ob75 P) (n (ob139 P) (n (ob267 P) z z) z) (n (ob203 P) (n (ob331 P) z z) z)) (n (ob107 P) (n (ob171 P) (n (ob299 P) z z) z) (n (ob235 P) z z))) (n (ob59v1 P) (n (ob91 P) (n (ob155 P) (n (ob283 P) z z) z) (n (ob219 P) (n (ob347 P) z z) z)) (n (ob123 P) (n (ob187 P) (n (ob315 P) z z) z) (n (ob251 P) z z)))))) (n (boot_o_5 P) (n (boot_o_9 P) (n (ob17 P) (n (ob33 P) (n (ob65 P) (n (ob129 P) (n (ob257 P) z z) z) (n (ob193 P) (n (ob321 P) z z) z)) (n (ob97 P) (n (ob161 P) (n (ob289 P) z z) z) (n (ob225 P) z z))) (n (ob49 P) (n (ob81 P) (n (ob145 P) (n (ob273 P) z z) z) (n (ob209 P) (n (ob337 P) z z) z)) (n (ob113 P) (n (ob177 P) (n (ob305 P) z z) z) (n (ob241 P) z z)))) (n (ob25 P) (n (ob41 P) (n (ob73 P) (n (ob137 P) (n (ob265 P) z z) z) (n (ob201 P) (n (ob329 P) z z) z)) (n (ob105 P) (n (ob169 P) (n (ob297 P) z z) z) (n (ob233 P) z z))) (n (ob57 P) (n (ob89 P) (n (ob153 P) (n (ob281 P) z z) z) (n (ob217 P) (n (ob345 P) z z) z)) (n (ob121 P) (n (ob185 P) (n (ob313 P) z z) z) (n (ob249 P) z z))))) (n (ob13 P) (n (ob21 P) (n (ob37 P) (n (ob69 P) (n (ob133 P) (n (ob261 P) z z) z) (n (ob197 P) (n (ob325 P) z z) z)) (n (ob101 P) (n (ob165 P) (n (ob293 P) z z) z) (n (ob229 P) z z))) (n (ob53 P) (n (ob85 P) (n (ob149 P) (n (ob277 P) z z) z) (n (ob213 P) (n (ob341 P) z z) z)) (n (ob117 P) (n (ob181 P) (n (ob309 P) z z) z) (n (ob245 P) z z)))) (n (ob29 P) (n (ob45 P) (n (ob77 P) (n (ob141 P) (n (ob269 P) z z) z) (n (ob205 P) (n (ob333 P) z z) z)) (n (ob109 P) (n (ob173 P) (n (ob301 P) z z) z) (n (ob237 P) z z))) (n (ob61 P) (n (ob93 P) (n (ob157 P) (n (ob285 P) z z) z) (n (ob221 P) (n (ob349 P) z z) z)) (n (ob125 P) (n (ob189 P) (n (ob317 P) z z) z) (n (ob253 P) z z))))))) (n (boot_o_2 P) (n (boot_o_4 P) (n (boot_o_8 P) (n (ob16 P) (n (ob32 P) (n (ob64 P) (n (ob128 P) (n (ob256 P) z z) z) (n (ob192 P) (n (ob320 P) z z) z)) (n (ob96 P) (n (ob160 P) (n (ob288 P) z z) z) (n (ob224 P) z z))) (n (ob48 P) (n (ob80 P) (n (ob144 P) (n (ob272 P) z z) z) (n (ob208 P) (n (ob336 P) z z) z)) (n (ob112 P) (n (ob176 P) (n (ob304 P) z z) z) (n (ob240 P) z z)))) (n (ob24 P) (n (ob40 P) (n (ob72 P) (n (ob136 P) (n (ob264 P) z z) z) (n (ob200 P) (n (ob328 P) z z) z)) (n (ob104 P) (n (ob168 P) (n (ob296 P) z z) z) (n (ob232 P) z z))) (n (ob56 P) (n (ob88 P) (n (ob152 P) (n (ob280 P) z z) z) (n (ob216 P) (n (ob344 P) z z) z)) (n (ob120 P) (n (ob184 P) (n (ob312 P) z z) z) (n (ob248 P) z z))))) (n (ob12v2 P) (n (ob20 P) (n (ob36 P) (n (ob68 P) (n (ob132 P) (n (ob260 P) z z) z) (n (ob196 P) (n (ob324 P) z z) z)) (n (ob100 P) (n (ob164 P) (n (ob292 P) z z) z) (n (ob228 P) z z))) (n (ob52 P) (n (ob84 P) (n (ob148 P) (n (ob276 P) z z) z) (n (ob212 P) (n (ob340 P) z z) z)) (n (ob116 P) (n (ob180 P) (n (ob308 P) z z) z) (n (ob244 P) z z)))) (n (ob28 P) (n (ob44 P) (n (ob76 P) (n (ob140 P) (n (ob268 P) z z) z) (n (ob204 P) (n (ob332 P) z z) z)) (n (ob108 P) (n (ob172 P) (n (ob300 P) z z) z) (n (ob236 P) z z))) (n (ob60 P) (n (ob92 P) (n (ob156 P) (n (ob284 P) z z) z) (n (ob220v1 P) (n (ob348 P) z z) z)) (n (ob124 P) (n (ob188 P) (n (ob316 P) z z) z) (n (ob252 P) z z)))))) (n (boot_o_6 P) (n (boot_o_10 P) (n (ob18 P) (n (ob34 P) (n (ob66 P) (n (ob130 P) (n (ob258 P) z z) z) (n (ob194 P) (n (ob322 P) z z) z)) (n (ob98 P) (n (ob162 P) (n (ob290 P) z z) z) (n (ob226 P) z z))) (n (ob50 P) (n (ob82 P) (n (ob146 P) (n (ob274 P) z z) z) (n (ob210 P) (n (ob338 P) z z) z)) (n (ob114 P) (n (ob178 P) (n (ob306 P) z z) z) (n (ob242 P) z z)))) (n (ob26 P) (n (ob42 P) (n (ob74 P) (n (ob138 P) (n (ob266 P) z z) z) (n (ob202 P) (n (ob330 P) z z) z)) (n (ob106 P) (n (ob170 P) (n (ob298 P) z z) z) (n (ob234 P) z z))) (n (ob58 P) (n (ob90 P) (n (ob154 P) (n (ob282 P) z z) z) (n (ob218 P) (n (ob346 P) z z) z)) (n (ob122 P) (n (ob186 P) (n (ob314 P) z z) z) (n (ob250 P) z z))))) (n (ob14 P) (n (ob22 P) (n (ob38 P) (n (ob70 P) (n (ob134 P) (n (ob262 P) z z) z) (n (ob198 P) (n (ob326 P) z z) z)) (n (ob102 P) (n (ob166 P) (n (ob294 P) z z) z) (n (ob230 P) z z))) (n (ob54 P) (n (ob86 P) (n (ob150 P) (n (ob278 P) z z) z) (n (ob214 P) (n (ob342 P) z z) z)) (n (ob118 P) (n (ob182 P) (n (ob310 P) z z) z) (n (ob246 P) z z)))) (n (ob30 P) (n (ob46 P) (n (ob78 P) (n (ob142 P) (n (ob270 P) z z) z) (n (ob206 P) (n (ob334 P) z z) z)) (n (ob110 P) (n (ob174 P) (n (ob302 P) z z) z) (n (ob238 P) z z))) (n (ob62 P) (n (ob94 P) (n (ob158 P) (n (ob286 P) z z) z) (n (ob222 P) (n (ob350 P) z z) z)) (n (ob126 P) (n (ob190 P) (n (ob318 P) z z) z) (n (ob254 P) z z))))))))
noncomputable def st6 (w : World) (os : OsState) : SharedT := ⟨tr6 w.params, 351, {}, #[], {}, 616, os⟩
noncomputable def ps6 : Pos := { line := 184, col := 0, endLine := 209, endCol := 17 }
noncomputable def tr12 (P : Params) : BT := (n (boot_o_0 P) (n (boot_o_1 P) (n (ob3v2 P) (n (boot_o_7 P) (n (ob15 P) (n (ob31 P) (n (ob63 P) (n (ob127 P) (n (ob255 P) z z) (n (ob383 P) z z)) (n (ob191 P) (n (ob319 P) z z) (n (ob447 P) z z))) (n (ob95 P) (n (ob159 P) (n (ob287 P) z z) (n (ob415 P) z z)) (n (ob223 P) (n (ob351 P) z z) z))) (n (ob47 P) (n (ob79 P) (n (ob143 P) (n (ob271 P) z z) (n (ob399 P) z z)) (n (ob207 P) (n (ob335 P) z z) z)) (n (ob111 P) (n (ob175 P) (n (ob303 P) z z) (n (ob431 P) z z)) (n (ob239 P) (n (ob367 P) z z) z)))) (n (ob23 P) (n (ob39 P) (n (ob71 P) (n (ob135 P) (n (ob263 P) z z) (n (ob391 P) z z)) (n (ob199 P) (n (ob327 P) z z) z)) (n (ob103 P) (n (ob167 P) (n (ob295 P) z z) (n (ob423 P) z z)) (n (ob231 P) (n (ob359 P) z z) z))) (n (ob55 P) (n (ob87 P) (n (ob151 P) (n (ob279 P) z z) (n (ob407 P) z z)) (n (ob215 P) (n (ob343 P) z z) z)) (n (ob119 P) (n (ob183 P) (n (ob311 P) z z) (n (ob439 P) z z)) (n (ob247 P) (n (ob375 P) z z) z))))) (n (ob11 P) (n (ob19 P) (n (ob35 P) (n (ob67 P) (n (ob131 P) (n (ob259 P) z z) (n (ob387 P) z z)) (n (ob195 P) (n (ob323 P) z z) z)) (n (ob99 P) (n (ob163 P) (n (ob291 P) z z) (n (ob419 P) z z)) (n (ob227 P) (n (ob355 P) z z) z))) (n (ob51 P) (n (ob83 P) (n (ob147 P) (n (ob275 P) z z) (n (ob403 P) z z)) (n (ob211 P) (n (ob339 P) z z) z)) (n (ob115 P) (n (ob179 P) (n (ob307 P) z z) (n (ob435 P) z z)) (n (ob243 P) (n (ob371 P) z z) z)))) (n (ob27 P) (n (ob43 P) (n (ob75 P) (n (ob139 P) (n (ob267 P) z z) (n (ob395 P) z z)) (n (ob203 P) (n (ob331 P) z z) z)) (n (ob107 P) (n (ob171 P) (n (ob299 P) z z) (n (ob427 P) z z)) (n (ob235 P) (n (ob363 P) z z) z))) (n (ob59v1 P) (n (ob91 P) (n (ob155 P) (n (ob283 P) z z) (n (ob411 P) z z)) (n (ob219 P) (n (ob347 P) z z) z)) (n (ob123 P) (n (ob187 P) (n (ob315 P) z z) (n (ob443 P) z z)) (n (ob251 P) (n (ob379 P) z z) z)))))) (n (boot_o_5 P) (n (boot_o_9 P) (n (ob17 P) (n (ob33 P) (n (ob65 P) (n (ob129 P) (n (ob257 P) z z) (n (ob385 P) z z)) (n (ob193 P) (n (ob321 P) z z) z)) (n (ob97 P) (n (ob161 P) (n (ob289 P) z z) (n (ob417 P) z z)) (n (ob225 P) (n (ob353 P) z z) z))) (n (ob49 P) (n (ob81 P) (n (ob145 P) (n (ob273 P) z z) (n (ob401 P) z z)) (n (ob209 P) (n (ob337 P) z z) z)) (n (ob113 P) (n (ob177 P) (n (ob305 P) z z) (n (ob433 P) z z)) (n (ob241 P) (n (ob369 P) z z) z)))) (n (ob25 P) (n (ob41 P) (n (ob73 P) (n (ob137 P) (n (ob265 P) z z) (n (ob393 P) z z)) (n (ob201 P) (n (ob329 P) z z) z)) (n (ob105 P) (n (ob169 P) (n (ob297 P) z z) (n (ob425 P) z z)) (n (ob233 P) (n (ob361 P) z z) z))) (n (ob57 P) (n (ob89 P) (n (ob153 P) (n (ob281 P) z z) (n (ob409 P) z z)) (n (ob217 P) (n (ob345 P) z z) z)) (n (ob121 P) (n (ob185 P) (n (ob313 P) z z) (n (ob441 P) z z)) (n (ob249 P) (n (ob377 P) z z) z))))) (n (ob13 P) (n (ob21 P) (n (ob37 P) (n (ob69 P) (n (ob133 P) (n (ob261 P) z z) (n (ob389 P) z z)) (n (ob197 P) (n (ob325 P) z z) z)) (n (ob101 P) (n (ob165 P) (n (ob293 P) z z) (n (ob421 P) z z)) (n (ob229 P) (n (ob357 P) z z) z))) (n (ob53 P) (n (ob85 P) (n (ob149 P) (n (ob277 P) z z) (n (ob405 P) z z)) (n (ob213 P) (n (ob341 P) z z) z)) (n (ob117 P) (n (ob181 P) (n (ob309 P) z z) (n (ob437 P) z z)) (n (ob245 P) (n (ob373 P) z z) z)))) (n (ob29 P) (n (ob45 P) (n (ob77 P) (n (ob141 P) (n (ob269 P) z z) (n (ob397 P) z z)) (n (ob205 P) (n (ob333 P) z z) z)) (n (ob109 P) (n (ob173 P) (n (ob301 P) z z) (n (ob429 P) z z)) (n (ob237 P) (n (ob365 P) z z) z))) (n (ob61 P) (n (ob93 P) (n (ob157 P) (n (ob285 P) z z) (n (ob413 P) z z)) (n (ob221 P) (n (ob349 P) z z) z)) (n (ob125 P) (n (ob189 P) (n (ob317 P) z z) (n (ob445 P) z z)) (n (ob253 P) (n (ob381 P) z z) z))))))) (n (boot_o_2 P) (n (boot_o_4 P) (n (boot_o_8 P) (n (ob16 P) (n (ob32 P) (n (ob64 P) (n (ob128 P) (n (ob256 P) z z) (n (ob384 P) z z)) (n (ob192 P) (n (ob320 P) z z) (n (ob448 P) z z))) (n (ob96 P) (n (ob160 P) (n (ob288 P) z z) (n (ob416 P) z z)) (n (ob224 P) (n (ob352 P) z z) z))) (n (ob48 P) (n (ob80 P) (n (ob144 P) (n (ob272 P) z z) (n (ob400 P) z z)) (n (ob208 P) (n (ob336 P) z z) z)) (n (ob112 P) (n (ob176 P) (n (ob304 P) z z) (n (ob432 P) z z)) (n (ob240 P) (n (ob368 P) z z) z)))) (n (ob24 P) (n (ob40 P) (n (ob72 P) (n (ob136 P) (n (ob264 P) z z) (n (ob392 P) z z)) (n (ob200 P) (n (ob328 P) z z) z)) (n (ob104 P) (n (ob168 P) (n (ob296 P) z z) (n (ob424 P) z z)) (n (ob232 P) (n (ob360 P) z z) z))) (n (ob56 P) (n (ob88 P) (n (ob152 P) (n (ob280 P) z z) (n (ob408 P) z z)) (n (ob216 P) (n (ob344 P) z z) z)) (n (ob120 P) (n (ob184 P) (n (ob312 P) z z) (n (ob440 P) z z)) (n (ob248 P) (n (ob376 P) z z) z))))) (n (ob12v3 P) (n (ob20 P) (n (ob36 P) (n (ob68 P) (n (ob132 P) (n (ob260 P) z z) (n (ob388 P) z z)) (n (ob196 P) (n (ob324 P) z z) z)) (n (ob100 P) (n (ob164 P) (n (ob292 P) z z) (n (ob420 P) z z)) (n (ob228 P) (n (ob356 P) z z) z))) (n (ob52 P) (n (ob84 P) (n (ob148 P) (n (ob276 P) z z) (n (ob404 P) z z)) (n (ob212 P) (n (ob340 P) z z) z)) (n (ob116 P) (n (ob180 P) (n (ob308 P) z z) (n (ob436 P) z z)) (n (ob244 P) (n (ob372 P) z z) z)))) (n (ob28 P) (n (ob44 P) (n (ob76 P) (n (ob140 P) (n (ob268 P) z z) (n (ob396 P) z z)) (n (ob204 P) (n (ob332 P) z z) z)) (n (ob108 P) (n (ob172 P) (n (ob300 P) z z) (n (ob428 P) z z)) (n (ob236 P) (n (ob364 P) z z) z))) (n (ob60 P) (n (ob92 P) (n (ob156 P) (n (ob284 P) z z) (n (ob412 P) z z)) (n (ob220v1 P) (n (ob348v1 P) z z) z)) (n (ob124 P) (n (ob188 P) (n (ob316 P) z z) (n (ob444 P) z z)) (n (ob252 P) (n (ob380 P) z z) z)))))) (n (boot_o_6 P) (n (boot_o_10 P) (n (ob18 P) (n (ob34 P) (n (ob66 P) (n (ob130 P) (n (ob258 P) z z) (n (ob386 P) z z)) (n (ob194 P) (n (ob322 P) z z) z)) (n (ob98 P) (n (ob162 P) (n (ob290 P) z z) (n (ob418 P) z z)) (n (ob226 P) (n (ob354 P) z z) z))) (n (ob50 P) (n (ob82 P) (n (ob146 P) (n (ob274 P) z z) (n (ob402 P) z z)) (n (ob210 P) (n (ob338 P) z z) z)) (n (ob114 P) (n (ob178 P) (n (ob306 P) z z) (n (ob434 P) z z)) (n (ob242 P) (n (ob370 P) z z) z)))) (n (ob26 P) (n (ob42 P) (n (ob74 P) (n (ob138 P) (n (ob266 P) z z) (n (ob394 P) z z)) (n (ob202 P) (n (ob330 P) z z) z)) (n (ob106 P) (n (ob170 P) (n (ob298 P) z z) (n (ob426 P) z z)) (n (ob234 P) (n (ob362 P) z z) z))) (n (ob58 P) (n (ob90 P) (n (ob154 P) (n (ob282 P) z z) (n (ob410 P) z z)) (n (ob218 P) (n (ob346 P) z z) z)) (n (ob122 P) (n (ob186 P) (n (ob314 P) z z) (n (ob442 P) z z)) (n (ob250 P) (n (ob378 P) z z) z))))) (n (ob14 P) (n (ob22 P) (n (ob38 P) (n (ob70 P) (n (ob134 P) (n (ob262 P) z z) (n (ob390 P) z z)) (n (ob198 P) (n (ob326 P) z z) z)) (n (ob102 P) (n (ob166 P) (n (ob294 P) z z) (n (ob422 P) z z)) (n (ob230 P) (n (ob358 P) z z) z))) (n (ob54 P) (n (ob86 P) (n (ob150 P) (n (ob278 P) z z) (n (ob406 P) z z)) (n (ob214 P) (n (ob342 P) z z) z)) (n (ob118 P) (n (ob182 P) (n (ob310 P) z z) (n (ob438 P) z z)) (n (ob246 P) (n (ob374 P) z z) z)))) (n (ob30 P) (n (ob46 P) (n (ob78 P) (n (ob142 P) (n (ob270 P) z z) (n (ob398 P) z z)) (n (ob206 P) (n (ob334 P) z z) z)) (n (ob110 P) (n (ob174 P) (n (ob302 P) z z) (n (ob430 P) z z)) (n (ob238 P) (n (ob366 P) z z) z))) (n (ob62 P) (n (ob94 P) (n (ob158 P) (n (ob286 P) z z) (n (ob414 P) z z)) (n (ob222 P) (n (ob350 P) z z) z)) (n (ob126 P) (n (ob190 P) (n (ob318 P) z z) (n (ob446 P) z z)) (n (ob254 P) (n (ob382 P) z z) z))))))))
noncomputable def st12 (w : World) (os : OsState) : SharedT := ⟨tr12 w.params, 449, {}, #[], {}, 763, os⟩
noncomputable def ps12 : Pos := { line := 277, col := 0, endLine := 294, endCol := 76 }
end Mine
end
section
open Lean PySem PySem.W PyProof.Rows
set_option maxRecDepth 100000
set_option maxHeartbeats 8000000
namespace Mine
noncomputable def env0 : Env := { scope := pg.main.scope, locals := mainNs, globals := mainNs, cells := [], code := .ref 13, frame := some 14 }
noncomputable def cE : Code := .body (behindTheImports pg) env0
theorem pre_run (w : World) (os : OsState) : topGo treeTable pg w 11 (some (.ref 6)) 12 ⟨boot_heap w.params, #[], boot_drawn, boot_toks, os⟩ (topStub pg) = some ((stB w os).abs, ⟨denote treeTable cE, cE, psB, [topFrame psB]⟩) := by kernel_rfl
theorem block_run (w : World) (os : OsState) : segRun treeTable pg w 11 (some (.ref 6)) 1 1 (stB w os).abs (blockOf (behindTheImports pg) env0 cE psB [topFrame psB]) = some (.next, (stB w os).abs, cE, psB) := by kernel_rfl
theorem body_is : behindTheImports pg = [rowAt 0, rowAt 1, rowAt 2, rowAt 3] ++ ([rowAt 4, rowAt 5, rowAt 6] ++ ([rowAt 7, rowAt 8, rowAt 9, rowAt 10, rowAt 11, rowAt 12] ++ [])) := by kernel_rfl
theorem fin_run (w : World) (os : OsState) : topRun treeTable pg w 11 (some (.ref 6)) 2 (st12 w os).abs ⟨doneF .next, cE, ps12, [topFrame psB]⟩ = some (st12 w os).abs := by kernel_rfl
theorem run3 (w : World) (os : OsState) : segRunT treeTable pg w 11 (some (.ref 6)) 1 1267 (stB w os) (piecesOf [rowAt 0, rowAt 1, rowAt 2, rowAt 3] env0 cE psB [topFrame psB]) = some (.next, st3 w os, cE, ps3) := by kernel_rfl
theorem run6 (w : World) (os : OsState) : segRunT treeTable pg w 11 (some (.ref 6)) 1 1026 (st3 w os) (piecesOf [rowAt 4, rowAt 5, rowAt 6] env0 cE ps3 [topFrame psB]) = some (.next, st6 w os, cE, ps6) := by kernel_rfl
theorem run12 (w : World) (os : OsState) : segRunT treeTable pg w 11 (some (.ref 6)) 1 781 (st6 w os) (piecesOf [rowAt 7, rowAt 8, rowAt 9, rowAt 10, rowAt 11, rowAt 12] env0 cE ps6 [topFrame psB]) = some (.next, st12 w os, cE, ps12) := by kernel_rfl
theorem all_run (w : World) (os : OsState) : topRun treeTable pg w 11 (some (.ref 6)) (12 + (1 + (1267 + (1026 + (781 + 2))))) ⟨boot_heap w.params, #[], boot_drawn, boot_toks, os⟩ (topStub pg) = some (st12 w os).abs := by
  refine go_top (pre_run w os) (piece_block (env := env0) (q := psB) (b := behindTheImports pg) (block_run w os) ?_)
  rw [body_is]
  exact piece_app (segRun_of (run3 w os)) (piece_app (segRun_of (run6 w os)) (piece_app (segRun_of (run12 w os)) (piece_nil (fin_run w os))))
abbrev loose : List Str := [Str.ofString "PolynomialRing", Str.ofString "PolynomialNTT"]
noncomputable abbrev Xt (s : Shared) : Bool := xlAt V [] s && recOk (RowW.records PySem.Challenge.rw_yi0045_01.row.toRowW) s
theorem open_run : ∀ w : World, (fencedOpening treeTable pg w 6268).map (fun s => (s.heap, s.gens, s.drawn, s.toks)) = some (boot_heap w.params, #[], boot_drawn, boot_toks) :=
  boot_open (p := pg) (N := 6268) (by kernel_rfl) (by rfl) (fun s => by kernel_rfl)
theorem size_run (w : World) : ((boot_heap w.params).isNs mainGlobals && (#[] : Array GenState).size == 0, (boot_heap w.params).objs.size, (boot_heap w.params).nsMap mainGlobals "__annotations__") = (true, 11, some (.ref 6)) := by kernel_rfl
theorem look_a (w : World) (os : OsState) : (staticsOk (importedModules pg.main.body) (boot_heap w.params) (st12 w os).abs.heap && namesBound pg (st12 w os).abs.heap && gensDone (st12 w os).abs && laidKept (boot_heap w.params) (st12 w os).abs.heap) = true := by kernel_rfl
theorem look_b (w : World) (os : OsState) : openSeen V loose (importedModules pg.main.body) Xt true (st12 w os).abs = openGood V loose := by kernel_rfl
theorem left_of {α : Type} {Yf : Shared → α} {Ya : World → α} (hk : ∀ w os, Yf (st12 w os).abs = Ya w) : LeftO pg V loose Xt Yf Ya 6268 :=
  LeftO.of_pieces (H₁ := fun P => absHeap (tr12 P) 449 {}) open_run size_run all_run (by rfl) fun w => funext fun os => Prod.ext (look_a w os) (Prod.ext (look_b w os) (hk w os))
end Mine
end
section
open Lean PySem PySem.W PyProof.Rows
set_option maxRecDepth 100000
set_option maxHeartbeats 8000000
namespace Mine
/-- the head: its run is shown above, stroke by stroke -/
local macro_rules
  | `(tactic| o_head $H) => do
    let hw := mkIdent `hw
    let hc := mkIdent `hc
    `(tactic| (
      refine holds_open (q := V) (loose := [Str.ofString "PolynomialRing", Str.ofString "PolynomialNTT"]) (Xt := fun s => xlAt V [] s && recOk (RowW.records PySem.Challenge.rw_yi0045_01.row.toRowW) s) (XP := XL V []) (Yf := Hook.obs $H) (Ya := Hook.val $H) (YP := Hook.says $H) (N := 6268) ?hl (Hook.of $H) (Hook.keeps $H) (fun s e => xl_of s (Bool.and_eq_true_iff.mp e).1) XL.keeps (by rfl) (by rfl) (by rfl) (fun s e => recFacts_of (Bool.and_eq_true_iff.mp e).2) (by rfl) (by first | assumption | decide +kernel) (by decide +kernel) ⟨rfl, rfl, rfl, rfl, rfl, by decide +kernel⟩ ?$hw ?$hc
      case hl => exact left_of fun w os => by kernel_rfl))
open_top hd for PySem.Challenge.rw_yi0045_01
end Mine
end
section
open PySem PySem.W PyProof.Rows PySem.Spec PySem.Calls
set_option maxRecDepth 100000
namespace Mine
abbrev Ledger := List (Addr × Obj)

def TakeC (w : World) (p : Program) (loose : List PySem.Str) (mean : ExcName → Option Value) (mg mb : PySem.Str → Option Value) : Prop :=
  ∀ (dp un : Nat) (gd : Option (List Code)) (cn : PySem.Str) (cs : Scope) (a : Addr) (ccd : Value) (cl : List (PySem.Str × Addr)) (outer : List Env) (A₀ : Around) (base h₀ : Heap) (L : Addr) (m : PySem.Str → Option Value)
    (rest : Ledger) (s : Shared) (st c : Addr) (i : Int) (ti : Tok) (n1 n2 : Nat) (vs : List Value) (ns : List Int) (most : Int) (tm : Tok) (Q E : Value → Shared → Prop),
    Below A₀ base outer h₀ → Fr h₀ L s.heap m → (hd.heap_39 w.params).In h₀ → News h₀ L s.heap ((st, listOf #[.int i ti, .ref c] n1) :: (c, listOf vs.toArray n2) :: rest) → Top p loose mean mg mb h₀ → cs.kind = .function →
    IntsAre vs ns → 0 < ns.length → ns.length ≤ 63 → 0 ≤ i → i ≤ 100 → (∀ x ∈ ns, 0 ≤ x) → 0 < most → most ≤ 20001 → @Ne Nat c st → (∀ p ∈ rest, p.1 ≠ st) → (∀ p ∈ rest, p.1 ≠ c) →
    dp + 1 < recursionLimit → un + 8 < cLine →
    (∀ (r : Int) (t : Tok) (i' : Int) (ti' : Tok) (vs' : List Value) (ns' : List Int) (h' : Heap) (tk' : Nat),
      Fr h₀ L h' m → News h₀ L h' ((st, listOf #[.int i' ti', .ref c] n1) :: (c, listOf vs'.toArray n2) :: rest) → IntsAre vs' ns' → 0 ≤ r → r < most → 0 ≤ i' → i' ≤ i + 1 → ns'.length = ns.length → (∀ x ∈ ns', 0 ≤ x) → Q (.int r t) { s with heap := h', toks := tk' }) →
    wpAny (model PySem.Challenge.rw_yi0045_01.row.toRowW.prog w) (ktrTop dp un gd cn cs L a ccd cl outer) (call (.ref 438) [.ref st, .int most tm]) Q E s

def StateC (w : World) (p : Program) (loose : List PySem.Str) (mean : ExcName → Option Value) (mg mb : PySem.Str → Option Value) : Prop :=
  ∀ (dp un : Nat) (gd : Option (List Code)) (cn : PySem.Str) (cs : Scope) (a : Addr) (ccd : Value) (cl : List (PySem.Str × Addr)) (outer : List Env) (A₀ : Around) (base h₀ : Heap) (L : Addr) (m : PySem.Str → Option Value)
    (p0 : Addr × Obj) (rest : Ledger) (s : Shared) (sc : Addr) (vs : List Value) (ns : List Int) (Q E : Value → Shared → Prop),
    Below A₀ base outer h₀ → Fr h₀ L s.heap m → (hd.heap_39 w.params).In h₀ → News h₀ L s.heap (p0 :: rest) → (∀ p ∈ rest, @LT.lt Nat _ p.1 p0.1) → Top p loose mean mg mb h₀ → cs.kind = .function →
    Glob 0 mg mb (List.map itemOf (recsOf V)) (scalarsOf [] ++ constsW V) [] (namesW V [Str.ofString "PolynomialRing", Str.ofString "PolynomialNTT"]) base →
    base.IsList sc vs.toArray → IntsAre vs ns → ns.length ≤ 63 → dp + 1 < recursionLimit → un + 8 < cLine →
    (∀ (st c : Addr) (ti : Tok) (n1 n2 : Nat) (vs' : List Value) (ns' : List Int) (h' : Heap) (tk' : Nat),
      Fr h₀ L h' m → News h₀ L h' ((st, listOf #[.int 0 ti, .ref c] n1) :: (c, listOf vs'.toArray n2) :: p0 :: rest) → IntsAre vs' ns' → 0 < ns'.length → ns'.length ≤ 63 → (∀ x ∈ ns', 0 ≤ x) → (∀ p ∈ p0 :: rest, p.1 < st) → (∀ p ∈ p0 :: rest, p.1 ≠ c) → @LT.lt Nat _ c st → Q (.ref st) { s with heap := h', toks := tk' }) →
    wpAny (model PySem.Challenge.rw_yi0045_01.row.toRowW.prog w) (ktrTop dp un gd cn cs L a ccd cl outer) (call (.ref 431) [.ref sc]) Q E s

inductive Pick {α : Type} (x : α) : List α → List α → Prop
  | head {l : List α} : Pick x (x :: l) l
  | tail {y : α} {l l' : List α} : Pick x l l' → Pick x (y :: l) (y :: l')
theorem Pick.mem {α : Type} {x : α} {l l' : List α} (h : Pick x l l') : ∀ y, y ∈ x :: l' → y ∈ l := by
  induction h with
  | head => intro y h; exact h
  | tail _ ih =>
    intro z hz
    rcases List.mem_cons.mp hz with rfl | hz
    · exact .tail _ (ih _ (.head _))
    · rcases List.mem_cons.mp hz with rfl | hz
      · exact .head _
      · exact .tail _ (ih _ (.tail _ hz))
theorem news_pick {h₀ h : Heap} {L : Addr} {x : Addr × Obj} {l l' : Ledger} (N : News h₀ L h l) (q : Pick x l l') : News h₀ L h (x :: l') := fun p hp => N p (q.mem p hp)
theorem news_pick2 {h₀ h : Heap} {L : Addr} {x y : Addr × Obj} {l l' l'' : Ledger} (N : News h₀ L h l) (q : Pick x l l') (r : Pick y l' l'') : News h₀ L h (x :: y :: l'') := fun p hp => by
  rcases List.mem_cons.mp hp with rfl | hp
  · exact N _ (q.mem _ (.head _))
  · exact N _ (q.mem _ (.tail _ (r.mem _ hp)))

theorem rest_keeps {h₀ H g h' : Heap} {L L' : Addr} {m' : PySem.Str → Option Value} {p0 : Addr × Obj} {rest nw : Ledger} (N : News h₀ L H (p0 :: rest)) (hlt : ∀ p ∈ rest, @LT.lt Nat _ p.1 p0.1) (G : GSub H g [p0.1]) (F' : Fr g L' h' m') (kN : News h₀ L h' (nw ++ [p0])) : News h₀ L h' (nw ++ p0 :: rest) := fun p hp => by
  rcases List.mem_append.mp hp with hp | hp
  · exact kN p (List.mem_append_left _ hp)
  · rcases List.mem_cons.mp hp with rfl | hp
    · exact kN _ (List.mem_append_right _ (.head _))
    · exact ⟨F'.keep _ _ (G _ _ (N p (.tail _ hp)).1 (fun h => Nat.ne_of_lt (hlt p hp) (List.mem_singleton.mp h))), (N p (.tail _ hp)).2⟩
theorem rest_lt {p0 : Addr × Obj} {rest : Ledger} {c : Addr} (hlt : ∀ p ∈ rest, @LT.lt Nat _ p.1 p0.1) (h : @LT.lt Nat _ p0.1 c) : ∀ p ∈ p0 :: rest, p.1 < c := fun p hp => by
  rcases List.mem_cons.mp hp with rfl | hp
  · exact h
  · exact Nat.lt_trans (hlt p hp) h
theorem rest_ne {h₀ H g h' : Heap} {L L' a : Addr} {p0 : Addr × Obj} {rest nw : Ledger} {o : Obj} (N : News h₀ L H (p0 :: rest)) (hlt : ∀ p ∈ rest, @LT.lt Nat _ p.1 p0.1) (G : GSub H g [p0.1]) (N' : News g L' h' nw) (hm : (a, o) ∈ nw) (h0 : @Ne Nat p0.1 a) : ∀ p ∈ p0 :: rest, p.1 ≠ a := fun p hp e => by
  rcases List.mem_cons.mp hp with rfl | hp
  · exact h0 e
  · have h1 := G _ _ (N p (.tail _ hp)).1 (fun h => Nat.ne_of_lt (hlt p hp) (List.mem_singleton.mp h))
    rw [e, (N' _ hm).2.2] at h1
    cases h1
theorem news_sub {h₀ h : Heap} {L : Addr} {l l' : Ledger} (N : News h₀ L h l) (hs : ∀ p ∈ l', p ∈ l) : News h₀ L h l' := fun p hp => N p (hs p hp)
theorem abs_nn {ns : List Int} : ∀ x ∈ ns.map (fun a : Int => (a.natAbs : Int)), 0 ≤ x := fun x hx => by
  obtain ⟨y, _, rfl⟩ := List.mem_map.mp hx
  omega
end Mine
end
section
open Lean Elab Tactic Meta PySem PySem.W PyProof.Rows PySem.Spec PySem.Calls
set_option maxRecDepth 100000
set_option maxHeartbeats 8000000
namespace Mine
theorem nn_getD {ns : List Int} (h : ∀ x ∈ ns, 0 ≤ x) (j : Nat) : 0 ≤ ns.getD j 0 := by
  rw [List.getD_eq_getElem?_getD]
  cases e : ns[j]? with
  | none => exact Int.le_refl _
  | some x => exact h x (List.mem_of_getElem? e)
theorem nn_set {ns : List Int} (h : ∀ x ∈ ns, 0 ≤ x) (j : Nat) {v : Int} (hv : 0 ≤ v) : ∀ x ∈ ns.set j v, 0 ≤ x := fun x hx => by
  rcases List.mem_or_eq_of_mem_set hx with q | q
  · exact h x q
  · rw [q]; exact hv
local macro_rules | `(tactic| k_all) => `(tactic| assumption)
theorem take_c {w : World} {p : Program} {loose : List PySem.Str} {mean : ExcName → Option Value} {mg mb : PySem.Str → Option Value} : TakeC w p loose mean mg mb := by
  unfold TakeC
  w_top off
  k_fill
  intro dp un gd cn cs a ccd cl outer A₀ base h₀ L m rest s st c i ti n1 n2 vs ns most tm Q E B F X N T hk hI hn0 hn hi0 hi1 hpos hm0 hm1 hne hr1 hr2 hd hu hret
  refine wpAny_call ?_
  k_dflt ktr_enter
  have hfm0 : 0 ≤ i.fmod (ns.length : Int) := fmod_lo i (by omega)
  have hfm1 : i.fmod (ns.length : Int) < ns.length := fmod_hi i (by omega)
  k_steps
  all_goals (
    refine hret _ _ _ _ _ _ _ _ (by assumption) (by assumption) (by l_ints) (fmod_lo _ hm0) (fmod_hi _ hm0) (by omega) (by omega) ?_ ?_
    · first | rfl | exact List.length_set ..
    · first | exact hpos | exact nn_set hpos _ (Int.fdiv_nonneg (nn_getD hpos _) (by omega)))
end Mine
end
section
open Lean Elab Tactic Meta PySem PySem.W PyProof.Rows PySem.Spec PySem.Calls
set_option maxRecDepth 100000
set_option maxHeartbeats 8000000
namespace Mine
theorem state_c {w : World} {p : Program} {loose : List PySem.Str} {mean : ExcName → Option Value} {mg mb : PySem.Str → Option Value} : StateC w p loose mean mg mb := by
  unfold StateC
  w_top off
  k_fill
  intro dp un gd cn cs a ccd cl outer A₀ base h₀ L m p0 rest s sc vs ns Q E B F X N hlt T hk GL hL hI hn hd hu hret
  have N0 : News h₀ L s.heap [p0] := news_sub N (List.forall_mem_cons.mpr ⟨.head _, List.forall_mem_nil _⟩)
  refine wpAny_call ?_
  k_dflt (refine' code_defG B F X N0 T ?kA ?kF ?kK ?k6 ?k7 ?k8 ?k9 ?kB ?_ ?c2 ?c3 ?c4 ?c5; (case kA => exact rfl); (case kF => exact rfl); (case kK => assumption); (case k6 => k_is); (case k7 => k_is); (case k8 => ktr_room); (case k9 => exact BindsTo.of_eq rfl); (case c5 => decide); (case kB => exact locs rfl); (case c2 => exact rfl); (case c3 => exact rfl); (case c4 => exact rfl); k_whole; intro g' L' h' FG' F' N' B' X' T' hG; (try dsimp only); (try k_lift B'); (try k_fold))
  k_steps
  · (rename Fr g' _ _ _ => F9)
    (rename News g' _ _ _ => N9)
    (rename News h₀ L _ [_, _, _, _, _] => kN9)
    refine hret _ _ _ _ _ _ _ _ _ (by assumption) (rest_keeps (nw := [_, _]) N hlt hG F9 (news_sub kN9 (List.forall_mem_cons.mpr ⟨by k_mem, List.forall_mem_cons.mpr ⟨by k_mem, List.forall_mem_cons.mpr ⟨by k_mem, List.forall_mem_nil _⟩⟩⟩)))
      (by l_ints) ?_ ?_ ?_ (rest_lt hlt (by omega)) (rest_ne N hlt hG N9 (by k_mem) (by omega)) (by omega)
    · decide
    · decide
    · decide
  · (rename Fr g' _ _ _ => F9)
    (rename News g' _ _ _ => N9)
    (rename News h₀ L _ [_, _, _, _] => kN9)
    refine hret _ _ _ _ _ _ _ _ _ (by assumption) (rest_keeps (nw := [_, _]) N hlt hG F9 (news_sub kN9 (List.forall_mem_cons.mpr ⟨by k_mem, List.forall_mem_cons.mpr ⟨by k_mem, List.forall_mem_cons.mpr ⟨by k_mem, List.forall_mem_nil _⟩⟩⟩)))
      (by with_reducible assumption) ?_ ?_ ?_ (rest_lt hlt (by omega)) (rest_ne N hlt hG N9 (by k_mem) (by omega)) (by omega)
    · omega
    · simp only [List.length_map] at *; omega
    · intro x hx
      obtain ⟨y, _, rfl⟩ := List.mem_map.mp hx
      split <;> omega
end Mine
end
section
open Lean Elab Tactic Meta PySem PySem.W PyProof.Rows PySem.Spec PySem.Calls
set_option maxRecDepth 100000
set_option maxHeartbeats 8000000
namespace Mine
def AllNe (d : Addr) : Ledger → Prop
  | [] => True
  | p :: r => @Ne Nat p.1 d ∧ AllNe d r
theorem allNe_of {d : Addr} : ∀ {l : Ledger}, (∀ p ∈ l, p.1 ≠ d) → AllNe d l
  | [], _ => trivial
  | _ :: _, h => ⟨h _ (.head _), allNe_of fun q hq => h q (.tail _ hq)⟩
theorem take_use {w : World} {p : Program} {loose : List PySem.Str} {mean : ExcName → Option Value} {mg mb : PySem.Str → Option Value}
    {dp un : Nat} {gd : Option (List Code)} {cn : PySem.Str} {cs : Scope} {a : Addr} {ccd : Value} {cl : List (PySem.Str × Addr)} {outer : List Env} {A₀ : Around} {base h₀ : Heap} {L : Addr} {m : PySem.Str → Option Value}
    {news news1 rest : Ledger} {s : Shared} {st c : Addr} {i : Int} {ti : Tok} {n1 n2 : Nat} {vs : List Value} {ns : List Int} {most : Int} {tm : Tok} {Q E : Value → Shared → Prop}
    (B : Below A₀ base outer h₀) (F : Fr h₀ L s.heap m) (X : (hd.heap_39 w.params).In h₀) (N : News h₀ L s.heap news) (T : Top p loose mean mg mb h₀) (hk : cs.kind = .function)
    (q1 : Pick (st, listOf #[.int i ti, .ref c] n1) news news1) (q2 : Pick (c, listOf vs.toArray n2) news1 rest)
    (hI : IntsAre vs ns) (hn0 : 0 < ns.length) (hn : ns.length ≤ 63) (hi0 : 0 ≤ i) (hi1 : i ≤ 100) (hpos : ∀ x ∈ ns, 0 ≤ x) (hm0 : 0 < most) (hm1 : most ≤ 20001) (hne : @Ne Nat c st) (hr1 : ∀ p ∈ rest, p.1 ≠ st) (hr2 : ∀ p ∈ rest, p.1 ≠ c)
    (hd : dp + 1 < recursionLimit) (hu : un + 8 < cLine)
    (hret : ∀ (r : Int) (t : Tok) (i' : Int) (ti' : Tok) (vs' : List Value) (ns' : List Int) (h' : Heap) (tk' : Nat),
      Fr h₀ L h' m → News h₀ L h' ((st, listOf #[.int i' ti', .ref c] n1) :: (c, listOf vs'.toArray n2) :: rest) → IntsAre vs' ns' → 0 ≤ r → r < most → 0 ≤ i' → i' ≤ i + 1 → 0 < ns'.length → ns'.length ≤ 63 → (∀ x ∈ ns', 0 ≤ x) → Q (.int r t) { s with heap := h', toks := tk' }) :
    wpAny (model PySem.Challenge.rw_yi0045_01.row.toRowW.prog w) (ktrTop dp un gd cn cs L a ccd cl outer) (call (.ref 438) [.ref st, .int most tm]) Q E s :=
  take_c _ _ _ _ _ _ _ _ _ _ _ _ _ _ _ _ _ _ _ _ _ _ _ _ _ _ _ _ B F X (news_pick2 N q1 q2) T hk hI hn0 hn hi0 hi1 hpos hm0 hm1 hne hr1 hr2 hd hu fun r t i' ti' vs' ns' h' tk' F' N' hI' a b c d e g => hret r t i' ti' vs' ns' h' tk' F' N' hI' a b c d (e ▸ hn0) (e ▸ hn) g
theorem state_use {w : World} {p : Program} {loose : List PySem.Str} {mean : ExcName → Option Value} {mg mb : PySem.Str → Option Value}
    {dp un : Nat} {gd : Option (List Code)} {cn : PySem.Str} {cs : Scope} {a : Addr} {ccd : Value} {cl : List (PySem.Str × Addr)} {outer : List Env} {A₀ : Around} {base h₀ : Heap} {L : Addr} {m : PySem.Str → Option Value}
    {p0 : Addr × Obj} {rest : Ledger} {s : Shared} {sc : Addr} {vs : List Value} {ns : List Int} {Q E : Value → Shared → Prop}
    (B : Below A₀ base outer h₀) (F : Fr h₀ L s.heap m) (X : (hd.heap_39 w.params).In h₀) (N : News h₀ L s.heap (p0 :: rest)) (hlt : ∀ p ∈ rest, @LT.lt Nat _ p.1 p0.1) (T : Top p loose mean mg mb h₀) (hk : cs.kind = .function)
    (GL : Glob 0 mg mb (List.map itemOf (recsOf V)) (scalarsOf [] ++ constsW V) [] (namesW V [Str.ofString "PolynomialRing", Str.ofString "PolynomialNTT"]) base)
    (hL : base.IsList sc vs.toArray) (hI : IntsAre vs ns) (hn : ns.length ≤ 63) (hd : dp + 1 < recursionLimit) (hu : un + 8 < cLine)
    (hret : ∀ (st c : Addr) (ti : Tok) (n1 n2 : Nat) (vs' : List Value) (ns' : List Int) (h' : Heap) (tk' : Nat),
      Fr h₀ L h' m → News h₀ L h' ((st, listOf #[.int 0 ti, .ref c] n1) :: (c, listOf vs'.toArray n2) :: p0 :: rest) → IntsAre vs' ns' → 0 < ns'.length → ns'.length ≤ 63 → (∀ x ∈ ns', 0 ≤ x) → (∀ p ∈ p0 :: rest, p.1 < st) → (∀ p ∈ p0 :: rest, p.1 ≠ c) → @LT.lt Nat _ c st → Q (.ref st) { s with heap := h', toks := tk' }) :
    wpAny (model PySem.Challenge.rw_yi0045_01.row.toRowW.prog w) (ktrTop dp un gd cn cs L a ccd cl outer) (call (.ref 431) [.ref sc]) Q E s :=
  state_c _ _ _ _ _ _ _ _ _ _ _ _ _ _ _ _ _ _ _ _ _ _ B F X N hlt T hk GL hL hI hn hd hu hret
end Mine
end
section
open PySem PySem.W PyProof.Rows PySem.Spec PySem.Calls PySem.Builtin PySem.Builtin.Int
set_option maxRecDepth 100000
set_option maxHeartbeats 8000000
namespace Mine
theorem p3_kind : builtinKind "pow" = none := by decide +kernel
theorem p3_plain : plainId "pow" = true := by decide +kernel
theorem p3_entry : entryFor table "pow" = some Builtin.«pow» := entryFor_of_fast (by kernel_rfl)
theorem p3_args (a b c : Value) : argsOk "pow" ⟨[a, b, c], []⟩ := by unfold argsOk; kernel_rfl
theorem p3_args3 (a b c : Value) : argsOk "int.__pow__" ⟨[a, b, c], []⟩ := by unfold argsOk; kernel_rfl

theorem gives_pow3 {a b c : Int} {t u v : Tok} (hc0 : ¬ (c == 0) = true) (hc1 : ¬ (c.natAbs == 1) = true) (hb : ¬ b < 0) (hc : ¬ c < 0) :
    Gives (Builtin.«int.__pow__» ⟨[.int a t, .int b u, .int c v], []⟩) (.int (powMod (a % (c.natAbs : Int)).toNat b.natAbs c.natAbs : Nat)) :=
  .of_wp fun M A E s Q h => by
    obtain ⟨hp, g, d, tk, os⟩ := s
    wp_walk
    have e : (decide (c < 0) && ((powMod (a % (c.natAbs : Int)).toNat b.natAbs c.natAbs : Nat) : Int) != 0) = false := by simp [hc]
    simp only [e]
    exact ⟨_, rfl, h⟩
theorem gives_inv {t u v : Tok} : Gives (Builtin.«int.__pow__» ⟨[.int 128 t, .int (-1) u, .int 3329 v], []⟩) (.int 3303) :=
  .of_wp fun M A E s Q h => by
    obtain ⟨hp, g, d, tk, os⟩ := s
    wp_walk
    exact ⟨.int 3303 tk, congrArg (fun i => Fin.done (Flow.ret (Value.int i tk))) (by decide +kernel), h⟩
section
variable {prog : Program} {w : World} {A : Around} {E : Value → Shared → Prop} {s : Shared} {a b c r : Int} {t u v : Tok} {Q : Value → Shared → Prop}
theorem call_pow3 (G : Gives (Builtin.«int.__pow__» ⟨[.int a t, .int b u, .int c v], []⟩) (.int r)) (h : Q (.int r s.toks) { s with toks := s.toks + 1 }) :
    wpAny (model prog w) A (call (.builtin "pow") [.int a t, .int b u, .int c v]) Q E s := by
  refine call_function_entry p3_kind p3_plain p3_entry (p3_args _ _ _) ?_
  obtain ⟨hp, g, d, tk, os⟩ := s
  have hT : (⟨hp, g, d, tk, os⟩ : Shared).TypeIs (.int a t) "int" := rfl
  have f3 := F.slot_int_pow.lookup
  have f4 := F.slot_int_pow.bind (.int a t)
  repeat (any_goals (first | assumption | ((with_reducible show wpAny _ _ (call (Value.builtin "int.__pow__") _ _) _ _ _); refine call_gives F.slot_int_pow hT F.entry_int_pow (F.args_int_pow_3 _ _ _) G ?_; dsimp only [Made.post]) | wp_step))
  have f5 : typeLookup (.type "int") (Str.ofString "__pow__") = pure (some (.builtin "int.__pow__")) := f3
  refine wpAny_of_eq f5 ?_
  refine wpAny_bind (wpAny_callSpecial?_slot (name := Str.ofString "__pow__") hT F.slot_int_pow (call_gives F.slot_int_pow hT F.entry_int_pow (F.args_int_pow_3 _ _ _) G ?_))
  dsimp only [Made.post]
  show wpAny _ _ (ret (.int r tk)) _ _ _
  exact wpAny_pure ⟨_, rfl, h⟩
end
theorem call_inv {prog : Program} {w : World} {A : Around} {E : Value → Shared → Prop} {s : Shared} {t u v : Tok} {Q : Value → Shared → Prop} (h : Q (.int 3303 s.toks) { s with toks := s.toks + 1 }) :
    wpAny (model prog w) A (call (.builtin "pow") [.int 128 t, .int (-1) u, .int 3329 v]) Q E s := call_pow3 gives_inv h
def pw (b : Int) : Int := (powMod (((17 : Int) % ((3329 : Int).natAbs : Int)).toNat) b.natAbs ((3329 : Int).natAbs) : Nat)
theorem call_pw {prog : Program} {w : World} {A : Around} {E : Value → Shared → Prop} {s : Shared} {b : Int} {t u v : Tok} {Q : Value → Shared → Prop} (hb : 0 ≤ b) (h : Q (.int (pw b) s.toks) { s with toks := s.toks + 1 }) :
    wpAny (model prog w) A (call (.builtin "pow") [.int 17 t, .int b u, .int 3329 v]) Q E s := call_pow3 (gives_pow3 (by decide) (by decide) (by omega) (by decide)) h
end Mine
end
section
open PySem.NumText PySem PySem.W PyProof.Rows PySem.Spec PySem.Calls PySem.Builtin PySem.Builtin.Int
set_option maxRecDepth 100000
set_option maxHeartbeats 8000000
namespace Mine
def under128 (P : Int → Bool) : Bool := (List.range 128).all fun n => P (n : Int)
theorem under128_use {P : Int → Bool} (h : under128 P = true) {i : Int} (h0 : 0 ≤ i) (h1 : i < 128) : P i = true := by
  have e : i = ((i.toNat : Nat) : Int) := by omega
  rw [e]
  exact List.all_eq_true.mp h _ (List.mem_range.mpr (by omega))
def bT (i : Int) : Str := baseText "0b" 2 (Builtin.bitAnd i (2 ^ Int.toNat 7 - 1))
theorem bT_all : under128 (fun i => decide (3 ≤ (bT i).length ∧ (bT i).length ≤ 9)) = true := by decide +kernel
theorem bT_len {i : Int} (h0 : 0 ≤ i) (h1 : i < 128) : 3 ≤ (bT i).length ∧ (bT i).length ≤ 9 := of_decide_eq_true (under128_use bT_all h0 h1)
theorem call_bT {prog : Program} {w : World} {A : Around} {E : Value → Shared → Prop} {s : Shared} {i : Int} {t : Tok} {Q : Value → Shared → Prop} (h0 : 0 ≤ i) (h1 : i < 128) (h : ∀ x : Str, x = bT i → 0 ≤ i → i < 128 → 3 ≤ x.length → x.length ≤ 9 → Q (.str x s.toks) { s with toks := s.toks + 1 }) :
    wpAny (model prog w) A (call (.builtin "bin") [.int (Builtin.bitAnd i (2 ^ Int.toNat 7 - 1)) t]) Q E s :=
  P.bin_of_int (h _ rfl h0 h1 (bT_len h0 h1).1 (bT_len h0 h1).2) (Nat.le_trans (bT_len h0 h1).2 (by decide))

/-- a text read by base 2: no sign, no prefix -/
def rd (cs : List Nat) : Option Int :=
  if (sign (cs.dropWhile blank)).1 then none else
  if (based 2 (sign (cs.dropWhile blank)).2).1 == 2 && (based 2 (sign (cs.dropWhile blank)).2).2.1 == false then
    (digits? 2 (((based 2 (sign (cs.dropWhile blank)).2).2.2.reverse.dropWhile blank).reverse)).map fun ds => ((ds.foldl (fun acc d => acc * 2 + d) 0 : Nat) : Int)
  else none
theorem rd_value {cs : List Nat} {n : Int} (h : rd cs = some n) : (int_private% "readNumeral") 0 2 cs = (int_private% "Numeral.value") n := by
  unfold rd at h
  split at h
  · cases h
  rename_i h0
  split at h
  · rename_i h1
    obtain ⟨h1, h2⟩ := Bool.and_eq_true_iff.mp h1
    rw [readNumeral_eq, Bool.not_eq_true _ |>.mp h0, beq_iff_eq.mp h1, beq_iff_eq.mp h2]
    obtain ⟨ds, hd, rfl⟩ := Option.map_eq_some_iff.mp h
    rw [beq_iff_eq.mp h1] at *
    rw [hd]
    rfl
  · cases h
theorem p2_type (a b : Value) : checkTypeCall "int" ⟨[a, b], []⟩ = pure () := by kernel_rfl
theorem p2_new (a b : Value) : checkBuiltinCall "int.__new__" ⟨[.type "int", a, b], []⟩ = pure () := by kernel_rfl
theorem p2_init (o a b : Value) : argsOk "object.__init__" ⟨[o, a, b], []⟩ := by unfold argsOk; kernel_rfl
structure Hide (p : Prop) : Prop where
  out : p
theorem wp_text2 {M : Model} {A : Around} {E : Value → Shared → Prop} {s : Shared} {Q : Value → Shared → Prop} {v : Value} {text : List Nat} {n : Int}
    (hs : (text.takeWhile (· != 0)).length ≤ 640) (hr : (int_private% "readNumeral") 0 2 (text.takeWhile (· != 0)) = (int_private% "Numeral.value") n)
    (ha : ((text.takeWhile (· != 0)).length == text.length) = true) (h : Q (.int n s.toks) { s with toks := s.toks + 1 }) :
    wpAny M A ((int_private% "intFromText") v text 2) Q E s := by
  obtain ⟨hp, g, d, tk, os⟩ := s
  repeat (any_goals (first
    | assumption
    | (with_reducible refine wpAny_ite_true (decide_eq_true hs) ?_)
    | (with_reducible refine wpAny_ite_true (decide_eq_true ha) ?_)
    | wp_step))
  all_goals (try rw [hr])
  all_goals (try dsimp only)
  repeat (any_goals (first
    | assumption
    | (with_reducible refine wpAny_ite_true (decide_eq_true hs) ?_)
    | (with_reducible refine wpAny_ite_true (decide_eq_true ha) ?_)
    | wp_step))
theorem gives_text2 {x : PySem.Str} {u v : Tok} {n : Int} (hs : (numSeenOf x).length ≤ 640) (hn : rd (numSeenOf x) = some n) (ha : ((numSeenOf x).length == (numTextOf x).length) = true) :
    Gives (Builtin.«int.__new__» ⟨[.type "int", .str x u, .int 2 v], []⟩) (.int n) :=
  .of_wp fun M A E s Q h => by
    obtain ⟨hp, g, d, tk, os⟩ := s
    have f1 := F.conv_sub_int
    have f2 := F.madeHere_int
    have f6 : typeOf (.str x u) = pure (.type "str") := rfl
    have hk := Hide.mk (And.intro hs (And.intro (rd_value hn) ha))
    clear hs hn ha
    repeat (any_goals (first
      | assumption
      | ((with_reducible show wpAny _ _ ((int_private% "intFromText") _ _ _) _ _ _); refine wp_text2 hk.out.1 hk.out.2.1 hk.out.2.2 ?_)
      | wp_step))
    all_goals exact ⟨_, rfl, h⟩
/-- the text that is read: seven digits, from behind -/
def rT (i : Int) (k : Int × Tok) : Str := Txt.sliceBy (Txt.zfill (Txt.slice (bT i) (some 2) none) 7) none none k
/-- the bits of i from behind -/
def bv (i : Int) : Int := 64 * (i % 2) + 32 * (i / 2 % 2) + 16 * (i / 4 % 2) + 8 * (i / 8 % 2) + 4 * (i / 16 % 2) + 2 * (i / 32 % 2) + i / 64 % 2
theorem bv_lo (i : Int) : 0 ≤ bv i := by unfold bv; omega
def rOk (i : Int) : Bool := let x := rT i (-1, 0); decide ((numSeenOf x).length ≤ 640) && (rd (numSeenOf x) == some (bv i)) && ((numSeenOf x).length == (numTextOf x).length) && decide ((Txt.zfill (Txt.slice (bT i) (some 2) none) 7).length ≤ sizeLine)
theorem rOk_all : under128 rOk = true := by decide +kernel
theorem rT_tok (i k : Int) (u : Tok) : rT i (k, u) = rT i (k, 0) := rfl
section
variable {prog : Program} {w : World} {A : Around} {E : Value → Shared → Prop} {s : Shared} {i : Int} {t u v : Tok} {Q : Value → Shared → Prop}
theorem rT_read (h0 : 0 ≤ i) (h1 : i < 128) (u : Tok) : (numSeenOf (rT i (-1, u))).length ≤ 640 ∧ rd (numSeenOf (rT i (-1, u))) = some (bv i) ∧ ((numSeenOf (rT i (-1, u))).length == (numTextOf (rT i (-1, u))).length) = true ∧ (Txt.zfill (Txt.slice (bT i) (some 2) none) 7).length ≤ sizeLine := by
  have h := under128_use rOk_all h0 h1
  unfold rOk at h
  simp only [Bool.and_eq_true, decide_eq_true_eq] at h
  obtain ⟨⟨⟨a, b⟩, c⟩, d⟩ := h
  rw [rT_tok]
  exact ⟨a, beq_iff_eq.mp b, c, d⟩
theorem call_rT {x : Str} (hx : x = bT i) (h0 : 0 ≤ i) (h1 : i < 128) (h : Q (.int (bv i) s.toks) { s with toks := s.toks + 1 }) :
    wpAny (model prog w) A (call (.type "int") [.str (Txt.sliceBy (Txt.zfill (Txt.slice x (some 2) none) 7) none none (-1, t)) u, .int 2 v]) Q E s := by
  subst hx
  obtain ⟨a, b, c, _⟩ := rT_read h0 h1 t
  exact callType_new F.called_int F.newNe_int (p2_type _ _) (p2_new _ _) (fun obj => p2_init obj _ _) F.entry_int_new (gives_text2 a b c).meets (show (Made.int (bv i)).post _ s from ⟨rfl, h⟩)
theorem rT_size {x : Str} (hx : x = bT i) (h0 : 0 ≤ i) (h1 : i < 128) : (Txt.zfill (Txt.slice x (some 2) none) 7).length ≤ sizeLine := hx ▸ (rT_read h0 h1 0).2.2.2
end
end Mine
end
section
open Lean Elab Tactic Meta PySem PySem.W PyProof.Rows PySem.Spec PySem.Calls
set_option maxRecDepth 100000
set_option maxHeartbeats 8000000
namespace Mine
section
variable {prog : Program} {w : World} {A : Around} {E : Value → Shared → Prop} {s : Shared} {h₀ : Heap} {L : Addr} {m : PySem.Str → Option Value} {news : Ledger} {Q : Value → Shared → Prop}
theorem full_add {l D : Addr} {n : Nat} {least : Int} {t : Tok} {ys : List Value} {f : Int → Int} {as : List Int} (F : Fr h₀ L s.heap m) (N : News h₀ L s.heap news) (hl : (l, listOf #[.int least t] n) ∈ news) (hD : s.heap.IsList D ys.toArray)
    (hc : CarriedAll ys (List.map (fun a => PyData.int ((f a).fmod 3329)) as)) (hlen : as.length = 255) (h0 : -10000 ≤ least) (h1 : least ≤ 10000)
    (h : ∀ (o : Addr) (us : List Value) (ks : List Int) (h' : Heap), Fr h₀ L h' m → News h₀ L h' ((o, listOf us.toArray 0) :: news) → (∀ p ∈ news, p.1 < o) → IntsAre us ks → ks.length = 256 → (∀ x ∈ ks, -10000 ≤ x ∧ x ≤ 10000) → Q (.ref o) { s with heap := h' }) :
    wpAny (model prog w) A (binaryOp .Add (.ref l) (.ref D)) Q E s := by
  have hi : IntsAre [Value.int least t] [least] := .cons _ _ .nil
  refine kmk_add_ints F N (vs := [.int least t]) (PySem.IsL.isList (n := n) (N _ hl).1) hD hi hc.intsOf (fun o us h' F' N' l1 hI => h o us _ h' F' N' l1 hI ?_ ?_) ?_
  · simp only [List.length_append, List.length_map, List.length_cons, List.length_nil, hlen]
  · intro x hx
    rcases List.mem_append.mp hx with hx | hx
    · rw [List.mem_singleton.mp hx]; exact ⟨h0, h1⟩
    · obtain ⟨a, _, rfl⟩ := List.mem_map.mp hx
      have a1 := fmod_lo (f a) (n := 3329) (by decide)
      have a2 := fmod_hi (f a) (n := 3329) (by decide)
      omega
  · simp only [List.length_map, List.length_cons, List.length_nil, hlen]; exact Nat.le_of_ble_eq_true rfl
end
end Mine
end
section
open Lean Elab Tactic Meta PySem PySem.W PyProof.Rows PySem.Spec PySem.Calls PyProof.Rows.LCg PyProof.V
set_option maxRecDepth 100000
set_option maxHeartbeats 8000000
namespace Mine
/-- a zip over two lists of ints of the ledger, freshly made: five objects from I on -/
structure ZcAt (h₀ : Heap) (L : Addr) (m : PySem.Str → Option Value) (h : Heap) (I l1 l2 : Addr) (us vs : List Value) (k1 k2 : List Int) (news : Ledger) : Prop where
  hz : IsZip h (I + 4) (I + 2) (I + 3) .none
  hTI : IsPair h (I + 2) (.ref I) (.ref (I + 1))
  hTO : IsPair h (I + 3) .none .none
  h1 : h.IsListIter I l1 0
  h2 : h.IsListIter (I + 1) l2 0
  size : h.objs.size = I + 5
  m1 : ∃ n, (l1, listOf us.toArray n) ∈ news
  m2 : ∃ n, (l2, listOf vs.toArray n) ∈ news
  i1 : IntsAre us k1
  i2 : IntsAre vs k2
  len : k1.length = k2.length
  sz : k1.length ≤ sizeLine
  F : Fr h₀ L h m
  N : News h₀ L h news
  lt : ∀ p ∈ news, p.1 < I
  hL : L < I
/-- the zip's own objects ahead of the ledger -/
abbrev zcAux (I : Addr) (o1 o2 o3 o4 : Obj) (news : Ledger) : Ledger := (I + 2, o1) :: (I + 3, o2) :: (I, o3) :: (I + 1, o4) :: news
def ZcTurn (prog : Program) (w : World) (A : Around) (h₀ : Heap) (L : Addr) (m : PySem.Str → Option Value) (env : Env) (elt : PySem.Expr) (a b : PySem.Str) (scope : Scope) (cl : List (PySem.Str × Addr)) (g : Int → Int → Int) (s : Shared) (I : Addr) (k1 k2 : List Int) (news : Ledger) : Prop :=
  ∀ (k k' : Int) (t t' : Tok) (oz o1 o2 o3 o4 : Obj) (C D : Addr) (oC : Obj) (m₂ : PySem.Str → Option Value) (ys : List Value) (h : Heap) (tk : Nat) (E' : Value → Shared → Prop), k ∈ k1 → k' ∈ k2 → NsObj oC m₂ → m₂ a = some (.int k t) → m₂ b = some (.int k' t') →
    Fr h₀ L h m → News h₀ L h ((I + 4, oz) :: (C, oC) :: (D, lst ys) :: zcAux I o1 o2 o3 o4 news) → Off3 (I + 4) C D (zcAux I o1 o2 o3 o4 news) →
    wpAny (model prog w) A (eval elt (compEnvC scope cl C env)) (CompEnd h₀ L m { s with heap := h, toks := tk } (I + 4) oz C oC D (lst ys) (fun _ => True) (fun y news' => KCfEl (zcAux I o1 o2 o3 o4 news) (g k k') y news')) E' { s with heap := h, toks := tk }
theorem wr_rng {I b : Nat} (h : b ∈ [I + 4, I + 3, I, I + 1]) : I ≤ b ∧ b < I + 5 := by
  simp only [List.mem_cons, List.not_mem_nil, or_false] at h
  omega
theorem aux_off {I p : Nat} (h : p = I + 2 ∨ p = I + 3 ∨ p = I ∨ p = I + 1 ∨ p < I) : p ≠ I + 4 ∧ p ≠ I + 6 ∧ p ≠ I + 5 := by omega
theorem zc_snoc {g : Int → Int → Int} : ∀ {k1 k2 : List Int} {i : Nat} {x y : Int}, k1[i]? = some x → k2[i]? = some y → List.zipWith g (k1.take (i + 1)) (k2.take (i + 1)) = List.zipWith g (k1.take i) (k2.take i) ++ [g x y]
  | a :: r, b :: q, 0, x, y, h1, h2 => by
    have e1 : a = x := by simpa using h1
    have e2 : b = y := by simpa using h2
    subst e1; subst e2
    simp
  | a :: r, b :: q, i + 1, x, y, h1, h2 => by
    have := zc_snoc (g := g) (k1 := r) (k2 := q) (i := i) (x := x) (y := y) (by simpa using h1) (by simpa using h2)
    simp only [List.take_succ_cons, List.zipWith_cons_cons, List.cons_append, this]
  | [], _, _, _, _, h, _ => by simp at h
  | _ :: _, [], _, _, _, _, h => by simp at h
section
variable {prog : Program} {w : World} {A : Around} {E : Value → Shared → Prop} {s : Shared} {h₀ : Heap} {L : Addr} {m : PySem.Str → Option Value} {env : Env}
theorem zc_block {elt iter : PySem.Expr} {a b : PySem.Str} {pa pb tp : Pos} {kk : Nat} {scope : Scope} {cl : List (PySem.Str × Addr)} {pos : Pos} {s₂ : Shared} {I l1 l2 : Addr} {us vs : List Value} {k1 k2 : List Int} {news : Ledger} {g : Int → Int → Int}
    {RR : Value → Addr → Result → Shared → Prop}
    (hh : A.handled = none) (Z : ZcAt h₀ L m s₂.heap I l1 l2 us vs k1 k2 news)
    (hcell : ∀ y ∈ scope.names, y.2 ≠ .cell) (hkind : scope.kind = .function) (hxa : scope.names.lookup a = some .local) (hxb : scope.names.lookup b = some .local) (hab : ¬ a = b)
    (turn : ZcTurn prog w A h₀ L m env elt a b scope cl g s₂ I k1 k2 news)
    (hRR : ∀ D C h tk m' ys, Fr h₀ L h m → News h₀ L h ((D, lst ys) :: news) → (∀ p ∈ news, p.1 < D) → h.Ns C m' → h₀.get? C = none → h₀.get? D = none → C ≠ L → D ≠ L → C ≠ D → (∀ p ∈ news, p.1 ≠ C) → IntsAre ys (List.zipWith g k1 k2) → RR (.ref D) C (.ok .next) { s₂ with heap := h, toks := tk }) :
    wpAny (model prog w) A (newList []) (fun acc s₃ => wpAny (model prog w) A (newFunctionEnv scope env.globals cl [] env.qual none .none (some env)) (fun cenv s₄ =>
      codeAny (model prog w) A (.compStart (.ListComp elt [⟨.Tuple [.Name a pa, .Name b pb] kk tp, iter, [], 0⟩] scope pos) 0 (.ref (I + 4)) acc { cenv with scope := relabel scope env }) (RR acc cenv.locals) s₄) E s₃) E s₂ := by
  refine wpAny_newObj_type (wpAny_newFunctionEnv hcell (by intro y hy; simp at hy) (fun h₁ hns₁ hsb₁ => ?_) hkind)
  dsimp only at hns₁ hsb₁ ⊢
  have hS : s₂.heap.objs.size = I + 5 := Z.size
  generalize hH2 : s₂.heap.push { cls := .type "list", dict := none, data := .seq ([] : List Value).toArray } = H2 at hns₁ hsb₁ ⊢
  have hC : H2.objs.size = I + 6 := by rw [← hH2, Heap.size_push, hS]
  have hacc : h₁.get? (I + 5) = some (lst []) := hsb₁.extBut _ _ (by rw [hC]; exact Nat.ne_of_lt (Nat.lt_succ_self _)) (Heap.get?_push_of_some _ (by rw [← hH2, ← hS]; exact Heap.get?_push_size _ rfl))
  rw [hC] at hns₁ hsb₁ ⊢
  rw [hS]
  have below : ∀ b' o, s₂.heap.get? b' = some o → b' < I + 5 := fun b' o e => hS ▸ Heap.lt_size e
  have old : ∀ b' o, s₂.heap.get? b' = some o → h₁.get? b' = some o := fun b' o e => by
    have := below b' o e
    exact hsb₁.extBut b' o (Nat.ne_of_lt (Nat.lt_succ_of_lt this)) (Heap.get?_push_of_some _ (hH2 ▸ Heap.get?_push_of_some _ e))
  have none₀ : ∀ a', I ≤ a' → h₀.get? a' = none := fun a' ha => Heap.get?_none_of_le (Nat.le_trans Z.F.above (Nat.le_of_lt (Nat.lt_of_lt_of_le Z.hL ha)))
  have offL : ∀ a', I ≤ a' → a' ≠ L := fun a' ha => Nat.ne_of_gt (Nat.lt_of_lt_of_le Z.hL ha)
  have offN : ∀ p ∈ news, ∀ a', I ≤ a' → p.1 ≠ a' := fun p hp a' ha => Nat.ne_of_lt (Nat.lt_of_lt_of_le (Z.lt p hp) ha)
  have D : ZipApart (I + 4) (I + 2) (I + 3) I (I + 1) l1 l2 := by
    obtain ⟨_, q1⟩ := Z.m1
    obtain ⟨_, q2⟩ := Z.m2
    exact ktu_apart _ _ _ (Z.lt _ q1) (Z.lt _ q2)
  have W := WalksT.zip2 (prog := prog) (w := w) hh (I + 4) (I + 2) (I + 3) I (I + 1) l1 l2 D us.toArray vs.toArray
  have hlu : us.length = k1.length := Z.i1.length
  have hlv : vs.length = k1.length := Z.i2.length.trans Z.len.symm
  have hn : min us.toArray.size vs.toArray.size = k1.length := by rw [List.size_toArray, List.size_toArray, hlu, hlv, Nat.min_self]
  rw [hn] at W
  have wrge : ∀ b', b' ∈ [I + 4, I + 3, I, I + 1] → I ≤ b' ∧ b' < I + 5 := fun b' hb => wr_rng hb
  have wrL : ∀ b', b' < I → b' ∉ [I + 4, I + 3, I, I + 1] := fun b' hb q => absurd (wrge b' q).1 (Nat.not_le.mpr hb)
  have wr5 : ∀ b', I + 5 ≤ b' → b' ∉ [I + 4, I + 3, I, I + 1] := fun b' hb q => absurd (wrge b' q).2 (Nat.not_lt.mpr hb)
  have loop : ∀ s₃ : Shared, s₃ = { s₂ with heap := h₁, toks := s₂.toks + ([] : List (PySem.Str × Value)).length } →
      codeAny (model prog w) A (.compLoop (.ListComp elt [⟨.Tuple [.Name a pa, .Name b pb] kk tp, iter, [], 0⟩] scope pos) 0 (.ref (I + 4)) (.ref (I + 5)) (compEnvC scope cl (I + 6) env))
        (RR (.ref (I + 5)) (I + 6)) s₃ := by
    rintro s₃ rfl
    refine kcp_loop
      (fun k s' => ∃ h' tk i ys m', s' = { s₂ with heap := h', toks := tk } ∧ i ≤ k1.length ∧ k = k1.length + 1 - i ∧ ys.length = i ∧ IntsAre ys (List.zipWith g (k1.take i) (k2.take i)) ∧
        (IsZip h' (I + 4) (I + 2) (I + 3) .none ∧ IsPair h' (I + 2) (.ref I) (.ref (I + 1)) ∧ (∃ a b, IsPair h' (I + 3) a b) ∧ h'.IsListIter I l1 i ∧ h'.IsListIter (I + 1) l2 i ∧ h'.IsList l1 us.toArray ∧ h'.IsList l2 vs.toArray) ∧
        Fr h₀ L h' m ∧ h'.Ns (I + 6) m' ∧ News h₀ L h' ((I + 5, lst ys) :: news)) ?_ (k1.length + 1)
      ⟨h₁, _, 0, [], _, rfl, Nat.zero_le _, rfl, rfl, by simpa using IntsAre.nil, ⟨old _ _ Z.hz, old _ _ Z.hTI, ⟨_, _, old _ _ Z.hTO⟩, Z.h1.at fun o e => old _ o e, Z.h2.at fun o e => old _ o e, ?_, ?_⟩, Z.F.keeps old, hns₁, fun p hp => ?_⟩
    · rintro k s' ⟨h', tk, i, ys, m', rfl, hi, rfl, hyl, hys, hst', F', hn', N'⟩
      by_cases hlt : i < k1.length
      · refine W.item i _ _ _ hlt hst' fun T vals h₂ tk₂ hPt _ hT hMid hk₂ => ?_
        refine W.go [.Name a pa, .Name b pb] kk tp i T _ _ _ hMid fun h₃ hst₃ hk₃ => ?_
        have hT₃ : h₃.IsTuple T vals := hT.at fun o e => hk₃ T o (W.apart i T _ hMid) e
        obtain ⟨x, y, hx, hy, rfl⟩ := hPt
        obtain ⟨k, t, rfl, hk⟩ := IntsAre.at Z.i1 i x (by simpa using hx)
        obtain ⟨k', t', rfl, hk'⟩ := IntsAre.at Z.i2 i y (by simpa using hy)
        have up₃ : ∀ c o, c ∉ [I + 4, I + 3, I, I + 1] → h'.get? c = some o → h₃.get? c = some o := fun c o hc e => hk₃ c o hc (hk₂ c o hc e)
        refine kcp_assign (env := compEnvC scope cl (I + 6) env) hh hT₃ (lookup_relabel_local hxa) (lookup_relabel_local hxb) (by simp [compEnvC, relabel, hkind]) (hn'.at' fun o e => up₃ _ o (wr5 _ (Nat.le_succ _)) e) fun h₄ tk₄ hn₄ hs₄ => ?_
        have up : ∀ c o, c ∉ [I + 4, I + 3, I, I + 1] → c ≠ I + 6 → h'.get? c = some o → h₄.get? c = some o := fun c o h1 h2 e => hs₄ c o h2 (up₃ c o h1 e)
        obtain ⟨oC, heC, hoC⟩ := ns_obj hn₄
        obtain ⟨hz₃, hTI₃, ⟨ta, tb, hTO₃⟩, ⟨oi1, hi1, hi1r⟩, ⟨oi2, hi2, hi2r⟩, hl1₃, hl2₃⟩ := hst₃
        obtain ⟨oz, hoz⟩ : ∃ oz : Obj, h₃.get? (I + 4) = some oz := ⟨_, hz₃⟩
        obtain ⟨o1, ho1⟩ : ∃ o : Obj, h₃.get? (I + 2) = some o := ⟨_, hTI₃⟩
        obtain ⟨o2, ho2⟩ : ∃ o : Obj, h₃.get? (I + 3) = some o := ⟨_, hTO₃⟩
        have lt6 : ∀ c : Nat, c < I + 6 → c ≠ I + 6 := fun c h => Nat.ne_of_lt h
        have F₄ : Fr h₀ L h₄ m := ⟨F'.ns.at' fun o e => up _ o (wrL _ Z.hL) (lt6 _ (Nat.lt_of_lt_of_le Z.hL (Nat.le_add_right _ _))) e, fun c o e => up c o (fun q => by rw [none₀ c (wrge c q).1] at e; cases e) (fun q => by rw [q, none₀ _ (Nat.le_add_right _ _)] at e; cases e) (F'.keep c o e), F'.above⟩
        have N₄ : News h₀ L h₄ ((I + 4, oz) :: (I + 6, oC) :: (I + 5, lst ys) :: zcAux I o1 o2 oi1 oi2 news) := fun q hq => by
          rcases List.mem_cons.mp hq with rfl | hq
          · exact ⟨hs₄ _ _ (lt6 _ (by omega)) hoz, offL _ (Nat.le_add_right _ _), none₀ _ (Nat.le_add_right _ _)⟩
          rcases List.mem_cons.mp hq with rfl | hq
          · exact ⟨heC, offL _ (Nat.le_add_right _ _), none₀ _ (Nat.le_add_right _ _)⟩
          rcases List.mem_cons.mp hq with rfl | hq
          · exact ⟨up _ _ (wr5 _ (Nat.le_refl _)) (lt6 _ (by omega)) (N' _ (.head _)).1, offL _ (Nat.le_add_right _ _), none₀ _ (Nat.le_add_right _ _)⟩
          rcases List.mem_cons.mp hq with rfl | hq
          · exact ⟨hs₄ _ _ (lt6 _ (by omega)) ho1, offL _ (Nat.le_add_right _ _), none₀ _ (Nat.le_add_right _ _)⟩
          rcases List.mem_cons.mp hq with rfl | hq
          · exact ⟨hs₄ _ _ (lt6 _ (by omega)) ho2, offL _ (Nat.le_add_right _ _), none₀ _ (Nat.le_add_right _ _)⟩
          rcases List.mem_cons.mp hq with rfl | hq
          · exact ⟨hs₄ _ _ (lt6 _ (by omega)) hi1, offL _ (Nat.le_refl _), none₀ _ (Nat.le_refl _)⟩
          rcases List.mem_cons.mp hq with rfl | hq
          · exact ⟨hs₄ _ _ (lt6 _ (by omega)) hi2, offL _ (Nat.le_add_right _ _), none₀ _ (Nat.le_add_right _ _)⟩
          · exact ⟨up _ _ (wrL _ (Z.lt q hq)) (lt6 _ (Nat.lt_of_lt_of_le (Z.lt q hq) (Nat.le_add_right _ _))) (N' q (.tail _ hq)).1, (N' q (.tail _ hq)).2⟩
        have off₄ : Off3 (I + 4) (I + 6) (I + 5) (zcAux I o1 o2 oi1 oi2 news) := Off3.of fun p hp => by
          refine aux_off ?_
          rcases List.mem_cons.mp hp with rfl | hp
          · exact .inl rfl
          rcases List.mem_cons.mp hp with rfl | hp
          · exact .inr (.inl rfl)
          rcases List.mem_cons.mp hp with rfl | hp
          · exact .inr (.inr (.inl rfl))
          rcases List.mem_cons.mp hp with rfl | hp
          · exact .inr (.inr (.inr (.inl rfl)))
          · exact .inr (.inr (.inr (.inr (Z.lt p hp))))
        refine wpAny_mono (turn k k' t t' oz o1 o2 oi1 oi2 (I + 6) (I + 5) oC _ ys h₄ tk₄ _ (List.mem_of_getElem? hk) (List.mem_of_getElem? hk') hoC (by simp [hab]) (by simp) F₄ N₄ off₄) (fun yv s₅ h₅ => ?_) fun _ _ e => e
        obtain ⟨h₅, tk₅, news₅, rfl, F₅, N₅, off₅, _, hne, t₅, rfl⟩ := h₅
        subst hne
        have same : ∀ (c : Addr) (o o' : Obj), c ≠ I + 6 → (c, o') ∈ (I + 4, oz) :: (I + 6, oC) :: (I + 5, lst ys) :: zcAux I o1 o2 oi1 oi2 news → h₃.get? c = some o → h₅.get? c = some o := fun c o o' h6 hm e => by
          have e4 := hs₄ c o h6 e
          rw [(N₄ _ hm).1] at e4
          cases e4
          exact (N₅ _ hm).1
        have zD := (N₅ (I + 5, lst ys) (.tail _ (.tail _ (.head _)))).1
        refine append_at (hsz := by show ys.toArray.size ≤ sizeLine; rw [List.size_toArray, hyl]; exact Nat.le_trans hi Z.sz) zD fun h₆ hs₆ hD₆ => ?_
        have st₅ : ∀ b' ∈ [I + 4, I + 2, I + 3, I, I + 1, l1, l2], ∀ o, h₃.get? b' = some o → h₆.get? b' = some o := fun b' hb o e => by
          have one : ∀ o', @LT.lt Nat _ b' (I + 5) → (b', o') ∈ (I + 4, oz) :: (I + 6, oC) :: (I + 5, lst ys) :: zcAux I o1 o2 oi1 oi2 news → h₆.get? b' = some o := fun o' hl hm =>
            hs₆.extBut b' o (Nat.ne_of_lt hl) (same b' o o' (lt6 _ (Nat.lt_succ_of_lt hl)) hm e)
          rcases List.mem_cons.mp hb with rfl | hb
          · exact one oz (by omega) (.head _)
          rcases List.mem_cons.mp hb with rfl | hb
          · exact one o1 (by omega) (.tail _ (.tail _ (.tail _ (.head _))))
          rcases List.mem_cons.mp hb with rfl | hb
          · exact one o2 (by omega) (.tail _ (.tail _ (.tail _ (.tail _ (.head _)))))
          rcases List.mem_cons.mp hb with rfl | hb
          · exact one oi1 (by omega) (.tail _ (.tail _ (.tail _ (.tail _ (.tail _ (.head _))))))
          rcases List.mem_cons.mp hb with rfl | hb
          · exact one oi2 (by omega) (.tail _ (.tail _ (.tail _ (.tail _ (.tail _ (.tail _ (.head _)))))))
          rcases List.mem_cons.mp hb with rfl | hb
          · obtain ⟨_, q⟩ := Z.m1
            exact one _ (Nat.lt_of_lt_of_le (Z.lt _ q) (Nat.le_add_right _ _)) (.tail _ (.tail _ (.tail _ (.tail _ (.tail _ (.tail _ (.tail _ q)))))))
          · obtain rfl := List.mem_singleton.mp hb
            obtain ⟨_, q⟩ := Z.m2
            exact one _ (Nat.lt_of_lt_of_le (Z.lt _ q) (Nat.le_add_right _ _)) (.tail _ (.tail _ (.tail _ (.tail _ (.tail _ (.tail _ (.tail _ q)))))))
        refine ⟨k1.length + 1 - (i + 1), by omega, h₆, tk₅, i + 1, ys ++ [.int (g k k') t₅], _, rfl, hlt, rfl, by rw [List.length_append, List.length_singleton, hyl], ?_, W.frame (i + 1) _ _ ⟨hz₃, hTI₃, ⟨ta, tb, hTO₃⟩, ⟨oi1, hi1, hi1r⟩, ⟨oi2, hi2, hi2r⟩, hl1₃, hl2₃⟩ st₅, F₅.change hs₆ (offL _ (Nat.le_add_right _ _)) (none₀ _ (Nat.le_add_right _ _)),
          (hoC.ns (N₅ (I + 6, oC) (.tail _ (.head _))).1).sameBut hs₆ (Nat.ne_of_gt (Nat.lt_succ_self _)), fun q hq => ?_⟩
        · rw [zc_snoc hk hk']
          exact IntsAre.append hys (.cons _ _ .nil)
        · rcases List.mem_cons.mp hq with rfl | hq
          · exact ⟨hD₆.trans (congrArg some (lst_snoc ys _)), offL _ (Nat.le_add_right _ _), none₀ _ (Nat.le_add_right _ _)⟩
          · have z := N₅ q (.tail _ (.tail _ (.tail _ (.tail _ (.tail _ (.tail _ (.tail _ hq)))))))
            exact ⟨hs₆.extBut _ _ (Nat.ne_of_lt (Nat.lt_of_lt_of_le (Z.lt q hq) (Nat.le_add_right _ _))) z.1, z.2⟩
      · obtain rfl : i = k1.length := Nat.le_antisymm hi (Nat.not_lt.mp hlt)
        refine W.done _ _ _ hst' fun h₂ tk₂ hk₂ => ?_
        have hk2 : k2.take k1.length = k2 := by rw [Z.len, List.take_length]
        rw [List.take_length, hk2] at hys
        refine hRR (I + 5) (I + 6) h₂ tk₂ m' ys ⟨F'.ns.at' fun o e => hk₂ _ o (wrL _ Z.hL) e, fun c o e => hk₂ c o (fun q => by rw [none₀ c (wrge c q).1] at e; cases e) (F'.keep c o e), F'.above⟩ (fun q hq => ?_)
          (fun p hp => Nat.lt_of_lt_of_le (Z.lt p hp) (Nat.le_add_right _ _)) (hn'.at' fun o e => hk₂ _ o (wr5 _ (Nat.le_succ _)) e) (none₀ _ (Nat.le_add_right _ _)) (none₀ _ (Nat.le_add_right _ _)) (offL _ (Nat.le_add_right _ _)) (offL _ (Nat.le_add_right _ _))
          (Nat.ne_of_gt (Nat.lt_succ_self _)) (fun p hp => offN p hp _ (Nat.le_add_right _ _)) hys
        rcases List.mem_cons.mp hq with rfl | hq
        · exact ⟨hk₂ _ _ (wr5 _ (Nat.le_refl _)) (N' _ (.head _)).1, (N' _ (.head _)).2⟩
        · exact ⟨hk₂ _ _ (wrL _ (Z.lt q hq)) (N' q (.tail _ hq)).1, (N' q (.tail _ hq)).2⟩
    · obtain ⟨_, q⟩ := Z.m1
      exact ⟨_, old _ _ (Z.N _ q).1, rfl, _, rfl⟩
    · obtain ⟨_, q⟩ := Z.m2
      exact ⟨_, old _ _ (Z.N _ q).1, rfl, _, rfl⟩
    · rcases List.mem_cons.mp hp with rfl | hp
      · exact ⟨hacc, offL _ (Nat.le_add_right _ _), none₀ _ (Nat.le_add_right _ _)⟩
      · exact ⟨old _ _ (Z.N p hp).1, (Z.N p hp).2⟩
  exact codeAny_compStart_list (loop _ rfl) (wpAny_pyIter_zip (old _ _ Z.hz) (loop _ rfl))

def ZcSrc (prog : Program) (w : World) (A : Around) (h₀ : Heap) (L : Addr) (m : PySem.Str → Option Value) (env : Env) (elt : PySem.Expr) (a b : PySem.Str) (scope : Scope) (cl : List (PySem.Str × Addr)) (y : PySem.Str) (Q : Flow → Shared → Prop) (xv : Value) (s₁ : Shared) : Prop :=
  ∃ (I l1 l2 : Addr) (us vs : List Value) (k1 k2 : List Int) (news : Ledger) (g : Int → Int → Int), xv = .ref (I + 4) ∧ A.handled = none ∧ ZcAt h₀ L m s₁.heap I l1 l2 us vs k1 k2 news ∧ ZcTurn prog w A h₀ L m env elt a b scope cl g s₁ I k1 k2 news ∧
    ∀ D h tk ys, Fr h₀ L h (fun z => if z = y then some (.ref D) else m z) → News h₀ L h ((D, lst ys) :: news) → (∀ p ∈ news, p.1 < D) → IntsAre ys (List.zipWith g k1 k2) → Q .next { s₁ with heap := h, toks := tk }
theorem zc_Assign {elt iter : PySem.Expr} {a b y : PySem.Str} {pa pb tp py : Pos} {kk : Nat} {scope : Scope} {cl : List (PySem.Str × Addr)} {pos spos : Pos} {Q : Flow → Shared → Prop} (_F₀ : Fr h₀ L s.heap m) (hLe : env.locals = L)
    (hsw : swapsWith (.ListComp elt [⟨.Tuple [.Name a pa, .Name b pb] kk tp, iter, [], 0⟩] scope pos) (some (.Name y py)) spos.line env = pure true)
    (hclos : closureFor scope env = pure cl) (hcell : ∀ z ∈ scope.names, z.2 ≠ .cell) (hkind : scope.kind = .function)
    (hnames : ∀ z ∈ scope.names, z.2 = .local → scope.names.lookup z.1 = some .local) (hxa : scope.names.lookup a = some .local) (hxb : scope.names.lookup b = some .local) (hab : ¬ a = b)
    (hy : env.kindOf y = some .local) (hp : (env.scope.kind == .class || (env.scope.kind == .module && env.locals != env.globals)) = false)
    (h : wpAny (model prog w) A (eval iter env) (ZcSrc prog w A h₀ L m env elt a b scope cl y Q) E s)
    (hs : ∀ x, foldedSetIterable iter env x = pure x := by intro _; rfl) :
    wpAny (model prog w) A (exec (.Assign [.Name y py] (.ListComp elt [⟨.Tuple [.Name a pa, .Name b pb] kk tp, iter, [], 0⟩] scope pos) spos) env) Q E s := by
  subst hLe
  rw [exec_Assign_Name_used _ _ _ _ hsw]
  refine wpAny_bind (wpAny_standAt (wpAny_bind ?_))
  show wpAny _ A (do let _ ← comprehension (.ListComp elt [⟨.Tuple [.Name a pa, .Name b pb] kk tp, iter, [], 0⟩] scope pos) scope env _ (newList []) false (eval iter env) (some (assign (.Name y py) env))) _ _ s
  refine wpAny_bind (wpAny_mono (wpAny_comprehension_free (use := some (assign (.Name y py) env)) (Q := fun _ s' => Q .next s') rfl hs hclos hkind hnames
    (wpAny_mono h (fun xv s₁ h₁ => ?_) fun _ _ e => e)) (fun _ s' hq => wpAny_pure (wpAny_pure hq)) fun _ _ e => e)
  obtain ⟨I, l1, l2, us, vs, k1, k2, news, g, rfl, hh, Z, turn, fin⟩ := h₁
  refine wpAny_pyIter_zip Z.hz ?_
  refine zc_block hh Z hcell hkind hxa hxb hab turn ?_
  intro D C h' tk m' ys F' N' lt hn hC₀ hD₀ hCL hDL hCD offC hys
  show wpAny _ A (assign (.Name y py) env (.ref D)) _ _ _
  refine wpAny_assign_Name (wpAny_storeName_local hy F'.ns (fun h₂ hn₂ hs₂ => ?_) hp)
  have hL₀ : h₀.get? env.locals = none := Heap.get?_none_of_le F'.above
  have F₂ : Fr h₀ env.locals h₂ (fun z => if z = y then some (.ref D) else m z) := ⟨hn₂, fun b o e => hs₂.extBut b o (fun q => by rw [q, hL₀] at e; cases e) (F'.keep b o e), F'.above⟩
  refine ⟨m', hn.sameBut hs₂ hCL, fun h'' hs'' => fin D h'' _ ys (F₂.change hs'' hCL hC₀) (fun p hp => ?_) lt hys⟩
  have z : h₂.get? p.1 = some p.2 := hs₂.extBut _ _ (N' p hp).2.1 (N' p hp).1
  refine ⟨hs''.extBut _ _ ?_ z, (N' p hp).2⟩
  rcases List.mem_cons.mp hp with rfl | hp
  · exact Ne.symm hCD
  · exact offC p hp
theorem zc_zip {elt : PySem.Expr} {a b y : PySem.Str} {scope : Scope} {cl : List (PySem.Str × Addr)} {Q : Flow → Shared → Prop} {l1 l2 : Addr} {n1 n2 : Nat} {us vs : List Value} {k1 k2 : List Int} {news : Ledger} (g : Int → Int → Int)
    (hh : A.handled = none) (F : Fr h₀ L s.heap m) (N : News h₀ L s.heap news) (q1 : (l1, listOf us.toArray n1) ∈ news) (q2 : (l2, listOf vs.toArray n2) ∈ news) (i1 : IntsAre us k1) (i2 : IntsAre vs k2) (len : k1.length = k2.length) (sz : k1.length ≤ sizeLine)
    (turn : ∀ hp I, (∀ p ∈ news, p.1 < I) → ZcTurn prog w A h₀ L m env elt a b scope cl g { s with heap := hp } I k1 k2 news)
    (fin : ∀ D h tk ys ks, Fr h₀ L h (fun z => if z = y then some (.ref D) else m z) → News h₀ L h ((D, lst ys) :: news) → (∀ p ∈ news, p.1 < D) → IntsAre ys ks → ks = List.zipWith g k1 k2 → ks.length = k1.length → Q .next { s with heap := h, toks := tk }) :
    wpAny (model prog w) A (call (.type "zip") [.ref l1, .ref l2]) (ZcSrc prog w A h₀ L m env elt a b scope cl y Q) E s := by
  have hl1 : s.heap.IsList l1 us.toArray := ⟨_, (N _ q1).1, rfl, _, rfl⟩
  have hl2 : s.heap.IsList l2 vs.toArray := ⟨_, (N _ q2).1, rfl, _, rfl⟩
  refine call_zip_2 hl1 hl2 fun h' hz hTI hTO hi1 hi2 hsz hk => ?_
  have lt : ∀ p ∈ news, p.1 < s.heap.objs.size := fun p hp => Heap.lt_size (N p hp).1
  exact ⟨s.heap.objs.size, l1, l2, us, vs, k1, k2, news, g, rfl, hh, ⟨hz, hTI, hTO, hi1, hi2, hsz, ⟨_, q1⟩, ⟨_, q2⟩, i1, i2, len, sz, F.keeps hk, N.grown hk, lt, F.ns.lt⟩, turn _ _ lt, fun D h tk ys F' N' l hys => fin D h tk ys _ F' N' l hys rfl (by rw [List.length_zipWith, ← len, Nat.min_self])⟩
end
end Mine
end
section
open Lean Elab Tactic Meta PySem PySem.W PyProof.Rows PySem.Spec PySem.Calls
set_option maxRecDepth 100000
namespace Mine
def lawStmt : Stmt := PySem.Challenge.pw_yi0045_01.main.body.getLast?.getD (.Pass ⟨0, 0, 0, 0⟩)
def lawBody : List Stmt := match lawStmt with
  | .FunctionDef _ _ b _ _ _ _ _ _ _ => b
  | _ => []
def lawScope : Scope := match lawStmt with
  | .FunctionDef _ _ _ _ _ _ sc _ _ _ => sc
  | _ => default
/-- what stands when the law's comparisons begin: two polynomials over lists of ints, their ring, the two lists again, three cells -/
structure LP where
  (z1 e1 l1 z2 e2 l2 x dx a1 a2 D : Addr)
  (t1 t2 t3 t4 t5 t6 t7 t8 t9 ta tb : Tok)
  (n1 n2 n3 n4 : Nat)
  (u1 u2 v1 v2 : List Value)
  (k1 k2 : List Int)
  (nb : Int)
  (tn : Tok)
  (o1 o2 o3 : Obj)
def polyD (w : World) (x l : Addr) (t1 t2 : Tok) : Obj := dictOf [⟨PyData.keyHash w.params "parent", .str "parent" t1, .ref x⟩, ⟨PyData.keyHash w.params "coeffs", .str "coeffs" t2, .ref l⟩] 2
def ringD (w : World) (D : Addr) (t1 t2 t3 t4 t5 t6 t7 : Tok) : Obj := dictOf [⟨PyData.keyHash w.params "q", .str "q" t1, .int 3329 t2⟩, ⟨PyData.keyHash w.params "n", .str "n" t3, .int 256 t4⟩, ⟨PyData.keyHash w.params "ntt_zetas", .str "ntt_zetas" t5, .ref D⟩, ⟨PyData.keyHash w.params "ntt_f", .str "ntt_f" t6, .int 3303 t7⟩] 4
def Led (w : World) (L : Addr) (q : LP) : Ledger :=
  [(q.z2, instObj 348 q.e2), (q.e2, polyD w q.x q.l2 q.t3 q.t4), (q.l2, listOf q.u2.toArray q.n2),
   (q.z1, instObj 348 q.e1), (q.e1, polyD w q.x q.l1 q.t1 q.t2), (q.l1, listOf q.u1.toArray q.n1),
   (q.a2, listOf q.v2.toArray q.n4), (q.a1, listOf q.v1.toArray q.n3),
   (q.x, instObj 280 q.dx), (q.dx, ringD w q.D q.t5 q.t6 q.t7 q.t8 q.t9 q.ta q.tb),
   (L + 1 + 1 + 1, q.o3), (L + 1 + 1, q.o2), (L + 1, q.o1)]
structure LOk (L : Addr) (q : LP) : Prop where
  b0 : @LT.lt Nat _ (L + 1 + 1 + 1) q.dx
  b1 : @LT.lt Nat _ q.dx q.x
  b2 : @LT.lt Nat _ q.x q.a1
  b3 : @LT.lt Nat _ q.a1 q.a2
  b4 : @LT.lt Nat _ q.a2 q.l1
  b5 : @LT.lt Nat _ q.l1 q.e1
  b6 : @LT.lt Nat _ q.e1 q.z1
  b7 : @LT.lt Nat _ q.z1 q.l2
  b8 : @LT.lt Nat _ q.l2 q.e2
  b9 : @LT.lt Nat _ q.e2 q.z2
  i1 : IntsAre q.u1 q.k1
  i2 : IntsAre q.u2 q.k2
  i3 : IntsAre q.v1 q.k1
  i4 : IntsAre q.v2 q.k2
  s1 : q.k1.length = 256
  s2 : q.k2.length = 256
  m1 : ∀ x ∈ q.k1, -10000 ≤ x ∧ x ≤ 10000
  m2 : ∀ x ∈ q.k2, -10000 ≤ x ∧ x ≤ 10000
  r0 : -10000 ≤ q.nb
  r1 : q.nb ≤ 10000
  d1 : q.o1.data = Data.cell (some (.ref q.a1))
  d2 : q.o2.data = Data.cell (some (.ref q.a2))
  d3 : q.o3.data = Data.cell (some (.int q.nb q.tn))
def lawM (m0 : PySem.Str → Option Value) (q : LP) : PySem.Str → Option Value := fun y => if y = ("second" : PySem.Str) then some (.ref q.z2) else if y = ("first" : PySem.Str) then some (.ref q.z1) else m0 y
/-- one of the law's comparisons: it goes on and leaves what stood -/
def IfC (k : Nat) : Prop :=
  ∀ (w : World) (p : Program) (loose : List PySem.Str) (mean : ExcName → Option Value) (mg mb : PySem.Str → Option Value) (h₀ : Heap) (L fa cd : Addr) (m0 : PySem.Str → Option Value) (q : LP) (s : Shared) (Q : Flow → Shared → Prop) (E : Value → Shared → Prop),
    (hd.heap_39 w.params).In h₀ → Glob 0 mg mb (List.map itemOf (recsOf V)) (scalarsOf [] ++ constsW V) [] (namesW V [Str.ofString "PolynomialRing", Str.ofString "PolynomialNTT"]) h₀ → Top p loose mean mg mb h₀ →
    Below callerA h₀ [] h₀ → Fr h₀ L s.heap (lawM m0 q) → News h₀ L s.heap (Led w L q) → LOk L q →
    (∀ h' tk', Fr h₀ L h' (lawM m0 q) → News h₀ L h' (Led w L q) → Q .next { s with heap := h', toks := tk' }) →
    wpAny (model PySem.Challenge.rw_yi0045_01.row.toRowW.prog w) (callerA.deeper (envOfC "law" lawScope L fa (.ref cd))) (exec (lawBody.getD k (.Pass ⟨0, 0, 0, 0⟩)) (envOfC "law" lawScope L fa (.ref cd))) Q E s
theorem range_eq {f : Int → Int} {n : Nat} {l : List Int} (hl : l.length = n) (h : ∀ i : Nat, i < n → l[i]? = some (f (i : Int))) : l = List.map f (rangeKs 0 n) := by
  apply List.ext_getElem?
  intro i
  by_cases hi : i < n
  · rw [h i hi, List.getElem?_map]
    simp [rangeKs, hi]
  · rw [List.getElem?_eq_none (by omega), List.getElem?_eq_none (by simp [rangeKs]; omega)]
theorem zip_range {g : Int → Int → Int} {k1 k2 : List Int} (h1 : k1.length = 256) (h2 : k2.length = 256) :
    List.zipWith g k1 k2 = List.map (fun k : Int => g (k1.getD k.toNat 0) (k2.getD k.toNat 0)) (rangeKs 0 (256 - 0 : Int).toNat) := by
  refine range_eq (by rw [List.length_zipWith, h1, h2]; rfl) fun i hi => ?_
  have hi' : i < 256 := hi
  have e1 : k1[i]? = some k1[i] := List.getElem?_eq_getElem (by omega)
  have e2 : k2[i]? = some k2[i] := List.getElem?_eq_getElem (by omega)
  rw [List.getElem?_zipWith, e1, e2]
  simp [List.getD_eq_getElem?_getD, e1, e2]
/-- the law's last two rows -/
def TailC : Prop :=
  ∀ (w : World) (p : Program) (loose : List PySem.Str) (mean : ExcName → Option Value) (mg mb : PySem.Str → Option Value) (h₀ : Heap) (L fa cd : Addr) (m0 : PySem.Str → Option Value) (q : LP) (s : Shared) (Q : Flow → Shared → Prop) (E : Value → Shared → Prop),
    (hd.heap_39 w.params).In h₀ → Glob 0 mg mb (List.map itemOf (recsOf V)) (scalarsOf [] ++ constsW V) [] (namesW V [Str.ofString "PolynomialRing", Str.ofString "PolynomialNTT"]) h₀ → Top p loose mean mg mb h₀ →
    Below callerA h₀ [] h₀ → Fr h₀ L s.heap (lawM m0 q) → News h₀ L s.heap (Led w L q) → LOk L q →
    (∀ h' tk' m', Fr h₀ L h' m' → Q (.ret (.bool true)) { s with heap := h', toks := tk' }) →
    wpAny (model PySem.Challenge.rw_yi0045_01.row.toRowW.prog w) (callerA.deeper (envOfC "law" lawScope L fa (.ref cd))) (execs (lawBody.drop 10) (envOfC "law" lawScope L fa (.ref cd))) Q E s
end Mine
end
section
open Lean Elab Tactic Meta PySem PySem.W PyProof.Rows PySem.Spec PySem.Calls
set_option maxRecDepth 100000
set_option maxHeartbeats 8000000
namespace Mine
section
variable {prog : Program} {w : World} {A : Around} {E : Value → Shared → Prop} {s : Shared} {h₀ : Heap} {L : Addr} {m : PySem.Str → Option Value} {news : Ledger} {Q : Value → Shared → Prop}
theorem copy_K {l : Addr} {n : Nat} {us : List Value} {ks : List Int} (F : Fr h₀ L s.heap m) (N : News h₀ L s.heap news) (hm : (l, listOf us.toArray n) ∈ news) (hI : IntsAre us ks) (h256 : ks.length = 256)
    (h : ∀ D h', Fr h₀ L h' m → News h₀ L h' ((D, listOf us.toArray 0) :: news) → (∀ p ∈ news, p.1 < D) → Q (.ref D) { s with heap := h' }) :
    wpAny (model prog w) A (call (.builtin "list.copy") [.ref l]) Q E s :=
  PyProof.Rows.copy_list (hsz := by rw [hI.length, h256]; exact Nat.le_of_ble_eq_true rfl) F N (PySem.IsL.isList (n := n) (N _ hm).1) fun h' F' N' => h _ h' F' N' fun p hp => Heap.lt_size (N p hp).1
theorem len_256 {l : Addr} {n : Nat} {us : List Value} {ks : List Int} (N : News h₀ L s.heap news) (hm : (l, listOf us.toArray n) ∈ news) (hI : IntsAre us ks) (h256 : ks.length = 256)
    (h : Q (.int 256 (s.toks + 1)) { s with toks := s.toks + 1 + 1 }) : wpAny (model prog w) A (call (.builtin "len") [.ref l]) Q E s :=
  len_ints_fit (PySem.IsL.isList (n := n) (N _ hm).1) hI (by omega) (by rw [h256]; exact h)
end
theorem mul_ok {ks : List Int} {x y : Int} (hx : x ∈ ks) (hm : ∀ x ∈ ks, -10000 ≤ x ∧ x ≤ 10000) : PySem.IntMulOk x y :=
  PySem.IntMulOk.of_left (PySem.intBits_le_64 (by have := hm x hx; omega) (by have := hm x hx; omega))
theorem neg_eq {k1 : List Int} : List.map (fun a : Int => (-a).fmod 3329) k1 = List.map (fun a : Int => (0 - a).fmod 3329) k1 := List.map_congr_left fun a _ => by rw [Int.zero_sub]
theorem set_eq {k1 : List Int} {v : Int} (h : k1.length = 256) : k1.set (Int.toNat 0) v = [v] ++ List.drop 1 k1 := by
  cases k1 with
  | nil => cases h
  | cons a r => rfl
end Mine
end
section
open Lean Elab Tactic Meta PySem PySem.W PyProof.Rows PySem.Spec PySem.Calls
set_option maxRecDepth 100000
namespace Mine
/-- the ring is made -/
def RingC : Prop :=
  ∀ (w : World) (p : Program) (loose : List PySem.Str) (mean : ExcName → Option Value) (mg mb : PySem.Str → Option Value) (h₀ : Heap) (L fa cd : Addr) (m0 : PySem.Str → Option Value) (st c : Addr) (os oc o1 o2 o3 : Obj) (s : Shared) (Q : Flow → Shared → Prop) (E : Value → Shared → Prop),
    (hd.heap_39 w.params).In h₀ → Glob 0 mg mb (List.map itemOf (recsOf V)) (scalarsOf [] ++ constsW V) [] (namesW V [Str.ofString "PolynomialRing", Str.ofString "PolynomialNTT"]) h₀ → Top p loose mean mg mb h₀ →
    Below callerA h₀ [] h₀ → Fr h₀ L s.heap m0 → News h₀ L s.heap [(st, os), (c, oc), (L + 1 + 1 + 1, o3), (L + 1 + 1, o2), (L + 1, o1)] → @LT.lt Nat _ (L + 1 + 1 + 1) st → @LT.lt Nat _ c st →
    (∀ (x dx D : Addr) (t1 t2 t3 t4 t5 t6 t7 : Tok) h' tk', Fr h₀ L h' (fun y => if y = ("ring" : PySem.Str) then some (.ref x) else m0 y) → News h₀ L h' [(x, instObj 280 dx), (dx, ringD w D t1 t2 t3 t4 t5 t6 t7), (st, os), (c, oc), (L + 1 + 1 + 1, o3), (L + 1 + 1, o2), (L + 1, o1)] →
      @LT.lt Nat _ st dx → @LT.lt Nat _ dx x → Q .next { s with heap := h', toks := tk' }) →
    wpAny (model PySem.Challenge.rw_yi0045_01.row.toRowW.prog w) (callerA.deeper (envOfC "law" lawScope L fa (.ref cd))) (exec (lawBody.getD 1 (.Pass ⟨0, 0, 0, 0⟩)) (envOfC "law" lawScope L fa (.ref cd))) Q E s
end Mine
end
section
open Lean Elab Tactic Meta PySem PySem.W PyProof.Rows PySem.Spec PySem.Calls
set_option maxRecDepth 100000
namespace Mine
/-- the two rows are made -/
def RowsC : Prop :=
  ∀ (w : World) (p : Program) (loose : List PySem.Str) (mean : ExcName → Option Value) (mg mb : PySem.Str → Option Value) (h₀ : Heap) (L fa cd : Addr) (m0 : PySem.Str → Option Value) (x dx st c : Addr) (ox odx o1 o2 o3 : Obj) (ti : Tok) (n1 n2 : Nat) (vs : List Value) (ns : List Int) (s : Shared) (Q : Flow → Shared → Prop) (E : Value → Shared → Prop),
    (hd.heap_39 w.params).In h₀ → Glob 0 mg mb (List.map itemOf (recsOf V)) (scalarsOf [] ++ constsW V) [] (namesW V [Str.ofString "PolynomialRing", Str.ofString "PolynomialNTT"]) h₀ → Top p loose mean mg mb h₀ →
    Below callerA h₀ [] h₀ → Fr h₀ L s.heap (fun y => if y = ("ring" : PySem.Str) then some (.ref x) else if y = ("state" : PySem.Str) then some (.ref st) else m0 y) →
    News h₀ L s.heap [(x, ox), (dx, odx), (st, listOf #[.int 0 ti, .ref c] n1), (c, listOf vs.toArray n2), (L + 1 + 1 + 1, o3), (L + 1 + 1, o2), (L + 1, o1)] → @LT.lt Nat _ (L + 1 + 1 + 1) st → @LT.lt Nat _ c st → @LT.lt Nat _ st dx → @LT.lt Nat _ dx x →
    @Ne Nat (L + 1 + 1 + 1) c → @Ne Nat (L + 1 + 1) c → @Ne Nat (L + 1) c → o1.data = Data.cell none → o2.data = Data.cell none → o3.data = Data.cell none →
    IntsAre vs ns → 0 < ns.length → ns.length ≤ 63 → (∀ z ∈ ns, 0 ≤ z) →
    (∀ (a1 a2 : Addr) (i : Int) (ti' : Tok) (n3 n4 : Nat) (v1 v2 vs' : List Value) (k1 k2 ns' : List Int) (o1' o2' : Obj) h' tk',
      Fr h₀ L h' (fun y => if y = ("ring" : PySem.Str) then some (.ref x) else if y = ("state" : PySem.Str) then some (.ref st) else m0 y) →
      News h₀ L h' [(a2, listOf v2.toArray n4), (a1, listOf v1.toArray n3), (x, ox), (dx, odx), (st, listOf #[.int i ti', .ref c] n1), (c, listOf vs'.toArray n2), (L + 1 + 1 + 1, o3), (L + 1 + 1, o2'), (L + 1, o1')] →
      @LT.lt Nat _ x a1 → @LT.lt Nat _ a1 a2 → o1'.data = Data.cell (some (.ref a1)) → o2'.data = Data.cell (some (.ref a2)) → IntsAre v1 k1 → IntsAre v2 k2 → IntsAre vs' ns' → k1.length = 256 → k2.length = 256 → (∀ z ∈ k1, -10000 ≤ z ∧ z ≤ 10000) → (∀ z ∈ k2, -10000 ≤ z ∧ z ≤ 10000) →
      0 ≤ i → i ≤ 50 → 0 < ns'.length → ns'.length ≤ 63 → (∀ z ∈ ns', 0 ≤ z) → Q .next { s with heap := h', toks := tk' }) →
    wpAny (model PySem.Challenge.rw_yi0045_01.row.toRowW.prog w) (callerA.deeper (envOfC "law" lawScope L fa (.ref cd))) (exec (lawBody.getD 2 (.Pass ⟨0, 0, 0, 0⟩)) (envOfC "law" lawScope L fa (.ref cd))) Q E s
/-- the number is drawn -/
def NumC : Prop :=
  ∀ (w : World) (p : Program) (loose : List PySem.Str) (mean : ExcName → Option Value) (mg mb : PySem.Str → Option Value) (h₀ : Heap) (L fa cd : Addr) (m0 : PySem.Str → Option Value) (a1 a2 x dx st c : Addr) (oa1 oa2 ox odx o1 o2 o3 : Obj) (i : Int) (ti : Tok) (n1 n2 : Nat) (vs : List Value) (ns : List Int) (s : Shared) (Q : Flow → Shared → Prop) (E : Value → Shared → Prop),
    (hd.heap_39 w.params).In h₀ → Glob 0 mg mb (List.map itemOf (recsOf V)) (scalarsOf [] ++ constsW V) [] (namesW V [Str.ofString "PolynomialRing", Str.ofString "PolynomialNTT"]) h₀ → Top p loose mean mg mb h₀ →
    Below callerA h₀ [] h₀ → Fr h₀ L s.heap (fun y => if y = ("ring" : PySem.Str) then some (.ref x) else if y = ("state" : PySem.Str) then some (.ref st) else m0 y) →
    News h₀ L s.heap [(a2, oa2), (a1, oa1), (x, ox), (dx, odx), (st, listOf #[.int i ti, .ref c] n1), (c, listOf vs.toArray n2), (L + 1 + 1 + 1, o3), (L + 1 + 1, o2), (L + 1, o1)] → @LT.lt Nat _ (L + 1 + 1 + 1) st → @LT.lt Nat _ c st → @LT.lt Nat _ st dx → @LT.lt Nat _ dx x → @LT.lt Nat _ x a1 → @LT.lt Nat _ a1 a2 →
    @Ne Nat (L + 1 + 1 + 1) c → @Ne Nat (L + 1 + 1) c → @Ne Nat (L + 1) c → o3.data = Data.cell none →
    IntsAre vs ns → 0 < ns.length → ns.length ≤ 63 → (∀ z ∈ ns, 0 ≤ z) → 0 ≤ i → i ≤ 50 →
    (∀ (nb : Int) (tn : Tok) (o3' : Obj) h' tk',
      Fr h₀ L h' (fun y => if y = ("ring" : PySem.Str) then some (.ref x) else if y = ("state" : PySem.Str) then some (.ref st) else m0 y) →
      News h₀ L h' [(a2, oa2), (a1, oa1), (x, ox), (dx, odx), (L + 1 + 1 + 1, o3'), (L + 1 + 1, o2), (L + 1, o1)] → o3'.data = Data.cell (some (.int nb tn)) → -10000 ≤ nb → nb ≤ 10000 → Q .next { s with heap := h', toks := tk' }) →
    wpAny (model PySem.Challenge.rw_yi0045_01.row.toRowW.prog w) (callerA.deeper (envOfC "law" lawScope L fa (.ref cd))) (exec (lawBody.getD 3 (.Pass ⟨0, 0, 0, 0⟩)) (envOfC "law" lawScope L fa (.ref cd))) Q E s
/-- the two polynomials are made -/
def PolyC : Prop :=
  ∀ (w : World) (p : Program) (loose : List PySem.Str) (mean : ExcName → Option Value) (mg mb : PySem.Str → Option Value) (h₀ : Heap) (L fa cd : Addr) (m0 : PySem.Str → Option Value) (a1 a2 x dx D : Addr) (o1 o2 o3 : Obj) (t5 t6 t7 t8 t9 ta tn : Tok) (n3 n4 : Nat) (v1 v2 : List Value) (k1 k2 : List Int) (s : Shared) (Q : Flow → Shared → Prop) (E : Value → Shared → Prop),
    (hd.heap_39 w.params).In h₀ → Glob 0 mg mb (List.map itemOf (recsOf V)) (scalarsOf [] ++ constsW V) [] (namesW V [Str.ofString "PolynomialRing", Str.ofString "PolynomialNTT"]) h₀ → Top p loose mean mg mb h₀ →
    Below callerA h₀ [] h₀ → Fr h₀ L s.heap (fun y => if y = ("ring" : PySem.Str) then some (.ref x) else m0 y) →
    News h₀ L s.heap [(a2, listOf v2.toArray n4), (a1, listOf v1.toArray n3), (x, instObj 280 dx), (dx, ringD w D t5 t6 t7 t8 t9 ta tn), (L + 1 + 1 + 1, o3), (L + 1 + 1, o2), (L + 1, o1)] → @LT.lt Nat _ (L + 1 + 1 + 1) dx → @LT.lt Nat _ dx x → @LT.lt Nat _ x a1 → @LT.lt Nat _ a1 a2 →
    o1.data = Data.cell (some (.ref a1)) → o2.data = Data.cell (some (.ref a2)) → IntsAre v1 k1 → IntsAre v2 k2 → k1.length = 256 → k2.length = 256 →
    (∀ (z1 e1 l1 z2 e2 l2 : Addr) (t1 t2 t3 t4 : Tok) (m1 m2 : Nat) h' tk',
      Fr h₀ L h' (fun y => if y = ("second" : PySem.Str) then some (.ref z2) else if y = ("first" : PySem.Str) then some (.ref z1) else if y = ("ring" : PySem.Str) then some (.ref x) else m0 y) →
      News h₀ L h' [(z2, instObj 348 e2), (e2, polyD w x l2 t3 t4), (l2, listOf v2.toArray m2), (z1, instObj 348 e1), (e1, polyD w x l1 t1 t2), (l1, listOf v1.toArray m1),
        (a2, listOf v2.toArray n4), (a1, listOf v1.toArray n3), (x, instObj 280 dx), (dx, ringD w D t5 t6 t7 t8 t9 ta tn), (L + 1 + 1 + 1, o3), (L + 1 + 1, o2), (L + 1, o1)] →
      @LT.lt Nat _ a2 l1 → @LT.lt Nat _ l1 e1 → @LT.lt Nat _ e1 z1 → @LT.lt Nat _ z1 l2 → @LT.lt Nat _ l2 e2 → @LT.lt Nat _ e2 z2 → Q .next { s with heap := h', toks := tk' }) →
    wpAny (model PySem.Challenge.rw_yi0045_01.row.toRowW.prog w) (callerA.deeper (envOfC "law" lawScope L fa (.ref cd))) (exec (lawBody.getD 4 (.Pass ⟨0, 0, 0, 0⟩)) (envOfC "law" lawScope L fa (.ref cd))) Q E s
end Mine
end
section
open Lean Elab Tactic Meta PySem PySem.W PyProof.Rows PySem.Spec PySem.Calls
set_option maxRecDepth 100000
set_option maxHeartbeats 8000000
namespace Mine
local macro_rules | `(tactic| walk_at "exec Assign cons ListComp") => `(tactic| (
  k_here
  (with_reducible show wpAny _ _ (exec (Stmt.Assign [PySem.Expr.Name _ _] (PySem.Expr.ListComp _ [⟨PySem.Expr.Tuple [PySem.Expr.Name _ _, PySem.Expr.Name _ _] _ _, PySem.Expr.Call _ _ _ _, [], 0⟩] _ _) _) _) _ _ _)
  k_dflt (refine zc_Assign (by k_asm) (by rfl) (by with_unfolding_all rfl) (by with_unfolding_all rfl) (by decide) (by rfl) (by decide) (by rfl) (by rfl) (by decide) (by rfl) (by rfl) ?_)))
local macro_rules | `(tactic| walk_at "call type:zip") => `(tactic| (
  k_here
  (with_reducible show wpAny _ _ (call (Value.type _) [Value.ref _, Value.ref _]) _ _ _)
  k_dflt (refine' zc_zip (fun x y => (x + y).fmod 3329) ?k1 ?k2 ?k3 ?k4 ?k5 ?k6 ?k7 ?k8 ?k9 ?_ ?_; (case k1 => rfl); (case k2 => k_asm); (case k3 => k_asm); (case k4 => k_mem); (case k5 => k_mem); (case k6 => with_reducible assumption); (case k7 => with_reducible assumption); (case k8 => omega); (case k9 => (rw [PySem.sizeLine_eq]; omega)))
  focus (
    intro hp' I' lI'
    unfold ZcTurn
    intro k' k2' t' t2' oz' o1' o2' o3' o4' C' D' oC' m' ys' h' tk' E' hk' hk2' hC' hx' hy' F' N' off'
    (try dsimp only)
    (try k_fold))
  rotate_left
  focus (
    intro D' h' tk' ys' ks' F' N' l1' hI' hks' hkl'
    k_lt l1'
    (try dsimp only))
  rotate_left))
local macro_rules | `(tactic| walk_at "getMethod ref") => `(tactic| (k_here; k_dflt (refine' kmu_own ?k1 ?k2 ?k3 ?k4 ?k5 ?_; (case k1 => k_asm); (case k2 => k_asm); (case k3 => k_inst); (case k4 => k_is); (case k5 => k_is); k_whole)))
local macro_rules | `(tactic| walk_at "KCfEl") => `(tactic| exact kcf_el rfl rfl rfl)
local macro_rules | `(tactic| walk_at "CompSrc") => `(tactic| (
  k_here
  k_dflt (first
    | (refine LCg.CompSrc.range (by rfl) (by k_asm) (by k_asm) (by assumption) (by decide) (by first | exact rangeSize_nat _ _ | rfl) (by exact Nat.le_of_ble_eq_true rfl) ?_; intro g'; (refine' kcf_range _ (fun k' t' I' oI' C' oC' D' m' ys' h' tk' E' hlo' hhi' hC' hx' F' N' off' ne' hMark' => ?_) ?_); rotate_left; clear ne'; (try k_fold))
    | (refine LCg.CompSrc.ledger (by rfl) (by k_asm) (by k_asm) (by k_mem) (by kcf_size) ?_; intro g'; (refine' kcf_list _ (by with_reducible assumption) (fun k' t' I' oI' C' oC' D' m' ys' h' tk' E' hk' hC' hx' F' N' off' ne' hMark' => ?_) ?_); rotate_left; clear ne'; (try k_fold)))))
local macro_rules | `(tactic| walk_at "call builtin:len") => `(tactic| (
  k_here
  (with_reducible show wpAny _ _ (call (Value.builtin _) [Value.ref _]) _ _ _)
  k_dflt (refine' len_256 ?k1 ?k2 ?k3 ?k4 ?_; (case k1 => k_asm); (case k2 => k_mem); (case k3 => with_reducible assumption); (case k4 => first | with_reducible assumption | (simp only [List.length_map]; with_reducible assumption)))))
local macro_rules | `(tactic| walk_at "call builtin:list.copy") => `(tactic| (
  k_here
  (with_reducible show wpAny _ _ (call (Value.builtin _) [Value.ref _]) _ _ _)
  k_dflt (refine' copy_K ?k1 ?k2 ?k3 ?k4 ?k5 ?_; (case k1 => k_asm); (case k2 => k_asm); (case k3 => k_mem); (case k4 => with_reducible assumption); (case k5 => with_reducible assumption))
  intro D' h' F' N' l1
  k_lt l1
  (try k_sweep)))
local macro_rules | `(tactic| walk_at "binaryOp Mult int int") => `(tactic| (
  (refine PyProof.Rows.mul_int ?_ (mul_ok (by with_reducible assumption) (by with_reducible assumption)))))
theorem if_0 : IfC 5 := by
  clear if_0
  unfold IfC
  k_fill
  intro w p loose mean mg mb h₀ L fa cd m0 q s Q E X GL T K0 F N hq hret
  obtain ⟨z1, e1, l1, z2, e2, l2, x, dx, a1, a2, D, t1, t2, t3, t4, t5, t6, t7, t8, t9, ta, tb, n1, n2, n3, n4, u1, u2, v1, v2, k1, k2, nb, tn, o1, o2, o3⟩ := q
  obtain ⟨b0, b1, b2, b3, b4, b5, b6, b7, b8, b9, i1, i2, i3, i4, s1, s2, m1, m2, r0, r1, d1, d2, d3⟩ := hq
  dsimp only [lawM, Led, polyD, ringD] at *
  conv in lawBody.getD _ _ => whnf
  conv in (occs := *) lawScope => all_goals whnf
  w_top on
  w_on
  k_steps
  · refine hret _ _ (by assumption) (news_sub (by assumption) ?_)
    lcg_sub
  · refine absurd (Eq.trans (by assumption) (zip_range s1 s2)) (by assumption)
end Mine
end
section
open Lean Elab Tactic Meta PySem PySem.W PyProof.Rows PySem.Spec PySem.Calls
set_option maxRecDepth 100000
set_option maxHeartbeats 8000000
namespace Mine
local macro_rules | `(tactic| walk_at "mine pad x") => `(tactic| fail)
local macro_rules | `(tactic| walk_at "exec Assign cons ListComp") => `(tactic| (
  k_here
  (with_reducible show wpAny _ _ (exec (Stmt.Assign [PySem.Expr.Name _ _] (PySem.Expr.ListComp _ [⟨PySem.Expr.Tuple [PySem.Expr.Name _ _, PySem.Expr.Name _ _] _ _, PySem.Expr.Call _ _ _ _, [], 0⟩] _ _) _) _) _ _ _)
  k_dflt (refine zc_Assign (by k_asm) (by rfl) (by with_unfolding_all rfl) (by with_unfolding_all rfl) (by decide) (by rfl) (by decide) (by rfl) (by rfl) (by decide) (by rfl) (by rfl) ?_)))
local macro_rules | `(tactic| walk_at "call type:zip") => `(tactic| (
  k_here
  (with_reducible show wpAny _ _ (call (Value.type _) [Value.ref _, Value.ref _]) _ _ _)
  k_dflt (refine' zc_zip (fun x y => (x - y).fmod 3329) ?k1 ?k2 ?k3 ?k4 ?k5 ?k6 ?k7 ?k8 ?k9 ?_ ?_; (case k1 => rfl); (case k2 => k_asm); (case k3 => k_asm); (case k4 => k_mem); (case k5 => k_mem); (case k6 => with_reducible assumption); (case k7 => with_reducible assumption); (case k8 => omega); (case k9 => (rw [PySem.sizeLine_eq]; omega)))
  focus (
    intro hp' I' lI'
    unfold ZcTurn
    intro k' k2' t' t2' oz' o1' o2' o3' o4' C' D' oC' m' ys' h' tk' E' hk' hk2' hC' hx' hy' F' N' off'
    (try dsimp only)
    (try k_fold))
  rotate_left
  focus (
    intro D' h' tk' ys' ks' F' N' l1' hI' hks' hkl'
    k_lt l1'
    (try dsimp only))
  rotate_left))
local macro_rules | `(tactic| walk_at "getMethod ref") => `(tactic| (k_here; k_dflt (refine' kmu_own ?k1 ?k2 ?k3 ?k4 ?k5 ?_; (case k1 => k_asm); (case k2 => k_asm); (case k3 => k_inst); (case k4 => k_is); (case k5 => k_is); k_whole)))
local macro_rules | `(tactic| walk_at "KCfEl") => `(tactic| exact kcf_el rfl rfl rfl)
local macro_rules | `(tactic| walk_at "CompSrc") => `(tactic| (
  k_here
  k_dflt (first
    | (refine LCg.CompSrc.range (by rfl) (by k_asm) (by k_asm) (by assumption) (by decide) (by first | exact rangeSize_nat _ _ | rfl) (by exact Nat.le_of_ble_eq_true rfl) ?_; intro g'; (refine' kcf_range _ (fun k' t' I' oI' C' oC' D' m' ys' h' tk' E' hlo' hhi' hC' hx' F' N' off' ne' hMark' => ?_) ?_); rotate_left; clear ne'; (try k_fold))
    | (refine LCg.CompSrc.ledger (by rfl) (by k_asm) (by k_asm) (by k_mem) (by kcf_size) ?_; intro g'; (refine' kcf_list _ (by with_reducible assumption) (fun k' t' I' oI' C' oC' D' m' ys' h' tk' E' hk' hC' hx' F' N' off' ne' hMark' => ?_) ?_); rotate_left; clear ne'; (try k_fold)))))
local macro_rules | `(tactic| walk_at "call builtin:len") => `(tactic| (
  k_here
  (with_reducible show wpAny _ _ (call (Value.builtin _) [Value.ref _]) _ _ _)
  k_dflt (refine' len_256 ?k1 ?k2 ?k3 ?k4 ?_; (case k1 => k_asm); (case k2 => k_mem); (case k3 => with_reducible assumption); (case k4 => first | with_reducible assumption | (simp only [List.length_map]; with_reducible assumption)))))
local macro_rules | `(tactic| walk_at "call builtin:list.copy") => `(tactic| (
  k_here
  (with_reducible show wpAny _ _ (call (Value.builtin _) [Value.ref _]) _ _ _)
  k_dflt (refine' copy_K ?k1 ?k2 ?k3 ?k4 ?k5 ?_; (case k1 => k_asm); (case k2 => k_asm); (case k3 => k_mem); (case k4 => with_reducible assumption); (case k5 => with_reducible assumption))
  intro D' h' F' N' l1
  k_lt l1
  (try k_sweep)))
local macro_rules | `(tactic| walk_at "binaryOp Mult int int") => `(tactic| (
  (refine PyProof.Rows.mul_int ?_ (mul_ok (by with_reducible assumption) (by with_reducible assumption)))))
theorem if_1 : IfC 6 := by
  clear if_1
  unfold IfC
  k_fill
  intro w p loose mean mg mb h₀ L fa cd m0 q s Q E X GL T K0 F N hq hret
  obtain ⟨z1, e1, l1, z2, e2, l2, x, dx, a1, a2, D, t1, t2, t3, t4, t5, t6, t7, t8, t9, ta, tb, n1, n2, n3, n4, u1, u2, v1, v2, k1, k2, nb, tn, o1, o2, o3⟩ := q
  obtain ⟨b0, b1, b2, b3, b4, b5, b6, b7, b8, b9, i1, i2, i3, i4, s1, s2, m1, m2, r0, r1, d1, d2, d3⟩ := hq
  dsimp only [lawM, Led, polyD, ringD] at *
  conv in lawBody.getD _ _ => whnf
  conv in (occs := *) lawScope => all_goals whnf
  w_top on
  w_on
  k_steps
  · refine hret _ _ (by assumption) (news_sub (by assumption) ?_)
    lcg_sub
  · refine absurd (Eq.trans (by assumption) (zip_range s1 s2)) (by assumption)
end Mine
end
section
open Lean Elab Tactic Meta PySem PySem.W PyProof.Rows PySem.Spec PySem.Calls
set_option maxRecDepth 100000
set_option maxHeartbeats 8000000
namespace Mine
local macro_rules | `(tactic| walk_at "mine pad x") => `(tactic| fail)
local macro_rules | `(tactic| walk_at "mine pad xx") => `(tactic| fail)
local macro_rules | `(tactic| walk_at "exec Assign cons ListComp") => `(tactic| (
  k_here
  (with_reducible show wpAny _ _ (exec (Stmt.Assign [PySem.Expr.Name _ _] (PySem.Expr.ListComp _ [⟨PySem.Expr.Tuple [PySem.Expr.Name _ _, PySem.Expr.Name _ _] _ _, PySem.Expr.Call _ _ _ _, [], 0⟩] _ _) _) _) _ _ _)
  k_dflt (refine zc_Assign (by k_asm) (by rfl) (by with_unfolding_all rfl) (by with_unfolding_all rfl) (by decide) (by rfl) (by decide) (by rfl) (by rfl) (by decide) (by rfl) (by rfl) ?_)))
local macro_rules | `(tactic| walk_at "call type:zip") => `(tactic| (
  k_here
  (with_reducible show wpAny _ _ (call (Value.type _) [Value.ref _, Value.ref _]) _ _ _)
  k_dflt (refine' zc_zip (fun x y => (x + y).fmod 3329) ?k1 ?k2 ?k3 ?k4 ?k5 ?k6 ?k7 ?k8 ?k9 ?_ ?_; (case k1 => rfl); (case k2 => k_asm); (case k3 => k_asm); (case k4 => k_mem); (case k5 => k_mem); (case k6 => with_reducible assumption); (case k7 => with_reducible assumption); (case k8 => omega); (case k9 => (rw [PySem.sizeLine_eq]; omega)))
  focus (
    intro hp' I' lI'
    unfold ZcTurn
    intro k' k2' t' t2' oz' o1' o2' o3' o4' C' D' oC' m' ys' h' tk' E' hk' hk2' hC' hx' hy' F' N' off'
    (try dsimp only)
    (try k_fold))
  rotate_left
  focus (
    intro D' h' tk' ys' ks' F' N' l1' hI' hks' hkl'
    k_lt l1'
    (try dsimp only))
  rotate_left))
local macro_rules | `(tactic| walk_at "getMethod ref") => `(tactic| (k_here; k_dflt (refine' kmu_own ?k1 ?k2 ?k3 ?k4 ?k5 ?_; (case k1 => k_asm); (case k2 => k_asm); (case k3 => k_inst); (case k4 => k_is); (case k5 => k_is); k_whole)))
local macro_rules | `(tactic| walk_at "KCfEl") => `(tactic| exact kcf_el rfl rfl rfl)
local macro_rules | `(tactic| walk_at "CompSrc") => `(tactic| (
  k_here
  k_dflt (first
    | (refine LCg.CompSrc.range (by rfl) (by k_asm) (by k_asm) (by assumption) (by decide) (by first | exact rangeSize_nat _ _ | rfl) (by exact Nat.le_of_ble_eq_true rfl) ?_; intro g'; (refine' kcf_range _ (fun k' t' I' oI' C' oC' D' m' ys' h' tk' E' hlo' hhi' hC' hx' F' N' off' ne' hMark' => ?_) ?_); rotate_left; clear ne'; (try k_fold))
    | (refine LCg.CompSrc.ledger (by rfl) (by k_asm) (by k_asm) (by k_mem) (by kcf_size) ?_; intro g'; (refine' kcf_list _ (by with_reducible assumption) (fun k' t' I' oI' C' oC' D' m' ys' h' tk' E' hk' hC' hx' F' N' off' ne' hMark' => ?_) ?_); rotate_left; clear ne'; (try k_fold)))))
local macro_rules | `(tactic| walk_at "call builtin:len") => `(tactic| (
  k_here
  (with_reducible show wpAny _ _ (call (Value.builtin _) [Value.ref _]) _ _ _)
  k_dflt (refine' len_256 ?k1 ?k2 ?k3 ?k4 ?_; (case k1 => k_asm); (case k2 => k_mem); (case k3 => with_reducible assumption); (case k4 => first | with_reducible assumption | (simp only [List.length_map]; with_reducible assumption)))))
local macro_rules | `(tactic| walk_at "call builtin:list.copy") => `(tactic| (
  k_here
  (with_reducible show wpAny _ _ (call (Value.builtin _) [Value.ref _]) _ _ _)
  k_dflt (refine' copy_K ?k1 ?k2 ?k3 ?k4 ?k5 ?_; (case k1 => k_asm); (case k2 => k_asm); (case k3 => k_mem); (case k4 => with_reducible assumption); (case k5 => with_reducible assumption))
  intro D' h' F' N' l1
  k_lt l1
  (try k_sweep)))
local macro_rules | `(tactic| walk_at "binaryOp Mult int int") => `(tactic| (
  (refine PyProof.Rows.mul_int ?_ (mul_ok (by with_reducible assumption) (by with_reducible assumption)))))
theorem if_2 : IfC 7 := by
  clear if_2
  unfold IfC
  k_fill
  intro w p loose mean mg mb h₀ L fa cd m0 q s Q E X GL T K0 F N hq hret
  obtain ⟨z1, e1, l1, z2, e2, l2, x, dx, a1, a2, D, t1, t2, t3, t4, t5, t6, t7, t8, t9, ta, tb, n1, n2, n3, n4, u1, u2, v1, v2, k1, k2, nb, tn, o1, o2, o3⟩ := q
  obtain ⟨b0, b1, b2, b3, b4, b5, b6, b7, b8, b9, i1, i2, i3, i4, s1, s2, m1, m2, r0, r1, d1, d2, d3⟩ := hq
  dsimp only [lawM, Led, polyD, ringD] at *
  conv in lawBody.getD _ _ => whnf
  conv in (occs := *) lawScope => all_goals whnf
  w_top on
  w_on
  k_steps
  · refine hret _ _ (by assumption) (news_sub (by assumption) ?_)
    lcg_sub
  · exact absurd neg_eq (by assumption)
end Mine
end
section
open Lean Elab Tactic Meta PySem PySem.W PyProof.Rows PySem.Spec PySem.Calls
set_option maxRecDepth 100000
set_option maxHeartbeats 8000000
namespace Mine
local macro_rules | `(tactic| walk_at "mine pad x") => `(tactic| fail)
local macro_rules | `(tactic| walk_at "mine pad xx") => `(tactic| fail)
local macro_rules | `(tactic| walk_at "mine pad xxx") => `(tactic| fail)
local macro_rules | `(tactic| walk_at "exec Assign cons ListComp") => `(tactic| (
  k_here
  (with_reducible show wpAny _ _ (exec (Stmt.Assign [PySem.Expr.Name _ _] (PySem.Expr.ListComp _ [⟨PySem.Expr.Tuple [PySem.Expr.Name _ _, PySem.Expr.Name _ _] _ _, PySem.Expr.Call _ _ _ _, [], 0⟩] _ _) _) _) _ _ _)
  k_dflt (refine zc_Assign (by k_asm) (by rfl) (by with_unfolding_all rfl) (by with_unfolding_all rfl) (by decide) (by rfl) (by decide) (by rfl) (by rfl) (by decide) (by rfl) (by rfl) ?_)))
local macro_rules | `(tactic| walk_at "call type:zip") => `(tactic| (
  k_here
  (with_reducible show wpAny _ _ (call (Value.type _) [Value.ref _, Value.ref _]) _ _ _)
  k_dflt (refine' zc_zip (fun x y => (x + y).fmod 3329) ?k1 ?k2 ?k3 ?k4 ?k5 ?k6 ?k7 ?k8 ?k9 ?_ ?_; (case k1 => rfl); (case k2 => k_asm); (case k3 => k_asm); (case k4 => k_mem); (case k5 => k_mem); (case k6 => with_reducible assumption); (case k7 => with_reducible assumption); (case k8 => omega); (case k9 => (rw [PySem.sizeLine_eq]; omega)))
  focus (
    intro hp' I' lI'
    unfold ZcTurn
    intro k' k2' t' t2' oz' o1' o2' o3' o4' C' D' oC' m' ys' h' tk' E' hk' hk2' hC' hx' hy' F' N' off'
    (try dsimp only)
    (try k_fold))
  rotate_left
  focus (
    intro D' h' tk' ys' ks' F' N' l1' hI' hks' hkl'
    k_lt l1'
    (try dsimp only))
  rotate_left))
local macro_rules | `(tactic| walk_at "getMethod ref") => `(tactic| (k_here; k_dflt (refine' kmu_own ?k1 ?k2 ?k3 ?k4 ?k5 ?_; (case k1 => k_asm); (case k2 => k_asm); (case k3 => k_inst); (case k4 => k_is); (case k5 => k_is); k_whole)))
local macro_rules | `(tactic| walk_at "KCfEl") => `(tactic| exact kcf_el rfl rfl rfl)
local macro_rules | `(tactic| walk_at "CompSrc") => `(tactic| (
  k_here
  k_dflt (first
    | (refine LCg.CompSrc.range (by rfl) (by k_asm) (by k_asm) (by assumption) (by decide) (by first | exact rangeSize_nat _ _ | rfl) (by exact Nat.le_of_ble_eq_true rfl) ?_; intro g'; (refine' kcf_range _ (fun k' t' I' oI' C' oC' D' m' ys' h' tk' E' hlo' hhi' hC' hx' F' N' off' ne' hMark' => ?_) ?_); rotate_left; clear ne'; (try k_fold))
    | (refine LCg.CompSrc.ledger (by rfl) (by k_asm) (by k_asm) (by k_mem) (by kcf_size) ?_; intro g'; (refine' kcf_list _ (by with_reducible assumption) (fun k' t' I' oI' C' oC' D' m' ys' h' tk' E' hk' hC' hx' F' N' off' ne' hMark' => ?_) ?_); rotate_left; clear ne'; (try k_fold)))))
local macro_rules | `(tactic| walk_at "call builtin:len") => `(tactic| (
  k_here
  (with_reducible show wpAny _ _ (call (Value.builtin _) [Value.ref _]) _ _ _)
  k_dflt (refine' len_256 ?k1 ?k2 ?k3 ?k4 ?_; (case k1 => k_asm); (case k2 => k_mem); (case k3 => with_reducible assumption); (case k4 => first | with_reducible assumption | (simp only [List.length_map]; with_reducible assumption)))))
local macro_rules | `(tactic| walk_at "call builtin:list.copy") => `(tactic| (
  k_here
  (with_reducible show wpAny _ _ (call (Value.builtin _) [Value.ref _]) _ _ _)
  k_dflt (refine' copy_K ?k1 ?k2 ?k3 ?k4 ?k5 ?_; (case k1 => k_asm); (case k2 => k_asm); (case k3 => k_mem); (case k4 => with_reducible assumption); (case k5 => with_reducible assumption))
  intro D' h' F' N' l1
  k_lt l1
  (try k_sweep)))
local macro_rules | `(tactic| walk_at "binaryOp Mult int int") => `(tactic| (
  (refine PyProof.Rows.mul_int ?_ (mul_ok (by with_reducible assumption) (by with_reducible assumption)))))
theorem if_3 : IfC 8 := by
  clear if_3
  unfold IfC
  k_fill
  intro w p loose mean mg mb h₀ L fa cd m0 q s Q E X GL T K0 F N hq hret
  obtain ⟨z1, e1, l1, z2, e2, l2, x, dx, a1, a2, D, t1, t2, t3, t4, t5, t6, t7, t8, t9, ta, tb, n1, n2, n3, n4, u1, u2, v1, v2, k1, k2, nb, tn, o1, o2, o3⟩ := q
  obtain ⟨b0, b1, b2, b3, b4, b5, b6, b7, b8, b9, i1, i2, i3, i4, s1, s2, m1, m2, r0, r1, d1, d2, d3⟩ := hq
  dsimp only [lawM, Led, polyD, ringD] at *
  conv in lawBody.getD _ _ => whnf
  conv in (occs := *) lawScope => all_goals whnf
  w_top on
  w_on
  k_steps
  · refine hret _ _ (by assumption) (news_sub (by assumption) ?_)
    lcg_sub
end Mine
end
section
open Lean Elab Tactic Meta PySem PySem.W PyProof.Rows PySem.Spec PySem.Calls
set_option maxRecDepth 100000
set_option maxHeartbeats 8000000
namespace Mine
local macro_rules | `(tactic| walk_at "mine pad x") => `(tactic| fail)
local macro_rules | `(tactic| walk_at "mine pad xx") => `(tactic| fail)
local macro_rules | `(tactic| walk_at "mine pad xxx") => `(tactic| fail)
local macro_rules | `(tactic| walk_at "mine pad xxxx") => `(tactic| fail)
local macro_rules | `(tactic| walk_at "exec Assign cons ListComp") => `(tactic| (
  k_here
  (with_reducible show wpAny _ _ (exec (Stmt.Assign [PySem.Expr.Name _ _] (PySem.Expr.ListComp _ [⟨PySem.Expr.Tuple [PySem.Expr.Name _ _, PySem.Expr.Name _ _] _ _, PySem.Expr.Call _ _ _ _, [], 0⟩] _ _) _) _) _ _ _)
  k_dflt (refine zc_Assign (by k_asm) (by rfl) (by with_unfolding_all rfl) (by with_unfolding_all rfl) (by decide) (by rfl) (by decide) (by rfl) (by rfl) (by decide) (by rfl) (by rfl) ?_)))
local macro_rules | `(tactic| walk_at "call type:zip") => `(tactic| (
  k_here
  (with_reducible show wpAny _ _ (call (Value.type _) [Value.ref _, Value.ref _]) _ _ _)
  k_dflt (refine' zc_zip (fun x y => (x + y).fmod 3329) ?k1 ?k2 ?k3 ?k4 ?k5 ?k6 ?k7 ?k8 ?k9 ?_ ?_; (case k1 => rfl); (case k2 => k_asm); (case k3 => k_asm); (case k4 => k_mem); (case k5 => k_mem); (case k6 => with_reducible assumption); (case k7 => with_reducible assumption); (case k8 => omega); (case k9 => (rw [PySem.sizeLine_eq]; omega)))
  focus (
    intro hp' I' lI'
    unfold ZcTurn
    intro k' k2' t' t2' oz' o1' o2' o3' o4' C' D' oC' m' ys' h' tk' E' hk' hk2' hC' hx' hy' F' N' off'
    (try dsimp only)
    (try k_fold))
  rotate_left
  focus (
    intro D' h' tk' ys' ks' F' N' l1' hI' hks' hkl'
    k_lt l1'
    (try dsimp only))
  rotate_left))
local macro_rules | `(tactic| walk_at "getMethod ref") => `(tactic| (k_here; k_dflt (refine' kmu_own ?k1 ?k2 ?k3 ?k4 ?k5 ?_; (case k1 => k_asm); (case k2 => k_asm); (case k3 => k_inst); (case k4 => k_is); (case k5 => k_is); k_whole)))
local macro_rules | `(tactic| walk_at "KCfEl") => `(tactic| exact kcf_el rfl rfl rfl)
local macro_rules | `(tactic| walk_at "CompSrc") => `(tactic| (
  k_here
  k_dflt (first
    | (refine LCg.CompSrc.range (by rfl) (by k_asm) (by k_asm) (by assumption) (by decide) (by first | exact rangeSize_nat _ _ | rfl) (by exact Nat.le_of_ble_eq_true rfl) ?_; intro g'; (refine' kcf_range _ (fun k' t' I' oI' C' oC' D' m' ys' h' tk' E' hlo' hhi' hC' hx' F' N' off' ne' hMark' => ?_) ?_); rotate_left; clear ne'; (try k_fold))
    | (refine LCg.CompSrc.ledger (by rfl) (by k_asm) (by k_asm) (by k_mem) (by kcf_size) ?_; intro g'; (refine' kcf_list _ (by with_reducible assumption) (fun k' t' I' oI' C' oC' D' m' ys' h' tk' E' hk' hC' hx' F' N' off' ne' hMark' => ?_) ?_); rotate_left; clear ne'; (try k_fold)))))
local macro_rules | `(tactic| walk_at "call builtin:len") => `(tactic| (
  k_here
  (with_reducible show wpAny _ _ (call (Value.builtin _) [Value.ref _]) _ _ _)
  k_dflt (refine' len_256 ?k1 ?k2 ?k3 ?k4 ?_; (case k1 => k_asm); (case k2 => k_mem); (case k3 => with_reducible assumption); (case k4 => first | with_reducible assumption | (simp only [List.length_map]; with_reducible assumption)))))
local macro_rules | `(tactic| walk_at "call builtin:list.copy") => `(tactic| (
  k_here
  (with_reducible show wpAny _ _ (call (Value.builtin _) [Value.ref _]) _ _ _)
  k_dflt (refine' copy_K ?k1 ?k2 ?k3 ?k4 ?k5 ?_; (case k1 => k_asm); (case k2 => k_asm); (case k3 => k_mem); (case k4 => with_reducible assumption); (case k5 => with_reducible assumption))
  intro D' h' F' N' l1
  k_lt l1
  (try k_sweep)))
local macro_rules | `(tactic| walk_at "binaryOp Mult int int") => `(tactic| (
  (refine PyProof.Rows.mul_int ?_ (mul_ok (by with_reducible assumption) (by with_reducible assumption)))))
theorem if_4 : IfC 9 := by
  clear if_4
  unfold IfC
  k_fill
  intro w p loose mean mg mb h₀ L fa cd m0 q s Q E X GL T K0 F N hq hret
  obtain ⟨z1, e1, l1, z2, e2, l2, x, dx, a1, a2, D, t1, t2, t3, t4, t5, t6, t7, t8, t9, ta, tb, n1, n2, n3, n4, u1, u2, v1, v2, k1, k2, nb, tn, o1, o2, o3⟩ := q
  obtain ⟨b0, b1, b2, b3, b4, b5, b6, b7, b8, b9, i1, i2, i3, i4, s1, s2, m1, m2, r0, r1, d1, d2, d3⟩ := hq
  dsimp only [lawM, Led, polyD, ringD] at *
  conv in lawBody.getD _ _ => whnf
  conv in (occs := *) lawScope => all_goals whnf
  w_top on
  w_on
  k_steps
  · refine hret _ _ (by assumption) (news_sub (by assumption) ?_)
    lcg_sub
  · exact absurd (set_eq s1) (by assumption)
end Mine
end
section
open Lean Elab Tactic Meta PySem PySem.W PyProof.Rows PySem.Spec PySem.Calls
set_option maxRecDepth 100000
set_option maxHeartbeats 8000000
namespace Mine
local macro_rules | `(tactic| walk_at "mine pad x") => `(tactic| fail)
local macro_rules | `(tactic| walk_at "mine pad xx") => `(tactic| fail)
local macro_rules | `(tactic| walk_at "mine pad xxx") => `(tactic| fail)
local macro_rules | `(tactic| walk_at "mine pad xxxx") => `(tactic| fail)
local macro_rules | `(tactic| walk_at "exec Assign cons ListComp") => `(tactic| (
  k_here
  (with_reducible show wpAny _ _ (exec (Stmt.Assign [PySem.Expr.Name _ _] (PySem.Expr.ListComp _ [⟨PySem.Expr.Tuple [PySem.Expr.Name _ _, PySem.Expr.Name _ _] _ _, PySem.Expr.Call _ _ _ _, [], 0⟩] _ _) _) _) _ _ _)
  k_dflt (refine zc_Assign (by k_asm) (by rfl) (by with_unfolding_all rfl) (by with_unfolding_all rfl) (by decide) (by rfl) (by decide) (by rfl) (by rfl) (by decide) (by rfl) (by rfl) ?_)))
local macro_rules | `(tactic| walk_at "call type:zip") => `(tactic| (
  k_here
  (with_reducible show wpAny _ _ (call (Value.type _) [Value.ref _, Value.ref _]) _ _ _)
  k_dflt (refine' zc_zip (fun x y => (x + y).fmod 3329) ?k1 ?k2 ?k3 ?k4 ?k5 ?k6 ?k7 ?k8 ?k9 ?_ ?_; (case k1 => rfl); (case k2 => k_asm); (case k3 => k_asm); (case k4 => k_mem); (case k5 => k_mem); (case k6 => with_reducible assumption); (case k7 => with_reducible assumption); (case k8 => omega); (case k9 => (rw [PySem.sizeLine_eq]; omega)))
  focus (
    intro hp' I' lI'
    unfold ZcTurn
    intro k' k2' t' t2' oz' o1' o2' o3' o4' C' D' oC' m' ys' h' tk' E' hk' hk2' hC' hx' hy' F' N' off'
    (try dsimp only)
    (try k_fold))
  rotate_left
  focus (
    intro D' h' tk' ys' ks' F' N' l1' hI' hks' hkl'
    k_lt l1'
    (try dsimp only))
  rotate_left))
local macro_rules | `(tactic| walk_at "getMethod ref") => `(tactic| (k_here; k_dflt (refine' kmu_own ?k1 ?k2 ?k3 ?k4 ?k5 ?_; (case k1 => k_asm); (case k2 => k_asm); (case k3 => k_inst); (case k4 => k_is); (case k5 => k_is); k_whole)))
local macro_rules | `(tactic| walk_at "KCfEl") => `(tactic| exact kcf_el rfl rfl rfl)
local macro_rules | `(tactic| walk_at "CompSrc") => `(tactic| (
  k_here
  k_dflt (first
    | (refine LCg.CompSrc.range (by rfl) (by k_asm) (by k_asm) (by assumption) (by decide) (by first | exact rangeSize_nat _ _ | rfl) (by exact Nat.le_of_ble_eq_true rfl) ?_; intro g'; (refine' kcf_range _ (fun k' t' I' oI' C' oC' D' m' ys' h' tk' E' hlo' hhi' hC' hx' F' N' off' ne' hMark' => ?_) ?_); rotate_left; clear ne'; (try k_fold))
    | (refine LCg.CompSrc.ledger (by rfl) (by k_asm) (by k_asm) (by k_mem) (by kcf_size) ?_; intro g'; (refine' kcf_list _ (by with_reducible assumption) (fun k' t' I' oI' C' oC' D' m' ys' h' tk' E' hk' hC' hx' F' N' off' ne' hMark' => ?_) ?_); rotate_left; clear ne'; (try k_fold)))))
local macro_rules | `(tactic| walk_at "call builtin:len") => `(tactic| (
  k_here
  (with_reducible show wpAny _ _ (call (Value.builtin _) [Value.ref _]) _ _ _)
  k_dflt (refine' len_256 ?k1 ?k2 ?k3 ?k4 ?_; (case k1 => k_asm); (case k2 => k_mem); (case k3 => with_reducible assumption); (case k4 => first | with_reducible assumption | (simp only [List.length_map]; with_reducible assumption)))))
local macro_rules | `(tactic| walk_at "call builtin:list.copy") => `(tactic| (
  k_here
  (with_reducible show wpAny _ _ (call (Value.builtin _) [Value.ref _]) _ _ _)
  k_dflt (refine' copy_K ?k1 ?k2 ?k3 ?k4 ?k5 ?_; (case k1 => k_asm); (case k2 => k_asm); (case k3 => k_mem); (case k4 => with_reducible assumption); (case k5 => with_reducible assumption))
  intro D' h' F' N' l1
  k_lt l1
  (try k_sweep)))
local macro_rules | `(tactic| walk_at "binaryOp Mult int int") => `(tactic| (
  (refine PyProof.Rows.mul_int ?_ (mul_ok (by with_reducible assumption) (by with_reducible assumption)))))
local macro_rules | `(tactic| walk_at "exec Assign cons ListComp") => `(tactic| walk_at "exec Assign")
theorem tail_c : TailC := by
  clear tail_c
  unfold TailC
  k_fill
  intro w p loose mean mg mb h₀ L fa cd m0 q s Q E X GL T K0 F N hq hret
  obtain ⟨z1, e1, l1, z2, e2, l2, x, dx, a1, a2, D, t1, t2, t3, t4, t5, t6, t7, t8, t9, ta, tb, n1, n2, n3, n4, u1, u2, v1, v2, k1, k2, nb, tn, o1, o2, o3⟩ := q
  obtain ⟨b0, b1, b2, b3, b4, b5, b6, b7, b8, b9, i1, i2, i3, i4, s1, s2, m1, m2, r0, r1, d1, d2, d3⟩ := hq
  dsimp only [lawM, Led, polyD, ringD] at *
  conv in lawBody.drop _ => whnf
  conv in (occs := *) lawScope => all_goals whnf
  w_top on
  w_on
  k_steps
  · exact hret _ _ _ (by assumption)
end Mine
end
section
open Lean Elab Tactic Meta PySem PySem.W PyProof.Rows PySem.Spec PySem.Calls
set_option maxRecDepth 100000
set_option maxHeartbeats 8000000
namespace Mine
def EndC : Prop :=
  ∀ (w : World) (p : Program) (loose : List PySem.Str) (mean : ExcName → Option Value) (mg mb : PySem.Str → Option Value) (h₀ : Heap) (L fa cd : Addr) (m0 : PySem.Str → Option Value) (q : LP) (s : Shared) (Q : Flow → Shared → Prop) (E : Value → Shared → Prop),
    (hd.heap_39 w.params).In h₀ → Glob 0 mg mb (List.map itemOf (recsOf V)) (scalarsOf [] ++ constsW V) [] (namesW V [Str.ofString "PolynomialRing", Str.ofString "PolynomialNTT"]) h₀ → Top p loose mean mg mb h₀ →
    Below callerA h₀ [] h₀ → Fr h₀ L s.heap (lawM m0 q) → News h₀ L s.heap (Led w L q) → LOk L q →
    (∀ h' tk' m', Fr h₀ L h' m' → Q (.ret (.bool true)) { s with heap := h', toks := tk' }) →
    wpAny (model PySem.Challenge.rw_yi0045_01.row.toRowW.prog w) (callerA.deeper (envOfC "law" lawScope L fa (.ref cd))) (execs (lawBody.drop 5) (envOfC "law" lawScope L fa (.ref cd))) Q E s
theorem drop_at {α : Type} {l : List α} {d : α} {k : Nat} (h : k < l.length) : l.drop k = l.getD k d :: l.drop (k + 1) := by
  rw [List.drop_eq_getElem_cons h, List.getD_eq_getElem?_getD, List.getElem?_eq_getElem h]
  rfl
theorem law_len : lawBody.length = 12 := by decide +kernel
theorem law_drop {k : Nat} (h : k < 12) : lawBody.drop k = lawBody.getD k (.Pass ⟨0, 0, 0, 0⟩) :: lawBody.drop (k + 1) := drop_at (law_len ▸ h)
theorem end_c : EndC := by
  intro w p loose mean mg mb h₀ L fa cd m0 q s Q E X GL T K0 F N hq hret
  rw [law_drop (k := 5) (by decide)]
  refine wpAny_execs_cons (if_0 w p loose mean mg mb h₀ L fa cd m0 q s _ E X GL T K0 F N hq fun h1 k1 F1 N1 => ?_)
  dsimp only
  rw [law_drop (k := 6) (by decide)]
  refine wpAny_execs_cons (if_1 w p loose mean mg mb h₀ L fa cd m0 q _ _ E X GL T K0 F1 N1 hq fun h2 k2 F2 N2 => ?_)
  dsimp only
  rw [law_drop (k := 7) (by decide)]
  refine wpAny_execs_cons (if_2 w p loose mean mg mb h₀ L fa cd m0 q _ _ E X GL T K0 F2 N2 hq fun h3 k3 F3 N3 => ?_)
  dsimp only
  rw [law_drop (k := 8) (by decide)]
  refine wpAny_execs_cons (if_3 w p loose mean mg mb h₀ L fa cd m0 q _ _ E X GL T K0 F3 N3 hq fun h4 k4 F4 N4 => ?_)
  dsimp only
  rw [law_drop (k := 9) (by decide)]
  refine wpAny_execs_cons (if_4 w p loose mean mg mb h₀ L fa cd m0 q _ _ E X GL T K0 F4 N4 hq fun h5 k5 F5 N5 => ?_)
  dsimp only
  exact tail_c w p loose mean mg mb h₀ L fa cd m0 q _ _ E X GL T K0 F5 N5 hq fun h' tk' m' F' => hret h' tk' m' F'
end Mine
end
section
open Lean Elab Tactic Meta PySem PySem.W PyProof.Rows PySem.Spec PySem.Calls
set_option maxRecDepth 100000
set_option maxHeartbeats 8000000
namespace Mine
local macro_rules | `(tactic| walk_at "mine pad x") => `(tactic| fail)
local macro_rules | `(tactic| walk_at "mine pad xx") => `(tactic| fail)
local macro_rules | `(tactic| walk_at "mine pad xxx") => `(tactic| fail)
local macro_rules | `(tactic| walk_at "mine pad xxxx") => `(tactic| fail)
local macro_rules | `(tactic| walk_at "mine pad xxxxx") => `(tactic| fail)
local macro_rules | `(tactic| walk_at "mine pad xxxxxx") => `(tactic| fail)
local macro_rules | `(tactic| walk_at "call builtin:pow") => `(tactic| (with_reducible first | refine call_inv ?_ | refine call_pw (bv_lo _) ?_))
local macro_rules | `(tactic| walk_at "call builtin:bin") => `(tactic| ((with_reducible refine call_bT (by assumption) (Int.lt_of_lt_of_le (by assumption) (by decide)) ?_); intro x' hx' b3' b4' b1' b2'))
local macro_rules | `(tactic| walk_at "subscriptTail Name Slice str ref") => `(tactic| (
  (with_reducible show wpAny _ _ (subscriptTail _ (PySem.Expr.Slice none none (some _) _) _ _) _ _ _)
  (with_reducible rename Fr _ _ _ _ => F')
  (with_reducible rename News _ _ _ _ => N')
  (refine slice_strK_nn (hsz := rT_size (by with_reducible assumption) (by with_reducible assumption) (by with_reducible assumption)) (s := ⟨_, _, _, _, _⟩) F' N' (by decide) ?_)
  intro _ _ _ _ _))
local macro_rules | `(tactic| walk_at "call type:int") => `(tactic| (
  (with_reducible show wpAny _ _ (call (Value.type "int") [Value.str _ _, Value.int 2 _]) _ _ _)
  (refine call_rT (by with_reducible assumption) (by with_reducible assumption) (by with_reducible assumption) ?_)))
local macro_rules | `(tactic| walk_at "KCfEl") => `(tactic| exact kcf_el rfl rfl rfl)
local macro_rules | `(tactic| walk_at "CompSrc") => `(tactic| (
  k_here
  k_dflt (first
    | (refine LCg.CompSrc.range (by rfl) (by k_asm) (by k_asm) (by assumption) (by decide) (by first | exact rangeSize_nat _ _ | rfl) (by exact Nat.le_of_ble_eq_true rfl) ?_; intro g'; (refine' kcf_range _ (fun k' t' I' oI' C' oC' D' m' ys' h' tk' E' hlo' hhi' hC' hx' F' N' off' ne' hMark' => ?_) ?_); rotate_left; clear ne'; (try k_fold))
    | (refine LCg.CompSrc.ledger (by rfl) (by k_asm) (by k_asm) (by k_mem) (by kcf_size) ?_; intro g'; (refine' kcf_list _ (by with_reducible assumption) (fun k' t' I' oI' C' oC' D' m' ys' h' tk' E' hk' hC' hx' F' N' off' ne' hMark' => ?_) ?_); rotate_left; clear ne'; (try k_fold)))))
local macro_rules | `(tactic| walk_at "getMethod ref") => `(tactic| walk_at "last getMethod ref")
local macro_rules | `(tactic| walk_at "exec Assign cons ListComp") => `(tactic| walk_at "exec Assign")
theorem ring_c : RingC := by
  clear ring_c
  unfold RingC
  k_fill
  intro w p loose mean mg mb h₀ L fa cd m0 st c os oc o1 o2 o3 s Q E X GL T K0 F N b0 b1 hret
  conv in lawBody.getD _ _ => whnf
  conv in (occs := *) lawScope => all_goals whnf
  w_top on
  w_on
  k_steps
  refine' hret _ _ _ _ _ _ _ _ _ _ _ _ ?F (news_sub ?N ?S) ?A ?B
  (case F => assumption)
  (case N => assumption)
  (case S => lcg_sub)
  (case A => omega)
  (case B => omega)
end Mine
end
section
open Lean Elab Tactic Meta PySem PySem.W PyProof.Rows PySem.Spec PySem.Calls
set_option maxRecDepth 100000
set_option maxHeartbeats 8000000
namespace Mine
local macro_rules | `(tactic| walk_at "call ref") => `(tactic| (
  k_here
  (with_reducible show wpAny _ _ (call (Value.ref 438) [Value.ref _, Value.int _ _]) _ _ _)
  k_dflt (refine' take_use ?k1 ?k2 ?k3 ?k4 ?k5 ?k6 ?q1 ?q2 ?kI ?kn0 ?kn ?ki0 ?ki1 ?kp ?km0 ?km1 ?kne ?kr1 ?kr2 ?kd ?ku ?_; (case k1 => k_asm); (case k2 => k_asm); (case k3 => k_asm); (case k4 => k_asm); (case k5 => k_asm); (case k6 => first | exact rfl | assumption); (case q1 => first | exact Pick.head | exact Pick.tail Pick.head | exact Pick.tail (Pick.tail Pick.head) | exact Pick.tail (Pick.tail (Pick.tail Pick.head)) | exact Pick.tail (Pick.tail (Pick.tail (Pick.tail Pick.head))) | exact Pick.tail (Pick.tail (Pick.tail (Pick.tail (Pick.tail Pick.head)))) | exact Pick.tail (Pick.tail (Pick.tail (Pick.tail (Pick.tail (Pick.tail Pick.head))))) | exact Pick.tail (Pick.tail (Pick.tail (Pick.tail (Pick.tail (Pick.tail (Pick.tail Pick.head)))))) | exact Pick.tail (Pick.tail (Pick.tail (Pick.tail (Pick.tail (Pick.tail (Pick.tail (Pick.tail Pick.head))))))) | exact Pick.tail (Pick.tail (Pick.tail (Pick.tail (Pick.tail (Pick.tail (Pick.tail (Pick.tail (Pick.tail Pick.head)))))))) | exact Pick.tail (Pick.tail (Pick.tail (Pick.tail (Pick.tail (Pick.tail (Pick.tail (Pick.tail (Pick.tail (Pick.tail Pick.head))))))))) | exact Pick.tail (Pick.tail (Pick.tail (Pick.tail (Pick.tail (Pick.tail (Pick.tail (Pick.tail (Pick.tail (Pick.tail (Pick.tail Pick.head)))))))))) | exact Pick.tail (Pick.tail (Pick.tail (Pick.tail (Pick.tail (Pick.tail (Pick.tail (Pick.tail (Pick.tail (Pick.tail (Pick.tail (Pick.tail Pick.head))))))))))) | exact Pick.tail (Pick.tail (Pick.tail (Pick.tail (Pick.tail (Pick.tail (Pick.tail (Pick.tail (Pick.tail (Pick.tail (Pick.tail (Pick.tail (Pick.tail Pick.head))))))))))))); (case q2 => first | exact Pick.head | exact Pick.tail Pick.head | exact Pick.tail (Pick.tail Pick.head) | exact Pick.tail (Pick.tail (Pick.tail Pick.head)) | exact Pick.tail (Pick.tail (Pick.tail (Pick.tail Pick.head))) | exact Pick.tail (Pick.tail (Pick.tail (Pick.tail (Pick.tail Pick.head)))) | exact Pick.tail (Pick.tail (Pick.tail (Pick.tail (Pick.tail (Pick.tail Pick.head))))) | exact Pick.tail (Pick.tail (Pick.tail (Pick.tail (Pick.tail (Pick.tail (Pick.tail Pick.head)))))) | exact Pick.tail (Pick.tail (Pick.tail (Pick.tail (Pick.tail (Pick.tail (Pick.tail (Pick.tail Pick.head))))))) | exact Pick.tail (Pick.tail (Pick.tail (Pick.tail (Pick.tail (Pick.tail (Pick.tail (Pick.tail (Pick.tail Pick.head)))))))) | exact Pick.tail (Pick.tail (Pick.tail (Pick.tail (Pick.tail (Pick.tail (Pick.tail (Pick.tail (Pick.tail (Pick.tail Pick.head))))))))) | exact Pick.tail (Pick.tail (Pick.tail (Pick.tail (Pick.tail (Pick.tail (Pick.tail (Pick.tail (Pick.tail (Pick.tail (Pick.tail Pick.head)))))))))) | exact Pick.tail (Pick.tail (Pick.tail (Pick.tail (Pick.tail (Pick.tail (Pick.tail (Pick.tail (Pick.tail (Pick.tail (Pick.tail (Pick.tail Pick.head))))))))))) | exact Pick.tail (Pick.tail (Pick.tail (Pick.tail (Pick.tail (Pick.tail (Pick.tail (Pick.tail (Pick.tail (Pick.tail (Pick.tail (Pick.tail (Pick.tail Pick.head))))))))))))); (case kI => with_reducible assumption); (case kn0 => with_reducible assumption); (case kn => with_reducible assumption); (case ki0 => first | with_reducible assumption | decide); (case ki1 => omega); (case kp => with_reducible assumption); (case km0 => decide); (case km1 => decide); (case kne => k_ne); (case kr1 => k_all); (case kr2 => k_all); (case kd => ktr_room); (case ku => ktr_units); k_whole)
  intro r' t' i' ti' vs' ns' h' tk' F' N' hI' hr0' hr1' hi0' hi1' hl0' hl1' hp'
  (try k_sweep)
  (try dsimp only)))
local macro_rules | `(tactic| walk_at "binaryOp Add ref ref") => `(tactic| (
  k_here
  (with_reducible show wpAny _ _ (binaryOp _ (Value.ref _) (Value.ref _)) _ _ _)
  k_dflt (refine' full_add ?k1 ?k2 ?k3 ?k4 ?k5 ?k6 ?k7 ?k8 ?_; (case k1 => k_asm); (case k2 => k_asm); (case k3 => k_mem); (case k4 => k_asm); (case k5 => with_reducible assumption); (case k6 => rfl); (case k7 => omega); (case k8 => omega); k_whole)
  intro o' us' ks' h' F' N' l1 hI' hl' hb'
  (try (with_reducible rename NewPlain _ _ _ _ => npX; clear npX))
  (try (with_reducible rename CarriedAll _ _ => cX; clear cX))
  k_lt l1
  (try k_sweep)))
theorem rows_c : RowsC := by
  clear rows_c
  unfold RowsC
  k_fill
  intro w p loose mean mg mb h₀ L fa cd m0 x dx st c ox odx o1 o2 o3 ti n1 n2 vs ns s Q E X GL T K0 F N b0 b1 b2 b3 c3 c2 c1 d1 d2 d3 hI hl0 hl1 hp hret
  conv in lawBody.getD _ _ => whnf
  conv in (occs := *) lawScope => all_goals whnf
  w_top on
  w_on
  k_steps
  refine' hret _ _ _ _ _ _ _ _ _ _ _ _ _ _ _ _ ?zzF (news_sub ?zzN (List.forall_mem_cons.mpr ⟨?zzq1, List.forall_mem_cons.mpr ⟨?zzq2, List.forall_mem_cons.mpr ⟨?zzq3, List.forall_mem_cons.mpr ⟨?zzq4, List.forall_mem_cons.mpr ⟨?zzq5, List.forall_mem_cons.mpr ⟨?zzq6, List.forall_mem_cons.mpr ⟨?zzq7, List.forall_mem_cons.mpr ⟨?zzq8, List.forall_mem_cons.mpr ⟨?zzq9, List.forall_mem_nil _⟩⟩⟩⟩⟩⟩⟩⟩⟩)) ?zzA ?zzB ?zzC ?zzD ?zzE1 ?zzE2 ?zzE3 ?zzG1 ?zzG2 ?zzH1 ?zzH2 ?zzJ0 ?zzJ1 ?zzK0 ?zzK1 ?zzM
  (case zzF => assumption)
  (case zzN => assumption)
  (case zzq9 => k_mem)
  (case zzC => assumption)
  (case zzq8 => k_mem)
  (case zzD => assumption)
  (case zzq1 => k_mem)
  (case zzq2 => k_mem)
  (case zzq3 => k_mem)
  (case zzq4 => k_mem)
  (case zzq5 => k_mem)
  (case zzq6 => k_mem)
  (case zzq7 => k_mem)
  (case zzA => omega)
  (case zzB => omega)
  (case zzE1 => assumption)
  (case zzE2 => assumption)
  (case zzE3 => assumption)
  (case zzG1 => assumption)
  (case zzG2 => assumption)
  (case zzH1 => assumption)
  (case zzH2 => assumption)
  (case zzJ0 => assumption)
  (case zzJ1 => omega)
  (case zzK0 => assumption)
  (case zzK1 => assumption)
  (case zzM => assumption)
end Mine
end
section
open Lean Elab Tactic Meta PySem PySem.W PyProof.Rows PySem.Spec PySem.Calls
set_option maxRecDepth 100000
set_option maxHeartbeats 8000000
namespace Mine
local macro_rules | `(tactic| walk_at "call ref") => `(tactic| (
  k_here
  (with_reducible show wpAny _ _ (call (Value.ref 438) [Value.ref _, Value.int _ _]) _ _ _)
  k_dflt (refine' take_use ?k1 ?k2 ?k3 ?k4 ?k5 ?k6 ?q1 ?q2 ?kI ?kn0 ?kn ?ki0 ?ki1 ?kp ?km0 ?km1 ?kne ?kr1 ?kr2 ?kd ?ku ?_; (case k1 => k_asm); (case k2 => k_asm); (case k3 => k_asm); (case k4 => k_asm); (case k5 => k_asm); (case k6 => first | exact rfl | assumption); (case q1 => first | exact Pick.head | exact Pick.tail Pick.head | exact Pick.tail (Pick.tail Pick.head) | exact Pick.tail (Pick.tail (Pick.tail Pick.head)) | exact Pick.tail (Pick.tail (Pick.tail (Pick.tail Pick.head))) | exact Pick.tail (Pick.tail (Pick.tail (Pick.tail (Pick.tail Pick.head)))) | exact Pick.tail (Pick.tail (Pick.tail (Pick.tail (Pick.tail (Pick.tail Pick.head))))) | exact Pick.tail (Pick.tail (Pick.tail (Pick.tail (Pick.tail (Pick.tail (Pick.tail Pick.head)))))) | exact Pick.tail (Pick.tail (Pick.tail (Pick.tail (Pick.tail (Pick.tail (Pick.tail (Pick.tail Pick.head))))))) | exact Pick.tail (Pick.tail (Pick.tail (Pick.tail (Pick.tail (Pick.tail (Pick.tail (Pick.tail (Pick.tail Pick.head)))))))) | exact Pick.tail (Pick.tail (Pick.tail (Pick.tail (Pick.tail (Pick.tail (Pick.tail (Pick.tail (Pick.tail (Pick.tail Pick.head))))))))) | exact Pick.tail (Pick.tail (Pick.tail (Pick.tail (Pick.tail (Pick.tail (Pick.tail (Pick.tail (Pick.tail (Pick.tail (Pick.tail Pick.head)))))))))) | exact Pick.tail (Pick.tail (Pick.tail (Pick.tail (Pick.tail (Pick.tail (Pick.tail (Pick.tail (Pick.tail (Pick.tail (Pick.tail (Pick.tail Pick.head))))))))))) | exact Pick.tail (Pick.tail (Pick.tail (Pick.tail (Pick.tail (Pick.tail (Pick.tail (Pick.tail (Pick.tail (Pick.tail (Pick.tail (Pick.tail (Pick.tail Pick.head))))))))))))); (case q2 => first | exact Pick.head | exact Pick.tail Pick.head | exact Pick.tail (Pick.tail Pick.head) | exact Pick.tail (Pick.tail (Pick.tail Pick.head)) | exact Pick.tail (Pick.tail (Pick.tail (Pick.tail Pick.head))) | exact Pick.tail (Pick.tail (Pick.tail (Pick.tail (Pick.tail Pick.head)))) | exact Pick.tail (Pick.tail (Pick.tail (Pick.tail (Pick.tail (Pick.tail Pick.head))))) | exact Pick.tail (Pick.tail (Pick.tail (Pick.tail (Pick.tail (Pick.tail (Pick.tail Pick.head)))))) | exact Pick.tail (Pick.tail (Pick.tail (Pick.tail (Pick.tail (Pick.tail (Pick.tail (Pick.tail Pick.head))))))) | exact Pick.tail (Pick.tail (Pick.tail (Pick.tail (Pick.tail (Pick.tail (Pick.tail (Pick.tail (Pick.tail Pick.head)))))))) | exact Pick.tail (Pick.tail (Pick.tail (Pick.tail (Pick.tail (Pick.tail (Pick.tail (Pick.tail (Pick.tail (Pick.tail Pick.head))))))))) | exact Pick.tail (Pick.tail (Pick.tail (Pick.tail (Pick.tail (Pick.tail (Pick.tail (Pick.tail (Pick.tail (Pick.tail (Pick.tail Pick.head)))))))))) | exact Pick.tail (Pick.tail (Pick.tail (Pick.tail (Pick.tail (Pick.tail (Pick.tail (Pick.tail (Pick.tail (Pick.tail (Pick.tail (Pick.tail Pick.head))))))))))) | exact Pick.tail (Pick.tail (Pick.tail (Pick.tail (Pick.tail (Pick.tail (Pick.tail (Pick.tail (Pick.tail (Pick.tail (Pick.tail (Pick.tail (Pick.tail Pick.head))))))))))))); (case kI => with_reducible assumption); (case kn0 => with_reducible assumption); (case kn => with_reducible assumption); (case ki0 => first | with_reducible assumption | decide); (case ki1 => omega); (case kp => with_reducible assumption); (case km0 => decide); (case km1 => decide); (case kne => k_ne); (case kr1 => k_all); (case kr2 => k_all); (case kd => ktr_room); (case ku => ktr_units); k_whole)
  intro r' t' i' ti' vs' ns' h' tk' F' N' hI' hr0' hr1' hi0' hi1' hl0' hl1' hp'
  (try k_sweep)
  (try dsimp only)))
theorem num_c : NumC := by
  clear num_c
  unfold NumC
  k_fill
  intro w p loose mean mg mb h₀ L fa cd m0 a1 a2 x dx st c oa1 oa2 ox odx o1 o2 o3 i ti n1 n2 vs ns s Q E X GL T K0 F N b0 b1 b2 b3 b4 b5 c3 c2 c1 d3 hI hl0 hl1 hp hi0 hi1 hret
  conv in lawBody.getD _ _ => whnf
  conv in (occs := *) lawScope => all_goals whnf
  w_top on
  w_on
  k_steps
  refine' hret _ _ _ _ _ ?F (news_sub ?N ?S) ?D ?A ?B
  (case F => assumption)
  (case N => assumption)
  (case S => lcg_sub)
  (case D => assumption)
  (case A => omega)
  (case B => omega)
end Mine
end
section
open Lean Elab Tactic Meta PySem PySem.W PyProof.Rows PySem.Spec PySem.Calls
set_option maxRecDepth 100000
set_option maxHeartbeats 8000000
namespace Mine
local macro_rules | `(tactic| walk_at "mine pad x") => `(tactic| fail)
local macro_rules | `(tactic| walk_at "mine pad xx") => `(tactic| fail)
local macro_rules | `(tactic| walk_at "call builtin:len") => `(tactic| (
  k_here
  (with_reducible show wpAny _ _ (call (Value.builtin _) [Value.ref _]) _ _ _)
  k_dflt (refine' len_256 ?k1 ?k2 ?k3 ?k4 ?_; (case k1 => k_asm); (case k2 => k_mem); (case k3 => with_reducible assumption); (case k4 => first | with_reducible assumption | (simp only [List.length_map]; with_reducible assumption)))))
theorem swap_m {m0 : PySem.Str → Option Value} {v1 v2 : Option Value} : (fun y : PySem.Str => if y = ("first" : PySem.Str) then v1 else if y = ("second" : PySem.Str) then v2 else m0 y) = (fun y => if y = ("second" : PySem.Str) then v2 else if y = ("first" : PySem.Str) then v1 else m0 y) := by
  funext y
  have hne : ¬ ("first" : PySem.Str) = ("second" : PySem.Str) := by decide
  by_cases h1 : y = ("first" : PySem.Str)
  · subst h1
    simp only [if_true, if_neg hne]
  · simp only [if_neg h1]
theorem poly_c : PolyC := by
  clear poly_c
  unfold PolyC
  k_fill
  intro w p loose mean mg mb h₀ L fa cd m0 a1 a2 x dx D o1 o2 o3 t5 t6 t7 t8 t9 ta tn n3 n4 v1 v2 k1 k2 s Q E X GL T K0 F N b0 b1 b2 b3 d1 d2 i1 i2 s1 s2 hret
  dsimp only [ringD] at N
  conv in lawBody.getD _ _ => whnf
  conv in (occs := *) lawScope => all_goals whnf
  w_top on
  w_on
  k_steps
  (rename Fr h₀ L _ _ => F9)
  rw [swap_m] at F9
  refine' hret _ _ _ _ _ _ _ _ _ _ _ _ _ _ ?zzF (news_sub ?zzN ?zzS) ?zzA ?zzB ?zzC ?zzD ?zzE ?zzG
  (case zzF => assumption)
  (case zzN => assumption)
  (case zzS => lcg_sub)
  (case zzA => omega)
  (case zzB => omega)
  (case zzC => omega)
  (case zzD => omega)
  (case zzE => omega)
  (case zzG => omega)
end Mine
end
section
open Lean Elab Tactic Meta PySem PySem.W PyProof.Rows PySem.Spec PySem.Calls
set_option maxRecDepth 100000
set_option maxHeartbeats 8000000
namespace Mine
theorem lt_nil {p0 : Addr × Obj} : ∀ p ∈ ([] : Ledger), @LT.lt Nat _ p.1 p0.1 := fun _ h => nomatch h
theorem lt_cons {p0 q : Addr × Obj} {l : Ledger} (h : @LT.lt Nat _ q.1 p0.1) (hl : ∀ p ∈ l, @LT.lt Nat _ p.1 p0.1) : ∀ p ∈ q :: l, @LT.lt Nat _ p.1 p0.1 := List.forall_mem_cons.mpr ⟨h, hl⟩
local macro_rules | `(tactic| walk_at "call ref") => `(tactic| (
  k_here
  (with_reducible show wpAny _ _ (call (Value.ref 431) [Value.ref _]) _ _ _)
  k_dflt (refine' state_use ?k1 ?k2 ?k3 ?k4 ?k0 ?k5 ?k6 ?k7 ?k8 ?k9 ?k10 ?k11 ?k12 ?_; (case k1 => k_asm); (case k2 => k_asm); (case k3 => k_asm); (case k4 => k_asm); (case k0 => (refine lt_cons (by (try dsimp only); omega) (lt_cons (by (try dsimp only); omega) lt_nil))); (case k5 => k_asm); (case k6 => first | exact rfl | assumption); (case k7 => k_asm); (case k8 => k_asm); (case k9 => k_asm); (case k10 => omega); (case k11 => ktr_room); (case k12 => ktr_units); k_whole)
  intro st' c' ti' n1' n2' vs' ns' h' tk' F' N' hI' hl0' hl1' hp' hn1' hn2' hlt'
  k_lt hn1'
  replace hn2' := allNe_of hn2'
  simp only [AllNe, and_true] at hn2'
  k_lt2 hlt'
  (try k_sweep)
  (try dsimp only)))
local macro_rules | `(tactic| walk_at "exec Assign") => `(tactic| (
  k_here
  (with_reducible show wpAny _ (Around.deeper callerA _) (exec _ _) _ _ _)
  k_dflt (refine' ring_c _ _ _ _ _ _ _ _ _ _ _ _ _ _ _ _ _ _ _ _ _ ?zzX ?zzGL ?zzT ?zzK0 ?zzF ?zzN ?zza ?zzb ?_; (case zzX => k_asm); (case zzGL => k_asm); (case zzT => k_asm); (case zzK0 => k_asm); (case zzF => k_asm); (case zzN => k_asm); (case zza => omega); (case zzb => omega))
  intro x' dx' D' t1' t2' t3' t4' t5' t6' t7' h' tk' F' N' l1' l2'
  (try k_sweep)
  (try dsimp only)))
local macro_rules | `(tactic| walk_at "exec Assign") => `(tactic| (
  k_here
  (with_reducible show wpAny _ (Around.deeper callerA _) (exec _ _) _ _ _)
  k_dflt (refine' rows_c _ _ _ _ _ _ _ _ _ _ _ _ _ _ _ _ _ _ _ _ _ _ _ _ _ _ _ _ ?zzX ?zzGL ?zzT ?zzK0 ?zzF ?zzN ?zza ?zzb ?zzc ?zzd ?zze ?zzf ?zzg ?zzh ?zzi ?zzj ?zzk ?zzl ?zzm ?zzn ?_; (case zzX => k_asm); (case zzGL => k_asm); (case zzT => k_asm); (case zzK0 => k_asm); (case zzF => k_asm); (case zzN => k_asm); (case zza => omega); (case zzb => omega); (case zzc => omega); (case zzd => omega); (case zze => omega); (case zzf => omega); (case zzg => omega); (case zzh => assumption); (case zzi => assumption); (case zzj => assumption); (case zzk => with_reducible assumption); (case zzl => with_reducible assumption); (case zzm => with_reducible assumption); (case zzn => with_reducible assumption))
  intro a1' a2' i' ti' n3' n4' v1' v2' vs' k1' k2' ns' o1' o2' h' tk' F' N' l1' l2' d1' d2' I1' I2' I3' s1' s2' m1' m2' i0' i1' e0' e1' p'
  (try k_sweep)
  (try dsimp only)))
local macro_rules | `(tactic| walk_at "exec Assign") => `(tactic| (
  k_here
  (with_reducible show wpAny _ (Around.deeper callerA _) (exec _ _) _ _ _)
  k_dflt (refine' num_c _ _ _ _ _ _ _ _ _ _ _ _ _ _ _ _ _ _ _ _ _ _ _ _ _ _ _ _ _ _ _ _ _ ?zzX ?zzGL ?zzT ?zzK0 ?zzF ?zzN ?zza ?zzb ?zzc ?zzd ?zze ?zzf ?zzg ?zzh ?zzi ?zzj ?zzk ?zzl ?zzm ?zzn ?zzo ?zzp ?_; (case zzX => k_asm); (case zzGL => k_asm); (case zzT => k_asm); (case zzK0 => k_asm); (case zzF => k_asm); (case zzN => k_asm); (case zza => omega); (case zzb => omega); (case zzc => omega); (case zzd => omega); (case zze => omega); (case zzf => omega); (case zzg => omega); (case zzh => omega); (case zzi => omega); (case zzj => assumption); (case zzk => with_reducible assumption); (case zzl => with_reducible assumption); (case zzm => with_reducible assumption); (case zzn => with_reducible assumption); (case zzo => with_reducible assumption); (case zzp => with_reducible assumption))
  intro nb' tn' o3' h' tk' F' N' d3' r0' r1'
  (try k_sweep)
  (try dsimp only)))
local macro_rules | `(tactic| walk_at "exec Assign") => `(tactic| (
  k_here
  (with_reducible show wpAny _ (Around.deeper callerA _) (exec _ _) _ _ _)
  k_dflt (refine' poly_c _ _ _ _ _ _ _ _ _ _ _ _ _ _ _ _ _ _ _ _ _ _ _ _ _ _ _ _ _ _ _ _ _ _ _ ?zzX ?zzGL ?zzT ?zzK0 ?zzF ?zzN ?zza ?zzb ?zzc ?zzd ?zze ?zzf ?zzg ?zzh ?zzi ?zzj ?_; (case zzX => k_asm); (case zzGL => k_asm); (case zzT => k_asm); (case zzK0 => k_asm); (case zzF => k_asm); (case zzN => k_asm); (case zza => omega); (case zzb => omega); (case zzc => omega); (case zzd => omega); (case zze => with_reducible assumption); (case zzf => with_reducible assumption); (case zzg => with_reducible assumption); (case zzh => with_reducible assumption); (case zzi => with_reducible assumption); (case zzj => with_reducible assumption))
  intro z1' e1' l1' z2' e2' l2' t1' t2' t3' t4' m1' m2' h' tk' F' N' b4' b5' b6' b7' b8' b9'
  (try k_sweep)
  (try dsimp only)))

theorem law_ok {L z1 e1 l1 z2 e2 l2 x dx a1 a2 D : Addr} {t1 t2 t3 t4 t5 t6 t7 t8 t9 ta tb : Tok} {n1 n2 n3 n4 : Nat} {u1 u2 v1 v2 : List Value} {k1 k2 : List Int} {nb : Int} {tn : Tok} {o1 o2 o3 : Obj}
    (b0 : @LT.lt Nat _ (L + 1 + 1 + 1) dx) (b1 : @LT.lt Nat _ dx x) (b2 : @LT.lt Nat _ x a1) (b3 : @LT.lt Nat _ a1 a2) (b4 : @LT.lt Nat _ a2 l1) (b5 : @LT.lt Nat _ l1 e1) (b6 : @LT.lt Nat _ e1 z1) (b7 : @LT.lt Nat _ z1 l2) (b8 : @LT.lt Nat _ l2 e2) (b9 : @LT.lt Nat _ e2 z2)
    (i1 : IntsAre u1 k1) (i2 : IntsAre u2 k2) (i3 : IntsAre v1 k1) (i4 : IntsAre v2 k2) (s1 : k1.length = 256) (s2 : k2.length = 256) (m1 : ∀ z ∈ k1, -10000 ≤ z ∧ z ≤ 10000) (m2 : ∀ z ∈ k2, -10000 ≤ z ∧ z ≤ 10000) (r0 : -10000 ≤ nb) (r1 : nb ≤ 10000)
    (d1 : o1.data = Data.cell (some (.ref a1))) (d2 : o2.data = Data.cell (some (.ref a2))) (d3 : o3.data = Data.cell (some (.int nb tn))) :
    LOk L ⟨z1, e1, l1, z2, e2, l2, x, dx, a1, a2, D, t1, t2, t3, t4, t5, t6, t7, t8, t9, ta, tb, n1, n2, n3, n4, u1, u2, v1, v2, k1, k2, nb, tn, o1, o2, o3⟩ :=
  ⟨b0, b1, b2, b3, b4, b5, b6, b7, b8, b9, i1, i2, i3, i4, s1, s2, m1, m2, r0, r1, d1, d2, d3⟩
local macro_rules | `(tactic| walk_at "execs cons If") => `(tactic| (
  k_here
  (with_reducible show wpAny _ (Around.deeper callerA _) (execs _ _) _ _ _)
  k_dflt (refine' end_c _ _ _ _ _ _ _ _ _ _ _ ⟨_, _, _, _, _, _, _, _, _, _, _, _, _, _, _, _, _, _, _, _, _, _, _, _, _, _, _, _, _, _, _, _, _, _, _, _, _⟩ _ _ _ ?zzX ?zzGL ?zzT ?zzK0 ?zzF ?zzN (law_ok ?zb0 ?zb1 ?zb2 ?zb3 ?zb4 ?zb5 ?zb6 ?zb7 ?zb8 ?zb9 ?zi1 ?zi2 ?zi3 ?zi4 ?zs1 ?zs2 ?zm1 ?zm2 ?zr0 ?zr1 ?zd1 ?zd2 ?zd3) ?_; (case zzX => k_asm); (case zzGL => k_asm); (case zzT => k_asm); (case zzK0 => k_asm); (case zzF => k_asm); (case zzN => k_asm); (case zb0 => omega); (case zb1 => omega); (case zb2 => omega); (case zb3 => omega); (case zb4 => omega); (case zb5 => omega); (case zb6 => omega); (case zb7 => omega); (case zb8 => omega); (case zb9 => omega); (case zd1 => with_reducible assumption); (case zd2 => with_reducible assumption); (case zd3 => with_reducible assumption); (case zi1 => with_reducible assumption); (case zi2 => with_reducible assumption); (case zi3 => with_reducible assumption); (case zi4 => with_reducible assumption); (case zs1 => with_reducible assumption); (case zs2 => with_reducible assumption); (case zm1 => with_reducible assumption); (case zm2 => with_reducible assumption); (case zr0 => with_reducible assumption); (case zr1 => with_reducible assumption))
  intro h' tk' m' F'
  (try k_sweep)
  (try dsimp only)))
theorem w3 : PySem.Challenge.rw_yi0045_01.Holds := Mine.hd (by
  clear w3
  w_top on
  w_on
  k_go0
  (all_goals try k_fold)
  k_steps)
end Mine
end
theorem PySem.Challenge.cw_yi0045_01_holds : PySem.Challenge.rw_yi0045_01.Holds :=
  Mine.w3
