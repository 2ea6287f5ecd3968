import PyProof.Rows.All
import Wide.All
import OpenK.AllK
import Wide.FinOn
import PySem.Challenge.RW_kh0012_01
open PySem PySem.W PyProof.Rows PySem.Calls PySem.Spec
set_option Elab.async false
set_option maxRecDepth 100000
namespace Mine

-- part H1

/-- the row's program -/
abbrev pr : Program := PySem.Challenge.rw_kh0012_01.row.toRowW.prog
noncomputable def topSt (i : Nat) : Option Stmt := pr.main.body[i]?
noncomputable def inSt (i j : Nat) : Option Stmt := match topSt i with
  | some (.ClassDef _ _ _ b _ _ _ _ _ _ _) => b[j]?
  | _ => none
abbrev ofDef {name : Str} {params : Arguments} {body : List Stmt} {dl : List PySem.Expr} {rt : Option PySem.Expr} {tp : List TypeParam} {scope : Scope} {ts : Option Scope} {bd : Str} {pos : Pos} {st : Option Stmt}
    (_h : st = some (Stmt.FunctionDef name params body dl rt tp scope ts bd pos)) (qual : Str) (pm cdv : Value) : Obj :=
  { cls := .type "function", data := .func (fnOf name qual params body scope .none .none .none pm none cdv .none) }
abbrev ofDef0 {name : Str} {params : Arguments} {body : List Stmt} {dl : List PySem.Expr} {rt : Option PySem.Expr} {tp : List TypeParam} {scope : Scope} {ts : Option Scope} {bd : Str} {pos : Pos} {st : Option Stmt}
    (_h : st = some (Stmt.FunctionDef name params body dl rt tp scope ts bd pos)) (qual : Str) : Obj :=
  { cls := .none, data := .func { name, qualname := qual, params, body := .stmts body, scope, globals := 0, closure := [], defaults := .none, kwdefaults := .none } }
-- the objects behind the top
noncomputable abbrev ob3 (P : Params) : Obj := { cls := Value.type "dict", data := Data.dict #[{ hash := PyData.keyHash P (Str.ofString "__name__"), key := Value.str (Str.ofString "__name__") 165, val := Value.str (Str.ofString "law_kh0012_01") 620 }, { hash := PyData.keyHash P (Str.ofString "__doc__"), key := Value.str (Str.ofString "__doc__") 166, val := Value.none }, { hash := PyData.keyHash P (Str.ofString "__package__"), key := Value.str (Str.ofString "__package__") 167, val := Value.none }, { hash := PyData.keyHash P (Str.ofString "__loader__"), key := Value.str (Str.ofString "__loader__") 168, val := Value.builtin "__main__.__loader__#opaque" }, { hash := PyData.keyHash P (Str.ofString "__spec__"), key := Value.str (Str.ofString "__spec__") 169, val := Value.none }, { hash := PyData.keyHash P (Str.ofString "__annotations__"), key := Value.str (Str.ofString "__annotations__") 170, val := Value.ref 6 }, { hash := PyData.keyHash P (Str.ofString "__builtins__"), key := Value.str (Str.ofString "__builtins__") 171, val := Value.ref 4 }, { hash := PyData.keyHash P (Str.ofString "__file__"), key := Value.str (Str.ofString "__file__") 173, val := Value.str (Str.ofString "/claim/cut.py") 172 }, { hash := PyData.keyHash P (Str.ofString "__cached__"), key := Value.str (Str.ofString "__cached__") 174, val := Value.none }, { hash := PyData.keyHash P (Str.ofString "_wall"), key := Value.str (Str.ofString "_wall") 193, val := Value.ref 21 }, { hash := PyData.keyHash P (Str.ofString "prime_field_inv"), key := Value.str (Str.ofString "prime_field_inv") 210, val := Value.ref 28 }, { hash := PyData.keyHash P (Str.ofString "deg"), key := Value.str (Str.ofString "deg") 218, val := Value.ref 35 }, { hash := PyData.keyHash P (Str.ofString "mod_int"), key := Value.str (Str.ofString "mod_int") 228, val := Value.ref 42 }, { hash := PyData.keyHash P (Str.ofString "FQ"), key := Value.str (Str.ofString "FQ") 422, val := Value.ref 200 }, { hash := PyData.keyHash P (Str.ofString "FQP"), key := Value.str (Str.ofString "FQP") 582, val := Value.ref 325 }, { hash := PyData.keyHash P (Str.ofString "FQ2"), key := Value.str (Str.ofString "FQ2") 619, val := Value.ref 354 }, { hash := PyData.keyHash P (Str.ofString "_law_primes"), key := Value.str (Str.ofString "_law_primes") 627, val := Value.ref 363 }, { hash := PyData.keyHash P (Str.ofString "_law_sign"), key := Value.str (Str.ofString "_law_sign") 636, val := Value.ref 370 }, { hash := PyData.keyHash P (Str.ofString "_law_refused"), key := Value.str (Str.ofString "_law_refused") 643, val := Value.ref 377 }, { hash := PyData.keyHash P (Str.ofString "law"), key := Value.str (Str.ofString "law") 649, val := Value.ref 382 }] 20 }
noncomputable abbrev ob11 : Obj := { cls := Value.type "tuple", data := Data.seq #[] }
noncomputable abbrev ob12 : Obj := { cls := Value.none, data := Data.fields #[Value.int 1 0, Value.int 0 0, Value.ref 20, Value.int 5 0, Value.int 0 0, Value.ref 27, Value.int 16 0, Value.int 0 0, Value.ref 34, Value.int 22 0, Value.int 0 0, Value.ref 41, Value.int 29 0, Value.int 0 0, Value.ref 48, Value.int 154 0, Value.int 0 0, Value.ref 210, Value.int 283 0, Value.int 0 0, Value.ref 335, Value.int 296 0, Value.int 0 0, Value.ref 362, Value.int 298 0, Value.int 0 0, Value.ref 369, Value.int 303 0, Value.int 0 0, Value.ref 376, Value.int 309 0, Value.int 0 0, Value.ref 381] }
noncomputable abbrev ob13 : Obj := { cls := Value.type "code", data := Data.fields #[Value.str (Str.ofString "<module>") 182, Value.str (Str.ofString "<module>") 183, Value.str (Str.ofString "/claim/cut.py") 184, Value.int 1 0, Value.int 0 0, Value.int 0 0, Value.int 0 0, Value.int 0 0, Value.ref 11, Value.bool false, Value.int 181 0, Value.ref 12, Value.none, Value.none, Value.none, Value.none, Value.int 185 0, Value.int 1 0, Value.str (Str.ofString "/claim/cut.py") 186] }
noncomputable abbrev ob14 : Obj := { cls := Value.type "frame", slots := #[some (Value.ref 13), some (Value.ref 3), some (Value.ref 3), none, some (Value.str (Str.ofString "__main__") 164), none, some (Value.ref 0)] }
noncomputable abbrev ob15 : Obj := { cls := Value.type "tuple", data := Data.seq #[] }
noncomputable abbrev ob16 : Obj := { cls := Value.none, data := Data.fields #[] }
noncomputable abbrev ob17 : Obj := { cls := Value.type "tuple", data := Data.seq #[Value.str (Str.ofString "k") 190] }
noncomputable abbrev ob18 : Obj := { cls := Value.type "tuple", data := Data.seq #[] }
noncomputable abbrev ob19 : Obj := ofDef0 (st := topSt 0) rfl (Str.ofString "_wall")
noncomputable abbrev ob20 : Obj := { cls := Value.type "code", data := Data.fields #[Value.str (Str.ofString "_wall") 187, Value.str (Str.ofString "_wall") 188, Value.str (Str.ofString "/claim/cut.py") 189, Value.int 1 0, Value.int 1 0, Value.int 0 0, Value.int 0 0, Value.int 3 0, Value.ref 15, Value.bool true, Value.int 181 0, Value.ref 16, Value.none, Value.ref 17, Value.ref 18, Value.ref 19, Value.int 191 0, Value.int 1 0, Value.str (Str.ofString "/claim/cut.py") 192] }
noncomputable abbrev ob21 : Obj := ofDef (st := topSt 0) rfl (Str.ofString "_wall") (Value.str (Str.ofString "__main__") 164) (Value.ref 20)
noncomputable abbrev ob22 : Obj := { cls := Value.type "tuple", data := Data.seq #[] }
noncomputable abbrev ob23 : Obj := { cls := Value.none, data := Data.fields #[] }
noncomputable abbrev ob24 : Obj := { cls := Value.type "tuple", data := Data.seq #[Value.str (Str.ofString "a") 199, Value.str (Str.ofString "n") 200, Value.str (Str.ofString "lm") 201, Value.str (Str.ofString "hm") 202, Value.str (Str.ofString "low") 203, Value.str (Str.ofString "high") 204, Value.str (Str.ofString "r") 205, Value.str (Str.ofString "nm") 206, Value.str (Str.ofString "new") 207] }
noncomputable abbrev ob25 : Obj := { cls := Value.type "tuple", data := Data.seq #[] }
noncomputable abbrev ob26 : Obj := ofDef0 (st := topSt 2) rfl (Str.ofString "prime_field_inv")
noncomputable abbrev ob27 : Obj := { cls := Value.type "code", data := Data.fields #[Value.str (Str.ofString "prime_field_inv") 196, Value.str (Str.ofString "prime_field_inv") 197, Value.str (Str.ofString "/claim/cut.py") 198, Value.int 5 0, Value.int 2 0, Value.int 0 0, Value.int 0 0, Value.int 3 0, Value.ref 22, Value.bool true, Value.int 181 0, Value.ref 23, Value.none, Value.ref 24, Value.ref 25, Value.ref 26, Value.int 208 0, Value.int 5 0, Value.str (Str.ofString "/claim/cut.py") 209] }
noncomputable abbrev ob28 : Obj := ofDef (st := topSt 2) rfl (Str.ofString "prime_field_inv") (Value.str (Str.ofString "py_ecc.utils") 194) (Value.ref 27)
noncomputable abbrev ob29 : Obj := { cls := Value.type "tuple", data := Data.seq #[] }
noncomputable abbrev ob30 : Obj := { cls := Value.none, data := Data.fields #[] }
noncomputable abbrev ob31 : Obj := { cls := Value.type "tuple", data := Data.seq #[Value.str (Str.ofString "p") 214, Value.str (Str.ofString "d") 215] }
noncomputable abbrev ob32 : Obj := { cls := Value.type "tuple", data := Data.seq #[] }
noncomputable abbrev ob33 : Obj := ofDef0 (st := topSt 3) rfl (Str.ofString "deg")
noncomputable abbrev ob34 : Obj := { cls := Value.type "code", data := Data.fields #[Value.str (Str.ofString "deg") 211, Value.str (Str.ofString "deg") 212, Value.str (Str.ofString "/claim/cut.py") 213, Value.int 16 0, Value.int 1 0, Value.int 0 0, Value.int 0 0, Value.int 3 0, Value.ref 29, Value.bool true, Value.int 181 0, Value.ref 30, Value.none, Value.ref 31, Value.ref 32, Value.ref 33, Value.int 216 0, Value.int 16 0, Value.str (Str.ofString "/claim/cut.py") 217] }
noncomputable abbrev ob35 : Obj := ofDef (st := topSt 3) rfl (Str.ofString "deg") (Value.str (Str.ofString "py_ecc.utils") 194) (Value.ref 34)
noncomputable abbrev ob36 : Obj := { cls := Value.type "tuple", data := Data.seq #[] }
noncomputable abbrev ob37 : Obj := { cls := Value.none, data := Data.fields #[] }
noncomputable abbrev ob38 : Obj := { cls := Value.type "tuple", data := Data.seq #[Value.str (Str.ofString "x") 224, Value.str (Str.ofString "n") 225] }
noncomputable abbrev ob39 : Obj := { cls := Value.type "tuple", data := Data.seq #[] }
noncomputable abbrev ob40 : Obj := ofDef0 (st := topSt 5) rfl (Str.ofString "mod_int")
noncomputable abbrev ob41 : Obj := { cls := Value.type "code", data := Data.fields #[Value.str (Str.ofString "mod_int") 221, Value.str (Str.ofString "mod_int") 222, Value.str (Str.ofString "/claim/cut.py") 223, Value.int 22 0, Value.int 2 0, Value.int 0 0, Value.int 0 0, Value.int 3 0, Value.ref 36, Value.bool true, Value.int 181 0, Value.ref 37, Value.none, Value.ref 38, Value.ref 39, Value.ref 40, Value.int 226 0, Value.int 22 0, Value.str (Str.ofString "/claim/cut.py") 227] }
noncomputable abbrev ob42 : Obj := ofDef (st := topSt 5) rfl (Str.ofString "mod_int") (Value.str (Str.ofString "py_ecc.fields.optimized_field_elements") 219) (Value.ref 41)
noncomputable abbrev ob43 : Obj := { cls := Value.type "tuple", data := Data.seq #[] }
noncomputable abbrev ob44 : Obj := { cls := Value.type "builtin_function_or_method", data := Data.fields #[Value.builtin "type.__prepare__", Value.type "type"] }
noncomputable abbrev ob45 (P : Params) : Obj := { cls := Value.type "dict", data := Data.dict #[{ hash := PyData.keyHash P (Str.ofString "__module__"), key := Value.str (Str.ofString "__module__") 236, val := Value.str (Str.ofString "py_ecc.fields.optimized_field_elements") 219 }, { hash := PyData.keyHash P (Str.ofString "__qualname__"), key := Value.str (Str.ofString "__qualname__") 238, val := Value.str (Str.ofString "FQ") 237 }, { hash := PyData.keyHash P (Str.ofString "__firstlineno__"), key := Value.str (Str.ofString "__firstlineno__") 240, val := Value.int 29 239 }, { hash := PyData.keyHash P (Str.ofString "__init__"), key := Value.str (Str.ofString "__init__") 249, val := Value.ref 56 }, { hash := PyData.keyHash P (Str.ofString "__add__"), key := Value.str (Str.ofString "__add__") 258, val := Value.ref 63 }, { hash := PyData.keyHash P (Str.ofString "__mul__"), key := Value.str (Str.ofString "__mul__") 267, val := Value.ref 70 }, { hash := PyData.keyHash P (Str.ofString "__rmul__"), key := Value.str (Str.ofString "__rmul__") 275, val := Value.ref 77 }, { hash := PyData.keyHash P (Str.ofString "__radd__"), key := Value.str (Str.ofString "__radd__") 283, val := Value.ref 84 }, { hash := PyData.keyHash P (Str.ofString "__rsub__"), key := Value.str (Str.ofString "__rsub__") 292, val := Value.ref 91 }, { hash := PyData.keyHash P (Str.ofString "__sub__"), key := Value.str (Str.ofString "__sub__") 301, val := Value.ref 98 }, { hash := PyData.keyHash P (Str.ofString "__mod__"), key := Value.str (Str.ofString "__mod__") 309, val := Value.ref 105 }, { hash := PyData.keyHash P (Str.ofString "__truediv__"), key := Value.str (Str.ofString "__truediv__") 318, val := Value.ref 112 }, { hash := PyData.keyHash P (Str.ofString "__rtruediv__"), key := Value.str (Str.ofString "__rtruediv__") 327, val := Value.ref 119 }, { hash := PyData.keyHash P (Str.ofString "__pow__"), key := Value.str (Str.ofString "__pow__") 335, val := Value.ref 126 }, { hash := PyData.keyHash P (Str.ofString "__eq__"), key := Value.str (Str.ofString "__eq__") 343, val := Value.ref 133 }, { hash := PyData.keyHash P (Str.ofString "__ne__"), key := Value.str (Str.ofString "__ne__") 351, val := Value.ref 140 }, { hash := PyData.keyHash P (Str.ofString "__neg__"), key := Value.str (Str.ofString "__neg__") 358, val := Value.ref 147 }, { hash := PyData.keyHash P (Str.ofString "__repr__"), key := Value.str (Str.ofString "__repr__") 365, val := Value.ref 154 }, { hash := PyData.keyHash P (Str.ofString "__int__"), key := Value.str (Str.ofString "__int__") 372, val := Value.ref 161 }, { hash := PyData.keyHash P (Str.ofString "__lt__"), key := Value.str (Str.ofString "__lt__") 381, val := Value.ref 168 }, { hash := PyData.keyHash P (Str.ofString "sgn0"), key := Value.str (Str.ofString "sgn0") 389, val := Value.ref 176 }, { hash := PyData.keyHash P (Str.ofString "made"), key := Value.str (Str.ofString "made") 397, val := Value.ref 183 }, { hash := PyData.keyHash P (Str.ofString "one"), key := Value.str (Str.ofString "one") 404, val := Value.ref 190 }, { hash := PyData.keyHash P (Str.ofString "zero"), key := Value.str (Str.ofString "zero") 411, val := Value.ref 197 }, { hash := PyData.keyHash P (Str.ofString "__static_attributes__"), key := Value.str (Str.ofString "__static_attributes__") 414, val := Value.ref 198 }] 25 }
noncomputable abbrev ob46 : Obj := { cls := Value.type "tuple", data := Data.seq #[] }
noncomputable abbrev ob47 : Obj := { cls := Value.none, data := Data.fields #[Value.int 31 0, Value.int 4 0, Value.ref 55, Value.int 40 0, Value.int 4 0, Value.ref 62, Value.int 49 0, Value.int 4 0, Value.ref 69, Value.int 58 0, Value.int 4 0, Value.ref 76, Value.int 61 0, Value.int 4 0, Value.ref 83, Value.int 64 0, Value.int 4 0, Value.ref 90, Value.int 73 0, Value.int 4 0, Value.ref 97, Value.int 82 0, Value.int 4 0, Value.ref 104, Value.int 85 0, Value.int 4 0, Value.ref 111, Value.int 94 0, Value.int 4 0, Value.ref 118, Value.int 103 0, Value.int 4 0, Value.ref 125, Value.int 113 0, Value.int 4 0, Value.ref 132, Value.int 121 0, Value.int 4 0, Value.ref 139, Value.int 124 0, Value.int 4 0, Value.ref 146, Value.int 127 0, Value.int 4 0, Value.ref 153, Value.int 130 0, Value.int 4 0, Value.ref 160, Value.int 133 0, Value.int 4 0, Value.ref 167, Value.int 143 0, Value.int 4 0, Value.ref 174, Value.int 146 0, Value.int 4 0, Value.ref 182, Value.int 149 0, Value.int 4 0, Value.ref 189, Value.int 152 0, Value.int 4 0, Value.ref 196] }
noncomputable abbrev ob48 : Obj := { cls := Value.type "code", data := Data.fields #[Value.str (Str.ofString "FQ") 231, Value.str (Str.ofString "FQ") 232, Value.str (Str.ofString "/claim/cut.py") 233, Value.int 29 0, Value.int 0 0, Value.int 0 0, Value.int 0 0, Value.int 0 0, Value.ref 46, Value.bool false, Value.int 181 0, Value.ref 47, Value.none, Value.none, Value.none, Value.none, Value.int 234 0, Value.int 29 0, Value.str (Str.ofString "/claim/cut.py") 235] }
noncomputable abbrev ob49 : Obj := { cls := Value.type "frame", slots := #[some (Value.ref 48), some (Value.ref 3), some (Value.ref 45), none, some (Value.str (Str.ofString "py_ecc.fields.optimized_field_elements") 219), none, some (Value.ref 0)] }
noncomputable abbrev ob50 : Obj := { cls := Value.type "tuple", data := Data.seq #[] }
noncomputable abbrev ob51 : Obj := { cls := Value.none, data := Data.fields #[] }
noncomputable abbrev ob52 : Obj := { cls := Value.type "tuple", data := Data.seq #[Value.str (Str.ofString "self") 244, Value.str (Str.ofString "val") 245, Value.str (Str.ofString "field_modulus") 246] }
noncomputable abbrev ob53 : Obj := { cls := Value.type "tuple", data := Data.seq #[] }
noncomputable abbrev ob54 : Obj := ofDef0 (st := inSt 6 0) rfl (Str.ofString "FQ.__init__")
noncomputable abbrev ob55 : Obj := { cls := Value.type "code", data := Data.fields #[Value.str (Str.ofString "__init__") 241, Value.str (Str.ofString "FQ.__init__") 242, Value.str (Str.ofString "/claim/cut.py") 243, Value.int 31 0, Value.int 3 0, Value.int 0 0, Value.int 0 0, Value.int 3 0, Value.ref 50, Value.bool true, Value.int 181 0, Value.ref 51, Value.none, Value.ref 52, Value.ref 53, Value.ref 54, Value.int 247 0, Value.int 31 0, Value.str (Str.ofString "/claim/cut.py") 248] }
noncomputable abbrev ob56 : Obj := ofDef (st := inSt 6 0) rfl (Str.ofString "FQ.__init__") (Value.str (Str.ofString "py_ecc.fields.optimized_field_elements") 219) (Value.ref 55)
noncomputable abbrev ob57 : Obj := { cls := Value.type "tuple", data := Data.seq #[] }
noncomputable abbrev ob58 : Obj := { cls := Value.none, data := Data.fields #[] }
noncomputable abbrev ob59 : Obj := { cls := Value.type "tuple", data := Data.seq #[Value.str (Str.ofString "self") 253, Value.str (Str.ofString "other") 254, Value.str (Str.ofString "on") 255] }
noncomputable abbrev ob60 : Obj := { cls := Value.type "tuple", data := Data.seq #[] }
noncomputable abbrev ob61 : Obj := ofDef0 (st := inSt 6 1) rfl (Str.ofString "FQ.__add__")
noncomputable abbrev ob62 : Obj := { cls := Value.type "code", data := Data.fields #[Value.str (Str.ofString "__add__") 250, Value.str (Str.ofString "FQ.__add__") 251, Value.str (Str.ofString "/claim/cut.py") 252, Value.int 40 0, Value.int 2 0, Value.int 0 0, Value.int 0 0, Value.int 3 0, Value.ref 57, Value.bool true, Value.int 181 0, Value.ref 58, Value.none, Value.ref 59, Value.ref 60, Value.ref 61, Value.int 256 0, Value.int 40 0, Value.str (Str.ofString "/claim/cut.py") 257] }
noncomputable abbrev ob63 : Obj := ofDef (st := inSt 6 1) rfl (Str.ofString "FQ.__add__") (Value.str (Str.ofString "py_ecc.fields.optimized_field_elements") 219) (Value.ref 62)
noncomputable abbrev ob64 : Obj := { cls := Value.type "tuple", data := Data.seq #[] }
noncomputable abbrev ob65 : Obj := { cls := Value.none, data := Data.fields #[] }
noncomputable abbrev ob66 : Obj := { cls := Value.type "tuple", data := Data.seq #[Value.str (Str.ofString "self") 262, Value.str (Str.ofString "other") 263, Value.str (Str.ofString "on") 264] }
noncomputable abbrev ob67 : Obj := { cls := Value.type "tuple", data := Data.seq #[] }
noncomputable abbrev ob68 : Obj := ofDef0 (st := inSt 6 2) rfl (Str.ofString "FQ.__mul__")
noncomputable abbrev ob69 : Obj := { cls := Value.type "code", data := Data.fields #[Value.str (Str.ofString "__mul__") 259, Value.str (Str.ofString "FQ.__mul__") 260, Value.str (Str.ofString "/claim/cut.py") 261, Value.int 49 0, Value.int 2 0, Value.int 0 0, Value.int 0 0, Value.int 3 0, Value.ref 64, Value.bool true, Value.int 181 0, Value.ref 65, Value.none, Value.ref 66, Value.ref 67, Value.ref 68, Value.int 265 0, Value.int 49 0, Value.str (Str.ofString "/claim/cut.py") 266] }
noncomputable abbrev ob70 : Obj := ofDef (st := inSt 6 2) rfl (Str.ofString "FQ.__mul__") (Value.str (Str.ofString "py_ecc.fields.optimized_field_elements") 219) (Value.ref 69)
noncomputable abbrev ob71 : Obj := { cls := Value.type "tuple", data := Data.seq #[] }
noncomputable abbrev ob72 : Obj := { cls := Value.none, data := Data.fields #[] }
noncomputable abbrev ob73 : Obj := { cls := Value.type "tuple", data := Data.seq #[Value.str (Str.ofString "self") 271, Value.str (Str.ofString "other") 272] }
noncomputable abbrev ob74 : Obj := { cls := Value.type "tuple", data := Data.seq #[] }
noncomputable abbrev ob75 : Obj := ofDef0 (st := inSt 6 3) rfl (Str.ofString "FQ.__rmul__")
noncomputable abbrev ob76 : Obj := { cls := Value.type "code", data := Data.fields #[Value.str (Str.ofString "__rmul__") 268, Value.str (Str.ofString "FQ.__rmul__") 269, Value.str (Str.ofString "/claim/cut.py") 270, Value.int 58 0, Value.int 2 0, Value.int 0 0, Value.int 0 0, Value.int 3 0, Value.ref 71, Value.bool true, Value.int 181 0, Value.ref 72, Value.none, Value.ref 73, Value.ref 74, Value.ref 75, Value.int 273 0, Value.int 58 0, Value.str (Str.ofString "/claim/cut.py") 274] }
noncomputable abbrev ob77 : Obj := ofDef (st := inSt 6 3) rfl (Str.ofString "FQ.__rmul__") (Value.str (Str.ofString "py_ecc.fields.optimized_field_elements") 219) (Value.ref 76)
noncomputable abbrev ob78 : Obj := { cls := Value.type "tuple", data := Data.seq #[] }
noncomputable abbrev ob79 : Obj := { cls := Value.none, data := Data.fields #[] }
noncomputable abbrev ob80 : Obj := { cls := Value.type "tuple", data := Data.seq #[Value.str (Str.ofString "self") 279, Value.str (Str.ofString "other") 280] }
noncomputable abbrev ob81 : Obj := { cls := Value.type "tuple", data := Data.seq #[] }
noncomputable abbrev ob82 : Obj := ofDef0 (st := inSt 6 4) rfl (Str.ofString "FQ.__radd__")
noncomputable abbrev ob83 : Obj := { cls := Value.type "code", data := Data.fields #[Value.str (Str.ofString "__radd__") 276, Value.str (Str.ofString "FQ.__radd__") 277, Value.str (Str.ofString "/claim/cut.py") 278, Value.int 61 0, Value.int 2 0, Value.int 0 0, Value.int 0 0, Value.int 3 0, Value.ref 78, Value.bool true, Value.int 181 0, Value.ref 79, Value.none, Value.ref 80, Value.ref 81, Value.ref 82, Value.int 281 0, Value.int 61 0, Value.str (Str.ofString "/claim/cut.py") 282] }
noncomputable abbrev ob84 : Obj := ofDef (st := inSt 6 4) rfl (Str.ofString "FQ.__radd__") (Value.str (Str.ofString "py_ecc.fields.optimized_field_elements") 219) (Value.ref 83)
noncomputable abbrev ob85 : Obj := { cls := Value.type "tuple", data := Data.seq #[] }
noncomputable abbrev ob86 : Obj := { cls := Value.none, data := Data.fields #[] }
noncomputable abbrev ob87 : Obj := { cls := Value.type "tuple", data := Data.seq #[Value.str (Str.ofString "self") 287, Value.str (Str.ofString "other") 288, Value.str (Str.ofString "on") 289] }
noncomputable abbrev ob88 : Obj := { cls := Value.type "tuple", data := Data.seq #[] }
noncomputable abbrev ob89 : Obj := ofDef0 (st := inSt 6 5) rfl (Str.ofString "FQ.__rsub__")
noncomputable abbrev ob90 : Obj := { cls := Value.type "code", data := Data.fields #[Value.str (Str.ofString "__rsub__") 284, Value.str (Str.ofString "FQ.__rsub__") 285, Value.str (Str.ofString "/claim/cut.py") 286, Value.int 64 0, Value.int 2 0, Value.int 0 0, Value.int 0 0, Value.int 3 0, Value.ref 85, Value.bool true, Value.int 181 0, Value.ref 86, Value.none, Value.ref 87, Value.ref 88, Value.ref 89, Value.int 290 0, Value.int 64 0, Value.str (Str.ofString "/claim/cut.py") 291] }
noncomputable abbrev ob91 : Obj := ofDef (st := inSt 6 5) rfl (Str.ofString "FQ.__rsub__") (Value.str (Str.ofString "py_ecc.fields.optimized_field_elements") 219) (Value.ref 90)
noncomputable abbrev ob92 : Obj := { cls := Value.type "tuple", data := Data.seq #[] }
noncomputable abbrev ob93 : Obj := { cls := Value.none, data := Data.fields #[] }
noncomputable abbrev ob94 : Obj := { cls := Value.type "tuple", data := Data.seq #[Value.str (Str.ofString "self") 296, Value.str (Str.ofString "other") 297, Value.str (Str.ofString "on") 298] }
noncomputable abbrev ob95 : Obj := { cls := Value.type "tuple", data := Data.seq #[] }
noncomputable abbrev ob96 : Obj := ofDef0 (st := inSt 6 6) rfl (Str.ofString "FQ.__sub__")
noncomputable abbrev ob97 : Obj := { cls := Value.type "code", data := Data.fields #[Value.str (Str.ofString "__sub__") 293, Value.str (Str.ofString "FQ.__sub__") 294, Value.str (Str.ofString "/claim/cut.py") 295, Value.int 73 0, Value.int 2 0, Value.int 0 0, Value.int 0 0, Value.int 3 0, Value.ref 92, Value.bool true, Value.int 181 0, Value.ref 93, Value.none, Value.ref 94, Value.ref 95, Value.ref 96, Value.int 299 0, Value.int 73 0, Value.str (Str.ofString "/claim/cut.py") 300] }
noncomputable abbrev ob98 : Obj := ofDef (st := inSt 6 6) rfl (Str.ofString "FQ.__sub__") (Value.str (Str.ofString "py_ecc.fields.optimized_field_elements") 219) (Value.ref 97)
noncomputable abbrev ob99 : Obj := { cls := Value.type "tuple", data := Data.seq #[] }
noncomputable abbrev ob100 : Obj := { cls := Value.none, data := Data.fields #[] }
noncomputable abbrev ob101 : Obj := { cls := Value.type "tuple", data := Data.seq #[Value.str (Str.ofString "self") 305, Value.str (Str.ofString "other") 306] }
noncomputable abbrev ob102 : Obj := { cls := Value.type "tuple", data := Data.seq #[] }
noncomputable abbrev ob103 : Obj := ofDef0 (st := inSt 6 7) rfl (Str.ofString "FQ.__mod__")
noncomputable abbrev ob104 : Obj := { cls := Value.type "code", data := Data.fields #[Value.str (Str.ofString "__mod__") 302, Value.str (Str.ofString "FQ.__mod__") 303, Value.str (Str.ofString "/claim/cut.py") 304, Value.int 82 0, Value.int 2 0, Value.int 0 0, Value.int 0 0, Value.int 3 0, Value.ref 99, Value.bool true, Value.int 181 0, Value.ref 100, Value.none, Value.ref 101, Value.ref 102, Value.ref 103, Value.int 307 0, Value.int 82 0, Value.str (Str.ofString "/claim/cut.py") 308] }
noncomputable abbrev ob105 : Obj := ofDef (st := inSt 6 7) rfl (Str.ofString "FQ.__mod__") (Value.str (Str.ofString "py_ecc.fields.optimized_field_elements") 219) (Value.ref 104)
noncomputable abbrev ob106 : Obj := { cls := Value.type "tuple", data := Data.seq #[] }
noncomputable abbrev ob107 : Obj := { cls := Value.none, data := Data.fields #[] }
noncomputable abbrev ob108 : Obj := { cls := Value.type "tuple", data := Data.seq #[Value.str (Str.ofString "self") 313, Value.str (Str.ofString "other") 314, Value.str (Str.ofString "on") 315] }
noncomputable abbrev ob109 : Obj := { cls := Value.type "tuple", data := Data.seq #[] }
noncomputable abbrev ob110 : Obj := ofDef0 (st := inSt 6 8) rfl (Str.ofString "FQ.__truediv__")
noncomputable abbrev ob111 : Obj := { cls := Value.type "code", data := Data.fields #[Value.str (Str.ofString "__truediv__") 310, Value.str (Str.ofString "FQ.__truediv__") 311, Value.str (Str.ofString "/claim/cut.py") 312, Value.int 85 0, Value.int 2 0, Value.int 0 0, Value.int 0 0, Value.int 3 0, Value.ref 106, Value.bool true, Value.int 181 0, Value.ref 107, Value.none, Value.ref 108, Value.ref 109, Value.ref 110, Value.int 316 0, Value.int 85 0, Value.str (Str.ofString "/claim/cut.py") 317] }
noncomputable abbrev ob112 : Obj := ofDef (st := inSt 6 8) rfl (Str.ofString "FQ.__truediv__") (Value.str (Str.ofString "py_ecc.fields.optimized_field_elements") 219) (Value.ref 111)
noncomputable abbrev ob113 : Obj := { cls := Value.type "tuple", data := Data.seq #[] }
noncomputable abbrev ob114 : Obj := { cls := Value.none, data := Data.fields #[] }
noncomputable abbrev ob115 : Obj := { cls := Value.type "tuple", data := Data.seq #[Value.str (Str.ofString "self") 322, Value.str (Str.ofString "other") 323, Value.str (Str.ofString "on") 324] }
noncomputable abbrev ob116 : Obj := { cls := Value.type "tuple", data := Data.seq #[] }
noncomputable abbrev ob117 : Obj := ofDef0 (st := inSt 6 9) rfl (Str.ofString "FQ.__rtruediv__")
noncomputable abbrev ob118 : Obj := { cls := Value.type "code", data := Data.fields #[Value.str (Str.ofString "__rtruediv__") 319, Value.str (Str.ofString "FQ.__rtruediv__") 320, Value.str (Str.ofString "/claim/cut.py") 321, Value.int 94 0, Value.int 2 0, Value.int 0 0, Value.int 0 0, Value.int 3 0, Value.ref 113, Value.bool true, Value.int 181 0, Value.ref 114, Value.none, Value.ref 115, Value.ref 116, Value.ref 117, Value.int 325 0, Value.int 94 0, Value.str (Str.ofString "/claim/cut.py") 326] }
noncomputable abbrev ob119 : Obj := ofDef (st := inSt 6 9) rfl (Str.ofString "FQ.__rtruediv__") (Value.str (Str.ofString "py_ecc.fields.optimized_field_elements") 219) (Value.ref 118)
noncomputable abbrev ob120 : Obj := { cls := Value.type "tuple", data := Data.seq #[] }
noncomputable abbrev ob121 : Obj := { cls := Value.none, data := Data.fields #[] }
noncomputable abbrev ob122 : Obj := { cls := Value.type "tuple", data := Data.seq #[Value.str (Str.ofString "self") 331, Value.str (Str.ofString "other") 332] }
noncomputable abbrev ob123 : Obj := { cls := Value.type "tuple", data := Data.seq #[] }
noncomputable abbrev ob124 : Obj := ofDef0 (st := inSt 6 10) rfl (Str.ofString "FQ.__pow__")
noncomputable abbrev ob125 : Obj := { cls := Value.type "code", data := Data.fields #[Value.str (Str.ofString "__pow__") 328, Value.str (Str.ofString "FQ.__pow__") 329, Value.str (Str.ofString "/claim/cut.py") 330, Value.int 103 0, Value.int 2 0, Value.int 0 0, Value.int 0 0, Value.int 3 0, Value.ref 120, Value.bool true, Value.int 181 0, Value.ref 121, Value.none, Value.ref 122, Value.ref 123, Value.ref 124, Value.int 333 0, Value.int 103 0, Value.str (Str.ofString "/claim/cut.py") 334] }
noncomputable abbrev ob126 : Obj := ofDef (st := inSt 6 10) rfl (Str.ofString "FQ.__pow__") (Value.str (Str.ofString "py_ecc.fields.optimized_field_elements") 219) (Value.ref 125)
noncomputable abbrev ob127 : Obj := { cls := Value.type "tuple", data := Data.seq #[] }
noncomputable abbrev ob128 : Obj := { cls := Value.none, data := Data.fields #[] }
noncomputable abbrev ob129 : Obj := { cls := Value.type "tuple", data := Data.seq #[Value.str (Str.ofString "self") 339, Value.str (Str.ofString "other") 340] }
noncomputable abbrev ob130 : Obj := { cls := Value.type "tuple", data := Data.seq #[] }
noncomputable abbrev ob131 : Obj := ofDef0 (st := inSt 6 11) rfl (Str.ofString "FQ.__eq__")
noncomputable abbrev ob132 : Obj := { cls := Value.type "code", data := Data.fields #[Value.str (Str.ofString "__eq__") 336, Value.str (Str.ofString "FQ.__eq__") 337, Value.str (Str.ofString "/claim/cut.py") 338, Value.int 113 0, Value.int 2 0, Value.int 0 0, Value.int 0 0, Value.int 3 0, Value.ref 127, Value.bool true, Value.int 181 0, Value.ref 128, Value.none, Value.ref 129, Value.ref 130, Value.ref 131, Value.int 341 0, Value.int 113 0, Value.str (Str.ofString "/claim/cut.py") 342] }
noncomputable abbrev ob133 : Obj := ofDef (st := inSt 6 11) rfl (Str.ofString "FQ.__eq__") (Value.str (Str.ofString "py_ecc.fields.optimized_field_elements") 219) (Value.ref 132)
noncomputable abbrev ob134 : Obj := { cls := Value.type "tuple", data := Data.seq #[] }
noncomputable abbrev ob135 : Obj := { cls := Value.none, data := Data.fields #[] }
noncomputable abbrev ob136 : Obj := { cls := Value.type "tuple", data := Data.seq #[Value.str (Str.ofString "self") 347, Value.str (Str.ofString "other") 348] }
noncomputable abbrev ob137 : Obj := { cls := Value.type "tuple", data := Data.seq #[] }
noncomputable abbrev ob138 : Obj := ofDef0 (st := inSt 6 12) rfl (Str.ofString "FQ.__ne__")
noncomputable abbrev ob139 : Obj := { cls := Value.type "code", data := Data.fields #[Value.str (Str.ofString "__ne__") 344, Value.str (Str.ofString "FQ.__ne__") 345, Value.str (Str.ofString "/claim/cut.py") 346, Value.int 121 0, Value.int 2 0, Value.int 0 0, Value.int 0 0, Value.int 3 0, Value.ref 134, Value.bool true, Value.int 181 0, Value.ref 135, Value.none, Value.ref 136, Value.ref 137, Value.ref 138, Value.int 349 0, Value.int 121 0, Value.str (Str.ofString "/claim/cut.py") 350] }
noncomputable abbrev ob140 : Obj := ofDef (st := inSt 6 12) rfl (Str.ofString "FQ.__ne__") (Value.str (Str.ofString "py_ecc.fields.optimized_field_elements") 219) (Value.ref 139)
noncomputable abbrev ob141 : Obj := { cls := Value.type "tuple", data := Data.seq #[] }
noncomputable abbrev ob142 : Obj := { cls := Value.none, data := Data.fields #[] }
noncomputable abbrev ob143 : Obj := { cls := Value.type "tuple", data := Data.seq #[Value.str (Str.ofString "self") 355] }
noncomputable abbrev ob144 : Obj := { cls := Value.type "tuple", data := Data.seq #[] }
noncomputable abbrev ob145 : Obj := ofDef0 (st := inSt 6 13) rfl (Str.ofString "FQ.__neg__")
noncomputable abbrev ob146 : Obj := { cls := Value.type "code", data := Data.fields #[Value.str (Str.ofString "__neg__") 352, Value.str (Str.ofString "FQ.__neg__") 353, Value.str (Str.ofString "/claim/cut.py") 354, Value.int 124 0, Value.int 1 0, Value.int 0 0, Value.int 0 0, Value.int 3 0, Value.ref 141, Value.bool true, Value.int 181 0, Value.ref 142, Value.none, Value.ref 143, Value.ref 144, Value.ref 145, Value.int 356 0, Value.int 124 0, Value.str (Str.ofString "/claim/cut.py") 357] }
noncomputable abbrev ob147 : Obj := ofDef (st := inSt 6 13) rfl (Str.ofString "FQ.__neg__") (Value.str (Str.ofString "py_ecc.fields.optimized_field_elements") 219) (Value.ref 146)
noncomputable abbrev ob148 : Obj := { cls := Value.type "tuple", data := Data.seq #[] }
noncomputable abbrev ob149 : Obj := { cls := Value.none, data := Data.fields #[] }
noncomputable abbrev ob150 : Obj := { cls := Value.type "tuple", data := Data.seq #[Value.str (Str.ofString "self") 362] }
noncomputable abbrev ob151 : Obj := { cls := Value.type "tuple", data := Data.seq #[] }
noncomputable abbrev ob152 : Obj := ofDef0 (st := inSt 6 14) rfl (Str.ofString "FQ.__repr__")
noncomputable abbrev ob153 : Obj := { cls := Value.type "code", data := Data.fields #[Value.str (Str.ofString "__repr__") 359, Value.str (Str.ofString "FQ.__repr__") 360, Value.str (Str.ofString "/claim/cut.py") 361, Value.int 127 0, Value.int 1 0, Value.int 0 0, Value.int 0 0, Value.int 3 0, Value.ref 148, Value.bool true, Value.int 181 0, Value.ref 149, Value.none, Value.ref 150, Value.ref 151, Value.ref 152, Value.int 363 0, Value.int 127 0, Value.str (Str.ofString "/claim/cut.py") 364] }
noncomputable abbrev ob154 : Obj := ofDef (st := inSt 6 14) rfl (Str.ofString "FQ.__repr__") (Value.str (Str.ofString "py_ecc.fields.optimized_field_elements") 219) (Value.ref 153)
noncomputable abbrev ob155 : Obj := { cls := Value.type "tuple", data := Data.seq #[] }
noncomputable abbrev ob156 : Obj := { cls := Value.none, data := Data.fields #[] }
noncomputable abbrev ob157 : Obj := { cls := Value.type "tuple", data := Data.seq #[Value.str (Str.ofString "self") 369] }
noncomputable abbrev ob158 : Obj := { cls := Value.type "tuple", data := Data.seq #[] }
noncomputable abbrev ob159 : Obj := ofDef0 (st := inSt 6 15) rfl (Str.ofString "FQ.__int__")
noncomputable abbrev ob160 : Obj := { cls := Value.type "code", data := Data.fields #[Value.str (Str.ofString "__int__") 366, Value.str (Str.ofString "FQ.__int__") 367, Value.str (Str.ofString "/claim/cut.py") 368, Value.int 130 0, Value.int 1 0, Value.int 0 0, Value.int 0 0, Value.int 3 0, Value.ref 155, Value.bool true, Value.int 181 0, Value.ref 156, Value.none, Value.ref 157, Value.ref 158, Value.ref 159, Value.int 370 0, Value.int 130 0, Value.str (Str.ofString "/claim/cut.py") 371] }
noncomputable abbrev ob161 : Obj := ofDef (st := inSt 6 15) rfl (Str.ofString "FQ.__int__") (Value.str (Str.ofString "py_ecc.fields.optimized_field_elements") 219) (Value.ref 160)
noncomputable abbrev ob162 : Obj := { cls := Value.type "tuple", data := Data.seq #[] }
noncomputable abbrev ob163 : Obj := { cls := Value.none, data := Data.fields #[] }
noncomputable abbrev ob164 : Obj := { cls := Value.type "tuple", data := Data.seq #[Value.str (Str.ofString "self") 376, Value.str (Str.ofString "other") 377, Value.str (Str.ofString "on") 378] }
noncomputable abbrev ob165 : Obj := { cls := Value.type "tuple", data := Data.seq #[] }
noncomputable abbrev ob166 : Obj := ofDef0 (st := inSt 6 16) rfl (Str.ofString "FQ.__lt__")
noncomputable abbrev ob167 : Obj := { cls := Value.type "code", data := Data.fields #[Value.str (Str.ofString "__lt__") 373, Value.str (Str.ofString "FQ.__lt__") 374, Value.str (Str.ofString "/claim/cut.py") 375, Value.int 133 0, Value.int 2 0, Value.int 0 0, Value.int 0 0, Value.int 3 0, Value.ref 162, Value.bool true, Value.int 181 0, Value.ref 163, Value.none, Value.ref 164, Value.ref 165, Value.ref 166, Value.int 379 0, Value.int 133 0, Value.str (Str.ofString "/claim/cut.py") 380] }
noncomputable abbrev ob168 : Obj := ofDef (st := inSt 6 16) rfl (Str.ofString "FQ.__lt__") (Value.str (Str.ofString "py_ecc.fields.optimized_field_elements") 219) (Value.ref 167)
noncomputable abbrev ob169 : Obj := { cls := Value.type "tuple", data := Data.seq #[] }
noncomputable abbrev ob170 : Obj := { cls := Value.none, data := Data.fields #[] }
noncomputable abbrev ob171 : Obj := { cls := Value.type "tuple", data := Data.seq #[Value.str (Str.ofString "self") 385] }
noncomputable abbrev ob172 : Obj := { cls := Value.type "tuple", data := Data.seq #[] }
noncomputable abbrev ob173 : Obj := ofDef0 (st := inSt 6 17) rfl (Str.ofString "FQ.sgn0")
noncomputable abbrev ob174 : Obj := { cls := Value.type "code", data := Data.fields #[Value.str (Str.ofString "sgn0") 382, Value.str (Str.ofString "FQ.sgn0") 383, Value.str (Str.ofString "/claim/cut.py") 384, Value.int 142 0, Value.int 1 0, Value.int 0 0, Value.int 0 0, Value.int 3 0, Value.ref 169, Value.bool true, Value.int 181 0, Value.ref 170, Value.none, Value.ref 171, Value.ref 172, Value.ref 173, Value.int 386 0, Value.int 142 0, Value.str (Str.ofString "/claim/cut.py") 387] }
noncomputable abbrev ob175 : Obj := ofDef (st := inSt 6 17) rfl (Str.ofString "FQ.sgn0") (Value.str (Str.ofString "py_ecc.fields.optimized_field_elements") 219) (Value.ref 174)
noncomputable abbrev ob176 : Obj := { cls := Value.type "property", data := Data.fields #[Value.ref 175, Value.none, Value.none, Value.none, Value.str (Str.ofString "sgn0") 389, Value.bool false] }
noncomputable abbrev ob177 : Obj := { cls := Value.type "tuple", data := Data.seq #[] }
noncomputable abbrev ob178 : Obj := { cls := Value.none, data := Data.fields #[] }
noncomputable abbrev ob179 : Obj := { cls := Value.type "tuple", data := Data.seq #[Value.str (Str.ofString "self") 393, Value.str (Str.ofString "val") 394] }
noncomputable abbrev ob180 : Obj := { cls := Value.type "tuple", data := Data.seq #[] }
noncomputable abbrev ob181 : Obj := ofDef0 (st := inSt 6 18) rfl (Str.ofString "FQ.made")
noncomputable abbrev ob182 : Obj := { cls := Value.type "code", data := Data.fields #[Value.str (Str.ofString "made") 390, Value.str (Str.ofString "FQ.made") 391, Value.str (Str.ofString "/claim/cut.py") 392, Value.int 146 0, Value.int 2 0, Value.int 0 0, Value.int 0 0, Value.int 3 0, Value.ref 177, Value.bool true, Value.int 181 0, Value.ref 178, Value.none, Value.ref 179, Value.ref 180, Value.ref 181, Value.int 395 0, Value.int 146 0, Value.str (Str.ofString "/claim/cut.py") 396] }
noncomputable abbrev ob183 : Obj := ofDef (st := inSt 6 18) rfl (Str.ofString "FQ.made") (Value.str (Str.ofString "py_ecc.fields.optimized_field_elements") 219) (Value.ref 182)
noncomputable abbrev ob184 : Obj := { cls := Value.type "tuple", data := Data.seq #[] }
noncomputable abbrev ob185 : Obj := { cls := Value.none, data := Data.fields #[] }
noncomputable abbrev ob186 : Obj := { cls := Value.type "tuple", data := Data.seq #[Value.str (Str.ofString "self") 401] }
noncomputable abbrev ob187 : Obj := { cls := Value.type "tuple", data := Data.seq #[] }
noncomputable abbrev ob188 : Obj := ofDef0 (st := inSt 6 19) rfl (Str.ofString "FQ.one")
noncomputable abbrev ob189 : Obj := { cls := Value.type "code", data := Data.fields #[Value.str (Str.ofString "one") 398, Value.str (Str.ofString "FQ.one") 399, Value.str (Str.ofString "/claim/cut.py") 400, Value.int 149 0, Value.int 1 0, Value.int 0 0, Value.int 0 0, Value.int 3 0, Value.ref 184, Value.bool true, Value.int 181 0, Value.ref 185, Value.none, Value.ref 186, Value.ref 187, Value.ref 188, Value.int 402 0, Value.int 149 0, Value.str (Str.ofString "/claim/cut.py") 403] }
noncomputable abbrev ob190 : Obj := ofDef (st := inSt 6 19) rfl (Str.ofString "FQ.one") (Value.str (Str.ofString "py_ecc.fields.optimized_field_elements") 219) (Value.ref 189)
noncomputable abbrev ob191 : Obj := { cls := Value.type "tuple", data := Data.seq #[] }
noncomputable abbrev ob192 : Obj := { cls := Value.none, data := Data.fields #[] }
noncomputable abbrev ob193 : Obj := { cls := Value.type "tuple", data := Data.seq #[Value.str (Str.ofString "self") 408] }
noncomputable abbrev ob194 : Obj := { cls := Value.type "tuple", data := Data.seq #[] }
noncomputable abbrev ob195 : Obj := ofDef0 (st := inSt 6 20) rfl (Str.ofString "FQ.zero")
noncomputable abbrev ob196 : Obj := { cls := Value.type "code", data := Data.fields #[Value.str (Str.ofString "zero") 405, Value.str (Str.ofString "FQ.zero") 406, Value.str (Str.ofString "/claim/cut.py") 407, Value.int 152 0, Value.int 1 0, Value.int 0 0, Value.int 0 0, Value.int 3 0, Value.ref 191, Value.bool true, Value.int 181 0, Value.ref 192, Value.none, Value.ref 193, Value.ref 194, Value.ref 195, Value.int 409 0, Value.int 152 0, Value.str (Str.ofString "/claim/cut.py") 410] }
noncomputable abbrev ob197 : Obj := ofDef (st := inSt 6 20) rfl (Str.ofString "FQ.zero") (Value.str (Str.ofString "py_ecc.fields.optimized_field_elements") 219) (Value.ref 196)
noncomputable abbrev ob198 : Obj := { cls := Value.type "tuple", data := Data.seq #[Value.str (Str.ofString "field_modulus") 412, Value.str (Str.ofString "n") 413] }
noncomputable abbrev ob199 (P : Params) : Obj := { cls := Value.type "dict", data := Data.dict #[{ hash := PyData.keyHash P (Str.ofString "__module__"), key := Value.str (Str.ofString "__module__") 236, val := Value.str (Str.ofString "py_ecc.fields.optimized_field_elements") 219 }, { hash := PyData.keyHash P (Str.ofString "__firstlineno__"), key := Value.str (Str.ofString "__firstlineno__") 240, val := Value.int 29 239 }, { hash := PyData.keyHash P (Str.ofString "__init__"), key := Value.str (Str.ofString "__init__") 249, val := Value.ref 56 }, { hash := PyData.keyHash P (Str.ofString "__add__"), key := Value.str (Str.ofString "__add__") 258, val := Value.ref 63 }, { hash := PyData.keyHash P (Str.ofString "__mul__"), key := Value.str (Str.ofString "__mul__") 267, val := Value.ref 70 }, { hash := PyData.keyHash P (Str.ofString "__rmul__"), key := Value.str (Str.ofString "__rmul__") 275, val := Value.ref 77 }, { hash := PyData.keyHash P (Str.ofString "__radd__"), key := Value.str (Str.ofString "__radd__") 283, val := Value.ref 84 }, { hash := PyData.keyHash P (Str.ofString "__rsub__"), key := Value.str (Str.ofString "__rsub__") 292, val := Value.ref 91 }, { hash := PyData.keyHash P (Str.ofString "__sub__"), key := Value.str (Str.ofString "__sub__") 301, val := Value.ref 98 }, { hash := PyData.keyHash P (Str.ofString "__mod__"), key := Value.str (Str.ofString "__mod__") 309, val := Value.ref 105 }, { hash := PyData.keyHash P (Str.ofString "__truediv__"), key := Value.str (Str.ofString "__truediv__") 318, val := Value.ref 112 }, { hash := PyData.keyHash P (Str.ofString "__rtruediv__"), key := Value.str (Str.ofString "__rtruediv__") 327, val := Value.ref 119 }, { hash := PyData.keyHash P (Str.ofString "__pow__"), key := Value.str (Str.ofString "__pow__") 335, val := Value.ref 126 }, { hash := PyData.keyHash P (Str.ofString "__eq__"), key := Value.str (Str.ofString "__eq__") 343, val := Value.ref 133 }, { hash := PyData.keyHash P (Str.ofString "__ne__"), key := Value.str (Str.ofString "__ne__") 351, val := Value.ref 140 }, { hash := PyData.keyHash P (Str.ofString "__neg__"), key := Value.str (Str.ofString "__neg__") 358, val := Value.ref 147 }, { hash := PyData.keyHash P (Str.ofString "__repr__"), key := Value.str (Str.ofString "__repr__") 365, val := Value.ref 154 }, { hash := PyData.keyHash P (Str.ofString "__int__"), key := Value.str (Str.ofString "__int__") 372, val := Value.ref 161 }, { hash := PyData.keyHash P (Str.ofString "__lt__"), key := Value.str (Str.ofString "__lt__") 381, val := Value.ref 168 }, { hash := PyData.keyHash P (Str.ofString "sgn0"), key := Value.str (Str.ofString "sgn0") 389, val := Value.ref 176 }, { hash := PyData.keyHash P (Str.ofString "made"), key := Value.str (Str.ofString "made") 397, val := Value.ref 183 }, { hash := PyData.keyHash P (Str.ofString "one"), key := Value.str (Str.ofString "one") 404, val := Value.ref 190 }, { hash := PyData.keyHash P (Str.ofString "zero"), key := Value.str (Str.ofString "zero") 411, val := Value.ref 197 }, { hash := PyData.keyHash P (Str.ofString "__static_attributes__"), key := Value.str (Str.ofString "__static_attributes__") 414, val := Value.ref 198 }, { hash := PyData.keyHash P (Str.ofString "__dict__"), key := Value.str (Str.ofString "__dict__") 416, val := Value.ref 201 }, { hash := PyData.keyHash P (Str.ofString "__weakref__"), key := Value.str (Str.ofString "__weakref__") 418, val := Value.ref 202 }, { hash := PyData.keyHash P (Str.ofString "__doc__"), key := Value.str (Str.ofString "__doc__") 419, val := Value.none }, { hash := PyData.keyHash P (Str.ofString "__hash__"), key := Value.str (Str.ofString "__hash__") 420, val := Value.none }] 5 }
noncomputable abbrev ob200 : Obj := { cls := Value.type "type", data := Data.cls { name := Str.ofString "FQ", bases := [Value.type "object"], mro := [Value.ref 200, Value.type "object"], ns := 199, qualname := Str.ofString "FQ" }, slots := #[none, none, some (Value.str (Str.ofString "FQ") 229), some (Value.str (Str.ofString "FQ") 237), some (Value.builtin "object.__new__"), some (Value.bool true)] }
noncomputable abbrev ob201 : Obj := { cls := Value.type "getset_descriptor", data := Data.fields #[Value.str (Str.ofString "__dict__") 415, Value.ref 200, Value.builtin "function.__dict__", Value.builtin "function.__dict__#set"] }
noncomputable abbrev ob202 : Obj := { cls := Value.type "getset_descriptor", data := Data.fields #[Value.str (Str.ofString "__weakref__") 417, Value.ref 200, Value.builtin "ExceptionGroup.__weakref__", Value.none] }
noncomputable abbrev ob203 : Obj := { cls := Value.type "super", data := Data.fields #[Value.ref 200, Value.ref 200, Value.ref 200] }
noncomputable abbrev ob204 : Obj := { cls := Value.type "builtin_function_or_method", data := Data.fields #[Value.builtin "object.__init_subclass__", Value.ref 200] }
noncomputable abbrev ob205 : Obj := { cls := Value.type "tuple", data := Data.seq #[] }
noncomputable abbrev ob206 : Obj := { cls := Value.type "builtin_function_or_method", data := Data.fields #[Value.builtin "type.__prepare__", Value.type "type"] }
noncomputable abbrev ob207 (P : Params) : Obj := { cls := Value.type "dict", data := Data.dict #[{ hash := PyData.keyHash P (Str.ofString "__module__"), key := Value.str (Str.ofString "__module__") 430, val := Value.str (Str.ofString "py_ecc.fields.optimized_field_elements") 219 }, { hash := PyData.keyHash P (Str.ofString "__qualname__"), key := Value.str (Str.ofString "__qualname__") 432, val := Value.str (Str.ofString "FQP") 431 }, { hash := PyData.keyHash P (Str.ofString "__firstlineno__"), key := Value.str (Str.ofString "__firstlineno__") 434, val := Value.int 154 433 }, { hash := PyData.keyHash P (Str.ofString "__init__"), key := Value.str (Str.ofString "__init__") 440, val := Value.ref 216 }, { hash := PyData.keyHash P (Str.ofString "made"), key := Value.str (Str.ofString "made") 448, val := Value.ref 223 }, { hash := PyData.keyHash P (Str.ofString "__add__"), key := Value.str (Str.ofString "__add__") 454, val := Value.ref 228 }, { hash := PyData.keyHash P (Str.ofString "__sub__"), key := Value.str (Str.ofString "__sub__") 460, val := Value.ref 233 }, { hash := PyData.keyHash P (Str.ofString "__mod__"), key := Value.str (Str.ofString "__mod__") 468, val := Value.ref 240 }, { hash := PyData.keyHash P (Str.ofString "__mul__"), key := Value.str (Str.ofString "__mul__") 474, val := Value.ref 245 }, { hash := PyData.keyHash P (Str.ofString "__rmul__"), key := Value.str (Str.ofString "__rmul__") 482, val := Value.ref 252 }, { hash := PyData.keyHash P (Str.ofString "__truediv__"), key := Value.str (Str.ofString "__truediv__") 488, val := Value.ref 257 }, { hash := PyData.keyHash P (Str.ofString "__pow__"), key := Value.str (Str.ofString "__pow__") 498, val := Value.ref 264 }, { hash := PyData.keyHash P (Str.ofString "optimized_poly_rounded_div"), key := Value.str (Str.ofString "optimized_poly_rounded_div") 504, val := Value.ref 269 }, { hash := PyData.keyHash P (Str.ofString "inv"), key := Value.str (Str.ofString "inv") 510, val := Value.ref 274 }, { hash := PyData.keyHash P (Str.ofString "__repr__"), key := Value.str (Str.ofString "__repr__") 517, val := Value.ref 281 }, { hash := PyData.keyHash P (Str.ofString "__eq__"), key := Value.str (Str.ofString "__eq__") 527, val := Value.ref 288 }, { hash := PyData.keyHash P (Str.ofString "__ne__"), key := Value.str (Str.ofString "__ne__") 535, val := Value.ref 295 }, { hash := PyData.keyHash P (Str.ofString "__neg__"), key := Value.str (Str.ofString "__neg__") 541, val := Value.ref 300 }, { hash := PyData.keyHash P (Str.ofString "sgn0"), key := Value.str (Str.ofString "sgn0") 554, val := Value.ref 308 }, { hash := PyData.keyHash P (Str.ofString "one"), key := Value.str (Str.ofString "one") 561, val := Value.ref 315 }, { hash := PyData.keyHash P (Str.ofString "zero"), key := Value.str (Str.ofString "zero") 568, val := Value.ref 322 }, { hash := PyData.keyHash P (Str.ofString "__static_attributes__"), key := Value.str (Str.ofString "__static_attributes__") 574, val := Value.ref 323 }] 22 }
noncomputable abbrev ob208 : Obj := { cls := Value.type "tuple", data := Data.seq #[] }
noncomputable abbrev ob209 : Obj := { cls := Value.none, data := Data.fields #[Value.int 156 0, Value.int 4 0, Value.ref 215, Value.int 168 0, Value.int 4 0, Value.ref 222, Value.int 171 0, Value.int 4 0, Value.ref 227, Value.int 176 0, Value.int 4 0, Value.ref 232, Value.int 181 0, Value.int 4 0, Value.ref 239, Value.int 184 0, Value.int 4 0, Value.ref 244, Value.int 201 0, Value.int 4 0, Value.ref 251, Value.int 204 0, Value.int 4 0, Value.ref 256, Value.int 212 0, Value.int 4 0, Value.ref 263, Value.int 222 0, Value.int 4 0, Value.ref 268, Value.int 233 0, Value.int 4 0, Value.ref 273, Value.int 250 0, Value.int 4 0, Value.ref 280, Value.int 253 0, Value.int 4 0, Value.ref 287, Value.int 261 0, Value.int 4 0, Value.ref 294, Value.int 264 0, Value.int 4 0, Value.ref 299, Value.int 268 0, Value.int 4 0, Value.ref 306, Value.int 278 0, Value.int 4 0, Value.ref 314, Value.int 281 0, Value.int 4 0, Value.ref 321] }
noncomputable abbrev ob210 : Obj := { cls := Value.type "code", data := Data.fields #[Value.str (Str.ofString "FQP") 425, Value.str (Str.ofString "FQP") 426, Value.str (Str.ofString "/claim/cut.py") 427, Value.int 154 0, Value.int 0 0, Value.int 0 0, Value.int 0 0, Value.int 0 0, Value.ref 208, Value.bool false, Value.int 181 0, Value.ref 209, Value.none, Value.none, Value.none, Value.none, Value.int 428 0, Value.int 154 0, Value.str (Str.ofString "/claim/cut.py") 429] }
noncomputable abbrev ob211 : Obj := { cls := Value.type "frame", slots := #[some (Value.ref 210), some (Value.ref 3), some (Value.ref 207), none, some (Value.str (Str.ofString "py_ecc.fields.optimized_field_elements") 219), none, some (Value.ref 0)] }
noncomputable abbrev ob212 : Obj := { cls := Value.type "tuple", data := Data.seq #[] }
noncomputable abbrev ob213 : Obj := { cls := Value.none, data := Data.fields #[] }
noncomputable abbrev ob214 : Obj := ofDef0 (st := inSt 7 0) rfl (Str.ofString "FQP.__init__")
noncomputable abbrev ob215 : Obj := { cls := Value.type "code", data := Data.fields #[Value.str (Str.ofString "__init__") 435, Value.str (Str.ofString "FQP.__init__") 436, Value.str (Str.ofString "/claim/cut.py") 437, Value.int 156 0, Value.int 4 0, Value.int 0 0, Value.int 0 0, Value.int 3 0, Value.ref 212, Value.bool true, Value.int 181 0, Value.ref 213, Value.none, Value.none, Value.none, Value.ref 214, Value.int 438 0, Value.int 156 0, Value.str (Str.ofString "/claim/cut.py") 439] }
noncomputable abbrev ob216 : Obj := ofDef (st := inSt 7 0) rfl (Str.ofString "FQP.__init__") (Value.str (Str.ofString "py_ecc.fields.optimized_field_elements") 219) (Value.ref 215)
noncomputable abbrev ob217 : Obj := { cls := Value.type "tuple", data := Data.seq #[] }
noncomputable abbrev ob218 : Obj := { cls := Value.none, data := Data.fields #[] }
noncomputable abbrev ob219 : Obj := { cls := Value.type "tuple", data := Data.seq #[Value.str (Str.ofString "self") 444, Value.str (Str.ofString "coeffs") 445] }
noncomputable abbrev ob220 : Obj := { cls := Value.type "tuple", data := Data.seq #[] }
noncomputable abbrev ob221 : Obj := ofDef0 (st := inSt 7 1) rfl (Str.ofString "FQP.made")
noncomputable abbrev ob222 : Obj := { cls := Value.type "code", data := Data.fields #[Value.str (Str.ofString "made") 441, Value.str (Str.ofString "FQP.made") 442, Value.str (Str.ofString "/claim/cut.py") 443, Value.int 168 0, Value.int 2 0, Value.int 0 0, Value.int 0 0, Value.int 3 0, Value.ref 217, Value.bool true, Value.int 181 0, Value.ref 218, Value.none, Value.ref 219, Value.ref 220, Value.ref 221, Value.int 446 0, Value.int 168 0, Value.str (Str.ofString "/claim/cut.py") 447] }
noncomputable abbrev ob223 : Obj := ofDef (st := inSt 7 1) rfl (Str.ofString "FQP.made") (Value.str (Str.ofString "py_ecc.fields.optimized_field_elements") 219) (Value.ref 222)
noncomputable abbrev ob224 : Obj := { cls := Value.type "tuple", data := Data.seq #[] }
noncomputable abbrev ob225 : Obj := { cls := Value.none, data := Data.fields #[] }
noncomputable abbrev ob226 : Obj := ofDef0 (st := inSt 7 2) rfl (Str.ofString "FQP.__add__")
noncomputable abbrev ob227 : Obj := { cls := Value.type "code", data := Data.fields #[Value.str (Str.ofString "__add__") 449, Value.str (Str.ofString "FQP.__add__") 450, Value.str (Str.ofString "/claim/cut.py") 451, Value.int 171 0, Value.int 2 0, Value.int 0 0, Value.int 0 0, Value.int 3 0, Value.ref 224, Value.bool true, Value.int 181 0, Value.ref 225, Value.none, Value.none, Value.none, Value.ref 226, Value.int 452 0, Value.int 171 0, Value.str (Str.ofString "/claim/cut.py") 453] }
noncomputable abbrev ob228 : Obj := ofDef (st := inSt 7 2) rfl (Str.ofString "FQP.__add__") (Value.str (Str.ofString "py_ecc.fields.optimized_field_elements") 219) (Value.ref 227)
noncomputable abbrev ob229 : Obj := { cls := Value.type "tuple", data := Data.seq #[] }
noncomputable abbrev ob230 : Obj := { cls := Value.none, data := Data.fields #[] }
noncomputable abbrev ob231 : Obj := ofDef0 (st := inSt 7 3) rfl (Str.ofString "FQP.__sub__")
noncomputable abbrev ob232 : Obj := { cls := Value.type "code", data := Data.fields #[Value.str (Str.ofString "__sub__") 455, Value.str (Str.ofString "FQP.__sub__") 456, Value.str (Str.ofString "/claim/cut.py") 457, Value.int 176 0, Value.int 2 0, Value.int 0 0, Value.int 0 0, Value.int 3 0, Value.ref 229, Value.bool true, Value.int 181 0, Value.ref 230, Value.none, Value.none, Value.none, Value.ref 231, Value.int 458 0, Value.int 176 0, Value.str (Str.ofString "/claim/cut.py") 459] }
noncomputable abbrev ob233 : Obj := ofDef (st := inSt 7 3) rfl (Str.ofString "FQP.__sub__") (Value.str (Str.ofString "py_ecc.fields.optimized_field_elements") 219) (Value.ref 232)
noncomputable abbrev ob234 : Obj := { cls := Value.type "tuple", data := Data.seq #[] }
noncomputable abbrev ob235 : Obj := { cls := Value.none, data := Data.fields #[] }
noncomputable abbrev ob236 : Obj := { cls := Value.type "tuple", data := Data.seq #[Value.str (Str.ofString "self") 464, Value.str (Str.ofString "other") 465] }
noncomputable abbrev ob237 : Obj := { cls := Value.type "tuple", data := Data.seq #[] }
noncomputable abbrev ob238 : Obj := ofDef0 (st := inSt 7 4) rfl (Str.ofString "FQP.__mod__")
noncomputable abbrev ob239 : Obj := { cls := Value.type "code", data := Data.fields #[Value.str (Str.ofString "__mod__") 461, Value.str (Str.ofString "FQP.__mod__") 462, Value.str (Str.ofString "/claim/cut.py") 463, Value.int 181 0, Value.int 2 0, Value.int 0 0, Value.int 0 0, Value.int 3 0, Value.ref 234, Value.bool true, Value.int 181 0, Value.ref 235, Value.none, Value.ref 236, Value.ref 237, Value.ref 238, Value.int 466 0, Value.int 181 0, Value.str (Str.ofString "/claim/cut.py") 467] }
noncomputable abbrev ob240 : Obj := ofDef (st := inSt 7 4) rfl (Str.ofString "FQP.__mod__") (Value.str (Str.ofString "py_ecc.fields.optimized_field_elements") 219) (Value.ref 239)
noncomputable abbrev ob241 : Obj := { cls := Value.type "tuple", data := Data.seq #[] }
noncomputable abbrev ob242 : Obj := { cls := Value.none, data := Data.fields #[] }
noncomputable abbrev ob243 : Obj := ofDef0 (st := inSt 7 5) rfl (Str.ofString "FQP.__mul__")
noncomputable abbrev ob244 : Obj := { cls := Value.type "code", data := Data.fields #[Value.str (Str.ofString "__mul__") 469, Value.str (Str.ofString "FQP.__mul__") 470, Value.str (Str.ofString "/claim/cut.py") 471, Value.int 184 0, Value.int 2 0, Value.int 0 0, Value.int 0 0, Value.int 3 0, Value.ref 241, Value.bool true, Value.int 181 0, Value.ref 242, Value.none, Value.none, Value.none, Value.ref 243, Value.int 472 0, Value.int 184 0, Value.str (Str.ofString "/claim/cut.py") 473] }
noncomputable abbrev ob245 : Obj := ofDef (st := inSt 7 5) rfl (Str.ofString "FQP.__mul__") (Value.str (Str.ofString "py_ecc.fields.optimized_field_elements") 219) (Value.ref 244)
noncomputable abbrev ob246 : Obj := { cls := Value.type "tuple", data := Data.seq #[] }
noncomputable abbrev ob247 : Obj := { cls := Value.none, data := Data.fields #[] }
noncomputable abbrev ob248 : Obj := { cls := Value.type "tuple", data := Data.seq #[Value.str (Str.ofString "self") 478, Value.str (Str.ofString "other") 479] }
noncomputable abbrev ob249 : Obj := { cls := Value.type "tuple", data := Data.seq #[] }
noncomputable abbrev ob250 : Obj := ofDef0 (st := inSt 7 6) rfl (Str.ofString "FQP.__rmul__")
noncomputable abbrev ob251 : Obj := { cls := Value.type "code", data := Data.fields #[Value.str (Str.ofString "__rmul__") 475, Value.str (Str.ofString "FQP.__rmul__") 476, Value.str (Str.ofString "/claim/cut.py") 477, Value.int 201 0, Value.int 2 0, Value.int 0 0, Value.int 0 0, Value.int 3 0, Value.ref 246, Value.bool true, Value.int 181 0, Value.ref 247, Value.none, Value.ref 248, Value.ref 249, Value.ref 250, Value.int 480 0, Value.int 201 0, Value.str (Str.ofString "/claim/cut.py") 481] }
noncomputable abbrev ob252 : Obj := ofDef (st := inSt 7 6) rfl (Str.ofString "FQP.__rmul__") (Value.str (Str.ofString "py_ecc.fields.optimized_field_elements") 219) (Value.ref 251)
noncomputable abbrev ob253 : Obj := { cls := Value.type "tuple", data := Data.seq #[] }
noncomputable abbrev ob254 : Obj := { cls := Value.none, data := Data.fields #[] }
noncomputable abbrev ob255 : Obj := ofDef0 (st := inSt 7 7) rfl (Str.ofString "FQP.__truediv__")
noncomputable abbrev ob256 : Obj := { cls := Value.type "code", data := Data.fields #[Value.str (Str.ofString "__truediv__") 483, Value.str (Str.ofString "FQP.__truediv__") 484, Value.str (Str.ofString "/claim/cut.py") 485, Value.int 204 0, Value.int 2 0, Value.int 0 0, Value.int 0 0, Value.int 3 0, Value.ref 253, Value.bool true, Value.int 181 0, Value.ref 254, Value.none, Value.none, Value.none, Value.ref 255, Value.int 486 0, Value.int 204 0, Value.str (Str.ofString "/claim/cut.py") 487] }
noncomputable abbrev ob257 : Obj := ofDef (st := inSt 7 7) rfl (Str.ofString "FQP.__truediv__") (Value.str (Str.ofString "py_ecc.fields.optimized_field_elements") 219) (Value.ref 256)
noncomputable abbrev ob258 : Obj := { cls := Value.type "tuple", data := Data.seq #[] }
noncomputable abbrev ob259 : Obj := { cls := Value.none, data := Data.fields #[] }
noncomputable abbrev ob260 : Obj := { cls := Value.type "tuple", data := Data.seq #[Value.str (Str.ofString "self") 492, Value.str (Str.ofString "other") 493, Value.str (Str.ofString "o") 494, Value.str (Str.ofString "t") 495] }
noncomputable abbrev ob261 : Obj := { cls := Value.type "tuple", data := Data.seq #[] }
noncomputable abbrev ob262 : Obj := ofDef0 (st := inSt 7 8) rfl (Str.ofString "FQP.__pow__")
noncomputable abbrev ob263 : Obj := { cls := Value.type "code", data := Data.fields #[Value.str (Str.ofString "__pow__") 489, Value.str (Str.ofString "FQP.__pow__") 490, Value.str (Str.ofString "/claim/cut.py") 491, Value.int 212 0, Value.int 2 0, Value.int 0 0, Value.int 0 0, Value.int 3 0, Value.ref 258, Value.bool true, Value.int 181 0, Value.ref 259, Value.none, Value.ref 260, Value.ref 261, Value.ref 262, Value.int 496 0, Value.int 212 0, Value.str (Str.ofString "/claim/cut.py") 497] }
noncomputable abbrev ob264 : Obj := ofDef (st := inSt 7 8) rfl (Str.ofString "FQP.__pow__") (Value.str (Str.ofString "py_ecc.fields.optimized_field_elements") 219) (Value.ref 263)
noncomputable abbrev ob265 : Obj := { cls := Value.type "tuple", data := Data.seq #[] }
noncomputable abbrev ob266 : Obj := { cls := Value.none, data := Data.fields #[] }
noncomputable abbrev ob267 : Obj := ofDef0 (st := inSt 7 9) rfl (Str.ofString "FQP.optimized_poly_rounded_div")
noncomputable abbrev ob268 : Obj := { cls := Value.type "code", data := Data.fields #[Value.str (Str.ofString "optimized_poly_rounded_div") 499, Value.str (Str.ofString "FQP.optimized_poly_rounded_div") 500, Value.str (Str.ofString "/claim/cut.py") 501, Value.int 222 0, Value.int 3 0, Value.int 0 0, Value.int 0 0, Value.int 3 0, Value.ref 265, Value.bool true, Value.int 181 0, Value.ref 266, Value.none, Value.none, Value.none, Value.ref 267, Value.int 502 0, Value.int 222 0, Value.str (Str.ofString "/claim/cut.py") 503] }
noncomputable abbrev ob269 : Obj := ofDef (st := inSt 7 9) rfl (Str.ofString "FQP.optimized_poly_rounded_div") (Value.str (Str.ofString "py_ecc.fields.optimized_field_elements") 219) (Value.ref 268)
noncomputable abbrev ob270 : Obj := { cls := Value.type "tuple", data := Data.seq #[] }
noncomputable abbrev ob271 : Obj := { cls := Value.none, data := Data.fields #[] }
noncomputable abbrev ob272 : Obj := ofDef0 (st := inSt 7 10) rfl (Str.ofString "FQP.inv")
noncomputable abbrev ob273 : Obj := { cls := Value.type "code", data := Data.fields #[Value.str (Str.ofString "inv") 505, Value.str (Str.ofString "FQP.inv") 506, Value.str (Str.ofString "/claim/cut.py") 507, Value.int 233 0, Value.int 1 0, Value.int 0 0, Value.int 0 0, Value.int 3 0, Value.ref 270, Value.bool true, Value.int 181 0, Value.ref 271, Value.none, Value.none, Value.none, Value.ref 272, Value.int 508 0, Value.int 233 0, Value.str (Str.ofString "/claim/cut.py") 509] }
noncomputable abbrev ob274 : Obj := ofDef (st := inSt 7 10) rfl (Str.ofString "FQP.inv") (Value.str (Str.ofString "py_ecc.fields.optimized_field_elements") 219) (Value.ref 273)
noncomputable abbrev ob275 : Obj := { cls := Value.type "tuple", data := Data.seq #[] }
noncomputable abbrev ob276 : Obj := { cls := Value.none, data := Data.fields #[] }
noncomputable abbrev ob277 : Obj := { cls := Value.type "tuple", data := Data.seq #[Value.str (Str.ofString "self") 514] }
noncomputable abbrev ob278 : Obj := { cls := Value.type "tuple", data := Data.seq #[] }
noncomputable abbrev ob279 : Obj := ofDef0 (st := inSt 7 11) rfl (Str.ofString "FQP.__repr__")
noncomputable abbrev ob280 : Obj := { cls := Value.type "code", data := Data.fields #[Value.str (Str.ofString "__repr__") 511, Value.str (Str.ofString "FQP.__repr__") 512, Value.str (Str.ofString "/claim/cut.py") 513, Value.int 250 0, Value.int 1 0, Value.int 0 0, Value.int 0 0, Value.int 3 0, Value.ref 275, Value.bool true, Value.int 181 0, Value.ref 276, Value.none, Value.ref 277, Value.ref 278, Value.ref 279, Value.int 515 0, Value.int 250 0, Value.str (Str.ofString "/claim/cut.py") 516] }
noncomputable abbrev ob281 : Obj := ofDef (st := inSt 7 11) rfl (Str.ofString "FQP.__repr__") (Value.str (Str.ofString "py_ecc.fields.optimized_field_elements") 219) (Value.ref 280)
noncomputable abbrev ob282 : Obj := { cls := Value.type "tuple", data := Data.seq #[] }
noncomputable abbrev ob283 : Obj := { cls := Value.none, data := Data.fields #[] }
noncomputable abbrev ob284 : Obj := { cls := Value.type "tuple", data := Data.seq #[Value.str (Str.ofString "self") 521, Value.str (Str.ofString "other") 522, Value.str (Str.ofString "c1") 523, Value.str (Str.ofString "c2") 524] }
noncomputable abbrev ob285 : Obj := { cls := Value.type "tuple", data := Data.seq #[] }
noncomputable abbrev ob286 : Obj := ofDef0 (st := inSt 7 12) rfl (Str.ofString "FQP.__eq__")
noncomputable abbrev ob287 : Obj := { cls := Value.type "code", data := Data.fields #[Value.str (Str.ofString "__eq__") 518, Value.str (Str.ofString "FQP.__eq__") 519, Value.str (Str.ofString "/claim/cut.py") 520, Value.int 253 0, Value.int 2 0, Value.int 0 0, Value.int 0 0, Value.int 3 0, Value.ref 282, Value.bool true, Value.int 181 0, Value.ref 283, Value.none, Value.ref 284, Value.ref 285, Value.ref 286, Value.int 525 0, Value.int 253 0, Value.str (Str.ofString "/claim/cut.py") 526] }
noncomputable abbrev ob288 : Obj := ofDef (st := inSt 7 12) rfl (Str.ofString "FQP.__eq__") (Value.str (Str.ofString "py_ecc.fields.optimized_field_elements") 219) (Value.ref 287)
noncomputable abbrev ob289 : Obj := { cls := Value.type "tuple", data := Data.seq #[] }
noncomputable abbrev ob290 : Obj := { cls := Value.none, data := Data.fields #[] }
noncomputable abbrev ob291 : Obj := { cls := Value.type "tuple", data := Data.seq #[Value.str (Str.ofString "self") 531, Value.str (Str.ofString "other") 532] }
noncomputable abbrev ob292 : Obj := { cls := Value.type "tuple", data := Data.seq #[] }
noncomputable abbrev ob293 : Obj := ofDef0 (st := inSt 7 13) rfl (Str.ofString "FQP.__ne__")
noncomputable abbrev ob294 : Obj := { cls := Value.type "code", data := Data.fields #[Value.str (Str.ofString "__ne__") 528, Value.str (Str.ofString "FQP.__ne__") 529, Value.str (Str.ofString "/claim/cut.py") 530, Value.int 261 0, Value.int 2 0, Value.int 0 0, Value.int 0 0, Value.int 3 0, Value.ref 289, Value.bool true, Value.int 181 0, Value.ref 290, Value.none, Value.ref 291, Value.ref 292, Value.ref 293, Value.int 533 0, Value.int 261 0, Value.str (Str.ofString "/claim/cut.py") 534] }
noncomputable abbrev ob295 : Obj := ofDef (st := inSt 7 13) rfl (Str.ofString "FQP.__ne__") (Value.str (Str.ofString "py_ecc.fields.optimized_field_elements") 219) (Value.ref 294)
noncomputable abbrev ob296 : Obj := { cls := Value.type "tuple", data := Data.seq #[] }
noncomputable abbrev ob297 : Obj := { cls := Value.none, data := Data.fields #[] }
noncomputable abbrev ob298 : Obj := ofDef0 (st := inSt 7 14) rfl (Str.ofString "FQP.__neg__")
noncomputable abbrev ob299 : Obj := { cls := Value.type "code", data := Data.fields #[Value.str (Str.ofString "__neg__") 536, Value.str (Str.ofString "FQP.__neg__") 537, Value.str (Str.ofString "/claim/cut.py") 538, Value.int 264 0, Value.int 1 0, Value.int 0 0, Value.int 0 0, Value.int 3 0, Value.ref 296, Value.bool true, Value.int 181 0, Value.ref 297, Value.none, Value.none, Value.none, Value.ref 298, Value.int 539 0, Value.int 264 0, Value.str (Str.ofString "/claim/cut.py") 540] }
noncomputable abbrev ob300 : Obj := ofDef (st := inSt 7 14) rfl (Str.ofString "FQP.__neg__") (Value.str (Str.ofString "py_ecc.fields.optimized_field_elements") 219) (Value.ref 299)
noncomputable abbrev ob301 : Obj := { cls := Value.type "tuple", data := Data.seq #[] }
noncomputable abbrev ob302 : Obj := { cls := Value.none, data := Data.fields #[] }
noncomputable abbrev ob303 : Obj := { cls := Value.type "tuple", data := Data.seq #[Value.str (Str.ofString "self") 545, Value.str (Str.ofString "sign") 546, Value.str (Str.ofString "zero") 547, Value.str (Str.ofString "x_i") 548, Value.str (Str.ofString "sign_i") 549, Value.str (Str.ofString "zero_i") 550] }
noncomputable abbrev ob304 : Obj := { cls := Value.type "tuple", data := Data.seq #[] }
noncomputable abbrev ob305 : Obj := ofDef0 (st := inSt 7 15) rfl (Str.ofString "FQP.sgn0")
noncomputable abbrev ob306 : Obj := { cls := Value.type "code", data := Data.fields #[Value.str (Str.ofString "sgn0") 542, Value.str (Str.ofString "FQP.sgn0") 543, Value.str (Str.ofString "/claim/cut.py") 544, Value.int 267 0, Value.int 1 0, Value.int 0 0, Value.int 0 0, Value.int 3 0, Value.ref 301, Value.bool true, Value.int 181 0, Value.ref 302, Value.none, Value.ref 303, Value.ref 304, Value.ref 305, Value.int 551 0, Value.int 267 0, Value.str (Str.ofString "/claim/cut.py") 552] }
noncomputable abbrev ob307 : Obj := ofDef (st := inSt 7 15) rfl (Str.ofString "FQP.sgn0") (Value.str (Str.ofString "py_ecc.fields.optimized_field_elements") 219) (Value.ref 306)
noncomputable abbrev ob308 : Obj := { cls := Value.type "property", data := Data.fields #[Value.ref 307, Value.none, Value.none, Value.none, Value.str (Str.ofString "sgn0") 554, Value.bool false] }
noncomputable abbrev ob309 : Obj := { cls := Value.type "tuple", data := Data.seq #[] }
noncomputable abbrev ob310 : Obj := { cls := Value.none, data := Data.fields #[] }
noncomputable abbrev ob311 : Obj := { cls := Value.type "tuple", data := Data.seq #[Value.str (Str.ofString "self") 558] }
noncomputable abbrev ob312 : Obj := { cls := Value.type "tuple", data := Data.seq #[] }
noncomputable abbrev ob313 : Obj := ofDef0 (st := inSt 7 16) rfl (Str.ofString "FQP.one")
noncomputable abbrev ob314 : Obj := { cls := Value.type "code", data := Data.fields #[Value.str (Str.ofString "one") 555, Value.str (Str.ofString "FQP.one") 556, Value.str (Str.ofString "/claim/cut.py") 557, Value.int 278 0, Value.int 1 0, Value.int 0 0, Value.int 0 0, Value.int 3 0, Value.ref 309, Value.bool true, Value.int 181 0, Value.ref 310, Value.none, Value.ref 311, Value.ref 312, Value.ref 313, Value.int 559 0, Value.int 278 0, Value.str (Str.ofString "/claim/cut.py") 560] }
noncomputable abbrev ob315 : Obj := ofDef (st := inSt 7 16) rfl (Str.ofString "FQP.one") (Value.str (Str.ofString "py_ecc.fields.optimized_field_elements") 219) (Value.ref 314)
noncomputable abbrev ob316 : Obj := { cls := Value.type "tuple", data := Data.seq #[] }
noncomputable abbrev ob317 : Obj := { cls := Value.none, data := Data.fields #[] }
noncomputable abbrev ob318 : Obj := { cls := Value.type "tuple", data := Data.seq #[Value.str (Str.ofString "self") 565] }
noncomputable abbrev ob319 : Obj := { cls := Value.type "tuple", data := Data.seq #[] }
noncomputable abbrev ob320 : Obj := ofDef0 (st := inSt 7 17) rfl (Str.ofString "FQP.zero")
noncomputable abbrev ob321 : Obj := { cls := Value.type "code", data := Data.fields #[Value.str (Str.ofString "zero") 562, Value.str (Str.ofString "FQP.zero") 563, Value.str (Str.ofString "/claim/cut.py") 564, Value.int 281 0, Value.int 1 0, Value.int 0 0, Value.int 0 0, Value.int 3 0, Value.ref 316, Value.bool true, Value.int 181 0, Value.ref 317, Value.none, Value.ref 318, Value.ref 319, Value.ref 320, Value.int 566 0, Value.int 281 0, Value.str (Str.ofString "/claim/cut.py") 567] }
noncomputable abbrev ob322 : Obj := ofDef (st := inSt 7 17) rfl (Str.ofString "FQP.zero") (Value.str (Str.ofString "py_ecc.fields.optimized_field_elements") 219) (Value.ref 321)
noncomputable abbrev ob323 : Obj := { cls := Value.type "tuple", data := Data.seq #[Value.str (Str.ofString "coeffs") 569, Value.str (Str.ofString "degree") 570, Value.str (Str.ofString "field_modulus") 571, Value.str (Str.ofString "mc_tuples") 572, Value.str (Str.ofString "modulus_coeffs") 573] }
noncomputable abbrev ob324 (P : Params) : Obj := { cls := Value.type "dict", data := Data.dict #[{ hash := PyData.keyHash P (Str.ofString "__module__"), key := Value.str (Str.ofString "__module__") 430, val := Value.str (Str.ofString "py_ecc.fields.optimized_field_elements") 219 }, { hash := PyData.keyHash P (Str.ofString "__firstlineno__"), key := Value.str (Str.ofString "__firstlineno__") 434, val := Value.int 154 433 }, { hash := PyData.keyHash P (Str.ofString "__init__"), key := Value.str (Str.ofString "__init__") 440, val := Value.ref 216 }, { hash := PyData.keyHash P (Str.ofString "made"), key := Value.str (Str.ofString "made") 448, val := Value.ref 223 }, { hash := PyData.keyHash P (Str.ofString "__add__"), key := Value.str (Str.ofString "__add__") 454, val := Value.ref 228 }, { hash := PyData.keyHash P (Str.ofString "__sub__"), key := Value.str (Str.ofString "__sub__") 460, val := Value.ref 233 }, { hash := PyData.keyHash P (Str.ofString "__mod__"), key := Value.str (Str.ofString "__mod__") 468, val := Value.ref 240 }, { hash := PyData.keyHash P (Str.ofString "__mul__"), key := Value.str (Str.ofString "__mul__") 474, val := Value.ref 245 }, { hash := PyData.keyHash P (Str.ofString "__rmul__"), key := Value.str (Str.ofString "__rmul__") 482, val := Value.ref 252 }, { hash := PyData.keyHash P (Str.ofString "__truediv__"), key := Value.str (Str.ofString "__truediv__") 488, val := Value.ref 257 }, { hash := PyData.keyHash P (Str.ofString "__pow__"), key := Value.str (Str.ofString "__pow__") 498, val := Value.ref 264 }, { hash := PyData.keyHash P (Str.ofString "optimized_poly_rounded_div"), key := Value.str (Str.ofString "optimized_poly_rounded_div") 504, val := Value.ref 269 }, { hash := PyData.keyHash P (Str.ofString "inv"), key := Value.str (Str.ofString "inv") 510, val := Value.ref 274 }, { hash := PyData.keyHash P (Str.ofString "__repr__"), key := Value.str (Str.ofString "__repr__") 517, val := Value.ref 281 }, { hash := PyData.keyHash P (Str.ofString "__eq__"), key := Value.str (Str.ofString "__eq__") 527, val := Value.ref 288 }, { hash := PyData.keyHash P (Str.ofString "__ne__"), key := Value.str (Str.ofString "__ne__") 535, val := Value.ref 295 }, { hash := PyData.keyHash P (Str.ofString "__neg__"), key := Value.str (Str.ofString "__neg__") 541, val := Value.ref 300 }, { hash := PyData.keyHash P (Str.ofString "sgn0"), key := Value.str (Str.ofString "sgn0") 554, val := Value.ref 308 }, { hash := PyData.keyHash P (Str.ofString "one"), key := Value.str (Str.ofString "one") 561, val := Value.ref 315 }, { hash := PyData.keyHash P (Str.ofString "zero"), key := Value.str (Str.ofString "zero") 568, val := Value.ref 322 }, { hash := PyData.keyHash P (Str.ofString "__static_attributes__"), key := Value.str (Str.ofString "__static_attributes__") 574, val := Value.ref 323 }, { hash := PyData.keyHash P (Str.ofString "__dict__"), key := Value.str (Str.ofString "__dict__") 576, val := Value.ref 326 }, { hash := PyData.keyHash P (Str.ofString "__weakref__"), key := Value.str (Str.ofString "__weakref__") 578, val := Value.ref 327 }, { hash := PyData.keyHash P (Str.ofString "__doc__"), key := Value.str (Str.ofString "__doc__") 579, val := Value.none }, { hash := PyData.keyHash P (Str.ofString "__hash__"), key := Value.str (Str.ofString "__hash__") 580, val := Value.none }] 5 }
noncomputable abbrev ob325 : Obj := { cls := Value.type "type", data := Data.cls { name := Str.ofString "FQP", bases := [Value.type "object"], mro := [Value.ref 325, Value.type "object"], ns := 324, qualname := Str.ofString "FQP", subclasses := [Value.ref 354] }, slots := #[none, none, some (Value.str (Str.ofString "FQP") 423), some (Value.str (Str.ofString "FQP") 431), some (Value.builtin "object.__new__"), some (Value.bool true)] }
noncomputable abbrev ob326 : Obj := { cls := Value.type "getset_descriptor", data := Data.fields #[Value.str (Str.ofString "__dict__") 575, Value.ref 325, Value.builtin "function.__dict__", Value.builtin "function.__dict__#set"] }
noncomputable abbrev ob327 : Obj := { cls := Value.type "getset_descriptor", data := Data.fields #[Value.str (Str.ofString "__weakref__") 577, Value.ref 325, Value.builtin "ExceptionGroup.__weakref__", Value.none] }
noncomputable abbrev ob328 : Obj := { cls := Value.type "super", data := Data.fields #[Value.ref 325, Value.ref 325, Value.ref 325] }
noncomputable abbrev ob329 : Obj := { cls := Value.type "builtin_function_or_method", data := Data.fields #[Value.builtin "object.__init_subclass__", Value.ref 325] }
noncomputable abbrev ob330 : Obj := { cls := Value.type "tuple", data := Data.seq #[Value.ref 325] }
noncomputable abbrev ob331 : Obj := { cls := Value.type "builtin_function_or_method", data := Data.fields #[Value.builtin "type.__prepare__", Value.type "type"] }
noncomputable abbrev ob332 (P : Params) : Obj := { cls := Value.type "dict", data := Data.dict #[{ hash := PyData.keyHash P (Str.ofString "__module__"), key := Value.str (Str.ofString "__module__") 590, val := Value.str (Str.ofString "py_ecc.fields.optimized_field_elements") 219 }, { hash := PyData.keyHash P (Str.ofString "__qualname__"), key := Value.str (Str.ofString "__qualname__") 592, val := Value.str (Str.ofString "FQ2") 591 }, { hash := PyData.keyHash P (Str.ofString "__firstlineno__"), key := Value.str (Str.ofString "__firstlineno__") 594, val := Value.int 283 593 }, { hash := PyData.keyHash P (Str.ofString "made"), key := Value.str (Str.ofString "made") 602, val := Value.ref 343 }, { hash := PyData.keyHash P (Str.ofString "sgn0"), key := Value.str (Str.ofString "sgn0") 615, val := Value.ref 351 }, { hash := PyData.keyHash P (Str.ofString "__static_attributes__"), key := Value.str (Str.ofString "__static_attributes__") 616, val := Value.ref 352 }] 6 }
noncomputable abbrev ob333 : Obj := { cls := Value.type "tuple", data := Data.seq #[] }
noncomputable abbrev ob334 : Obj := { cls := Value.none, data := Data.fields #[Value.int 285 0, Value.int 4 0, Value.ref 342, Value.int 289 0, Value.int 4 0, Value.ref 349] }
noncomputable abbrev ob335 : Obj := { cls := Value.type "code", data := Data.fields #[Value.str (Str.ofString "FQ2") 585, Value.str (Str.ofString "FQ2") 586, Value.str (Str.ofString "/claim/cut.py") 587, Value.int 283 0, Value.int 0 0, Value.int 0 0, Value.int 0 0, Value.int 0 0, Value.ref 333, Value.bool false, Value.int 181 0, Value.ref 334, Value.none, Value.none, Value.none, Value.none, Value.int 588 0, Value.int 283 0, Value.str (Str.ofString "/claim/cut.py") 589] }
noncomputable abbrev ob336 : Obj := { cls := Value.type "frame", slots := #[some (Value.ref 335), some (Value.ref 3), some (Value.ref 332), none, some (Value.str (Str.ofString "py_ecc.fields.optimized_field_elements") 219), none, some (Value.ref 0)] }
noncomputable abbrev ob337 : Obj := { cls := Value.type "tuple", data := Data.seq #[] }
noncomputable abbrev ob338 : Obj := { cls := Value.none, data := Data.fields #[] }
noncomputable abbrev ob339 : Obj := { cls := Value.type "tuple", data := Data.seq #[Value.str (Str.ofString "self") 598, Value.str (Str.ofString "coeffs") 599] }
noncomputable abbrev ob340 : Obj := { cls := Value.type "tuple", data := Data.seq #[] }
noncomputable abbrev ob341 : Obj := ofDef0 (st := inSt 8 0) rfl (Str.ofString "FQ2.made")
noncomputable abbrev ob342 : Obj := { cls := Value.type "code", data := Data.fields #[Value.str (Str.ofString "made") 595, Value.str (Str.ofString "FQ2.made") 596, Value.str (Str.ofString "/claim/cut.py") 597, Value.int 285 0, Value.int 2 0, Value.int 0 0, Value.int 0 0, Value.int 3 0, Value.ref 337, Value.bool true, Value.int 181 0, Value.ref 338, Value.none, Value.ref 339, Value.ref 340, Value.ref 341, Value.int 600 0, Value.int 285 0, Value.str (Str.ofString "/claim/cut.py") 601] }
noncomputable abbrev ob343 : Obj := ofDef (st := inSt 8 0) rfl (Str.ofString "FQ2.made") (Value.str (Str.ofString "py_ecc.fields.optimized_field_elements") 219) (Value.ref 342)
noncomputable abbrev ob344 : Obj := { cls := Value.type "tuple", data := Data.seq #[] }
noncomputable abbrev ob345 : Obj := { cls := Value.none, data := Data.fields #[] }
noncomputable abbrev ob346 : Obj := { cls := Value.type "tuple", data := Data.seq #[Value.str (Str.ofString "self") 606, Value.str (Str.ofString "x_0") 607, Value.str (Str.ofString "x_1") 608, Value.str (Str.ofString "sign_0") 609, Value.str (Str.ofString "zero_0") 610, Value.str (Str.ofString "sign_1") 611] }
noncomputable abbrev ob347 : Obj := { cls := Value.type "tuple", data := Data.seq #[] }
noncomputable abbrev ob348 : Obj := ofDef0 (st := inSt 8 1) rfl (Str.ofString "FQ2.sgn0")
noncomputable abbrev ob349 : Obj := { cls := Value.type "code", data := Data.fields #[Value.str (Str.ofString "sgn0") 603, Value.str (Str.ofString "FQ2.sgn0") 604, Value.str (Str.ofString "/claim/cut.py") 605, Value.int 288 0, Value.int 1 0, Value.int 0 0, Value.int 0 0, Value.int 3 0, Value.ref 344, Value.bool true, Value.int 181 0, Value.ref 345, Value.none, Value.ref 346, Value.ref 347, Value.ref 348, Value.int 612 0, Value.int 288 0, Value.str (Str.ofString "/claim/cut.py") 613] }
noncomputable abbrev ob350 : Obj := ofDef (st := inSt 8 1) rfl (Str.ofString "FQ2.sgn0") (Value.str (Str.ofString "py_ecc.fields.optimized_field_elements") 219) (Value.ref 349)
noncomputable abbrev ob351 : Obj := { cls := Value.type "property", data := Data.fields #[Value.ref 350, Value.none, Value.none, Value.none, Value.str (Str.ofString "sgn0") 615, Value.bool false] }
noncomputable abbrev ob352 : Obj := { cls := Value.type "tuple", data := Data.seq #[] }
noncomputable abbrev ob353 (P : Params) : Obj := { cls := Value.type "dict", data := Data.dict #[{ hash := PyData.keyHash P (Str.ofString "__module__"), key := Value.str (Str.ofString "__module__") 590, val := Value.str (Str.ofString "py_ecc.fields.optimized_field_elements") 219 }, { hash := PyData.keyHash P (Str.ofString "__firstlineno__"), key := Value.str (Str.ofString "__firstlineno__") 594, val := Value.int 283 593 }, { hash := PyData.keyHash P (Str.ofString "made"), key := Value.str (Str.ofString "made") 602, val := Value.ref 343 }, { hash := PyData.keyHash P (Str.ofString "sgn0"), key := Value.str (Str.ofString "sgn0") 615, val := Value.ref 351 }, { hash := PyData.keyHash P (Str.ofString "__static_attributes__"), key := Value.str (Str.ofString "__static_attributes__") 616, val := Value.ref 352 }, { hash := PyData.keyHash P (Str.ofString "__doc__"), key := Value.str (Str.ofString "__doc__") 617, val := Value.none }] 2 }
noncomputable abbrev ob354 : Obj := { cls := Value.type "type", data := Data.cls { name := Str.ofString "FQ2", bases := [Value.ref 325], mro := [Value.ref 354, Value.ref 325, Value.type "object"], ns := 353, qualname := Str.ofString "FQ2" }, slots := #[some (Value.ref 330), none, some (Value.str (Str.ofString "FQ2") 583), some (Value.str (Str.ofString "FQ2") 591), some (Value.builtin "object.__new__"), some (Value.bool true)] }
noncomputable abbrev ob355 : Obj := { cls := Value.type "super", data := Data.fields #[Value.ref 354, Value.ref 354, Value.ref 354] }
noncomputable abbrev ob356 : Obj := { cls := Value.type "builtin_function_or_method", data := Data.fields #[Value.builtin "object.__init_subclass__", Value.ref 354] }
noncomputable abbrev ob357 : Obj := { cls := Value.type "tuple", data := Data.seq #[] }
noncomputable abbrev ob358 : Obj := { cls := Value.none, data := Data.fields #[] }
noncomputable abbrev ob359 : Obj := { cls := Value.type "tuple", data := Data.seq #[] }
noncomputable abbrev ob360 : Obj := { cls := Value.type "tuple", data := Data.seq #[] }
noncomputable abbrev ob361 : Obj := ofDef0 (st := topSt 10) rfl (Str.ofString "_law_primes")
noncomputable abbrev ob362 : Obj := { cls := Value.type "code", data := Data.fields #[Value.str (Str.ofString "_law_primes") 622, Value.str (Str.ofString "_law_primes") 623, Value.str (Str.ofString "/claim/cut.py") 624, Value.int 296 0, Value.int 0 0, Value.int 0 0, Value.int 0 0, Value.int 3 0, Value.ref 357, Value.bool true, Value.int 181 0, Value.ref 358, Value.none, Value.ref 359, Value.ref 360, Value.ref 361, Value.int 625 0, Value.int 296 0, Value.str (Str.ofString "/claim/cut.py") 626] }
noncomputable abbrev ob363 : Obj := ofDef (st := topSt 10) rfl (Str.ofString "_law_primes") (Value.str (Str.ofString "law_kh0012_01") 620) (Value.ref 362)
noncomputable abbrev ob364 : Obj := { cls := Value.type "tuple", data := Data.seq #[] }
noncomputable abbrev ob365 : Obj := { cls := Value.none, data := Data.fields #[] }
noncomputable abbrev ob366 : Obj := { cls := Value.type "tuple", data := Data.seq #[Value.str (Str.ofString "numbers") 631, Value.str (Str.ofString "prime") 632, Value.str (Str.ofString "number") 633] }
noncomputable abbrev ob367 : Obj := { cls := Value.type "tuple", data := Data.seq #[] }
noncomputable abbrev ob368 : Obj := ofDef0 (st := topSt 11) rfl (Str.ofString "_law_sign")
noncomputable abbrev ob369 : Obj := { cls := Value.type "code", data := Data.fields #[Value.str (Str.ofString "_law_sign") 628, Value.str (Str.ofString "_law_sign") 629, Value.str (Str.ofString "/claim/cut.py") 630, Value.int 298 0, Value.int 2 0, Value.int 0 0, Value.int 0 0, Value.int 3 0, Value.ref 364, Value.bool true, Value.int 181 0, Value.ref 365, Value.none, Value.ref 366, Value.ref 367, Value.ref 368, Value.int 634 0, Value.int 298 0, Value.str (Str.ofString "/claim/cut.py") 635] }
noncomputable abbrev ob370 : Obj := ofDef (st := topSt 11) rfl (Str.ofString "_law_sign") (Value.str (Str.ofString "law_kh0012_01") 620) (Value.ref 369)
noncomputable abbrev ob371 : Obj := { cls := Value.type "tuple", data := Data.seq #[] }
noncomputable abbrev ob372 : Obj := { cls := Value.none, data := Data.fields #[] }
noncomputable abbrev ob373 : Obj := { cls := Value.type "tuple", data := Data.seq #[Value.str (Str.ofString "prime") 640] }
noncomputable abbrev ob374 : Obj := { cls := Value.type "tuple", data := Data.seq #[] }
noncomputable abbrev ob375 : Obj := ofDef0 (st := topSt 12) rfl (Str.ofString "_law_refused")
noncomputable abbrev ob376 : Obj := { cls := Value.type "code", data := Data.fields #[Value.str (Str.ofString "_law_refused") 637, Value.str (Str.ofString "_law_refused") 638, Value.str (Str.ofString "/claim/cut.py") 639, Value.int 303 0, Value.int 1 0, Value.int 0 0, Value.int 0 0, Value.int 3 0, Value.ref 371, Value.bool true, Value.int 181 0, Value.ref 372, Value.none, Value.ref 373, Value.ref 374, Value.ref 375, Value.int 641 0, Value.int 303 0, Value.str (Str.ofString "/claim/cut.py") 642] }
noncomputable abbrev ob377 : Obj := ofDef (st := topSt 12) rfl (Str.ofString "_law_refused") (Value.str (Str.ofString "law_kh0012_01") 620) (Value.ref 376)
noncomputable abbrev ob378 : Obj := { cls := Value.type "tuple", data := Data.seq #[] }
noncomputable abbrev ob379 : Obj := { cls := Value.none, data := Data.fields #[] }
noncomputable abbrev ob380 : Obj := ofDef0 (st := topSt 13) rfl (Str.ofString "law")
noncomputable abbrev ob381 : Obj := { cls := Value.type "code", data := Data.fields #[Value.str (Str.ofString "law") 644, Value.str (Str.ofString "law") 645, Value.str (Str.ofString "/claim/cut.py") 646, Value.int 309 0, Value.int 1 0, Value.int 0 0, Value.int 0 0, Value.int 3 0, Value.ref 378, Value.bool true, Value.int 181 0, Value.ref 379, Value.none, Value.none, Value.none, Value.ref 380, Value.int 647 0, Value.int 309 0, Value.str (Str.ofString "/claim/cut.py") 648] }
noncomputable abbrev ob382 : Obj := ofDef (st := topSt 13) rfl (Str.ofString "law") (Value.str (Str.ofString "law_kh0012_01") 620) (Value.ref 381)
/-- what the walk reads of them -/
noncomputable def kWr : Params → Frag := fun P => (nat_lit 2, boot_o_2 P) :: (nat_lit 3, ob3 P) :: (nat_lit 41, ob41) :: (nat_lit 42, ob42) :: (nat_lit 55, ob55) :: (nat_lit 56, ob56) :: (nat_lit 174, ob174) :: (nat_lit 175, ob175) :: (nat_lit 176, ob176) :: (nat_lit 199, ob199 P) :: (nat_lit 200, ob200) :: (nat_lit 215, ob215) :: (nat_lit 216, ob216) :: (nat_lit 222, ob222) :: (nat_lit 223, ob223) :: (nat_lit 299, ob299) :: (nat_lit 300, ob300) :: (nat_lit 306, ob306) :: (nat_lit 307, ob307) :: (nat_lit 308, ob308) :: (nat_lit 324, ob324 P) :: (nat_lit 325, ob325) :: (nat_lit 342, ob342) :: (nat_lit 343, ob343) :: (nat_lit 349, ob349) :: (nat_lit 350, ob350) :: (nat_lit 351, ob351) :: (nat_lit 353, ob353 P) :: (nat_lit 354, ob354) :: (nat_lit 362, ob362) :: (nat_lit 363, ob363) :: (nat_lit 369, ob369) :: (nat_lit 370, ob370) :: (nat_lit 376, ob376) :: (nat_lit 377, ob377) :: (nat_lit 381, ob381) :: (nat_lit 382, ob382) :: []
-- all of them, as a tree
noncomputable def tr15 (P : Params) : BT := (BT.node (ob15) (BT.node (ob31) (BT.node (ob63) (BT.node (ob127) (BT.node (ob255) BT.nil BT.nil) BT.nil) (BT.node (ob191) (BT.node (ob319) BT.nil BT.nil) BT.nil)) (BT.node (ob95) (BT.node (ob159) (BT.node (ob287) BT.nil BT.nil) BT.nil) (BT.node (ob223) (BT.node (ob351) BT.nil BT.nil) BT.nil))) (BT.node (ob47) (BT.node (ob79) (BT.node (ob143) (BT.node (ob271) BT.nil BT.nil) BT.nil) (BT.node (ob207 P) (BT.node (ob335) BT.nil BT.nil) BT.nil)) (BT.node (ob111) (BT.node (ob175) (BT.node (ob303) BT.nil BT.nil) BT.nil) (BT.node (ob239) (BT.node (ob367) BT.nil BT.nil) BT.nil))))
noncomputable def tr23 (P : Params) : BT := (BT.node (ob23) (BT.node (ob39) (BT.node (ob71) (BT.node (ob135) (BT.node (ob263) BT.nil BT.nil) BT.nil) (BT.node (ob199 P) (BT.node (ob327) BT.nil BT.nil) BT.nil)) (BT.node (ob103) (BT.node (ob167) (BT.node (ob295) BT.nil BT.nil) BT.nil) (BT.node (ob231) (BT.node (ob359) BT.nil BT.nil) BT.nil))) (BT.node (ob55) (BT.node (ob87) (BT.node (ob151) (BT.node (ob279) BT.nil BT.nil) BT.nil) (BT.node (ob215) (BT.node (ob343) BT.nil BT.nil) BT.nil)) (BT.node (ob119) (BT.node (ob183) (BT.node (ob311) BT.nil BT.nil) BT.nil) (BT.node (ob247) (BT.node (ob375) BT.nil BT.nil) BT.nil))))
noncomputable def tr19 (P : Params) : BT := (BT.node (ob19) (BT.node (ob35) (BT.node (ob67) (BT.node (ob131) (BT.node (ob259) BT.nil BT.nil) BT.nil) (BT.node (ob195) (BT.node (ob323) BT.nil BT.nil) BT.nil)) (BT.node (ob99) (BT.node (ob163) (BT.node (ob291) BT.nil BT.nil) BT.nil) (BT.node (ob227) (BT.node (ob355) BT.nil BT.nil) BT.nil))) (BT.node (ob51) (BT.node (ob83) (BT.node (ob147) (BT.node (ob275) BT.nil BT.nil) BT.nil) (BT.node (ob211) (BT.node (ob339) BT.nil BT.nil) BT.nil)) (BT.node (ob115) (BT.node (ob179) (BT.node (ob307) BT.nil BT.nil) BT.nil) (BT.node (ob243) (BT.node (ob371) BT.nil BT.nil) BT.nil))))
noncomputable def tr27 (P : Params) : BT := (BT.node (ob27) (BT.node (ob43) (BT.node (ob75) (BT.node (ob139) (BT.node (ob267) BT.nil BT.nil) BT.nil) (BT.node (ob203) (BT.node (ob331) BT.nil BT.nil) BT.nil)) (BT.node (ob107) (BT.node (ob171) (BT.node (ob299) BT.nil BT.nil) BT.nil) (BT.node (ob235) (BT.node (ob363) BT.nil BT.nil) BT.nil))) (BT.node (ob59) (BT.node (ob91) (BT.node (ob155) (BT.node (ob283) BT.nil BT.nil) BT.nil) (BT.node (ob219) (BT.node (ob347) BT.nil BT.nil) BT.nil)) (BT.node (ob123) (BT.node (ob187) (BT.node (ob315) BT.nil BT.nil) BT.nil) (BT.node (ob251) (BT.node (ob379) BT.nil BT.nil) BT.nil))))
noncomputable def tr17 (P : Params) : BT := (BT.node (ob17) (BT.node (ob33) (BT.node (ob65) (BT.node (ob129) (BT.node (ob257) BT.nil BT.nil) BT.nil) (BT.node (ob193) (BT.node (ob321) BT.nil BT.nil) BT.nil)) (BT.node (ob97) (BT.node (ob161) (BT.node (ob289) BT.nil BT.nil) BT.nil) (BT.node (ob225) (BT.node (ob353 P) BT.nil BT.nil) BT.nil))) (BT.node (ob49) (BT.node (ob81) (BT.node (ob145) (BT.node (ob273) BT.nil BT.nil) BT.nil) (BT.node (ob209) (BT.node (ob337) BT.nil BT.nil) BT.nil)) (BT.node (ob113) (BT.node (ob177) (BT.node (ob305) BT.nil BT.nil) BT.nil) (BT.node (ob241) (BT.node (ob369) BT.nil BT.nil) BT.nil))))
noncomputable def tr25 (P : Params) : BT := (BT.node (ob25) (BT.node (ob41) (BT.node (ob73) (BT.node (ob137) (BT.node (ob265) BT.nil BT.nil) BT.nil) (BT.node (ob201) (BT.node (ob329) BT.nil BT.nil) BT.nil)) (BT.node (ob105) (BT.node (ob169) (BT.node (ob297) BT.nil BT.nil) BT.nil) (BT.node (ob233) (BT.node (ob361) BT.nil BT.nil) BT.nil))) (BT.node (ob57) (BT.node (ob89) (BT.node (ob153) (BT.node (ob281) BT.nil BT.nil) BT.nil) (BT.node (ob217) (BT.node (ob345) BT.nil BT.nil) BT.nil)) (BT.node (ob121) (BT.node (ob185) (BT.node (ob313) BT.nil BT.nil) BT.nil) (BT.node (ob249) (BT.node (ob377) BT.nil BT.nil) BT.nil))))
noncomputable def tr21 (P : Params) : BT := (BT.node (ob21) (BT.node (ob37) (BT.node (ob69) (BT.node (ob133) (BT.node (ob261) BT.nil BT.nil) BT.nil) (BT.node (ob197) (BT.node (ob325) BT.nil BT.nil) BT.nil)) (BT.node (ob101) (BT.node (ob165) (BT.node (ob293) BT.nil BT.nil) BT.nil) (BT.node (ob229) (BT.node (ob357) BT.nil BT.nil) BT.nil))) (BT.node (ob53) (BT.node (ob85) (BT.node (ob149) (BT.node (ob277) BT.nil BT.nil) BT.nil) (BT.node (ob213) (BT.node (ob341) BT.nil BT.nil) BT.nil)) (BT.node (ob117) (BT.node (ob181) (BT.node (ob309) BT.nil BT.nil) BT.nil) (BT.node (ob245) (BT.node (ob373) BT.nil BT.nil) BT.nil))))
noncomputable def tr29 (P : Params) : BT := (BT.node (ob29) (BT.node (ob45 P) (BT.node (ob77) (BT.node (ob141) (BT.node (ob269) BT.nil BT.nil) BT.nil) (BT.node (ob205) (BT.node (ob333) BT.nil BT.nil) BT.nil)) (BT.node (ob109) (BT.node (ob173) (BT.node (ob301) BT.nil BT.nil) BT.nil) (BT.node (ob237) (BT.node (ob365) BT.nil BT.nil) BT.nil))) (BT.node (ob61) (BT.node (ob93) (BT.node (ob157) (BT.node (ob285) BT.nil BT.nil) BT.nil) (BT.node (ob221) (BT.node (ob349) BT.nil BT.nil) BT.nil)) (BT.node (ob125) (BT.node (ob189) (BT.node (ob317) BT.nil BT.nil) BT.nil) (BT.node (ob253) (BT.node (ob381) BT.nil BT.nil) BT.nil))))
noncomputable def tr16 (P : Params) : BT := (BT.node (ob16) (BT.node (ob32) (BT.node (ob64) (BT.node (ob128) (BT.node (ob256) BT.nil BT.nil) BT.nil) (BT.node (ob192) (BT.node (ob320) BT.nil BT.nil) BT.nil)) (BT.node (ob96) (BT.node (ob160) (BT.node (ob288) BT.nil BT.nil) BT.nil) (BT.node (ob224) (BT.node (ob352) BT.nil BT.nil) BT.nil))) (BT.node (ob48) (BT.node (ob80) (BT.node (ob144) (BT.node (ob272) BT.nil BT.nil) BT.nil) (BT.node (ob208) (BT.node (ob336) BT.nil BT.nil) BT.nil)) (BT.node (ob112) (BT.node (ob176) (BT.node (ob304) BT.nil BT.nil) BT.nil) (BT.node (ob240) (BT.node (ob368) BT.nil BT.nil) BT.nil))))
noncomputable def tr24 (P : Params) : BT := (BT.node (ob24) (BT.node (ob40) (BT.node (ob72) (BT.node (ob136) (BT.node (ob264) BT.nil BT.nil) BT.nil) (BT.node (ob200) (BT.node (ob328) BT.nil BT.nil) BT.nil)) (BT.node (ob104) (BT.node (ob168) (BT.node (ob296) BT.nil BT.nil) BT.nil) (BT.node (ob232) (BT.node (ob360) BT.nil BT.nil) BT.nil))) (BT.node (ob56) (BT.node (ob88) (BT.node (ob152) (BT.node (ob280) BT.nil BT.nil) BT.nil) (BT.node (ob216) (BT.node (ob344) BT.nil BT.nil) BT.nil)) (BT.node (ob120) (BT.node (ob184) (BT.node (ob312) BT.nil BT.nil) BT.nil) (BT.node (ob248) (BT.node (ob376) BT.nil BT.nil) BT.nil))))
noncomputable def tr20 (P : Params) : BT := (BT.node (ob20) (BT.node (ob36) (BT.node (ob68) (BT.node (ob132) (BT.node (ob260) BT.nil BT.nil) BT.nil) (BT.node (ob196) (BT.node (ob324 P) BT.nil BT.nil) BT.nil)) (BT.node (ob100) (BT.node (ob164) (BT.node (ob292) BT.nil BT.nil) BT.nil) (BT.node (ob228) (BT.node (ob356) BT.nil BT.nil) BT.nil))) (BT.node (ob52) (BT.node (ob84) (BT.node (ob148) (BT.node (ob276) BT.nil BT.nil) BT.nil) (BT.node (ob212) (BT.node (ob340) BT.nil BT.nil) BT.nil)) (BT.node (ob116) (BT.node (ob180) (BT.node (ob308) BT.nil BT.nil) BT.nil) (BT.node (ob244) (BT.node (ob372) BT.nil BT.nil) BT.nil))))
noncomputable def tr28 (P : Params) : BT := (BT.node (ob28) (BT.node (ob44) (BT.node (ob76) (BT.node (ob140) (BT.node (ob268) BT.nil BT.nil) BT.nil) (BT.node (ob204) (BT.node (ob332 P) BT.nil BT.nil) BT.nil)) (BT.node (ob108) (BT.node (ob172) (BT.node (ob300) BT.nil BT.nil) BT.nil) (BT.node (ob236) (BT.node (ob364) BT.nil BT.nil) BT.nil))) (BT.node (ob60) (BT.node (ob92) (BT.node (ob156) (BT.node (ob284) BT.nil BT.nil) BT.nil) (BT.node (ob220) (BT.node (ob348) BT.nil BT.nil) BT.nil)) (BT.node (ob124) (BT.node (ob188) (BT.node (ob316) BT.nil BT.nil) BT.nil) (BT.node (ob252) (BT.node (ob380) BT.nil BT.nil) BT.nil))))
noncomputable def tr18 (P : Params) : BT := (BT.node (ob18) (BT.node (ob34) (BT.node (ob66) (BT.node (ob130) (BT.node (ob258) BT.nil BT.nil) BT.nil) (BT.node (ob194) (BT.node (ob322) BT.nil BT.nil) BT.nil)) (BT.node (ob98) (BT.node (ob162) (BT.node (ob290) BT.nil BT.nil) BT.nil) (BT.node (ob226) (BT.node (ob354) BT.nil BT.nil) BT.nil))) (BT.node (ob50) (BT.node (ob82) (BT.node (ob146) (BT.node (ob274) BT.nil BT.nil) BT.nil) (BT.node (ob210) (BT.node (ob338) BT.nil BT.nil) BT.nil)) (BT.node (ob114) (BT.node (ob178) (BT.node (ob306) BT.nil BT.nil) BT.nil) (BT.node (ob242) (BT.node (ob370) BT.nil BT.nil) BT.nil))))
noncomputable def tr26 (P : Params) : BT := (BT.node (ob26) (BT.node (ob42) (BT.node (ob74) (BT.node (ob138) (BT.node (ob266) BT.nil BT.nil) BT.nil) (BT.node (ob202) (BT.node (ob330) BT.nil BT.nil) BT.nil)) (BT.node (ob106) (BT.node (ob170) (BT.node (ob298) BT.nil BT.nil) BT.nil) (BT.node (ob234) (BT.node (ob362) BT.nil BT.nil) BT.nil))) (BT.node (ob58) (BT.node (ob90) (BT.node (ob154) (BT.node (ob282) BT.nil BT.nil) BT.nil) (BT.node (ob218) (BT.node (ob346) BT.nil BT.nil) BT.nil)) (BT.node (ob122) (BT.node (ob186) (BT.node (ob314) BT.nil BT.nil) BT.nil) (BT.node (ob250) (BT.node (ob378) BT.nil BT.nil) BT.nil))))
noncomputable def tr22 (P : Params) : BT := (BT.node (ob22) (BT.node (ob38) (BT.node (ob70) (BT.node (ob134) (BT.node (ob262) BT.nil BT.nil) BT.nil) (BT.node (ob198) (BT.node (ob326) BT.nil BT.nil) BT.nil)) (BT.node (ob102) (BT.node (ob166) (BT.node (ob294) BT.nil BT.nil) BT.nil) (BT.node (ob230) (BT.node (ob358) BT.nil BT.nil) BT.nil))) (BT.node (ob54) (BT.node (ob86) (BT.node (ob150) (BT.node (ob278) BT.nil BT.nil) BT.nil) (BT.node (ob214) (BT.node (ob342) BT.nil BT.nil) BT.nil)) (BT.node (ob118) (BT.node (ob182) (BT.node (ob310) BT.nil BT.nil) BT.nil) (BT.node (ob246) (BT.node (ob374) BT.nil BT.nil) BT.nil))))
noncomputable def tr30 (P : Params) : BT := (BT.node (ob30) (BT.node (ob46) (BT.node (ob78) (BT.node (ob142) (BT.node (ob270) BT.nil BT.nil) BT.nil) (BT.node (ob206) (BT.node (ob334) BT.nil BT.nil) BT.nil)) (BT.node (ob110) (BT.node (ob174) (BT.node (ob302) BT.nil BT.nil) BT.nil) (BT.node (ob238) (BT.node (ob366) BT.nil BT.nil) BT.nil))) (BT.node (ob62) (BT.node (ob94) (BT.node (ob158) (BT.node (ob286) BT.nil BT.nil) BT.nil) (BT.node (ob222) (BT.node (ob350) BT.nil BT.nil) BT.nil)) (BT.node (ob126) (BT.node (ob190) (BT.node (ob318) BT.nil BT.nil) BT.nil) (BT.node (ob254) (BT.node (ob382) BT.nil BT.nil) BT.nil))))
noncomputable def tAll (P : Params) : BT := (BT.node (boot_o_0 P) (BT.node (boot_o_1 P) (BT.node (ob3 P) (BT.node (boot_o_7 P) (tr15 P) (tr23 P)) (BT.node (ob11) (tr19 P) (tr27 P))) (BT.node (boot_o_5 P) (BT.node (boot_o_9 P) (tr17 P) (tr25 P)) (BT.node (ob13) (tr21 P) (tr29 P)))) (BT.node (boot_o_2 P) (BT.node (boot_o_4 P) (BT.node (boot_o_8 P) (tr16 P) (tr24 P)) (BT.node (ob12) (tr20 P) (tr28 P))) (BT.node (boot_o_6 P) (BT.node (boot_o_10 P) (tr18 P) (tr26 P)) (BT.node (ob14) (tr22 P) (tr30 P)))))
noncomputable def t15 (P : Params) : BT := .node (boot_o_0 P) (.node (boot_o_1 P) (.node (boot_o_3 P) (.node (boot_o_7 P) .nil .nil) (.node ob11 .nil .nil)) (.node (boot_o_5 P) (.node (boot_o_9 P) .nil .nil) (.node ob13 .nil .nil)))
  (.node (boot_o_2 P) (.node (boot_o_4 P) (.node (boot_o_8 P) .nil .nil) (.node ({ cls := .none, data := .fields #[] } : Obj) .nil .nil)) (.node (boot_o_6 P) (.node (boot_o_10 P) .nil .nil) (.node ob14 .nil .nil)))

-- part H2

noncomputable abbrev env0 : Env := { scope := pr.main.scope, locals := mainNs, globals := mainNs, cells := [], code := .ref 13, frame := some 14 }
noncomputable abbrev cE : Code := .body (behindTheImports pr) env0
abbrev pos0 : Pos := { line := 0, col := 0, endLine := 0, endCol := 0 }
abbrev posE : Pos := { line := 309, col := 0, endLine := 325, endCol := 173 }
abbrev ann0 : Option Value := some (.ref 6)
noncomputable abbrev sA (w : World) (os : OsState) : SharedT := ⟨t15 w.params, 15, {}, #[], {}, 187, os⟩
noncomputable abbrev sZ (w : World) (os : OsState) : SharedT := ⟨tAll w.params, 383, {}, #[], {}, 650, os⟩
noncomputable def hEnd (P : Params) : Heap := absHeap (tAll P) 383 {}
abbrev viewOf {a0 a1 a2 a3 a4 a5 a6 a7 a8 a9 a10 a11 a12 a13 : Stmt} (_h : pr.main.body = [a0, a1, a2, a3, a4, a5, a6, a7, a8, a9, a10, a11, a12, a13]) : Program :=
  { pr with main := { pr.main with body := [a0, a2, a3, a5, a6, a7, a8, a10, a11, a12, a13] } }
noncomputable def myView : Program := viewOf rfl
abbrev lo3 : List Str := [Str.ofString "FQ", Str.ofString "FQP", Str.ofString "FQ2"]

theorem p_pre (w : World) (os : OsState) : topGo treeTable pr w 11 ann0 12 ⟨boot_heap w.params, #[], boot_drawn, boot_toks, os⟩ (topStub pr) = some ((sA w os).abs, ⟨denote treeTable cE, cE, pos0, [topFrame pos0]⟩) := by kernel_rfl
theorem p_block (w : World) (os : OsState) : segRun treeTable pr w 11 ann0 1 1 (sA w os).abs (blockOf (behindTheImports pr) env0 cE pos0 [topFrame pos0]) = some (.next, (sA w os).abs, cE, pos0) := by kernel_rfl
theorem p_run (w : World) (os : OsState) : segRunT treeTable pr w 11 ann0 1 2360 (sA w os) (piecesOf (behindTheImports pr) env0 cE pos0 [topFrame pos0]) = some (.next, sZ w os, cE, posE) := by
  rw [PySem.W.Fast.te10110043849684766642, PySem.W.Fast.te14364793385576792824]; kernel_rfl
theorem p_fin (w : World) (s : Shared) (c : Code) (pos q : Pos) : topRun treeTable pr w 11 ann0 2 s ⟨doneF .next, c, pos, [topFrame q]⟩ = some s := rfl
theorem p_all (w : World) (os : OsState) : topRun treeTable pr w 11 ann0 2375 ⟨boot_heap w.params, #[], boot_drawn, boot_toks, os⟩ (topStub pr) = some ⟨hEnd w.params, #[], {}, 650, os⟩ := by
  have a := piece_app (l := behindTheImports pr) (rest := []) (segRun_of (p_run w os)) (p_fin w (sZ w os).abs cE posE pos0)
  rw [List.append_nil] at a
  exact go_top (p_pre w os) (piece_block (p_block w os) a)

theorem k_as (P : Params) : [2, 3, 41, 42, 55, 56, 174, 175, 176, 199, 200, 215, 216, 222, 223, 299, 300, 306, 307, 308, 324, 325, 342, 343, 349, 350, 351, 353, 354, 362, 363, 369, 370, 376, 377, 381, 382] = (kWr P).map (·.1) := by kernel_rfl
noncomputable abbrev hook : Hook := kmHook kWr [2, 3, 41, 42, 55, 56, 174, 175, 176, 199, 200, 215, 216, 222, 223, 299, 300, 306, 307, 308, 324, 325, 342, 343, 349, 350, 351, 353, 354, 362, 363, 369, 370, 376, 377, 381, 382] k_as [213]
abbrev rw0 : RowW := PySem.Challenge.rw_kh0012_01.row.toRowW

theorem lk1 (w : World) (os : OsState) : (staticsOk (importedModules pr.main.body) (boot_heap w.params) (hEnd w.params) && namesBound pr (hEnd w.params) && gensDone ⟨hEnd w.params, #[], {}, 650, os⟩ && laidKept (boot_heap w.params) (hEnd w.params)) = true := by kernel_rfl
theorem lk2 (w : World) (os : OsState) : openSeen myView lo3 (importedModules pr.main.body) (fun s => xlAt myView [] s && recOk (RowW.records rw0) s) true ⟨hEnd w.params, #[], {}, 650, os⟩ = openGood myView lo3 := by kernel_rfl
theorem lk3 (w : World) (os : OsState) : hook.obs ⟨hEnd w.params, #[], {}, 650, os⟩ = hook.val w := by kernel_rfl
theorem p_size (w : World) : ((boot_heap w.params).isNs mainGlobals && (#[] : Array GenState).size == 0, (boot_heap w.params).objs.size, (boot_heap w.params).nsMap mainGlobals "__annotations__") = (true, 11, ann0) := by kernel_rfl
theorem left : LeftO pr myView lo3 (fun s => xlAt myView [] s && recOk (RowW.records rw0) s) hook.obs hook.val 4808 :=
  LeftO.of_pieces (boot_open (p := pr) (N := 4808) (by kernel_rfl) (by decide) (fun _ => by kernel_rfl)) p_size p_all (by decide) fun w => funext fun os => looks_pair (lk1 w os) (looks_pair (lk2 w os) (lk3 w os))

section
-- part L1

section
variable {prog : Program} {w : World} {A : Around} {E : Value → Shared → Prop} {s : Shared} {env : Env} {h₀ : Heap} {x : Str} {body : List Stmt} {Q : Flow → Shared → Prop}

/-- a turn's end: the frame's map keeps what is not stored, J holds of it, the ledger stands -/
def JEnd (h₀ : Heap) (L : Addr) (x : Str) (stored : List Str) (m₀ : Str → Option Value) (J : (Str → Option Value) → Prop) (nw : List (Addr × Obj)) (s₁ s₂ : Shared) : Prop :=
  ∃ h' tk m', s₂ = { s₁ with heap := h', toks := tk } ∧ Fr h₀ L h' m' ∧ News h₀ L h' nw ∧ (∀ y, y ≠ x → stored.contains y = false → m' y = m₀ y) ∧ J m'
def JPost (h₀ : Heap) (L : Addr) (x : Str) (stored : List Str) (m₀ : Str → Option Value) (J : (Str → Option Value) → Prop) (nw : List (Addr × Obj)) (s₁ : Shared) (Q : Flow → Shared → Prop) (f : Flow) (s₂ : Shared) : Prop :=
  match f with
  | .ret v => Q (.ret v) s₂
  | .brk => Q .next s₂
  | _ => JEnd h₀ L x stored m₀ J nw s₁ s₂

theorem JEnd.intro {L : Addr} {stored : List Str} {m₀ m' : Str → Option Value} {J : (Str → Option Value) → Prop} {nw : List (Addr × Obj)} {s₁ : Shared} {h' : Heap} {tk : Nat} (F : Fr h₀ L h' m') (N : News h₀ L h' nw)
    (hm : ∀ y, y ≠ x → stored.contains y = false → m' y = m₀ y) (hj : J m') : JEnd h₀ L x stored m₀ J nw s₁ { s₁ with heap := h', toks := tk } := ⟨h', tk, m', rfl, F, N, hm, hj⟩

theorem loop_J {I : Addr} {fp wr : List Addr} {n : Nat} {P : Nat → Value → Prop} {St : Nat → Heap → Prop} {m₀ : Str → Option Value} {news : List (Addr × Obj)} (stored : List Str) (J : Nat → (Str → Option Value) → Prop)
    (W : Walks prog w A I fp wr n P St) (hLf : env.locals ∉ fp) (hwr : ∀ b ∈ wr, h₀.get? b = none) (hnw : ∀ p ∈ news, p.1 ∉ wr) (hst : St 0 s.heap) (F : Fr h₀ env.locals s.heap m₀) (N : News h₀ env.locals s.heap news)
    (hj : J 0 m₀)
    (turn : ∀ i v (u : Str → Option Value) h tk nw, i < n → P i v → J i u → (∀ p ∈ news, p ∈ nw) → Fr h₀ env.locals h (fun y => if y = x then some v else if stored.contains y then u y else m₀ y) → News h₀ env.locals h nw →
      wpAny (model prog w) A (execs body env) (JPost h₀ env.locals x stored m₀ (J (i + 1)) nw { s with heap := h, toks := tk } Q) E { s with heap := h, toks := tk })
    (done : ∀ (u : Str → Option Value) h tk, J n u → Fr h₀ env.locals h (fun y => if y = x then u y else if stored.contains y then u y else m₀ y) → News h₀ env.locals h news → Q .next { s with heap := h, toks := tk }) :
    LoopAtV prog w A h₀ env x body Q E (.ref I) s := by
  let J' : Nat → (Str → Option Value) → List (Addr × Obj) → Prop := fun i m₁ news₁ => news₁ = news ∧ (∀ y, y ≠ x → stored.contains y = false → m₁ y = m₀ y) ∧ J i m₁
  refine ⟨I, fp, wr, n, P, St, m₀, news, J', rfl, W, hLf, hwr, hnw, hst, F, N, ⟨rfl, fun _ _ _ => rfl, hj⟩, ?_, ?_⟩
  · rintro i v m₁ news₁ s₁ own ⟨hh', tk', rfl⟩ hin hP ⟨rfl, hJ, hJJ⟩ hoff _ _ _ _ F₁ N₁
    have e : (fun y => if y = x then some v else m₁ y) = fun y => if y = x then some v else if stored.contains y then m₁ y else m₀ y := by
      funext y
      by_cases h1 : y = x
      · simp [h1]
      · simp only [if_neg h1]
        cases h2 : stored.contains y with
        | true => simp
        | false => simp only [Bool.false_eq_true, if_false]; exact hJ y h1 h2
    rw [e] at F₁
    refine wpAny_mono (turn i v m₁ hh' tk' (own ++ news₁) hin hP hJJ (fun p hp => List.mem_append_right _ hp) F₁ N₁) (fun f s₂ p => ?_) fun _ _ e => e
    have fin : JEnd h₀ env.locals x stored m₀ (J (i + 1)) (own ++ news₁) { s with heap := hh', toks := tk' } s₂ → LoopStepU h₀ env.locals wr own (J' (i + 1)) { s with heap := hh', toks := tk' } .next s₂ := by
      rintro ⟨h', tk, m', e, F', N', hm, hjj⟩
      exact ⟨rfl, h', tk, m', news₁, e, F', N', hoff, rfl, hm, hjj⟩
    cases f with
    | ret v => exact .ret p
    | brk => exact .brk p
    | next => exact .next (fin p)
    | cont => exact .cont (fin p)
  · rintro h' tk m' news' F' N' _ ⟨rfl, hJ, hJJ⟩
    refine done m' h' tk hJJ ?_ N'
    have e : (fun y => if y = x then m' y else if stored.contains y then m' y else m₀ y) = m' := by
      funext y
      by_cases h1 : y = x
      · simp [h1]
      · simp only [if_neg h1]
        cases h2 : stored.contains y with
        | true => simp
        | false => simp only [Bool.false_eq_true, if_false]; exact (hJ y h1 h2).symm
    rw [e]; exact F'

/-- a for over a made list of ints that stands in the ledger -/
theorem iter_listJ {l : Addr} {its : Array Value} {k : Nat} {ns : List Int} {m₀ : Str → Option Value} {news : List (Addr × Obj)} (stored : List Str) (J : Nat → (Str → Option Value) → Prop)
    (hh : A.handled = none) (hmem : (l, listOf its k) ∈ news) (hi : IntsAre its.toList ns) (F : Fr h₀ env.locals s.heap m₀) (N : News h₀ env.locals s.heap news) (hj : J 0 m₀)
    (turn : ∀ i n t (u : Str → Option Value) h tk nw, ns[i]? = some n → J i u → (∀ p ∈ news, p ∈ nw) → Fr h₀ env.locals h (fun y => if y = x then some (.int n t) else if stored.contains y then u y else m₀ y) → News h₀ env.locals h nw →
      wpAny (model prog w) A (execs body env) (JPost h₀ env.locals x stored m₀ (J (i + 1)) nw { s with heap := h, toks := tk } Q) E { s with heap := h, toks := tk })
    (done : ∀ (u : Str → Option Value) h tk, J ns.length u → Fr h₀ env.locals h (fun y => if y = x then u y else if stored.contains y then u y else m₀ y) → News h₀ env.locals h news → Q .next { s with heap := h, toks := tk }) :
    wpAny (model prog w) A (pyIter (.ref l)) (fun it s₂ => LoopAtV prog w A h₀ env x body Q E it s₂) E s := by
  have hls : s.heap.IsList l its := ⟨_, (N _ hmem).1, rfl, _, rfl⟩
  have hlt : l < s.heap.objs.size := Heap.lt_size (N _ hmem).1
  refine wpAny_pyIter_list hls ?_
  have W := Walks.list (prog := prog) (w := w) hh s.heap.objs.size l (Nat.ne_of_lt hlt) its
  have hlen : its.size = ns.length := by simp [← hi.length]
  rw [hlen] at W
  refine loop_J stored J W ?_ ?_ ?_ ⟨⟨_, Heap.get?_push_size _ rfl, rfl, rfl⟩, hls.at fun o e => Heap.get?_push_of_some _ e⟩ (F.push _) (fun p hp => ⟨Heap.get?_push_of_some _ (N p hp).1, (N p hp).2⟩) hj ?_ ?_
  · intro hm
    rcases List.mem_cons.mp hm with e | hm
    · exact absurd F.ns.lt (e ▸ Nat.lt_irrefl _)
    · exact (N _ hmem).2.1 (List.mem_singleton.mp hm).symm
  · intro b hb
    rw [List.mem_singleton.mp hb]
    exact next_is_new F
  · intro p hp hI
    exact absurd (Heap.lt_size (N p hp).1) ((List.mem_singleton.mp hI) ▸ Nat.lt_irrefl _)
  · intro i v u h tk nw hin hP hJ hsub F₁ N₁
    obtain ⟨t, hx⟩ := hi.get i ns[i] (by simp [hin])
    have hv : v = .int ns[i] t := by
      have hP' : its.toList[i]? = some v := by simpa using hP
      rw [hx] at hP'; exact (Option.some.inj hP').symm
    subst hv
    exact turn i ns[i] t u h tk nw (by simp [hin]) hJ hsub F₁ N₁
  · exact done

/-- a for over a made tuple of ints that stands in the ledger -/
theorem iter_tupJ {l : Addr} {its : Array Value} {k : Nat} {ns : List Int} {m₀ : Str → Option Value} {news : List (Addr × Obj)} (stored : List Str) (J : Nat → (Str → Option Value) → Prop)
    (hh : A.handled = none) (hmem : (l, ({ cls := .type "tuple", data := .seq its k } : Obj)) ∈ news) (hi : IntsAre its.toList ns) (F : Fr h₀ env.locals s.heap m₀) (N : News h₀ env.locals s.heap news) (hj : J 0 m₀)
    (turn : ∀ i n t (u : Str → Option Value) h tk nw, ns[i]? = some n → J i u → (∀ p ∈ news, p ∈ nw) → Fr h₀ env.locals h (fun y => if y = x then some (.int n t) else if stored.contains y then u y else m₀ y) → News h₀ env.locals h nw →
      wpAny (model prog w) A (execs body env) (JPost h₀ env.locals x stored m₀ (J (i + 1)) nw { s with heap := h, toks := tk } Q) E { s with heap := h, toks := tk })
    (done : ∀ (u : Str → Option Value) h tk, J ns.length u → Fr h₀ env.locals h (fun y => if y = x then u y else if stored.contains y then u y else m₀ y) → News h₀ env.locals h news → Q .next { s with heap := h, toks := tk }) :
    wpAny (model prog w) A (pyIter (.ref l)) (fun it s₂ => LoopAtV prog w A h₀ env x body Q E it s₂) E s := by
  have hls : s.heap.IsTuple l its := ⟨_, (N _ hmem).1, rfl, _, rfl⟩
  have hlt : l < s.heap.objs.size := Heap.lt_size (N _ hmem).1
  refine wpAny_pyIter_tuple hls ?_
  have W := Walks.tuple (prog := prog) (w := w) hh s.heap.objs.size l (Nat.ne_of_lt hlt) its
  have hlen : its.size = ns.length := by simp [← hi.length]
  rw [hlen] at W
  refine loop_J stored J W ?_ ?_ ?_ ⟨⟨_, Heap.get?_push_size _ rfl, rfl, rfl⟩, hls.at fun o e => Heap.get?_push_of_some _ e⟩ (F.push _) (fun p hp => ⟨Heap.get?_push_of_some _ (N p hp).1, (N p hp).2⟩) hj ?_ ?_
  · intro hm
    rcases List.mem_cons.mp hm with e | hm
    · exact absurd F.ns.lt (e ▸ Nat.lt_irrefl _)
    · exact (N _ hmem).2.1 (List.mem_singleton.mp hm).symm
  · intro b hb
    rw [List.mem_singleton.mp hb]
    exact next_is_new F
  · intro p hp hI
    exact absurd (Heap.lt_size (N p hp).1) ((List.mem_singleton.mp hI) ▸ Nat.lt_irrefl _)
  · intro i v u h tk nw hin hP hJ hsub F₁ N₁
    obtain ⟨t, hx⟩ := hi.get i ns[i] (by simp [hin])
    have hv : v = .int ns[i] t := by
      have hP' : its.toList[i]? = some v := by simpa using hP
      rw [hx] at hP'; exact (Option.some.inj hP').symm
    subst hv
    exact turn i ns[i] t u h tk nw (by simp [hin]) hJ hsub F₁ N₁
  · exact done
end
end

section
-- part C2

def lawSign (p : Int) : List Int → Int
  | [] => 0
  | n :: r => if n.fmod p = 0 then lawSign p r else (n.fmod p).fmod 2

theorem lawSign_hit {p v : Int} {ns : List Int} {i : Nat} (h : ns[i]? = some v) (hj : lawSign p ns = lawSign p (ns.drop i)) (hv : ¬ v.fmod p = 0) : (v.fmod p).fmod 2 = lawSign p ns := by
  obtain ⟨hi, rfl⟩ := List.getElem?_eq_some_iff.mp h
  rw [hj, List.drop_eq_getElem_cons hi, lawSign, if_neg hv]
theorem lawSign_miss {p v : Int} {ns : List Int} {i : Nat} (h : ns[i]? = some v) (hj : lawSign p ns = lawSign p (ns.drop i)) (hv : v.fmod p = 0) : lawSign p ns = lawSign p (ns.drop (i + 1)) := by
  obtain ⟨hi, rfl⟩ := List.getElem?_eq_some_iff.mp h
  rw [hj, List.drop_eq_getElem_cons hi, lawSign, if_pos hv]
theorem lawSign_done {p : Int} {ns : List Int} (hj : lawSign p ns = lawSign p (ns.drop ns.length)) : 0 = lawSign p ns := by
  rw [hj, List.drop_length]; rfl

end

section
-- part C3

local macro_rules | `(tactic| walk_at "my enter") => `(tactic| (refine' code_def ?k1 ?k2 ?k3 ?k4 ?k5 ?kA ?kF ?kK ?k6 ?k7 ?k8 ?k9 ?kB ?_ ?c2 ?c3 ?c4 ?c5; (case kA => first | exact rfl | assumption | exact Around.frames_deeper (by assumption)); (case kF => first | exact rfl | assumption); (case kK => first | exact rfl | assumption); (case k1 => k_asm); (case k2 => k_asm); (case k3 => k_asm); (case k4 => k_asm); (case k5 => k_asm); (case k6 => k_is); (case k7 => k_is); (case k8 => first | ktr_room | omega); (case k9 => first | exact BindsTo.of_eq rfl | exact binds_K (by k_in) rfl (by k_is) rfl rfl rfl); (case c5 => decide); (case kB => exact locs rfl); (case c2 => exact rfl); (case c3 => exact rfl); (case c4 => exact rfl); k_whole; intro g' L' h' FG' F' N' B' X' T'; (try dsimp only); (try k_lift B'); (try k_fold)))

local macro_rules | `(tactic| walk_at "my depth") => `(tactic| first | omega | ((try simp only [depth_under_make, depth_under_kw, depth_in1, depth_deeper, depth_caller] at *); omega) | ((try simp only [depth_under_make, depth_under_kw, depth_in1, depth_deeper, depth_caller, recursionLimit] at *); omega))
local macro_rules | `(tactic| walk_at "my units") => `(tactic| first | omega | ((try simp only [units_in1, units_deeper, Around.mark_units, units_caller] at *); omega) | ((try simp only [units_in1, units_deeper, Around.mark_units, units_caller, cLine] at *); omega))

set_option maxHeartbeats 2000000 in
theorem k_modint {w : World} {p : Program} {loose : List Str} {mean : ExcName → Option Value} {mg mb : Str → Option Value} {news : List (Addr × Obj)}
    {A A₀ : Around} {env : Env} {outer : List Env} {base h₀ : Heap} {L : Addr} {m : Str → Option Value} {s : Shared} {R : Result → Shared → Prop}
    (B : Below A₀ base outer h₀) (F : Fr h₀ L s.heap m) (X : (kWr w.params).In h₀) (N : News h₀ L s.heap news) (T : Top p loose mean mg mb h₀)
    (hA : A.frames = some (env :: outer)) (hf : env.frame = some L) (hk : env.scope.kind = .function) (hd : A.depth + 1 < recursionLimit)
    {x n : Int} {tx tn : Tok} (hn : n ≠ 0)
    (hret : ∀ (t : Tok) (h' : Heap) (tk' : Nat), Fr h₀ L h' m → News h₀ L h' news → R (.ok (.ret (.int (Int.fmod x n) t))) { s with heap := h', toks := tk' }) :
    codeAny (model PySem.Challenge.rw_kh0012_01.row.prog w) A (.call (.ref 42) ⟨[.int x tx, .int n tn], []⟩) R s := by
  revert X; k_fill; intro X
  k_dflt (walk_at "my enter")
  k_steps
  exact hret _ _ _ (by k_asm) (by k_asm)
local macro_rules | `(tactic| walk_at "call ref") => `(tactic| (k_here; (with_reducible show wpAny _ _ (call (Value.ref 42) [Value.int _ _, Value.int _ _]) _ _ _); k_dflt (refine' wpAny_call (k_modint ?k1 ?k2 ?k3 ?k4 ?k5 ?kA ?kF ?kK ?kD ?kN ?_); (case k1 => k_asm); (case k2 => k_asm); (case k3 => k_asm); (case k4 => k_asm); (case k5 => k_asm); (case kA => first | exact rfl | assumption | exact Around.frames_deeper (by assumption)); (case kF => exact rfl); (case kK => first | exact rfl | assumption); (case kD => walk_at "my depth"); (case kN => first | decide | assumption | omega); k_whole); intro t' h' tk' F' N'; (try dsimp only)))

def sgnC : List Int → Int
  | [] => 0
  | c :: r => if c = 0 then sgnC r else c.fmod 2
def SgnIs (v : Value) (z : Int) : Prop := (∃ t, v = .int z t) ∨ (v = .bool false ∧ z = 0)

abbrev tupOf (its : Array Value) (n : Nat) : Obj := { cls := .type "tuple", data := .seq its n }
abbrev fqpEs (p : Int) (q T M : Addr) (d : Int) (H1 H2 H3 H4 H5 : Int) (k1 k2 k3 k4 k5 t1 t5 : Tok) : List DictEntry :=
  [⟨H1, .str (Str.ofString "field_modulus") k1, .int p t1⟩, ⟨H2, .str (Str.ofString "mc_tuples") k2, .ref q⟩, ⟨H3, .str (Str.ofString "coeffs") k3, .ref T⟩, ⟨H4, .str (Str.ofString "modulus_coeffs") k4, .ref M⟩, ⟨H5, .str (Str.ofString "degree") k5, .int d t5⟩]

theorem news_cons {h₀ h : Heap} {L : Addr} {news nw : List (Addr × Obj)} (N : News h₀ L h news) (hs : ∀ p ∈ nw, p ∈ news) : News h₀ L h (nw ++ news) := fun p hp => (List.mem_append.mp hp).elim (fun q => N p (hs p q)) (N p)

theorem sgnC_miss {v : Int} {ns : List Int} {i : Nat} (h : ns[i]? = some v) (hj : sgnC ns = sgnC (ns.drop i)) (hv : v = 0) : sgnC ns = sgnC (ns.drop (i + 1)) := by
  obtain ⟨hi, rfl⟩ := List.getElem?_eq_some_iff.mp h
  rw [hj, List.drop_eq_getElem_cons hi, sgnC, if_pos hv]
theorem sgnC_hit {v : Int} {ns : List Int} {i : Nat} (h : ns[i]? = some v) (hj : sgnC ns = sgnC (ns.drop i)) (hv : ¬ v = 0) : sgnC ns = v.fmod 2 := by
  obtain ⟨hi, rfl⟩ := List.getElem?_eq_some_iff.mp h
  rw [hj, List.drop_eq_getElem_cons hi, sgnC, if_neg hv]

abbrev sgnSt : List Str := [Str.ofString "sign_i", Str.ofString "zero_i", Str.ofString "sign", Str.ofString "zero"]
def SgnJ (ns : List Int) (i : Nat) (u : Str → Option Value) : Prop :=
  ∃ sv zv, u (Str.ofString "sign") = some sv ∧ u (Str.ofString "zero") = some zv ∧
    (((zv = .bool true ∨ ∃ t, zv = .int 1 t) ∧ (∃ t, sv = .int 0 t) ∧ sgnC ns = sgnC (ns.drop i)) ∨ (zv = .bool false ∧ SgnIs sv (sgnC ns)))
theorem sgn_map {u m₀ : Str → Option Value} {a : Str → Option Value} {sv zv : Value} (h1 : u (Str.ofString "sign") = some sv) (h2 : u (Str.ofString "zero") = some zv) :
    (fun y => if y = Str.ofString "x_i" then a y else if sgnSt.contains y then u y else m₀ y) =
    fun y => if y = Str.ofString "sign" then some sv else if y = Str.ofString "zero" then some zv else if y = Str.ofString "x_i" then a y else if sgnSt.contains y then u y else m₀ y := by
  funext y
  by_cases e1 : y = Str.ofString "sign"
  · subst e1; rw [if_neg (by decide +kernel), if_pos (by decide +kernel), if_pos rfl, h1]
  · by_cases e2 : y = Str.ofString "zero"
    · subst e2; rw [if_neg (by decide +kernel), if_pos (by decide +kernel), if_neg (by decide +kernel), if_pos rfl, h2]
    · rw [if_neg e1, if_neg e2]

theorem sgnSt_ne {y : Str} (h : sgnSt.contains y = false) : y ≠ Str.ofString "sign_i" ∧ y ≠ Str.ofString "zero_i" ∧ y ≠ Str.ofString "sign" ∧ y ≠ Str.ofString "zero" := by
  simp only [sgnSt, List.contains_cons, List.contains_nil, Bool.or_false, Bool.or_eq_false_iff, beq_eq_false_iff_ne] at h
  exact ⟨h.1, h.2.1, h.2.2.1, h.2.2.2⟩
theorem sgnJ_zero {v : Int} {ns : List Int} {i : Nat} {m' : Str → Option Value} {t : Tok} (hv : ns[i]? = some v) (hj : sgnC ns = sgnC (ns.drop i))
    (e1 : m' (Str.ofString "sign") = some (.int (v.fmod 2) t)) (e2 : m' (Str.ofString "zero") = some (.bool (decide (v = 0)))) : SgnJ ns (i + 1) m' := by
  refine ⟨_, _, e1, e2, ?_⟩
  by_cases h : v = 0
  · subst h
    exact .inl ⟨.inl (by simp), ⟨t, by simp⟩, sgnC_miss hv hj rfl⟩
  · exact .inr ⟨by simp [h], .inl ⟨t, by rw [sgnC_hit hv hj h]⟩⟩
theorem sgnJ_keep {ns : List Int} {i : Nat} {m' : Str → Option Value} {sv : Value} (hs : SgnIs sv (sgnC ns)) (e1 : m' (Str.ofString "sign") = some sv) (e2 : m' (Str.ofString "zero") = some (.bool false)) : SgnJ ns (i + 1) m' :=
  ⟨_, _, e1, e2, .inr ⟨rfl, hs⟩⟩
theorem sgn_of {sv zv : Value} {ns : List Int} (h : ((zv = .bool true ∨ ∃ t, zv = .int 1 t) ∧ (∃ t, sv = .int 0 t) ∧ sgnC ns = sgnC (ns.drop ns.length)) ∨ (zv = .bool false ∧ SgnIs sv (sgnC ns))) : SgnIs sv (sgnC ns) := by
  rcases h with ⟨_, ⟨t, rfl⟩, h⟩ | ⟨_, h⟩
  · rw [h, List.drop_length]; exact .inl ⟨t, rfl⟩
  · exact h
local macro_rules | `(tactic| walk_at "my map") => `(tactic| (intro y h1 h2; obtain ⟨a1, a2, a3, a4⟩ := sgnSt_ne h2; simp only [if_neg h1, if_neg a1, if_neg a2, if_neg a3, if_neg a4, h2, Bool.false_eq_true, if_false]))

set_option maxHeartbeats 4000000 in
theorem k_sgn0 {w : World} {p : Program} {loose : List Str} {mean : ExcName → Option Value} {mg mb : Str → Option Value} {news : List (Addr × Obj)}
    {A A₀ : Around} {env : Env} {outer : List Env} {base h₀ : Heap} {L : Addr} {m : Str → Option Value} {s : Shared} {R : Result → Shared → Prop}
    (B : Below A₀ base outer h₀) (F : Fr h₀ L s.heap m) (X : (kWr w.params).In h₀) (N : News h₀ L s.heap news) (T : Top p loose mean mg mb h₀)
    (hA : A.frames = some (env :: outer)) (hf : env.frame = some L) (hk : env.scope.kind = .function) (hd : A.depth + 3 < recursionLimit) (hu : A.units + 20 < cLine) (hh : A.handled = none)
    {x dx : Addr} {q T_ M_ : Addr} {pp d : Int} {H1 H2 H3 H4 H5 : Int} {k1 k2 k3 k4 k5 t1 t5 : Tok} {n : Nat} {its : Array Value} {k : Nat} {ns : List Int}
    (hx : (x, instObj 325 dx) ∈ news) (hdx : (dx, dictOf (fqpEs pp q T_ M_ d H1 H2 H3 H4 H5 k1 k2 k3 k4 k5 t1 t5) n) ∈ news) (hT : (T_, tupOf its k) ∈ news) (hi : IntsAre its.toList ns)
    (hret : ∀ v h' tk', SgnIs v (sgnC ns) → Fr h₀ L h' m → News h₀ L h' news → R (.ok (.ret v)) { s with heap := h', toks := tk' }) :
    codeAny (model PySem.Challenge.rw_kh0012_01.row.prog w) A (.call (.ref 307) ⟨[.ref x], []⟩) R s := by
  have N2 := news_cons N (nw := [(x, instObj 325 dx), (dx, dictOf (fqpEs pp q T_ M_ d H1 H2 H3 H4 H5 k1 k2 k3 k4 k5 t1 t5) n), (T_, tupOf its k)]) (by simp [hx, hdx, hT])
  simp only [List.cons_append, List.nil_append, fqpEs] at N2
  clear N
  revert X; k_fill; intro X
  k_dflt (walk_at "my enter")
  k_steps
  refine iter_tupJ sgnSt (SgnJ ns) (by first | exact hh | assumption) (List.mem_cons_of_mem _ (List.mem_cons_of_mem _ (List.mem_cons_self ..))) (by assumption) (by k_asm) (by k_asm) ?j0 ?turn ?done
  case j0 => exact ⟨_, _, rfl, rfl, .inl ⟨.inr ⟨_, rfl⟩, ⟨_, rfl⟩, rfl⟩⟩
  case done =>
    intro u h9 tk9 hJ F9 N9
    obtain ⟨sv, zv, h1, h2, hJ⟩ := hJ
    rw [sgn_map h1 h2] at F9
    k_steps
    exact hret _ _ _ (sgn_of hJ) (by k_asm) (cb_drop (by k_asm) (fun p hp => by simp [hp]))
  case turn =>
    intro i v t u h9 tk9 nw hv hJ hsub F9 N9
    obtain ⟨sv, zv, h1, h2, hJ⟩ := hJ
    have F9' := F9
    rw [sgn_map (a := fun _ => some (.int v t)) h1 h2] at F9
    clear F9'
    rcases hJ with ⟨hz, ⟨t0, rfl⟩, hj⟩ | ⟨rfl, hs⟩
    · rcases hz with rfl | ⟨t2, rfl⟩
      · k_steps
        exact JEnd.intro (by k_asm) (by k_asm) (by walk_at "my map") (sgnJ_zero hv hj rfl rfl)
      · k_steps
        exact JEnd.intro (by k_asm) (by k_asm) (by walk_at "my map") (sgnJ_zero hv hj rfl rfl)
    · have hs' := hs
      rcases hs with ⟨t0, rfl⟩ | ⟨rfl, h0⟩
      · k_steps
        · exact JEnd.intro (by k_asm) (by k_asm) (by walk_at "my map") (sgnJ_keep hs' rfl rfl)
        · exact JEnd.intro (by k_asm) (by k_asm) (by walk_at "my map") (sgnJ_keep (.inr ⟨rfl, by assumption⟩) rfl rfl)
      · k_steps
        exact JEnd.intro (by k_asm) (by k_asm) (by walk_at "my map") (sgnJ_keep hs' rfl rfl)
end

section
-- part L2
open PyProof.Rows.LCg
section
variable {prog : Program} {w : World} {A : Around} {E : Value → Shared → Prop} {s : Shared} {h₀ : Heap} {L : Addr} {m : Str → Option Value} {env : Env}

/-- [(a, b) for a, b in SRC if b] where SRC hands out pairs of ints: it ends, and leaves the frame and the ledger as they were -/
theorem mc_block {iter : PySem.Expr} {a b : Str} {pa pb pc pa2 pb2 tp tp2 : Pos} {kk k2 : Nat} {scope : Scope} {cl : List (Str × Addr)} {pos : Pos} {s₂ : Shared} {I : Addr} {fp wr : List Addr} {n : Nat} {Pt : Nat → Array Value → Prop}
    {St : Nat → Heap → Prop} {Mid : Nat → Addr → Heap → Prop} {news : List (Addr × Obj)} {RR : Value → Addr → Result → Shared → Prop}
    (hh : A.handled = none) (W : WalksT prog w A I fp wr n Pt St Mid) (hPt : ∀ i vals, Pt i vals → ∃ x t y u, vals = #[.int x t, .int y u]) (hsz : n ≤ sizeLine) (hst : St 0 s₂.heap) (hfp : ∀ b ∈ fp, b < s₂.heap.objs.size)
    (hcell : ∀ y ∈ scope.names, y.2 ≠ .cell) (hkind : scope.kind = .function) (hxa : scope.names.lookup a = some .local) (hxb : scope.names.lookup b = some .local) (hab : ¬ a = b)
    (hda : (a == ("__debug__" : Str)) = false) (hdb : (b == ("__debug__" : Str)) = false)
    (F : Fr h₀ L s₂.heap m) (N : News h₀ L s₂.heap news) (hwL : L ∉ wr) (hw₀ : ∀ b ∈ wr, h₀.get? b = none) (off : ∀ p ∈ news, p.1 ∉ wr)
    (hRR : ∀ D C h tk m', Fr h₀ L h m → News h₀ L h news → h.Ns C m' → h₀.get? C = none → C ≠ L → (∀ p ∈ news, p.1 ≠ C) → RR (.ref D) C (.ok .next) { s₂ with heap := h, toks := tk }) :
    wpAny (model prog w) A (newList []) (fun acc s₃ => wpAny (model prog w) A (newFunctionEnv scope env.globals cl [] env.qual none .none (some env)) (fun cenv s₄ =>
      codeAny (model prog w) A (.compStart (.ListComp (.Tuple [.Name a pa2, .Name b pb2] k2 tp2) [⟨.Tuple [.Name a pa, .Name b pb] kk tp, iter, [.Name b pc], 0⟩] scope pos) 0 (.ref I) acc { cenv with scope := relabel scope env }) (RR acc cenv.locals) s₄) E s₃) E s₂ := by
  refine wpAny_newObj_type (wpAny_newFunctionEnv hcell (by intro y hy; simp at hy) (fun h₁ hns₁ hsb₁ => ?_) hkind)
  dsimp only at hns₁ hsb₁ ⊢
  generalize hH2 : s₂.heap.push { cls := .type "list", dict := none, data := .seq ([] : List Value).toArray } = H2 at hns₁ hsb₁ ⊢
  have hC : H2.objs.size = s₂.heap.objs.size + 1 := by rw [← hH2, Heap.size_push]
  have hDC : s₂.heap.objs.size ≠ H2.objs.size := by rw [hC]; exact Nat.ne_of_lt (Nat.lt_succ_self _)
  have below : ∀ b, b < s₂.heap.objs.size → b ≠ H2.objs.size ∧ b ≠ s₂.heap.objs.size := fun b hb => ⟨by rw [hC]; exact Nat.ne_of_lt (Nat.lt_succ_of_lt hb), Nat.ne_of_lt hb⟩
  have hCf : H2.objs.size ∉ fp := fun hm => (below _ (hfp _ hm)).1 rfl
  have hDf : s₂.heap.objs.size ∉ fp := fun hm => Nat.lt_irrefl _ (hfp _ hm)
  have hCw : H2.objs.size ∉ wr := fun hm => hCf (W.sub _ hm)
  have hDw : s₂.heap.objs.size ∉ wr := fun hm => hDf (W.sub _ hm)
  have old : ∀ b o, s₂.heap.get? b = some o → h₁.get? b = some o := fun b o e => hsb₁.extBut b o (below b (Heap.lt_size e)).1 (Heap.get?_push_of_some _ (hH2 ▸ Heap.get?_push_of_some _ e))
  have hacc : h₁.get? s₂.heap.objs.size = some (lst []) := hsb₁.extBut _ _ hDC (Heap.get?_push_of_some _ (hH2 ▸ Heap.get?_push_size _ rfl))
  have hst₁ : St 0 h₁ := W.frame _ _ _ hst fun b _ o e => old b o e
  have fresh : ∀ a, s₂.heap.objs.size ≤ a → s₂.heap.get? a = none := fun a ha => by
    cases e : s₂.heap.get? a with
    | none => rfl
    | some o' => exact absurd (Heap.lt_size e) (Nat.not_lt.mpr ha)
  have fresh₀ : ∀ a, s₂.heap.objs.size ≤ a → h₀.get? a = none := fun a ha => by
    cases e : h₀.get? a with
    | none => rfl
    | some o' => have := F.keep a o' e; rw [fresh a ha] at this; cases this
  have hD₀ : h₀.get? s₂.heap.objs.size = none := fresh₀ _ (Nat.le_refl _)
  have hC₀ : h₀.get? H2.objs.size = none := fresh₀ _ (by rw [hC]; exact Nat.le_succ _)
  have hLlt : L < s₂.heap.objs.size := F.ns.lt
  have hDL : s₂.heap.objs.size ≠ L := Ne.symm (below L hLlt).2
  have hCL : H2.objs.size ≠ L := Ne.symm (below L hLlt).1
  have offC : ∀ p ∈ news, p.1 ≠ H2.objs.size := fun p hp => (below _ (Heap.lt_size (N p hp).1)).1
  have offD : ∀ p ∈ news, p.1 ≠ s₂.heap.objs.size := fun p hp => (below _ (Heap.lt_size (N p hp).1)).2
  have loop : ∀ s₃ : Shared, s₃ = { s₂ with heap := h₁, toks := s₂.toks + ([] : List (Str × Value)).length } →
      codeAny (model prog w) A (.compLoop (.ListComp (.Tuple [.Name a pa2, .Name b pb2] k2 tp2) [⟨.Tuple [.Name a pa, .Name b pb] kk tp, iter, [.Name b pc], 0⟩] scope pos) 0 (.ref I) (.ref s₂.heap.objs.size) (compEnvC scope cl H2.objs.size env))
        (RR (.ref s₂.heap.objs.size) H2.objs.size) s₃ := by
    rintro s₃ rfl
    refine kct_loop
      (fun k s' => ∃ h' tk i ys m', s' = { s₂ with heap := h', toks := tk } ∧ i ≤ n ∧ k = n + 1 - i ∧ ys.length ≤ i ∧ St i h' ∧ Fr h₀ L h' m ∧ h'.Ns H2.objs.size m' ∧ h'.get? s₂.heap.objs.size = some (lst ys) ∧ News h₀ L h' news) ?_ (n + 1)
      ⟨h₁, _, 0, [], _, rfl, Nat.zero_le _, rfl, Nat.le_refl _, hst₁, F.keeps old, hns₁, hacc, fun p hp => ⟨old _ _ (N p hp).1, (N p hp).2⟩⟩
    rintro k s' ⟨h', tk, i, ys, m', rfl, hi, rfl, hyl, hst', F', hn', hD', N'⟩
    have upW : ∀ {g g' : Heap}, (∀ b o, b ∉ wr → g.get? b = some o → g'.get? b = some o) → Fr h₀ L g m → Fr h₀ L g' m := fun hk F => ⟨F.ns.at' fun o e => hk _ o hwL e, fun c o e => hk c o (fun q => by have := hw₀ c q; rw [e] at this; cases this) (F.keep c o e), F.above⟩
    by_cases hlt : i < n
    · refine W.item i _ _ _ hlt hst' fun T vals h₂ tk₂ hP hTs hT hMid hk₂ => ?_
      refine W.go _ _ _ i T _ _ _ hMid fun h₃ hst₃ hk₃ => ?_
      obtain ⟨x, t, y, u, rfl⟩ := hPt i vals hP
      have hTw : T ∉ wr := W.apart i T h₂ hMid
      have hT₃ : h₃.IsTuple T #[.int x t, .int y u] := hT.at fun o e => hk₃ T o hTw e
      have up₃ : ∀ c o, c ∉ wr → h'.get? c = some o → h₃.get? c = some o := fun c o hc e => hk₃ c o hc (hk₂ c o hc e)
      refine kcp_assign (env := compEnvC scope cl H2.objs.size env) hh hT₃ (lookup_relabel_local hxa) (lookup_relabel_local hxb) (by simp [compEnvC, relabel, hkind]) (hn'.at' fun o e => up₃ _ o hCw e) fun h₄ tk₄ hn₄ hs₄ => ?_
      have hs₄' : ∀ c o, c ≠ H2.objs.size → h₃.get? c = some o → h₄.get? c = some o := hs₄
      have hst₄ : St (i + 1) h₄ := W.frame _ _ _ hst₃ fun c hc o e => hs₄' c o (fun q => hCf (q ▸ hc)) e
      have up₄ : ∀ c o, c ∉ wr → c ≠ H2.objs.size → h'.get? c = some o → h₄.get? c = some o := fun c o h1 h2 e => hs₄' c o h2 (up₃ c o h1 e)
      have F₄ : Fr h₀ L h₄ m := ⟨F'.ns.at' fun o e => up₄ _ o hwL (Ne.symm hCL) e, fun c o e => up₄ c o (fun q => by have := hw₀ c q; rw [e] at this; cases this) (fun q => by rw [q, hC₀] at e; cases e) (F'.keep c o e), F'.above⟩
      have N₄ : News h₀ L h₄ news := fun p hp => ⟨up₄ _ _ (off p hp) (offC p hp) (N' p hp).1, (N' p hp).2⟩
      have hD₄ : h₄.get? s₂.heap.objs.size = some (lst ys) := up₄ _ _ hDw hDC hD'
      have hkd : (compEnvC scope cl H2.objs.size env).scope.kind = .function := by simp [compEnvC, relabel, hkind]
      refine isTrue_plain (wpAny_Name (wpAny_loadName_local (v := .int y u) hkd (lookup_relabel_local hxb) hn₄ (by simp) (PyProof.Rows.truthy_int ?_)) hdb)
      cases hy : (y != 0) with
      | false =>
        simp only [Bool.false_eq_true, if_false]
        exact ⟨n + 1 - (i + 1), by omega, h₄, tk₄, i + 1, ys, _, rfl, hlt, rfl, Nat.le_succ_of_le hyl, hst₄, F₄, hn₄, hD₄, N₄⟩
      | true =>
        simp only [if_true]
        refine wpAny_Tuple_spliced (spliced_more (wpAny_Name (wpAny_loadName_local (v := .int x t) hkd (lookup_relabel_local hxa) hn₄ (by simp [hab]) (spliced_more (wpAny_Name (wpAny_loadName_local (v := .int y u) hkd (lookup_relabel_local hxb) hn₄ (by simp) (spliced_none ⟨by rw [sizeLine_eq]; simp, ?_⟩)) hdb))) hda))
        have hk₅ : ∀ c o, h₄.get? c = some o → (h₄.push { cls := .type "tuple", data := .seq #[Value.int x t, .int y u] }).get? c = some o := fun c o e => Heap.get?_push_of_some _ e
        refine append_at (hsz := by show ys.toArray.size ≤ sizeLine; rw [List.size_toArray]; exact Nat.le_trans hyl (Nat.le_trans hi hsz)) (hk₅ _ _ hD₄) fun h₆ hs₆ hD₆ => ?_
        have hk₆ : ∀ c o, c ≠ s₂.heap.objs.size → h₄.get? c = some o → h₆.get? c = some o := fun c o hc e => hs₆.extBut c o hc (hk₅ c o e)
        exact ⟨n + 1 - (i + 1), by omega, h₆, tk₄, i + 1, ys ++ [.ref h₄.objs.size], _, rfl, hlt, rfl, by rw [List.length_append, List.length_singleton]; exact Nat.succ_le_succ hyl,
          W.frame _ _ _ hst₄ fun c hc o e => hk₆ c o (fun q => hDf (q ▸ hc)) e, ⟨F₄.ns.at' fun o e => hk₆ _ o (Ne.symm hDL) e, fun c o e => hk₆ c o (fun q => by rw [q, hD₀] at e; cases e) (F₄.keep c o e), F₄.above⟩,
          hn₄.at' fun o e => hk₆ _ o (Ne.symm hDC) e, hD₆.trans (congrArg some (lst_snoc ys _)), fun p hp => ⟨hk₆ _ _ (offD p hp) (N₄ p hp).1, (N₄ p hp).2⟩⟩
    · obtain rfl : i = n := Nat.le_antisymm hi (Nat.not_lt.mp hlt)
      refine W.done _ _ _ hst' fun h₂ tk₂ hk₂ => ?_
      exact hRR _ _ h₂ tk₂ _ (upW hk₂ F') (fun p hp => ⟨hk₂ _ _ (off p hp) (N' p hp).1, (N' p hp).2⟩) (hn'.at' fun o e => hk₂ _ o hCw e) hC₀ hCL offC
  exact codeAny_compStart_list (loop _ rfl) (W.self 0 _ _ _ hst₁ (loop _ rfl))
end
end

section
-- part L3
open PyProof.Rows.LCg
open AutoSeq1 (wpAny_loadPart')
section
variable {prog : Program} {w : World} {A : Around} {E : Value → Shared → Prop} {s : Shared} {h₀ : Heap} {L : Addr} {m : Str → Option Value} {env : Env}

theorem tup_next {it l : Addr} {i : Nat} {items} {x : Value} {Q : Value → Shared → Prop} (hit : s.heap.IsTupleIter it l i)
    (hl : s.heap.IsTuple l items) (hx : items[i]? = some x)
    (hQ : ∀ h', h'.IsTupleIter it l (i + 1) → Heap.SameBut it s.heap h' → Q x { s with heap := h' }) :
    wpAny (model prog w) A (Builtin.SmallTypes.nextOf (.ref it)) Q E s := by
  obtain ⟨o, ho, hc, hd⟩ := id hit
  obtain ⟨ol, hol, _, nl, hdl⟩ := hl
  unfold Builtin.SmallTypes.nextOf
  refine wpAny_bind (wpAny_callSpecial?_slot (name := Str.ofString "__next__") hit.typeIs F.slot_tuple_iterator_next
    (wpAny_call_entry F.slot_tuple_iterator_next hit.typeIs F.entry_tuple_iterator_next ?_ (F.args_tuple_iterator_next_1 _)))
  show wpAny _ _ (field (.ref it) 0 >>= _) _ _ s
  refine wpAny_bind (wpAny_field ho hd (x := .ref l) rfl ?_)
  show wpAny _ _ (if (Value.ref l == Value.none) = true then _ else _) _ _ s
  rw [if_neg (show ¬ ((Value.ref l == Value.none) = true) from Bool.false_ne_true)]
  show wpAny _ _ (field (.ref it) 1 >>= _) _ _ s
  refine wpAny_bind (wpAny_field ho hd (x := .int i 0) rfl ?_)
  show wpAny _ _ (seqItems? (.ref l) >>= _) _ _ s
  refine wpAny_bind (wpAny_seqItems hol hdl ?_)
  simp only [Int.toNat_natCast, hx]
  refine wpAny_bind (wpAny_setField ho hd (by simp) (wpAny_pure ⟨x, rfl, wpAny_pure (hQ _ ?_ (Heap.SameBut.update ..))⟩))
  exact ⟨_, Heap.get?_update_self _ ho (Obj.isFreed_of_fields (Obj.data_mapFields hd _)), (Obj.cls_mapFields ..).trans hc, by
    rw [Obj.data_mapFields hd]; simp [rawInt]⟩

theorem tup_end {it l : Addr} {i : Nat} {items} {Q : Value → Shared → Prop} (hh : A.handled = none)
    (hit : s.heap.IsTupleIter it l i) (hl : s.heap.IsTuple l items) (hx : items[i]? = none)
    (hE : ∀ h' e, Heap.ExtBut it s.heap h' → (∃ o, h'.get? e = some o ∧ o.cls = .type "StopIteration") → E (.ref e) { s with heap := h' }) :
    wpAny (model prog w) A (Builtin.SmallTypes.nextOf (.ref it)) Q E s := by
  obtain ⟨o, ho, hc, hd⟩ := id hit
  obtain ⟨ol, hol, _, nl, hdl⟩ := hl
  unfold Builtin.SmallTypes.nextOf
  refine wpAny_bind (wpAny_callSpecial?_slot (name := Str.ofString "__next__") hit.typeIs F.slot_tuple_iterator_next
    (wpAny_call_entry F.slot_tuple_iterator_next hit.typeIs F.entry_tuple_iterator_next ?_ (F.args_tuple_iterator_next_1 _)))
  show wpAny _ _ (field (.ref it) 0 >>= _) _ _ s
  refine wpAny_bind (wpAny_field ho hd (x := .ref l) rfl ?_)
  show wpAny _ _ (if (Value.ref l == Value.none) = true then _ else _) _ _ s
  rw [if_neg (show ¬ ((Value.ref l == Value.none) = true) from Bool.false_ne_true)]
  show wpAny _ _ (field (.ref it) 1 >>= _) _ _ s
  refine wpAny_bind (wpAny_field ho hd (x := .int i 0) rfl ?_)
  show wpAny _ _ (seqItems? (.ref l) >>= _) _ _ s
  refine wpAny_bind (wpAny_seqItems hol hdl ?_)
  simp only [Int.toNat_natCast, hx]
  refine wpAny_bind (wpAny_rule (wpAny_bind (wpAny_setField ho hd (by simp) ?_)))
  show wpAny _ _ (newExc (.type "StopIteration") [] >>= _) _ _ _
  refine wpAny_bind ?_
  simp only [newExc, newTuple]
  refine wpAny_bind (wpAny_newObj_type ?_ (by size_fits))
  refine wpAny_bind (m := firstArgMember _ _) (wpAny_of_eq (a := Value.none) (by first | rfl | (simp only [firstArgMember]; rfl)) ?_)
  refine wpAny_newObj_type ?_ (by size_fits)
  simp only [raiseNew]
  refine wpAny_bind (wpAny_handled ?_)
  first | rw [show A.in1.handled = none from hh] | rw [hh]
  refine wpAny_bind (wpAny_pure (wpAny_throw ?_))
  exact hE _ _ (((Heap.SameBut.update ..).extBut.push _).push _) ⟨_, Heap.get?_push_size _ rfl, rfl⟩

theorem draws_tup (hh : A.handled = none) (it l : Addr) (hne : l ≠ it) (items : Array Value) :
    Draws prog w A it [it, l] items.size (fun i v => items[i]? = some v) (fun i h => h.IsTupleIter it l i ∧ h.IsTuple l items) where
  live := fun _ _ st => let ⟨o, ho, _⟩ := st.1; ⟨o, ho⟩
  frame := fun _ _ _ st hk => ⟨st.1.at fun o e => hk it (by simp) o e, st.2.at fun o e => hk l (by simp) o e⟩
  item := fun i s Q E hi st hQ => by
    refine tup_next st.1 st.2 (x := items[i]) (by simp [hi]) fun h' hit' hs' => ?_
    exact hQ _ h' s.toks (by simp [hi]) ⟨hit', st.2.extBut hs'.extBut hne⟩ hs'
  done := fun s Q E st hE => tup_end hh st.1 st.2 (by simp) hE

theorem enum_newT (l : Addr) (items : Array Value) (n : Nat) (dct : Option Addr) (sl : Array (Option Value)) :
    Meets (Builtin.«enumerate.__new__» ⟨[.type "enumerate", .ref l], []⟩) (fun _ R s => s.heap.get? l = some { cls := .type "tuple", dict := dct, data := .seq items n, slots := sl } ∧
      R (.ok (.ret (.ref (s.heap.push { cls := .type "tuple_iterator", data := .fields #[.ref l, .int 0 0] }).objs.size)))
        { s with heap := (s.heap.push { cls := .type "tuple_iterator", data := .fields #[.ref l, .int 0 0] }).push { cls := .type "enumerate", data := .fields #[.none, .bool false, .ref s.heap.objs.size, rawInt 0, .none, .none] } }) :=
  .of_wp fun prog w A R s h => by
    obtain ⟨hp, g, d, tk, os⟩ := s; obtain ⟨hl, h⟩ := h
    have hsub := sub_enumerate
    have hL : Heap.IsTuple (Shared.heap ⟨hp, g, d, tk, os⟩) l items := ⟨_, hl, rfl, n, rfl⟩
    wp_walk using wpAny_loadPart' hl
    refine wpAny_stack_any fun st => wpAny_pure ?_
    split
    · rename_i c _ _ _ _ _
      cases (c == Value.type "enumerate")
      · wp_walk using wpAny_loadPart' hl, wpAny_pyIter_tuple hL
        exact ⟨_, rfl, h⟩
      · wp_walk using wpAny_loadPart' hl, wpAny_pyIter_tuple hL
        exact ⟨_, rfl, h⟩
    · wp_walk using wpAny_loadPart' hl, wpAny_pyIter_tuple hL
      exact ⟨_, rfl, h⟩

theorem call_enum_tup {l : Addr} {items : Array Value} {Q : Value → Shared → Prop} (hL : s.heap.IsTuple l items)
    (h : ∀ h', IsEnum h' (s.heap.objs.size + 1) s.heap.objs.size 0 .none → h'.IsTupleIter s.heap.objs.size l 0 → h'.objs.size = s.heap.objs.size + 2 →
      (∀ b o, s.heap.get? b = some o → h'.get? b = some o) → Q (.ref (s.heap.objs.size + 1)) { s with heap := h' }) :
    wpAny (model prog w) A (call (.type "enumerate") [.ref l]) Q E s := by
  obtain ⟨⟨c, dct, dt, sl⟩, hl, hc, n, hd⟩ := hL
  replace hc : c = .type "tuple" := hc
  replace hd : dt = .seq items n := hd
  subst hc hd
  refine callType_new F.called_enumerate (by decide) (F.typeCall_enumerate_1 _) (F.newCall_enumerate_1 _) (fun obj => F.args_object_init_2 obj _) F.entry_enumerate_new
    (enum_newT l items n dct sl) ⟨hl, ?_⟩
  have hz : (s.heap.push { cls := .type "tuple_iterator", data := .fields #[.ref l, .int 0 0] }).objs.size = s.heap.objs.size + 1 := Heap.size_push ..
  show _ ∧ _
  rw [hz]
  have he : IsEnum ((s.heap.push { cls := .type "tuple_iterator", data := .fields #[.ref l, .int 0 0] }).push
      { cls := .type "enumerate", data := .fields #[.none, .bool false, .ref s.heap.objs.size, rawInt 0, .none, .none] }) (s.heap.objs.size + 1) s.heap.objs.size 0 .none := by
    have := Heap.get?_push_size (s.heap.push { cls := .type "tuple_iterator", data := .fields #[.ref l, .int 0 0] })
      (o := { cls := .type "enumerate", data := .fields #[.none, .bool false, .ref s.heap.objs.size, rawInt 0, .none, .none] }) rfl
    rw [hz] at this; exact this
  refine ⟨⟨_, he, rfl⟩, h _ he ⟨_, Heap.get?_push_of_some _ (Heap.get?_push_size _ rfl), rfl, rfl⟩ (by rw [Heap.size_push, hz]) fun b o x => Heap.get?_push_of_some _ (Heap.get?_push_of_some _ x)⟩

/-- what enumerate(SRC) hands the comprehension -/
def McSrc (prog : Program) (w : World) (A : Around) (h₀ : Heap) (L : Addr) (m : Str → Option Value) (Q : Value → Shared → Prop) (xv : Value) (s₁ : Shared) : Prop :=
  ∃ (I : Addr) (fp wr : List Addr) (n : Nat) (Pt : Nat → Array Value → Prop) (St : Nat → Heap → Prop) (Mid : Nat → Addr → Heap → Prop) (news : List (Addr × Obj)), xv = .ref I ∧ A.handled = none ∧
    WalksT prog w A I fp wr n Pt St Mid ∧ (∀ i vals, Pt i vals → ∃ x t y u, vals = #[.int x t, .int y u]) ∧ n ≤ sizeLine ∧ St 0 s₁.heap ∧ (∀ b ∈ fp, b < s₁.heap.objs.size) ∧ Fr h₀ L s₁.heap m ∧ News h₀ L s₁.heap news ∧
    L ∉ wr ∧ (∀ b ∈ wr, h₀.get? b = none) ∧ (∀ p ∈ news, p.1 ∉ wr) ∧ ∀ q h' tk, Fr h₀ L h' m → News h₀ L h' news → Q (.ref q) { s₁ with heap := h', toks := tk }

theorem mc_ListComp {iter : PySem.Expr} {a b : Str} {pa pb pc pa2 pb2 tp tp2 : Pos} {kk k2 : Nat} {scope : Scope} {cl : List (Str × Addr)} {pos : Pos} {Q : Value → Shared → Prop}
    (_F₀ : Fr h₀ L s.heap m) (hclos : closureFor scope env = pure cl) (hcell : ∀ y ∈ scope.names, y.2 ≠ .cell) (hkind : scope.kind = .function)
    (hnames : ∀ y ∈ scope.names, y.2 = .local → scope.names.lookup y.1 = some .local) (hxa : scope.names.lookup a = some .local) (hxb : scope.names.lookup b = some .local) (hab : ¬ a = b)
    (hda : (a == ("__debug__" : Str)) = false) (hdb : (b == ("__debug__" : Str)) = false)
    (h : wpAny (model prog w) A (eval iter env) (McSrc prog w A h₀ L m Q) E s)
    (hs : ∀ x, foldedSetIterable iter env x = pure x := by intro _; rfl) :
    wpAny (model prog w) A (eval (.ListComp (.Tuple [.Name a pa2, .Name b pb2] k2 tp2) [⟨.Tuple [.Name a pa, .Name b pb] kk tp, iter, [.Name b pc], 0⟩] scope pos) env) Q E s := by
  rw [eval_ListComp]
  refine wpAny_comprehension_free (use := none) rfl hs hclos hkind hnames (wpAny_mono h (fun xv s₁ h₁ => ?_) fun _ _ e => e)
  obtain ⟨I, fp, wr, n, Pt, St, Mid, news, rfl, hh, W, hPt, hsz, hst, hfp, F, N, hwL, hw₀, off, R⟩ := h₁
  refine W.self 0 _ _ _ hst ?_
  refine mc_block hh W hPt hsz hst hfp hcell hkind hxa hxb hab hda hdb F N hwL hw₀ off ?_
  intro D C h tk m' F' N' hn hC₀ hCL offC
  exact ⟨m', hn, fun h'' hs'' => R D h'' tk (F'.change hs'' hCL hC₀) (fun p hp => ⟨hs''.extBut _ _ (offC p hp) (N' p hp).1, (N' p hp).2⟩)⟩

theorem mc_pairs {items : Array Value} {ms : List Int} (hi : IntsAre items.toList ms) : ∀ (i : Nat) (vals : Array Value), (∃ t x, items[i]? = some x ∧ vals = #[.int i t, x]) → ∃ x t y u, vals = #[.int x t, .int y u] := by
  rintro i vals ⟨t, x, hx, rfl⟩
  have hx' : items.toList[i]? = some x := by simpa using hx
  have hlt : i < ms.length := by rw [← hi.length]; exact (List.getElem?_eq_some_iff.mp hx').1
  obtain ⟨u, e⟩ := hi.get i ms[i] (by simp [hlt])
  rw [hx'] at e
  cases e
  exact ⟨_, _, _, _, rfl⟩

theorem mc_list {ml : Addr} {items : Array Value} {k : Nat} {ms : List Int} {news : List (Addr × Obj)} {Q : Value → Shared → Prop} (hh : A.handled = none) (F : Fr h₀ L s.heap m) (N : News h₀ L s.heap news)
    (hm : (ml, listOf items k) ∈ news) (hi : IntsAre items.toList ms) (hsz : ms.length ≤ sizeLine) (R : ∀ q h' tk, Fr h₀ L h' m → News h₀ L h' news → Q (.ref q) { s with heap := h', toks := tk }) :
    wpAny (model prog w) A (call (.type "enumerate") [.ref ml]) (McSrc prog w A h₀ L m Q) E s := by
  have hls : s.heap.IsList ml items := ⟨_, (N _ hm).1, rfl, _, rfl⟩
  have hlt : ml < s.heap.objs.size := Heap.lt_size (N _ hm).1
  have hLlt : L < s.heap.objs.size := F.ns.lt
  refine call_enumerate_list hls fun h' he hit hz hk => ?_
  have hfr : ∀ b, s.heap.objs.size ≤ b → h₀.get? b = none := fun b hb => Heap.get?_none_of_le (Nat.le_trans F.above (Nat.le_trans (Nat.le_of_lt hLlt) hb))
  refine ⟨_, _, _, items.size, _, _, _, news, rfl, hh, WalksT.enumerate hh (s.heap.objs.size + 1) s.heap.objs.size ml (Nat.succ_ne_self _) (Nat.ne_of_lt (Nat.lt_succ_of_lt hlt)) (Nat.ne_of_lt hlt) items, mc_pairs hi, ?_, ⟨⟨_, he⟩, hit, hls.at fun o e => hk _ o e⟩, ?_, F.keeps hk, (fun p hp => ⟨hk _ _ (N p hp).1, (N p hp).2⟩), ?_, ?_, ?_, fun q h'' tk F' N' => R q h'' tk F' N'⟩
  · rw [← Array.length_toList, hi.length]; exact hsz
  · intro b hb
    show b < h'.objs.size
    rw [hz]
    rcases List.mem_cons.mp hb with rfl | hb
    · exact Nat.lt_succ_self _
    · rcases List.mem_cons.mp hb with rfl | hb
      · exact Nat.lt_succ_of_lt (Nat.lt_succ_self _)
      · rw [List.mem_singleton.mp hb]; exact Nat.lt_succ_of_lt (Nat.lt_succ_of_lt hlt)
  · intro hb
    rcases List.mem_cons.mp hb with hb | hb
    · exact absurd hLlt (by rw [hb]; exact Nat.not_lt.mpr (Nat.le_succ _))
    · exact absurd hLlt (by rw [List.mem_singleton.mp hb]; exact Nat.lt_irrefl _)
  · intro b hb
    rcases List.mem_cons.mp hb with rfl | hb
    · exact hfr _ (Nat.le_succ _)
    · rw [List.mem_singleton.mp hb]; exact hfr _ (Nat.le_refl _)
  · intro p hp hb
    have hpl := Heap.lt_size (N p hp).1
    rcases List.mem_cons.mp hb with hb | hb
    · rw [hb] at hpl; exact absurd hpl (Nat.not_lt.mpr (Nat.le_succ _))
    · rw [List.mem_singleton.mp hb] at hpl; exact absurd hpl (Nat.lt_irrefl _)

theorem mc_tup {ml : Addr} {items : Array Value} {k : Nat} {ms : List Int} {news : List (Addr × Obj)} {Q : Value → Shared → Prop} (hh : A.handled = none) (F : Fr h₀ L s.heap m) (N : News h₀ L s.heap news)
    (hm : (ml, ({ cls := .type "tuple", data := .seq items k } : Obj)) ∈ news) (hi : IntsAre items.toList ms) (hsz : ms.length ≤ sizeLine) (R : ∀ q h' tk, Fr h₀ L h' m → News h₀ L h' news → Q (.ref q) { s with heap := h', toks := tk }) :
    wpAny (model prog w) A (call (.type "enumerate") [.ref ml]) (McSrc prog w A h₀ L m Q) E s := by
  have hls : s.heap.IsTuple ml items := ⟨_, (N _ hm).1, rfl, _, rfl⟩
  have hlt : ml < s.heap.objs.size := Heap.lt_size (N _ hm).1
  have hLlt : L < s.heap.objs.size := F.ns.lt
  refine call_enum_tup hls fun h' he hit hz hk => ?_
  have hfr : ∀ b, s.heap.objs.size ≤ b → h₀.get? b = none := fun b hb => Heap.get?_none_of_le (Nat.le_trans F.above (Nat.le_trans (Nat.le_of_lt hLlt) hb))
  have D := draws_tup (prog := prog) (w := w) (A := A.in1) hh s.heap.objs.size ml (Nat.ne_of_lt hlt) items
  refine ⟨_, _, _, items.size, _, _, _, news, rfl, hh, WalksT.enumerateD D (s.heap.objs.size + 1) (Nat.succ_ne_self _) (fun hb => ?_) (List.mem_cons_self ..), fun i vals hv => mc_pairs hi i vals hv, ?_, ⟨⟨_, he⟩, hit, hls.at fun o e => hk _ o e⟩, ?_, F.keeps hk, (fun p hp => ⟨hk _ _ (N p hp).1, (N p hp).2⟩), ?_, ?_, ?_, fun q h'' tk F' N' => R q h'' tk F' N'⟩
  · rcases List.mem_cons.mp hb with hb | hb
    · exact Nat.succ_ne_self _ hb
    · have := List.mem_singleton.mp hb
      exact absurd hlt (by rw [← this]; exact Nat.not_lt.mpr (Nat.le_succ _))
  · rw [← Array.length_toList, hi.length]; exact hsz
  · intro b hb
    show b < h'.objs.size
    rw [hz]
    rcases List.mem_cons.mp hb with rfl | hb
    · exact Nat.lt_succ_self _
    · rcases List.mem_cons.mp hb with rfl | hb
      · exact Nat.lt_succ_of_lt (Nat.lt_succ_self _)
      · rw [List.mem_singleton.mp hb]; exact Nat.lt_succ_of_lt (Nat.lt_succ_of_lt hlt)
  · intro hb
    rcases List.mem_cons.mp hb with hb | hb
    · exact absurd hLlt (by rw [hb]; exact Nat.not_lt.mpr (Nat.le_succ _))
    · exact absurd hLlt (by rw [List.mem_singleton.mp hb]; exact Nat.lt_irrefl _)
  · intro b hb
    rcases List.mem_cons.mp hb with rfl | hb
    · exact hfr _ (Nat.le_succ _)
    · rw [List.mem_singleton.mp hb]; exact hfr _ (Nat.le_refl _)
  · intro p hp hb
    have hpl := Heap.lt_size (N p hp).1
    rcases List.mem_cons.mp hb with hb | hb
    · rw [hb] at hpl; exact absurd hpl (Nat.not_lt.mpr (Nat.le_succ _))
    · rw [List.mem_singleton.mp hb] at hpl; exact absurd hpl (Nat.lt_irrefl _)
end
end

section
-- part L4
open PyProof.Rows.LCg
section
variable {prog : Program} {w : World} {A : Around} {E : Value → Shared → Prop} {s : Shared} {h₀ : Heap} {L : Addr} {m : Str → Option Value} {env : Env} {news : List (Addr × Obj)}

theorem len_L {l : Addr} {its : Array Value} {k : Nat} {ns : List Int} {Q : Value → Shared → Prop} (N : News h₀ L s.heap news) (hm : (l, listOf its k) ∈ news) (hi : IntsAre its.toList ns) (hsz : ns.length ≤ sizeLine)
    (h : Q (.int ns.length (s.toks + 1)) { s with toks := s.toks + 1 + 1 }) : wpAny (model prog w) A (call (.builtin "len") [.ref l]) Q E s := by
  have e : its.size = ns.length := by rw [← hi.length, Array.length_toList]
  exact call_len_list ⟨_, (N _ hm).1, rfl, _, rfl⟩ (by rw [e]; rw [sizeLine_eq] at hsz; omega) (by rw [e]; exact h)
theorem len_T {l : Addr} {its : Array Value} {k : Nat} {ns : List Int} {Q : Value → Shared → Prop} (N : News h₀ L s.heap news) (hm : (l, ({ cls := .type "tuple", data := .seq its k } : Obj)) ∈ news) (hi : IntsAre its.toList ns) (hsz : ns.length ≤ sizeLine)
    (h : Q (.int ns.length (s.toks + 1)) { s with toks := s.toks + 1 + 1 }) : wpAny (model prog w) A (call (.builtin "len") [.ref l]) Q E s := by
  have e : its.size = ns.length := by rw [← hi.length, Array.length_toList]
  exact PyProof.Rows.len_tuple ⟨_, (N _ hm).1, rfl, _, rfl⟩ (by rw [e]; rw [sizeLine_eq] at hsz; omega) (by rw [e]; exact h)

theorem item_L {value slice : PySem.Expr} {l : Addr} {its : Array Value} {k : Nat} {ns : List Int} {i : Int} {u : Tok} {Q : Value → Shared → Prop} (N : News h₀ L s.heap news) (hm : (l, listOf its k) ∈ news) (hi : IntsAre its.toList ns)
    (h0 : 0 ≤ i) (h1 : i < (ns.length : Int)) (hsz : ns.length ≤ sizeLine) (h : ∀ t, Q (.int (ns.getD i.toNat 0) t) s)
    (hs : subscripted slice false (.ref l) (.int i u) = operate [.ref l, .int i u] (getItem (.ref l) (.int i u)) := by with_unfolding_all rfl) :
    wpAny (model prog w) A (subscriptTail value slice (.ref l) (.int i u)) Q E s := by
  have hl : s.heap.IsList l its := ⟨_, (N _ hm).1, rfl, _, rfl⟩
  have hlt : i.toNat < ns.length := by omega
  obtain ⟨t, e⟩ := hi.get i.toNat ns[i.toNat] (by simp [hlt])
  have hx : its[i.toNat]? = some (.int (ns.getD i.toNat 0) t) := by
    rw [List.getD_eq_getElem?_getD, List.getElem?_eq_getElem hlt, Option.getD_some]
    simpa using e
  exact tail_any hl.typeIs slot_list_getitem.lookup (wpAny_getItem_list hl h0 (by rw [sizeLine_eq] at hsz; omega) hx (h t)) hs
theorem item_Lneg {value slice : PySem.Expr} {l : Addr} {its : Array Value} {k : Nat} {ns : List Int} {i : Int} {u : Tok} {Q : Value → Shared → Prop} (N : News h₀ L s.heap news) (hm : (l, listOf its k) ∈ news) (hi : IntsAre its.toList ns)
    (h0 : i < 0) (h1 : -(ns.length : Int) ≤ i) (hsz : ns.length ≤ sizeLine) (h : ∀ t, Q (.int (ns.getD (i + ns.length).toNat 0) t) s)
    (hs : subscripted slice false (.ref l) (.int i u) = operate [.ref l, .int i u] (getItem (.ref l) (.int i u)) := by with_unfolding_all rfl) :
    wpAny (model prog w) A (subscriptTail value slice (.ref l) (.int i u)) Q E s := by
  have hl : s.heap.IsList l its := ⟨_, (N _ hm).1, rfl, _, rfl⟩
  have he : its.size = ns.length := by rw [← hi.length, Array.length_toList]
  have hlt : (i + ns.length).toNat < ns.length := by omega
  obtain ⟨t, e⟩ := hi.get (i + ns.length).toNat ns[(i + ns.length).toNat] (by simp [hlt])
  have hx : its[(i + its.size).toNat]? = some (.int (ns.getD (i + ns.length).toNat 0) t) := by
    rw [he, List.getD_eq_getElem?_getD, List.getElem?_eq_getElem hlt, Option.getD_some]
    simpa using e
  exact tail_any hl.typeIs slot_list_getitem.lookup (wpAny_getItem_list_neg hl h0 (by rw [he]; exact h1) (by rw [sizeLine_eq] at hsz; omega) hx (h t)) hs

/-- tuple(l) of a list in the ledger: a new tuple of the same items -/
theorem tup_L {l : Addr} {its : Array Value} {k : Nat} {ns : List Int} {Q : Value → Shared → Prop} (F : Fr h₀ L s.heap m) (N : News h₀ L s.heap news) (hm : (l, listOf its k) ∈ news) (hi : IntsAre its.toList ns) (hsz : ns.length ≤ sizeLine)
    (h : ∀ T h', Fr h₀ L h' m → News h₀ L h' ((T, ({ cls := .type "tuple", data := .seq its } : Obj)) :: news) → (∀ p ∈ news, p.1 < T) → Q (.ref T) { s with heap := h' }) :
    wpAny (model prog w) A (call (.type "tuple") [.ref l]) Q E s := by
  have e : its.size = ns.length := by rw [← hi.length, Array.length_toList]
  refine call_tuple_list ⟨_, (N _ hm).1, rfl, _, rfl⟩ (fun h' hk => ?_) (by rw [e]; exact hsz)
  have F' : Fr h₀ L h' m := F.keeps hk
  have N' : News h₀ L h' news := fun p hp => ⟨hk _ _ (N p hp).1, (N p hp).2⟩
  exact h _ _ (F'.push _) (N'.push F' _) fun p hp => Heap.lt_size (N' p hp).1
theorem tup_T {l : Addr} {its : Array Value} {k : Nat} {Q : Value → Shared → Prop} (N : News h₀ L s.heap news) (hm : (l, ({ cls := .type "tuple", data := .seq its k } : Obj)) ∈ news)
    (h : Q (.ref l) s) : wpAny (model prog w) A (call (.type "tuple") [.ref l]) Q E s := call_tuple_tup ⟨_, (N _ hm).1, rfl, _, rfl⟩ h
end
end

section
-- part L5
open PyProof.Rows.LCg
theorem ints_of_get : ∀ (vs : List Value) (ns : List Int), vs.length = ns.length → (∀ (j : Nat) (v : Value), vs[j]? = some v → ∃ n t, ns[j]? = some n ∧ v = .int n t) → IntsAre vs ns
  | [], [], _, _ => .nil
  | [], _ :: _, h, _ => by simp at h
  | _ :: _, [], h, _ => by simp at h
  | y :: ys, d :: ds, h, g => by
    obtain ⟨n, t, he, rfl⟩ := g 0 y rfl
    have he' : d = n := by simpa using he
    subst he'
    exact .cons _ _ (ints_of_get ys ds (by simpa using h) fun j v hv => g (j + 1) v (by simpa using hv))

section
variable {prog : Program} {w : World} {A : Around} {E : Value → Shared → Prop} {s : Shared} {h₀ : Heap} {L c P : Addr} {m mg : Str → Option Value} {env : Env} {bm : Addr} {ob : Obj}

theorem gen_code {pos : Pos} {q : Str} {scope : Scope} {ps : Array Value} {Q : Value → Shared → Prop} (hcode : env.code = .ref c) (C : CodeHd s.heap c P) (hP : s.heap.get? P = some (tabObj ps)) (ht : TriplesOk ps.toList)
    (hQ : ∀ code h' tk ps', Heap.ExtBut P s.heap h' → s.heap.objs.size ≤ h'.objs.size → h'.get? P = some (tabObj ps') → TriplesOk ps'.toList → Q code { s with heap := h', toks := tk }) :
    wpAny (model prog w) A (genexprCode env pos q scope) Q E s := by
  cases hnf : codeAmong pos ps.toList with
  | none =>
    refine wpAny_genexprCodeX hcode (C.code hP ht) (C.tab hP) hnf fun c' h' tk hx hge hlt hcode' _ htab' _ => ?_
    obtain ⟨_, _, _, _, _, _, _, _, _, op, _, _, _, _, _, _, _, e1, e2, htr, _⟩ := id hcode'
    exact hQ _ h' tk _ hx (Nat.le_trans hge (Nat.le_of_lt hlt)) htab'.2 htr
  | some cv =>
    exact wpAny_genexprCode_hit hcode (C.code hP ht) hnf (hQ cv s.heap s.toks ps (Heap.ExtBut.refl _ _) (Nat.le_refl _) hP ht)

/-- the generator that hands out v % p for each v of ns -/
def GenI (prog : Program) (w : World) (A : Around) (a K : Addr) (ns : List Int) (p : Int) (s : Shared) : Prop :=
  ∃ fp wr g St, WalksS prog w A.in4 a fp wr (GenOnlyQ g) ns.length (fun j y => ∃ v t, ns[j]? = some v ∧ y = .int (v.fmod p) t) St ∧ St 0 s ∧ (∀ i s', St i s' → s'.TypeIs (.ref a) "generator") ∧ a ∈ fp ∧ (∀ b ∈ fp, b < s.heap.objs.size) ∧ ∀ b ∈ wr, K ≤ b

def GenSrc (prog : Program) (w : World) (A : Around) (h₀ : Heap) (L c P : Addr) (m mg : Str → Option Value) (bm : Addr) (ob : Obj) (env : Env) (elt : PySem.Expr) (x : Str) (scope : Scope) (cl : List (Str × Addr)) (Q : Value → Shared → Prop) (xv : Value) (s₁ : Shared) : Prop :=
  ∃ l its k ns news g ps p, xv = .ref l ∧ Fr h₀ L s₁.heap m ∧ News h₀ L s₁.heap news ∧ (l, listOf its k) ∈ news ∧ IntsAre its.toList ns ∧ AllBare s₁.gens ∧ CodeHd h₀ c P ∧ UpdF P (tabObj ps) news g ∧ TriplesOk ps.toList ∧ BMod h₀ mainGlobals mg bm ob ∧ h₀.NoLimit ∧
    (∀ (A' : Around) E' (v : Int) t (u : Shared) C code m₂ ps' (Qv : Value → Shared → Prop), A'.handled = none → A'.depth ≤ A.depth + 1 → A'.units ≤ A.units + 8 → Fr h₀ C u.heap m₂ → News h₀ C u.heap (g (tabObj ps')) → m₂ x = some (.int v t) →
      (∀ tk t', Qv (.int (v.fmod p) t') { u with toks := tk }) → wpAny (model prog w) A' (eval elt (genEnv scope cl C code builtinsNs env)) Qv E' u) ∧
    ∀ a s₅ ps', TriplesOk ps'.toList → Fr h₀ L s₅.heap m → News h₀ L s₅.heap (g (tabObj ps')) → AllBare s₅.gens → s₅.os = s₁.os → GenI prog w A a s₁.heap.objs.size ns p s₅ → L < s₁.heap.objs.size → (∀ q ∈ g (tabObj ps'), q.1 < s₁.heap.objs.size) → Q (.ref a) s₅

theorem passing_all (n : Nat) : passing (fun _ => true) n 0 = List.range n := by
  unfold passing; rw [List.drop_zero, List.filter_eq_self.mpr (fun _ _ => rfl)]

theorem gen_make {elt iter : PySem.Expr} {x : Str} {px : Pos} {scope : Scope} {cl : List (Str × Addr)} {pos : Pos} {Q : Value → Shared → Prop}
    (_F : Fr h₀ L s.heap m) (_M : BMod h₀ mainGlobals mg bm ob) (hh : A.handled = none) (hcode : env.code = .ref c) (hglob : env.globals = mainGlobals) (hco : scope.isCoroutine = false) (hclos : closureFor scope env = pure cl) (hcell : ∀ y ∈ scope.names, y.2 ≠ .cell)
    (h0 : scope.names.lookup (".0" : Str) = some NameKind.local) (hx : scope.names.lookup x = some .local) (hkind : scope.kind = .function) (hroom : A.depth < recursionLimit)
    (h : wpAny (model prog w) A (eval iter env) (GenSrc prog w A h₀ L c P m mg bm ob env elt x scope cl Q) E s)
    (hs : ∀ x, genFold iter env x = pure x) :
    wpAny (model prog w) A (eval (.GeneratorExp elt [⟨.Name x px, iter, [], 0⟩] scope pos) env) Q E s := by
  refine wpAny_GeneratorExp_walksQD hh hco hclos hcell h0 hx hkind hroom (wpAny_mono h (fun xv s₁ h₁ => ?_) fun _ _ e => e) hs
  obtain ⟨l, its, k, ns, news, g, ps, p, rfl, F, N, hm, hi, G, C, U, ht, M, hlim, helt, hQ⟩ := h₁
  obtain ⟨pre, post, hnews, hgr, off1, off2⟩ := U.split
  have hls : s₁.heap.IsList l its := ⟨_, (N _ hm).1, rfl, _, rfl⟩
  have hlt : l < s₁.heap.objs.size := Heap.lt_size (N _ hm).1
  have hPm : (P, tabObj ps) ∈ news := by rw [hnews]; exact List.mem_append_right _ (.head _)
  have hPlt : P < s₁.heap.objs.size := Heap.lt_size (N _ hPm).1
  have hLlt : L < s₁.heap.objs.size := F.ns.lt
  have hlP : l ≠ P := fun e => by
    have e1 := (N _ hm).1
    rw [e, (N _ hPm).1] at e1
    cases e1
  have hlim₁ : s₁.heap.NoLimit := hlim.keeps F.keep
  have hclt : cStatics < s₁.heap.objs.size := let ⟨_, hn, _⟩ := hlim₁; hn.lt
  have hcP : cStatics ≠ P := fun e => by
    obtain ⟨_, hns, _⟩ := hlim₁
    obtain ⟨o, es, ep, ho, hd, _⟩ := hns
    rw [e, (N _ hPm).1] at ho; cases ho; cases hd
  have up₂ : ∀ b o, s₁.heap.get? b = some o → (s₁.heap.push { cls := .type "list_iterator", data := .fields #[.ref l, .int 0 0] }).get? b = some o := fun b o e => Heap.get?_push_of_some _ e
  refine wpAny_pyIter_list hls ⟨hlim₁.push _, ?_⟩
  refine gen_code hcode ((C.keeps F.keep).keeps up₂) (up₂ _ _ (N _ hPm).1) ht fun code h₃ tk₃ ps' hx₃ hsz₃ hP₃ ht₃ => ?_
  replace hx₃ : Heap.ExtBut P (s₁.heap.push { cls := .type "list_iterator", data := .fields #[.ref l, .int 0 0] }) h₃ := hx₃
  replace hsz₃ : s₁.heap.objs.size + 1 ≤ h₃.objs.size := by have := hsz₃; rwa [show (_ : Heap).objs.size = _ from Heap.size_push ..] at this
  have up₃ : ∀ b o, b ≠ P → s₁.heap.get? b = some o → h₃.get? b = some o := fun b o hb e => hx₃ b o hb (up₂ b o e)
  have hPn : h₀.get? P = none := (N _ hPm).2.2
  have old₃ : ∀ b o, h₀.get? b = some o → h₃.get? b = some o := fun b o e => up₃ b o (fun q => by rw [q, hPn] at e; cases e) (F.keep b o e)
  have hgsz : ∀ q ∈ g (tabObj ps'), q.1 < s₁.heap.objs.size := fun q hq => by
    rw [hgr] at hq
    rcases List.mem_append.mp hq with hq | hq
    · exact Heap.lt_size (N q (by rw [hnews]; exact List.mem_append_left _ hq)).1
    · rcases List.mem_cons.mp hq with rfl | hq
      · exact hPlt
      · exact Heap.lt_size (N q (by rw [hnews]; exact List.mem_append_right _ (.tail _ hq))).1
  have N₃ : ∀ q ∈ g (tabObj ps'), h₃.get? q.1 = some q.2 ∧ h₀.get? q.1 = none ∧ q.1 ≠ L := fun q hq => by
    rw [hgr] at hq
    rcases List.mem_append.mp hq with hq | hq
    · have n := N q (by rw [hnews]; exact List.mem_append_left _ hq)
      exact ⟨up₃ _ _ (off1 q hq) n.1, n.2.2, n.2.1⟩
    · rcases List.mem_cons.mp hq with rfl | hq
      · exact ⟨hP₃, hPn, (N _ hPm).2.1⟩
      · have n := N q (by rw [hnews]; exact List.mem_append_right _ (.tail _ hq))
        exact ⟨up₃ _ _ (off2 q hq) n.1, n.2.2, n.2.1⟩
  have hl₃ : h₃.NoLimit := (hlim₁.push _).extBut hx₃ hcP
  have M₃ : BMod h₃ env.globals mg bm ob := by rw [hglob]; exact M.keeps old₃
  refine wpAny_builtinsFor M₃.ns M₃.name M₃.ne M₃.obj M₃.cls M₃.dict M₃.data ?_
  have hIfp : ∀ b ∈ [s₁.heap.objs.size, l], b < h₃.objs.size := fun b hb => by
    rcases List.mem_cons.mp hb with rfl | hb
    · exact hsz₃
    · rw [List.mem_singleton.mp hb]; exact Nat.lt_of_lt_of_le hlt (Nat.le_of_succ_le hsz₃)
  have hit₃ : h₃.IsListIter s₁.heap.objs.size l 0 := ⟨_, hx₃ _ _ (Nat.ne_of_gt hPlt) (Heap.get?_push_size _ rfl), rfl, rfl⟩
  have hll₃ : h₃.IsList l its := ⟨_, up₃ _ _ hlP (N _ hm).1, rfl, _, rfl⟩
  have hlen : its.size = ns.length := by rw [← hi.length, Array.length_toList]
  have hLC : L < h₃.objs.size := Nat.lt_of_lt_of_le hLlt (Nat.le_of_succ_le hsz₃)
  refine ⟨s₁.heap.objs.size, [s₁.heap.objs.size, l], [s₁.heap.objs.size], ns.length, (fun i v => its[i]? = some v), (fun i h => h.IsListIter s₁.heap.objs.size l i ∧ h.IsList l its), fun _ => true, fun i y => ∃ v t, ns[i]? = some v ∧ y = .int (v.fmod p) t, rfl, (fun A' hA => by have W := Walks.list (prog := prog) (w := w) hA s₁.heap.objs.size l (Nat.ne_of_lt hlt) its; rw [hlen] at W; exact W), ⟨hit₃, hll₃⟩, hIfp, hl₃, ?_, (fun href hhref => ⟨?_, ?_⟩), fun a h₅ tk gs hgb hag hsz₅ hk₅ W hat => ?_⟩
  · intro hb
    exact absurd hclt (by rw [List.mem_singleton.mp hb]; exact Nat.lt_irrefl _)
  · intro A' E' i v t m₂ hA hD hU hPv hn hmx hkp
    simp only [List.forIn_nil]
    exact wpAny_pure ⟨rfl, _, t.toks, rfl, fun _ _ e => e⟩
  · intro A' E' i v t m₂ hA hD hU hPv _ hn hmx hkp
    have hlt' : i < ns.length := by have hv : its[i]? = some v := hPv; rw [← hlen]; exact (Array.getElem?_eq_some_iff.mp hv).1
    obtain ⟨tv, ev⟩ := hi.get i ns[i] (by simp [hlt'])
    have hv : v = .int ns[i] tv := by
      have hP' : its.toList[i]? = some v := by have hv : its[i]? = some v := hPv; simpa using hv
      rw [ev] at hP'; exact (Option.some.inj hP').symm
    subst hv
    have stay : ∀ b o, b < s₁.heap.objs.size → h₃.get? b = some o → t.heap.get? b = some o := fun b o hb e =>
      hkp b (List.mem_range.mpr (Heap.lt_size e)) (fun q => by rw [List.mem_singleton.mp q] at hb; exact Nat.lt_irrefl _ hb) o (hhref b o e)
    have Ft : Fr h₀ h₃.objs.size t.heap m₂ := ⟨hn, fun b o e => stay b o (Nat.lt_of_lt_of_le (Heap.lt_size e) (Nat.le_trans F.above (Nat.le_of_lt hLlt))) (old₃ b o e), Nat.le_trans F.above (Nat.le_of_lt hLC)⟩
    have Nt : News h₀ h₃.objs.size t.heap (g (tabObj ps')) := fun q hq => ⟨stay _ _ (hgsz q hq) (N₃ q hq).1, fun e => by have := hgsz q hq; rw [e] at this; exact absurd this (Nat.not_lt.mpr (Nat.le_of_succ_le hsz₃)), (N₃ q hq).2.1⟩
    exact helt A' E' ns[i] tv t h₃.objs.size code m₂ ps' _ hA hD hU Ft Nt hmx fun tk t' => ⟨⟨ns[i], t', by simp [hlt'], rfl⟩, t.heap, tk, rfl, fun _ _ e => e⟩
  · have F₃ : Fr h₀ L h₃ m := ⟨F.ns.at fun o e => up₃ _ o (Ne.symm (N _ hPm).2.1) e, old₃, F.above⟩
    refine hQ a _ ps' ht₃ (F₃.keeps hk₅) (fun q hq => ⟨hk₅ _ _ (N₃ q hq).1, (N₃ q hq).2.2, (N₃ q hq).2.1⟩) (G.push hgb) rfl ?_ hLlt hgsz
    rw [passing_all, List.length_range] at W
    refine ⟨_, _, _, _, W.imp fun j y hy => ?_, hat, (fun i s' st => st.1.typeIs), List.mem_cons_self, ?_, ?_⟩
    · obtain ⟨i, hij, v, t, hv, rfl⟩ := hy
      have : i = j := by
        have := List.getElem?_eq_some_iff.mp hij
        obtain ⟨h1, h2⟩ := this
        simp at h2
        exact h2.symm
      subst this
      exact ⟨v, t, hv, rfl⟩
    · intro b hb
      show b < h₅.objs.size
      rw [hsz₅]
      rcases List.mem_cons.mp hb with rfl | hb
      · exact Nat.lt_succ_self _
      · rcases List.mem_cons.mp hb with rfl | hb
        · exact Nat.lt_succ_of_lt hag
        · exact Nat.lt_succ_of_lt (Nat.lt_trans (List.mem_range.mp hb) hag)
    · intro b hb
      rcases List.mem_cons.mp hb with rfl | hb
      · exact Nat.le_of_succ_le hsz₃
      · rw [List.mem_singleton.mp hb]; exact Nat.le_refl _

theorem tup_gen {a K : Addr} {ns : List Int} {p : Int} {news : List (Addr × Obj)} {Q : Value → Shared → Prop} (F : Fr h₀ L s.heap m) (N : News h₀ L s.heap news) (G : AllBare s.gens) (X : GenI prog w A a K ns p s) (hLK : L < K) (hK : ∀ q ∈ news, q.1 < K) (hsz : ns.length ≤ sizeLine)
    (hQ : ∀ s' T its, Fr h₀ L s'.heap m → News h₀ L s'.heap ((T, ({ cls := .type "tuple", data := .seq its } : Obj)) :: news) → (∀ q ∈ news, q.1 < T) → AllBare s'.gens → s'.os = s.os → IntsAre its.toList (ns.map fun v => v.fmod p) → Q (.ref T) s') :
    wpAny (model prog w) A (call (.type "tuple") [.ref a]) Q E s := by
  obtain ⟨fp, wr, g, St, W, hst, hT, hI, hfp, hwr⟩ := X
  refine call_tuple_gen (hsz := hsz) W.in4_3 hT hst hfp hI fun s' acc hm hacc => ?_
  have F₁ : Fr h₀ L s'.heap m := F.moved hm fun b hb => Nat.lt_of_lt_of_le hLK (hwr b hb)
  have G₁ : AllBare s'.gens := G.movedS hm
  have N₁ : News h₀ L s'.heap news := fun q hq => ⟨hm.heap _ _ (fun hb => Nat.lt_irrefl _ (Nat.lt_of_lt_of_le (hK q hq) (hwr _ hb))) (N q hq).1, (N q hq).2⟩
  refine hQ _ _ acc (F₁.push _) (N₁.push F₁ _) (fun q hq => Heap.lt_size (N₁ q hq).1) G₁ hm.os (ints_of_get _ _ (by rw [Array.length_toList, hacc.1, List.length_map]) fun j v hv => ?_)
  obtain ⟨n, t, hn, rfl⟩ := hacc.2 j v (by simpa using hv)
  exact ⟨n.fmod p, t, by simp [hn], rfl⟩
end
end

section
-- part L6
open PyProof.Rows.LCg
theorem ints_snoc {b : Int} {t : Tok} : ∀ {vs : List Value} {ns : List Int}, IntsAre vs ns → IntsAre (vs ++ [.int b t]) (ns ++ [b])
  | _, _, .nil => .cons _ _ .nil
  | _, _, .cons n u h => .cons n u (ints_snoc h)

section
variable {prog : Program} {w : World} {A : Around} {E : Value → Shared → Prop} {s : Shared} {h₀ : Heap} {L : Addr} {m : Str → Option Value} {env : Env}

/-- [f(x) for x in SRC] where SRC hands out the ints ns -/
theorem cn_block {elt iter : PySem.Expr} {x : Str} {px : Pos} {scope : Scope} {cl : List (Str × Addr)} {pos : Pos} {s₂ : Shared} {I : Addr} {fp : List Addr} {ns : List Int} {P : Nat → Value → Prop}
    {St : Nat → Heap → Prop} {news : List (Addr × Obj)} {RR : Value → Addr → Result → Shared → Prop} (f : Int → Int)
    (W : Walks prog w A I fp [I] ns.length P St) (hP : ∀ i v, P i v → ∃ a t, ns[i]? = some a ∧ v = .int a t) (hsz : ns.length ≤ sizeLine) (hst : St 0 s₂.heap) (hfp : ∀ b ∈ fp, b < s₂.heap.objs.size)
    (hcell : ∀ y ∈ scope.names, y.2 ≠ .cell) (hkind : scope.kind = .function) (hx : scope.names.lookup x = some .local)
    (F : Fr h₀ L s₂.heap m) (N : News h₀ L s₂.heap news) (hIL : L ≠ I) (hI₀ : h₀.get? I = none) (off : ∀ p ∈ news, p.1 ≠ I)
    (helt : ∀ C h tk m₂ a t E' (Qv : Value → Shared → Prop), h.Ns C m₂ → m₂ x = some (.int a t) → (∀ tk' t', Qv (.int (f a) t') { s₂ with heap := h, toks := tk' }) → wpAny (model prog w) A (eval elt (compEnvC scope cl C env)) Qv E' { s₂ with heap := h, toks := tk })
    (hRR : ∀ D C h tk m' ys, IntsAre ys (ns.map f) → Fr h₀ L h m → News h₀ L h ((D, lst ys) :: news) → (∀ p ∈ news, p.1 < D) → h.Ns C m' → h₀.get? C = none → C ≠ L → C ≠ D → (∀ p ∈ news, p.1 ≠ C) → RR (.ref D) C (.ok .next) { s₂ with heap := h, toks := tk }) :
    wpAny (model prog w) A (newList []) (fun acc s₃ => wpAny (model prog w) A (newFunctionEnv scope env.globals cl [] env.qual none .none (some env)) (fun cenv s₄ =>
      codeAny (model prog w) A (.compStart (.ListComp elt [⟨.Name x px, iter, [], 0⟩] scope pos) 0 (.ref I) acc { cenv with scope := relabel scope env }) (RR acc cenv.locals) s₄) E s₃) E s₂ := by
  refine wpAny_newObj_type (wpAny_newFunctionEnv hcell (by intro y hy; simp at hy) (fun h₁ hns₁ hsb₁ => ?_) hkind)
  dsimp only at hns₁ hsb₁ ⊢
  generalize hH2 : s₂.heap.push { cls := .type "list", dict := none, data := .seq ([] : List Value).toArray } = H2 at hns₁ hsb₁ ⊢
  have hC : H2.objs.size = s₂.heap.objs.size + 1 := by rw [← hH2, Heap.size_push]
  have hDC : s₂.heap.objs.size ≠ H2.objs.size := by rw [hC]; exact Nat.ne_of_lt (Nat.lt_succ_self _)
  have below : ∀ b, b < s₂.heap.objs.size → b ≠ H2.objs.size ∧ b ≠ s₂.heap.objs.size := fun b hb => ⟨by rw [hC]; exact Nat.ne_of_lt (Nat.lt_succ_of_lt hb), Nat.ne_of_lt hb⟩
  have hCf : H2.objs.size ∉ fp := fun hm => (below _ (hfp _ hm)).1 rfl
  have hDf : s₂.heap.objs.size ∉ fp := fun hm => Nat.lt_irrefl _ (hfp _ hm)
  have hIlt : I < s₂.heap.objs.size := hfp I (W.sub I (List.mem_singleton.mpr rfl))
  have hCI : I ≠ H2.objs.size := (below I hIlt).1
  have hDI : I ≠ s₂.heap.objs.size := (below I hIlt).2
  have old : ∀ b o, s₂.heap.get? b = some o → h₁.get? b = some o := fun b o e => hsb₁.extBut b o (below b (Heap.lt_size e)).1 (Heap.get?_push_of_some _ (hH2 ▸ Heap.get?_push_of_some _ e))
  have hacc : h₁.get? s₂.heap.objs.size = some (lst []) := hsb₁.extBut _ _ hDC (Heap.get?_push_of_some _ (hH2 ▸ Heap.get?_push_size _ rfl))
  have hst₁ : St 0 h₁ := W.frame _ _ _ hst fun b _ o e => old b o e
  have fresh : ∀ a, s₂.heap.objs.size ≤ a → s₂.heap.get? a = none := fun a ha => by
    cases e : s₂.heap.get? a with
    | none => rfl
    | some o' => exact absurd (Heap.lt_size e) (Nat.not_lt.mpr ha)
  have fresh₀ : ∀ a, s₂.heap.objs.size ≤ a → h₀.get? a = none := fun a ha => by
    cases e : h₀.get? a with
    | none => rfl
    | some o' => have := F.keep a o' e; rw [fresh a ha] at this; cases this
  have hD₀ : h₀.get? s₂.heap.objs.size = none := fresh₀ _ (Nat.le_refl _)
  have hC₀ : h₀.get? H2.objs.size = none := fresh₀ _ (by rw [hC]; exact Nat.le_succ _)
  have hLlt : L < s₂.heap.objs.size := F.ns.lt
  have hDL : s₂.heap.objs.size ≠ L := Ne.symm (below L hLlt).2
  have hCL : H2.objs.size ≠ L := Ne.symm (below L hLlt).1
  have offC : ∀ p ∈ news, p.1 ≠ H2.objs.size := fun p hp => (below _ (Heap.lt_size (N p hp).1)).1
  have offD : ∀ p ∈ news, p.1 ≠ s₂.heap.objs.size := fun p hp => (below _ (Heap.lt_size (N p hp).1)).2
  have loop : ∀ s₃ : Shared, s₃ = { s₂ with heap := h₁, toks := s₂.toks + ([] : List (Str × Value)).length } →
      codeAny (model prog w) A (.compLoop (.ListComp elt [⟨.Name x px, iter, [], 0⟩] scope pos) 0 (.ref I) (.ref s₂.heap.objs.size) (compEnvC scope cl H2.objs.size env))
        (RR (.ref s₂.heap.objs.size) H2.objs.size) s₃ := by
    rintro s₃ rfl
    refine kcp_loop
      (fun k s' => ∃ h' tk i ys m', s' = { s₂ with heap := h', toks := tk } ∧ i ≤ ns.length ∧ k = ns.length + 1 - i ∧ IntsAre ys ((ns.take i).map f) ∧ St i h' ∧ Fr h₀ L h' m ∧ h'.Ns H2.objs.size m' ∧ h'.get? s₂.heap.objs.size = some (lst ys) ∧ News h₀ L h' news) ?_ (ns.length + 1)
      ⟨h₁, _, 0, [], _, rfl, Nat.zero_le _, rfl, .nil, hst₁, F.keeps old, hns₁, hacc, fun p hp => ⟨old _ _ (N p hp).1, (N p hp).2⟩⟩
    rintro k s' ⟨h', tk, i, ys, m', rfl, hi, rfl, hyl, hst', F', hn', hD', N'⟩
    by_cases hlt : i < ns.length
    · refine W.item i _ _ _ hlt hst' fun v h₂ tk₂ hPv hst₂ hk₂ => ?_
      refine wpAny_of_eq (rfl : letOwnedTupleGo (.Name x px) (.ref I) v = pure ()) ?_
      have up₂ : ∀ c o, c ≠ I → h'.get? c = some o → h₂.get? c = some o := fun c o hc e => hk₂ c o (by simpa using hc) e
      refine wpAny_assign_Name (wpAny_storeName_local (lookup_relabel_local hx) (hn'.at' fun o e => up₂ _ o (Ne.symm hCI) e) (fun h₃ hn₃ hs₃ => ?_) (by simp [compEnvC, relabel, hkind]))
      have up₃ : ∀ c o, c ≠ I → c ≠ H2.objs.size → h'.get? c = some o → h₃.get? c = some o := fun c o h1 h2 e => hs₃.extBut c o h2 (up₂ c o h1 e)
      have hst₃ : St (i + 1) h₃ := W.frame _ _ _ hst₂ fun c hc o e => hs₃.extBut c o (fun q => hCf (by have q' : c = H2.objs.size := q; rw [← q']; exact hc)) e
      obtain ⟨a, t, hna, rfl⟩ := hP i v hPv
      refine helt H2.objs.size h₃ _ _ a t _ _ hn₃ (by simp) fun tk₄ t' => ?_
      have F₃ : Fr h₀ L h₃ m := ⟨F'.ns.at' fun o e => up₃ _ o hIL (Ne.symm hCL) e, fun c o e => up₃ c o (fun q => by rw [q, hI₀] at e; cases e) (fun q => by rw [q, hC₀] at e; cases e) (F'.keep c o e), F'.above⟩
      have N₃ : News h₀ L h₃ news := fun p hp => ⟨up₃ _ _ (off p hp) (offC p hp) (N' p hp).1, (N' p hp).2⟩
      have hD₃ : h₃.get? s₂.heap.objs.size = some (lst ys) := up₃ _ _ (Ne.symm hDI) hDC hD'
      have hyn : ys.length ≤ ns.length := by rw [hyl.length, List.length_map, List.length_take]; omega
      refine append_at (hsz := by show ys.toArray.size ≤ sizeLine; rw [List.size_toArray]; exact Nat.le_trans hyn hsz) hD₃ fun h₆ hs₆ hD₆ => ?_
      have hk₆ : ∀ c o, c ≠ s₂.heap.objs.size → h₃.get? c = some o → h₆.get? c = some o := fun c o hc e => hs₆.extBut c o hc e
      refine ⟨ns.length + 1 - (i + 1), by omega, h₆, tk₄, i + 1, ys ++ [.int (f a) t'], _, rfl, hlt, rfl, ?_,
        W.frame _ _ _ hst₃ fun c hc o e => hk₆ c o (fun q => hDf (q ▸ hc)) e, ⟨F₃.ns.at' fun o e => hk₆ _ o (Ne.symm hDL) e, fun c o e => hk₆ c o (fun q => by rw [q, hD₀] at e; cases e) (F₃.keep c o e), F₃.above⟩,
        hn₃.at' fun o e => hk₆ _ o (Ne.symm hDC) e, hD₆.trans (congrArg some (lst_snoc ys _)), fun p hp => ⟨hk₆ _ _ (offD p hp) (N₃ p hp).1, (N₃ p hp).2⟩⟩
      rw [List.take_add_one, hna, Option.toList_some, List.map_append, List.map_cons, List.map_nil]
      exact ints_snoc hyl
    · obtain rfl : i = ns.length := Nat.le_antisymm hi (Nat.not_lt.mp hlt)
      rw [List.take_length] at hyl
      refine W.done _ _ _ hst' fun h₂ tk₂ hk₂ => ?_
      have up₂ : ∀ c o, c ≠ I → h'.get? c = some o → h₂.get? c = some o := fun c o hc e => hk₂ c o (by simpa using hc) e
      refine hRR _ _ h₂ tk₂ _ ys hyl ⟨F'.ns.at' fun o e => up₂ _ o hIL e, fun c o e => up₂ c o (fun q => by rw [q, hI₀] at e; cases e) (F'.keep c o e), F'.above⟩ (fun p hp => ?_) (fun p hp => Heap.lt_size (N p hp).1) (hn'.at' fun o e => up₂ _ o (Ne.symm hCI) e) hC₀ hCL (Ne.symm hDC) offC
      rcases List.mem_cons.mp hp with rfl | hp
      · exact ⟨up₂ _ _ (Ne.symm hDI) hD', hDL, hD₀⟩
      · exact ⟨up₂ _ _ (off p hp) (N' p hp).1, (N' p hp).2⟩
  exact codeAny_compStart_list (loop _ rfl) (W.self 0 _ _ _ hst₁ (loop _ rfl))

def CnSrc (prog : Program) (w : World) (A : Around) (h₀ : Heap) (L : Addr) (m : Str → Option Value) (env : Env) (elt : PySem.Expr) (x : Str) (scope : Scope) (cl : List (Str × Addr)) (f : Int → Int) (Q : Value → Shared → Prop) (xv : Value) (s₁ : Shared) : Prop :=
  ∃ (T : Addr) (its : Array Value) (k : Nat) (ns : List Int) (news : List (Addr × Obj)), xv = .ref T ∧ (T, ({ cls := .type "tuple", data := .seq its k } : Obj)) ∈ news ∧ IntsAre its.toList ns ∧ ns.length ≤ sizeLine ∧ Fr h₀ L s₁.heap m ∧ News h₀ L s₁.heap news ∧
      (∀ C h tk m₂ a t E' g (Qv : Value → Shared → Prop), h.Ns C m₂ → m₂ x = some (.int a t) → (∀ tk' t', Qv (.int (f a) t') { s₁ with heap := h, toks := tk', gens := g }) → wpAny (model prog w) A (eval elt (compEnvC scope cl C env)) Qv E' { s₁ with heap := h, toks := tk, gens := g }) ∧
      ∀ D its' k' h' tk, IntsAre its'.toList (ns.map f) → (∀ p ∈ news, p.1 < D) → Fr h₀ L h' m → News h₀ L h' ((D, listOf its' k') :: news) → Q (.ref D) { s₁ with heap := h', toks := tk }

/-- [f(x) for x in T], T a tuple of ints in the ledger -/
theorem cn_ListComp {elt iter : PySem.Expr} {x : Str} {px : Pos} {scope : Scope} {cl : List (Str × Addr)} {pos : Pos} {Q : Value → Shared → Prop} (f : Int → Int)
    (_F₀ : Fr h₀ L s.heap m) (hh : A.handled = none) (hclos : closureFor scope env = pure cl) (hcell : ∀ y ∈ scope.names, y.2 ≠ .cell) (hkind : scope.kind = .function)
    (hnames : ∀ y ∈ scope.names, y.2 = .local → scope.names.lookup y.1 = some .local) (hx : scope.names.lookup x = some .local)
    (h : wpAny (model prog w) A (eval iter env) (CnSrc prog w A h₀ L m env elt x scope cl f Q) E s)
    (hs : ∀ x, foldedSetIterable iter env x = pure x := by intro _; rfl) :
    wpAny (model prog w) A (eval (.ListComp elt [⟨.Name x px, iter, [], 0⟩] scope pos) env) Q E s := by
  rw [eval_ListComp]
  refine wpAny_comprehension_free (use := none) rfl hs hclos hkind hnames (wpAny_mono h (fun xv s₁ h₁ => ?_) fun _ _ e => e)
  obtain ⟨T, its, k, ns, news, rfl, hm, hi, hsz, F, N, helt, R⟩ := h₁
  have hls : s₁.heap.IsTuple T its := ⟨_, (N _ hm).1, rfl, _, rfl⟩
  have hlt : T < s₁.heap.objs.size := Heap.lt_size (N _ hm).1
  refine wpAny_pyIter_tuple hls ?_
  have W := Walks.tuple (prog := prog) (w := w) hh s₁.heap.objs.size T (Nat.ne_of_lt hlt) its
  have hlen : its.size = ns.length := by simp [← hi.length]
  rw [hlen] at W
  refine cn_block f W (fun i v hv => ?_) hsz ⟨⟨_, Heap.get?_push_size _ rfl, rfl, rfl⟩, hls.push _⟩ (fun b hb => ?_) hcell hkind hx (F.push _) (fun p hp => ⟨Heap.get?_push_of_some _ (N p hp).1, (N p hp).2⟩) (Nat.ne_of_lt F.ns.lt) (next_is_new F) (fun p hp => Nat.ne_of_lt (Heap.lt_size (N p hp).1)) (fun C h tk m₂ a t E' Qv => helt C h tk m₂ a t E' s₁.gens Qv) ?_
  · have hlt' : i < ns.length := by rw [← hlen]; exact (Array.getElem?_eq_some_iff.mp hv).1
    obtain ⟨tv, ev⟩ := hi.get i ns[i] (by simp [hlt'])
    have hP' : its.toList[i]? = some v := by simpa using hv
    rw [ev] at hP'
    exact ⟨ns[i], tv, by simp [hlt'], (Option.some.inj hP').symm⟩
  · show b < (s₁.heap.push _).objs.size
    rw [Heap.size_push]
    rcases List.mem_cons.mp hb with rfl | hb
    · exact Nat.lt_succ_self _
    · rw [List.mem_singleton.mp hb]; exact Nat.lt_succ_of_lt hlt
  · intro D C h tk m' ys hys F' N' l1 hn hC₀ hCL hCD offC
    refine ⟨m', hn, fun h'' hs'' => R D ys.toArray ys.length h'' tk (by simpa using hys) l1 (F'.change hs'' hCL hC₀) (fun p hp => ?_)⟩
    rcases List.mem_cons.mp hp with rfl | hp
    · exact ⟨hs''.extBut _ _ (Ne.symm hCD) (N' _ (.head _)).1, (N' _ (.head _)).2⟩
    · exact ⟨hs''.extBut _ _ (offC p hp) (N' p (.tail _ hp)).1, (N' p (.tail _ hp)).2⟩
end
end

section
-- part D1

/-- ledger l holds (a, o); rest is l without that entry -/
inductive Pick (a : Addr) (o : Obj) : List (Addr × Obj) → List (Addr × Obj) → Prop
  | head {r} : Pick a o ((a, o) :: r) r
  | tail {q r r'} : Pick a o r r' → Pick a o (q :: r) (q :: r')
theorem Pick.mem {a : Addr} {o : Obj} {l r : List (Addr × Obj)} (h : Pick a o l r) : (a, o) ∈ l ∧ ∀ q ∈ r, q ∈ l := by
  induction h with
  | head => exact ⟨.head _, fun q hq => .tail _ hq⟩
  | tail _ ih => exact ⟨.tail _ ih.1, fun q hq => by rcases List.mem_cons.mp hq with rfl | hq; exact .head _; exact .tail _ (ih.2 q hq)⟩

end

local macro_rules | `(tactic| walk_at "my enter") => `(tactic| (refine' code_def ?k1 ?k2 ?k3 ?k4 ?k5 ?kA ?kF ?kK ?k6 ?k7 ?k8 ?k9 ?kB ?_ ?c2 ?c3 ?c4 ?c5; (case kA => first | exact rfl | assumption | exact Around.frames_deeper (by assumption)); (case kF => first | exact rfl | assumption); (case kK => first | exact rfl | assumption); (case k1 => k_asm); (case k2 => k_asm); (case k3 => k_asm); (case k4 => k_asm); (case k5 => k_asm); (case k6 => k_is); (case k7 => k_is); (case k8 => first | ktr_room | omega); (case k9 => first | exact BindsTo.of_eq rfl | exact binds_K (by k_in) rfl (by k_is) rfl rfl rfl); (case c5 => decide); (case kB => exact locs rfl); (case c2 => exact rfl); (case c3 => exact rfl); (case c4 => exact rfl); k_whole; intro g' L' h' FG' F' N' B' X' T'; (try dsimp only); (try k_lift B'); (try k_fold)))
local macro_rules | `(tactic| walk_at "my units") => `(tactic| first | omega | ((try simp only [units_in1, units_deeper, Around.mark_units, units_caller] at *); omega) | ((try simp only [units_in1, units_deeper, Around.mark_units, units_caller, cLine] at *); omega))
local macro_rules | `(tactic| walk_at "my depth") => `(tactic| first | omega | ((try simp only [depth_under_make, depth_under_kw, depth_in1, depth_deeper, depth_caller] at *); omega) | ((try simp only [depth_under_make, depth_under_kw, depth_in1, depth_deeper, depth_caller, recursionLimit] at *); omega))
local macro_rules | `(tactic| walk_at "my enterC") => `(tactic| (refine' code_defC ?k1 ?k2 ?k3 ?k4 ?k5 ?kA ?kF ?kK ?k6 ?k7 ?k8 ?k9 ?kB ?kD ?_ ?c2 ?c3 ?c4; (case kA => first | exact rfl | assumption | exact Around.frames_deeper (by assumption)); (case kF => first | exact rfl | assumption); (case kK => first | exact rfl | assumption); (case k1 => k_asm); (case k2 => k_asm); (case k3 => k_asm); (case k4 => k_asm); (case k5 => k_asm); (case k6 => k_is); (case k7 => k_is); (case k8 => first | ktr_room | omega); (case k9 => first | exact BindsTo.of_eq rfl | exact binds_K (by k_in) rfl (by k_is) rfl rfl rfl); (case kB => exact rfl); (case kD => decide +kernel); (case c2 => exact rfl); (case c3 => exact rfl); (case c4 => exact rfl); k_whole; intro g' L' h' tk' cells' FG' F' N' Y' B' X' T' l1; (try k_lt l1); k_cells Y'; (try simp only [List.cons_append, List.nil_append] at N'); (try dsimp only); (try k_lift B'); (try k_fold)))
local macro_rules | `(tactic| walk_at "exec Assign cons ListComp") => `(tactic| (k_here; (with_reducible show wpAny _ _ (exec (Stmt.Assign [Expr.Attribute _ _ _] (Expr.ListComp (Expr.Tuple _ _ _) _ _ _) _) _) _ _ _); with_reducible refine plainObj_wpAny_Assign_Attribute ?_ ?_; rotate_left; with_unfolding_all rfl))
local macro_rules | `(tactic| walk_at "exec Assign") => `(tactic| (k_here; (with_reducible show wpAny _ _ (exec (Stmt.Assign [Expr.Attribute _ _ _] (Expr.ListComp (Expr.Tuple _ _ _) _ _ _) _) _) _ _ _); with_reducible refine plainObj_wpAny_Assign_Attribute ?_ ?_; rotate_left; with_unfolding_all rfl))
local macro_rules | `(tactic| walk_at "eval ListComp Tuple cons") => `(tactic| (k_here; k_dflt (refine' mc_ListComp ?k1 ?k2 ?k3 ?k4 ?k5 ?k6 ?k7 ?k8 ?k9 ?k10 ?_; (case k1 => k_asm); (case k2 => exact rfl); (case k3 => decide); (case k4 => exact rfl); (case k5 => decide); (case k6 => exact rfl); (case k7 => exact rfl); (case k8 => decide); (case k9 => decide); (case k10 => decide); k_whole)))
local macro_rules | `(tactic| walk_at "call type:enumerate") => `(tactic| (k_here; k_dflt (first | (refine' mc_list ?k1 ?k2 ?k3 ?k4 ?k5 ?k6 ?_; (case k1 => first | exact rfl | assumption); (case k2 => k_asm); (case k3 => k_asm); (case k4 => k_mem); (case k5 => assumption); (case k6 => assumption)) | (refine' mc_tup ?k1 ?k2 ?k3 ?k4 ?k5 ?k6 ?_; (case k1 => first | exact rfl | assumption); (case k2 => k_asm); (case k3 => k_asm); (case k4 => k_mem); (case k5 => assumption); (case k6 => assumption))); intro q' h' tk' F' N'; (try k_sweep)))
local macro_rules | `(tactic| k_all) => `(tactic| assumption)
local macro_rules | `(tactic| walk_at "ite") => `(tactic| (k_here; k_dflt (first | (refine ite_neg (by intro hq9; simp only [bne_iff_ne, ne_eq, beq_iff_eq, decide_eq_true_eq] at hq9; omega) ?_) | (refine ite_pos (by simp only [bne_iff_ne, ne_eq, beq_iff_eq, decide_eq_true_eq]; omega) ?_))))
local macro_rules | `(tactic| walk_at "call builtin:len") => `(tactic| (k_here; k_dflt (first | (refine' len_L ?k3 ?k4 ?k5 ?k6 ?_; (case k3 => k_asm); (case k4 => k_mem); (case k5 => assumption); (case k6 => assumption)) | (refine' len_T ?k3 ?k4 ?k5 ?k6 ?_; (case k3 => k_asm); (case k4 => k_mem); (case k5 => assumption); (case k6 => assumption)))))
local macro_rules | `(tactic| walk_at "subscriptTail Name Constant ref int") => `(tactic| (k_here; k_dflt (refine' item_L ?k3 ?k4 ?k5 ?k6 ?k7 ?k8 ?_ ?k9; (case k3 => k_asm); (case k4 => k_mem); (case k5 => assumption); (case k6 => decide); (case k7 => omega); (case k8 => assumption); (case k9 => with_unfolding_all rfl)); intro t'))
local macro_rules | `(tactic| walk_at "eval GeneratorExp") => `(tactic| (k_here; k_dflt (obtain ⟨bm', ob', M'⟩ := bmod_of_top (by assumption); refine' gen_make (c := 215) (P := 213) ?ka ?kb ?k1 ?k2 ?k3 ?k4 ?k5 ?k6 ?k7 ?k8 ?k9 ?k10 ?_ ?k11; (case ka => k_asm); (case kb => exact M'); (case k1 => first | exact rfl | assumption); (case k2 => exact rfl); (case k3 => exact rfl); (case k4 => exact rfl); (case k5 => exact rfl); (case k6 => decide); (case k7 => exact rfl); (case k8 => exact rfl); (case k9 => exact rfl); (case k10 => walk_at "my depth"); (case k11 => intro _; with_unfolding_all rfl))))
local macro_rules | `(tactic| walk_at "call type:tuple") => `(tactic| (k_here; k_dflt (first
  | (refine' tup_gen ?k1 ?k2 ?k3 ?k4 ?k5 ?k6 ?k7 ?_; (case k4 => assumption); (case k1 => k_asm); (case k2 => k_asm); (case k3 => assumption); (case k5 => assumption); (case k6 => assumption); (case k7 => assumption); intro s' T' its' F' N' l1 G' os' hi'; (try k_lt l1))
  | (refine' tup_L ?k1 ?k2 ?k3 ?k4 ?k5 ?_; (case k1 => k_asm); (case k2 => k_asm); (case k3 => k_mem); (case k4 => assumption); (case k5 => assumption); intro T' h' F' N' l1; (try k_lt l1))
  | (refine' tup_T ?k2 ?k3 ?_; (case k2 => k_asm); (case k3 => k_mem)))))
local macro_rules | `(tactic| walk_at "my sub") => `(tactic| first | exact List.forall_mem_nil _ | (refine' List.forall_mem_cons.mpr ⟨?a, ?b⟩; (case a => k_mem); (case b => walk_at "my sub")) | (intro q9 hq9; (repeat' first | exact hq9 | refine' List.mem_cons_of_mem _ ?_)))
local macro_rules | `(tactic| walk_at "my pick") => `(tactic| first | exact Pick.head | (refine' Pick.tail ?pk; (case pk => walk_at "my pick")))
local macro_rules | `(tactic| walk_at "my size") => `(tactic| first | assumption | omega | (simp only [List.length_map]; first | assumption | omega))
local macro_rules | `(tactic| walk_at "my lt") => `(tactic| (refine ltN ?_; first | assumption | omega))
local macro_rules | `(tactic| walk_at "my tab") => `(tactic| first | assumption | exact CodeHd.keeps (by assumption) (Below.stays (by assumption)))

section

set_option maxHeartbeats 1000000 in
theorem k_initL {w : World} {p : Program} {loose : List Str} {mean : ExcName → Option Value} {mg mb : Str → Option Value} {news : List (Addr × Obj)} {A A₀ : Around} {env : Env} {outer : List Env} {base h₀ : Heap} {L : Addr} {m : Str → Option Value} {s : Shared} {R : Result → Shared → Prop}
    {x dx cl ml : Addr} {its itm ps : Array Value} {k k2 : Nat} {ns ms : List Int} {pp : Int} {t3 : Tok}
    (B : Below A₀ base outer h₀) (F : Fr h₀ L s.heap m) (X : (kWr w.params).In h₀) (T : Top p loose mean mg mb h₀) (hA : A.frames = some (env :: outer)) (hf : env.frame = some L) (hk : env.scope.kind = .function) (hd : A.depth + 4 < recursionLimit) (hu : A.units + 20 < cLine) (hh : A.handled = none)
    (N : News h₀ L s.heap ((x, instObj 325 dx) :: (dx, dictOf [] 0) :: (cl, listOf its k) :: (ml, listOf itm k2) :: (213, tabObj ps) :: news))
    (hlt : dx < x) (hlt2 : cl < dx) (hlt3 : ml < dx) (hb1 : 213 < cl) (hb2 : 213 < ml) (hod : ∀ q ∈ news, q.1 ≠ dx) (hoP : ∀ q ∈ news, q.1 ≠ 213)
    (hi : IntsAre its.toList ns) (hm : IntsAre itm.toList ms) (hnl : ns.length ≤ sizeLine) (hml : ms.length ≤ sizeLine) (hlen : ns.length = ms.length) (h1 : 1 ≤ ns.length) (hp : 3 ≤ pp) (hg : AllBare s.gens) (hC : CodeHd base 215 213) (htr : TriplesOk ps.toList)
    (hret : ∀ (s' : Shared) (T M q : Addr) (itc : Array Value) (d H1 H2 H3 H4 H5 : Int) (k1 k2' k3 k4 k5 t1 t5 : Tok) (ps' : Array Value), IntsAre itc.toList (ns.map fun v => v.fmod pp) → TriplesOk ps'.toList → AllBare s'.gens → s'.os = s.os → 213 < T → 213 < M → Fr h₀ L s'.heap m →
      News h₀ L s'.heap ((x, instObj 325 dx) :: (dx, dictOf (fqpEs pp q T M d H1 H2 H3 H4 H5 k1 k2' k3 k4 k5 t1 t5) 5) :: (T, tupOf itc 0) :: (M, tupOf itm 0) :: (cl, listOf its k) :: (ml, listOf itm k2) :: (213, tabObj ps') :: news) → R (.ok (.ret .none)) s') :
    codeAny (model PySem.Challenge.rw_kh0012_01.row.prog w) A (.call (.ref 216) ⟨[.ref x, .ref cl, .ref ml, .int pp t3], []⟩) R s := by
  revert X; k_fill; intro X
  replace hlt := ltN hlt; replace hlt2 := ltN hlt2; replace hlt3 := ltN hlt3; replace hb1 := ltN hb1; replace hb2 := ltN hb2
  k_dflt (walk_at "my enterC")
  k_steps
  refine ⟨cl, its, k, ns, _, _, ps, pp, rfl, by k_asm, by k_asm, by k_mem, by assumption, by assumption, by first | assumption | exact CodeHd.keeps (by assumption) (Below.stays (by assumption)), by k_updF, by assumption, by assumption, Top.nolimit (by assumption), ?elt, ?post⟩
  case elt =>
    intro A' E' v t u C code m₂ ps' Qv hA' hD' hU' F9 N9 hm9 hq9
    dsimp only at N9
    refine wpAny_BinOp (wpAny_Name (wpAny_loadName_local rfl rfl F9.ns hm9 (Attribute_any_ (wpAny_Name (wpAny_loadName_free rfl rfl rfl ⟨_, N9.get (by k_mem), by assumption⟩ ?_)))))
    k_steps
    exact hq9 _ _
  case post =>
    intro a9 s9 ps' htr' F9 N9 G9 hos9 hX9 hLK hlt9
    dsimp only at N9 hlt9
    k_steps
    refine' hret _ _ _ _ _ _ _ _ _ _ _ _ _ _ _ _ _ _ _ ?a1 ?a2 ?a3 ?a4 ?a6 ?a7 ?a8 ?a9
    case a1 => assumption
    case a2 => assumption
    case a3 => assumption
    case a4 => simp only [*]
    case a8 => k_asm
    case a9 => refine' cb_drop ?n1 ?n2; (case n1 => k_asm); (case n2 => walk_at "my sub")
    case a6 => refine ltN ?_; omega
    case a7 => refine ltN ?_; omega

set_option maxHeartbeats 1000000 in
theorem k_initT {w : World} {p : Program} {loose : List Str} {mean : ExcName → Option Value} {mg mb : Str → Option Value} {news : List (Addr × Obj)} {A A₀ : Around} {env : Env} {outer : List Env} {base h₀ : Heap} {L : Addr} {m : Str → Option Value} {s : Shared} {R : Result → Shared → Prop}
    {x dx cl ml : Addr} {its itm ps : Array Value} {k k2 : Nat} {ns ms : List Int} {pp : Int} {t3 : Tok}
    (B : Below A₀ base outer h₀) (F : Fr h₀ L s.heap m) (X : (kWr w.params).In h₀) (T : Top p loose mean mg mb h₀) (hA : A.frames = some (env :: outer)) (hf : env.frame = some L) (hk : env.scope.kind = .function) (hd : A.depth + 4 < recursionLimit) (hu : A.units + 20 < cLine) (hh : A.handled = none)
    (N : News h₀ L s.heap ((x, instObj 325 dx) :: (dx, dictOf [] 0) :: (cl, listOf its k) :: (ml, tupOf itm k2) :: (213, tabObj ps) :: news))
    (hlt : dx < x) (hlt2 : cl < dx) (hlt3 : ml < dx) (hb1 : 213 < cl) (hb2 : 213 < ml) (hod : ∀ q ∈ news, q.1 ≠ dx) (hoP : ∀ q ∈ news, q.1 ≠ 213)
    (hi : IntsAre its.toList ns) (hm : IntsAre itm.toList ms) (hnl : ns.length ≤ sizeLine) (hml : ms.length ≤ sizeLine) (hlen : ns.length = ms.length) (h1 : 1 ≤ ns.length) (hp : 3 ≤ pp) (hg : AllBare s.gens) (hC : CodeHd base 215 213) (htr : TriplesOk ps.toList)
    (hret : ∀ (s' : Shared) (T q : Addr) (itc : Array Value) (d H1 H2 H3 H4 H5 : Int) (k1 k2' k3 k4 k5 t1 t5 : Tok) (ps' : Array Value), IntsAre itc.toList (ns.map fun v => v.fmod pp) → TriplesOk ps'.toList → AllBare s'.gens → s'.os = s.os → 213 < T → 213 < ml → Fr h₀ L s'.heap m →
      News h₀ L s'.heap ((x, instObj 325 dx) :: (dx, dictOf (fqpEs pp q T ml d H1 H2 H3 H4 H5 k1 k2' k3 k4 k5 t1 t5) 5) :: (T, tupOf itc 0) :: (ml, tupOf itm k2) :: (cl, listOf its k) :: (ml, tupOf itm k2) :: (213, tabObj ps') :: news) → R (.ok (.ret .none)) s') :
    codeAny (model PySem.Challenge.rw_kh0012_01.row.prog w) A (.call (.ref 216) ⟨[.ref x, .ref cl, .ref ml, .int pp t3], []⟩) R s := by
  revert X; k_fill; intro X
  replace hlt := ltN hlt; replace hlt2 := ltN hlt2; replace hlt3 := ltN hlt3; replace hb1 := ltN hb1; replace hb2 := ltN hb2
  k_dflt (walk_at "my enterC")
  k_steps
  refine ⟨cl, its, k, ns, _, _, ps, pp, rfl, by k_asm, by k_asm, by k_mem, by assumption, by assumption, by first | assumption | exact CodeHd.keeps (by assumption) (Below.stays (by assumption)), by k_updF, by assumption, by assumption, Top.nolimit (by assumption), ?elt, ?post⟩
  case elt =>
    intro A' E' v t u C code m₂ ps' Qv hA' hD' hU' F9 N9 hm9 hq9
    dsimp only at N9
    refine wpAny_BinOp (wpAny_Name (wpAny_loadName_local rfl rfl F9.ns hm9 (Attribute_any_ (wpAny_Name (wpAny_loadName_free rfl rfl rfl ⟨_, N9.get (by k_mem), by assumption⟩ ?_)))))
    k_steps
    exact hq9 _ _
  case post =>
    intro a9 s9 ps' htr' F9 N9 G9 hos9 hX9 hLK hlt9
    dsimp only at N9 hlt9
    k_steps
    refine' hret _ _ _ _ _ _ _ _ _ _ _ _ _ _ _ _ _ _ ?a1 ?a2 ?a3 ?a4 ?a6 ?a7 ?a8 ?a9
    case a1 => assumption
    case a2 => assumption
    case a3 => assumption
    case a4 => simp only [*]
    case a8 => k_asm
    case a9 => refine' cb_drop ?n1 ?n2; (case n1 => k_asm); (case n2 => walk_at "my sub")
    case a6 => refine ltN ?_; omega
    case a7 => refine ltN ?_; omega

set_option maxHeartbeats 1000000 in
theorem k_init2 {w : World} {p : Program} {loose : List Str} {mean : ExcName → Option Value} {mg mb : Str → Option Value} {news : List (Addr × Obj)} {A A₀ : Around} {env : Env} {outer : List Env} {base h₀ : Heap} {L : Addr} {m : Str → Option Value} {s : Shared} {R : Result → Shared → Prop}
    {x dx cl ml : Addr} {its itm ps : Array Value} {k k2 : Nat} {ns ms : List Int} {pp : Int} {t3 : Tok}
    (B : Below A₀ base outer h₀) (F : Fr h₀ L s.heap m) (X : (kWr w.params).In h₀) (T : Top p loose mean mg mb h₀) (hA : A.frames = some (env :: outer)) (hf : env.frame = some L) (hk : env.scope.kind = .function) (hd : A.depth + 4 < recursionLimit) (hu : A.units + 20 < cLine) (hh : A.handled = none)
    (N : News h₀ L s.heap ((x, instObj 354 dx) :: (dx, dictOf [] 0) :: (cl, listOf its k) :: (ml, tupOf itm k2) :: (213, tabObj ps) :: news))
    (hlt : dx < x) (hlt2 : cl < dx) (hlt3 : ml < dx) (hb1 : 213 < cl) (hb2 : 213 < ml) (hod : ∀ q ∈ news, q.1 ≠ dx) (hoP : ∀ q ∈ news, q.1 ≠ 213)
    (hi : IntsAre its.toList ns) (hm : IntsAre itm.toList ms) (hnl : ns.length ≤ sizeLine) (hml : ms.length ≤ sizeLine) (hlen : ns.length = ms.length) (h1 : 1 ≤ ns.length) (hp : 3 ≤ pp) (hg : AllBare s.gens) (hC : CodeHd base 215 213) (htr : TriplesOk ps.toList)
    (hret : ∀ (s' : Shared) (T q : Addr) (itc : Array Value) (d H1 H2 H3 H4 H5 : Int) (k1 k2' k3 k4 k5 t1 t5 : Tok) (ps' : Array Value), IntsAre itc.toList (ns.map fun v => v.fmod pp) → TriplesOk ps'.toList → AllBare s'.gens → s'.os = s.os → 213 < T → 213 < ml → Fr h₀ L s'.heap m →
      News h₀ L s'.heap ((x, instObj 354 dx) :: (dx, dictOf (fqpEs pp q T ml d H1 H2 H3 H4 H5 k1 k2' k3 k4 k5 t1 t5) 5) :: (T, tupOf itc 0) :: (ml, tupOf itm k2) :: (cl, listOf its k) :: (ml, tupOf itm k2) :: (213, tabObj ps') :: news) → R (.ok (.ret .none)) s') :
    codeAny (model PySem.Challenge.rw_kh0012_01.row.prog w) A (.call (.ref 216) ⟨[.ref x, .ref cl, .ref ml, .int pp t3], []⟩) R s := by
  revert X; k_fill; intro X
  replace hlt := ltN hlt; replace hlt2 := ltN hlt2; replace hlt3 := ltN hlt3; replace hb1 := ltN hb1; replace hb2 := ltN hb2
  k_dflt (walk_at "my enterC")
  k_steps
  refine ⟨cl, its, k, ns, _, _, ps, pp, rfl, by k_asm, by k_asm, by k_mem, by assumption, by assumption, by first | assumption | exact CodeHd.keeps (by assumption) (Below.stays (by assumption)), by k_updF, by assumption, by assumption, Top.nolimit (by assumption), ?elt, ?post⟩
  case elt =>
    intro A' E' v t u C code m₂ ps' Qv hA' hD' hU' F9 N9 hm9 hq9
    dsimp only at N9
    refine wpAny_BinOp (wpAny_Name (wpAny_loadName_local rfl rfl F9.ns hm9 (Attribute_any_ (wpAny_Name (wpAny_loadName_free rfl rfl rfl ⟨_, N9.get (by k_mem), by assumption⟩ ?_)))))
    k_steps
    exact hq9 _ _
  case post =>
    intro a9 s9 ps' htr' F9 N9 G9 hos9 hX9 hLK hlt9
    dsimp only at N9 hlt9
    k_steps
    refine' hret _ _ _ _ _ _ _ _ _ _ _ _ _ _ _ _ _ _ ?a1 ?a2 ?a3 ?a4 ?a6 ?a7 ?a8 ?a9
    case a1 => assumption
    case a2 => assumption
    case a3 => assumption
    case a4 => simp only [*]
    case a8 => k_asm
    case a9 => refine' cb_drop ?n1 ?n2; (case n1 => k_asm); (case n2 => walk_at "my sub")
    case a6 => refine ltN ?_; omega
    case a7 => refine ltN ?_; omega
end

section
-- part D2

theorem pick_news {h₀ h : Heap} {L x dx a1 a2 a3 : Addr} {ox od o1 o2 o3 : Obj} {l l1 l2 l3 : List (Addr × Obj)} (N : News h₀ L h ((x, ox) :: (dx, od) :: l)) (p1 : Pick a1 o1 l l1) (p2 : Pick a2 o2 l1 l2) (p3 : Pick a3 o3 l2 l3) :
    News h₀ L h ((x, ox) :: (dx, od) :: (a1, o1) :: (a2, o2) :: (a3, o3) :: l3) := cb_drop N (by
  intro q hq
  have e1 := p1.mem; have e2 := p2.mem; have e3 := p3.mem
  rcases List.mem_cons.mp hq with rfl | hq
  · exact .head _
  rcases List.mem_cons.mp hq with rfl | hq
  · exact .tail _ (.head _)
  refine .tail _ (.tail _ ?_)
  rcases List.mem_cons.mp hq with rfl | hq
  · exact e1.1
  rcases List.mem_cons.mp hq with rfl | hq
  · exact e1.2 _ e2.1
  rcases List.mem_cons.mp hq with rfl | hq
  · exact e1.2 _ (e2.2 _ e3.1)
  exact e1.2 _ (e2.2 _ (e3.2 q hq)))

set_option maxHeartbeats 1000000 in
theorem k_makeL {w : World} {p : Program} {loose : List Str} {mean : ExcName → Option Value} {mg mb : Str → Option Value} {news : List (Addr × Obj)} {A A₀ : Around} {env : Env} {outer : List Env} {base h₀ : Heap} {L : Addr} {m : Str → Option Value} {s : Shared} {Q E : Value → Shared → Prop} {l l1 l2 : List (Addr × Obj)}
    {cl ml : Addr} {its itm ps : Array Value} {k k2 : Nat} {ns ms : List Int} {pp : Int} {t3 : Tok}
    (B : Below A₀ base outer h₀) (F : Fr h₀ L s.heap m) (X : (kWr w.params).In h₀) (T : Top p loose mean mg mb h₀) (hA : A.frames = some (env :: outer)) (hf : env.frame = some L) (hk : env.scope.kind = .function) (hd : A.depth + 6 < recursionLimit) (hu : A.units + 30 < cLine) (hh : A.handled = none)
    (N : News h₀ L s.heap l) (p1 : Pick cl (listOf its k) l l1) (p2 : Pick ml (listOf itm k2) l1 l2) (p3 : Pick 213 (tabObj ps) l2 news)
    (hb1 : 213 < cl) (hb2 : 213 < ml) (hoP : ∀ q ∈ news, q.1 ≠ 213)
    (hi : IntsAre its.toList ns) (hm : IntsAre itm.toList ms) (hnl : ns.length ≤ sizeLine) (hml : ms.length ≤ sizeLine) (hlen : ns.length = ms.length) (h1 : 1 ≤ ns.length) (hp : 3 ≤ pp) (hg : AllBare s.gens) (hC : CodeHd base 215 213) (htr : TriplesOk ps.toList)
    (hret : ∀ (s' : Shared) (x dx T M q : Addr) (itc : Array Value) (d H1 H2 H3 H4 H5 : Int) (k1 k2' k3 k4 k5 t1 t5 : Tok) (ps' : Array Value), IntsAre itc.toList (ns.map fun v => v.fmod pp) → TriplesOk ps'.toList → AllBare s'.gens → s'.os = s.os → 213 < dx → 213 < x → 213 < T → 213 < M → Fr h₀ L s'.heap m →
      News h₀ L s'.heap ((x, instObj 325 dx) :: (dx, dictOf (fqpEs pp q T M d H1 H2 H3 H4 H5 k1 k2' k3 k4 k5 t1 t5) 5) :: (T, tupOf itc 0) :: (M, tupOf itm 0) :: (cl, listOf its k) :: (ml, listOf itm k2) :: (213, tabObj ps') :: news) → Q (.ref x) s') :
    wpAny (model PySem.Challenge.rw_kh0012_01.row.prog w) A (call (.ref 325) [.ref cl, .ref ml, .int pp t3]) Q E s := by
  revert X; k_fill; intro X
  have e1 := p1.mem; have e2 := p2.mem; have e3 := p3.mem
  refine call_cls (fI := 216) F X N (by k_is) (by k_is) (by k_is) fun x dx h' F' N' b1 b2 => ?_
  have hP : 213 < dx := b1 _ (e1.2 _ (e2.2 _ e3.1))
  refine k_initL (R := InitBack x _) (s := { s with heap := h' }) B F' X T hA hf hk ?hd ?hu hh (pick_news N' p1 p2 p3) b2 (b1 _ e1.1) (b1 _ (e1.2 _ e2.1)) hb1 hb2 (fun q hq => Nat.ne_of_lt (b1 q (e1.2 _ (e2.2 _ (e3.2 q hq))))) hoP hi hm hnl hml hlen h1 hp hg hC htr ?_
  case hd => have e9 := depth_under_make A 325 [.ref cl, .ref ml, .int pp t3]; omega
  case hu => have e9 : (A.under (.builtin "type.__call__" ⟨[.ref 325, .ref cl, .ref ml, .int pp t3], []⟩)).units = A.units + 1 := rfl; omega
  intro s' T M q itc d H1 H2 H3 H4 H5 k1 k2' k3 k4 k5 t1 t5 ps' a1 a2 a3 a4 a5 a6 F'' N''
  exact ⟨rfl, hret s' x dx T _ q itc d H1 H2 H3 H4 H5 k1 k2' k3 k4 k5 t1 t5 ps' a1 a2 a3 a4 hP (Nat.lt_trans hP b2) a5 a6 F'' N''⟩

set_option maxHeartbeats 1000000 in
theorem k_makeT {w : World} {p : Program} {loose : List Str} {mean : ExcName → Option Value} {mg mb : Str → Option Value} {news : List (Addr × Obj)} {A A₀ : Around} {env : Env} {outer : List Env} {base h₀ : Heap} {L : Addr} {m : Str → Option Value} {s : Shared} {Q E : Value → Shared → Prop} {l l1 l2 : List (Addr × Obj)}
    {cl ml : Addr} {its itm ps : Array Value} {k k2 : Nat} {ns ms : List Int} {pp : Int} {t3 : Tok}
    (B : Below A₀ base outer h₀) (F : Fr h₀ L s.heap m) (X : (kWr w.params).In h₀) (T : Top p loose mean mg mb h₀) (hA : A.frames = some (env :: outer)) (hf : env.frame = some L) (hk : env.scope.kind = .function) (hd : A.depth + 6 < recursionLimit) (hu : A.units + 30 < cLine) (hh : A.handled = none)
    (N : News h₀ L s.heap l) (p1 : Pick cl (listOf its k) l l1) (p2 : Pick ml (tupOf itm k2) l1 l2) (p3 : Pick 213 (tabObj ps) l2 news)
    (hb1 : 213 < cl) (hb2 : 213 < ml) (hoP : ∀ q ∈ news, q.1 ≠ 213)
    (hi : IntsAre its.toList ns) (hm : IntsAre itm.toList ms) (hnl : ns.length ≤ sizeLine) (hml : ms.length ≤ sizeLine) (hlen : ns.length = ms.length) (h1 : 1 ≤ ns.length) (hp : 3 ≤ pp) (hg : AllBare s.gens) (hC : CodeHd base 215 213) (htr : TriplesOk ps.toList)
    (hret : ∀ (s' : Shared) (x dx T q : Addr) (itc : Array Value) (d H1 H2 H3 H4 H5 : Int) (k1 k2' k3 k4 k5 t1 t5 : Tok) (ps' : Array Value), IntsAre itc.toList (ns.map fun v => v.fmod pp) → TriplesOk ps'.toList → AllBare s'.gens → s'.os = s.os → 213 < dx → 213 < x → 213 < T → 213 < ml → Fr h₀ L s'.heap m →
      News h₀ L s'.heap ((x, instObj 325 dx) :: (dx, dictOf (fqpEs pp q T ml d H1 H2 H3 H4 H5 k1 k2' k3 k4 k5 t1 t5) 5) :: (T, tupOf itc 0) :: (ml, tupOf itm k2) :: (cl, listOf its k) :: (ml, tupOf itm k2) :: (213, tabObj ps') :: news) → Q (.ref x) s') :
    wpAny (model PySem.Challenge.rw_kh0012_01.row.prog w) A (call (.ref 325) [.ref cl, .ref ml, .int pp t3]) Q E s := by
  revert X; k_fill; intro X
  have e1 := p1.mem; have e2 := p2.mem; have e3 := p3.mem
  refine call_cls (fI := 216) F X N (by k_is) (by k_is) (by k_is) fun x dx h' F' N' b1 b2 => ?_
  have hP : 213 < dx := b1 _ (e1.2 _ (e2.2 _ e3.1))
  refine k_initT (R := InitBack x _) (s := { s with heap := h' }) B F' X T hA hf hk ?hd ?hu hh (pick_news N' p1 p2 p3) b2 (b1 _ e1.1) (b1 _ (e1.2 _ e2.1)) hb1 hb2 (fun q hq => Nat.ne_of_lt (b1 q (e1.2 _ (e2.2 _ (e3.2 q hq))))) hoP hi hm hnl hml hlen h1 hp hg hC htr ?_
  case hd => have e9 := depth_under_make A 325 [.ref cl, .ref ml, .int pp t3]; omega
  case hu => have e9 : (A.under (.builtin "type.__call__" ⟨[.ref 325, .ref cl, .ref ml, .int pp t3], []⟩)).units = A.units + 1 := rfl; omega
  intro s' T q itc d H1 H2 H3 H4 H5 k1 k2' k3 k4 k5 t1 t5 ps' a1 a2 a3 a4 a5 a6 F'' N''
  exact ⟨rfl, hret s' x dx T q itc d H1 H2 H3 H4 H5 k1 k2' k3 k4 k5 t1 t5 ps' a1 a2 a3 a4 hP (Nat.lt_trans hP b2) a5 a6 F'' N''⟩

set_option maxHeartbeats 1000000 in
theorem k_make2 {w : World} {p : Program} {loose : List Str} {mean : ExcName → Option Value} {mg mb : Str → Option Value} {news : List (Addr × Obj)} {A A₀ : Around} {env : Env} {outer : List Env} {base h₀ : Heap} {L : Addr} {m : Str → Option Value} {s : Shared} {Q E : Value → Shared → Prop} {l l1 l2 : List (Addr × Obj)}
    {cl ml : Addr} {its itm ps : Array Value} {k k2 : Nat} {ns ms : List Int} {pp : Int} {t3 : Tok}
    (B : Below A₀ base outer h₀) (F : Fr h₀ L s.heap m) (X : (kWr w.params).In h₀) (T : Top p loose mean mg mb h₀) (hA : A.frames = some (env :: outer)) (hf : env.frame = some L) (hk : env.scope.kind = .function) (hd : A.depth + 6 < recursionLimit) (hu : A.units + 30 < cLine) (hh : A.handled = none)
    (N : News h₀ L s.heap l) (p1 : Pick cl (listOf its k) l l1) (p2 : Pick ml (tupOf itm k2) l1 l2) (p3 : Pick 213 (tabObj ps) l2 news)
    (hb1 : 213 < cl) (hb2 : 213 < ml) (hoP : ∀ q ∈ news, q.1 ≠ 213)
    (hi : IntsAre its.toList ns) (hm : IntsAre itm.toList ms) (hnl : ns.length ≤ sizeLine) (hml : ms.length ≤ sizeLine) (hlen : ns.length = ms.length) (h1 : 1 ≤ ns.length) (hp : 3 ≤ pp) (hg : AllBare s.gens) (hC : CodeHd base 215 213) (htr : TriplesOk ps.toList)
    (hret : ∀ (s' : Shared) (x dx T q : Addr) (itc : Array Value) (d H1 H2 H3 H4 H5 : Int) (k1 k2' k3 k4 k5 t1 t5 : Tok) (ps' : Array Value), IntsAre itc.toList (ns.map fun v => v.fmod pp) → TriplesOk ps'.toList → AllBare s'.gens → s'.os = s.os → 213 < dx → 213 < x → 213 < T → 213 < ml → Fr h₀ L s'.heap m →
      News h₀ L s'.heap ((x, instObj 354 dx) :: (dx, dictOf (fqpEs pp q T ml d H1 H2 H3 H4 H5 k1 k2' k3 k4 k5 t1 t5) 5) :: (T, tupOf itc 0) :: (ml, tupOf itm k2) :: (cl, listOf its k) :: (ml, tupOf itm k2) :: (213, tabObj ps') :: news) → Q (.ref x) s') :
    wpAny (model PySem.Challenge.rw_kh0012_01.row.prog w) A (call (.ref 354) [.ref cl, .ref ml, .int pp t3]) Q E s := by
  revert X; k_fill; intro X
  have e1 := p1.mem; have e2 := p2.mem; have e3 := p3.mem
  refine call_cls (fI := 216) F X N (by k_is) (by k_is) (by k_is) fun x dx h' F' N' b1 b2 => ?_
  have hP : 213 < dx := b1 _ (e1.2 _ (e2.2 _ e3.1))
  refine k_init2 (R := InitBack x _) (s := { s with heap := h' }) B F' X T hA hf hk ?hd ?hu hh (pick_news N' p1 p2 p3) b2 (b1 _ e1.1) (b1 _ (e1.2 _ e2.1)) hb1 hb2 (fun q hq => Nat.ne_of_lt (b1 q (e1.2 _ (e2.2 _ (e3.2 q hq))))) hoP hi hm hnl hml hlen h1 hp hg hC htr ?_
  case hd => have e9 := depth_under_make A 354 [.ref cl, .ref ml, .int pp t3]; omega
  case hu => have e9 : (A.under (.builtin "type.__call__" ⟨[.ref 354, .ref cl, .ref ml, .int pp t3], []⟩)).units = A.units + 1 := rfl; omega
  intro s' T q itc d H1 H2 H3 H4 H5 k1 k2' k3 k4 k5 t1 t5 ps' a1 a2 a3 a4 a5 a6 F'' N''
  exact ⟨rfl, hret s' x dx T q itc d H1 H2 H3 H4 H5 k1 k2' k3 k4 k5 t1 t5 ps' a1 a2 a3 a4 hP (Nat.lt_trans hP b2) a5 a6 F'' N''⟩
end

section
-- part F1

def lawPs : List Int := [3, 5, 7, 11, 13, 17, 19, 23, 29, 31, 4002409555221667393417789825735904156556882819939007885332058136124031650490837864442687629129015664037894272559787, 21888242871839275222246405745257275088696311157297823662689037894645226208583]
theorem lawPs_len : lawPs.length = 12 := by decide
theorem lawPs_ok : ∀ p ∈ lawPs, 3 ≤ p ∧ p.fmod 2 = 1 := by decide +kernel
theorem lawPs_get {i : Int} (h0 : 0 ≤ i) (h1 : i < 12) : 3 ≤ lawPs.getD i.toNat 0 ∧ (lawPs.getD i.toNat 0).fmod 2 = 1 := by
  have hlt : i.toNat < lawPs.length := by rw [lawPs_len]; omega
  rw [List.getD_eq_getElem?_getD, List.getElem?_eq_getElem hlt, Option.getD_some]
  exact lawPs_ok _ (List.getElem_mem hlt)

local macro_rules | `(tactic| walk_at "eval Constant int") => `(tactic| (refine wpAny_Constant_int ?_; (try dsimp only)))

set_option maxHeartbeats 1000000 in
theorem k_primes {w : World} {p : Program} {loose : List Str} {mean : ExcName → Option Value} {mg mb : Str → Option Value} {news : List (Addr × Obj)} {A A₀ : Around} {env : Env} {outer : List Env} {base h₀ : Heap} {L : Addr} {m : Str → Option Value} {s : Shared} {R : Result → Shared → Prop}
    (B : Below A₀ base outer h₀) (F : Fr h₀ L s.heap m) (X : (kWr w.params).In h₀) (T : Top p loose mean mg mb h₀) (hA : A.frames = some (env :: outer)) (hf : env.frame = some L) (hk : env.scope.kind = .function) (hd : A.depth + 2 < recursionLimit) (hu : A.units + 10 < cLine) (hh : A.handled = none)
    (N : News h₀ L s.heap news)
    (hret : ∀ l h' tk' its k, IntsAre its.toList lawPs → Fr h₀ L h' m → News h₀ L h' ((l, listOf its k) :: news) → (∀ p ∈ news, p.1 < l) → R (.ok (.ret (.ref l))) { s with heap := h', toks := tk' }) :
    codeAny (model PySem.Challenge.rw_kh0012_01.row.prog w) A (.call (.ref 363) ⟨[], []⟩) R s := by
  revert X; k_fill; intro X
  k_dflt (walk_at "my enter")
  k_steps
  refine hret _ _ _ _ _ ?hi (by assumption) (by assumption) (by assumption)
  case hi => dsimp only [lawPs]; repeat (first | exact IntsAre.nil | refine IntsAre.cons _ _ ?_)

set_option maxHeartbeats 1000000 in
theorem k_lsign {w : World} {p : Program} {loose : List Str} {mean : ExcName → Option Value} {mg mb : Str → Option Value} {news : List (Addr × Obj)} {A A₀ : Around} {env : Env} {outer : List Env} {base h₀ : Heap} {L : Addr} {m : Str → Option Value} {s : Shared} {R : Result → Shared → Prop}
    {l : Addr} {its : Array Value} {k : Nat} {ns : List Int} {n : Int} {tn : Tok}
    (B : Below A₀ base outer h₀) (F : Fr h₀ L s.heap m) (X : (kWr w.params).In h₀) (T : Top p loose mean mg mb h₀) (hA : A.frames = some (env :: outer)) (hf : env.frame = some L) (hk : env.scope.kind = .function) (hd : A.depth + 2 < recursionLimit) (hu : A.units + 10 < cLine) (hh : A.handled = none)
    (N : News h₀ L s.heap news) (hmem : (l, listOf its k) ∈ news) (hi : IntsAre its.toList ns) (hn : n ≠ 0)
    (hret : ∀ (t : Tok) (h' : Heap) (tk' : Nat), Fr h₀ L h' m → News h₀ L h' news → R (.ok (.ret (.int (lawSign n ns) t))) { s with heap := h', toks := tk' }) :
    codeAny (model PySem.Challenge.rw_kh0012_01.row.prog w) A (.call (.ref 370) ⟨[.ref l, .int n tn], []⟩) R s := by
  revert X; k_fill; intro X
  k_dflt (walk_at "my enter")
  k_steps
  refine iter_listJ [] (fun i _ => lawSign n ns = lawSign n (ns.drop i)) (by assumption) (by assumption) (by assumption) (by k_asm) (by k_asm) rfl ?_ ?_
  · intro i v t u h9 tk9 nw hv hJ hsub F9 N9
    k_steps
    · dsimp only [JPost]
      k_steps
      rw [lawSign_hit hv hJ (by first | assumption | omega)]
      exact hret _ _ _ (by k_asm) (cb_drop (by k_asm) hsub)
    · exact JEnd.intro (by k_asm) (by k_asm) (fun y h1 _ => by simp [h1]) (lawSign_miss hv hJ (by first | assumption | omega))
  · intro u h9 tk9 hJ F9 N9
    k_steps
    rw [lawSign_done hJ]
    exact hret _ _ _ (by k_asm) (by k_asm)
end

section
-- part F2

theorem ten_ints {ys : List Value} {f : Int → Int} {n : Nat} (h : IntsAre ys (List.map f (rangeKs 0 n))) : ∃ gs : List Int, IntsAre ys gs ∧ gs.length = n :=
  ⟨_, h, by simp [rangeKs_length]⟩

section
variable {prog : Program} {w : World} {A : Around} {E : Value → Shared → Prop} {s : Shared} {env : Env} {h₀ : Heap} {L : Addr} {m : Str → Option Value} {news : List (Addr × Obj)} {x : Str} {body : List Stmt}

/-- _law_primes()[i]: all that is asked of the prime -/
theorem item_P {value slice : PySem.Expr} {l : Addr} {its : Array Value} {k : Nat} {i : Int} {u : Tok} {Q : Value → Shared → Prop} (N : News h₀ L s.heap news) (hm : (l, listOf its k) ∈ news) (hi : IntsAre its.toList lawPs)
    (h0 : 0 ≤ i) (h1 : i < 12) (h : ∀ p t, 3 ≤ p → p.fmod 2 = 1 → Q (.int p t) s)
    (hs : subscripted slice false (.ref l) (.int i u) = operate [.ref l, .int i u] (getItem (.ref l) (.int i u)) := by with_unfolding_all rfl) :
    wpAny (model prog w) A (subscriptTail value slice (.ref l) (.int i u)) Q E s :=
  item_L N hm hi h0 (by rw [lawPs_len]; exact h1) (by rw [lawPs_len, sizeLine_eq]; omega) (fun t => h _ t (lawPs_get h0 h1).1 (lawPs_get h0 h1).2) hs

def NumPost (h₀ : Heap) (L : Addr) (m : Str → Option Value) (l : Addr) (its : Array Value) (kk : Nat) (rest : List (Addr × Obj)) (s : Shared) (f : Flow) (s' : Shared) : Prop :=
  f = .next ∧ ∃ h' tk' v t', s' = { s with heap := h', toks := tk' } ∧ Fr h₀ L h' m ∧ News h₀ L h' ((l, listOf (its.push (.int v t')) (kk + 1)) :: rest)
theorem NumPost.intro {L : Addr} {m : Str → Option Value} {l : Addr} {its : Array Value} {kk : Nat} {rest : List (Addr × Obj)} {s : Shared} {h' : Heap} {tk' : Nat} {v : Int} {t' : Tok} (F : Fr h₀ L h' m) (N : News h₀ L h' ((l, listOf (its.push (.int v t')) (kk + 1)) :: rest)) :
    NumPost h₀ L m l its kk rest s .next { s with heap := h', toks := tk' } := ⟨rfl, _, _, _, _, rfl, F, N⟩

/-- for k in range(size): l.append(int) — one int a turn -/
theorem nums_loop {r l : Addr} {c : Int} {t₀ u₀ v₀ : Tok} {m₀ : Str → Option Value} {Q : Flow → Shared → Prop}
    (hh : A.handled = none) (hr : IsRange s.heap r 0 c 1 t₀ u₀ v₀) (hc0 : 0 ≤ c) (hc : c ≤ 6) (F : Fr h₀ env.locals s.heap m₀) {k₀ : Nat} (N : News h₀ env.locals s.heap ((l, listOf #[] k₀) :: news)) (hl : ∀ p ∈ news, p.1 < l)
    (turn : ∀ (i : Nat) t h tk own its kk, (i : Int) < c → (∀ p ∈ news ++ own, p.1 ≠ l) → its.size = i → Fr h₀ env.locals h (fun y => if y = x then some (.int i t) else m₀ y) → News h₀ env.locals h ((l, listOf its kk) :: (news ++ own)) →
      wpAny (model prog w) A (execs body env) (NumPost h₀ env.locals (fun y => if y = x then some (.int i t) else m₀ y) l its kk (news ++ own) { s with heap := h, toks := tk }) E { s with heap := h, toks := tk })
    (done : ∀ (u : Str → Option Value) h tk its kk ns, IntsAre its.toList ns → (ns.length : Int) = c → Fr h₀ env.locals h (fun y => if y = x then u y else m₀ y) → News h₀ env.locals h ((l, listOf its kk) :: news) → Q .next { s with heap := h, toks := tk }) :
    wpAny (model prog w) A (pyIter (.ref r)) (fun it s₂ => LoopAtV prog w A h₀ env x body Q E it s₂) E s := by
  have hsmall : Builtin.Range.small 0 c 1 = true := by
    exact small_one (by decide) (by decide) (by omega) (by omega)
  refine wpAny_pyIter_range hr hsmall ?_
  have hn : Builtin.Range.rangeSize 0 c 1 = (c.toNat : Int) := by rw [rangeSize_nat]; simp
  have W : Walks prog w A s.heap.objs.size [s.heap.objs.size] [s.heap.objs.size] c.toNat (fun i v => i < c.toNat ∧ ∃ t, v = .int (0 + i * 1) t)
      (fun i h => IsRangeIter h s.heap.objs.size (0 + (i : Nat) * 1) ((c.toNat : Int) - (i : Nat)) 1) := (Walks.range hh _ 0 1 c.toNat).bound
  refine loop_invN (fun i mm nx => (∃ its kk ns, nx = (l, listOf its kk) :: news ∧ IntsAre its.toList ns ∧ ns.length = i) ∧ ∀ z, z ≠ x → mm z = m₀ z) W ?_ ?_ ?_ ?_ (by show IsRangeIter _ _ _ _ _; rw [hn]; simpa using Heap.get?_push_size _ rfl) (F.push _) (fun p hp => ⟨Heap.get?_push_of_some _ (N p hp).1, (N p hp).2⟩) ⟨⟨_, _, [], rfl, .nil, rfl⟩, fun _ _ => rfl⟩ ?_ ?_
  · intro hm
    exact absurd F.ns.lt ((List.mem_singleton.mp hm) ▸ Nat.lt_irrefl _)
  · intro b hb
    rw [List.mem_singleton.mp hb]
    exact next_is_new F
  · intro p hp hI
    exact absurd (Heap.lt_size (N p hp).1) ((List.mem_singleton.mp hI) ▸ Nat.lt_irrefl _)
  · intro p hp hI
    exact absurd (Heap.lt_size (N p hp).1) ((List.mem_singleton.mp hI) ▸ Nat.lt_irrefl _)
  · rintro i v m₁ nx h tk own hin ⟨_, t, rfl⟩ hadr hoff ⟨⟨its, kk, ns, rfl, hi, hlen⟩, hmm⟩ F₁ N₁
    rw [map_none hmm] at F₁
    have e0 : (0 + (i : Int) * 1) = i := by omega
    rw [e0] at F₁
    have hne : ∀ p ∈ news ++ own, p.1 ≠ l := fun p hp => (List.mem_append.mp hp).elim (fun h => Nat.ne_of_lt (hl p h)) fun h => hoff p h l (by simp)
    refine wpAny_mono (turn i t h tk own its kk (by omega) hne (by rw [← hlen, ← hi.length, Array.length_toList]) F₁ N₁) (fun f s₂ p => ?_) fun _ _ e => e
    obtain ⟨rfl, h', tk', v, t', rfl, F', N'⟩ := p
    show InvEndN _ _ _ _ _ _ _
    refine InvEndN.intro (nx := (l, listOf (its.push (.int v t')) (kk + 1)) :: news) F' N' ⟨⟨_, _, ns ++ [v], rfl, ?_, by simp [hlen]⟩, fun z hz => by simp [hz]⟩ (by simp) ?_ ?_
    · rw [Array.toList_push]; exact ints_snoc hi
    · intro p hp
      rcases List.mem_cons.mp hp with rfl | hp
      · exact List.mem_cons_self
      · exact List.mem_cons_of_mem _ (List.mem_append_left _ hp)
    · intro p hp
      exact List.mem_cons_of_mem _ (List.mem_append_right _ hp)
  · rintro m₁ nx h tk ⟨⟨its, kk, ns, rfl, hi, hlen⟩, hmm⟩ F₁ N₁
    refine done m₁ h tk its kk ns hi (by omega) ?_ N₁
    rw [done_none hmm]; exact F₁

/-- l.append(v) for the list at the ledger's head -/
theorem append_H {l : Addr} {its : Array Value} {n : Nat} {v : Value} {Q : Value → Shared → Prop} (F : Fr h₀ L s.heap m) (N : News h₀ L s.heap ((l, listOf its n) :: news)) (hne : ∀ p ∈ news, p.1 ≠ l) (hsz : its.size ≤ sizeLine)
    (h : ∀ h', Fr h₀ L h' m → News h₀ L h' ((l, listOf (its.push v) (n + 1)) :: news) → Q .none { s with heap := h' }) : wpAny (model prog w) A (call (.builtin "list.append") [.ref l, v]) Q E s :=
  append_K F N (.head hne) h hsz
end
theorem fm_lo (a : Int) {n : Int} (h : 0 < n) : 0 ≤ a.fmod n := Int.fmod_nonneg_of_pos a h
theorem fm_hi (a : Int) {n : Int} (h : 0 < n) : a.fmod n < n := Int.fmod_lt_of_pos a h
theorem c6_lo (a : Int) : 1 ≤ 1 + a.fmod 6 := by have := fm_lo a (n := 6) (by decide); omega
theorem c6_hi (a : Int) : 1 + a.fmod 6 ≤ 6 := by have := fm_hi a (n := 6) (by decide); omega
section
variable {prog : Program} {w : World} {A : Around} {E : Value → Shared → Prop} {s : Shared} {env : Env} {h₀ : Heap} {L : Addr} {m : Str → Option Value} {news : List (Addr × Obj)} {x : Str} {body : List Stmt}
/-- an int of a list, which one is not asked -/
theorem item_G {value slice : PySem.Expr} {l : Addr} {its : Array Value} {k : Nat} {ns : List Int} {i : Int} {u : Tok} {Q : Value → Shared → Prop} (N : News h₀ L s.heap news) (hm : (l, listOf its k) ∈ news) (hi : IntsAre its.toList ns)
    (h0 : 0 ≤ i) (h1 : i < (ns.length : Int)) (hsz : ns.length ≤ sizeLine) (h : ∀ v t, Q (.int v t) s)
    (hs : subscripted slice false (.ref l) (.int i u) = operate [.ref l, .int i u] (getItem (.ref l) (.int i u)) := by with_unfolding_all rfl) :
    wpAny (model prog w) A (subscriptTail value slice (.ref l) (.int i u)) Q E s := item_L N hm hi h0 h1 hsz (fun t => h _ t) hs
end
theorem mod_ints {ws : List Value} {ns : List Int} {v : Int} (h : IntsAre ws ([1] ++ (List.replicate (1 + v.fmod 6 - 1).toNat [0]).flatten)) (hl : (ns.length : Int) = 1 + v.fmod 6) :
    ∃ ms : List Int, IntsAre ws ms ∧ ns.length = ms.length ∧ 1 ≤ ns.length ∧ ns.length ≤ 6 ∧ ns.length ≤ sizeLine ∧ ms.length ≤ sizeLine := by
  have e : ([1] ++ (List.replicate (1 + v.fmod 6 - 1).toNat [0]).flatten : List Int).length = ns.length := by
    have e2 : (1 + v.fmod 6 - 1).toNat = ns.length - 1 := by omega
    have h1 := c6_lo v
    simp only [List.length_append, List.length_flatten, List.map_replicate, List.length_cons, List.length_nil, e2]
    simp
    omega
  have h1 := c6_lo v
  have h2 := c6_hi v
  refine ⟨_, h, e.symm, by omega, by omega, by rw [sizeLine_eq]; omega, by rw [e, sizeLine_eq]; omega⟩
theorem lt_of_all {news : List (Addr × Obj)} {a l : Addr} {o : Obj} (h : ∀ p ∈ news, p.1 < l) (hm : (a, o) ∈ news) : a < l := h _ hm
theorem ne_of_gt9 {a b : Addr} (h : b < a) : a ≠ b := fun e => Nat.lt_irrefl _ (e ▸ h)
end

section
-- part P1

theorem sgn_law (p : Int) (ns : List Int) : sgnC (ns.map fun v => v.fmod p) = lawSign p ns := by
  induction ns with
  | nil => rfl
  | cons n r ih => simp only [List.map_cons, sgnC, lawSign, ih]

theorem neg_mod {p c : Int} (hp : 3 ≤ p) (h0 : 0 ≤ c) (h1 : c < p) (hc : c ≠ 0) : (-c).fmod p = p - c := by
  rw [Int.fmod_eq_emod_of_nonneg _ (by omega), Int.neg_emod, if_neg ?_, Int.natAbs_of_nonneg (by omega), Int.emod_eq_of_lt h0 h1]
  intro hd
  have := Int.le_of_dvd (by omega) hd
  omega

theorem odd_flip {p c : Int} (hp : p.fmod 2 = 1) : (p - c).fmod 2 = 1 - c.fmod 2 := by
  rw [Int.fmod_eq_emod_of_nonneg _ (by decide)] at *
  rw [Int.fmod_eq_emod_of_nonneg _ (by decide)] at *
  omega

theorem sgn_neg {p : Int} (hp : 3 ≤ p) (ho : p.fmod 2 = 1) (ns : List Int) :
    sgnC (ns.map fun v => (-(v.fmod p)).fmod p) = if ns.any (fun v => v.fmod p != 0) then 1 - lawSign p ns else 0 := by
  induction ns with
  | nil => rfl
  | cons n r ih =>
    by_cases h : n.fmod p = 0
    · simp only [List.map_cons, sgnC, lawSign, h, List.any_cons, if_pos, ih]
      simp
    · have h0 := Int.fmod_nonneg_of_pos n (b := p) (by omega)
      have h1 := Int.fmod_lt_of_pos n (b := p) (by omega)
      have e := neg_mod hp h0 h1 h
      have hne : ¬ (p - n.fmod p = 0) := by omega
      simp only [List.map_cons, sgnC, lawSign, e, if_neg h, if_neg hne, odd_flip ho]
      simp [h]
end

section
-- part G2

def GNz (p : Int) (l : List Int) (k : Int) : List Int := if k.fmod p = 0 then l else l ++ [k]
theorem gnz_hit {p k : Int} {l : List Int} (h : ¬ k.fmod p = 0) : GNz p l k = l ++ [k] := if_neg h
theorem gnz_miss {p k : Int} {l : List Int} (h : k.fmod p = 0) : GNz p l k = l := if_pos h
theorem gnz_nil (p : Int) : ∀ (ns l : List Int), (ns.foldl (GNz p) l).isEmpty = (l.isEmpty && !(ns.any fun v => v.fmod p != 0))
  | [], l => by simp
  | n :: r, l => by
    rw [List.foldl_cons, gnz_nil p r]
    by_cases h : n.fmod p = 0
    · simp [gnz_miss h, h]
    · have hb : (n.fmod p != 0) = true := by simpa using h
      rw [gnz_hit h, List.any_cons, hb]
      cases l <;> simp
theorem gnz_grows (p : Int) : KPfGrows (GNz p) := by
  intro l k
  by_cases h : k.fmod p = 0
  · rw [gnz_miss h]; omega
  · rw [gnz_hit h]; simp

section
variable {prog : Program} {w : World} {A : Around} {h₀ : Heap} {L : Addr} {m : Str → Option Value} {env : Env} {ct elt : PySem.Expr} {x : Str} {scope : Scope} {cl : List (Str × Addr)} {news : List (Addr × Obj)} {Fin : Shared → List Value → List (Addr × Obj) → Prop} {s₁ : Shared}
/-- [n for n in l if n % p != 0] over a list of the ledger -/
theorem nz_src {ax : Addr} {its : Array Value} {k : Nat} {ns : List Int} {p : Int} (hp : 3 ≤ p) (hh : A.handled = none) (F : Fr h₀ L s₁.heap m) (N : News h₀ L s₁.heap news) (hm : (ax, listOf its k) ∈ news) (hi : IntsAre its.toList ns) (hsz : ns.length ≤ sizeLine)
    (turn : ∀ k t I oI C oC D m₂ ys l h tk (E' : Value → Shared → Prop), IntsAre ys l → LCg.NsObj oC m₂ → m₂ x = some (.int k t) → Fr h₀ L h m → News h₀ L h ((I, oI) :: (C, oC) :: (D, LCg.lst ys) :: news) → LCg.Off3 I C D news → ((@Ne Nat I C) ∧ (@Ne Nat I D) ∧ (@Ne Nat C D)) →
      wpAny (model prog w) A (isTrue ct (compEnvC scope cl C env) (eval ct (compEnvC scope cl C env))) (fun b s' => if b = true then wpAny (model prog w) A (eval elt (compEnvC scope cl C env)) (LCg.CompEnd h₀ L m { s₁ with heap := h, toks := tk } I oI C oC D (LCg.lst ys) (LCg.SrcAt h₀ ax its) (fun y news' => KCiEl news l (GNz p l k) y news')) E' s'
        else LCg.CompEnd h₀ L m { s₁ with heap := h, toks := tk } I oI C oC D (LCg.lst ys) (LCg.SrcAt h₀ ax its) (fun _ news' => KCiNo news l (GNz p l k) news') Value.none s') E' { s₁ with heap := h, toks := tk })
    (fin : ∀ g ys, IntsAre ys (ns.foldl (GNz p) []) → ys.length ≤ its.size → Fin { s₁ with heap := g } ys news) :
    LCt.CompSrcT prog w A h₀ L m env ct elt x scope cl Fin (.ref ax) s₁ := by
  have e : ns.length = its.size := by rw [← hi.length, Array.length_toList]
  refine LCt.CompSrcT.ledger hh F N hm (by rw [← e]; exact hsz) (fun g => ?_)
  refine kci_rest (ks := ns) (GNz p) e (fun i v _ hv => ?_) (fun k t I oI C oC D m₂ ys l h tk E' _ hy hC hx F N off ne _ => ?_) (fun ys hy hl => fin g ys hy hl) (gnz_grows p)
  · obtain ⟨k, t, e', hk⟩ := IntsAre.at hi i v (by simpa using hv)
    exact ⟨k, t, hk, e'⟩
  · exact turn k t I oI C oC D m₂ ys l h tk E' hy hC hx F N off ne
end
theorem isEmpty_len {α : Type} (l : List α) : l.isEmpty = (l.length == 0) := by cases l <;> rfl
/-- whether [n for n in l if n % p != 0] is empty -/
theorem nz_truth {prog : Program} {w : World} {A : Around} {E : Value → Shared → Prop} {s : Shared} {h₀ : Heap} {L D : Addr} {news : List (Addr × Obj)} {ys : List Value} {ns : List Int} {p : Int} {k : Nat} {Q : Bool → Shared → Prop} (N : News h₀ L s.heap news) (hm : (D, LCg.lst ys) ∈ news)
    (hy : IntsAre ys (ns.foldl (GNz p) [])) (hl : ys.length ≤ k) (hk : k = ns.length) (hz : ns.length ≤ sizeLine) (h : ∀ tk, Q (ns.any fun v => v.fmod p != 0) { s with toks := tk }) : wpAny (model prog w) A (truthy (.ref D)) Q E s := by
  have hls : s.heap.IsList D ys.toArray := ⟨_, (N _ hm).1, rfl, _, rfl⟩
  rw [sizeLine_eq] at hz
  refine wpAny_truthy_list hls (by simp; omega) ?_
  have e : (!ys.toArray.isEmpty) = ns.any fun v => v.fmod p != 0 := by
    have e1 := gnz_nil p ns []
    rw [List.isEmpty_nil, Bool.true_and] at e1
    have e2 : ys.length = (ns.foldl (GNz p) []).length := hy.length
    have e3 : ys.isEmpty = (ns.foldl (GNz p) []).isEmpty := by
      rw [isEmpty_len, isEmpty_len, e2]
    rw [List.isEmpty_toArray, e3, e1, Bool.not_not]
  rw [e]; exact h _
theorem neg_pos {p : Int} {ns : List Int} {b : Bool} (hp : 3 ≤ p) (ho : p.fmod 2 = 1) (h : (ns.any fun v => v.fmod p != 0) = b) :
    sgnC ((ns.map fun v => v.fmod p).map fun v => (-v).fmod p) = if b then 1 - lawSign p ns else 0 := by
  rw [List.map_map, ← h]; exact sgn_neg hp ho ns


theorem ints_size {its : Array Value} {ns : List Int} (h : IntsAre its.toList ns) : its.size = ns.length := by rw [← h.length, Array.length_toList]
theorem comp_end {h₀ : Heap} {L I C D : Addr} {m : Str → Option Value} {s₁ : Shared} {oI oC oD : Obj} {S : List (Addr × Obj) → Prop} {rest : Value → List (Addr × Obj) → Prop} {y : Value} {h' : Heap} {tk : Nat} {nw : List (Addr × Obj)}
    (F : Fr h₀ L h' m) (N : News h₀ L h' ((I, oI) :: (C, oC) :: (D, oD) :: nw)) (off : LCg.Off3 I C D nw) (hS : S nw) (r : rest y nw) :
    LCg.CompEnd h₀ L m s₁ I oI C oC D oD S rest y { s₁ with heap := h', toks := tk } := LCg.CompEnd.intro F N nw (fun _ h => h) off hS r
end

local macro_rules | `(tactic| walk_at "call ref") => `(tactic| (k_here; k_dflt (refine wpAny_call ?_; walk_at "my enter")))
local macro_rules | `(tactic| walk_at "call ref") => `(tactic| (k_here; (with_reducible show wpAny _ _ (call (Value.ref 325) [Value.ref _, Value.ref _, Value.int _ _]) _ _ _); k_dflt (refine' k_makeT ?k1 ?k2 ?k3 ?k4 ?kA ?kF ?kK ?kD ?kU ?kH ?kN ?p1 ?p2 ?p3 ?b1 ?b2 ?oP ?hi ?hm ?nl ?ml ?le ?h1 ?hp ?hg ?hC ?tr ?_; (case k1 => k_asm); (case k2 => k_asm); (case k3 => k_asm); (case k4 => k_asm); (case kA => first | exact rfl | assumption | exact Around.frames_deeper (by assumption) | exact Around.frames_deeper (Around.frames_deeper (by assumption))); (case kF => exact rfl); (case kK => first | exact rfl | assumption); (case kD => walk_at "my depth"); (case kU => walk_at "my units"); (case kH => first | exact rfl | assumption); (case kN => k_asm); (case p1 => walk_at "my pick"); (case p2 => walk_at "my pick"); (case p3 => walk_at "my pick"); (case b1 => walk_at "my lt"); (case b2 => walk_at "my lt"); (case oP => k_all); (case hi => assumption); (case hm => assumption); (case nl => walk_at "my size"); (case ml => walk_at "my size"); (case le => walk_at "my size"); (case h1 => walk_at "my size"); (case hp => assumption); (case hg => assumption); (case hC => walk_at "my tab"); (case tr => assumption); intro s' x' dx' T' q' itc' d' H1' H2' H3' H4' H5' k1' k2' k3' k4' k5' t1' t5' ps' a1 a2 a3 a4 a5 a6 a7 a8 F' N')))
local macro_rules | `(tactic| walk_at "eval ListComp UnaryOp") => `(tactic| (k_here; k_dflt (refine' cn_ListComp (fun a => -a) ?k1 ?k2 ?k3 ?k4 ?k5 ?k6 ?k7 ?_; (case k1 => k_asm); (case k2 => first | exact rfl | assumption); (case k3 => exact rfl); (case k4 => decide); (case k5 => exact rfl); (case k6 => decide); (case k7 => exact rfl))))

section
-- part D3

set_option maxHeartbeats 1000000 in
theorem k_neg {w : World} {p : Program} {loose : List Str} {mean : ExcName → Option Value} {mg mb : Str → Option Value} {news : List (Addr × Obj)} {A A₀ : Around} {env : Env} {outer : List Env} {base h₀ : Heap} {L : Addr} {m : Str → Option Value} {s : Shared} {R : Result → Shared → Prop} {l : List (Addr × Obj)}
    {x dx q T_ M_ : Addr} {pp d H1 H2 H3 H4 H5 : Int} {k1 k2 k3 k4 k5 t1 t5 : Tok} {n kT kM : Nat} {its itm ps : Array Value} {ns ms : List Int}
    (B : Below A₀ base outer h₀) (F : Fr h₀ L s.heap m) (X : (kWr w.params).In h₀) (T : Top p loose mean mg mb h₀) (hA : A.frames = some (env :: outer)) (hf : env.frame = some L) (hk : env.scope.kind = .function) (hd : A.depth + 12 < recursionLimit) (hu : A.units + 60 < cLine) (hh : A.handled = none)
    (N : News h₀ L s.heap l) (hx : (x, instObj 325 dx) ∈ l) (hdx : (dx, dictOf (fqpEs pp q T_ M_ d H1 H2 H3 H4 H5 k1 k2 k3 k4 k5 t1 t5) n) ∈ l) (hT : (T_, tupOf its kT) ∈ l) (hM : (M_, tupOf itm kM) ∈ l) (p3 : Pick 213 (tabObj ps) l news)
    (b1 : 213 < x) (b2 : 213 < dx) (b3 : 213 < T_) (b4 : 213 < M_) (hoP : ∀ q ∈ news, q.1 ≠ 213)
    (hi : IntsAre its.toList ns) (hm : IntsAre itm.toList ms) (hnl : ns.length ≤ sizeLine) (hml : ms.length ≤ sizeLine) (hlen : ns.length = ms.length) (h1 : 1 ≤ ns.length) (hp : 3 ≤ pp) (hg : AllBare s.gens) (hC : CodeHd base 215 213) (htr : TriplesOk ps.toList)
    (hret : ∀ (s' : Shared) (x2 dx2 T2 q2 : Addr) (itc : Array Value) (d H1 H2 H3 H4 H5 : Int) (k1 k2' k3 k4 k5 t1 t5 : Tok) (ps' : Array Value), IntsAre itc.toList (ns.map fun v => (-v).fmod pp) → TriplesOk ps'.toList → AllBare s'.gens → s'.os = s.os → 213 < dx2 → 213 < x2 → 213 < T2 → Fr h₀ L s'.heap m →
      News h₀ L s'.heap ((x2, instObj 325 dx2) :: (dx2, dictOf (fqpEs pp q2 T2 M_ d H1 H2 H3 H4 H5 k1 k2' k3 k4 k5 t1 t5) 5) :: (T2, tupOf itc 0) :: (213, tabObj ps') :: news) → R (.ok (.ret (.ref x2))) s') :
    codeAny (model PySem.Challenge.rw_kh0012_01.row.prog w) A (.call (.ref 300) ⟨[.ref x], []⟩) R s := by
  have N2 : News h₀ L s.heap ((x, instObj 325 dx) :: (dx, dictOf (fqpEs pp q T_ M_ d H1 H2 H3 H4 H5 k1 k2 k3 k4 k5 t1 t5) n) :: (T_, tupOf its kT) :: (M_, tupOf itm kM) :: (213, tabObj ps) :: news) := cb_drop N (by
    intro p hp
    simp only [List.mem_cons] at hp
    rcases hp with rfl | rfl | rfl | rfl | rfl | hp
    · exact hx
    · exact hdx
    · exact hT
    · exact hM
    · exact p3.mem.1
    · exact p3.mem.2 p hp)
  simp only [fqpEs] at N2
  clear N
  replace b1 := ltN b1; replace b2 := ltN b2; replace b3 := ltN b3; replace b4 := ltN b4
  revert X; k_fill; intro X
  k_dflt (walk_at "my enter")
  k_steps
  refine' ⟨T_, its, kT, ns, _, rfl, ?m, by assumption, by assumption, by k_asm, ?N, ?elt, ?post⟩
  case N => k_asm
  case m => k_mem
  case elt =>
    intro C h tk m₂ a t E' g Qv hn hx hq
    exact wpAny_UnaryOp (wpAny_Name (wpAny_loadName_local rfl rfl hn hx (PyProof.Rows.neg_int (hq _ _))))
  case post =>
    intro D itd kd h9 tk9 hys l1 F9 N9
    k_lt l1
    k_steps
    refine' hret _ _ _ _ _ _ _ _ _ _ _ _ _ _ _ _ _ _ _ _ ?a1 ?a2 ?a3 ?a4 ?a5 ?a6 ?a7 ?a8 ?a9
    case a1 => rw [show (ns.map fun v => (-v).fmod pp) = (ns.map fun a => -a).map fun v => v.fmod pp by rw [List.map_map]; rfl]; assumption
    case a2 => assumption
    case a3 => assumption
    case a4 => simp only [*]
    case a8 => k_asm
    case a9 => refine' cb_drop ?n1 ?n2; (case n1 => k_asm); (case n2 => walk_at "my sub")
    case a5 => walk_at "my lt"
    case a6 => walk_at "my lt"
    case a7 => walk_at "my lt"
end

local macro_rules | `(tactic| walk_at "call ref") => `(tactic| (k_here; (with_reducible show wpAny _ _ (call (Value.ref 42) [Value.int _ _, Value.int _ _]) _ _ _); k_dflt (refine' wpAny_call (k_modint ?k1 ?k2 ?k3 ?k4 ?k5 ?kA ?kF ?kK ?kD ?kN ?_); (case k1 => k_asm); (case k2 => k_asm); (case k3 => k_asm); (case k4 => k_asm); (case k5 => k_asm); (case kA => first | exact rfl | assumption | exact Around.frames_deeper (by assumption)); (case kF => exact rfl); (case kK => first | exact rfl | assumption); (case kD => walk_at "my depth"); (case kN => first | decide | assumption | omega); k_whole); intro t' h' tk' F' N'; (try dsimp only)))
local macro_rules | `(tactic| walk_at "assign Tuple") => `(tactic| (k_here; k_dflt (refine' unpackN_ ?k1 ?k2 ?k3 ?k4 ?k5 ?k6 ?_; (case k1 => k_asm); (case k2 => k_asm); (case k3 => exact News.isTup (by k_asm) (by k_mem)); (case k4 => first | exact rfl | assumption); (case k5 => exact rfl); (case k6 => exact rfl); k_whole); intro h' F' N'))

section
-- part D4

theorem two_ints {its : Array Value} {a b : Int} (h : IntsAre its.toList [a, b]) : ∃ t u, its = #[.int a t, .int b u] := by
  obtain ⟨l⟩ := its
  have h' : IntsAre l [a, b] := h
  cases h' with
  | cons n t h2 => cases h2 with
    | cons n2 t2 h3 => cases h3; exact ⟨t, t2, rfl⟩

theorem sgn2a {a b : Int} {t : Tok} (h : ¬ a.fmod 2 = 0) : SgnIs (.int (a.fmod 2) t) (sgnC [a, b]) := by
  have : a ≠ 0 := fun e => h (by rw [e]; rfl)
  exact .inl ⟨t, by simp [sgnC, this]⟩
theorem sgn2b {a b : Int} {t : Tok} (h : a = 0) : SgnIs (.int (b.fmod 2) t) (sgnC [a, b]) := by
  subst h
  by_cases hb : b = 0
  · subst hb; exact .inl ⟨t, by simp [sgnC]⟩
  · exact .inl ⟨t, by simp [sgnC, hb]⟩
theorem sgn2c {a b : Int} (h0 : a.fmod 2 = 0) (h : ¬ a = 0) : SgnIs (.bool (a == 0)) (sgnC [a, b]) :=
  .inr ⟨by simp [h], by simp [sgnC, h, h0]⟩

set_option maxHeartbeats 1000000 in
theorem k_sgn2 {w : World} {p : Program} {loose : List Str} {mean : ExcName → Option Value} {mg mb : Str → Option Value} {news : List (Addr × Obj)} {A A₀ : Around} {env : Env} {outer : List Env} {base h₀ : Heap} {L : Addr} {m : Str → Option Value} {s : Shared} {R : Result → Shared → Prop}
    {x dx q T_ M_ : Addr} {pp d H1 H2 H3 H4 H5 : Int} {k1 k2 k3 k4 k5 t1 t5 : Tok} {n kT : Nat} {its : Array Value} {a b : Int}
    (B : Below A₀ base outer h₀) (F : Fr h₀ L s.heap m) (X : (kWr w.params).In h₀) (T : Top p loose mean mg mb h₀) (hA : A.frames = some (env :: outer)) (hf : env.frame = some L) (hk : env.scope.kind = .function) (hd : A.depth + 6 < recursionLimit) (hu : A.units + 30 < cLine) (hh : A.handled = none)
    (N : News h₀ L s.heap news) (hx : (x, instObj 354 dx) ∈ news) (hdx : (dx, dictOf (fqpEs pp q T_ M_ d H1 H2 H3 H4 H5 k1 k2 k3 k4 k5 t1 t5) n) ∈ news) (hT : (T_, tupOf its kT) ∈ news) (hi : IntsAre its.toList [a, b])
    (hret : ∀ v h' tk', SgnIs v (sgnC [a, b]) → Fr h₀ L h' m → News h₀ L h' news → R (.ok (.ret v)) { s with heap := h', toks := tk' }) :
    codeAny (model PySem.Challenge.rw_kh0012_01.row.prog w) A (.call (.ref 350) ⟨[.ref x], []⟩) R s := by
  obtain ⟨ta, tb, rfl⟩ := two_ints hi
  have N2 := news_cons N (nw := [(x, instObj 354 dx), (dx, dictOf (fqpEs pp q T_ M_ d H1 H2 H3 H4 H5 k1 k2 k3 k4 k5 t1 t5) n), (T_, tupOf #[.int a ta, .int b tb] kT)]) (by simp [hx, hdx, hT])
  simp only [List.cons_append, List.nil_append, fqpEs] at N2
  clear N
  revert X; k_fill; intro X
  k_dflt (walk_at "my enter")
  k_steps
  · exact hret _ _ _ (sgn2a (by first | assumption | omega | (simp_all; done))) (by k_asm) (cb_drop (by k_asm) (fun p hp => by simp [hp]))
  · exact hret _ _ _ (sgn2b (by first | assumption | omega | (simp_all; done))) (by k_asm) (cb_drop (by k_asm) (fun p hp => by simp [hp]))
  · exact hret _ _ _ (sgn2c (by first | assumption | omega | (simp_all; done)) (by first | assumption | omega | (simp_all; done))) (by k_asm) (cb_drop (by k_asm) (fun p hp => by simp [hp]))
end

section
-- part G1

theorem sgn_ne {prog : Program} {w : World} {A : Around} {E : Value → Shared → Prop} {s : Shared} {v : Value} {z y : Int} {t : Tok} {Q : Value → Shared → Prop} (hv : SgnIs v z) (h : Q (.bool (z != y)) s) : wpAny (model prog w) A (compareOp .NotEq v (.int y t)) Q E s := by
  rcases hv with ⟨t', rfl⟩ | ⟨rfl, rfl⟩
  · k_dflt (walk_at "compareOp NotEq int int")
    exact h
  · exact EqBoolInt.ne_bool_int h
theorem sgn_handed {v : Value} {z : Int} (h : SgnIs v z) : handedIn v = true := by
  rcases h with ⟨t', rfl⟩ | ⟨rfl, rfl⟩ <;> rfl

local macro_rules | `(tactic| walk_at "my prop") => `(tactic| (k_dflt (refine' get_prop ?k1 ?k2 ?k3 ?k4 ?k5 ?k6 ?k7 ?k8 ?k9 ?_; (case k1 => k_asm); (case k2 => k_asm); (case k3 => k_inst); (case k4 => k_is); (case k5 => k_is); (case k6 => k_is); (case k7 => k_is); (case k8 => k_is); (case k9 => k_is); k_whole)))

set_option maxHeartbeats 1000000 in
theorem get_sgnP {Q E : Value → Shared → Prop} {expr : Bool} {w : World} {p : Program} {loose : List Str} {mean : ExcName → Option Value} {mg mb : Str → Option Value} {news : List (Addr × Obj)} {A A₀ : Around} {env : Env} {outer : List Env} {base h₀ : Heap} {L : Addr} {m : Str → Option Value} {s : Shared}
    (B : Below A₀ base outer h₀) (F : Fr h₀ L s.heap m) (X : (kWr w.params).In h₀) (T : Top p loose mean mg mb h₀) (hA : A.frames = some (env :: outer)) (hf : env.frame = some L) (hk : env.scope.kind = .function) (hd : A.depth + 6 < recursionLimit) (hu : A.units + 30 < cLine) (hh : A.handled = none)
    (N : News h₀ L s.heap news)
    {x dx : Addr} {q T_ M_ : Addr} {pp d : Int} {H1 H2 H3 H4 H5 : Int} {k1 k2 k3 k4 k5 t1 t5 : Tok} {n : Nat} {its : Array Value} {k : Nat} {ns : List Int}
    (hx : (x, instObj 325 dx) ∈ news) (hdx : (dx, dictOf (fqpEs pp q T_ M_ d H1 H2 H3 H4 H5 k1 k2 k3 k4 k5 t1 t5) n) ∈ news) (hT : (T_, tupOf its k) ∈ news) (hi : IntsAre its.toList ns)
    (hret : ∀ v h' tk', SgnIs v (sgnC ns) → Fr h₀ L h' m → News h₀ L h' news → Q v { s with heap := h', toks := tk' }) :
    wpAny (model PySem.Challenge.rw_kh0012_01.row.prog w) A (getAttr (.ref x) (Str.ofString "sgn0") expr) Q E s := by
  have N2 := news_cons N (nw := [(x, instObj 325 dx), (dx, dictOf (fqpEs pp q T_ M_ d H1 H2 H3 H4 H5 k1 k2 k3 k4 k5 t1 t5) n)]) (by simp [hx, hdx])
  simp only [List.cons_append, List.nil_append, fqpEs] at N2
  have X0 := X
  revert X; k_fill; intro X
  walk_at "my prop"
  refine k_sgn0 (A := A.in1) (s := { s with toks := s.toks + 1 }) B F X0 N T hA hf hk (by walk_at "my depth") (by walk_at "my units") hh hx hdx hT hi ?_
  intro v h' tk' hv F' N'
  exact handed_on (sgn_handed hv) (hret v h' tk' hv F' N')

set_option maxHeartbeats 1000000 in
theorem get_sgn2 {Q E : Value → Shared → Prop} {expr : Bool} {w : World} {p : Program} {loose : List Str} {mean : ExcName → Option Value} {mg mb : Str → Option Value} {news : List (Addr × Obj)} {A A₀ : Around} {env : Env} {outer : List Env} {base h₀ : Heap} {L : Addr} {m : Str → Option Value} {s : Shared}
    (B : Below A₀ base outer h₀) (F : Fr h₀ L s.heap m) (X : (kWr w.params).In h₀) (T : Top p loose mean mg mb h₀) (hA : A.frames = some (env :: outer)) (hf : env.frame = some L) (hk : env.scope.kind = .function) (hd : A.depth + 8 < recursionLimit) (hu : A.units + 40 < cLine) (hh : A.handled = none)
    (N : News h₀ L s.heap news)
    {x dx : Addr} {q T_ M_ : Addr} {pp d : Int} {H1 H2 H3 H4 H5 : Int} {k1 k2 k3 k4 k5 t1 t5 : Tok} {n : Nat} {its : Array Value} {k : Nat} {a b : Int}
    (hx : (x, instObj 354 dx) ∈ news) (hdx : (dx, dictOf (fqpEs pp q T_ M_ d H1 H2 H3 H4 H5 k1 k2 k3 k4 k5 t1 t5) n) ∈ news) (hT : (T_, tupOf its k) ∈ news) (hi : IntsAre its.toList [a, b])
    (hret : ∀ v h' tk', SgnIs v (sgnC [a, b]) → Fr h₀ L h' m → News h₀ L h' news → Q v { s with heap := h', toks := tk' }) :
    wpAny (model PySem.Challenge.rw_kh0012_01.row.prog w) A (getAttr (.ref x) (Str.ofString "sgn0") expr) Q E s := by
  have N2 := news_cons N (nw := [(x, instObj 354 dx), (dx, dictOf (fqpEs pp q T_ M_ d H1 H2 H3 H4 H5 k1 k2 k3 k4 k5 t1 t5) n)]) (by simp [hx, hdx])
  simp only [List.cons_append, List.nil_append, fqpEs] at N2
  have X0 := X
  revert X; k_fill; intro X
  walk_at "my prop"
  refine k_sgn2 (A := A.in1) (s := { s with toks := s.toks + 1 }) B F X0 T hA hf hk (by walk_at "my depth") (by walk_at "my units") hh N hx hdx hT hi ?_
  intro v h' tk' hv F' N'
  exact handed_on (sgn_handed hv) (hret v h' tk' hv F' N')

/-- v != y where both say the same sign -/
theorem sgn_same {prog : Program} {w : World} {A : Around} {E : Value → Shared → Prop} {s : Shared} {v : Value} {z y : Int} {t : Tok} {Q : Value → Shared → Prop} (hv : SgnIs v z) (e : z = y) (h : Q (.bool false) s) : wpAny (model prog w) A (compareOp .NotEq v (.int y t)) Q E s :=
  sgn_ne hv (by rw [e]; simpa using h)
end

section
-- part F3

abbrev fqEs (p v : Int) (H1 H2 : Int) (k1 k2 t1 t2 : Tok) : List DictEntry :=
  [⟨H1, .str (Str.ofString "field_modulus") k1, .int p t1⟩, ⟨H2, .str (Str.ofString "n") k2, .int v t2⟩]

set_option maxHeartbeats 600000 in
theorem k_makeF {w : World} {p : Program} {loose : List Str} {mean : ExcName → Option Value} {mg mb : Str → Option Value} {news : List (Addr × Obj)} {A A₀ : Around} {env : Env} {outer : List Env} {base h₀ : Heap} {L : Addr} {m : Str → Option Value} {s : Shared} {Q E : Value → Shared → Prop}
    {v pp : Int} {tv tp : Tok}
    (B : Below A₀ base outer h₀) (F : Fr h₀ L s.heap m) (X : (kWr w.params).In h₀) (T : Top p loose mean mg mb h₀) (hA : A.frames = some (env :: outer)) (hf : env.frame = some L) (hk : env.scope.kind = .function) (hd : A.depth + 3 < recursionLimit) (hu : A.units + 15 < cLine) (hh : A.handled = none)
    (N : News h₀ L s.heap news) (hp : pp ≠ 0) 
    (hret : ∀ (s' : Shared) (x dx : Addr) (H1 H2 : Int) (k1 k2 t1 t2 : Tok), s'.gens = s.gens → s'.os = s.os → Fr h₀ L s'.heap m → News h₀ L s'.heap ((x, instObj 200 dx) :: (dx, dictOf (fqEs pp (v.fmod pp) H1 H2 k1 k2 t1 t2) 2) :: news) → Q (.ref x) s') :
    wpAny (model PySem.Challenge.rw_kh0012_01.row.prog w) A (call (.ref 200) [.int v tv, .int pp tp]) Q E s := by
  revert X; k_fill; intro X
  refine call_cls (fI := 56) F X N (by k_is) (by k_is) (by k_is) fun x dx h' F' N' b1 b2 => ?_
  have e1 := depth_under_make A 200 [.int v tv, .int pp tp]
  have e2 : (A.under (.builtin "type.__call__" ⟨[.ref 200, .int v tv, .int pp tp], []⟩)).units = A.units + 1 := rfl
  have hod : ∀ q ∈ news, q.1 ≠ dx := fun q hq => Nat.ne_of_lt (b1 q hq)
  replace b2 := ltN b2
  k_dflt (walk_at "my enter")
  k_steps
  exact hret _ _ _ _ _ _ _ _ _ rfl rfl (by k_asm) (by k_asm)

local macro_rules | `(tactic| walk_at "my prop") => `(tactic| (k_dflt (refine' get_prop ?k1 ?k2 ?k3 ?k4 ?k5 ?k6 ?k7 ?k8 ?k9 ?_; (case k1 => k_asm); (case k2 => k_asm); (case k3 => k_inst); (case k4 => k_is); (case k5 => k_is); (case k6 => k_is); (case k7 => k_is); (case k8 => k_is); (case k9 => k_is); k_whole)))

set_option maxHeartbeats 600000 in
theorem k_sgnF {w : World} {p : Program} {loose : List Str} {mean : ExcName → Option Value} {mg mb : Str → Option Value} {news : List (Addr × Obj)} {A A₀ : Around} {env : Env} {outer : List Env} {base h₀ : Heap} {L : Addr} {m : Str → Option Value} {s : Shared} {R : Result → Shared → Prop}
    {x dx : Addr} {pp v H1 H2 : Int} {k1 k2 t1 t2 : Tok} {n : Nat}
    (B : Below A₀ base outer h₀) (F : Fr h₀ L s.heap m) (X : (kWr w.params).In h₀) (T : Top p loose mean mg mb h₀) (hA : A.frames = some (env :: outer)) (hf : env.frame = some L) (hk : env.scope.kind = .function) (hd : A.depth + 2 < recursionLimit) (hu : A.units + 10 < cLine) (hh : A.handled = none)
    (N : News h₀ L s.heap news) (hx : (x, instObj 200 dx) ∈ news) (hdx : (dx, dictOf (fqEs pp v H1 H2 k1 k2 t1 t2) n) ∈ news)
    (hret : ∀ (t : Tok) (h' : Heap) (tk' : Nat), Fr h₀ L h' m → News h₀ L h' news → R (.ok (.ret (.int (v.fmod 2) t))) { s with heap := h', toks := tk' }) :
    codeAny (model PySem.Challenge.rw_kh0012_01.row.prog w) A (.call (.ref 175) ⟨[.ref x], []⟩) R s := by
  have N2 := news_cons N (nw := [(x, instObj 200 dx), (dx, dictOf (fqEs pp v H1 H2 k1 k2 t1 t2) n)]) (by simp [hx, hdx])
  simp only [List.cons_append, List.nil_append, fqEs] at N2
  clear N
  revert X; k_fill; intro X
  k_dflt (walk_at "my enter")
  k_steps
  exact hret _ _ _ (by k_asm) (cb_drop (by k_asm) (fun p hp => by simp [hp]))

set_option maxHeartbeats 600000 in
theorem get_sgnF {Q E : Value → Shared → Prop} {expr : Bool} {w : World} {p : Program} {loose : List Str} {mean : ExcName → Option Value} {mg mb : Str → Option Value} {news : List (Addr × Obj)} {A A₀ : Around} {env : Env} {outer : List Env} {base h₀ : Heap} {L : Addr} {m : Str → Option Value} {s : Shared}
    {x dx : Addr} {pp v H1 H2 : Int} {k1 k2 t1 t2 : Tok} {n : Nat}
    (B : Below A₀ base outer h₀) (F : Fr h₀ L s.heap m) (X : (kWr w.params).In h₀) (T : Top p loose mean mg mb h₀) (hA : A.frames = some (env :: outer)) (hf : env.frame = some L) (hk : env.scope.kind = .function) (hd : A.depth + 6 < recursionLimit) (hu : A.units + 30 < cLine) (hh : A.handled = none)
    (N : News h₀ L s.heap news) (hx : (x, instObj 200 dx) ∈ news) (hdx : (dx, dictOf (fqEs pp v H1 H2 k1 k2 t1 t2) n) ∈ news)
    (hret : ∀ (t : Tok) (h' : Heap) (tk' : Nat), Fr h₀ L h' m → News h₀ L h' news → Q (.int (v.fmod 2) t) { s with heap := h', toks := tk' }) :
    wpAny (model PySem.Challenge.rw_kh0012_01.row.prog w) A (getAttr (.ref x) (Str.ofString "sgn0") expr) Q E s := by
  have N2 := news_cons N (nw := [(x, instObj 200 dx), (dx, dictOf (fqEs pp v H1 H2 k1 k2 t1 t2) n)]) (by simp [hx, hdx])
  simp only [List.cons_append, List.nil_append, fqEs] at N2
  have X0 := X
  revert X; k_fill; intro X
  walk_at "my prop"
  refine k_sgnF (A := A.in1) (s := { s with toks := s.toks + 1 }) B F X0 T hA hf hk (by walk_at "my depth") (by walk_at "my units") hh N hx hdx ?_
  intro t h' tk' F' N'
  exact handed_on rfl (hret t h' tk' F' N')

set_option maxHeartbeats 600000 in
theorem k_modintF {w : World} {p : Program} {loose : List Str} {mean : ExcName → Option Value} {mg mb : Str → Option Value} {news : List (Addr × Obj)} {A A₀ : Around} {env : Env} {outer : List Env} {base h₀ : Heap} {L : Addr} {m : Str → Option Value} {s : Shared} {R : Result → Shared → Prop}
    {x dx : Addr} {pp v H1 H2 z : Int} {k1 k2 t1 t2 tz : Tok} {n : Nat}
    (B : Below A₀ base outer h₀) (F : Fr h₀ L s.heap m) (X : (kWr w.params).In h₀) (T : Top p loose mean mg mb h₀) (hA : A.frames = some (env :: outer)) (hf : env.frame = some L) (hk : env.scope.kind = .function) (hd : A.depth + 2 < recursionLimit) (hu : A.units + 10 < cLine) (hh : A.handled = none)
    (N : News h₀ L s.heap news) (hx : (x, instObj 200 dx) ∈ news) (hdx : (dx, dictOf (fqEs pp v H1 H2 k1 k2 t1 t2) n) ∈ news) (hz : z ≠ 0)
    (hret : ∀ (t : Tok) (h' : Heap) (tk' : Nat), Fr h₀ L h' m → News h₀ L h' news → R (.ok (.ret (.int (v.fmod z) t))) { s with heap := h', toks := tk' }) :
    codeAny (model PySem.Challenge.rw_kh0012_01.row.prog w) A (.call (.ref 42) ⟨[.ref x, .int z tz], []⟩) R s := by
  have N2 := news_cons N (nw := [(x, instObj 200 dx), (dx, dictOf (fqEs pp v H1 H2 k1 k2 t1 t2) n)]) (by simp [hx, hdx])
  simp only [List.cons_append, List.nil_append, fqEs] at N2
  clear N
  revert X; k_fill; intro X
  k_dflt (walk_at "my enter")
  k_steps
  exact hret _ _ _ (by k_asm) (cb_drop (by k_asm) (fun p hp => by simp [hp]))
end

section
-- part F5

theorem slot_type_format : Slot "type" "__format__" "object.__format__" :=
  .of (owner := "object") (n := "__format__") (by rw [typeLookup_type, builtinLookup_eq_fast]; kernel_rfl) (by decide +kernel) (by decide +kernel) (by decide +kernel)
    (by first | exact .inl (by decide +kernel) | exact .inr (by decide +kernel)) (by rw [isSubtype_type]; kernel_rfl)
theorem slot_type_str : Slot "type" "__str__" "object.__str__" :=
  .of (owner := "object") (n := "__str__") (by rw [typeLookup_type, builtinLookup_eq_fast]; kernel_rfl) (by decide +kernel) (by decide +kernel) (by decide +kernel)
    (by first | exact .inl (by decide +kernel) | exact .inr (by decide +kernel)) (by rw [isSubtype_type]; kernel_rfl)
theorem slot_type_repr : Slot "type" "__repr__" "type.__repr__" :=
  .of (owner := "type") (n := "__repr__") (by rw [typeLookup_type, builtinLookup_eq_fast]; kernel_rfl) (by decide +kernel) (by decide +kernel) (by decide +kernel)
    (by first | exact .inl (by decide +kernel) | exact .inr (by decide +kernel)) (by rw [isSubtype_type]; kernel_rfl)
theorem entry_type_repr : entryFor table "type.__repr__" = some Builtin.«type.__repr__» := entryFor_of_tree (by kernel_rfl)
theorem args_type_repr (a : Value) : argsOk "type.__repr__" ⟨[a], []⟩ := by
  unfold argsOk; rw [signature?_of (id := "type.__repr__") (n := ['_', '_', 'r', 'p', 'e', 'r', '_', '_']) (o := ['e', 'p', 'y', 't']) (by kernel_rfl) (show Manifest.owners.lookup (String.ofList ['e', 'p', 'y', 't'].reverse) = some Manifest.sig_type by kernel_rfl)]; kernel_rfl
theorem gives_type_repr : Gives (Builtin.«type.__repr__» ⟨[.type "str"], []⟩) (.str "<class 'str'>") := .of_eq (by kernel_rfl)
theorem gives_type_format (u : Tok) : Gives (Builtin.«object.__format__» ⟨[.type "str", .str Str.empty u], []⟩) (.str "<class 'str'>") := by
  show Gives (do let _shown ← typeNameOf (.str Str.empty u); (do ret (← pyStrObj (.type "str")))) _
  exact gives_after_typeNameOf (T := "str") (fun s => typeIs_str s _ _) (by decide) fun _ =>
    gives_ret_pyStrObj (fun _ _ e => nomatch e) (fun s => PySem.TypeEq.meta_str s) slot_type_str slot_type_repr entry_type_repr (args_type_repr _) gives_type_repr
theorem format_type {prog : Program} {w : World} {A : Around} {E : Value → Shared → Prop} {s : Shared} {Q : Value → Shared → Prop} (h : Q (.str "<class 'str'>" (s.toks + 1)) { s with toks := s.toks + 1 + 1 }) :
    wpAny (model prog w) A (formatField (.type "str") Str.empty) Q E s :=
  wpAny_formatField_gives (fun _ _ e => nomatch e) (fun s' => PySem.TypeEq.meta_str s') slot_type_format F.entry_object_format F.args_object_format_2 gives_type_format h (by decide +kernel)
end

section
-- part F4

/-- a def with a try is called from the law's own frame -/
theorem enter_try {prog : Program} {w : World} {A A₀ : Around} {s : Shared} {base h₀ : Heap} {env : Env} {L : Addr} {m : Str → Option Value} {news : List (Addr × Obj)} {K : Frag} {p : Program} {loose : List Str} {mean : ExcName → Option Value} {mg mb : Str → Option Value}
    {R : Result → Shared → Prop} {name qual : Str} {params : Arguments} {body : List Stmt} {scope : Scope} {dV kV doc pm cdv ct oc : Value} {an od : Option Addr} {osl : Array (Option Value)} {f : Addr} {args : Args} {binds : List (Str × Value)}
    (B : Below A₀ base [] h₀) (F : Fr h₀ L s.heap m) (X₀ : K.In h₀) (N : News h₀ L s.heap news) (T : Top p loose mean mg mb h₀) (hA : A.frames = some [env]) (hf : env.frame = some L) (hke : env.scope.kind = .function)
    (ho : K.lookup f = some ⟨oc, od, .func (fnOf name qual params body scope dV kV doc pm an cdv ct), osl⟩) (hcd : codeIn K cdv qual = true) (hroom : A.depth < recursionLimit)
    (hbind : BindsTo s (fnOf name qual params body scope dV kV doc pm an cdv ct) args binds) (hloc : ∀ y ∈ binds, scope.names.lookup y.1 = some .local)
    (hco : scope.isCoroutine = false) (hgen : scope.isGenerator = false) (hk : scope.kind = .function) (hcell : ∀ x ∈ scope.names, x.2 ≠ .cell)
    (h : ∀ g L' h₁, Fr h₀ L g m → Fr g L' h₁ (fun y => binds.reverse.lookup y) → News g L' h₁ news → Below A base [env] g → K.In g → Top p loose mean mg mb g → KtsDicts ([env].filterMap (·.frame)) g →
      wpAny (model prog w) (A.deeper (envOf qual scope L' f cdv)) (execs body (envOf qual scope L' f cdv))
        (fun fl s' => LeaveS0 ([env].filterMap (·.frame)) h₀ L m g R (match fl with | .ret v => v | _ => .none) s')
        (fun e s' => wpAny (model prog w) (A.deeper (envOf qual scope L' f cdv)) (leaving (envOf qual scope L' f cdv) e) (fun _ s'' => R (.error e) s'') (fun e' s'' => R (.error e') s'') s')
        { s with heap := h₁, toks := s.toks + binds.length }) : codeAny (model prog w) A (.call (.ref f) args) R s := by
  have X := X₀.keeps F.keep
  have hfs : [env].filterMap (·.frame) = [L] := by simp [hf]
  obtain ⟨FG, BG, st, _⟩ := groundX (R := R) B F N hA hf hke
  obtain ⟨oL, es, ep, hL, hLd, hLk, hLf⟩ := FG.ns
  refine codeAny_call_def (fd := fnOf name qual params body scope dV kV doc pm an cdv ct) (body := body) (binds := binds) hroom (X _ _ ho) rfl (T.nolimit.keeps F.keep) (codeRec_of X hcd) rfl hbind hcell hloc (fun h₁ hns hk₁ => ?_) hco hgen hk
  refine wpAny_mono (h _ s.heap.objs.size h₁ FG ⟨hns, fun b o e => hk₁ b o (of_hideAll _ e), Nat.le_of_eq (hideAll_size _ _)⟩
    (fun p hp => ⟨hk₁ _ _ (N p hp).1, Nat.ne_of_lt (Heap.lt_size (N p hp).1), hideAll_none _ (List.mem_map_of_mem hp)⟩) BG (X₀.keeps st) (T.keeps st) ?_) ?_ fun _ _ y => y
  · intro b hb
    rw [hfs, List.mem_singleton] at hb
    subst hb
    exact ⟨oL, es, ep, hL, hLd⟩
  · rintro fl s' ⟨g', L', m', news', T', F', N', k⟩
    rw [hfs] at T'
    have hn : h₀.get? L = none := by
      cases e : h₀.get? L with
      | none => rfl
      | some o => exact absurd (Heap.lt_size e) (Nat.not_lt.mpr F.above)
    obtain ⟨sl, hs⟩ := T'.up hL
    refine k ⟨⟨_, es, ep, F'.keep _ _ hs, hLd, hLk, hLf⟩, fun b o e => F'.keep b o (T'.other b o (st b o e) ?_), F.above⟩ fun p hp => ⟨(N' p hp).1, fun q => ?_, ?_⟩
    · rw [List.mem_singleton]; rintro rfl; rw [hn] at e; cases e
    · have z := (N' p hp).2.2
      rw [q, hs] at z; cases z
    · cases q : h₀.get? p.1 with
      | none => rfl
      | some o =>
        obtain ⟨sl', hs'⟩ := T'.up (st _ _ q)
        have z := (N' p hp).2.2
        rw [hs'] at z; cases z
end

section
local macro_rules | `(tactic| walk_at "exec Raise some none") => `(tactic| (k_here; (with_reducible show wpAny _ _ (exec (Stmt.Raise (some (Expr.Call (Expr.Name ("TypeError" : Str) _) (_ :: _) [] _)) none _) _) _ _ _); k_dflt (with_unfolding_all refine' Raise_madeB PySem.F.excCall_TypeError PySem.F.excRaise_TypeError ?hh ?_; (case hh => first | rfl | assumption); k_whole)))
local macro_rules | `(tactic| walk_at "formatField") => `(tactic| (k_here; (with_reducible show wpAny _ _ (formatField (Value.type "str") _) _ _ _); k_dflt (refine' format_type ?_)))
local macro_rules | `(tactic| walk_at "my enterT") => `(tactic| (refine' enter_try ?k1 ?k2 ?k3 ?k4 ?k5 ?kA ?kF ?kK ?k6 ?k7 ?k8 ?k9 ?kB ?c2 ?c3 ?c4 ?c5 ?_; (case kA => first | exact rfl | assumption); (case kF => first | exact rfl | assumption); (case kK => first | exact rfl | assumption); (case k1 => assumption); (case k2 => k_asm); (case k3 => k_asm); (case k4 => k_asm); (case k5 => k_asm); (case k6 => k_is); (case k7 => k_is); (case k8 => omega); (case k9 => first | exact BindsTo.of_eq rfl | exact binds_K (by k_in) rfl (by k_is) rfl rfl rfl); (case c5 => decide); (case kB => exact locs rfl); (case c2 => exact rfl); (case c3 => exact rfl); (case c4 => exact rfl); k_whole; intro g' L' h' FG' F' N' B' X' T' D'; (try dsimp only); (try k_lift B'); (try k_fold)))

section
-- part F6

set_option maxHeartbeats 1000000 in
theorem k_refused {w : World} {p : Program} {loose : List Str} {mean : ExcName → Option Value} {mg mb : Str → Option Value} {news : List (Addr × Obj)} {A A₀ : Around} {env : Env} {h₀ : Heap} {L : Addr} {m : Str → Option Value} {s : Shared} {R : Result → Shared → Prop}
    {pp : Int} {tp : Tok}
    (B : Below A₀ h₀ [] h₀) (F : Fr h₀ L s.heap m) (X : (kWr w.params).In h₀) (T : Top p loose mean mg mb h₀) (hA : A.frames = some [env]) (hf : env.frame = some L) (hk : env.scope.kind = .function) (hd : A.depth + 6 < recursionLimit) (hu : A.units + 30 < cLine) (hh : A.handled = none)
    (N : News h₀ L s.heap news) (hp : pp ≠ 0)
    (hret : ∀ (s' : Shared), s'.gens = s.gens → s'.os = s.os → Fr h₀ L s'.heap m → News h₀ L s'.heap news → R (.ok (.ret (.bool true))) s') :
    codeAny (model PySem.Challenge.rw_kh0012_01.row.prog w) A (.call (.ref 377) ⟨[.int pp tp], []⟩) R s := by
  revert X; k_fill; intro X
  k_dflt (walk_at "my enterT")
  k_steps
  exact hret _ rfl rfl (by k_asm) (by k_asm)
end

end

local macro_rules | `(tactic| walk_at "eval Constant int") => `(tactic| (refine wpAny_Constant_int ?_; (try dsimp only)))
local macro_rules | `(tactic| walk_at "call ref") => `(tactic| (k_here; (with_reducible show wpAny _ _ (call (Value.ref 363) _) _ _ _); k_dflt (refine' wpAny_call (k_primes ?k1 ?k2 ?k3 ?k4 ?kA ?kF ?kK ?kD ?kU ?kH ?kN ?_); (case k1 => k_asm); (case k2 => k_asm); (case k3 => k_asm); (case k4 => k_asm); (case kA => first | exact rfl | assumption | exact Around.frames_deeper (by assumption)); (case kF => exact rfl); (case kK => first | exact rfl | assumption); (case kD => walk_at "my depth"); (case kU => walk_at "my units"); (case kH => first | exact rfl | assumption); (case kN => k_asm); k_whole); intro l' h' tk' its' k' hi' F' N' l1'; (try dsimp only); (try k_lt l1'); (obtain ⟨gs9, hI9, hgl9⟩ := ten_ints (by assumption)); k_dflt (replace hgl9 : gs9.length = 10 := hgl9); (have hgz9 : gs9.length ≤ sizeLine := by rw [hgl9, sizeLine_eq]; omega)))
local macro_rules | `(tactic| walk_at "subscriptTail Call BinOp ref int") => `(tactic| (k_here; k_dflt (refine' item_P ?k3 ?k4 ?k5 ?k6 ?k7 ?_ ?k9; (case k3 => k_asm); (case k4 => k_mem); (case k5 => assumption); (case k6 => exact fm_lo _ (by decide)); (case k7 => exact fm_hi _ (by decide)); (case k9 => with_unfolding_all rfl)); intro p9 t' hp9 hq9))
local macro_rules | `(tactic| walk_at "subscriptTail Name Constant ref int") => `(tactic| (k_here; k_dflt (refine' item_G ?k3 ?k4 ?k5 ?k6 ?k7 ?k8 ?_ ?k9; (case k3 => k_asm); (case k4 => k_mem); (case k5 => assumption); (case k6 => decide); (case k7 => omega); (case k8 => assumption); (case k9 => with_unfolding_all rfl)); intro v' t'))
local macro_rules | `(tactic| walk_at "subscriptTail Name BinOp ref int") => `(tactic| (k_here; k_dflt (refine' item_G ?k3 ?k4 ?k5 ?k6 ?k7 ?k8 ?_ ?k9; (case k3 => k_asm); (case k4 => k_mem); (case k5 => assumption); (case k6 => omega); (case k7 => omega); (case k8 => assumption); (case k9 => with_unfolding_all rfl)); intro v' t'))
local macro_rules | `(tactic| walk_at "call type:range") => `(tactic| (k_here; k_dflt (refine' range1_rows ?k3 ?k4 ?_; (case k3 => k_asm); (case k4 => k_asm)); intro h' tk' t1' u1' v1' R' F' N' _))
local macro_rules | `(tactic| walk_at "call builtin:list.append") => `(tactic| (k_here; k_dflt (refine' append_H ?k3 ?k4 ?k5 ?k6 ?_; (case k3 => k_asm); (case k4 => k_asm); (case k5 => assumption); (case k6 => (rw [sizeLine_eq]; omega))); intro h' F' N'))
local macro_rules | `(tactic| walk_at "pyIter ref") => `(tactic| (k_here; k_dflt (refine' nums_loop ?kH ?k1 ?k2 ?k3 ?k4 ?k5 ?k6 ?tu ?dn; (case kH => exact rfl); (case k1 => assumption); (case k2 => exact Int.le_trans (by decide) (c6_lo _)); (case k3 => exact c6_hi _); (case k4 => k_asm); (case k5 => k_asm); (case k6 => assumption)); (case' tu => (intro i' t' h' tk' own' its' kk' hi' hne' hsz' F' N'; (have hci' := Int.lt_of_lt_of_le hi' (c6_hi _)); (try simp only [List.cons_append, List.nil_append] at N'))); (case' dn => (intro u' h' tk' its' kk' ns' hi' hl' F' N'))))
local macro_rules | `(tactic| walk_at "newList") => `(tactic| (k_here; k_dflt (refine' newList_K ?k1 ?k2 ?_; (case k1 => k_asm); (case k2 => k_asm); k_whole); intro l' h' F' N' l1; (have l1k := l1); (try k_lt l1); (try k_sweep)))
local macro_rules | `(tactic| walk_at "call ref") => `(tactic| (k_here; (with_reducible show wpAny _ _ (call (Value.ref 370) _) _ _ _); k_dflt (refine' wpAny_call (k_lsign ?k1 ?k2 ?k3 ?k4 ?kA ?kF ?kK ?kD ?kU ?kH ?kN ?km ?ki ?kn ?_); (case k1 => k_asm); (case k2 => k_asm); (case k3 => k_asm); (case k4 => k_asm); (case kA => first | exact rfl | assumption | exact Around.frames_deeper (by assumption)); (case kF => exact rfl); (case kK => first | exact rfl | assumption); (case kD => walk_at "my depth"); (case kU => walk_at "my units"); (case kH => first | exact rfl | assumption); (case kN => k_asm); (case km => k_mem); (case ki => assumption); (case kn => (first | omega | (intro e9; simp only [e9] at *; omega))); k_whole); intro t' h' tk' F' N'; (try dsimp only)))
local macro_rules | `(tactic| walk_at "subscriptTail") => `(tactic| (k_here; k_dflt (refine' item_P ?k3 ?k4 ?k5 ?k6 ?k7 ?_ ?k9; (case k3 => k_asm); (case k4 => k_mem); (case k5 => assumption); (case k6 => exact fm_lo _ (by decide)); (case k7 => exact fm_hi _ (by decide)); (case k9 => with_unfolding_all rfl)); intro p9 t' hp9 hq9))
local macro_rules | `(tactic| walk_at "NumPost") => `(tactic| (k_dflt (exact NumPost.intro (by k_asm) (by k_asm))))
local macro_rules | `(tactic| walk_at "my conj") => `(tactic| (repeat (first | with_reducible assumption | ((rename _ ∧ _ => h9); obtain ⟨_, _⟩ := h9))))
local macro_rules | `(tactic| walk_at "my lt") => `(tactic| first | with_reducible assumption | (refine' lt_of_all (o := tabObj #[]) ?h ?m; (case h => assumption); (case m => k_mem)) | (refine ltN ?_; omega) | (walk_at "my conj"; done))
local macro_rules | `(tactic| walk_at "my ne") => `(tactic| first | with_reducible assumption | (refine ne_of_gt9 ?_; walk_at "my lt"; done) | (refine Ne.symm ?_; walk_at "my conj"; done))
local macro_rules | `(tactic| walk_at "my offs") => `(tactic| first | assumption | exact List.forall_mem_nil _ | (refine' List.forall_mem_cons.mpr ⟨?a, ?b⟩; (case a => (dsimp only; walk_at "my ne")); (case b => walk_at "my offs")))
local macro_rules | `(tactic| walk_at "call ref") => `(tactic| (k_here; (with_reducible show wpAny _ _ (call (Value.ref 325) [Value.ref _, Value.ref _, Value.int _ _]) _ _ _); (obtain ⟨ms9, hM9, hlen9, h19, h69, hz9, hzm9⟩ := mod_ints (by assumption) (by assumption)); k_dflt (refine' k_makeL ?k1 ?k2 ?k3 ?k4 ?kA ?kF ?kK ?kD ?kU ?kH ?kN ?p1 ?p2 ?p3 ?b1 ?b2 ?oP ?hi ?hm ?nl ?ml ?le ?h1 ?hp ?hg ?hC ?tr ?_; (case k1 => k_asm); (case k2 => k_asm); (case k3 => k_asm); (case k4 => k_asm); (case kA => first | exact rfl | assumption | exact Around.frames_deeper (by assumption) | exact Around.frames_deeper (Around.frames_deeper (by assumption))); (case kF => exact rfl); (case kK => first | exact rfl | assumption); (case kD => walk_at "my depth"); (case kU => walk_at "my units"); (case kH => first | exact rfl | assumption); (case kN => k_asm); (case p1 => walk_at "my pick"); (case p2 => walk_at "my pick"); (case p3 => walk_at "my pick"); (case b1 => walk_at "my lt"); (case b2 => walk_at "my lt"); (case oP => walk_at "my offs"); (case hi => assumption); (case hm => assumption); (case nl => walk_at "my size"); (case ml => walk_at "my size"); (case le => walk_at "my size"); (case h1 => walk_at "my size"); (case hp => assumption); (case hg => assumption); (case hC => walk_at "my tab"); (case tr => assumption); intro s' x' dx' T' M' q' itc' d' H1' H2' H3' H4' H5' k1' k2' k3' k4' k5' t1' t5' ps' a1 a2 a3 a4 a5 a6 a7 a8 F' N')))
local macro_rules | `(tactic| walk_at "my frame") => `(tactic| first | exact rfl | assumption | exact Around.frames_deeper (by assumption))
local macro_rules | `(tactic| walk_at "getAttr ref") => `(tactic| (k_here; k_dflt (refine' get_sgnP ?k1 ?k2 ?k3 ?k4 ?kA ?kF ?kK ?kD ?kU ?kH ?kN ?m1 ?m2 ?m3 ?hi ?_; (case k1 => k_asm); (case k2 => k_asm); (case k3 => k_asm); (case k4 => k_asm); (case kA => walk_at "my frame"); (case kF => exact rfl); (case kK => first | exact rfl | assumption); (case kD => walk_at "my depth"); (case kU => walk_at "my units"); (case kH => first | exact rfl | assumption); (case kN => k_asm); (case m1 => k_mem); (case m2 => k_mem); (case m3 => k_mem); (case hi => assumption)); intro v' h' tk' hv' F' N'; (try dsimp only)))
local macro_rules | `(tactic| walk_at "compareOp") => `(tactic| (k_here; k_dflt (refine' sgn_ne ?hv ?_; (case hv => assumption))))
local macro_rules | `(tactic| walk_at "compareOp NotEq") => `(tactic| (k_here; k_dflt (refine' sgn_ne ?hv ?_; (case hv => assumption))))
local macro_rules | `(tactic| walk_at "compareOp NotEq") => `(tactic| (k_here; k_dflt (refine' sgn_same ?hv ?he ?_; (case hv => assumption); (case he => first | exact sgn_law _ _ | (walk_at "my sign"; done)))))
local macro_rules | `(tactic| walk_at "call ref") => `(tactic| (k_here; (with_reducible show wpAny _ _ (call (Value.ref 300) _) _ _ _); k_dflt (refine' wpAny_call (k_neg ?k1 ?k2 ?k3 ?k4 ?kA ?kF ?kK ?kD ?kU ?kH ?kN ?m1 ?m2 ?m3 ?m4 ?p3 ?b1 ?b2 ?b3 ?b4 ?oP ?hi ?hm ?nl ?ml ?le ?h1 ?hp ?hg ?hC ?tr ?_); (case k1 => k_asm); (case k2 => k_asm); (case k3 => k_asm); (case k4 => k_asm); (case kA => walk_at "my frame"); (case kF => exact rfl); (case kK => first | exact rfl | assumption); (case kD => walk_at "my depth"); (case kU => walk_at "my units"); (case kH => first | exact rfl | assumption); (case kN => k_asm); (case m1 => k_mem); (case m2 => k_mem); (case m3 => k_mem); (case m4 => k_mem); (case p3 => walk_at "my pick"); (case b1 => walk_at "my lt"); (case b2 => walk_at "my lt"); (case b3 => walk_at "my lt"); (case b4 => walk_at "my lt"); (case oP => walk_at "my offs"); (case hi => assumption); (case hm => assumption); (case nl => walk_at "my size"); (case ml => walk_at "my size"); (case le => walk_at "my size"); (case h1 => walk_at "my size"); (case hp => assumption); (case hg => assumption); (case hC => walk_at "my tab"); (case tr => assumption)); intro s' x' dx' T' q' itc' d' H1' H2' H3' H4' H5' k1' k2' k3' k4' k5' t1' t5' ps' a1 a2 a3 a4 a5 a6 a7 F' N'; (try dsimp only)))
local macro_rules | `(tactic| walk_at "CompSrcT") => `(tactic| (k_here; k_dflt (refine' nz_src ?hp ?hh ?F ?N ?hm ?hi ?sz ?tu ?fin; (case hp => assumption); (case hh => first | exact rfl | assumption); (case F => k_asm); (case N => k_asm); (case hm => k_mem); (case hi => assumption); (case sz => walk_at "my size"); (case' tu => (intro k' t' I' oI' C' oC' D' m' ys' l' h' tk' E' hy' hC' hx' F' N' off' ne'; (have off2' := off'); (try (simp only [LCg.Off3, and_true] at off')))); (case' fin => (intro g' ys' hy' hl'))))) 
local macro_rules | `(tactic| walk_at "KCiEl") => `(tactic| (refine' kci_el ?e ?n ?y; (case n => with_unfolding_all rfl); (case y => with_unfolding_all rfl); (case e => exact gnz_hit (by first | assumption | omega))))
local macro_rules | `(tactic| walk_at "KCiNo") => `(tactic| (refine' kci_no ?e ?n; (case n => with_unfolding_all rfl); (case e => exact gnz_miss (by first | assumption | omega))))
local macro_rules | `(tactic| walk_at "CompEnd") => `(tactic| (k_dflt (refine' comp_end ?F ?N ?off ?hS ?r; (case F => k_asm); (case N => k_asm); (case off => assumption); (case hS => first | assumption | lcg_src); (case r => first | (walk_at "KCiEl"; done) | (walk_at "KCiNo"; done)))))
local macro_rules | `(tactic| walk_at "truthy ref") => `(tactic| (k_here; k_dflt (refine' nz_truth ?N ?m ?y ?l ?k ?z ?_; (case y => assumption); (case l => assumption); (case N => k_asm); (case m => k_mem); (case k => exact ints_size (by assumption)); (case z => assumption)); intro tk'))
local macro_rules | `(tactic| walk_at "my sign") => `(tactic| (refine (neg_pos (by assumption) (by assumption) (by assumption)).trans ?_; first | rfl | simp))

section
-- part S1

/-- the law's statement number i, and its scope -/
noncomputable def lawAt (P : Params) (i : Nat) : Option (Option Stmt × Scope) := match List.lookup 382 (kWr P) with
  | some ⟨_, _, .func fd, _⟩ => (match fd.body with | .stmts b => some (b[i]?, fd.scope) | _ => none)
  | _ => none
abbrev lawEnv (sc : Scope) (L fa : Addr) (cdv : Value) : Env := envOfC (Str.ofString "law") sc L fa cdv

set_option maxHeartbeats 1000000 in
theorem seg1 {w : World} {p : Program} {loose : List Str} {mean : ExcName → Option Value} {mg mb : Str → Option Value} {g : Heap} {L fa : Addr} {cdv : Value} {rest : Str → Option Value} {s : Shared} {Q : Flow → Shared → Prop} {E : Value → Shared → Prop}
    {st : Stmt} {sc : Scope} (hs : lawAt w.params 7 = some (some st, sc))
    {l x dx T_ M_ q : Addr} {its itc itm ps : Array Value} {kk k k2 : Nat} {ns ms : List Int} {pp d : Int} {ts tp : Tok} {H1 H2 H3 H4 H5 : Int} {k1 k2' k3 k4 k5 t1 t5 : Tok} {o : Obj} {lg : Addr} {og : Obj} {n5 : Nat}
    (B : Below callerA g [] g) (X : (kWr w.params).In g) (T : Top p loose mean mg mb g) (hC : CodeHd g 215 213)
    (F : Fr g L s.heap (fun y => if y = Str.ofString "element" then some (.ref x) else if y = Str.ofString "sign" then some (.int (lawSign pp ns) ts) else if y = Str.ofString "numbers" then some (.ref l) else rest y))
    (N : News g L s.heap [(x, instObj 325 dx), (dx, dictOf (fqpEs pp q T_ M_ d H1 H2 H3 H4 H5 k1 k2' k3 k4 k5 t1 t5) n5), (T_, tupOf itc k), (M_, tupOf itm k2), (l, listOf its kk), (213, tabObj ps), (L + 1 + 1, o), (lg, og)])
    (ho : o.data = Data.cell (some (.int pp tp)))
    (hi : IntsAre its.toList ns) (hc : IntsAre itc.toList (ns.map fun v => v.fmod pp)) (hm : IntsAre itm.toList ms) (hlen : ns.length = ms.length) (h1 : 1 ≤ ns.length) (h6 : ns.length ≤ 6) (hz : ns.length ≤ sizeLine) (hzm : ms.length ≤ sizeLine)
    (hp : 3 ≤ pp) (hq : pp.fmod 2 = 1) (htr : TriplesOk ps.toList) (hg : AllBare s.gens)
    (b1 : 213 < x) (b2 : 213 < dx) (b3 : 213 < T_) (b4 : 213 < M_) (b5 : 213 < l) (b6 : 213 < L)
    (b8 : 213 ≠ lg)
    (hret : ∀ s' ps', AllBare s'.gens → s'.os = s.os → TriplesOk ps'.toList → Fr g L s'.heap (fun y => if y = Str.ofString "element" then some (.ref x) else if y = Str.ofString "sign" then some (.int (lawSign pp ns) ts) else if y = Str.ofString "numbers" then some (.ref l) else rest y) →
      News g L s'.heap [(l, listOf its kk), (213, tabObj ps'), (L + 1 + 1, o), (lg, og)] → Q .next s') :
    wpAny (model PySem.Challenge.rw_kh0012_01.row.prog w) (callerA.deeper (lawEnv sc L fa cdv)) (exec st (lawEnv sc L fa cdv)) Q E s := by
  have h2 := (rfl : lawAt w.params 7 = some (some _, _))
  rw [h2] at hs
  obtain ⟨e1, e2⟩ := Prod.mk.inj (Option.some.inj hs)
  replace e1 := Option.some.inj e1
  subst e1; subst e2
  clear hs h2
  have hLL : L < L + 1 + 1 := by exact Nat.lt_of_lt_of_le (Nat.lt_succ_self _) (Nat.le_succ _)
  have b7 : (213 : Nat) < L + 1 + 1 := Nat.lt_trans b6 hLL
  revert X; k_fill; intro X
  dsimp only [lawEnv]
  k_steps
  all_goals (
    refine' hret _ _ ?g ?o ?t ?f ?n
    case t => assumption
    case n => exact cb_drop (by k_asm) (by walk_at "my sub")
    case g => assumption
    case o => assumption
    case f => k_asm)
end

section
local macro_rules | `(tactic| walk_at "call ref") => `(tactic| (k_here; (with_reducible show wpAny _ _ (call (Value.ref 200) [Value.int _ _, Value.int _ _]) _ _ _); k_dflt (refine' k_makeF ?k1 ?k2 ?k3 ?k4 ?kA ?kF ?kK ?kD ?kU ?kH ?kN ?hp ?_; (case k1 => k_asm); (case k2 => k_asm); (case k3 => k_asm); (case k4 => k_asm); (case kA => walk_at "my frame"); (case kF => exact rfl); (case kK => first | exact rfl | assumption); (case kD => walk_at "my depth"); (case kU => walk_at "my units"); (case kH => first | exact rfl | assumption); (case kN => k_asm); (case hp => assumption)); intro s' x' dx' H1' H2' k1' k2' t1' t2' hg' ho' F' N'; (try dsimp only at *)))
local macro_rules | `(tactic| walk_at "getAttr ref") => `(tactic| (k_here; k_dflt (refine' get_sgnF ?k1 ?k2 ?k3 ?k4 ?kA ?kF ?kK ?kD ?kU ?kH ?kN ?m1 ?m2 ?_; (case k1 => k_asm); (case k2 => k_asm); (case k3 => k_asm); (case k4 => k_asm); (case kA => walk_at "my frame"); (case kF => exact rfl); (case kK => first | exact rfl | assumption); (case kD => walk_at "my depth"); (case kU => walk_at "my units"); (case kH => first | exact rfl | assumption); (case kN => k_asm); (case m1 => k_mem); (case m2 => k_mem)); intro t' h' tk' F' N'; (try dsimp only)))
local macro_rules | `(tactic| walk_at "call ref") => `(tactic| (k_here; (with_reducible show wpAny _ _ (call (Value.ref 42) [Value.ref _, Value.int _ _]) _ _ _); k_dflt (refine' wpAny_call (k_modintF ?k1 ?k2 ?k3 ?k4 ?kA ?kF ?kK ?kD ?kU ?kH ?kN ?m1 ?m2 ?hz ?_); (case k1 => k_asm); (case k2 => k_asm); (case k3 => k_asm); (case k4 => k_asm); (case kA => walk_at "my frame"); (case kF => exact rfl); (case kK => first | exact rfl | assumption); (case kD => walk_at "my depth"); (case kU => walk_at "my units"); (case kH => first | exact rfl | assumption); (case kN => k_asm); (case m1 => k_mem); (case m2 => k_mem); (case hz => first | assumption | ((rename ∀ x : Int, 2 + x.fmod 50 ≠ 0 => h9); exact h9 _))); intro t' h' tk' F' N'; (try dsimp only)))
local macro_rules | `(tactic| walk_at "call ref") => `(tactic| (k_here; (with_reducible show wpAny _ _ (call (Value.ref 377) [Value.int _ _]) _ _ _); k_dflt (refine' wpAny_call (k_refused ?k1 ?k2 ?k3 ?k4 ?kA ?kF ?kK ?kD ?kU ?kH ?kN ?hp ?_); (case k1 => k_asm); (case k2 => k_asm); (case k3 => k_asm); (case k4 => k_asm); (case kA => first | exact rfl | assumption); (case kF => exact rfl); (case kK => first | exact rfl | assumption); (case kD => walk_at "my depth"); (case kU => walk_at "my units"); (case kH => first | exact rfl | assumption); (case kN => k_asm); (case hp => assumption)); intro s' hg' ho' F' N'; (try dsimp only)))
local macro_rules | `(tactic| walk_at "subscriptTail Name Constant ref int") => `(tactic| (k_here; k_dflt (refine' item_L ?k3 ?k4 ?k5 ?k6 ?k7 ?k8 ?_ ?k9; (case k3 => k_asm); (case k4 => k_mem); (case k5 => assumption); (case k6 => decide); (case k7 => omega); (case k8 => assumption); (case k9 => with_unfolding_all rfl)); intro t'))

section
-- part S2

theorem fq_law (p v0 : Int) (ns : List Int) : (((v0 :: ns).getD (Int.toNat 0) 0).fmod p).fmod 2 = lawSign p (List.take 1 (v0 :: ns)) := by
  show (v0.fmod p).fmod 2 = lawSign p [v0]
  unfold lawSign
  split
  · rename_i h; rw [h]; rfl
  · rfl

set_option maxHeartbeats 1000000 in
theorem seg2 {w : World} {p : Program} {loose : List Str} {mean : ExcName → Option Value} {mg mb : Str → Option Value} {g : Heap} {L fa : Addr} {cdv : Value} {rest : Str → Option Value} {s : Shared} {Q : Flow → Shared → Prop} {E : Value → Shared → Prop}
    {st : Stmt} {sc : Scope} (hs : lawAt w.params 8 = some (some st, sc))
    {l : Addr} {its ps : Array Value} {kk : Nat} {v0 : Int} {ns : List Int} {pp : Int} {tp : Tok} {o : Obj} {lg : Addr} {og : Obj}
    (B : Below callerA g [] g) (X : (kWr w.params).In g) (T : Top p loose mean mg mb g)
    (F : Fr g L s.heap (fun y => if y = Str.ofString "numbers" then some (.ref l) else rest y))
    (N : News g L s.heap [(l, listOf its kk), (213, tabObj ps), (L + 1 + 1, o), (lg, og)])
    (ho : o.data = Data.cell (some (.int pp tp)))
    (hi : IntsAre its.toList (v0 :: ns)) (h6 : (v0 :: ns).length ≤ 6) (hz : (v0 :: ns).length ≤ sizeLine) (h1 : 0 < ((v0 :: ns).length : Int))
    (hp : 3 ≤ pp) (hn0 : pp ≠ 0) (b5 : 213 < l) (b6 : 213 < L)
    (b8 : 213 ≠ lg)
    (hret : ∀ s', s'.gens = s.gens → s'.os = s.os → Fr g L s'.heap (fun y => if y = Str.ofString "numbers" then some (.ref l) else rest y) →
      News g L s'.heap [(l, listOf its kk), (213, tabObj ps), (L + 1 + 1, o), (lg, og)] → Q .next s') :
    wpAny (model PySem.Challenge.rw_kh0012_01.row.prog w) (callerA.deeper (lawEnv sc L fa cdv)) (exec st (lawEnv sc L fa cdv)) Q E s := by
  have h2 := (rfl : lawAt w.params 8 = some (some _, _))
  rw [h2] at hs
  obtain ⟨e1, e2⟩ := Prod.mk.inj (Option.some.inj hs)
  replace e1 := Option.some.inj e1
  subst e1; subst e2
  clear hs h2
  have hLL : L < L + 1 + 1 := by exact Nat.lt_of_lt_of_le (Nat.lt_succ_self _) (Nat.le_succ _)
  have b7 : (213 : Nat) < L + 1 + 1 := Nat.lt_trans b6 hLL
  revert X; k_fill; intro X
  dsimp only [lawEnv]
  k_steps
  · exact absurd (fq_law _ _ _) (by assumption)
  · exact hret _ (by assumption) (by assumption) (by k_asm) (cb_drop (by k_asm) (by walk_at "my sub"))
end

section
-- part S3

set_option maxHeartbeats 1000000 in
theorem seg3 {w : World} {p : Program} {loose : List Str} {mean : ExcName → Option Value} {mg mb : Str → Option Value} {g : Heap} {L fa : Addr} {cdv : Value} {rest : Str → Option Value} {s : Shared} {Q : Flow → Shared → Prop} {E : Value → Shared → Prop}
    {st : Stmt} {sc : Scope} (hs : lawAt w.params 9 = some (some st, sc))
    {l : Addr} {its ps : Array Value} {kk : Nat} {v0 : Int} {ns : List Int} {o : Obj} {lg : Addr} {og : Obj}
    (B : Below callerA g [] g) (X : (kWr w.params).In g) (T : Top p loose mean mg mb g)
    (F : Fr g L s.heap (fun y => if y = Str.ofString "numbers" then some (.ref l) else rest y))
    (N : News g L s.heap [(l, listOf its kk), (213, tabObj ps), (L + 1 + 1, o), (lg, og)])
    (hi : IntsAre its.toList (v0 :: ns)) (h6 : (v0 :: ns).length ≤ 6) (hz : (v0 :: ns).length ≤ sizeLine) (h1 : 0 < ((v0 :: ns).length : Int))
    (b8 : 213 ≠ lg)
    (hret : ∀ s' D ws a b, s'.gens = s.gens → s'.os = s.os → (213 : Nat) < D → IntsAre ws [a, b] → Fr g L s'.heap (fun y => if y = Str.ofString "pair" then some (.ref D) else if y = Str.ofString "numbers" then some (.ref l) else rest y) →
      News g L s'.heap [(D, listOf ws.toArray 0), (213, tabObj ps), (L + 1 + 1, o), (lg, og)] → Q .next s') :
    wpAny (model PySem.Challenge.rw_kh0012_01.row.prog w) (callerA.deeper (lawEnv sc L fa cdv)) (exec st (lawEnv sc L fa cdv)) Q E s := by
  have h2 := (rfl : lawAt w.params 9 = some (some _, _))
  rw [h2] at hs
  obtain ⟨e1, e2⟩ := Prod.mk.inj (Option.some.inj hs)
  replace e1 := Option.some.inj e1
  subst e1; subst e2
  clear hs h2
  revert X; k_fill; intro X
  dsimp only [lawEnv]
  k_steps
  refine' hret _ _ [_, _] _ _ ?g ?o ?b ?i ?f ?n
  case f => k_asm
  case n => exact cb_drop (by k_asm) (by walk_at "my sub")
  case g => rfl
  case o => rfl
  case b => walk_at "my lt"
  case i => exact .cons _ _ (.cons _ _ .nil)
end

local macro_rules | `(tactic| walk_at "call ref") => `(tactic| (k_here; (with_reducible show wpAny _ _ (call (Value.ref 325) [Value.ref _, Value.ref _, Value.int _ _]) _ _ _); k_dflt (refine' k_makeT ?k1 ?k2 ?k3 ?k4 ?kA ?kF ?kK ?kD ?kU ?kH ?kN ?p1 ?p2 ?p3 ?b1 ?b2 ?oP ?hi ?hm ?nl ?ml ?le ?h1 ?hp ?hg ?hC ?tr ?_; (case k1 => k_asm); (case k2 => k_asm); (case k3 => k_asm); (case k4 => k_asm); (case kA => walk_at "my frame"); (case kF => exact rfl); (case kK => first | exact rfl | assumption); (case kD => walk_at "my depth"); (case kU => walk_at "my units"); (case kH => first | exact rfl | assumption); (case kN => k_asm); (case p1 => walk_at "my pick"); (case p2 => walk_at "my pick"); (case p3 => walk_at "my pick"); (case b1 => walk_at "my lt"); (case b2 => walk_at "my lt"); (case oP => walk_at "my offs"); (case hi => assumption); (case hm => first | assumption | exact .cons _ _ (.cons _ _ .nil)); (case nl => walk_at "my size"); (case ml => walk_at "my size"); (case le => walk_at "my size"); (case h1 => walk_at "my size"); (case hp => assumption); (case hg => assumption); (case hC => walk_at "my tab"); (case tr => assumption); intro s' x' dx' T' q' itc' d' H1' H2' H3' H4' H5' k1' k2' k3' k4' k5' t1' t5' ps' a1 a2 a3 a4 a5 a6 a7 a8 F' N')))
local macro_rules | `(tactic| walk_at "call ref") => `(tactic| (k_here; (with_reducible show wpAny _ _ (call (Value.ref 354) [Value.ref _, Value.ref _, Value.int _ _]) _ _ _); k_dflt (refine' k_make2 ?k1 ?k2 ?k3 ?k4 ?kA ?kF ?kK ?kD ?kU ?kH ?kN ?p1 ?p2 ?p3 ?b1 ?b2 ?oP ?hi ?hm ?nl ?ml ?le ?h1 ?hp ?hg ?hC ?tr ?_; (case k1 => k_asm); (case k2 => k_asm); (case k3 => k_asm); (case k4 => k_asm); (case kA => walk_at "my frame"); (case kF => exact rfl); (case kK => first | exact rfl | assumption); (case kD => walk_at "my depth"); (case kU => walk_at "my units"); (case kH => first | exact rfl | assumption); (case kN => k_asm); (case p1 => walk_at "my pick"); (case p2 => walk_at "my pick"); (case p3 => walk_at "my pick"); (case b1 => walk_at "my lt"); (case b2 => walk_at "my lt"); (case oP => walk_at "my offs"); (case hi => assumption); (case hm => first | assumption | exact .cons _ _ (.cons _ _ .nil)); (case nl => walk_at "my size"); (case ml => walk_at "my size"); (case le => walk_at "my size"); (case h1 => walk_at "my size"); (case hp => assumption); (case hg => assumption); (case hC => walk_at "my tab"); (case tr => assumption); intro s' x' dx' T' q' itc' d' H1' H2' H3' H4' H5' k1' k2' k3' k4' k5' t1' t5' ps' a1 a2 a3 a4 a5 a6 a7 a8 F' N')))
local macro_rules | `(tactic| walk_at "getAttr ref") => `(tactic| (k_here; k_dflt (refine' get_sgn2 ?k1 ?k2 ?k3 ?k4 ?kA ?kF ?kK ?kD ?kU ?kH ?kN ?m1 ?m2 ?m3 ?hi ?_; (case k1 => k_asm); (case k2 => k_asm); (case k3 => k_asm); (case k4 => k_asm); (case kA => walk_at "my frame"); (case kF => exact rfl); (case kK => first | exact rfl | assumption); (case kD => walk_at "my depth"); (case kU => walk_at "my units"); (case kH => first | exact rfl | assumption); (case kN => k_asm); (case m1 => k_mem); (case m2 => k_mem); (case m3 => k_mem); (case hi => assumption)); intro v' h' tk' hv' F' N'; (try dsimp only)))
local macro_rules | `(tactic| walk_at "compareOp NotEq") => `(tactic| (k_here; k_dflt (refine' sgn_same ?hv ?he ?_; (case hv => assumption); (case he => first | exact sgn_law _ _ | exact sgn_law _ [_, _]))))
local macro_rules | `(tactic| walk_at "my size") => `(tactic| first | assumption | rfl | omega | (simp only [List.length_map, List.length_cons, List.length_nil]; first | done | omega | (rw [sizeLine_eq]; omega)))

section
-- part S4

set_option maxHeartbeats 2000000 in
theorem seg4 {w : World} {p : Program} {loose : List Str} {mean : ExcName → Option Value} {mg mb : Str → Option Value} {g : Heap} {L fa : Addr} {cdv : Value} {rest : Str → Option Value} {s : Shared} {Q : Flow → Shared → Prop} {E : Value → Shared → Prop}
    {st : Stmt} {sc : Scope} (hs : lawAt w.params 10 = some (some st, sc))
    {l : Addr} {ws : List Value} {ps : Array Value} {a b pp : Int} {tp : Tok} {o : Obj} {lg : Addr} {og : Obj}
    (B : Below callerA g [] g) (X : (kWr w.params).In g) (T : Top p loose mean mg mb g) (hC : CodeHd g 215 213)
    (F : Fr g L s.heap (fun y => if y = Str.ofString "pair" then some (.ref l) else rest y))
    (N : News g L s.heap [(l, listOf ws.toArray 0), (213, tabObj ps), (L + 1 + 1, o), (lg, og)])
    (ho : o.data = Data.cell (some (.int pp tp)))
    (hi : IntsAre ws [a, b]) (hp : 3 ≤ pp) (hn0 : pp ≠ 0) (hq : pp.fmod 2 = 1) (htr : TriplesOk ps.toList) (hg : AllBare s.gens)
    (b5 : 213 < l) (b6 : 213 < L)
    (b8 : 213 ≠ lg)
    (hret : ∀ s' ps', AllBare s'.gens → s'.os = s.os → TriplesOk ps'.toList → Fr g L s'.heap (fun y => if y = Str.ofString "pair" then some (.ref l) else rest y) →
      News g L s'.heap [(213, tabObj ps'), (L + 1 + 1, o), (lg, og)] → Q .next s') :
    wpAny (model PySem.Challenge.rw_kh0012_01.row.prog w) (callerA.deeper (lawEnv sc L fa cdv)) (exec st (lawEnv sc L fa cdv)) Q E s := by
  have h2 := (rfl : lawAt w.params 10 = some (some _, _))
  rw [h2] at hs
  obtain ⟨e1, e2⟩ := Prod.mk.inj (Option.some.inj hs)
  replace e1 := Option.some.inj e1
  subst e1; subst e2
  clear hs h2
  have hLL : L < L + 1 + 1 := by exact Nat.lt_of_lt_of_le (Nat.lt_succ_self _) (Nat.le_succ _)
  have b7 : (213 : Nat) < L + 1 + 1 := Nat.lt_trans b6 hLL
  have hi2 : IntsAre ws.toArray.toList [a, b] := by simpa using hi
  have hz2 : [a, b].length ≤ sizeLine := by rw [sizeLine_eq]; show 2 ≤ 16777216; decide
  revert X; k_fill; intro X
  dsimp only [lawEnv]
  k_steps
  refine' hret _ _ ?g ?o ?t ?f ?n
  case t => assumption
  case n => exact cb_drop (by k_asm) (by walk_at "my sub")
  case g => assumption
  case o => exact Eq.trans (by assumption) (by assumption)
  case f => k_asm
end

section
-- part S5

set_option maxHeartbeats 2000000 in
theorem seg5 {w : World} {p : Program} {loose : List Str} {mean : ExcName → Option Value} {mg mb : Str → Option Value} {g : Heap} {L fa : Addr} {cdv : Value} {rest : Str → Option Value} {s : Shared} {Q : Flow → Shared → Prop} {E : Value → Shared → Prop}
    {st : Stmt} {sc : Scope} (hs : lawAt w.params 11 = some (some st, sc))
    {l : Addr} {itg ps : Array Value} {kg : Nat} {gs : List Int} {pp : Int} {tp : Tok} {o : Obj}
    (B : Below callerA g [] g) (X : (kWr w.params).In g) (T : Top p loose mean mg mb g)
    (F : Fr g L s.heap (fun y => if y = Str.ofString "given" then some (.ref l) else rest y))
    (N : News g L s.heap [(l, listOf itg kg), (213, tabObj ps), (L + 1 + 1, o)])
    (ho : o.data = Data.cell (some (.int pp tp)))
    (hi : IntsAre itg.toList gs) (hgl : gs.length = 10) (hgz : gs.length ≤ sizeLine) (hp : 3 ≤ pp) (hn0 : pp ≠ 0)
    (hret : ∀ s', s'.gens = s.gens → s'.os = s.os → Fr g L s'.heap (fun y => if y = Str.ofString "given" then some (.ref l) else rest y) →
      News g L s'.heap [(213, tabObj ps), (L + 1 + 1, o)] → Q (.ret (.bool true)) s') :
    wpAny (model PySem.Challenge.rw_kh0012_01.row.prog w) (callerA.deeper (lawEnv sc L fa cdv)) (exec st (lawEnv sc L fa cdv)) Q E s := by
  have h2 := (rfl : lawAt w.params 11 = some (some _, _))
  rw [h2] at hs
  obtain ⟨e1, e2⟩ := Prod.mk.inj (Option.some.inj hs)
  replace e1 := Option.some.inj e1
  subst e1; subst e2
  clear hs h2
  have h50 : ∀ x : Int, 2 + x.fmod 50 ≠ 0 := fun x => by have := fm_lo x (n := 50) (by decide); omega
  revert X; k_fill; intro X
  dsimp only [lawEnv]
  k_steps
  all_goals first
    | (exfalso; exact absurd rfl (by assumption))
    | (exfalso; exact h50 _ (by assumption))
    | (refine' hret _ ?g ?o ?f ?n
       case g => exact Eq.trans (by assumption) (by assumption)
       case o => exact Eq.trans (by assumption) (by assumption)
       case f => k_asm
       case n => exact cb_drop (by k_asm) (by walk_at "my sub"))
end

end

section
-- part S6

theorem map_has {m : Str → Option Value} {x : Str} {v : Value} (h : m x = some v) : (fun y => if y = x then some v else m y) = m := by
  funext y
  by_cases e : y = x
  · rw [if_pos e, e, h]
  · rw [if_neg e]
theorem fr_has {g h : Heap} {L : Addr} {m : Str → Option Value} {x : Str} {v : Value} (F : Fr g L h m) (e : m x = some v) : Fr g L h (fun y => if y = x then some v else m y) := by rw [map_has e]; exact F

theorem map_has3 {m : Str → Option Value} {x y z : Str} {v w u : Value} (h1 : m x = some v) (h2 : m y = some w) (h3 : m z = some u) : (fun a => if a = x then some v else if a = y then some w else if a = z then some u else m a) = m := by
  funext a
  by_cases e : a = x
  · rw [if_pos e, e, h1]
  rw [if_neg e]
  by_cases e : a = y
  · rw [if_pos e, e, h2]
  rw [if_neg e]
  by_cases e : a = z
  · rw [if_pos e, e, h3]
  rw [if_neg e]

theorem law_rest {w : World} {p : Program} {loose : List Str} {mean : ExcName → Option Value} {mg mb : Str → Option Value} {g : Heap} {L fa : Addr} {cdv : Value} {m : Str → Option Value} {s : Shared} {Q : Flow → Shared → Prop} {E : Value → Shared → Prop}
    {st7 st8 st9 st10 st11 : Stmt} {sc : Scope} (h7 : lawAt w.params 7 = some (some st7, sc)) (h8 : lawAt w.params 8 = some (some st8, sc)) (h9 : lawAt w.params 9 = some (some st9, sc)) (h10 : lawAt w.params 10 = some (some st10, sc)) (h11 : lawAt w.params 11 = some (some st11, sc))
    {l lg x dx T_ M_ q : Addr} {its itg itc itm ps : Array Value} {kk kg k k2 : Nat} {ns ms gs : List Int} {pp d : Int} {ts tp : Tok} {H1 H2 H3 H4 H5 : Int} {k1 k2' k3 k4 k5 t1 t5 : Tok} {o : Obj} {n5 : Nat}
    (B : Below callerA g [] g) (X : (kWr w.params).In g) (T : Top p loose mean mg mb g) (hC : CodeHd g 215 213) (F : Fr g L s.heap m)
    (e1 : m (Str.ofString "element") = some (.ref x)) (e2 : m (Str.ofString "sign") = some (.int (lawSign pp ns) ts)) (e3 : m (Str.ofString "numbers") = some (.ref l)) (e4 : m (Str.ofString "given") = some (.ref lg))
    (N : News g L s.heap [(x, instObj 325 dx), (dx, dictOf (fqpEs pp q T_ M_ d H1 H2 H3 H4 H5 k1 k2' k3 k4 k5 t1 t5) n5), (T_, tupOf itc k), (M_, tupOf itm k2), (l, listOf its kk), (213, tabObj ps), (L + 1 + 1, o), (lg, listOf itg kg)])
    (ho : o.data = Data.cell (some (.int pp tp)))
    (hi : IntsAre its.toList ns) (hc : IntsAre itc.toList (ns.map fun v => v.fmod pp)) (hm : IntsAre itm.toList ms) (hlen : ns.length = ms.length) (h1 : 1 ≤ ns.length) (h6 : ns.length ≤ 6) (hz : ns.length ≤ sizeLine) (hzm : ms.length ≤ sizeLine)
    (hig : IntsAre itg.toList gs) (hgl : gs.length = 10) (hgz : gs.length ≤ sizeLine)
    (hp : 3 ≤ pp) (hq : pp.fmod 2 = 1) (htr : TriplesOk ps.toList) (hg : AllBare s.gens)
    (b1 : 213 < x) (b2 : 213 < dx) (b3 : 213 < T_) (b4 : 213 < M_) (b5 : 213 < l) (b6 : 213 < L) (b8 : 213 ≠ lg)
    (hret : ∀ s' ps' m', AllBare s'.gens → s'.os = s.os → Fr g L s'.heap m' → News g L s'.heap [(213, tabObj ps'), (L + 1 + 1, o)] → Q (.ret (.bool true)) s') :
    wpAny (model PySem.Challenge.rw_kh0012_01.row.prog w) (callerA.deeper (lawEnv sc L fa cdv)) (execs [st7, st8, st9, st10, st11] (lawEnv sc L fa cdv)) Q E s := by
  have hn0 : pp ≠ 0 := by omega
  have F0 : Fr g L s.heap (fun y => if y = Str.ofString "element" then some (.ref x) else if y = Str.ofString "sign" then some (.int (lawSign pp ns) ts) else if y = Str.ofString "numbers" then some (.ref l) else m y) := by
    rw [map_has3 e1 e2 e3]; exact F
  refine wpAny_execs_cons (seg1 h7 B X T hC F0 N ho hi hc hm hlen h1 h6 hz hzm hp hq htr hg b1 b2 b3 b4 b5 b6 b8 fun s1 ps1 g1 o1 y1 F1 N1 => ?_)
  rw [map_has3 e1 e2 e3] at F1
  obtain ⟨v0, r, rfl⟩ : ∃ v0 r, ns = v0 :: r := by
    cases ns with
    | nil => simp at h1
    | cons a r => exact ⟨a, r, rfl⟩
  have h1' : 0 < ((v0 :: r).length : Int) := by omega
  refine wpAny_execs_cons (seg2 h8 B X T (fr_has F1 e3) N1 ho hi h6 hz h1' hp hn0 b5 b6 b8 fun s2 g2 o2 F2 N2 => ?_)
  refine wpAny_execs_cons (seg3 h9 B X T F2 N2 hi h6 hz h1' b8 fun s3 D ws a b g3 o3 b9 hi3 F3 N3 => ?_)
  refine wpAny_execs_cons (seg4 h10 B X T hC F3 N3 ho hi3 hp hn0 hq y1 (by rw [g3, g2]; exact g1) b9 b6 b8 fun s4 ps4 g4 o4 t4 F4 N4 => ?_)
  have e5 : (fun y => if y = Str.ofString "pair" then some (.ref D) else if y = Str.ofString "numbers" then some (.ref l) else m y : Str → Option Value) (Str.ofString "given") = some (.ref lg) := by
    dsimp only
    rw [if_neg (by decide +kernel), if_neg (by decide +kernel), e4]
  refine wpAny_execs_cons (seg5 h11 B X T (fr_has F4 e5) (show News g L s4.heap [(lg, listOf itg kg), (213, tabObj ps4), (L + 1 + 1, o)] from cb_drop N4 (by intro p hp; simp only [List.mem_cons, List.not_mem_nil, or_false] at hp ⊢; rcases hp with rfl | rfl | rfl <;> simp)) ho hig hgl hgz hp hn0 fun s5 g5 o5 F5 N5 => ?_)
  exact hret _ _ _ (by rw [g5]; exact g4) (o5.trans (o4.trans (o3.trans (o2.trans o1)))) F5 N5
end

section
-- part G3

theorem post_true (args : List WData) : PySem.Challenge.rw_kh0012_01.row.claim.post args (.bool true) args = true := by
  refine postW_of (r := PySem.Challenge.rw_kh0012_01.row.toRowW) (X := (true == true)) ?h1 ?h2 ?h3
  case h1 => rfl
  case h3 => rfl
  case h2 => exact w_eq_bool (w_res rfl) w_lit
end

local macro_rules | `(tactic| walk_at "execs cons") => `(tactic| (k_here; (with_reducible show wpAny _ _ (execs (Stmt.If _ _ _ _ :: _) _) _ _ _); k_dflt (refine' law_rest ?h7 ?h8 ?h9 ?h10 ?h11 ?B ?X ?T ?hC ?F ?e1 ?e2 ?e3 ?e4 ?N ?ho ?hi ?hc ?hm ?len ?h1 ?h6 ?hz ?hzm ?hig ?hgl ?hgz ?hp ?hq ?tr ?hg ?b1 ?b2 ?b3 ?b4 ?b5 ?b6 ?b8 ?_; (case h7 => exact rfl); (case h8 => exact rfl); (case h9 => exact rfl); (case h10 => exact rfl); (case h11 => exact rfl); (case B => k_asm); (case X => k_asm); (case T => k_asm); (case hC => assumption); (case F => k_asm); (case e1 => exact rfl); (case e2 => exact rfl); (case e3 => exact rfl); (case e4 => exact rfl); (case N => exact cb_drop (by k_asm) (by walk_at "my sub")); (case ho => assumption); (case hi => assumption); (case hc => assumption); (case hm => assumption); (case len => assumption); (case h1 => assumption); (case h6 => assumption); (case hz => assumption); (case hzm => assumption); (case hig => assumption); (case hgl => assumption); (case hgz => assumption); (case hp => assumption); (case hq => assumption); (case tr => assumption); (case hg => assumption); (case b1 => walk_at "my lt"); (case b2 => walk_at "my lt"); (case b3 => walk_at "my lt"); (case b4 => walk_at "my lt"); (case b5 => walk_at "my lt"); (case b6 => walk_at "my lt"); (case b8 => walk_at "my conj"))))

section
-- part E3

theorem g_conv {s₁ s' : Shared} {cw : ClaimW} {cl : Str → Option Addr} {mean : ExcName → Option Value} {args : List WData} {tabs : List (Addr × Addr)} {r : Result} (hT : TabsAt tabs s₁.heap) (hr : ∀ a x, cw.raises a x = false)
    (h : GoodW cw cl mean args { s₁ with heap := ghostOf s₁.heap tabs } r { s' with gens := #[] }) (hgr : GrownAll tabs s'.heap) (hb : AllBare s'.gens) : GoodWG cw cl mean args s₁ r s' := by
  obtain ⟨hc, hk, hos, _⟩ := h
  have keep : ∀ b o, b ∉ tabs.map (·.2) → s₁.heap.get? b = some o → s'.heap.get? b = some o := fun b o hb e => hk b o (ghost_ne e hb)
  have grown : ∀ b o, b ∈ tabs.map (·.2) → s₁.heap.get? b = some o → isCodeTable s₁.heap b ∧ o = tabObj #[] ∧ ∃ ps, s'.heap.get? b = some (tabObj ps) := fun b o hb e => by
    obtain ⟨q, hq, rfl⟩ := List.mem_map.mp hb
    have e2 := (hT q hq).2
    rw [e] at e2
    exact ⟨((hT q hq).1.tab (hT q hq).2).isCodeTable, Option.some.inj e2, hgr.get q hq⟩
  refine ⟨?_, ⟨fun b o e => ?_, fun b o e => ?_⟩, hos, hb⟩
  · rcases hc with ⟨v, d, as, r1, r2, r3, r4, r5⟩ | ⟨e, ob, x, _, _, _, r4, _⟩
    · refine .inl ⟨v, d, as, r1, r2, r3, r4, fun q => ⟨(r5 q).1, fun a ha => ?_⟩⟩
      cases q1 : s₁.heap.get? a with
      | none => rfl
      | some o =>
        by_cases hb : a ∈ tabs.map (·.2)
        · obtain ⟨_, _, ps, hP⟩ := grown a o hb q1
          exact absurd ha (readsW_apart hP rfl r3)
        · have e3 := (r5 q).2 a ha
          rw [show (ghostOf s₁.heap tabs).get? a = some o from ghost_ne q1 hb] at e3
          cases e3
    · rw [hr] at r4; cases r4
  · by_cases hb : b ∈ tabs.map (·.2)
    · obtain ⟨ht, rfl, ps, hP⟩ := grown b o hb e
      exact .inr (.inl ⟨ht, rfl, #[], ps, rfl, by rw [Array.empty_append]; exact hP⟩)
    · exact .inl (keep b o hb e)
  · by_cases hb : b ∈ tabs.map (·.2)
    · obtain ⟨_, _, ps, hP⟩ := grown b o hb e
      exact ⟨_, hP⟩
    · exact ⟨o, keep b o hb e⟩

theorem abs_R {M : PySem.Model} {A : Around} {c : Code} {R : Result → Shared → Prop} {s : Shared} (h : ∀ R9, (∀ r s', R r s' → R9 r s') → codeAny M A c R9 s) : codeAny M A c R s := h R (fun _ _ h => h)

set_option maxHeartbeats 4000000 in
theorem row_holds (said : PySem.Challenge.rw_kh0012_01.row.wellSaid = true) : PySem.Challenge.rw_kh0012_01.row.Holds := by
  w_on
  refine' holds_open (q := myView) (loose := lo3) (Xt := fun s => xlAt myView [] s && recOk (RowW.records rw0) s) (XP := XL myView []) (Yf := Hook.obs hook) (Ya := Hook.val hook) (YP := Hook.says hook) (N := 4808) left (Hook.of hook) (Hook.keeps hook)
    (fun s e => xl_of s (Bool.and_eq_true_iff.mp e).1) XL.keeps ?h1 ?h2 ?h3 ?h4 (by rfl) ?h5 ?h6 ?h7 ?hw ?hc
  case h1 => rfl
  case h2 => rfl
  case h3 => rfl
  case h4 => exact fun s e => recFacts_of (Bool.and_eq_true_iff.mp e).2
  case h5 => exact said
  case h6 => decide +kernel
  case h7 => exact ⟨rfl, rfl, rfl, rfl, rfl, by decide +kernel⟩
  case hw => w_witness2
  case hc =>
    clear said
    delta hook
    k_fill
    intro w s₀ s₁ mg mb G Y fa o pm cd doc dV kV ho hd hcd hD hmg hg args vals as hpre hlay hrd hwl hlo
    have KX := km_in_of Y
    have hT8 := km_tabs_of Y
    have X := (Ground.X G).1
    have V := (Ground.X G).2
    refine Ground.open G ?_
    intro T B D TE TW
    try (refine guard_noD D (by decide +kernel) ?_; clear D)
    have hT9 : TabsAt [(215, 213)] s₁.heap := List.forall_mem_cons.mpr ⟨⟨codeHd_of_K (c := 215) (P := 213) KX (by kernel_rfl), hT8 213 (List.mem_cons_self ..)⟩, fun _ h => nomatch h⟩
    have hS9 : (213 : Nat) < s₁.heap.objs.size := Heap.lt_size (hT9 (215, 213) (List.mem_cons_self ..)).2
    try (obtain ⟨_, _, he, B0⟩ := based_of_top T rfl hmg ho hd; have he' : cd = _ := he; subst he'; clear he)
    clear hmg
    wrow_args hpre hlay hrd hwl hlo
    all_goals (
      first | refine callC_kw (enter_call ?_) | refine enter_call ?_
      w_top on
      refine codeAny_mono (R := fun r s' => GoodW _ _ _ _ { s₁ with heap := ghostOf s₁.heap [(215, 213)] } r { s' with gens := #[] } ∧ GrownAll [(215, 213)] s'.heap ∧ AllBare s'.gens) ?_ (fun r s' g => g_conv hT9 (fun _ _ => rfl) g.1 g.2.1 g.2.2)
      refine abs_R ?_
      intro R9 hR9
      w_call any ho hd hcd hD T F
      clear hd
      kn_ghosts F T
      k_drop
      have hAB9 : AllBare s₁.gens := AllBare.of_eq hg
      have hTr9 : TriplesOk (#[] : Array Value).toList := by simp [TriplesOk])
    all_goals try k_fold
    all_goals k_steps
    all_goals (
      refine hR9 _ _ ⟨?good, ⟨GrownAt.of (by assumption) (List.mem_cons_self ..), trivial⟩, by assumption⟩
      case good =>
        dsimp only
        refine goodW_bool (s' := { (_ : Shared) with gens := #[] }) (by assumption) rfl (raisesW_false (by wrow_none_raised)) ?hp (Eq.trans (by assumption) (by assumption))
        case hp => exact post_true _)

theorem law_holds : PySem.Challenge.rw_kh0012_01.Holds := by
  w_on
  o_law
  exact row_holds (by assumption)
end

end Mine

theorem PySem.Challenge.cw_kh0012_01_holds : PySem.Challenge.rw_kh0012_01.Holds := by
  exact Mine.law_holds
