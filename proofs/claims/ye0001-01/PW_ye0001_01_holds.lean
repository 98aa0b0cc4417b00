import PyProof.Rows.All
import Wide.All
import OpenK.AllK
import Wide.FinOn
import Lean
import PySem.Challenge.RW_ye0001_01
open PySem PySem.W PySem.Spec PySem.Calls PyProof.Rows
set_option Elab.async false
set_option maxRecDepth 100000
set_option maxHeartbeats 8000000
namespace Mine
open PySem.Challenge in
def topSt (i : Nat) : Option Stmt := pw_ye0001_01.main.body[i]?
def clsSt (i j : Nat) : Option Stmt := match topSt i with
  | some (.ClassDef _ _ _ b _ _ _ _ _ _ _) => b[j]?
  | _ => none
def stArgs : Option Stmt → Arguments
  | some (.FunctionDef _ a _ _ _ _ _ _ _ _) => a
  | _ => { posonlyargs := [], args := [], vararg := none, kwonlyargs := [], kw_defaults := [], kwarg := none, defaults := [] }
def stBody : Option Stmt → List Stmt
  | some (.FunctionDef _ _ b _ _ _ _ _ _ _) => b
  | _ => []
def stScope : Option Stmt → Scope
  | some (.FunctionDef _ _ _ _ _ _ s _ _ _) => s
  | _ => { kind := .function, names := [], isGenerator := false, isCoroutine := false }
/-- a value that is reckoned while the definition is read -/
structure Rk {α : Type} (x : α) : Type where
  mk ::
noncomputable def heapK : Params → Frag := fun P => (fun (a0 : Arguments) (_ : Rk a0) (b1 : List Stmt) (_ : Rk b1) (c2 : Scope) (_ : Rk c2) (a3 : Arguments) (_ : Rk a3) (b4 : List Stmt) (_ : Rk b4) (c5 : Scope) (_ : Rk c5) (a6 : Arguments) (_ : Rk a6) (b7 : List Stmt) (_ : Rk b7) (c8 : Scope) (_ : Rk c8) (a9 : Arguments) (_ : Rk a9) (b10 : List Stmt) (_ : Rk b10) (c11 : Scope) (_ : Rk c11) (a12 : Arguments) (_ : Rk a12) (b13 : List Stmt) (_ : Rk b13) (c14 : Scope) (_ : Rk c14) (a15 : Arguments) (_ : Rk a15) (b16 : List Stmt) (_ : Rk b16) (c17 : Scope) (_ : Rk c17) (a18 : Arguments) (_ : Rk a18) (b19 : List Stmt) (_ : Rk b19) (c20 : Scope) (_ : Rk c20) (a21 : Arguments) (_ : Rk a21) (b22 : List Stmt) (_ : Rk b22) (c23 : Scope) (_ : Rk c23) (a24 : Arguments) (_ : Rk a24) (b25 : List Stmt) (_ : Rk b25) (c26 : Scope) (_ : Rk c26) (a27 : Arguments) (_ : Rk a27) (b28 : List Stmt) (_ : Rk b28) (c29 : Scope) (_ : Rk c29) (a30 : Arguments) (_ : Rk a30) (b31 : List Stmt) (_ : Rk b31) (c32 : Scope) (_ : Rk c32) (a33 : Arguments) (_ : Rk a33) (b34 : List Stmt) (_ : Rk b34) (c35 : Scope) (_ : Rk c35) (a36 : Arguments) (_ : Rk a36) (b37 : List Stmt) (_ : Rk b37) (c38 : Scope) (_ : Rk c38) (a39 : Arguments) (_ : Rk a39) (b40 : List Stmt) (_ : Rk b40) (c41 : Scope) (_ : Rk c41) (a42 : Arguments) (_ : Rk a42) (b43 : List Stmt) (_ : Rk b43) (c44 : Scope) (_ : Rk c44) (a45 : Arguments) (_ : Rk a45) (b46 : List Stmt) (_ : Rk b46) (c47 : Scope) (_ : Rk c47) (a48 : Arguments) (_ : Rk a48) (b49 : List Stmt) (_ : Rk b49) (c50 : Scope) (_ : Rk c50) (a51 : Arguments) (_ : Rk a51) (b52 : List Stmt) (_ : Rk b52) (c53 : Scope) (_ : Rk c53) (a54 : Arguments) (_ : Rk a54) (b55 : List Stmt) (_ : Rk b55) (c56 : Scope) (_ : Rk c56) (a57 : Arguments) (_ : Rk a57) (b58 : List Stmt) (_ : Rk b58) (c59 : Scope) (_ : Rk c59) (a60 : Arguments) (_ : Rk a60) (b61 : List Stmt) (_ : Rk b61) (c62 : Scope) (_ : Rk c62) (a63 : Arguments) (_ : Rk a63) (b64 : List Stmt) (_ : Rk b64) (c65 : Scope) (_ : Rk c65) (a66 : Arguments) (_ : Rk a66) (b67 : List Stmt) (_ : Rk b67) (c68 : Scope) (_ : Rk c68) (a69 : Arguments) (_ : Rk a69) (b70 : List Stmt) (_ : Rk b70) (c71 : Scope) (_ : Rk c71) (a72 : Arguments) (_ : Rk a72) (b73 : List Stmt) (_ : Rk b73) (c74 : Scope) (_ : Rk c74) (a75 : Arguments) (_ : Rk a75) (b76 : List Stmt) (_ : Rk b76) (c77 : Scope) (_ : Rk c77) (a78 : Arguments) (_ : Rk a78) (b79 : List Stmt) (_ : Rk b79) (c80 : Scope) (_ : Rk c80) (a81 : Arguments) (_ : Rk a81) (b82 : List Stmt) (_ : Rk b82) (c83 : Scope) (_ : Rk c83) (a84 : Arguments) (_ : Rk a84) (b85 : List Stmt) (_ : Rk b85) (c86 : Scope) (_ : Rk c86) (a87 : Arguments) (_ : Rk a87) (b88 : List Stmt) (_ : Rk b88) (c89 : Scope) (_ : Rk c89) (a90 : Arguments) (_ : Rk a90) (b91 : List Stmt) (_ : Rk b91) (c92 : Scope) (_ : Rk c92) (a93 : Arguments) (_ : Rk a93) (b94 : List Stmt) (_ : Rk b94) (c95 : Scope) (_ : Rk c95) (a96 : Arguments) (_ : Rk a96) (b97 : List Stmt) (_ : Rk b97) (c98 : Scope) (_ : Rk c98) (a99 : Arguments) (_ : Rk a99) (b100 : List Stmt) (_ : Rk b100) (c101 : Scope) (_ : Rk c101) (a102 : Arguments) (_ : Rk a102) (b103 : List Stmt) (_ : Rk b103) (c104 : Scope) (_ : Rk c104) => (
  (nat_lit 2, Obj.mk Value.none none (Data.dict #[]) #[]) ::
  (nat_lit 3, Obj.mk (Value.type "dict") none (Data.dict #[DictEntry.mk (PyData.keyHash P (Str.ofString "__name__")) (Value.str (Str.ofString "__name__") 165) (Value.str (Str.ofString "law_ye0001_01") 448), DictEntry.mk (PyData.keyHash P (Str.ofString "__doc__")) (Value.str (Str.ofString "__doc__") 166) Value.none, DictEntry.mk (PyData.keyHash P (Str.ofString "__package__")) (Value.str (Str.ofString "__package__") 167) Value.none, DictEntry.mk (PyData.keyHash P (Str.ofString "__loader__")) (Value.str (Str.ofString "__loader__") 168) (Value.builtin "__main__.__loader__#opaque"), DictEntry.mk (PyData.keyHash P (Str.ofString "__spec__")) (Value.str (Str.ofString "__spec__") 169) Value.none, DictEntry.mk (PyData.keyHash P (Str.ofString "__annotations__")) (Value.str (Str.ofString "__annotations__") 170) (Value.ref 6), DictEntry.mk (PyData.keyHash P (Str.ofString "__builtins__")) (Value.str (Str.ofString "__builtins__") 171) (Value.ref 4), DictEntry.mk (PyData.keyHash P (Str.ofString "__file__")) (Value.str (Str.ofString "__file__") 173) (Value.str (Str.ofString "/claim/cut.py") 172), DictEntry.mk (PyData.keyHash P (Str.ofString "__cached__")) (Value.str (Str.ofString "__cached__") 174) Value.none, DictEntry.mk (PyData.keyHash P (Str.ofString "_wall")) (Value.str (Str.ofString "_wall") 193) (Value.ref 21), DictEntry.mk (PyData.keyHash P (Str.ofString "GenericPolynomialRing")) (Value.str (Str.ofString "GenericPolynomialRing") 248) (Value.ref 59), DictEntry.mk (PyData.keyHash P (Str.ofString "GenericPolynomial")) (Value.str (Str.ofString "GenericPolynomial") 447) (Value.ref 222), DictEntry.mk (PyData.keyHash P (Str.ofString "_law_at")) (Value.str (Str.ofString "_law_at") 457) (Value.ref 233), DictEntry.mk (PyData.keyHash P (Str.ofString "_law_table")) (Value.str (Str.ofString "_law_table") 469) (Value.ref 240), DictEntry.mk (PyData.keyHash P (Str.ofString "_law_minor")) (Value.str (Str.ofString "_law_minor") 475) (Value.ref 245), DictEntry.mk (PyData.keyHash P (Str.ofString "_law_det")) (Value.str (Str.ofString "_law_det") 484) (Value.ref 252), DictEntry.mk (PyData.keyHash P (Str.ofString "_law_turned")) (Value.str (Str.ofString "_law_turned") 490) (Value.ref 257), DictEntry.mk (PyData.keyHash P (Str.ofString "_law_inverse")) (Value.str (Str.ofString "_law_inverse") 503) (Value.ref 264), DictEntry.mk (PyData.keyHash P (Str.ofString "law")) (Value.str (Str.ofString "law") 509) (Value.ref 269)] 19) #[]) ::
  (nat_lit 15, Obj.mk (Value.type "tuple") none (Data.seq #[]) #[]) ::
  (nat_lit 17, Obj.mk (Value.type "tuple") none (Data.seq #[Value.str (Str.ofString "k") 190]) #[]) ::
  (nat_lit 18, Obj.mk (Value.type "tuple") none (Data.seq #[]) #[]) ::
  (nat_lit 20, Obj.mk (Value.type "code") none (Data.fields #[Value.str (Str.ofString "_wall") 187, Value.str (Str.ofString "_wall") 188, Value.str (Str.ofString "/claim/cut.py") 189, Value.int 1 0, Value.int 1 0, Value.int 0 0, Value.int 0 0, Value.int 3 0, Value.ref 15, Value.bool Bool.true, Value.int 181 0, Value.ref 16, Value.none, Value.ref 17, Value.ref 18, Value.ref 19, Value.int 191 0, Value.int 1 0, Value.str (Str.ofString "/claim/cut.py") 192]) #[]) ::
  (nat_lit 21, Obj.mk (Value.type "function") none (Data.func (PySem.FuncData.mk (Str.ofString "_wall") (Str.ofString "_wall") a0 (PySem.FuncBody.stmts b1) c2 3 [] Value.none Value.none Value.none (Value.str (Str.ofString "__main__") 164) none (Value.ref 20) Value.none 0)) #[]) ::
  (nat_lit 29, Obj.mk (Value.type "tuple") none (Data.seq #[]) #[]) ::
  (nat_lit 31, Obj.mk (Value.type "tuple") none (Data.seq #[Value.str (Str.ofString "self") 211, Value.str (Str.ofString "q") 212, Value.str (Str.ofString "n") 213]) #[]) ::
  (nat_lit 32, Obj.mk (Value.type "tuple") none (Data.seq #[]) #[]) ::
  (nat_lit 34, Obj.mk (Value.type "code") none (Data.fields #[Value.str (Str.ofString "__init__") 208, Value.str (Str.ofString "GenericPolynomialRing.__init__") 209, Value.str (Str.ofString "/claim/cut.py") 210, Value.int 7 0, Value.int 3 0, Value.int 0 0, Value.int 0 0, Value.int 3 0, Value.ref 29, Value.bool Bool.true, Value.int 181 0, Value.ref 30, Value.none, Value.ref 31, Value.ref 32, Value.ref 33, Value.int 214 0, Value.int 7 0, Value.str (Str.ofString "/claim/cut.py") 215]) #[]) ::
  (nat_lit 35, Obj.mk (Value.type "function") none (Data.func (PySem.FuncData.mk (Str.ofString "__init__") (Str.ofString "GenericPolynomialRing.__init__") a3 (PySem.FuncBody.stmts b4) c5 3 [] Value.none Value.none Value.none (Value.str (Str.ofString "kyber_py.polynomials.polynomials_generic") 194) none (Value.ref 34) Value.none 0)) #[]) ::
  (nat_lit 36, Obj.mk (Value.type "tuple") none (Data.seq #[]) #[]) ::
  (nat_lit 38, Obj.mk (Value.type "tuple") none (Data.seq #[Value.str (Str.ofString "self") 220]) #[]) ::
  (nat_lit 39, Obj.mk (Value.type "tuple") none (Data.seq #[]) #[]) ::
  (nat_lit 41, Obj.mk (Value.type "code") none (Data.fields #[Value.str (Str.ofString "zero") 217, Value.str (Str.ofString "GenericPolynomialRing.zero") 218, Value.str (Str.ofString "/claim/cut.py") 219, Value.int 11 0, Value.int 1 0, Value.int 0 0, Value.int 0 0, Value.int 3 0, Value.ref 36, Value.bool Bool.true, Value.int 181 0, Value.ref 37, Value.none, Value.ref 38, Value.ref 39, Value.ref 40, Value.int 221 0, Value.int 11 0, Value.str (Str.ofString "/claim/cut.py") 222]) #[]) ::
  (nat_lit 42, Obj.mk (Value.type "function") none (Data.func (PySem.FuncData.mk (Str.ofString "zero") (Str.ofString "GenericPolynomialRing.zero") a6 (PySem.FuncBody.stmts b7) c8 3 [] Value.none Value.none Value.none (Value.str (Str.ofString "kyber_py.polynomials.polynomials_generic") 194) none (Value.ref 41) Value.none 0)) #[]) ::
  (nat_lit 43, Obj.mk (Value.type "tuple") none (Data.seq #[]) #[]) ::
  (nat_lit 45, Obj.mk (Value.type "tuple") none (Data.seq #[Value.str (Str.ofString "self") 227]) #[]) ::
  (nat_lit 46, Obj.mk (Value.type "tuple") none (Data.seq #[]) #[]) ::
  (nat_lit 48, Obj.mk (Value.type "code") none (Data.fields #[Value.str (Str.ofString "gen") 224, Value.str (Str.ofString "GenericPolynomialRing.gen") 225, Value.str (Str.ofString "/claim/cut.py") 226, Value.int 14 0, Value.int 1 0, Value.int 0 0, Value.int 0 0, Value.int 3 0, Value.ref 43, Value.bool Bool.true, Value.int 181 0, Value.ref 44, Value.none, Value.ref 45, Value.ref 46, Value.ref 47, Value.int 228 0, Value.int 14 0, Value.str (Str.ofString "/claim/cut.py") 229]) #[]) ::
  (nat_lit 49, Obj.mk (Value.type "function") none (Data.func (PySem.FuncData.mk (Str.ofString "gen") (Str.ofString "GenericPolynomialRing.gen") a9 (PySem.FuncBody.stmts b10) c11 3 [] Value.none Value.none Value.none (Value.str (Str.ofString "kyber_py.polynomials.polynomials_generic") 194) none (Value.ref 48) Value.none 0)) #[]) ::
  (nat_lit 50, Obj.mk (Value.type "tuple") none (Data.seq #[]) #[]) ::
  (nat_lit 52, Obj.mk (Value.type "tuple") none (Data.seq #[Value.str (Str.ofString "self") 234, Value.str (Str.ofString "coefficients") 235]) #[]) ::
  (nat_lit 53, Obj.mk (Value.type "tuple") none (Data.seq #[]) #[]) ::
  (nat_lit 55, Obj.mk (Value.type "code") none (Data.fields #[Value.str (Str.ofString "__call__") 231, Value.str (Str.ofString "GenericPolynomialRing.__call__") 232, Value.str (Str.ofString "/claim/cut.py") 233, Value.int 17 0, Value.int 2 0, Value.int 0 0, Value.int 0 0, Value.int 3 0, Value.ref 50, Value.bool Bool.true, Value.int 181 0, Value.ref 51, Value.none, Value.ref 52, Value.ref 53, Value.ref 54, Value.int 236 0, Value.int 17 0, Value.str (Str.ofString "/claim/cut.py") 237]) #[]) ::
  (nat_lit 56, Obj.mk (Value.type "function") none (Data.func (PySem.FuncData.mk (Str.ofString "__call__") (Str.ofString "GenericPolynomialRing.__call__") a12 (PySem.FuncBody.stmts b13) c14 3 [] Value.none Value.none Value.none (Value.str (Str.ofString "kyber_py.polynomials.polynomials_generic") 194) none (Value.ref 55) Value.none 0)) #[]) ::
  (nat_lit 57, Obj.mk (Value.type "tuple") none (Data.seq #[Value.str (Str.ofString "n") 239, Value.str (Str.ofString "q") 240]) #[]) ::
  (nat_lit 58, Obj.mk (Value.type "dict") none (Data.dict #[DictEntry.mk (PyData.keyHash P (Str.ofString "__module__")) (Value.str (Str.ofString "__module__") 203) (Value.str (Str.ofString "kyber_py.polynomials.polynomials_generic") 194), DictEntry.mk (PyData.keyHash P (Str.ofString "__firstlineno__")) (Value.str (Str.ofString "__firstlineno__") 207) (Value.int 5 206), DictEntry.mk (PyData.keyHash P (Str.ofString "__init__")) (Value.str (Str.ofString "__init__") 216) (Value.ref 35), DictEntry.mk (PyData.keyHash P (Str.ofString "zero")) (Value.str (Str.ofString "zero") 223) (Value.ref 42), DictEntry.mk (PyData.keyHash P (Str.ofString "gen")) (Value.str (Str.ofString "gen") 230) (Value.ref 49), DictEntry.mk (PyData.keyHash P (Str.ofString "__call__")) (Value.str (Str.ofString "__call__") 238) (Value.ref 56), DictEntry.mk (PyData.keyHash P (Str.ofString "__static_attributes__")) (Value.str (Str.ofString "__static_attributes__") 241) (Value.ref 57), DictEntry.mk (PyData.keyHash P (Str.ofString "__dict__")) (Value.str (Str.ofString "__dict__") 243) (Value.ref 60), DictEntry.mk (PyData.keyHash P (Str.ofString "__weakref__")) (Value.str (Str.ofString "__weakref__") 245) (Value.ref 61), DictEntry.mk (PyData.keyHash P (Str.ofString "__doc__")) (Value.str (Str.ofString "__doc__") 246) Value.none] 4) #[]) ::
  (nat_lit 59, Obj.mk (Value.type "type") none (Data.cls (PySem.ClassData.mk (Str.ofString "GenericPolynomialRing") [Value.type "object"] [Value.ref 59, Value.type "object"] 58 (Str.ofString "GenericPolynomialRing") Bool.true [] [] Bool.false none Bool.false)) #[none, none, Option.some (Value.str (Str.ofString "GenericPolynomialRing") 196), Option.some (Value.str (Str.ofString "GenericPolynomialRing") 204), Option.some (Value.builtin "object.__new__"), Option.some (Value.bool Bool.true)]) ::
  (nat_lit 60, Obj.mk (Value.type "getset_descriptor") none (Data.fields #[Value.str (Str.ofString "__dict__") 242, Value.ref 59, Value.builtin "function.__dict__", Value.builtin "function.__dict__#set"]) #[]) ::
  (nat_lit 61, Obj.mk (Value.type "getset_descriptor") none (Data.fields #[Value.str (Str.ofString "__weakref__") 244, Value.ref 59, Value.builtin "ExceptionGroup.__weakref__", Value.none]) #[]) ::
  (nat_lit 71, Obj.mk (Value.type "tuple") none (Data.seq #[]) #[]) ::
  (nat_lit 73, Obj.mk (Value.type "tuple") none (Data.seq #[Value.str (Str.ofString "self") 264, Value.str (Str.ofString "parent") 265, Value.str (Str.ofString "coefficients") 266]) #[]) ::
  (nat_lit 74, Obj.mk (Value.type "tuple") none (Data.seq #[]) #[]) ::
  (nat_lit 76, Obj.mk (Value.type "code") none (Data.fields #[Value.str (Str.ofString "__init__") 261, Value.str (Str.ofString "GenericPolynomial.__init__") 262, Value.str (Str.ofString "/claim/cut.py") 263, Value.int 25 0, Value.int 3 0, Value.int 0 0, Value.int 0 0, Value.int 3 0, Value.ref 71, Value.bool Bool.true, Value.int 181 0, Value.ref 72, Value.none, Value.ref 73, Value.ref 74, Value.ref 75, Value.int 267 0, Value.int 25 0, Value.str (Str.ofString "/claim/cut.py") 268]) #[]) ::
  (nat_lit 77, Obj.mk (Value.type "function") none (Data.func (PySem.FuncData.mk (Str.ofString "__init__") (Str.ofString "GenericPolynomial.__init__") a15 (PySem.FuncBody.stmts b16) c17 3 [] Value.none Value.none Value.none (Value.str (Str.ofString "kyber_py.polynomials.polynomials_generic") 194) none (Value.ref 76) Value.none 0)) #[]) ::
  (nat_lit 78, Obj.mk (Value.type "tuple") none (Data.seq #[]) #[]) ::
  (nat_lit 80, Obj.mk (Value.type "tuple") none (Data.seq #[Value.str (Str.ofString "self") 273]) #[]) ::
  (nat_lit 81, Obj.mk (Value.type "tuple") none (Data.seq #[]) #[]) ::
  (nat_lit 83, Obj.mk (Value.type "code") none (Data.fields #[Value.str (Str.ofString "is_zero") 270, Value.str (Str.ofString "GenericPolynomial.is_zero") 271, Value.str (Str.ofString "/claim/cut.py") 272, Value.int 29 0, Value.int 1 0, Value.int 0 0, Value.int 0 0, Value.int 3 0, Value.ref 78, Value.bool Bool.true, Value.int 181 0, Value.ref 79, Value.none, Value.ref 80, Value.ref 81, Value.ref 82, Value.int 274 0, Value.int 29 0, Value.str (Str.ofString "/claim/cut.py") 275]) #[]) ::
  (nat_lit 84, Obj.mk (Value.type "function") none (Data.func (PySem.FuncData.mk (Str.ofString "is_zero") (Str.ofString "GenericPolynomial.is_zero") a18 (PySem.FuncBody.stmts b19) c20 3 [] Value.none Value.none Value.none (Value.str (Str.ofString "kyber_py.polynomials.polynomials_generic") 194) none (Value.ref 83) Value.none 0)) #[]) ::
  (nat_lit 85, Obj.mk (Value.type "tuple") none (Data.seq #[]) #[]) ::
  (nat_lit 87, Obj.mk (Value.type "tuple") none (Data.seq #[Value.str (Str.ofString "self") 280]) #[]) ::
  (nat_lit 88, Obj.mk (Value.type "tuple") none (Data.seq #[]) #[]) ::
  (nat_lit 90, Obj.mk (Value.type "code") none (Data.fields #[Value.str (Str.ofString "is_constant") 277, Value.str (Str.ofString "GenericPolynomial.is_constant") 278, Value.str (Str.ofString "/claim/cut.py") 279, Value.int 32 0, Value.int 1 0, Value.int 0 0, Value.int 0 0, Value.int 3 0, Value.ref 85, Value.bool Bool.true, Value.int 181 0, Value.ref 86, Value.none, Value.ref 87, Value.ref 88, Value.ref 89, Value.int 281 0, Value.int 32 0, Value.str (Str.ofString "/claim/cut.py") 282]) #[]) ::
  (nat_lit 91, Obj.mk (Value.type "function") none (Data.func (PySem.FuncData.mk (Str.ofString "is_constant") (Str.ofString "GenericPolynomial.is_constant") a21 (PySem.FuncBody.stmts b22) c23 3 [] Value.none Value.none Value.none (Value.str (Str.ofString "kyber_py.polynomials.polynomials_generic") 194) none (Value.ref 90) Value.none 0)) #[]) ::
  (nat_lit 92, Obj.mk (Value.type "tuple") none (Data.seq #[]) #[]) ::
  (nat_lit 95, Obj.mk (Value.type "code") none (Data.fields #[Value.str (Str.ofString "_parse_coefficients") 284, Value.str (Str.ofString "GenericPolynomial._parse_coefficients") 285, Value.str (Str.ofString "/claim/cut.py") 286, Value.int 35 0, Value.int 2 0, Value.int 0 0, Value.int 0 0, Value.int 3 0, Value.ref 92, Value.bool Bool.true, Value.int 181 0, Value.ref 93, Value.none, Value.none, Value.none, Value.ref 94, Value.int 287 0, Value.int 35 0, Value.str (Str.ofString "/claim/cut.py") 288]) #[]) ::
  (nat_lit 96, Obj.mk (Value.type "function") none (Data.func (PySem.FuncData.mk (Str.ofString "_parse_coefficients") (Str.ofString "GenericPolynomial._parse_coefficients") a24 (PySem.FuncBody.stmts b25) c26 3 [] Value.none Value.none Value.none (Value.str (Str.ofString "kyber_py.polynomials.polynomials_generic") 194) none (Value.ref 95) Value.none 0)) #[]) ::
  (nat_lit 97, Obj.mk (Value.type "tuple") none (Data.seq #[]) #[]) ::
  (nat_lit 99, Obj.mk (Value.type "tuple") none (Data.seq #[Value.str (Str.ofString "self") 293]) #[]) ::
  (nat_lit 100, Obj.mk (Value.type "tuple") none (Data.seq #[]) #[]) ::
  (nat_lit 102, Obj.mk (Value.type "code") none (Data.fields #[Value.str (Str.ofString "reduce_coefficients") 290, Value.str (Str.ofString "GenericPolynomial.reduce_coefficients") 291, Value.str (Str.ofString "/claim/cut.py") 292, Value.int 43 0, Value.int 1 0, Value.int 0 0, Value.int 0 0, Value.int 3 0, Value.ref 97, Value.bool Bool.true, Value.int 181 0, Value.ref 98, Value.none, Value.ref 99, Value.ref 100, Value.ref 101, Value.int 294 0, Value.int 43 0, Value.str (Str.ofString "/claim/cut.py") 295]) #[]) ::
  (nat_lit 103, Obj.mk (Value.type "function") none (Data.func (PySem.FuncData.mk (Str.ofString "reduce_coefficients") (Str.ofString "GenericPolynomial.reduce_coefficients") a27 (PySem.FuncBody.stmts b28) c29 3 [] Value.none Value.none Value.none (Value.str (Str.ofString "kyber_py.polynomials.polynomials_generic") 194) none (Value.ref 102) Value.none 0)) #[]) ::
  (nat_lit 104, Obj.mk (Value.type "tuple") none (Data.seq #[]) #[]) ::
  (nat_lit 106, Obj.mk (Value.type "tuple") none (Data.seq #[Value.str (Str.ofString "self") 300, Value.str (Str.ofString "x") 301, Value.str (Str.ofString "y") 302]) #[]) ::
  (nat_lit 107, Obj.mk (Value.type "tuple") none (Data.seq #[]) #[]) ::
  (nat_lit 109, Obj.mk (Value.type "code") none (Data.fields #[Value.str (Str.ofString "_add_mod_q") 297, Value.str (Str.ofString "GenericPolynomial._add_mod_q") 298, Value.str (Str.ofString "/claim/cut.py") 299, Value.int 46 0, Value.int 3 0, Value.int 0 0, Value.int 0 0, Value.int 3 0, Value.ref 104, Value.bool Bool.true, Value.int 181 0, Value.ref 105, Value.none, Value.ref 106, Value.ref 107, Value.ref 108, Value.int 303 0, Value.int 46 0, Value.str (Str.ofString "/claim/cut.py") 304]) #[]) ::
  (nat_lit 110, Obj.mk (Value.type "function") none (Data.func (PySem.FuncData.mk (Str.ofString "_add_mod_q") (Str.ofString "GenericPolynomial._add_mod_q") a30 (PySem.FuncBody.stmts b31) c32 3 [] Value.none Value.none Value.none (Value.str (Str.ofString "kyber_py.polynomials.polynomials_generic") 194) none (Value.ref 109) Value.none 0)) #[]) ::
  (nat_lit 111, Obj.mk (Value.type "tuple") none (Data.seq #[]) #[]) ::
  (nat_lit 113, Obj.mk (Value.type "tuple") none (Data.seq #[Value.str (Str.ofString "self") 309, Value.str (Str.ofString "x") 310, Value.str (Str.ofString "y") 311]) #[]) ::
  (nat_lit 114, Obj.mk (Value.type "tuple") none (Data.seq #[]) #[]) ::
  (nat_lit 116, Obj.mk (Value.type "code") none (Data.fields #[Value.str (Str.ofString "_sub_mod_q") 306, Value.str (Str.ofString "GenericPolynomial._sub_mod_q") 307, Value.str (Str.ofString "/claim/cut.py") 308, Value.int 49 0, Value.int 3 0, Value.int 0 0, Value.int 0 0, Value.int 3 0, Value.ref 111, Value.bool Bool.true, Value.int 181 0, Value.ref 112, Value.none, Value.ref 113, Value.ref 114, Value.ref 115, Value.int 312 0, Value.int 49 0, Value.str (Str.ofString "/claim/cut.py") 313]) #[]) ::
  (nat_lit 117, Obj.mk (Value.type "function") none (Data.func (PySem.FuncData.mk (Str.ofString "_sub_mod_q") (Str.ofString "GenericPolynomial._sub_mod_q") a33 (PySem.FuncBody.stmts b34) c35 3 [] Value.none Value.none Value.none (Value.str (Str.ofString "kyber_py.polynomials.polynomials_generic") 194) none (Value.ref 116) Value.none 0)) #[]) ::
  (nat_lit 118, Obj.mk (Value.type "tuple") none (Data.seq #[]) #[]) ::
  (nat_lit 121, Obj.mk (Value.type "code") none (Data.fields #[Value.str (Str.ofString "_schoolbook_multiplication") 315, Value.str (Str.ofString "GenericPolynomial._schoolbook_multiplication") 316, Value.str (Str.ofString "/claim/cut.py") 317, Value.int 52 0, Value.int 2 0, Value.int 0 0, Value.int 0 0, Value.int 3 0, Value.ref 118, Value.bool Bool.true, Value.int 181 0, Value.ref 119, Value.none, Value.none, Value.none, Value.ref 120, Value.int 318 0, Value.int 52 0, Value.str (Str.ofString "/claim/cut.py") 319]) #[]) ::
  (nat_lit 122, Obj.mk (Value.type "function") none (Data.func (PySem.FuncData.mk (Str.ofString "_schoolbook_multiplication") (Str.ofString "GenericPolynomial._schoolbook_multiplication") a36 (PySem.FuncBody.stmts b37) c38 3 [] Value.none Value.none Value.none (Value.str (Str.ofString "kyber_py.polynomials.polynomials_generic") 194) none (Value.ref 121) Value.none 0)) #[]) ::
  (nat_lit 123, Obj.mk (Value.type "tuple") none (Data.seq #[]) #[]) ::
  (nat_lit 126, Obj.mk (Value.type "code") none (Data.fields #[Value.str (Str.ofString "__neg__") 321, Value.str (Str.ofString "GenericPolynomial.__neg__") 322, Value.str (Str.ofString "/claim/cut.py") 323, Value.int 65 0, Value.int 1 0, Value.int 0 0, Value.int 0 0, Value.int 3 0, Value.ref 123, Value.bool Bool.true, Value.int 181 0, Value.ref 124, Value.none, Value.none, Value.none, Value.ref 125, Value.int 324 0, Value.int 65 0, Value.str (Str.ofString "/claim/cut.py") 325]) #[]) ::
  (nat_lit 127, Obj.mk (Value.type "function") none (Data.func (PySem.FuncData.mk (Str.ofString "__neg__") (Str.ofString "GenericPolynomial.__neg__") a39 (PySem.FuncBody.stmts b40) c41 3 [] Value.none Value.none Value.none (Value.str (Str.ofString "kyber_py.polynomials.polynomials_generic") 194) none (Value.ref 126) Value.none 0)) #[]) ::
  (nat_lit 128, Obj.mk (Value.type "tuple") none (Data.seq #[]) #[]) ::
  (nat_lit 131, Obj.mk (Value.type "code") none (Data.fields #[Value.str (Str.ofString "_add_") 327, Value.str (Str.ofString "GenericPolynomial._add_") 328, Value.str (Str.ofString "/claim/cut.py") 329, Value.int 69 0, Value.int 2 0, Value.int 0 0, Value.int 0 0, Value.int 3 0, Value.ref 128, Value.bool Bool.true, Value.int 181 0, Value.ref 129, Value.none, Value.none, Value.none, Value.ref 130, Value.int 330 0, Value.int 69 0, Value.str (Str.ofString "/claim/cut.py") 331]) #[]) ::
  (nat_lit 132, Obj.mk (Value.type "function") none (Data.func (PySem.FuncData.mk (Str.ofString "_add_") (Str.ofString "GenericPolynomial._add_") a42 (PySem.FuncBody.stmts b43) c44 3 [] Value.none Value.none Value.none (Value.str (Str.ofString "kyber_py.polynomials.polynomials_generic") 194) none (Value.ref 131) Value.none 0)) #[]) ::
  (nat_lit 133, Obj.mk (Value.type "tuple") none (Data.seq #[]) #[]) ::
  (nat_lit 135, Obj.mk (Value.type "tuple") none (Data.seq #[Value.str (Str.ofString "self") 336, Value.str (Str.ofString "other") 337, Value.str (Str.ofString "new_coeffs") 338]) #[]) ::
  (nat_lit 136, Obj.mk (Value.type "tuple") none (Data.seq #[]) #[]) ::
  (nat_lit 138, Obj.mk (Value.type "code") none (Data.fields #[Value.str (Str.ofString "__add__") 333, Value.str (Str.ofString "GenericPolynomial.__add__") 334, Value.str (Str.ofString "/claim/cut.py") 335, Value.int 79 0, Value.int 2 0, Value.int 0 0, Value.int 0 0, Value.int 3 0, Value.ref 133, Value.bool Bool.true, Value.int 181 0, Value.ref 134, Value.none, Value.ref 135, Value.ref 136, Value.ref 137, Value.int 339 0, Value.int 79 0, Value.str (Str.ofString "/claim/cut.py") 340]) #[]) ::
  (nat_lit 139, Obj.mk (Value.type "function") none (Data.func (PySem.FuncData.mk (Str.ofString "__add__") (Str.ofString "GenericPolynomial.__add__") a45 (PySem.FuncBody.stmts b46) c47 3 [] Value.none Value.none Value.none (Value.str (Str.ofString "kyber_py.polynomials.polynomials_generic") 194) none (Value.ref 138) Value.none 0)) #[]) ::
  (nat_lit 140, Obj.mk (Value.type "tuple") none (Data.seq #[]) #[]) ::
  (nat_lit 142, Obj.mk (Value.type "tuple") none (Data.seq #[Value.str (Str.ofString "self") 345, Value.str (Str.ofString "other") 346]) #[]) ::
  (nat_lit 143, Obj.mk (Value.type "tuple") none (Data.seq #[]) #[]) ::
  (nat_lit 145, Obj.mk (Value.type "code") none (Data.fields #[Value.str (Str.ofString "__radd__") 342, Value.str (Str.ofString "GenericPolynomial.__radd__") 343, Value.str (Str.ofString "/claim/cut.py") 344, Value.int 83 0, Value.int 2 0, Value.int 0 0, Value.int 0 0, Value.int 3 0, Value.ref 140, Value.bool Bool.true, Value.int 181 0, Value.ref 141, Value.none, Value.ref 142, Value.ref 143, Value.ref 144, Value.int 347 0, Value.int 83 0, Value.str (Str.ofString "/claim/cut.py") 348]) #[]) ::
  (nat_lit 146, Obj.mk (Value.type "function") none (Data.func (PySem.FuncData.mk (Str.ofString "__radd__") (Str.ofString "GenericPolynomial.__radd__") a48 (PySem.FuncBody.stmts b49) c50 3 [] Value.none Value.none Value.none (Value.str (Str.ofString "kyber_py.polynomials.polynomials_generic") 194) none (Value.ref 145) Value.none 0)) #[]) ::
  (nat_lit 147, Obj.mk (Value.type "tuple") none (Data.seq #[]) #[]) ::
  (nat_lit 149, Obj.mk (Value.type "tuple") none (Data.seq #[Value.str (Str.ofString "self") 353, Value.str (Str.ofString "other") 354]) #[]) ::
  (nat_lit 150, Obj.mk (Value.type "tuple") none (Data.seq #[]) #[]) ::
  (nat_lit 152, Obj.mk (Value.type "code") none (Data.fields #[Value.str (Str.ofString "__iadd__") 350, Value.str (Str.ofString "GenericPolynomial.__iadd__") 351, Value.str (Str.ofString "/claim/cut.py") 352, Value.int 86 0, Value.int 2 0, Value.int 0 0, Value.int 0 0, Value.int 3 0, Value.ref 147, Value.bool Bool.true, Value.int 181 0, Value.ref 148, Value.none, Value.ref 149, Value.ref 150, Value.ref 151, Value.int 355 0, Value.int 86 0, Value.str (Str.ofString "/claim/cut.py") 356]) #[]) ::
  (nat_lit 153, Obj.mk (Value.type "function") none (Data.func (PySem.FuncData.mk (Str.ofString "__iadd__") (Str.ofString "GenericPolynomial.__iadd__") a51 (PySem.FuncBody.stmts b52) c53 3 [] Value.none Value.none Value.none (Value.str (Str.ofString "kyber_py.polynomials.polynomials_generic") 194) none (Value.ref 152) Value.none 0)) #[]) ::
  (nat_lit 154, Obj.mk (Value.type "tuple") none (Data.seq #[]) #[]) ::
  (nat_lit 157, Obj.mk (Value.type "code") none (Data.fields #[Value.str (Str.ofString "_sub_") 358, Value.str (Str.ofString "GenericPolynomial._sub_") 359, Value.str (Str.ofString "/claim/cut.py") 360, Value.int 90 0, Value.int 2 0, Value.int 0 0, Value.int 0 0, Value.int 3 0, Value.ref 154, Value.bool Bool.true, Value.int 181 0, Value.ref 155, Value.none, Value.none, Value.none, Value.ref 156, Value.int 361 0, Value.int 90 0, Value.str (Str.ofString "/claim/cut.py") 362]) #[]) ::
  (nat_lit 158, Obj.mk (Value.type "function") none (Data.func (PySem.FuncData.mk (Str.ofString "_sub_") (Str.ofString "GenericPolynomial._sub_") a54 (PySem.FuncBody.stmts b55) c56 3 [] Value.none Value.none Value.none (Value.str (Str.ofString "kyber_py.polynomials.polynomials_generic") 194) none (Value.ref 157) Value.none 0)) #[]) ::
  (nat_lit 159, Obj.mk (Value.type "tuple") none (Data.seq #[]) #[]) ::
  (nat_lit 161, Obj.mk (Value.type "tuple") none (Data.seq #[Value.str (Str.ofString "self") 367, Value.str (Str.ofString "other") 368, Value.str (Str.ofString "new_coeffs") 369]) #[]) ::
  (nat_lit 162, Obj.mk (Value.type "tuple") none (Data.seq #[]) #[]) ::
  (nat_lit 164, Obj.mk (Value.type "code") none (Data.fields #[Value.str (Str.ofString "__sub__") 364, Value.str (Str.ofString "GenericPolynomial.__sub__") 365, Value.str (Str.ofString "/claim/cut.py") 366, Value.int 100 0, Value.int 2 0, Value.int 0 0, Value.int 0 0, Value.int 3 0, Value.ref 159, Value.bool Bool.true, Value.int 181 0, Value.ref 160, Value.none, Value.ref 161, Value.ref 162, Value.ref 163, Value.int 370 0, Value.int 100 0, Value.str (Str.ofString "/claim/cut.py") 371]) #[]) ::
  (nat_lit 165, Obj.mk (Value.type "function") none (Data.func (PySem.FuncData.mk (Str.ofString "__sub__") (Str.ofString "GenericPolynomial.__sub__") a57 (PySem.FuncBody.stmts b58) c59 3 [] Value.none Value.none Value.none (Value.str (Str.ofString "kyber_py.polynomials.polynomials_generic") 194) none (Value.ref 164) Value.none 0)) #[]) ::
  (nat_lit 166, Obj.mk (Value.type "tuple") none (Data.seq #[]) #[]) ::
  (nat_lit 168, Obj.mk (Value.type "tuple") none (Data.seq #[Value.str (Str.ofString "self") 376, Value.str (Str.ofString "other") 377]) #[]) ::
  (nat_lit 169, Obj.mk (Value.type "tuple") none (Data.seq #[]) #[]) ::
  (nat_lit 171, Obj.mk (Value.type "code") none (Data.fields #[Value.str (Str.ofString "__rsub__") 373, Value.str (Str.ofString "GenericPolynomial.__rsub__") 374, Value.str (Str.ofString "/claim/cut.py") 375, Value.int 104 0, Value.int 2 0, Value.int 0 0, Value.int 0 0, Value.int 3 0, Value.ref 166, Value.bool Bool.true, Value.int 181 0, Value.ref 167, Value.none, Value.ref 168, Value.ref 169, Value.ref 170, Value.int 378 0, Value.int 104 0, Value.str (Str.ofString "/claim/cut.py") 379]) #[]) ::
  (nat_lit 172, Obj.mk (Value.type "function") none (Data.func (PySem.FuncData.mk (Str.ofString "__rsub__") (Str.ofString "GenericPolynomial.__rsub__") a60 (PySem.FuncBody.stmts b61) c62 3 [] Value.none Value.none Value.none (Value.str (Str.ofString "kyber_py.polynomials.polynomials_generic") 194) none (Value.ref 171) Value.none 0)) #[]) ::
  (nat_lit 173, Obj.mk (Value.type "tuple") none (Data.seq #[]) #[]) ::
  (nat_lit 175, Obj.mk (Value.type "tuple") none (Data.seq #[Value.str (Str.ofString "self") 384, Value.str (Str.ofString "other") 385]) #[]) ::
  (nat_lit 176, Obj.mk (Value.type "tuple") none (Data.seq #[]) #[]) ::
  (nat_lit 178, Obj.mk (Value.type "code") none (Data.fields #[Value.str (Str.ofString "__isub__") 381, Value.str (Str.ofString "GenericPolynomial.__isub__") 382, Value.str (Str.ofString "/claim/cut.py") 383, Value.int 107 0, Value.int 2 0, Value.int 0 0, Value.int 0 0, Value.int 3 0, Value.ref 173, Value.bool Bool.true, Value.int 181 0, Value.ref 174, Value.none, Value.ref 175, Value.ref 176, Value.ref 177, Value.int 386 0, Value.int 107 0, Value.str (Str.ofString "/claim/cut.py") 387]) #[]) ::
  (nat_lit 179, Obj.mk (Value.type "function") none (Data.func (PySem.FuncData.mk (Str.ofString "__isub__") (Str.ofString "GenericPolynomial.__isub__") a63 (PySem.FuncBody.stmts b64) c65 3 [] Value.none Value.none Value.none (Value.str (Str.ofString "kyber_py.polynomials.polynomials_generic") 194) none (Value.ref 178) Value.none 0)) #[]) ::
  (nat_lit 180, Obj.mk (Value.type "tuple") none (Data.seq #[]) #[]) ::
  (nat_lit 183, Obj.mk (Value.type "code") none (Data.fields #[Value.str (Str.ofString "__mul__") 389, Value.str (Str.ofString "GenericPolynomial.__mul__") 390, Value.str (Str.ofString "/claim/cut.py") 391, Value.int 111 0, Value.int 2 0, Value.int 0 0, Value.int 0 0, Value.int 3 0, Value.ref 180, Value.bool Bool.true, Value.int 181 0, Value.ref 181, Value.none, Value.none, Value.none, Value.ref 182, Value.int 392 0, Value.int 111 0, Value.str (Str.ofString "/claim/cut.py") 393]) #[]) ::
  (nat_lit 184, Obj.mk (Value.type "function") none (Data.func (PySem.FuncData.mk (Str.ofString "__mul__") (Str.ofString "GenericPolynomial.__mul__") a66 (PySem.FuncBody.stmts b67) c68 3 [] Value.none Value.none Value.none (Value.str (Str.ofString "kyber_py.polynomials.polynomials_generic") 194) none (Value.ref 183) Value.none 0)) #[]) ::
  (nat_lit 185, Obj.mk (Value.type "tuple") none (Data.seq #[]) #[]) ::
  (nat_lit 187, Obj.mk (Value.type "tuple") none (Data.seq #[Value.str (Str.ofString "self") 398, Value.str (Str.ofString "other") 399]) #[]) ::
  (nat_lit 188, Obj.mk (Value.type "tuple") none (Data.seq #[]) #[]) ::
  (nat_lit 190, Obj.mk (Value.type "code") none (Data.fields #[Value.str (Str.ofString "__rmul__") 395, Value.str (Str.ofString "GenericPolynomial.__rmul__") 396, Value.str (Str.ofString "/claim/cut.py") 397, Value.int 120 0, Value.int 2 0, Value.int 0 0, Value.int 0 0, Value.int 3 0, Value.ref 185, Value.bool Bool.true, Value.int 181 0, Value.ref 186, Value.none, Value.ref 187, Value.ref 188, Value.ref 189, Value.int 400 0, Value.int 120 0, Value.str (Str.ofString "/claim/cut.py") 401]) #[]) ::
  (nat_lit 191, Obj.mk (Value.type "function") none (Data.func (PySem.FuncData.mk (Str.ofString "__rmul__") (Str.ofString "GenericPolynomial.__rmul__") a69 (PySem.FuncBody.stmts b70) c71 3 [] Value.none Value.none Value.none (Value.str (Str.ofString "kyber_py.polynomials.polynomials_generic") 194) none (Value.ref 190) Value.none 0)) #[]) ::
  (nat_lit 192, Obj.mk (Value.type "tuple") none (Data.seq #[]) #[]) ::
  (nat_lit 194, Obj.mk (Value.type "tuple") none (Data.seq #[Value.str (Str.ofString "self") 406, Value.str (Str.ofString "other") 407]) #[]) ::
  (nat_lit 195, Obj.mk (Value.type "tuple") none (Data.seq #[]) #[]) ::
  (nat_lit 197, Obj.mk (Value.type "code") none (Data.fields #[Value.str (Str.ofString "__imul__") 403, Value.str (Str.ofString "GenericPolynomial.__imul__") 404, Value.str (Str.ofString "/claim/cut.py") 405, Value.int 123 0, Value.int 2 0, Value.int 0 0, Value.int 0 0, Value.int 3 0, Value.ref 192, Value.bool Bool.true, Value.int 181 0, Value.ref 193, Value.none, Value.ref 194, Value.ref 195, Value.ref 196, Value.int 408 0, Value.int 123 0, Value.str (Str.ofString "/claim/cut.py") 409]) #[]) ::
  (nat_lit 198, Obj.mk (Value.type "function") none (Data.func (PySem.FuncData.mk (Str.ofString "__imul__") (Str.ofString "GenericPolynomial.__imul__") a72 (PySem.FuncBody.stmts b73) c74 3 [] Value.none Value.none Value.none (Value.str (Str.ofString "kyber_py.polynomials.polynomials_generic") 194) none (Value.ref 197) Value.none 0)) #[]) ::
  (nat_lit 199, Obj.mk (Value.type "tuple") none (Data.seq #[]) #[]) ::
  (nat_lit 201, Obj.mk (Value.type "tuple") none (Data.seq #[Value.str (Str.ofString "self") 414, Value.str (Str.ofString "n") 415, Value.str (Str.ofString "f") 416, Value.str (Str.ofString "g") 417]) #[]) ::
  (nat_lit 202, Obj.mk (Value.type "tuple") none (Data.seq #[]) #[]) ::
  (nat_lit 204, Obj.mk (Value.type "code") none (Data.fields #[Value.str (Str.ofString "__pow__") 411, Value.str (Str.ofString "GenericPolynomial.__pow__") 412, Value.str (Str.ofString "/claim/cut.py") 413, Value.int 127 0, Value.int 2 0, Value.int 0 0, Value.int 0 0, Value.int 3 0, Value.ref 199, Value.bool Bool.true, Value.int 181 0, Value.ref 200, Value.none, Value.ref 201, Value.ref 202, Value.ref 203, Value.int 418 0, Value.int 127 0, Value.str (Str.ofString "/claim/cut.py") 419]) #[]) ::
  (nat_lit 205, Obj.mk (Value.type "function") none (Data.func (PySem.FuncData.mk (Str.ofString "__pow__") (Str.ofString "GenericPolynomial.__pow__") a75 (PySem.FuncBody.stmts b76) c77 3 [] Value.none Value.none Value.none (Value.str (Str.ofString "kyber_py.polynomials.polynomials_generic") 194) none (Value.ref 204) Value.none 0)) #[]) ::
  (nat_lit 206, Obj.mk (Value.type "tuple") none (Data.seq #[]) #[]) ::
  (nat_lit 208, Obj.mk (Value.type "tuple") none (Data.seq #[Value.str (Str.ofString "self") 424, Value.str (Str.ofString "other") 425]) #[]) ::
  (nat_lit 209, Obj.mk (Value.type "tuple") none (Data.seq #[]) #[]) ::
  (nat_lit 211, Obj.mk (Value.type "code") none (Data.fields #[Value.str (Str.ofString "__eq__") 421, Value.str (Str.ofString "GenericPolynomial.__eq__") 422, Value.str (Str.ofString "/claim/cut.py") 423, Value.int 141 0, Value.int 2 0, Value.int 0 0, Value.int 0 0, Value.int 3 0, Value.ref 206, Value.bool Bool.true, Value.int 181 0, Value.ref 207, Value.none, Value.ref 208, Value.ref 209, Value.ref 210, Value.int 426 0, Value.int 141 0, Value.str (Str.ofString "/claim/cut.py") 427]) #[]) ::
  (nat_lit 212, Obj.mk (Value.type "function") none (Data.func (PySem.FuncData.mk (Str.ofString "__eq__") (Str.ofString "GenericPolynomial.__eq__") a78 (PySem.FuncBody.stmts b79) c80 3 [] Value.none Value.none Value.none (Value.str (Str.ofString "kyber_py.polynomials.polynomials_generic") 194) none (Value.ref 211) Value.none 0)) #[]) ::
  (nat_lit 213, Obj.mk (Value.type "tuple") none (Data.seq #[]) #[]) ::
  (nat_lit 215, Obj.mk (Value.type "tuple") none (Data.seq #[Value.str (Str.ofString "self") 432, Value.str (Str.ofString "idx") 433]) #[]) ::
  (nat_lit 216, Obj.mk (Value.type "tuple") none (Data.seq #[]) #[]) ::
  (nat_lit 218, Obj.mk (Value.type "code") none (Data.fields #[Value.str (Str.ofString "__getitem__") 429, Value.str (Str.ofString "GenericPolynomial.__getitem__") 430, Value.str (Str.ofString "/claim/cut.py") 431, Value.int 149 0, Value.int 2 0, Value.int 0 0, Value.int 0 0, Value.int 3 0, Value.ref 213, Value.bool Bool.true, Value.int 181 0, Value.ref 214, Value.none, Value.ref 215, Value.ref 216, Value.ref 217, Value.int 434 0, Value.int 149 0, Value.str (Str.ofString "/claim/cut.py") 435]) #[]) ::
  (nat_lit 219, Obj.mk (Value.type "function") none (Data.func (PySem.FuncData.mk (Str.ofString "__getitem__") (Str.ofString "GenericPolynomial.__getitem__") a81 (PySem.FuncBody.stmts b82) c83 3 [] Value.none Value.none Value.none (Value.str (Str.ofString "kyber_py.polynomials.polynomials_generic") 194) none (Value.ref 218) Value.none 0)) #[]) ::
  (nat_lit 220, Obj.mk (Value.type "tuple") none (Data.seq #[Value.str (Str.ofString "coeffs") 437, Value.str (Str.ofString "parent") 438]) #[]) ::
  (nat_lit 221, Obj.mk (Value.type "dict") none (Data.dict #[DictEntry.mk (PyData.keyHash P (Str.ofString "__module__")) (Value.str (Str.ofString "__module__") 256) (Value.str (Str.ofString "kyber_py.polynomials.polynomials_generic") 194), DictEntry.mk (PyData.keyHash P (Str.ofString "__firstlineno__")) (Value.str (Str.ofString "__firstlineno__") 260) (Value.int 23 259), DictEntry.mk (PyData.keyHash P (Str.ofString "__init__")) (Value.str (Str.ofString "__init__") 269) (Value.ref 77), DictEntry.mk (PyData.keyHash P (Str.ofString "is_zero")) (Value.str (Str.ofString "is_zero") 276) (Value.ref 84), DictEntry.mk (PyData.keyHash P (Str.ofString "is_constant")) (Value.str (Str.ofString "is_constant") 283) (Value.ref 91), DictEntry.mk (PyData.keyHash P (Str.ofString "_parse_coefficients")) (Value.str (Str.ofString "_parse_coefficients") 289) (Value.ref 96), DictEntry.mk (PyData.keyHash P (Str.ofString "reduce_coefficients")) (Value.str (Str.ofString "reduce_coefficients") 296) (Value.ref 103), DictEntry.mk (PyData.keyHash P (Str.ofString "_add_mod_q")) (Value.str (Str.ofString "_add_mod_q") 305) (Value.ref 110), DictEntry.mk (PyData.keyHash P (Str.ofString "_sub_mod_q")) (Value.str (Str.ofString "_sub_mod_q") 314) (Value.ref 117), DictEntry.mk (PyData.keyHash P (Str.ofString "_schoolbook_multiplication")) (Value.str (Str.ofString "_schoolbook_multiplication") 320) (Value.ref 122), DictEntry.mk (PyData.keyHash P (Str.ofString "__neg__")) (Value.str (Str.ofString "__neg__") 326) (Value.ref 127), DictEntry.mk (PyData.keyHash P (Str.ofString "_add_")) (Value.str (Str.ofString "_add_") 332) (Value.ref 132), DictEntry.mk (PyData.keyHash P (Str.ofString "__add__")) (Value.str (Str.ofString "__add__") 341) (Value.ref 139), DictEntry.mk (PyData.keyHash P (Str.ofString "__radd__")) (Value.str (Str.ofString "__radd__") 349) (Value.ref 146), DictEntry.mk (PyData.keyHash P (Str.ofString "__iadd__")) (Value.str (Str.ofString "__iadd__") 357) (Value.ref 153), DictEntry.mk (PyData.keyHash P (Str.ofString "_sub_")) (Value.str (Str.ofString "_sub_") 363) (Value.ref 158), DictEntry.mk (PyData.keyHash P (Str.ofString "__sub__")) (Value.str (Str.ofString "__sub__") 372) (Value.ref 165), DictEntry.mk (PyData.keyHash P (Str.ofString "__rsub__")) (Value.str (Str.ofString "__rsub__") 380) (Value.ref 172), DictEntry.mk (PyData.keyHash P (Str.ofString "__isub__")) (Value.str (Str.ofString "__isub__") 388) (Value.ref 179), DictEntry.mk (PyData.keyHash P (Str.ofString "__mul__")) (Value.str (Str.ofString "__mul__") 394) (Value.ref 184), DictEntry.mk (PyData.keyHash P (Str.ofString "__rmul__")) (Value.str (Str.ofString "__rmul__") 402) (Value.ref 191), DictEntry.mk (PyData.keyHash P (Str.ofString "__imul__")) (Value.str (Str.ofString "__imul__") 410) (Value.ref 198), DictEntry.mk (PyData.keyHash P (Str.ofString "__pow__")) (Value.str (Str.ofString "__pow__") 420) (Value.ref 205), DictEntry.mk (PyData.keyHash P (Str.ofString "__eq__")) (Value.str (Str.ofString "__eq__") 428) (Value.ref 212), DictEntry.mk (PyData.keyHash P (Str.ofString "__getitem__")) (Value.str (Str.ofString "__getitem__") 436) (Value.ref 219), DictEntry.mk (PyData.keyHash P (Str.ofString "__static_attributes__")) (Value.str (Str.ofString "__static_attributes__") 439) (Value.ref 220), DictEntry.mk (PyData.keyHash P (Str.ofString "__dict__")) (Value.str (Str.ofString "__dict__") 441) (Value.ref 223), DictEntry.mk (PyData.keyHash P (Str.ofString "__weakref__")) (Value.str (Str.ofString "__weakref__") 443) (Value.ref 224), DictEntry.mk (PyData.keyHash P (Str.ofString "__doc__")) (Value.str (Str.ofString "__doc__") 444) Value.none, DictEntry.mk (PyData.keyHash P (Str.ofString "__hash__")) (Value.str (Str.ofString "__hash__") 445) Value.none] 5) #[]) ::
  (nat_lit 222, Obj.mk (Value.type "type") none (Data.cls (PySem.ClassData.mk (Str.ofString "GenericPolynomial") [Value.type "object"] [Value.ref 222, Value.type "object"] 221 (Str.ofString "GenericPolynomial") Bool.true [] [] Bool.false none Bool.false)) #[none, none, Option.some (Value.str (Str.ofString "GenericPolynomial") 249), Option.some (Value.str (Str.ofString "GenericPolynomial") 257), Option.some (Value.builtin "object.__new__"), Option.some (Value.bool Bool.true)]) ::
  (nat_lit 223, Obj.mk (Value.type "getset_descriptor") none (Data.fields #[Value.str (Str.ofString "__dict__") 440, Value.ref 222, Value.builtin "function.__dict__", Value.builtin "function.__dict__#set"]) #[]) ::
  (nat_lit 224, Obj.mk (Value.type "getset_descriptor") none (Data.fields #[Value.str (Str.ofString "__weakref__") 442, Value.ref 222, Value.builtin "ExceptionGroup.__weakref__", Value.none]) #[]) ::
  (nat_lit 227, Obj.mk (Value.type "tuple") none (Data.seq #[]) #[]) ::
  (nat_lit 229, Obj.mk (Value.type "tuple") none (Data.seq #[Value.str (Str.ofString "script") 453, Value.str (Str.ofString "i") 454]) #[]) ::
  (nat_lit 230, Obj.mk (Value.type "tuple") none (Data.seq #[]) #[]) ::
  (nat_lit 232, Obj.mk (Value.type "code") none (Data.fields #[Value.str (Str.ofString "_law_at") 450, Value.str (Str.ofString "_law_at") 451, Value.str (Str.ofString "/claim/cut.py") 452, Value.int 152 0, Value.int 2 0, Value.int 0 0, Value.int 0 0, Value.int 3 0, Value.ref 227, Value.bool Bool.true, Value.int 181 0, Value.ref 228, Value.none, Value.ref 229, Value.ref 230, Value.ref 231, Value.int 455 0, Value.int 152 0, Value.str (Str.ofString "/claim/cut.py") 456]) #[]) ::
  (nat_lit 233, Obj.mk (Value.type "function") none (Data.func (PySem.FuncData.mk (Str.ofString "_law_at") (Str.ofString "_law_at") a84 (PySem.FuncBody.stmts b85) c86 3 [] Value.none Value.none Value.none (Value.str (Str.ofString "law_ye0001_01") 448) none (Value.ref 232) Value.none 0)) #[]) ::
  (nat_lit 234, Obj.mk (Value.type "tuple") none (Data.seq #[]) #[]) ::
  (nat_lit 236, Obj.mk (Value.type "tuple") none (Data.seq #[Value.str (Str.ofString "f") 461, Value.str (Str.ofString "n") 462, Value.str (Str.ofString "out") 463, Value.str (Str.ofString "r") 464, Value.str (Str.ofString "row") 465, Value.str (Str.ofString "c") 466]) #[]) ::
  (nat_lit 237, Obj.mk (Value.type "tuple") none (Data.seq #[]) #[]) ::
  (nat_lit 239, Obj.mk (Value.type "code") none (Data.fields #[Value.str (Str.ofString "_law_table") 458, Value.str (Str.ofString "_law_table") 459, Value.str (Str.ofString "/claim/cut.py") 460, Value.int 156 0, Value.int 1 0, Value.int 0 0, Value.int 0 0, Value.int 3 0, Value.ref 234, Value.bool Bool.true, Value.int 181 0, Value.ref 235, Value.none, Value.ref 236, Value.ref 237, Value.ref 238, Value.int 467 0, Value.int 156 0, Value.str (Str.ofString "/claim/cut.py") 468]) #[]) ::
  (nat_lit 240, Obj.mk (Value.type "function") none (Data.func (PySem.FuncData.mk (Str.ofString "_law_table") (Str.ofString "_law_table") a87 (PySem.FuncBody.stmts b88) c89 3 [] Value.none Value.none Value.none (Value.str (Str.ofString "law_ye0001_01") 448) none (Value.ref 239) Value.none 0)) #[]) ::
  (nat_lit 241, Obj.mk (Value.type "tuple") none (Data.seq #[]) #[]) ::
  (nat_lit 244, Obj.mk (Value.type "code") none (Data.fields #[Value.str (Str.ofString "_law_minor") 470, Value.str (Str.ofString "_law_minor") 471, Value.str (Str.ofString "/claim/cut.py") 472, Value.int 168 0, Value.int 2 0, Value.int 0 0, Value.int 0 0, Value.int 3 0, Value.ref 241, Value.bool Bool.true, Value.int 181 0, Value.ref 242, Value.none, Value.none, Value.none, Value.ref 243, Value.int 473 0, Value.int 168 0, Value.str (Str.ofString "/claim/cut.py") 474]) #[]) ::
  (nat_lit 245, Obj.mk (Value.type "function") none (Data.func (PySem.FuncData.mk (Str.ofString "_law_minor") (Str.ofString "_law_minor") a90 (PySem.FuncBody.stmts b91) c92 3 [] Value.none Value.none Value.none (Value.str (Str.ofString "law_ye0001_01") 448) none (Value.ref 244) Value.none 0)) #[]) ::
  (nat_lit 246, Obj.mk (Value.type "tuple") none (Data.seq #[]) #[]) ::
  (nat_lit 248, Obj.mk (Value.type "tuple") none (Data.seq #[Value.str (Str.ofString "table") 479, Value.str (Str.ofString "total") 480, Value.str (Str.ofString "c") 481]) #[]) ::
  (nat_lit 249, Obj.mk (Value.type "tuple") none (Data.seq #[]) #[]) ::
  (nat_lit 251, Obj.mk (Value.type "code") none (Data.fields #[Value.str (Str.ofString "_law_det") 476, Value.str (Str.ofString "_law_det") 477, Value.str (Str.ofString "/claim/cut.py") 478, Value.int 170 0, Value.int 1 0, Value.int 0 0, Value.int 0 0, Value.int 3 0, Value.ref 246, Value.bool Bool.true, Value.int 181 0, Value.ref 247, Value.none, Value.ref 248, Value.ref 249, Value.ref 250, Value.int 482 0, Value.int 170 0, Value.str (Str.ofString "/claim/cut.py") 483]) #[]) ::
  (nat_lit 252, Obj.mk (Value.type "function") none (Data.func (PySem.FuncData.mk (Str.ofString "_law_det") (Str.ofString "_law_det") a93 (PySem.FuncBody.stmts b94) c95 3 [] Value.none Value.none Value.none (Value.str (Str.ofString "law_ye0001_01") 448) none (Value.ref 251) Value.none 0)) #[]) ::
  (nat_lit 253, Obj.mk (Value.type "tuple") none (Data.seq #[]) #[]) ::
  (nat_lit 256, Obj.mk (Value.type "code") none (Data.fields #[Value.str (Str.ofString "_law_turned") 485, Value.str (Str.ofString "_law_turned") 486, Value.str (Str.ofString "/claim/cut.py") 487, Value.int 177 0, Value.int 2 0, Value.int 0 0, Value.int 0 0, Value.int 3 0, Value.ref 253, Value.bool Bool.true, Value.int 181 0, Value.ref 254, Value.none, Value.none, Value.none, Value.ref 255, Value.int 488 0, Value.int 177 0, Value.str (Str.ofString "/claim/cut.py") 489]) #[]) ::
  (nat_lit 257, Obj.mk (Value.type "function") none (Data.func (PySem.FuncData.mk (Str.ofString "_law_turned") (Str.ofString "_law_turned") a96 (PySem.FuncBody.stmts b97) c98 3 [] Value.none Value.none Value.none (Value.str (Str.ofString "law_ye0001_01") 448) none (Value.ref 256) Value.none 0)) #[]) ::
  (nat_lit 258, Obj.mk (Value.type "tuple") none (Data.seq #[]) #[]) ::
  (nat_lit 260, Obj.mk (Value.type "tuple") none (Data.seq #[Value.str (Str.ofString "c") 494, Value.str (Str.ofString "q") 495, Value.str (Str.ofString "a") 496, Value.str (Str.ofString "b") 497, Value.str (Str.ofString "x") 498, Value.str (Str.ofString "y") 499, Value.str (Str.ofString "many") 500]) #[]) ::
  (nat_lit 261, Obj.mk (Value.type "tuple") none (Data.seq #[]) #[]) ::
  (nat_lit 263, Obj.mk (Value.type "code") none (Data.fields #[Value.str (Str.ofString "_law_inverse") 491, Value.str (Str.ofString "_law_inverse") 492, Value.str (Str.ofString "/claim/cut.py") 493, Value.int 186 0, Value.int 2 0, Value.int 0 0, Value.int 0 0, Value.int 3 0, Value.ref 258, Value.bool Bool.true, Value.int 181 0, Value.ref 259, Value.none, Value.ref 260, Value.ref 261, Value.ref 262, Value.int 501 0, Value.int 186 0, Value.str (Str.ofString "/claim/cut.py") 502]) #[]) ::
  (nat_lit 264, Obj.mk (Value.type "function") none (Data.func (PySem.FuncData.mk (Str.ofString "_law_inverse") (Str.ofString "_law_inverse") a99 (PySem.FuncBody.stmts b100) c101 3 [] Value.none Value.none Value.none (Value.str (Str.ofString "law_ye0001_01") 448) none (Value.ref 263) Value.none 0)) #[]) ::
  (nat_lit 265, Obj.mk (Value.type "tuple") none (Data.seq #[]) #[]) ::
  (nat_lit 268, Obj.mk (Value.type "code") none (Data.fields #[Value.str (Str.ofString "law") 504, Value.str (Str.ofString "law") 505, Value.str (Str.ofString "/claim/cut.py") 506, Value.int 198 0, Value.int 1 0, Value.int 0 0, Value.int 0 0, Value.int 3 0, Value.ref 265, Value.bool Bool.true, Value.int 181 0, Value.ref 266, Value.none, Value.none, Value.none, Value.ref 267, Value.int 507 0, Value.int 198 0, Value.str (Str.ofString "/claim/cut.py") 508]) #[]) ::
  (nat_lit 269, Obj.mk (Value.type "function") none (Data.func (PySem.FuncData.mk (Str.ofString "law") (Str.ofString "law") a102 (PySem.FuncBody.stmts b103) c104 3 [] Value.none Value.none Value.none (Value.str (Str.ofString "law_ye0001_01") 448) none (Value.ref 268) Value.none 0)) #[]) :: [] : Frag))
  _ (by have h : Rk (stArgs (topSt 0)) := ⟨⟩
        conv at h => arg 1; whnf
        exact h)
  _ (by have h : Rk (stBody (topSt 0)) := ⟨⟩
        conv at h => arg 1; whnf
        exact h)
  _ (by have h : Rk (stScope (topSt 0)) := ⟨⟩
        conv at h => arg 1; whnf
        exact h)
  _ (by have h : Rk (stArgs (clsSt 2 0)) := ⟨⟩
        conv at h => arg 1; whnf
        exact h)
  _ (by have h : Rk (stBody (clsSt 2 0)) := ⟨⟩
        conv at h => arg 1; whnf
        exact h)
  _ (by have h : Rk (stScope (clsSt 2 0)) := ⟨⟩
        conv at h => arg 1; whnf
        exact h)
  _ (by have h : Rk (stArgs (clsSt 2 1)) := ⟨⟩
        conv at h => arg 1; whnf
        exact h)
  _ (by have h : Rk (stBody (clsSt 2 1)) := ⟨⟩
        conv at h => arg 1; whnf
        exact h)
  _ (by have h : Rk (stScope (clsSt 2 1)) := ⟨⟩
        conv at h => arg 1; whnf
        exact h)
  _ (by have h : Rk (stArgs (clsSt 2 2)) := ⟨⟩
        conv at h => arg 1; whnf
        exact h)
  _ (by have h : Rk (stBody (clsSt 2 2)) := ⟨⟩
        conv at h => arg 1; whnf
        exact h)
  _ (by have h : Rk (stScope (clsSt 2 2)) := ⟨⟩
        conv at h => arg 1; whnf
        exact h)
  _ (by have h : Rk (stArgs (clsSt 2 3)) := ⟨⟩
        conv at h => arg 1; whnf
        exact h)
  _ (by have h : Rk (stBody (clsSt 2 3)) := ⟨⟩
        conv at h => arg 1; whnf
        exact h)
  _ (by have h : Rk (stScope (clsSt 2 3)) := ⟨⟩
        conv at h => arg 1; whnf
        exact h)
  _ (by have h : Rk (stArgs (clsSt 3 0)) := ⟨⟩
        conv at h => arg 1; whnf
        exact h)
  _ (by have h : Rk (stBody (clsSt 3 0)) := ⟨⟩
        conv at h => arg 1; whnf
        exact h)
  _ (by have h : Rk (stScope (clsSt 3 0)) := ⟨⟩
        conv at h => arg 1; whnf
        exact h)
  _ (by have h : Rk (stArgs (clsSt 3 1)) := ⟨⟩
        conv at h => arg 1; whnf
        exact h)
  _ (by have h : Rk (stBody (clsSt 3 1)) := ⟨⟩
        conv at h => arg 1; whnf
        exact h)
  _ (by have h : Rk (stScope (clsSt 3 1)) := ⟨⟩
        conv at h => arg 1; whnf
        exact h)
  _ (by have h : Rk (stArgs (clsSt 3 2)) := ⟨⟩
        conv at h => arg 1; whnf
        exact h)
  _ (by have h : Rk (stBody (clsSt 3 2)) := ⟨⟩
        conv at h => arg 1; whnf
        exact h)
  _ (by have h : Rk (stScope (clsSt 3 2)) := ⟨⟩
        conv at h => arg 1; whnf
        exact h)
  _ (by have h : Rk (stArgs (clsSt 3 3)) := ⟨⟩
        conv at h => arg 1; whnf
        exact h)
  _ (by have h : Rk (stBody (clsSt 3 3)) := ⟨⟩
        conv at h => arg 1; whnf
        exact h)
  _ (by have h : Rk (stScope (clsSt 3 3)) := ⟨⟩
        conv at h => arg 1; whnf
        exact h)
  _ (by have h : Rk (stArgs (clsSt 3 4)) := ⟨⟩
        conv at h => arg 1; whnf
        exact h)
  _ (by have h : Rk (stBody (clsSt 3 4)) := ⟨⟩
        conv at h => arg 1; whnf
        exact h)
  _ (by have h : Rk (stScope (clsSt 3 4)) := ⟨⟩
        conv at h => arg 1; whnf
        exact h)
  _ (by have h : Rk (stArgs (clsSt 3 5)) := ⟨⟩
        conv at h => arg 1; whnf
        exact h)
  _ (by have h : Rk (stBody (clsSt 3 5)) := ⟨⟩
        conv at h => arg 1; whnf
        exact h)
  _ (by have h : Rk (stScope (clsSt 3 5)) := ⟨⟩
        conv at h => arg 1; whnf
        exact h)
  _ (by have h : Rk (stArgs (clsSt 3 6)) := ⟨⟩
        conv at h => arg 1; whnf
        exact h)
  _ (by have h : Rk (stBody (clsSt 3 6)) := ⟨⟩
        conv at h => arg 1; whnf
        exact h)
  _ (by have h : Rk (stScope (clsSt 3 6)) := ⟨⟩
        conv at h => arg 1; whnf
        exact h)
  _ (by have h : Rk (stArgs (clsSt 3 7)) := ⟨⟩
        conv at h => arg 1; whnf
        exact h)
  _ (by have h : Rk (stBody (clsSt 3 7)) := ⟨⟩
        conv at h => arg 1; whnf
        exact h)
  _ (by have h : Rk (stScope (clsSt 3 7)) := ⟨⟩
        conv at h => arg 1; whnf
        exact h)
  _ (by have h : Rk (stArgs (clsSt 3 8)) := ⟨⟩
        conv at h => arg 1; whnf
        exact h)
  _ (by have h : Rk (stBody (clsSt 3 8)) := ⟨⟩
        conv at h => arg 1; whnf
        exact h)
  _ (by have h : Rk (stScope (clsSt 3 8)) := ⟨⟩
        conv at h => arg 1; whnf
        exact h)
  _ (by have h : Rk (stArgs (clsSt 3 9)) := ⟨⟩
        conv at h => arg 1; whnf
        exact h)
  _ (by have h : Rk (stBody (clsSt 3 9)) := ⟨⟩
        conv at h => arg 1; whnf
        exact h)
  _ (by have h : Rk (stScope (clsSt 3 9)) := ⟨⟩
        conv at h => arg 1; whnf
        exact h)
  _ (by have h : Rk (stArgs (clsSt 3 10)) := ⟨⟩
        conv at h => arg 1; whnf
        exact h)
  _ (by have h : Rk (stBody (clsSt 3 10)) := ⟨⟩
        conv at h => arg 1; whnf
        exact h)
  _ (by have h : Rk (stScope (clsSt 3 10)) := ⟨⟩
        conv at h => arg 1; whnf
        exact h)
  _ (by have h : Rk (stArgs (clsSt 3 11)) := ⟨⟩
        conv at h => arg 1; whnf
        exact h)
  _ (by have h : Rk (stBody (clsSt 3 11)) := ⟨⟩
        conv at h => arg 1; whnf
        exact h)
  _ (by have h : Rk (stScope (clsSt 3 11)) := ⟨⟩
        conv at h => arg 1; whnf
        exact h)
  _ (by have h : Rk (stArgs (clsSt 3 12)) := ⟨⟩
        conv at h => arg 1; whnf
        exact h)
  _ (by have h : Rk (stBody (clsSt 3 12)) := ⟨⟩
        conv at h => arg 1; whnf
        exact h)
  _ (by have h : Rk (stScope (clsSt 3 12)) := ⟨⟩
        conv at h => arg 1; whnf
        exact h)
  _ (by have h : Rk (stArgs (clsSt 3 13)) := ⟨⟩
        conv at h => arg 1; whnf
        exact h)
  _ (by have h : Rk (stBody (clsSt 3 13)) := ⟨⟩
        conv at h => arg 1; whnf
        exact h)
  _ (by have h : Rk (stScope (clsSt 3 13)) := ⟨⟩
        conv at h => arg 1; whnf
        exact h)
  _ (by have h : Rk (stArgs (clsSt 3 14)) := ⟨⟩
        conv at h => arg 1; whnf
        exact h)
  _ (by have h : Rk (stBody (clsSt 3 14)) := ⟨⟩
        conv at h => arg 1; whnf
        exact h)
  _ (by have h : Rk (stScope (clsSt 3 14)) := ⟨⟩
        conv at h => arg 1; whnf
        exact h)
  _ (by have h : Rk (stArgs (clsSt 3 15)) := ⟨⟩
        conv at h => arg 1; whnf
        exact h)
  _ (by have h : Rk (stBody (clsSt 3 15)) := ⟨⟩
        conv at h => arg 1; whnf
        exact h)
  _ (by have h : Rk (stScope (clsSt 3 15)) := ⟨⟩
        conv at h => arg 1; whnf
        exact h)
  _ (by have h : Rk (stArgs (clsSt 3 16)) := ⟨⟩
        conv at h => arg 1; whnf
        exact h)
  _ (by have h : Rk (stBody (clsSt 3 16)) := ⟨⟩
        conv at h => arg 1; whnf
        exact h)
  _ (by have h : Rk (stScope (clsSt 3 16)) := ⟨⟩
        conv at h => arg 1; whnf
        exact h)
  _ (by have h : Rk (stArgs (clsSt 3 17)) := ⟨⟩
        conv at h => arg 1; whnf
        exact h)
  _ (by have h : Rk (stBody (clsSt 3 17)) := ⟨⟩
        conv at h => arg 1; whnf
        exact h)
  _ (by have h : Rk (stScope (clsSt 3 17)) := ⟨⟩
        conv at h => arg 1; whnf
        exact h)
  _ (by have h : Rk (stArgs (clsSt 3 18)) := ⟨⟩
        conv at h => arg 1; whnf
        exact h)
  _ (by have h : Rk (stBody (clsSt 3 18)) := ⟨⟩
        conv at h => arg 1; whnf
        exact h)
  _ (by have h : Rk (stScope (clsSt 3 18)) := ⟨⟩
        conv at h => arg 1; whnf
        exact h)
  _ (by have h : Rk (stArgs (clsSt 3 19)) := ⟨⟩
        conv at h => arg 1; whnf
        exact h)
  _ (by have h : Rk (stBody (clsSt 3 19)) := ⟨⟩
        conv at h => arg 1; whnf
        exact h)
  _ (by have h : Rk (stScope (clsSt 3 19)) := ⟨⟩
        conv at h => arg 1; whnf
        exact h)
  _ (by have h : Rk (stArgs (clsSt 3 20)) := ⟨⟩
        conv at h => arg 1; whnf
        exact h)
  _ (by have h : Rk (stBody (clsSt 3 20)) := ⟨⟩
        conv at h => arg 1; whnf
        exact h)
  _ (by have h : Rk (stScope (clsSt 3 20)) := ⟨⟩
        conv at h => arg 1; whnf
        exact h)
  _ (by have h : Rk (stArgs (clsSt 3 21)) := ⟨⟩
        conv at h => arg 1; whnf
        exact h)
  _ (by have h : Rk (stBody (clsSt 3 21)) := ⟨⟩
        conv at h => arg 1; whnf
        exact h)
  _ (by have h : Rk (stScope (clsSt 3 21)) := ⟨⟩
        conv at h => arg 1; whnf
        exact h)
  _ (by have h : Rk (stArgs (clsSt 3 22)) := ⟨⟩
        conv at h => arg 1; whnf
        exact h)
  _ (by have h : Rk (stBody (clsSt 3 22)) := ⟨⟩
        conv at h => arg 1; whnf
        exact h)
  _ (by have h : Rk (stScope (clsSt 3 22)) := ⟨⟩
        conv at h => arg 1; whnf
        exact h)
  _ (by have h : Rk (stArgs (topSt 5)) := ⟨⟩
        conv at h => arg 1; whnf
        exact h)
  _ (by have h : Rk (stBody (topSt 5)) := ⟨⟩
        conv at h => arg 1; whnf
        exact h)
  _ (by have h : Rk (stScope (topSt 5)) := ⟨⟩
        conv at h => arg 1; whnf
        exact h)
  _ (by have h : Rk (stArgs (topSt 6)) := ⟨⟩
        conv at h => arg 1; whnf
        exact h)
  _ (by have h : Rk (stBody (topSt 6)) := ⟨⟩
        conv at h => arg 1; whnf
        exact h)
  _ (by have h : Rk (stScope (topSt 6)) := ⟨⟩
        conv at h => arg 1; whnf
        exact h)
  _ (by have h : Rk (stArgs (topSt 7)) := ⟨⟩
        conv at h => arg 1; whnf
        exact h)
  _ (by have h : Rk (stBody (topSt 7)) := ⟨⟩
        conv at h => arg 1; whnf
        exact h)
  _ (by have h : Rk (stScope (topSt 7)) := ⟨⟩
        conv at h => arg 1; whnf
        exact h)
  _ (by have h : Rk (stArgs (topSt 8)) := ⟨⟩
        conv at h => arg 1; whnf
        exact h)
  _ (by have h : Rk (stBody (topSt 8)) := ⟨⟩
        conv at h => arg 1; whnf
        exact h)
  _ (by have h : Rk (stScope (topSt 8)) := ⟨⟩
        conv at h => arg 1; whnf
        exact h)
  _ (by have h : Rk (stArgs (topSt 9)) := ⟨⟩
        conv at h => arg 1; whnf
        exact h)
  _ (by have h : Rk (stBody (topSt 9)) := ⟨⟩
        conv at h => arg 1; whnf
        exact h)
  _ (by have h : Rk (stScope (topSt 9)) := ⟨⟩
        conv at h => arg 1; whnf
        exact h)
  _ (by have h : Rk (stArgs (topSt 10)) := ⟨⟩
        conv at h => arg 1; whnf
        exact h)
  _ (by have h : Rk (stBody (topSt 10)) := ⟨⟩
        conv at h => arg 1; whnf
        exact h)
  _ (by have h : Rk (stScope (topSt 10)) := ⟨⟩
        conv at h => arg 1; whnf
        exact h)
  _ (by have h : Rk (stArgs (topSt 11)) := ⟨⟩
        conv at h => arg 1; whnf
        exact h)
  _ (by have h : Rk (stBody (topSt 11)) := ⟨⟩
        conv at h => arg 1; whnf
        exact h)
  _ (by have h : Rk (stScope (topSt 11)) := ⟨⟩
        conv at h => arg 1; whnf
        exact h)
abbrev heapA : List Addr := [2, 3, 15, 17, 18, 20, 21, 29, 31, 32, 34, 35, 36, 38, 39, 41, 42, 43, 45, 46, 48, 49, 50, 52, 53, 55, 56, 57, 58, 59, 60, 61, 71, 73, 74, 76, 77, 78, 80, 81, 83, 84, 85, 87, 88, 90, 91, 92, 95, 96, 97, 99, 100, 102, 103, 104, 106, 107, 109, 110, 111, 113, 114, 116, 117, 118, 121, 122, 123, 126, 127, 128, 131, 132, 133, 135, 136, 138, 139, 140, 142, 143, 145, 146, 147, 149, 150, 152, 153, 154, 157, 158, 159, 161, 162, 164, 165, 166, 168, 169, 171, 172, 173, 175, 176, 178, 179, 180, 183, 184, 185, 187, 188, 190, 191, 192, 194, 195, 197, 198, 199, 201, 202, 204, 205, 206, 208, 209, 211, 212, 213, 215, 216, 218, 219, 220, 221, 222, 223, 224, 227, 229, 230, 232, 233, 234, 236, 237, 239, 240, 241, 244, 245, 246, 248, 249, 251, 252, 253, 256, 257, 258, 260, 261, 263, 264, 265, 268, 269]
theorem fill_mark : PySem.Challenge.rw_ye0001_01.foot = PySem.Challenge.rw_ye0001_01.foot ∧ heapK = heapK := by
  k_fill
  exact ⟨rfl, rfl⟩
end Mine
namespace Mine
/-- the top's run over a tree of objects -/
def topRunT (tb : String → Option Builtin) (p : Program) (w : World) (n₀ : Nat) (ann : Option Value) : Nat → SharedT → Thread → Option SharedT
  | 0, _, _ => none
  | n + 1, s, t => match through t with
    | true => some s
    | false => match stepOk n₀ ann t with
      | false => none
      | true => match stepT (denote tb) p w s t with
        | some (s', t') => topRunT tb p w n₀ ann n s' t'
        | none => none
theorem topRun_of {tb : String → Option Builtin} {p : Program} {w : World} {n₀ : Nat} {ann : Option Value} : ∀ {n : Nat} {s s' : SharedT} {t : Thread}, topRunT tb p w n₀ ann n s t = some s' → topRun tb p w n₀ ann n s.abs t = some s'.abs
  | 0, _, _, _, h => by cases h
  | n + 1, s, s', t, h => by
    unfold topRunT at h
    unfold topRun
    cases ht : through t with
    | true => rw [ht] at h; cases h; rfl
    | false =>
      rw [ht] at h
      cases hk : stepOk n₀ ann t with
      | false => rw [hk] at h; cases h
      | true =>
        rw [hk] at h
        cases hs : stepT (denote tb) p w s t with
        | none => rw [hs] at h; cases h
        | some r => obtain ⟨s₂, t₂⟩ := r; rw [hs] at h; dsimp only at h ⊢; rw [stepT_spec hs]; exact topRun_of h
def treeFrom : List Obj → Nat → BT → Option BT
  | [], _, t => some t
  | o :: os, k, t => match ((t.ins k o).get k).isSome with
    | true => treeFrom os (k + 1) (t.ins k o)
    | false => none
theorem treeFrom_abs {life : Life} : ∀ {l : List Obj} {k : Nat} {t t' : BT}, treeFrom l k t = some t' → (absHeap t' (k + l.length) life).objs = (absHeap t k life).objs ++ l.toArray
  | [], k, t, t', h => by cases h; simp
  | o :: os, k, t, t', h => by
    unfold treeFrom at h
    cases e : ((t.ins k o).get k).isSome with
    | false => rw [e] at h; cases h
    | true =>
      rw [e] at h
      have z := treeFrom_abs (life := life) h
      rw [absHeap_ins e] at z
      rw [List.length_cons, show k + (os.length + 1) = k + 1 + os.length by omega, z]
      simp [Heap.push]
theorem treeFrom_heap {h : Heap} {t : BT} (e : treeFrom h.objs.toList 0 .nil = some t) : absHeap t h.objs.size h.life = h := by
  have z := treeFrom_abs (life := h.life) e
  rw [Nat.zero_add, Array.length_toList] at z
  obtain ⟨os, life⟩ := h
  have z2 : (absHeap BT.nil 0 life).objs = #[] := rfl
  rw [z2] at z
  show Heap.mk _ _ = Heap.mk _ _
  exact congrArg (Heap.mk · life) (z.trans (by simp))
theorem left_tree {p q : Program} {loose : List Str} {Xt : Shared → Bool} {α : Type} {Yf : Shared → α} {Ya : World → α} {N m₀ : Nat} {ann : Option Value} (e : opening p = plainProg p.main.scope.names) (hN : Nat.ble 600 N = true) (f : ∀ s, fenceModules? p s = some s)
    (size : ∀ P : Params, ((boot_heap P).isNs mainGlobals, (boot_heap P).objs.size, (boot_heap P).nsMap mainGlobals "__annotations__") = (true, m₀, ann))
    (h : ∀ w os, ((treeFrom (boot_heap w.params).objs.toList 0 .nil).bind fun T => topRunT treeTable p w m₀ ann N ⟨T, m₀, (boot_heap w.params).life, Array.mk [], boot_drawn, boot_toks, os⟩ (topStub p)).map
      (fun s => (staticsOk (importedModules p.main.body) (boot_heap w.params) s.abs.heap && namesBound p s.abs.heap && gensDone s.abs && laidKept (boot_heap w.params) s.abs.heap, openSeen q loose (importedModules p.main.body) Xt true s.abs, Yf s.abs)) = some (true, openGood q loose, Ya w)) :
    LeftO p q loose Xt Yf Ya N := fun w => by
  obtain ⟨⟨hp, gs, d, k, os⟩, hs, hv⟩ := Option.map_eq_some_iff.mp (boot_open e hN f w)
  obtain ⟨rfl, rfl, rfl, rfl⟩ : hp = boot_heap w.params ∧ gs = Array.mk [] ∧ d = boot_drawn ∧ k = boot_toks := by simpa using hv
  obtain ⟨z1, z2, z3⟩ : _ ∧ _ ∧ _ := by simpa only [Prod.mk.injEq] using size w.params
  obtain ⟨s, h1, h2⟩ := Option.map_eq_some_iff.mp (h w os)
  obtain ⟨T, h3, h4⟩ := Option.bind_eq_some_iff.mp h1
  obtain ⟨l1, l2, l3⟩ : _ ∧ _ ∧ _ := by simpa only [Prod.mk.injEq] using h2
  have r := topRun_of h4
  have ab : SharedT.abs ⟨T, m₀, (boot_heap w.params).life, Array.mk [], boot_drawn, boot_toks, os⟩ = ⟨boot_heap w.params, Array.mk [], boot_drawn, boot_toks, os⟩ := by
    unfold SharedT.abs
    dsimp only
    rw [← z2, treeFrom_heap h3]
  rw [ab] at r
  have t : topFrom treeTable p w N ⟨boot_heap w.params, Array.mk [], boot_drawn, boot_toks, os⟩ = some s.abs := by
    unfold topFrom
    dsimp only
    rw [z1, z2, z3, r]
    show (match staticsOk (importedModules p.main.body) (boot_heap w.params) s.abs.heap && namesBound p s.abs.heap && gensDone s.abs && laidKept (boot_heap w.params) s.abs.heap with | true => _ | false => _) = _
    rw [l1]
  unfold openEnds
  rw [hs]
  show (topFrom treeTable p w N _).map _ = _
  rw [t]
  exact congrArg some (Prod.ext l2 l3)
end Mine

namespace Mine
noncomputable def viewQ : Program := { PySem.Challenge.pw_ye0001_01 with main := { PySem.Challenge.pw_ye0001_01.main with body := [0, 2, 3, 5, 6, 7, 8, 9, 10, 11].filterMap fun i => PySem.Challenge.pw_ye0001_01.main.body[i]? } }
noncomputable abbrev HK : Hook := kmHook heapK heapA (fun _ => by kernel_rfl) [86, 266]
theorem hn : LeftO PySem.Challenge.rw_ye0001_01.row.prog viewQ [] (fun s => xlAt viewQ [] s && recOk (RowW.records (PySem.Challenge.rw_ye0001_01.row).toRowW) s) (Hook.obs HK) (Hook.val HK) 3098 := by
  refine left_tree (m₀ := 11) (ann := some (.ref 6)) (by kernel_rfl) (by decide +kernel) (fun _ => rfl) (fun P => by kernel_rfl) ?_
  intro w os
  kernel_rfl
-- the row is well said, in pieces
theorem ws_res : namesResolve PySem.Challenge.rw_ye0001_01.prog = true := by kernel_rfl
theorem ws_meet : (namesMeet PySem.Challenge.rw_ye0001_01.prog PySem.Challenge.rw_ye0001_01.prog.main.body fun _ n => attrL n) = true := by kernel_rfl
theorem ws_bare : (["vars", "dir", "locals"] : List Str).filter (readsOut PySem.Challenge.rw_ye0001_01.prog PySem.Challenge.rw_ye0001_01.prog.main.body) = [] := by kernel_rfl
theorem ws_road : noRoadLSs { strict := !(importedModules PySem.Challenge.rw_ye0001_01.prog.main.body).all cThrough.contains, foot := none, bare := [] } PySem.Challenge.rw_ye0001_01.prog.main.body = true := by kernel_rfl
theorem ws_look : looksOpen PySem.Challenge.rw_ye0001_01.prog = true := by
  unfold looksOpen
  repeat' (with_reducible refine look_both ?_ ?_)
  · kernel_rfl
  · kernel_rfl
  · exact ws_res
  · kernel_rfl
  · rw [ws_bare]; exact ws_road
  · exact ws_meet
theorem ws_part : PySem.Challenge.rw_ye0001_01.row.partSaid = true := by
  unfold OpenRow.partSaid
  repeat' (with_reducible refine look_both ?_ ?_)
  · exact ws_look
  all_goals kernel_rfl
theorem ws_row : PySem.Challenge.rw_ye0001_01.row.wellSaid = true := look_both (look_both ws_part (by kernel_rfl)) (by kernel_rfl)
theorem ws_all : PySem.Challenge.rw_ye0001_01.wellSaid = true := by
  unfold OpenLaw.wellSaid
  repeat' (with_reducible refine look_both ?_ ?_)
  · exact ws_row
  all_goals kernel_rfl
structure HWrap (P : Prop) : Prop where
  h : P
/-- the head: what is left to be shown of the law is its first part -/
noncomputable def headC : {P : Prop // HWrap P → PySem.Challenge.rw_ye0001_01.Holds} := ⟨_, fun hP => by
  w_on; refine holds_law ws_all fun said => ?_
  refine holds_open (q := Mine.viewQ) (loose := []) (Xt := fun s => xlAt Mine.viewQ [] s && recOk (RowW.records (PySem.Challenge.rw_ye0001_01.row).toRowW) s) (XP := XL Mine.viewQ []) (Yf := Hook.obs Mine.HK) (Ya := Hook.val Mine.HK) (YP := Hook.says Mine.HK) (N := 3098) Mine.hn (Hook.of Mine.HK) (Hook.keeps Mine.HK) (fun s e => xl_of s (Bool.and_eq_true_iff.mp e).1) XL.keeps (by rfl) (by rfl) (by rfl) (fun s e => recFacts_of (Bool.and_eq_true_iff.mp e).2) (by rfl) (by first | assumption | decide +kernel) (by decide +kernel) ⟨rfl, rfl, rfl, rfl, rfl, by decide +kernel⟩ ?hw ?hc
  case hw => w_witness2
  revert said
  exact @HWrap.h _ hP⟩
end Mine
namespace Mine

def Grow (h h' : Heap) : Prop := ∀ b o, h.get? b = some o → h'.get? b = some o
theorem Grow.refl (h : Heap) : Grow h h := fun _ _ e => e
theorem Grow.trans {a b c : Heap} (x : Grow a b) (y : Grow b c) : Grow a c := fun i o e => y i o (x i o e)
def HeapIs (h : Heap) (a : Addr) (o : Obj) : Prop := h.get? a = some o
def Fresh (h h' : Heap) (a : Addr) (o : Obj) : Prop := h'.get? a = some o ∧ h.get? a = none
def Stop (P : Prop) : Prop := P
theorem Stop.mk {P : Prop} (h : Stop P) : P := h
theorem Stop.out {P : Prop} (h : P) : Stop P := h
abbrev Ar (dp : Nat) (fr : Option (List Env)) (gd : Option (List Code)) (un : Nat) : Around := { handled := none, depth := dp, frames := fr, guards := gd, units := un }

theorem InstAt.of_base {h₀ h : Heap} {L x C dx : Addr} {m : Str → Option Value} {od : Obj} (F : Fr h₀ L h m) (h1 : h₀.get? x = some (instObj C dx)) (h2 : h₀.get? dx = some od) :
    InstAt h x (instObj C dx) C (some od) := ⟨F.keep _ _ h1, rfl, rfl, F.keep _ _ h2⟩

section
variable {prog : Program} {w : World} {A : Around} {s : Shared} {h₀ : Heap} {K : Frag} {p : Program} {loose : List Str} {mg mb : Str → Option Value}
  {R : Result → Shared → Prop} {name qual : Str} {params : Arguments} {body : List Stmt} {scope : Scope} {dV kV doc pm cdv ct oc : Value} {an od : Option Addr} {osl : Array (Option Value)} {f : Addr} {args : Args} {binds : List (Str × Value)}

/-- a call of a def without cells: the callee's ground is the whole heap at the call -/
theorem enter0 (hsub : Grow h₀ s.heap) (X : K.In h₀) (T : TopRead p loose mg mb h₀)
    (ho : K.lookup f = some ⟨oc, od, .func (fnOf name qual params body scope dV kV doc pm an cdv ct), osl⟩) (hcd : codeIn K cdv qual = true) (hroom : A.depth < recursionLimit)
    (hbind : BindsTo s (fnOf name qual params body scope dV kV doc pm an cdv ct) args binds) (hloc : ∀ y ∈ binds, scope.names.lookup y.1 = some .local)
    (h : ∀ L' h₁, K.In s.heap → TopRead p loose mg mb s.heap → Fr s.heap L' h₁ (fun y => binds.reverse.lookup y) → News s.heap L' h₁ [] →
      wpAny (model prog w) (A.deeper (envOf qual scope L' f cdv)) (execs body (envOf qual scope L' f cdv))
        (fun fl s' => R (.ok (.ret (match fl with | .ret v => v | _ => .none))) s') (fun _ _ => False)
        { s with heap := h₁, toks := s.toks + binds.length })
    (hco : scope.isCoroutine = false) (hgen : scope.isGenerator = false) (hk : scope.kind = .function)
    (hcell : ∀ x ∈ scope.names, x.2 ≠ .cell) : codeAny (model prog w) A (.call (.ref f) args) R s := by
  refine codeAny_call_def (fd := fnOf name qual params body scope dV kV doc pm an cdv ct) (body := body) (binds := binds) hroom (hsub _ _ (X _ _ ho)) rfl (T.nolimit.keeps hsub) (codeRec_of (X.keeps hsub) hcd) rfl hbind hcell hloc (fun h₁ hns hk₁ => ?_) hco hgen hk
  exact wpAny_mono (h s.heap.objs.size h₁ (X.keeps hsub) (T.keeps hsub) ⟨hns, hk₁, Nat.le_refl _⟩ News.nil) (fun _ _ y => y) fun _ _ y => y.elim

theorem enterC (hsub : Grow h₀ s.heap) (X : K.In h₀) (T : TopRead p loose mg mb h₀)
    (ho : K.lookup f = some ⟨oc, od, .func (fnOf name qual params body scope dV kV doc pm an cdv ct), osl⟩) (hcd : codeIn K cdv qual = true) (hroom : A.depth < recursionLimit)
    (hbind : BindsTo s (fnOf name qual params body scope dV kV doc pm an cdv ct) args binds)
    (hkind : (binds.all fun y => scope.names.lookup y.1 == some .local || scope.names.lookup y.1 == some .cell) = true)
    (hnd : ((cellsFrom 0 scope.names []).map (·.1)).Nodup)
    (h : ∀ L' h₁ tk cells, K.In s.heap → TopRead p loose mg mb s.heap → Fr s.heap L' h₁ (bindL (envOfC qual scope L' f cdv).kindOf binds fun _ => none) → News s.heap L' h₁ cells →
      CellsAre (bindC (envOfC qual scope L' f cdv).kindOf binds fun _ => none) (cellsFrom (L' + 1) scope.names []) cells →
      wpAny (model prog w) (A.deeper (envOfC qual scope L' f cdv)) (execs body (envOfC qual scope L' f cdv))
        (fun fl s' => R (.ok (.ret (match fl with | .ret v => v | _ => .none))) s') (fun _ _ => False)
        { s with heap := h₁, toks := tk })
    (hco : scope.isCoroutine = false) (hgen : scope.isGenerator = false) (hk : scope.kind = .function) : codeAny (model prog w) A (.call (.ref f) args) R s := by
  refine codeAny_call_function hroom (hsub _ _ (X _ _ ho)) rfl hco hgen rfl (codeRec_of (X.keeps hsub) hcd) (hbind _ _ _ _ ?_)
  refine wpAny_newFunctionEnv_cells hk (kindsX hkind _) fun env' he s' x => ?_
  subst he
  refine ⟨(T.nolimit.keeps hsub).keeps x.toInCall.keep, codeAny_func ?_⟩
  obtain ⟨h₁, tk, rfl, _⟩ := x.done
  have hk₁ := x.toInCall.keep
  obtain ⟨cells, NC, Y⟩ := Cl.news (h₀ := s.heap) (Nat.le_refl _) fun n c hm => ⟨x.cell n c (lookup_of_mem_nodup (cellsFrom_names scope.names 0 (s.heap.objs.size + 1) [] [] rfl ▸ hnd) hm), x.above n c hm⟩
  exact wpAny_mono (h s.heap.objs.size h₁ tk cells (X.keeps hsub) (T.keeps hsub) ⟨x.toInCall.ns, hk₁, Nat.le_refl _⟩ NC Y) (fun _ _ y => y) fun _ _ y => y.elim
end

section
variable {prog : Program} {w : World} {A : Around} {s : Shared} {h₀ : Heap} {L : Addr} {m : Str → Option Value} {env : Env} {elt : PySem.Expr} {x : Str} {scope : Scope} {cl : List (Str × Addr)}
  {S : List (Addr × Obj) → Prop} {P : Nat → Value → Prop} {Fin : List Value → List (Addr × Obj) → Prop}

theorem comp_invAux (J : Nat → List Value → List (Addr × Obj) → Prop) (n : Nat)
    (turn : ∀ i ys news, i < n → ys.length = i → J i ys news → ∀ v I oI C oC D m₂ h tk (E' : Value → Shared → Prop), P i v → LCg.NsObj oC m₂ → m₂ x = some v → Fr h₀ L h m →
      News h₀ L h ((I, oI) :: (C, oC) :: (D, LCg.lst ys) :: news) → LCg.Off3 I C D news → ((@Ne Nat I C) ∧ (@Ne Nat I D) ∧ (@Ne Nat C D)) →
      wpAny (model prog w) A (eval elt (compEnvC scope cl C env)) (LCg.CompEnd h₀ L m { s with heap := h, toks := tk } I oI C oC D (LCg.lst ys) S (fun y news' => J (i + 1) (ys ++ [y]) news')) E' { s with heap := h, toks := tk })
    (done : ∀ ys news, ys.length = n → J n ys news → Fin ys news) :
    ∀ (k i : Nat) (ys : List Value) (news : List (Addr × Obj)), i + k = n → ys.length = i → J i ys news → LCg.CompRest prog w A h₀ L m env elt x scope cl s S P Fin k i ys news
  | 0, i, ys, news, e, hl, hj => LCg.CompRest.zero (done ys news (by omega) (by have : i = n := by omega
                                                                                subst this; exact hj))
  | k + 1, i, ys, news, e, hl, hj => LCg.CompRest.succ fun v I oI C oC D m₂ h tk E' hP hC hx F N off ne =>
      wpAny_mono (turn i ys news (by omega) hl hj v I oI C oC D m₂ h tk E' hP hC hx F N off ne) (fun y s₂ hs => by
        obtain ⟨h', tk', news', e1, F', N', off', hS, hr⟩ := hs
        exact ⟨h', tk', news', e1, F', N', off', hS, comp_invAux J n turn done k (i + 1) (ys ++ [y]) news' (by omega) (by simp [hl]) hr⟩) fun _ _ z => z

theorem comp_inv (J : Nat → List Value → List (Addr × Obj) → Prop) {n : Nat} {news : List (Addr × Obj)}
    (turn : ∀ i ys news, i < n → ys.length = i → J i ys news → ∀ v I oI C oC D m₂ h tk (E' : Value → Shared → Prop), P i v → LCg.NsObj oC m₂ → m₂ x = some v → Fr h₀ L h m →
      News h₀ L h ((I, oI) :: (C, oC) :: (D, LCg.lst ys) :: news) → LCg.Off3 I C D news → ((@Ne Nat I C) ∧ (@Ne Nat I D) ∧ (@Ne Nat C D)) →
      wpAny (model prog w) A (eval elt (compEnvC scope cl C env)) (LCg.CompEnd h₀ L m { s with heap := h, toks := tk } I oI C oC D (LCg.lst ys) S (fun y news' => J (i + 1) (ys ++ [y]) news')) E' { s with heap := h, toks := tk })
    (h0 : J 0 [] news) (done : ∀ ys news, ys.length = n → J n ys news → Fin ys news) : LCg.CompRest prog w A h₀ L m env elt x scope cl s S P Fin n 0 [] news :=
  comp_invAux J n turn done n 0 [] news (by omega) rfl h0

/-- what an element's turn comes to when it makes an int and leaves the ledger alone -/
def IntBack (h₀ : Heap) (L : Addr) (m : Str → Option Value) (s : Shared) (led : List (Addr × Obj)) (z : Int) (y : Value) (s₂ : Shared) : Prop :=
  ∃ h' tk' t, y = .int z t ∧ s₂ = { s with heap := h', toks := tk' } ∧ Fr h₀ L h' m ∧ News h₀ L h' led
theorem IntBack.mk {led : List (Addr × Obj)} {z z' : Int} {t : Tok} {h' : Heap} {tk' : Nat} (e : z' = z) (F : Fr h₀ L h' m) (N : News h₀ L h' led) :
    IntBack h₀ L m s led z (.int z' t) { s with heap := h', toks := tk' } := ⟨h', tk', t, by rw [e], rfl, F, N⟩

theorem comp_ints (f : Nat → Int) {n : Nat} {news : List (Addr × Obj)} (hS : S news)
    (turn : ∀ i ys, i < n → ys.length = i → ∀ v I oI C oC D m₂ h tk (E' : Value → Shared → Prop), P i v → LCg.NsObj oC m₂ → m₂ x = some v → Fr h₀ L h m →
      News h₀ L h ((I, oI) :: (C, oC) :: (D, LCg.lst ys) :: news) →
      wpAny (model prog w) A (eval elt (compEnvC scope cl C env)) (IntBack h₀ L m s ((I, oI) :: (C, oC) :: (D, LCg.lst ys) :: news) (f i)) E' { s with heap := h, toks := tk })
    (done : ∀ ys, IntsAre ys ((List.range n).map f) → Fin ys news) : LCg.CompRest prog w A h₀ L m env elt x scope cl s S P Fin n 0 [] news := by
  refine comp_inv (fun i ys led => led = news ∧ IntsAre ys ((List.range i).map f)) ?_ ⟨rfl, .nil⟩ (fun ys led hl hj => hj.1 ▸ done ys hj.2)
  rintro i ys led hi hl ⟨rfl, hj⟩ v I oI C oC D m₂ h tk E' hP hC hx F N off ne
  refine wpAny_mono (turn i ys hi hl v I oI C oC D m₂ h tk E' hP hC hx F N) (fun y s₂ hs => ?_) fun _ _ z => z
  obtain ⟨h', tk', t, rfl, rfl, F', N'⟩ := hs
  refine ⟨h', tk', led, rfl, F', N', off, hS, rfl, ?_⟩
  rw [List.range_succ, List.map_append]
  exact hj.append (.cons _ _ .nil)
end

section
variable {prog : Program} {w : World} {A : Around} {E : Value → Shared → Prop} {s : Shared} {env : Env} {h₀ : Heap} {x : Str} {body : List Stmt} {Q : Flow → Shared → Prop}

/-- a turn's end: one list of ints turned -/
def IntsTurn (h₀ : Heap) (L : Addr) (x : Str) (stored : List Str) (m₀ : Str → Option Value) (d : Addr) (nn : Nat) (rest : List (Addr × Obj)) (P : List Int → Prop) (s : Shared) (f : Flow) (s₂ : Shared) : Prop :=
  match f with
  | .ret _ => False
  | .brk => False
  | _ => ∃ h' tk m' vs c, s₂ = { s with heap := h', toks := tk } ∧ Fr h₀ L h' m' ∧ News h₀ L h' ((d, listOf (List.toArray vs) nn) :: rest) ∧ IntsAre vs c ∧ P c ∧ (∀ z, z ≠ x → stored.contains z = false → m' z = m₀ z)
theorem IntsTurn.mk {L : Addr} {stored : List Str} {m₀ m' : Str → Option Value} {d : Addr} {nn : Nat} {rest : List (Addr × Obj)} {P : List Int → Prop} {h' : Heap} {tk : Nat} {vs : List Value} {c : List Int}
    (F : Fr h₀ L h' m') (N : News h₀ L h' ((d, listOf (List.toArray vs) nn) :: rest)) (hi : IntsAre vs c) (hp : P c) (hm : ∀ z, z ≠ x → stored.contains z = false → m' z = m₀ z) :
    IntsTurn h₀ L x stored m₀ d nn rest P s .next { s with heap := h', toks := tk } := ⟨h', tk, m', vs, c, rfl, F, N, hi, hp, hm⟩

theorem range_ints {r d : Addr} {a₀ b₀ : Int} {t₀ u₀ v₀ : Tok} {n nn : Nat} {m₀ : Str → Option Value} {rest : List (Addr × Obj)} {vs₀ : List Value} {c₀ : List Int} (stored : List Str) (P : Nat → List Int → Prop)
    (hh : A.handled = none) (hr : IsRange s.heap r a₀ b₀ 1 t₀ u₀ v₀) (hsmall : Builtin.Range.small a₀ b₀ 1 = true) (hn : Builtin.Range.rangeSize a₀ b₀ 1 = (n : Int)) (F : Fr h₀ env.locals s.heap m₀)
    (N : News h₀ env.locals s.heap ((d, listOf (List.toArray vs₀) nn) :: rest)) (hoff : ∀ p ∈ rest, p.1 ≠ d) (hi : IntsAre vs₀ c₀) (hp : P 0 c₀)
    (turn : ∀ (i : Nat) (vs : List Value) (c : List Int) t (u : Str → Option Value) h tk own, i < n → (∀ p ∈ rest ++ own, p.1 ≠ d) → IntsAre vs c → P i c →
      Fr h₀ env.locals h (fun y => if y = x then some (.int (a₀ + (i : Int)) t) else if stored.contains y then u y else m₀ y) → News h₀ env.locals h ((d, listOf (List.toArray vs) nn) :: (rest ++ own)) →
      wpAny (model prog w) A (execs body env) (IntsTurn h₀ env.locals x stored m₀ d nn (rest ++ own) (P (i + 1)) { s with heap := h, toks := tk }) E { s with heap := h, toks := tk })
    (done : ∀ (vs : List Value) (c : List Int) (u : Str → Option Value) h tk, IntsAre vs c → P n c →
      Fr h₀ env.locals h (fun y => if y = x then u y else if stored.contains y then u y else m₀ y) → News h₀ env.locals h ((d, listOf (List.toArray vs) nn) :: rest) → Q .next { s with heap := h, toks := tk }) :
    wpAny (model prog w) A (pyIter (.ref r)) (fun it s₂ => LoopAtV prog w A h₀ env x body Q E it s₂) E s := by
  refine kst_range (σ := List Value × List Int) (n := n) (fun c => (d, listOf c.1.toArray nn) :: rest) (fun _ => []) (fun c => IntsAre c.1 c.2) stored (fun pre c => P pre.length c.2) (vs₀, c₀) hh hr hsmall hn F N hi (fun _ h => nomatch h) hp ?_ ?_
  · rintro ⟨vs, c⟩ pre k t u h tk own rfl hlt hof hvs hP F₁ N₁
    refine wpAny_mono (turn pre.length vs c t u h tk own hlt (fun p hp => (List.mem_append.mp hp).elim (hoff p) fun hp => hof p hp _ (List.mem_cons_self)) hvs hP F₁ N₁) (fun f s₂ hs => ?_) fun _ _ z => z
    have fin : (∃ h' tk' m' vs' c', s₂ = { { s with heap := h, toks := tk } with heap := h', toks := tk' } ∧ Fr h₀ env.locals h' m' ∧ News h₀ env.locals h' ((d, listOf (List.toArray vs') nn) :: (rest ++ own)) ∧ IntsAre vs' c' ∧ P (pre.length + 1) c' ∧ (∀ z, z ≠ x → stored.contains z = false → m' z = m₀ z)) →
        InvEndN h₀ env.locals (KstS (fun c : List Value × List Int => (d, listOf c.1.toArray nn) :: rest) (fun _ => []) (fun c => IntsAre c.1 c.2) x stored m₀ (fun pre c => P pre.length c.2) (pre ++ [a₀ + (pre.length : Int)])) own (d :: rest.map (·.1)) { s with heap := h, toks := tk } s₂ := by
      rintro ⟨h', tk', m', vs', c', rfl, F', N', hi', hP', hm'⟩
      refine kst_end (vs', c') F' N' ?_ ?_ rfl hi' (fun _ h => nomatch h) (fun z h1 _ h3 => hm' z h1 h3) ?_
      · intro p hp
        rcases List.mem_cons.mp hp with rfl | hp
        · exact List.mem_cons_self
        · exact List.mem_cons_of_mem _ (List.mem_append_left _ hp)
      · exact fun p hp => List.mem_cons_of_mem _ (List.mem_append_right _ hp)
      · show P (pre ++ [_]).length c'
        rw [List.length_append]; exact hP'
    cases f with
    | ret v => exact hs.elim
    | brk => exact hs.elim
    | next => exact fin hs
    | cont => exact fin hs
  · rintro ⟨vs, c⟩ u h tk hvs hP F₁ N₁
    exact done vs c u h tk hvs (by simpa [rangeKs_length] using hP) F₁ N₁
end

section
variable {prog : Program} {w : World} {A : Around} {E : Value → Shared → Prop} {s : Shared} {h₀ : Heap} {L l : Addr} {m : Str → Option Value} {vs : List Value} {ns : List Int} {na : Nat} {k : Int} {u : Tok} {Q : Value → Shared → Prop}
theorem sub_base {value slice : PySem.Expr} (F : Fr h₀ L s.heap m) (hl : h₀.get? l = some (listOf vs.toArray na)) (hi : IntsAre vs ns) (h0 : 0 ≤ k) (h1 : k < ns.length) (hfit : k < 2 ^ 63) (h : ∀ t, Q (.int (ns.getD k.toNat 0) t) s)
    (hs : subscripted slice false (.ref l) (.int k u) = operate [.ref l, .int k u] (getItem (.ref l) (.int k u)) := by with_unfolding_all rfl) :
    wpAny (model prog w) A (subscriptTail value slice (.ref l) (.int k u)) Q E s :=
  item_list_intsT ⟨_, F.keep _ _ hl, rfl, na, rfl⟩ hi h0 h1 hfit h hs
theorem mul_ok {a b : Int} {t v : Tok} (hm : IntMulOk a b) (h : Q (.int (a * b) s.toks) { s with toks := s.toks + 1 }) : wpAny (model prog w) A (binaryOp .Mult (.int a t) (.int b v)) Q E s := P.mul_int h hm
end

section
variable {prog : Program} {w : World} {A : Around} {E : Value → Shared → Prop} {s : Shared} {h₀ : Heap} {L d : Addr} {m : Str → Option Value} {vs : List Value} {ns : List Int} {nn : Nat} {k x : Int} {t u : Tok} {rest : List (Addr × Obj)}
theorem set_ints {Q : Unit → Shared → Prop} (F : Fr h₀ L s.heap m) (N : News h₀ L s.heap ((d, listOf vs.toArray nn) :: rest)) (hoff : ∀ p ∈ rest, p.1 ≠ d) (hi : IntsAre vs ns) (h0 : 0 ≤ k) (h1 : k < ns.length) (hfit : k < 2 ^ 63)
    (h : ∀ h', Fr h₀ L h' m → News h₀ L h' ((d, listOf (vs.set k.toNat (.int x u)).toArray nn) :: rest) → IntsAre (vs.set k.toNat (.int x u)) (ns.set k.toNat x) → Q () { s with heap := h' }) :
    wpAny (model prog w) A (setItem (.ref d) (.int k t) (.int x u)) Q E s :=
  ksa_set F N (Upd.head hoff) hi h0 h1 hfit fun h' F' N' hi' _ _ => h h' F' N' hi'
theorem off1_all {D : Addr} : ∀ {l : List (Addr × Obj)}, LCg.Off1 D l → ∀ p ∈ l, p.1 ≠ D
  | [], _, _, h => nomatch h
  | _ :: _, x, p, h => by
    rcases List.mem_cons.mp h with rfl | h
    · exact x.1
    · exact off1_all x.2 p h
end
end Mine

namespace Mine

/-- nothing but the heap, the tokens and (bare) generators have moved -/
def Same (s s' : Shared) : Prop := s'.os = s.os ∧ (AllBare s.gens → AllBare s'.gens)
theorem Same.refl (s : Shared) : Same s s := ⟨rfl, id⟩
theorem Same.trans {a b c : Shared} (x : Same a b) (y : Same b c) : Same a c := ⟨y.1.trans x.1, fun h => y.2 (x.2 h)⟩
theorem Same.put (s : Shared) (h : Heap) (tk : Nat) : Same s { s with heap := h, toks := tk } := ⟨rfl, id⟩
theorem Same.putR {a s : Shared} (x : Same a s) (h : Heap) (tk : Nat) : Same a { s with heap := h, toks := tk } := ⟨x.1, x.2⟩

section
variable {prog : Program} {w : World} {A : Around} {E : Value → Shared → Prop} {s : Shared} {env : Env} {h₀ : Heap} {x : Str} {px : Pos} {body : List Stmt} {Q : Flow → Shared → Prop}

def TurnG {σ : Type} (h₀ : Heap) (L : Addr) (x : Str) (stored : List Str) (m₀ : Str → Option Value) (Led : σ → List (Addr × Obj)) (ps : σ → List (Str × Value)) (Inv : σ → Prop) (I : Addr) (oI : Obj) (Q : Flow → Shared → Prop) (s₁ : Shared) (f : Flow) (s₂ : Shared) : Prop :=
  match f with
  | .ret v => Q (.ret v) s₂
  | .brk => Q .next s₂
  | _ => ∃ m' c, Same s₁ s₂ ∧ Fr h₀ L s₂.heap m' ∧ News h₀ L s₂.heap ((I, oI) :: Led c) ∧ (∀ p ∈ Led c, p.1 ≠ I) ∧ (∀ p ∈ ps c, m' p.1 = some p.2) ∧ (∀ z, z ≠ x → (∀ p ∈ ps c, z ≠ p.1) → stored.contains z = false → m' z = m₀ z) ∧ Inv c
theorem TurnG.mk {σ : Type} {L : Addr} {stored : List Str} {m₀ m' : Str → Option Value} {Led : σ → List (Addr × Obj)} {ps : σ → List (Str × Value)} {Inv : σ → Prop} {I : Addr} {oI : Obj} {s₁ s₂ : Shared} (c : σ)
    (S : Same s₁ s₂) (F : Fr h₀ L s₂.heap m') (N : News h₀ L s₂.heap ((I, oI) :: Led c)) (hoff : ∀ p ∈ Led c, p.1 ≠ I) (hk : ∀ p ∈ ps c, m' p.1 = some p.2) (hm : ∀ z, z ≠ x → (∀ p ∈ ps c, z ≠ p.1) → stored.contains z = false → m' z = m₀ z) (hi : Inv c) :
    TurnG h₀ L x stored m₀ Led ps Inv I oI Q s₁ .next s₂ := ⟨m', c, S, F, N, hoff, hk, hm, hi⟩

theorem loopG {σ : Type} (Led : σ → List (Addr × Obj)) (ps : σ → List (Str × Value)) (stored : List Str) (Inv : Nat → σ → Prop) (c₀ : σ) {n : Nat} {P : Nat → Value → Prop} {St : Nat → Heap → Prop} {I : Addr} {fp : List Addr} {m₀ : Str → Option Value}
    (W : Walks prog w A I fp [I] n P St) (hIo : ∀ i h, St i h → ∃ o, h.get? I = some o) (hfp : ∀ b ∈ fp, b ≠ I → (∃ o, h₀.get? b = some o) ∨ (∃ o, ∀ c, (b, o) ∈ Led c))
    (hx : env.kindOf x = some .local) (hp : (env.scope.kind == .class || (env.scope.kind == .module && env.locals != env.globals)) = false)
    (hLf : env.locals ∉ fp) (hI₀ : h₀.get? I = none) (hst : St 0 s.heap) (F : Fr h₀ env.locals s.heap m₀) (N : News h₀ env.locals s.heap (Led c₀)) (hoff : ∀ p ∈ Led c₀, p.1 ≠ I)
    (hk : ∀ p ∈ ps c₀, m₀ p.1 = some p.2) (h0 : Inv 0 c₀)
    (turn : ∀ i c v (u : Str → Option Value) s₁ oI, i < n → P i v → Inv i c → Same s s₁ → Fr h₀ env.locals s₁.heap (fun y => if y = x then some v else kstB (fun z => if stored.contains z then u z else m₀ z) (ps c) y) →
      News h₀ env.locals s₁.heap ((I, oI) :: Led c) → (∀ p ∈ Led c, p.1 ≠ I) →
      wpAny (model prog w) A (execs body env) (TurnG h₀ env.locals x stored m₀ Led ps (Inv (i + 1)) I oI Q s₁) E s₁)
    (done : ∀ c (u : Str → Option Value) s₁, Inv n c → Same s s₁ → Fr h₀ env.locals s₁.heap (fun y => if y = x then u y else kstB (fun z => if stored.contains z then u z else m₀ z) (ps c) y) →
      News h₀ env.locals s₁.heap (Led c) → Q .next s₁)
    (hE : PassesOwn (model prog w) A env E) :
    codeAny (model prog w) A (.forLoop (.Name x px) (.ref I) body [] env) (fun r s' => match r with | .ok f => Q f s' | .error e => cameBackBy (model prog w) A env E e s') s := by
  have hIfp : I ∈ fp := W.sub I (List.mem_singleton.mpr rfl)
  have hLI : env.locals ≠ I := fun e => hLf (e ▸ hIfp)
  refine codeAny_forLoop (fun k s' => ∃ i c m', Same s s' ∧ St i s'.heap ∧ Fr h₀ env.locals s'.heap m' ∧ News h₀ env.locals s'.heap (Led c) ∧ (∀ p ∈ Led c, p.1 ≠ I) ∧ (∀ p ∈ ps c, m' p.1 = some p.2) ∧
      (∀ z, z ≠ x → (∀ p ∈ ps c, z ≠ p.1) → stored.contains z = false → m' z = m₀ z) ∧ Inv i c ∧ i ≤ n ∧ k = n + 1 - i) ?_ (n + 1)
    ⟨0, c₀, m₀, Same.refl s, hst, F, N, hoff, hk, fun _ _ _ _ => rfl, h0, Nat.zero_le _, rfl⟩
  rintro k s' ⟨i, c, m', S', hst', F', N', hoff', hk', hm', hI', hi, rfl⟩
  have old : ∀ b o, h₀.get? b = some o → b ∉ [I] := fun b o e hb => by rw [List.mem_singleton.mp hb, hI₀] at e; cases e
  have next : ∀ h₁ : Heap, (∀ b o, b ∉ [I] → s'.heap.get? b = some o → h₁.get? b = some o) → Fr h₀ env.locals h₁ m' ∧ News h₀ env.locals h₁ (Led c) := fun h₁ hk₁ =>
    ⟨⟨F'.ns.at' fun o e => hk₁ _ o (fun h => hLI (List.mem_singleton.mp h)) e, fun b o e => hk₁ b o (old b o e) (F'.keep b o e), F'.above⟩, fun p hp => ⟨hk₁ _ _ (fun h => hoff' p hp (List.mem_singleton.mp h)) (N' p hp).1, (N' p hp).2⟩⟩
  by_cases hlt : i < n
  · refine W.item i _ _ _ hlt hst' fun v h₁ tk₁ hP hst₁ hk₁ => ?_
    obtain ⟨F₁, N₁⟩ := next h₁ hk₁
    refine wpAny_assign_Name (wpAny_storeName_local hx F₁.ns (fun h₂ hn₂ hs₂ => ?_) hp)
    have F₂ := F₁.set hn₂ hs₂
    have N₂ := N₁.set hs₂
    have hst₂ : St (i + 1) h₂ := W.frame _ _ _ hst₁ fun b hb o e => (hs₂.2 b fun q => hLf (q ▸ hb)).trans e
    obtain ⟨oI, heI⟩ := hIo _ _ hst₂
    have N₃ : News h₀ env.locals h₂ ((I, oI) :: Led c) := fun p hp => by
      rcases List.mem_cons.mp hp with rfl | hp
      · exact ⟨heI, Ne.symm hLI, hI₀⟩
      · exact N₂ p hp
    refine wpAny_mono (turn i c v m' _ oI hlt hP hI' (S'.putR _ _) (kst_fr hk' hm' F₂) N₃ hoff') (fun f s₃ h₃ => ?_) fun e s₃ h₃ => hE e s₃ h₃
    have fin : (∃ m'' c', Same { s' with heap := h₂, toks := tk₁ + 1 } s₃ ∧ Fr h₀ env.locals s₃.heap m'' ∧ News h₀ env.locals s₃.heap ((I, oI) :: Led c') ∧ (∀ p ∈ Led c', p.1 ≠ I) ∧ (∀ p ∈ ps c', m'' p.1 = some p.2) ∧ (∀ z, z ≠ x → (∀ p ∈ ps c', z ≠ p.1) → stored.contains z = false → m'' z = m₀ z) ∧ Inv (i + 1) c') →
        ∃ k, k < n + 1 - i ∧ ∃ i c m', Same s s₃ ∧ St i s₃.heap ∧ Fr h₀ env.locals s₃.heap m' ∧ News h₀ env.locals s₃.heap (Led c) ∧ (∀ p ∈ Led c, p.1 ≠ I) ∧ (∀ p ∈ ps c, m' p.1 = some p.2) ∧
          (∀ z, z ≠ x → (∀ p ∈ ps c, z ≠ p.1) → stored.contains z = false → m' z = m₀ z) ∧ Inv i c ∧ i ≤ n ∧ k = n + 1 - i := by
      rintro ⟨m'', c', S₃, F₃, N₃', hoff₃, hk₃, hm₃, hI₃⟩
      refine ⟨n + 1 - (i + 1), by omega, i + 1, c', m'', (S'.putR _ _).trans S₃, ?_, F₃, fun p hp => N₃' p (List.mem_cons_of_mem _ hp), hoff₃, hk₃, hm₃, hI₃, hlt, rfl⟩
      refine W.frame _ _ _ hst₂ fun b hb o e => ?_
      by_cases hbI : b = I
      · subst hbI
        rw [heI] at e
        cases e
        exact (N₃' (b, oI) List.mem_cons_self).1
      · rcases hfp b hb hbI with ⟨o', e'⟩ | ⟨o', e'⟩
        · have e1 := F₂.keep b o' e'
          rw [e] at e1
          exact Option.some.inj e1 ▸ F₃.keep b o' e'
        · have e1 := (N₂ (b, o') (e' c)).1
          rw [e] at e1
          exact Option.some.inj e1 ▸ (N₃' (b, o') (List.mem_cons_of_mem _ (e' c'))).1
    cases f with
    | ret v => exact h₃
    | brk => exact h₃
    | next => exact fin h₃
    | cont => exact fin h₃
  · obtain rfl : i = n := by omega
    refine W.done _ _ _ hst' fun h₁ tk₁ hk₁ => wpAny_execs_nil ?_
    obtain ⟨F₁, N₁⟩ := next h₁ hk₁
    exact done c m' _ hI' (S'.putR _ _) (kst_frOut hk' hm' F₁) N₁

/-- a for over a range by ones -/
theorem for_range {σ : Type} (Led : σ → List (Addr × Obj)) (ps : σ → List (Str × Value)) (stored : List Str) (Inv : Nat → σ → Prop) (c₀ : σ) {n : Nat} {r : Addr} {a₀ b₀ : Int} {t₀ u₀ v₀ : Tok} {m₀ : Str → Option Value}
    (hh : A.handled = none) (hr : IsRange s.heap r a₀ b₀ 1 t₀ u₀ v₀) (hsmall : Builtin.Range.small a₀ b₀ 1 = true) (hn : Builtin.Range.rangeSize a₀ b₀ 1 = (n : Int))
    (hx : env.kindOf x = some .local) (hp : (env.scope.kind == .class || (env.scope.kind == .module && env.locals != env.globals)) = false)
    (F : Fr h₀ env.locals s.heap m₀) (N : News h₀ env.locals s.heap (Led c₀)) (hk : ∀ p ∈ ps c₀, m₀ p.1 = some p.2) (h0 : Inv 0 c₀)
    (turn : ∀ i c t (u : Str → Option Value) s₁ I oI, i < n → Inv i c → Same s s₁ → Fr h₀ env.locals s₁.heap (fun y => if y = x then some (.int (a₀ + (i : Int)) t) else kstB (fun z => if stored.contains z then u z else m₀ z) (ps c) y) →
      News h₀ env.locals s₁.heap ((I, oI) :: Led c) → (∀ p ∈ Led c, p.1 ≠ I) →
      wpAny (model prog w) A (execs body env) (TurnG h₀ env.locals x stored m₀ Led ps (Inv (i + 1)) I oI Q s₁) E s₁)
    (done : ∀ c (u : Str → Option Value) s₁, Inv n c → Same s s₁ → Fr h₀ env.locals s₁.heap (fun y => if y = x then u y else kstB (fun z => if stored.contains z then u z else m₀ z) (ps c) y) →
      News h₀ env.locals s₁.heap (Led c) → Q .next s₁)
    (hE : PassesOwn (model prog w) A env E := by passes_own) :
    wpAny (model prog w) A (pyIter (.ref r)) (fun it s₂ => codeAny (model prog w) A (.forLoop (.Name x px) it body [] env) (fun r s' => match r with | .ok f => Q f s' | .error e => cameBackBy (model prog w) A env E e s') s₂) E s := by
  refine wpAny_pyIter_range hr hsmall ?_
  have up : ∀ b o, s.heap.get? b = some o → (s.heap.push { cls := .type "range_iterator", data := .fields #[rawInt a₀, rawInt (Builtin.Range.rangeSize a₀ b₀ 1), rawInt 1] }).get? b = some o := fun b o e => Heap.get?_push_of_some _ e
  refine loopG (s := { s with heap := s.heap.push { cls := .type "range_iterator", data := .fields #[rawInt a₀, rawInt (Builtin.Range.rangeSize a₀ b₀ 1), rawInt 1] } }) Led ps stored Inv c₀ (LCg.range_walks hh a₀ n) (fun i h st => ⟨_, st⟩) (fun b hb hne => absurd (List.mem_singleton.mp hb) hne) hx hp
    (fun h => Nat.ne_of_lt F.ns.lt (List.mem_singleton.mp h)) (next_is_new F) (by show IsRangeIter _ _ _ _ _; rw [hn]; simpa using Heap.get?_push_size _ rfl) (F.keeps up) (N.grown up) (fun p hp => Nat.ne_of_lt (Heap.lt_size (N p hp).1)) hk h0 ?_ ?_ hE
  · rintro i c v u s₁ oI hi ⟨t, rfl⟩ hI S F' N' off
    exact turn i c t u s₁ _ oI hi hI ((Same.put s _ s.toks).trans S) F' N' off
  · intro c u s₁ hI S F' N'
    exact done c u s₁ hI ((Same.put s _ s.toks).trans S) F' N'

/-- a while by a state and a measure -/
def WhileEnd {σ : Type} (h₀ : Heap) (L : Addr) (stored : List Str) (m₀ : Str → Option Value) (Led : σ → List (Addr × Obj)) (ps : σ → List (Str × Value)) (Inv : σ → Prop) (μ : σ → Nat) (k : Nat) (Q : Flow → Shared → Prop) (s₁ : Shared) (f : Flow) (s₂ : Shared) : Prop :=
  match f with
  | .ret v => Q (.ret v) s₂
  | .brk => Q .next s₂
  | _ => ∃ m' c, Same s₁ s₂ ∧ Fr h₀ L s₂.heap m' ∧ News h₀ L s₂.heap (Led c) ∧ (∀ p ∈ ps c, m' p.1 = some p.2) ∧ (∀ z, (∀ p ∈ ps c, z ≠ p.1) → stored.contains z = false → m' z = m₀ z) ∧ Inv c ∧ μ c < k
theorem WhileEnd.mk {σ : Type} {L : Addr} {stored : List Str} {m₀ m' : Str → Option Value} {Led : σ → List (Addr × Obj)} {ps : σ → List (Str × Value)} {Inv : σ → Prop} {μ : σ → Nat} {k : Nat} {s₁ s₂ : Shared} (c : σ)
    (S : Same s₁ s₂) (F : Fr h₀ L s₂.heap m') (N : News h₀ L s₂.heap (Led c)) (hk : ∀ p ∈ ps c, m' p.1 = some p.2) (hm : ∀ z, (∀ p ∈ ps c, z ≠ p.1) → stored.contains z = false → m' z = m₀ z) (hi : Inv c) (hlt : μ c < k) :
    WhileEnd h₀ L stored m₀ Led ps Inv μ k Q s₁ .next s₂ := ⟨m', c, S, F, N, hk, hm, hi, hlt⟩
theorem while_G {σ : Type} {test : PySem.Expr} {pos : Pos} (Led : σ → List (Addr × Obj)) (ps : σ → List (Str × Value)) (stored : List Str) (Inv : σ → Prop) (μ : σ → Nat) (c₀ : σ) {L : Addr} {m₀ : Str → Option Value}
    (F : Fr h₀ L s.heap m₀) (N : News h₀ L s.heap (Led c₀)) (hk : ∀ p ∈ ps c₀, m₀ p.1 = some p.2) (h0 : Inv c₀)
    (turn : ∀ c (u : Str → Option Value) s₁, Inv c → Same s s₁ → Fr h₀ L s₁.heap (kstB (fun z => if stored.contains z then u z else m₀ z) (ps c)) → News h₀ L s₁.heap (Led c) →
      wpAny (model prog w) A (isTrue test env (eval test env)) (fun b s₂ =>
        if b = true then wpAny (model prog w) A (execs body env) (WhileEnd h₀ L stored m₀ Led ps Inv μ (μ c) Q s₁) E s₂ else Q .next s₂) E s₁)
    (hE : PassesOwn (model prog w) A env E := by passes_own) :
    wpAny (model prog w) A (exec (.While test body [] pos) env) Q E s := by
  refine wpAny_While (codeAny_whileLoop (fun k s' => ∃ c m', μ c = k ∧ Same s s' ∧ Fr h₀ L s'.heap m' ∧ News h₀ L s'.heap (Led c) ∧ (∀ p ∈ ps c, m' p.1 = some p.2) ∧ (∀ z, (∀ p ∈ ps c, z ≠ p.1) → stored.contains z = false → m' z = m₀ z) ∧ Inv c) ?_ (μ c₀)
    ⟨c₀, m₀, rfl, Same.refl s, F, N, hk, fun _ _ _ => rfl, h0⟩)
  rintro k s' ⟨c, m', rfl, S', F', N', hk', hm', hI'⟩
  refine wpAny_mono (turn c m' s' hI' S' (ksw_fr hk' hm' F') N') (fun b s₂ h₂ => ?_) hE
  cases b with
  | false =>
    simp only [Bool.false_eq_true, if_false] at h₂ ⊢
    exact wpAny_execs_nil h₂
  | true =>
    simp only [if_true] at h₂ ⊢
    refine wpAny_mono h₂ (fun f s₃ h₃ => ?_) hE
    have fin : (∃ m'' c', Same s' s₃ ∧ Fr h₀ L s₃.heap m'' ∧ News h₀ L s₃.heap (Led c') ∧ (∀ p ∈ ps c', m'' p.1 = some p.2) ∧ (∀ z, (∀ p ∈ ps c', z ≠ p.1) → stored.contains z = false → m'' z = m₀ z) ∧ Inv c' ∧ μ c' < μ c) →
        ∃ k, k < μ c ∧ ∃ c m', μ c = k ∧ Same s s₃ ∧ Fr h₀ L s₃.heap m' ∧ News h₀ L s₃.heap (Led c) ∧ (∀ p ∈ ps c, m' p.1 = some p.2) ∧ (∀ z, (∀ p ∈ ps c, z ≠ p.1) → stored.contains z = false → m' z = m₀ z) ∧ Inv c := by
      rintro ⟨m'', c', S₃, F₃, N₃, hk₃, hm₃, hI₃, hlt⟩
      exact ⟨μ c', hlt, c', m'', rfl, S'.trans S₃, F₃, N₃, hk₃, hm₃, hI₃⟩
    cases f with
    | ret v => exact h₃
    | brk => exact h₃
    | next => exact fin h₃
    | cont => exact fin h₃
end
end Mine

namespace Mine

/-- an element's end: its value, the ledger behind it -/
def EltG (h₀ : Heap) (L : Addr) (m : Str → Option Value) (s₁ : Shared) (I : Addr) (oI : Obj) (C : Addr) (oC : Obj) (D : Addr) (oD : Obj) (r : Value → List (Addr × Obj) → Prop) (y : Value) (s₂ : Shared) : Prop :=
  ∃ led, Same s₁ s₂ ∧ Fr h₀ L s₂.heap m ∧ News h₀ L s₂.heap ((I, oI) :: (C, oC) :: (D, oD) :: led) ∧ (∀ p ∈ led, p.1 ≠ I ∧ p.1 ≠ C ∧ p.1 ≠ D) ∧ r y led
theorem EltG.mk {h₀ : Heap} {L : Addr} {m : Str → Option Value} {s₁ s₂ : Shared} {I C D : Addr} {oI oC oD : Obj} {r : Value → List (Addr × Obj) → Prop} {y : Value} (led : List (Addr × Obj))
    (S : Same s₁ s₂) (F : Fr h₀ L s₂.heap m) (N : News h₀ L s₂.heap ((I, oI) :: (C, oC) :: (D, oD) :: led)) (off : ∀ p ∈ led, p.1 ≠ I ∧ p.1 ≠ C ∧ p.1 ≠ D) (hr : r y led) :
    EltG h₀ L m s₁ I oI C oC D oD r y s₂ := ⟨led, S, F, N, off, hr⟩

section
variable {prog : Program} {w : World} {A : Around} {E : Value → Shared → Prop} {s : Shared} {env : Env} {h₀ : Heap} {L : Addr} {m : Str → Option Value} {elt iter : PySem.Expr} {x : Str} {px : Pos} {scope : Scope} {cl : List (Str × Addr)} {pos : Pos}

def CompTurn (prog : Program) (w : World) (A : Around) (env : Env) (h₀ : Heap) (L : Addr) (m : Str → Option Value) (elt : PySem.Expr) (x : Str) (scope : Scope) (cl : List (Str × Addr)) (n : Nat) (P : Nat → Value → Prop) (J : Nat → List Value → List (Addr × Obj) → Prop) (s₂ : Shared) : Prop :=
  ∀ i ys led v I oI C oC D (m₂ : Str → Option Value) s₁ (E' : Value → Shared → Prop), i < n → ys.length = i → J i ys led → P i v → LCg.NsObj oC m₂ → m₂ x = some v → Same s₂ s₁ → Fr h₀ L s₁.heap m →
    News h₀ L s₁.heap ((I, oI) :: (C, oC) :: (D, LCg.lst ys) :: led) → (∀ p ∈ led, p.1 ≠ I ∧ p.1 ≠ C ∧ p.1 ≠ D) →
    wpAny (model prog w) A (eval elt (compEnvC scope cl C env)) (EltG h₀ L m s₁ I oI C oC D (LCg.lst ys) (fun y led' => J (i + 1) (ys ++ [y]) led')) E' s₁

theorem block_G {s₂ : Shared} {I : Addr} {fp : List Addr} {n : Nat} {P : Nat → Value → Prop} {St : Nat → Heap → Prop} (J : Nat → List Value → List (Addr × Obj) → Prop) {led₀ : List (Addr × Obj)} {RR : Value → Addr → Result → Shared → Prop}
    (W : Walks prog w A I fp [I] n P St) (hsz : n ≤ sizeLine) (hIo : ∀ i h, St i h → ∃ o, h.get? I = some o) (hfpJ : ∀ b ∈ fp, b ≠ I → (∃ o, h₀.get? b = some o) ∨ (∃ o, ∀ i ys led, J i ys led → (b, o) ∈ led))
    (hcell : ∀ y ∈ scope.names, y.2 ≠ .cell) (hkind : scope.kind = .function) (hx : scope.names.lookup x = some .local) (hst : St 0 s₂.heap) (hfp : ∀ b ∈ fp, b < s₂.heap.objs.size)
    (F : Fr h₀ L s₂.heap m) (N : News h₀ L s₂.heap led₀) (hIL : L ≠ I) (hI₀ : h₀.get? I = none) (off : ∀ p ∈ led₀, p.1 ≠ I) (h0 : J 0 [] led₀)
    (turn : CompTurn prog w A env h₀ L m elt x scope cl n P J s₂)
    (hRR : ∀ D C s₃ m' ys led, ys.length = n → J n ys led → Same s₂ s₃ → Fr h₀ L s₃.heap m → News h₀ L s₃.heap ((D, LCg.lst ys) :: led) → (∀ p ∈ led, p.1 ≠ D) → s₃.heap.Ns C m' → h₀.get? C = none → h₀.get? D = none → C ≠ L → D ≠ L → C ≠ D → (∀ p ∈ led, p.1 ≠ C) → RR (.ref D) C (.ok .next) s₃) :
    wpAny (model prog w) A (newList []) (fun acc s₃ => wpAny (model prog w) A (newFunctionEnv scope env.globals cl [] env.qual none .none (some env)) (fun cenv s₄ =>
      codeAny (model prog w) A (.compStart (.ListComp elt [⟨.Name x px, iter, [], 0⟩] scope pos) 0 (.ref I) acc { cenv with scope := relabel scope env }) (RR acc cenv.locals) s₄) E s₃) E s₂ := by
  refine wpAny_newObj_type (wpAny_newFunctionEnv hcell (by intro y hy; simp at hy) (fun h₁ hns₁ hsb₁ => ?_) hkind)
  dsimp only at hns₁ hsb₁ ⊢
  generalize hH2 : s₂.heap.push { cls := .type "list", dict := none, data := .seq ([] : List Value).toArray } = H2 at hns₁ hsb₁ ⊢
  have hC : H2.objs.size = s₂.heap.objs.size + 1 := by rw [← hH2, Heap.size_push]
  generalize hCd : H2.objs.size = C at hns₁ hsb₁ hC ⊢
  generalize hDd : s₂.heap.objs.size = D at hC hfp ⊢
  have hDC : D ≠ C := by rw [hC]; exact Nat.ne_of_lt (Nat.lt_succ_self _)
  have below : ∀ b, b < D → b ≠ C ∧ b ≠ D := fun b hb => ⟨by rw [hC]; exact Nat.ne_of_lt (Nat.lt_succ_of_lt hb), Nat.ne_of_lt hb⟩
  have hDf : D ∉ fp := fun hm => Nat.lt_irrefl _ (hfp _ hm)
  have hCf : C ∉ fp := fun hm => by have := hfp _ hm; rw [hC] at this; exact Nat.lt_irrefl _ (Nat.lt_of_succ_lt this)
  have hIf : I ∈ fp := W.sub I (List.mem_singleton.mpr rfl)
  have hIlt : I < D := hfp I hIf
  have old : ∀ b o, s₂.heap.get? b = some o → h₁.get? b = some o := fun b o e => hsb₁.extBut b o (below b (hDd ▸ Heap.lt_size e)).1 (Heap.get?_push_of_some _ (hH2 ▸ Heap.get?_push_of_some _ e))
  have hacc : h₁.get? D = some (LCg.lst []) := hsb₁.extBut _ _ hDC (Heap.get?_push_of_some _ (hH2 ▸ hDd ▸ Heap.get?_push_size _ rfl))
  have hst₁ : St 0 h₁ := W.frame _ _ _ hst fun b _ o e => old b o e
  have fresh : ∀ a, D ≤ a → s₂.heap.get? a = none := fun a ha => by
    cases e : s₂.heap.get? a with
    | none => rfl
    | some o' => exact absurd (Heap.lt_size e) (Nat.not_lt.mpr (hDd ▸ ha))
  have fresh₀ : ∀ a, D ≤ a → h₀.get? a = none := fun a ha => by
    cases e : h₀.get? a with
    | none => rfl
    | some o' => have := F.keep a o' e; rw [fresh a ha] at this; cases this
  have hD₀ : h₀.get? D = none := fresh₀ _ (Nat.le_refl _)
  have hC₀ : h₀.get? C = none := fresh₀ _ (by rw [hC]; exact Nat.le_succ _)
  have hLlt : L < D := hDd ▸ F.ns.lt
  have hDL : D ≠ L := Ne.symm (below L hLlt).2
  have hCL : C ≠ L := Ne.symm (below L hLlt).1
  have hCI : I ≠ C := (below I hIlt).1
  have hDI : I ≠ D := (below I hIlt).2
  have off₀ : ∀ p ∈ led₀, p.1 ≠ I ∧ p.1 ≠ C ∧ p.1 ≠ D := fun p hp => ⟨off p hp, (below _ (hDd ▸ Heap.lt_size (N p hp).1)).1, (below _ (hDd ▸ Heap.lt_size (N p hp).1)).2⟩
  have loop : ∀ s₃ : Shared, s₃ = { s₂ with heap := h₁, toks := s₂.toks + ([] : List (Str × Value)).length } →
      codeAny (model prog w) A (.compLoop (.ListComp elt [⟨.Name x px, iter, [], 0⟩] scope pos) 0 (.ref I) (.ref D) (compEnvC scope cl C env)) (RR (.ref D) C) s₃ := by
    rintro s₃ rfl
    refine codeAny_compLoop_tests
      (fun k s' => ∃ i ys m' led, Same s₂ s' ∧ i ≤ n ∧ k = n + 1 - i ∧ ys.length = i ∧ St i s'.heap ∧ Fr h₀ L s'.heap m ∧ s'.heap.Ns C m' ∧ News h₀ L s'.heap ((D, LCg.lst ys) :: led) ∧
        (∀ p ∈ led, p.1 ≠ I ∧ p.1 ≠ C ∧ p.1 ≠ D) ∧ J i ys led) ?_ (n + 1)
      ⟨0, [], _, led₀, Same.put s₂ _ _, Nat.zero_le _, rfl, rfl, hst₁, F.keeps old, hns₁, fun p hp => ?_, off₀, h0⟩
    · rintro k s' ⟨i, ys, m', led, S', hi, rfl, hyl, hst', F', hn', N', off', hJ⟩
      by_cases hlt : i < n
      · refine W.item i _ _ _ hlt hst' fun v h₂ tk₂ hPv hst₂ hk₂ => ?_
        refine wpAny_assign_Name (wpAny_storeName_local (lookup_relabel_local hx) (hn'.at' fun o e => hk₂ _ o (by simpa using Ne.symm hCI) e) (fun h₃ hn₃ hs₃ => ?_) (by simp [compEnvC, relabel, hkind]))
        refine wpAny_tests_nil ?_
        simp only [if_true]
        have hst₃ : St (i + 1) h₃ := W.frame _ _ _ hst₂ fun b hb o e => hs₃.extBut b o (fun q => hCf (by have q' : b = C := q; rw [← q']; exact hb)) e
        obtain ⟨oI, heI⟩ := hIo _ _ hst₃
        obtain ⟨oC, heC, hoC⟩ := LCg.ns_obj hn₃
        have F₃ : Fr h₀ L h₃ m := (LCg.fr_but F' hk₂ hIL hI₀).change hs₃ hCL hC₀
        have N₂ : News h₀ L h₂ ((D, LCg.lst ys) :: led) := LCg.news_but N' hk₂ fun p hp => by
          rcases List.mem_cons.mp hp with rfl | hp
          · exact Ne.symm hDI
          · exact (off' p hp).1
        have N₃ : News h₀ L h₃ ((I, oI) :: (C, oC) :: (D, LCg.lst ys) :: led) := fun p hp => by
          rcases List.mem_cons.mp hp with rfl | hp
          · exact ⟨heI, Ne.symm hIL, hI₀⟩
          · rcases List.mem_cons.mp hp with rfl | hp
            · exact ⟨heC, hCL, hC₀⟩
            · have z := N₂ p hp
              refine ⟨hs₃.extBut _ _ ?_ z.1, z.2⟩
              rcases List.mem_cons.mp hp with rfl | hp
              · exact hDC
              · exact (off' p hp).2.1
        refine wpAny_mono (turn i ys led v I oI C oC D _ { s' with heap := h₃, toks := tk₂ + 1 } _ hlt hyl hJ hPv hoC (by simp) (S'.putR _ _) F₃ N₃ off') (fun y s₄ h₄ => ?_) fun _ _ e => e
        obtain ⟨led₄, S₄, F₄, N₄, off₄, hJ₄⟩ := h₄
        have zI := (N₄ (I, oI) List.mem_cons_self).1
        have zC := (N₄ (C, oC) (List.mem_cons_of_mem _ List.mem_cons_self)).1
        have zD := (N₄ (D, LCg.lst ys) (List.mem_cons_of_mem _ (List.mem_cons_of_mem _ List.mem_cons_self))).1
        have N₄' : News h₀ L s₄.heap led₄ := fun p hp => N₄ p (List.mem_cons_of_mem _ (List.mem_cons_of_mem _ (List.mem_cons_of_mem _ hp)))
        have hst₄ : St (i + 1) s₄.heap := W.frame _ _ _ hst₃ fun b hb o e => by
          by_cases hbI : b = I
          · subst hbI
            rw [heI] at e
            exact Option.some.inj e ▸ zI
          · rcases hfpJ b hb hbI with ⟨o', e'⟩ | ⟨o', e'⟩
            · have e1 := F₃.keep b o' e'
              rw [e] at e1
              exact Option.some.inj e1 ▸ F₄.keep b o' e'
            · have e1 := (N₃ (b, o') (List.mem_cons_of_mem _ (List.mem_cons_of_mem _ (List.mem_cons_of_mem _ (e' _ _ _ hJ))))).1
              rw [e] at e1
              exact Option.some.inj e1 ▸ (N₄' (b, o') (e' _ _ _ hJ₄)).1
        refine append_at (hsz := by show ys.toArray.size ≤ sizeLine; rw [List.size_toArray, hyl]; exact Nat.le_trans hi hsz) zD fun h₅ hs₅ hD₅ => ?_
        refine ⟨n + 1 - (i + 1), by omega, i + 1, ys ++ [y], _, led₄, (S'.putR _ _).trans (S₄.trans (Same.put s₄ _ s₄.toks)), hlt, rfl, by rw [List.length_append, List.length_singleton, hyl], W.frame _ _ _ hst₄ fun b hb o e => hs₅.extBut b o (fun q => hDf (q ▸ hb)) e, F₄.change hs₅ hDL hD₀,
          (hoC.ns zC).sameBut hs₅ (Ne.symm hDC), fun p hp => ?_, off₄, hJ₄⟩
        rcases List.mem_cons.mp hp with rfl | hp
        · exact ⟨hD₅.trans (congrArg some (LCg.lst_snoc ys y)), hDL, hD₀⟩
        · exact ⟨hs₅.extBut _ _ (off₄ p hp).2.2 (N₄' p hp).1, (N₄' p hp).2⟩
      · obtain rfl : i = n := Nat.le_antisymm hi (Nat.not_lt.mp hlt)
        refine W.done _ _ _ hst' fun h₂ tk₂ hk₂ => ?_
        exact hRR _ _ _ _ ys led hyl hJ (S'.putR _ _) (LCg.fr_but F' hk₂ hIL hI₀) (LCg.news_but N' hk₂ fun p hp => by
          rcases List.mem_cons.mp hp with rfl | hp
          · exact Ne.symm hDI
          · exact (off' p hp).1) (fun p hp => (off' p hp).2.2) (hn'.at' fun o e => hk₂ _ o (by simpa using Ne.symm hCI) e) hC₀ hD₀ hCL hDL (Ne.symm hDC) (fun p hp => (off' p hp).2.1)
    · rcases List.mem_cons.mp hp with rfl | hp
      · exact ⟨hacc, hDL, hD₀⟩
      · exact ⟨old _ _ (N p hp).1, (N p hp).2⟩
  exact codeAny_compStart_list (loop _ rfl) (W.self 0 _ _ _ hst₁ (loop _ rfl))

/-- where a comprehension's values come from: a range, or a list that the turns leave alone; and what is to be shown -/
def CompG (prog : Program) (w : World) (A : Around) (env : Env) (h₀ : Heap) (L : Addr) (m : Str → Option Value) (elt : PySem.Expr) (x : Str) (scope : Scope) (cl : List (Str × Addr)) (Fin : Value → List Value → List (Addr × Obj) → Shared → Prop) (xv : Value) (s₁ : Shared) : Prop :=
  A.handled = none ∧ ∃ (n : Nat) (P : Nat → Value → Prop) (J : Nat → List Value → List (Addr × Obj) → Prop) (led₀ : List (Addr × Obj)), n ≤ sizeLine ∧ Fr h₀ L s₁.heap m ∧ News h₀ L s₁.heap led₀ ∧ J 0 [] led₀ ∧
    ((∃ r a b t u v, xv = .ref r ∧ IsRange s₁.heap r a b 1 t u v ∧ Builtin.Range.small a b 1 = true ∧ Builtin.Range.rangeSize a b 1 = (n : Int) ∧ P = fun i v => ∃ t, v = .int (a + (i : Int)) t) ∨
     (∃ l its, xv = .ref l ∧ its.size = n ∧ P = (fun i v => its[i]? = some v) ∧ ((∃ o, h₀.get? l = some o ∧ o.cls = .type "list" ∧ ∃ k, o.data = .seq its k) ∨ (∃ o, (∀ i ys led, J i ys led → (l, o) ∈ led) ∧ o.cls = .type "list" ∧ ∃ k, o.data = .seq its k)))) ∧
    CompTurn prog w A env h₀ L m elt x scope cl n P J s₁ ∧
    (∀ D ys led s₃, ys.length = n → J n ys led → Same s₁ s₃ → Fr h₀ L s₃.heap m → News h₀ L s₃.heap ((D, LCg.lst ys) :: led) → (∀ p ∈ led, p.1 ≠ D) → Fin (.ref D) ys led s₃)

theorem CompTurn.of_same {n : Nat} {P : Nat → Value → Prop} {J : Nat → List Value → List (Addr × Obj) → Prop} {s₁ s₂ : Shared} (S : Same s₁ s₂) (h : CompTurn prog w A env h₀ L m elt x scope cl n P J s₁) : CompTurn prog w A env h₀ L m elt x scope cl n P J s₂ :=
  fun i ys led v I oI C oC D m₂ s' E' h1 h2 h3 h4 h5 h6 S' => h i ys led v I oI C oC D m₂ s' E' h1 h2 h3 h4 h5 h6 (S.trans S')

theorem comp_core {RR : Value → Addr → Result → Shared → Prop} {Fin : Value → List Value → List (Addr × Obj) → Shared → Prop} {xv : Value} {s₁ : Shared}
    (hcell : ∀ y ∈ scope.names, y.2 ≠ .cell) (hkind : scope.kind = .function) (hx : scope.names.lookup x = some .local)
    (h : CompG prog w A env h₀ L m elt x scope cl Fin xv s₁)
    (hRR : ∀ D C s₃ m' ys led, Fin (.ref D) ys led s₃ → Fr h₀ L s₃.heap m → News h₀ L s₃.heap ((D, LCg.lst ys) :: led) → s₃.heap.Ns C m' → h₀.get? C = none → C ≠ L → D ≠ L → h₀.get? D = none → C ≠ D → (∀ p ∈ led, p.1 ≠ C) → (∀ p ∈ led, p.1 ≠ D) →
      (∀ s₄, Same s₃ s₄ → Fr h₀ L s₄.heap m → News h₀ L s₄.heap ((D, LCg.lst ys) :: led) → Fin (.ref D) ys led s₄) → RR (.ref D) C (.ok .next) s₃) :
    wpAny (model prog w) A (pyIter xv) (fun it s₂ => wpAny (model prog w) A (newList []) (fun acc s₃ => wpAny (model prog w) A (newFunctionEnv scope env.globals cl [] env.qual none .none (some env)) (fun cenv s₄ =>
      codeAny (model prog w) A (.compStart (.ListComp elt [⟨.Name x px, iter, [], 0⟩] scope pos) 0 it acc { cenv with scope := relabel scope env }) (RR acc cenv.locals) s₄) E s₃) E s₂) E s₁ := by
  obtain ⟨hh, n, P, J, led₀, hsz, F, N, h0, src, turn, fin⟩ := h
  rcases src with ⟨r, a, b, t, u, v, rfl, hr, hsm, hn, rfl⟩ | ⟨l, its, rfl, rfl, rfl, hl⟩
  · refine wpAny_pyIter_range hr hsm ?_
    refine block_G J (LCg.range_walks hh a n) hsz (fun i h st => ⟨_, st⟩) (fun b hb hne => absurd (List.mem_singleton.mp hb) hne) hcell hkind hx (by show IsRangeIter _ _ _ _ _; rw [hn]; simpa using Heap.get?_push_size _ rfl) (fun b hb => ?_)
      (F.keeps fun _ _ e => Heap.get?_push_of_some _ e) (N.grown fun _ _ e => Heap.get?_push_of_some _ e) (Nat.ne_of_lt F.ns.lt) (next_is_new F) (fun p hp => Nat.ne_of_lt (Heap.lt_size (N p hp).1)) h0 (turn.of_same (Same.put s₁ _ s₁.toks)) ?_
    · rw [List.mem_singleton.mp hb]
      show s₁.heap.objs.size < (s₁.heap.push _).objs.size
      rw [Heap.size_push]; exact Nat.lt_succ_self _
    · intro D C s₃ m' ys led hl hJ S' F' N' o1 hn hC₀ hD₀ hCL hDL hCD offC
      exact hRR D C s₃ m' ys led (fin D ys led s₃ hl hJ ((Same.put s₁ _ s₁.toks).trans S') F' N' o1) F' N' hn hC₀ hCL hDL hD₀ hCD offC o1 (fun s₄ S₄ F₄ N₄ => fin D ys led s₄ hl hJ (((Same.put s₁ _ s₁.toks).trans S').trans S₄) F₄ N₄ o1)
  · have hls : s₁.heap.IsList l its := by
      rcases hl with ⟨o, e, r⟩ | ⟨o, hm, r⟩
      · exact ⟨o, F.keep _ _ e, r⟩
      · exact ⟨o, (N _ (hm _ _ _ h0)).1, r⟩
    have hlt : l < s₁.heap.objs.size := by obtain ⟨_, e, _⟩ := hls; exact Heap.lt_size e
    refine wpAny_pyIter_list hls ?_
    have up : ∀ b o, s₁.heap.get? b = some o → (s₁.heap.push { cls := .type "list_iterator", data := .fields #[.ref l, .int 0 0] }).get? b = some o := fun b o e => Heap.get?_push_of_some _ e
    refine block_G J (Walks.list hh s₁.heap.objs.size l (Nat.ne_of_lt hlt) its) hsz (fun i h st => by obtain ⟨o, e, _⟩ := st.1; exact ⟨o, e⟩) (fun b hb hne => ?_) hcell hkind hx ⟨⟨_, Heap.get?_push_size _ rfl, rfl, rfl⟩, hls.push _⟩ (fun b hb => ?_)
      (F.keeps up) (N.grown up) (Nat.ne_of_lt F.ns.lt) (next_is_new F) (fun p hp => Nat.ne_of_lt (Heap.lt_size (N p hp).1)) h0 (turn.of_same (Same.put s₁ _ s₁.toks)) ?_
    · rcases List.mem_cons.mp hb with e | hb
      · exact absurd e hne
      · rw [List.mem_singleton.mp hb]
        rcases hl with ⟨o, e, _⟩ | ⟨o, hm, _⟩
        · exact .inl ⟨o, e⟩
        · exact .inr ⟨o, hm⟩
    · show b < (s₁.heap.push _).objs.size
      rw [Heap.size_push]
      rcases List.mem_cons.mp hb with rfl | hb
      · exact Nat.lt_succ_self _
      · rw [List.mem_singleton.mp hb]; exact Nat.lt_succ_of_lt hlt
    · intro D C s₃ m' ys led hl hJ S' F' N' o1 hn hC₀ hD₀ hCL hDL hCD offC
      exact hRR D C s₃ m' ys led (fin D ys led s₃ hl hJ ((Same.put s₁ _ s₁.toks).trans S') F' N' o1) F' N' hn hC₀ hCL hDL hD₀ hCD offC o1 (fun s₄ S₄ F₄ N₄ => fin D ys led s₄ hl hJ (((Same.put s₁ _ s₁.toks).trans S').trans S₄) F₄ N₄ o1)

theorem eval_ListComp_G {Q : Value → Shared → Prop} (_F₀ : Fr h₀ L s.heap m)
    (hclos : closureFor scope env = pure cl) (hcell : ∀ y ∈ scope.names, y.2 ≠ .cell) (hkind : scope.kind = .function)
    (hnames : ∀ y ∈ scope.names, y.2 = .local → scope.names.lookup y.1 = some .local) (hx : scope.names.lookup x = some .local)
    (h : wpAny (model prog w) A (eval iter env) (CompG prog w A env h₀ L m elt x scope cl (fun v _ _ s' => Q v s')) E s)
    (hs : ∀ x, foldedSetIterable iter env x = pure x := by intro _; rfl) :
    wpAny (model prog w) A (eval (.ListComp elt [⟨.Name x px, iter, [], 0⟩] scope pos) env) Q E s := by
  rw [eval_ListComp]
  refine wpAny_comprehension_free (use := none) rfl hs hclos hkind hnames (wpAny_mono h (fun xv s₁ h₁ => ?_) fun _ _ e => e)
  refine comp_core hcell hkind hx h₁ ?_
  intro D C s₃ m' ys led hf F N hn hC₀ hCL hDL hD₀ hCD offC offD again
  refine ⟨m', hn, fun h'' hs'' => again { s₃ with heap := h'' } (Same.put s₃ _ s₃.toks) (F.change hs'' hCL hC₀) fun p hp => ?_⟩
  refine ⟨hs''.extBut _ _ ?_ (N p hp).1, (N p hp).2⟩
  rcases List.mem_cons.mp hp with rfl | hp
  · exact Ne.symm hCD
  · exact offC p hp
end
end Mine

namespace Mine

theorem grow_push (h : Heap) (o : Obj) : Grow h (h.push o) := fun _ _ e => Heap.get?_push_of_some _ e
theorem none_of_ge {h : Heap} {a : Addr} (e : h.objs.size ≤ a) : h.get? a = none := Heap.get?_none_of_le e
section
variable {prog : Program} {w : World} {A : Around} {s : Shared} {h₀ : Heap} {K : Frag} {p : Program} {loose : List Str} {mg mb : Str → Option Value}
  {R : Result → Shared → Prop} {name qual : Str} {params : Arguments} {body : List Stmt} {scope : Scope} {dV kV doc pm cdv ct oc : Value} {an od : Option Addr} {osl : Array (Option Value)} {f C : Addr} {args : Args} {binds : List (Str × Value)}

/-- a class of the text's called: the new object, its empty dict, then its __init__ -/
theorem newK {rest : List Value} {kw : List (Str × Value)} {fI : Addr} (X : K.In s.heap) (hm : makesIn K C = true)
    (hi : findIn K (.ref C) "__init__" = some (some (.ref fI))) (hf : typeIn K (.ref fI) = some (.type "function"))
    (h : ∀ x dx h', Grow s.heap h' → Fresh s.heap h' x (instObj C dx) → Fresh s.heap h' dx (dictOf [] 0) → dx ≠ x →
      codeAny (model prog w) (A.under (.builtin "type.__call__" ⟨.ref C :: rest, kw⟩)) (.call (.ref fI) ⟨.ref x :: rest, kw⟩) (InitBack x R) { s with heap := h' }) :
    codeAny (model prog w) A (.call (.ref C) ⟨rest, kw⟩) R s := by
  obtain ⟨hh, g, d, t, os⟩ := s
  refine make_core (makes_of X hm) (looks_findIn X hi) (fun self => bind_fn X self hf) (.inl rfl) (h (hh.objs.size + 1) hh.objs.size _ ((grow_push _ _).trans (grow_push _ _)) ⟨?_, none_of_ge (Nat.le_succ _)⟩ ⟨?_, none_of_ge (Nat.le_refl _)⟩ (Nat.ne_of_lt (Nat.lt_succ_self _)))
  · have := Heap.get?_push_size (hh.push emptyDict) (o := instObj C hh.objs.size) rfl
    rwa [Heap.size_push] at this
  · exact Heap.get?_push_of_some _ (Heap.get?_push_size _ rfl)

/-- a call of a def that turns some of its caller's objects: they are hidden from its ground and stand in its ledger -/
theorem enterH (hs : List (Addr × Obj)) (hsub : Grow h₀ s.heap) (X : K.In h₀) (T : TopRead p loose mg mb h₀) (H : ∀ q ∈ hs, HeapIs s.heap q.1 q.2 ∧ h₀.get? q.1 = none)
    (ho : K.lookup f = some ⟨oc, od, .func (fnOf name qual params body scope dV kV doc pm an cdv ct), osl⟩) (hcd : codeIn K cdv qual = true) (hroom : A.depth < recursionLimit)
    (hbind : BindsTo s (fnOf name qual params body scope dV kV doc pm an cdv ct) args binds) (hloc : ∀ y ∈ binds, scope.names.lookup y.1 = some .local)
    (h : ∀ g L' h₁, Grow h₀ g → Grow g s.heap → (∀ b o, s.heap.get? b = some o → b ∉ hs.map (·.1) → g.get? b = some o) → (∀ q ∈ hs, g.get? q.1 = none) → g.objs.size = s.heap.objs.size → K.In g → TopRead p loose mg mb g →
      Fr g L' h₁ (fun y => binds.reverse.lookup y) → News g L' h₁ hs →
      wpAny (model prog w) (A.deeper (envOf qual scope L' f cdv)) (execs body (envOf qual scope L' f cdv))
        (fun fl s' => R (.ok (.ret (match fl with | .ret v => v | _ => .none))) s') (fun _ _ => False)
        { s with heap := h₁, toks := s.toks + binds.length })
    (hco : scope.isCoroutine = false) (hgen : scope.isGenerator = false) (hk : scope.kind = .function)
    (hcell : ∀ x ∈ scope.names, x.2 ≠ .cell) : codeAny (model prog w) A (.call (.ref f) args) R s := by
  have st : Grow h₀ (hideAll s.heap (hs.map (·.1))) := fun b o e => hideAll_get _ (hsub b o e) fun hb => by
    obtain ⟨q, hq, rfl⟩ := List.mem_map.mp hb
    rw [(H q hq).2] at e; cases e
  refine codeAny_call_def (fd := fnOf name qual params body scope dV kV doc pm an cdv ct) (body := body) (binds := binds) hroom (hsub _ _ (X _ _ ho)) rfl (T.nolimit.keeps hsub) (codeRec_of (X.keeps hsub) hcd) rfl hbind hcell hloc (fun h₁ hns hk₁ => ?_) hco hgen hk
  exact wpAny_mono (h _ s.heap.objs.size h₁ st (fun b o e => of_hideAll _ e) (fun b o e n => hideAll_get _ e n) (fun q hq => hideAll_none _ (List.mem_map_of_mem hq)) (hideAll_size _ _) (X.keeps st) (T.keeps st) ⟨hns, fun b o e => hk₁ b o (of_hideAll _ e), Nat.le_of_eq (hideAll_size _ _)⟩
    (fun q hq => ⟨hk₁ _ _ (H q hq).1, Nat.ne_of_lt (Heap.lt_size (H q hq).1), hideAll_none _ (List.mem_map_of_mem hq)⟩)) (fun _ _ y => y) fun _ _ y => y.elim

theorem enterHC (hs : List (Addr × Obj)) (hsub : Grow h₀ s.heap) (X : K.In h₀) (T : TopRead p loose mg mb h₀) (H : ∀ q ∈ hs, HeapIs s.heap q.1 q.2 ∧ h₀.get? q.1 = none)
    (ho : K.lookup f = some ⟨oc, od, .func (fnOf name qual params body scope dV kV doc pm an cdv ct), osl⟩) (hcd : codeIn K cdv qual = true) (hroom : A.depth < recursionLimit)
    (hbind : BindsTo s (fnOf name qual params body scope dV kV doc pm an cdv ct) args binds)
    (hkind : (binds.all fun y => scope.names.lookup y.1 == some .local || scope.names.lookup y.1 == some .cell) = true)
    (hnd : ((cellsFrom 0 scope.names []).map (·.1)).Nodup)
    (h : ∀ g L' h₁ tk cells, Grow h₀ g → Grow g s.heap → (∀ b o, s.heap.get? b = some o → b ∉ hs.map (·.1) → g.get? b = some o) → (∀ q ∈ hs, g.get? q.1 = none) → g.objs.size = s.heap.objs.size → K.In g → TopRead p loose mg mb g →
      Fr g L' h₁ (bindL (envOfC qual scope L' f cdv).kindOf binds fun _ => none) → News g L' h₁ (cells ++ hs) → CellsAre (bindC (envOfC qual scope L' f cdv).kindOf binds fun _ => none) (cellsFrom (L' + 1) scope.names []) cells →
      (∀ q ∈ hs, q.1 < L') → (∀ q ∈ cells, L' < q.1) →
      wpAny (model prog w) (A.deeper (envOfC qual scope L' f cdv)) (execs body (envOfC qual scope L' f cdv))
        (fun fl s' => R (.ok (.ret (match fl with | .ret v => v | _ => .none))) s') (fun _ _ => False)
        { s with heap := h₁, toks := tk })
    (hco : scope.isCoroutine = false) (hgen : scope.isGenerator = false) (hk : scope.kind = .function) : codeAny (model prog w) A (.call (.ref f) args) R s := by
  have st : Grow h₀ (hideAll s.heap (hs.map (·.1))) := fun b o e => hideAll_get _ (hsub b o e) fun hb => by
    obtain ⟨q, hq, rfl⟩ := List.mem_map.mp hb
    rw [(H q hq).2] at e; cases e
  refine codeAny_call_function hroom (hsub _ _ (X _ _ ho)) rfl hco hgen rfl (codeRec_of (X.keeps hsub) hcd) (hbind _ _ _ _ ?_)
  refine wpAny_newFunctionEnv_cells hk (kindsX hkind _) fun env' he s' x => ?_
  subst he
  refine ⟨(T.nolimit.keeps hsub).keeps x.toInCall.keep, codeAny_func ?_⟩
  obtain ⟨h₁, tk, rfl, _⟩ := x.done
  have hk₁ := x.toInCall.keep
  obtain ⟨cells, NC, Y⟩ := Cl.news (h₀ := s.heap) (Nat.le_refl _) fun n c hm => ⟨x.cell n c (lookup_of_mem_nodup (cellsFrom_names scope.names 0 (s.heap.objs.size + 1) [] [] rfl ▸ hnd) hm), x.above n c hm⟩
  have hab : ∀ {cm : Str → Option Value} {cs : List (Str × Addr)} {cells : List (Addr × Obj)}, CellsAre cm cs cells → (∀ n c, (n, c) ∈ cs → s.heap.objs.size < c) → ∀ q ∈ cells, s.heap.objs.size < q.1 := by
    intro cm cs cells Y
    induction Y with
    | nil => intro _ q hq; cases hq
    | cons _ _ ih =>
      intro hc q hq
      rcases List.mem_cons.mp hq with rfl | hq
      · exact hc _ _ List.mem_cons_self
      · exact ih (fun n c hm => hc n c (List.mem_cons_of_mem _ hm)) q hq
  refine wpAny_mono (h _ s.heap.objs.size h₁ tk cells st (fun b o e => of_hideAll _ e) (fun b o e n => hideAll_get _ e n) (fun q hq => hideAll_none _ (List.mem_map_of_mem hq)) (hideAll_size _ _) (X.keeps st) (T.keeps st) ⟨x.toInCall.ns, fun b o e => hk₁ b o (of_hideAll _ e), Nat.le_of_eq (hideAll_size _ _)⟩ (fun q hq => ?_) Y
    (fun q hq => Heap.lt_size (H q hq).1) (hab Y fun n c hm => x.above n c hm)) (fun _ _ y => y) fun _ _ y => y.elim
  rcases List.mem_append.mp hq with hq | hq
  · refine ⟨(NC q hq).1, (NC q hq).2.1, ?_⟩
    cases e : (hideAll s.heap (hs.map (·.1))).get? q.1 with
    | none => rfl
    | some o => have := of_hideAll _ e; rw [(NC q hq).2.2] at this; cases this
  · exact ⟨hk₁ _ _ (H q hq).1, Nat.ne_of_lt (Heap.lt_size (H q hq).1), hideAll_none _ (List.mem_map_of_mem hq)⟩
end

section
variable {prog : Program} {w : World} {A : Around} {E : Value → Shared → Prop} {s : Shared} {h₀ : Heap} {L l : Addr} {m : Str → Option Value} {vs : List Value} {ns : List Int} {na k : Nat} {news : List (Addr × Obj)}
theorem len_base {Q : Value → Shared → Prop} (F : Fr h₀ L s.heap m) (hl : h₀.get? l = some (listOf vs.toArray na)) (hi : vs.length = k) (hfit : (k : Int) < 2 ^ 63)
    (h : Q (.int (k : Int) (s.toks + 1)) { s with toks := s.toks + 1 + 1 }) : wpAny (model prog w) A (call (.builtin "len") [.ref l]) Q E s := by
  have e2 : vs.toArray.size = k := by rw [List.size_toArray, hi]
  exact len_list ⟨_, F.keep _ _ hl, rfl, na, rfl⟩ (by rw [e2]; exact hfit) (by rw [e2]; exact h)
theorem len_led {Q : Value → Shared → Prop} (N : News h₀ L s.heap news) (hl : (l, listOf vs.toArray na) ∈ news) (hi : vs.length = k) (hfit : (k : Int) < 2 ^ 63)
    (h : Q (.int (k : Int) (s.toks + 1)) { s with toks := s.toks + 1 + 1 }) : wpAny (model prog w) A (call (.builtin "len") [.ref l]) Q E s := by
  have e2 : vs.toArray.size = k := by rw [List.size_toArray, hi]
  exact len_list ⟨_, (N _ hl).1, rfl, na, rfl⟩ (by rw [e2]; exact hfit) (by rw [e2]; exact h)
end

section
variable {prog : Program} {w : World} {A : Around} {s : Shared} {env : Env} {h₀ : Heap} {L : Addr} {m : Str → Option Value} {elt : PySem.Expr} {x : Str} {scope : Scope} {cl : List (Str × Addr)}
  {Fin : Value → List Value → List (Addr × Obj) → Shared → Prop}

/-- an element that makes an int and leaves the ledger alone -/
def IntBackG (h₀ : Heap) (L : Addr) (m : Str → Option Value) (s : Shared) (led : List (Addr × Obj)) (z : Int) (y : Value) (s₂ : Shared) : Prop :=
  ∃ t, y = .int z t ∧ Same s s₂ ∧ Fr h₀ L s₂.heap m ∧ News h₀ L s₂.heap led
theorem IntBackG.mk {led : List (Addr × Obj)} {z z' : Int} {t : Tok} {s₂ : Shared} (e : z' = z) (S : Same s s₂) (F : Fr h₀ L s₂.heap m) (N : News h₀ L s₂.heap led) : IntBackG h₀ L m s led z (.int z' t) s₂ := ⟨t, by rw [e], S, F, N⟩

theorem compInts_turn (f : Nat → Int) {n : Nat} {P : Nat → Value → Prop} {led : List (Addr × Obj)}
    (turn : ∀ i v I oI C oC D ys (m₂ : Str → Option Value) s₁ (E' : Value → Shared → Prop), i < n → P i v → LCg.NsObj oC m₂ → m₂ x = some v → Same s s₁ → Fr h₀ L s₁.heap m →
      News h₀ L s₁.heap ((I, oI) :: (C, oC) :: (D, LCg.lst ys) :: led) →
      wpAny (model prog w) A (eval elt (compEnvC scope cl C env)) (IntBackG h₀ L m s₁ ((I, oI) :: (C, oC) :: (D, LCg.lst ys) :: led) (f i)) E' s₁) :
    CompTurn prog w A env h₀ L m elt x scope cl n P (fun i ys led' => led' = led ∧ IntsAre ys ((List.range i).map f)) s := by
  rintro i ys led' v I oI C oC D m₂ s₁ E' hi hl ⟨rfl, hj⟩ hP hC hx S F N off
  refine wpAny_mono (turn i v I oI C oC D ys m₂ s₁ E' hi hP hC hx S F N) (fun y s₂ hs => ?_) fun _ _ z => z
  obtain ⟨t, rfl, S', F', N'⟩ := hs
  refine ⟨led', S', F', N', off, rfl, ?_⟩
  rw [List.range_succ, List.map_append]
  exact hj.append (.cons _ _ .nil)

theorem CompG.rangeInts (f : Nat → Int) {n : Nat} {led : List (Addr × Obj)} {r : Addr} {a b : Int} {t u v : Tok} (hh : A.handled = none) (F : Fr h₀ L s.heap m) (N : News h₀ L s.heap led)
    (hr : IsRange s.heap r a b 1 t u v) (hsm : Builtin.Range.small a b 1 = true) (hn : Builtin.Range.rangeSize a b 1 = (n : Int)) (hsz : n ≤ sizeLine)
    (turn : ∀ i t I oI C oC D ys (m₂ : Str → Option Value) s₁ (E' : Value → Shared → Prop), i < n → LCg.NsObj oC m₂ → m₂ x = some (.int (a + (i : Int)) t) → Same s s₁ → Fr h₀ L s₁.heap m →
      News h₀ L s₁.heap ((I, oI) :: (C, oC) :: (D, LCg.lst ys) :: led) →
      wpAny (model prog w) A (eval elt (compEnvC scope cl C env)) (IntBackG h₀ L m s₁ ((I, oI) :: (C, oC) :: (D, LCg.lst ys) :: led) (f i)) E' s₁)
    (done : ∀ D ys s₃, IntsAre ys ((List.range n).map f) → Same s s₃ → Fr h₀ L s₃.heap m → News h₀ L s₃.heap ((D, LCg.lst ys) :: led) → (∀ p ∈ led, p.1 ≠ D) → Fin (.ref D) ys led s₃) :
    CompG prog w A env h₀ L m elt x scope cl Fin (.ref r) s :=
  ⟨hh, n, _, _, led, hsz, F, N, ⟨rfl, .nil⟩, .inl ⟨r, a, b, t, u, v, rfl, hr, hsm, hn, rfl⟩,
    compInts_turn f (fun i v I oI C oC D ys m₂ s₁ E' hi hP hC hx S F N => by
      obtain ⟨t, rfl⟩ := hP
      exact turn i t I oI C oC D ys m₂ s₁ E' hi hC hx S F N),
    fun D ys led' s₃ _ hj S₃ F₃ N₃ off => by
      obtain ⟨rfl, hj⟩ := hj
      exact done D ys s₃ hj S₃ F₃ N₃ off⟩

theorem CompG.listInts (f : Int → Int) {c : List Int} {vs : List Value} {na : Nat} {led : List (Addr × Obj)} {l : Addr} (hh : A.handled = none) (F : Fr h₀ L s.heap m) (N : News h₀ L s.heap led)
    (hl : h₀.get? l = some (listOf vs.toArray na) ∨ (l, listOf vs.toArray na) ∈ led) (hi : IntsAre vs c) (hsz : c.length ≤ sizeLine)
    (turn : ∀ k t I oI C oC D ys (m₂ : Str → Option Value) s₁ (E' : Value → Shared → Prop), k ∈ c → LCg.NsObj oC m₂ → m₂ x = some (.int k t) → Same s s₁ → Fr h₀ L s₁.heap m →
      News h₀ L s₁.heap ((I, oI) :: (C, oC) :: (D, LCg.lst ys) :: led) →
      wpAny (model prog w) A (eval elt (compEnvC scope cl C env)) (IntBackG h₀ L m s₁ ((I, oI) :: (C, oC) :: (D, LCg.lst ys) :: led) (f k)) E' s₁)
    (done : ∀ D ys s₃, IntsAre ys (c.map f) → Same s s₃ → Fr h₀ L s₃.heap m → News h₀ L s₃.heap ((D, LCg.lst ys) :: led) → (∀ p ∈ led, p.1 ≠ D) → Fin (.ref D) ys led s₃) :
    CompG prog w A env h₀ L m elt x scope cl Fin (.ref l) s := by
  have hlen : vs.toArray.size = c.length := by rw [List.size_toArray, hi.length]
  refine ⟨hh, c.length, _, _, led, hsz, F, N, ⟨rfl, .nil⟩, .inr ⟨l, vs.toArray, rfl, hlen, rfl, hl.elim (fun e => .inl ⟨_, e, rfl, na, rfl⟩) fun e => .inr ⟨_, fun i ys led' hj => hj.1 ▸ e, rfl, na, rfl⟩⟩,
    compInts_turn (fun i => f (c.getD i 0)) (fun i v I oI C oC D ys m₂ s₁ E' hi' hP hC hx S F N => ?_), fun D ys led' s₃ _ hj S₃ F₃ N₃ off => ?_⟩
  · have hg : c[i]? = some (c.getD i 0) := by rw [List.getD_eq_getElem?_getD, List.getElem?_eq_getElem hi']; rfl
    obtain ⟨t, ht⟩ := hi.get i _ hg
    have hv : vs[i]? = some v := by simpa using hP
    rw [ht] at hv
    obtain rfl := (Option.some.inj hv).symm
    exact turn _ t I oI C oC D ys m₂ s₁ E' (List.mem_of_getElem? hg) hC hx S F N
  · obtain ⟨rfl, hj⟩ := hj
    refine done D ys s₃ ?_ S₃ F₃ N₃ off
    have e : (List.range c.length).map (fun i => f (c.getD i 0)) = c.map f := by
      apply List.ext_getElem
      · simp
      · intro i h1 h2
        simp at h1 h2
        simp [List.getD_eq_getElem?_getD, h2]
    rw [← e]; exact hj
end

section
variable {prog : Program} {w : World} {A : Around} {E : Value → Shared → Prop} {s : Shared} {h₀ : Heap} {L a b : Addr} {m : Str → Option Value} {vs us : List Value} {led : List (Addr × Obj)}
theorem add_lists {Q : Value → Shared → Prop} (F : Fr h₀ L s.heap m) (N : News h₀ L s.heap led) {na nb : Nat} (ha : s.heap.get? a = some (listOf vs.toArray na)) (hb : s.heap.get? b = some (listOf us.toArray nb)) (hz : vs.length + us.length ≤ sizeLine)
    (h : ∀ D h', Grow s.heap h' → Fr h₀ L h' m → News h₀ L h' ((D, listOf (vs ++ us).toArray 0) :: led) → (∀ p ∈ led, p.1 ≠ D) → Q (.ref D) { s with heap := h' }) : wpAny (model prog w) A (binaryOp .Add (.ref a) (.ref b)) Q E s := by
  refine P.add_list ha hb ?_ (by rw [List.size_toArray, List.size_toArray]; exact hz)
  have e : vs.toArray ++ us.toArray = (vs ++ us).toArray := by simp
  rw [e]
  exact h _ _ (grow_push _ _) (F.push _) (N.push F _) (fun p hp => Nat.ne_of_lt (Heap.lt_size (N p hp).1))
theorem isList_base {l : Addr} {na : Nat} (F : Fr h₀ L s.heap m) (e : h₀.get? l = some (listOf vs.toArray na)) : s.heap.IsList l vs.toArray := ⟨_, F.keep _ _ e, rfl, na, rfl⟩
theorem isList_led {l : Addr} {na : Nat} (N : News h₀ L s.heap led) (e : (l, listOf vs.toArray na) ∈ led) : s.heap.IsList l vs.toArray := ⟨_, (N _ e).1, rfl, na, rfl⟩
theorem fresh_led {d : Addr} {o : Obj} (N : News h₀ L s.heap led) (e : (d, o) ∈ led) : Fresh h₀ s.heap d o := ⟨(N _ e).1, (N _ e).2.2⟩
end

theorem off1_of {D : Addr} : ∀ {l : List (Addr × Obj)}, (∀ p ∈ l, p.1 ≠ D) → LCg.Off1 D l
  | [], _ => trivial
  | _ :: _, h => ⟨h _ List.mem_cons_self, off1_of fun p hp => h p (List.mem_cons_of_mem _ hp)⟩
section
variable {h₀ h h' : Heap} {L a : Addr} {o : Obj} {m : Str → Option Value} {led : List (Addr × Obj)}
theorem news_fresh (F : Fr h₀ L h m) (N : News h₀ L h led) (G : Grow h h') (f : Fresh h h' a o) : News h₀ L h' ((a, o) :: led) ∧ LCg.Off1 a led := by
  have ne : ∀ b ob, h.get? b = some ob → b ≠ a := fun b ob e q => by rw [q, f.2] at e; cases e
  refine ⟨fun p hp => ?_, off1_of fun p hp => ne _ _ (N p hp).1⟩
  rcases List.mem_cons.mp hp with rfl | hp
  · refine ⟨f.1, ?_, ?_⟩
    · obtain ⟨oL, _, _, e, _⟩ := F.ns
      exact Ne.symm (ne _ _ e)
    · cases e : h₀.get? a with
      | none => rfl
      | some ob => exact absurd rfl (ne _ _ (F.keep _ _ e))
  · exact ⟨G _ _ (N p hp).1, (N p hp).2⟩
theorem fresh_sub {h₁ : Heap} (x : Fresh h h' a o) (G : Grow h₁ h) : Fresh h₁ h' a o := ⟨x.1, by
  cases e : h₁.get? a with
  | none => rfl
  | some ob => have := G _ _ e; rw [x.2] at this; cases this⟩
end

theorem instAt_is {h : Heap} {x C dx : Addr} {od : Obj} (h1 : h.get? x = some (instObj C dx)) (h2 : h.get? dx = some od) : InstAt h x (instObj C dx) C (some od) := ⟨h1, rfl, rfl, h2⟩

section
variable {prog : Program} {w : World} {A : Around} {E : Value → Shared → Prop} {s : Shared} {env : Env} {h₀ : Heap} {L : Addr} {m : Str → Option Value} {elt iter : PySem.Expr} {x y : Str} {px py : Pos} {scope : Scope} {cl : List (Str × Addr)} {pos spos : Pos}
/-- behind «y = [..]»: the name holds the new list -/
def FinStore (h₀ : Heap) (L : Addr) (m : Str → Option Value) (y : Str) (Q : Flow → Shared → Prop) (v : Value) (ys : List Value) (led : List (Addr × Obj)) (s₃ : Shared) : Prop :=
  ∀ D s₄, v = .ref D → Same s₃ s₄ → Fr h₀ L s₄.heap (fun z => if z = y then some (.ref D) else m z) → News h₀ L s₄.heap ((D, LCg.lst ys) :: led) → Q .next s₄
theorem assign_ListComp_G {Q : Flow → Shared → Prop} (_F₀ : Fr h₀ L s.heap m) (hLe : env.locals = L)
    (hsw : swapsWith (.ListComp elt [⟨.Name x px, iter, [], 0⟩] scope pos) (some (.Name y py)) spos.line env = pure true)
    (hclos : closureFor scope env = pure cl) (hcell : ∀ z ∈ scope.names, z.2 ≠ .cell) (hkind : scope.kind = .function)
    (hnames : ∀ z ∈ scope.names, z.2 = .local → scope.names.lookup z.1 = some .local) (hx : scope.names.lookup x = some .local)
    (hy : env.kindOf y = some .local) (hp : (env.scope.kind == .class || (env.scope.kind == .module && env.locals != env.globals)) = false)
    (h : wpAny (model prog w) A (eval iter env) (CompG prog w A env h₀ L m elt x scope cl (FinStore h₀ L m y Q)) E s)
    (hs : ∀ x, foldedSetIterable iter env x = pure x := by intro _; rfl) :
    wpAny (model prog w) A (exec (.Assign [.Name y py] (.ListComp elt [⟨.Name x px, iter, [], 0⟩] scope pos) spos) env) Q E s := by
  subst hLe
  rw [exec_Assign_Name_used _ _ _ _ hsw]
  refine wpAny_bind (wpAny_standAt (wpAny_bind ?_))
  show wpAny _ A (do let _ ← comprehension (.ListComp elt [⟨.Name x px, iter, [], 0⟩] scope pos) scope env _ (newList []) false (eval iter env) (some (assign (.Name y py) env))) _ _ s
  refine wpAny_bind (wpAny_mono (wpAny_comprehension_free (use := some (assign (.Name y py) env)) (Q := fun _ s' => Q .next s') rfl hs hclos hkind hnames
    (wpAny_mono h (fun xv s₁ h₁ => ?_) fun _ _ e => e)) (fun _ s' hq => wpAny_pure (wpAny_pure hq)) fun _ _ e => e)
  refine comp_core hcell hkind hx h₁ ?_
  intro D C s₃ m' ys led hf F N hn hC₀ hCL hDL hD₀ hCD offC offD _
  show wpAny _ A (assign (.Name y py) env (.ref D)) _ _ _
  refine wpAny_assign_Name (wpAny_storeName_local hy F.ns (fun h₂ hn₂ hs₂ => ?_) hp)
  have hL₀ : h₀.get? env.locals = none := Heap.get?_none_of_le F.above
  have F₂ : Fr h₀ env.locals h₂ (fun z => if z = y then some (.ref D) else m z) := ⟨hn₂, fun b o e => hs₂.extBut b o (fun q => by rw [q, hL₀] at e; cases e) (F.keep b o e), F.above⟩
  refine ⟨m', hn.sameBut hs₂ hCL, fun h'' hs'' => hf D { s₃ with heap := h'', toks := _ } rfl (Same.put s₃ _ _) (F₂.change hs'' hCL hC₀) fun p hp => ?_⟩
  have z : h₂.get? p.1 = some p.2 := hs₂.extBut _ _ (N p hp).2.1 (N p hp).1
  refine ⟨hs''.extBut _ _ ?_ z, (N p hp).2⟩
  rcases List.mem_cons.mp hp with rfl | hp
  · exact Ne.symm hCD
  · exact offC p hp
end

theorem news_add {h₀ h' : Heap} {L a : Addr} {o : Obj} {m : Str → Option Value} {led : List (Addr × Obj)} (_F : Fr h₀ L h' m) (N : News h₀ L h' led) (f : Fresh h₀ h' a o) (hL : a ≠ L) : News h₀ L h' ((a, o) :: led) := fun p hp => by
  rcases List.mem_cons.mp hp with rfl | hp
  · exact ⟨f.1, hL, f.2⟩
  · exact N p hp
theorem fresh_ne {h₀ h h' : Heap} {L a : Addr} {o : Obj} {m : Str → Option Value} (F : Fr h₀ L h m) (f : Fresh h h' a o) : a ≠ L := fun q => by
  obtain ⟨oL, _, _, e, _⟩ := F.ns
  rw [q] at f; rw [f.2] at e; cases e

/-- what stands in the ground or in the ledger -/
def Known (h₀ : Heap) (led : List (Addr × Obj)) (a : Addr) (o : Obj) : Prop := h₀.get? a = some o ∨ (a, o) ∈ led
theorem Known.heap {h₀ h : Heap} {L : Addr} {m : Str → Option Value} {led : List (Addr × Obj)} (F : Fr h₀ L h m) (N : News h₀ L h led) : ∀ a o, Known h₀ led a o → HeapIs h a o := fun a o k => k.elim (F.keep a o) fun hm => (N _ hm).1
theorem Known.more {h₀ : Heap} {led led' : List (Addr × Obj)} (h : ∀ p ∈ led, p ∈ led') : ∀ a o, Known h₀ led a o → Known h₀ led' a o := fun _ _ k => k.imp id fun hm => h _ hm
theorem Known.base {h₀ : Heap} {led : List (Addr × Obj)} : ∀ a o, HeapIs h₀ a o → Known h₀ led a o := fun _ _ e => .inl e

open Builtin.Int in
def Sz (k : Nat) (c : List Int) : Prop := ∀ x ∈ c, intBits x ≤ k
open Builtin.Int in
theorem mulOk_bits {x y : Int} {a b : Nat} (hx : intBits x ≤ a) (hy : intBits y ≤ b) (h : a + b ≤ 134217728) : IntMulOk x y := by
  unfold IntMulOk
  intro h'
  have h2 := (Bool.and_eq_true_iff.mp h').2
  unfold intTooBig at h2
  have h3 := of_decide_eq_true h2
  have h4 : (bitsLine : Int) = 134217728 := rfl
  rw [h4] at h3
  omega
open Builtin.Int in
theorem Sz.get {k : Nat} {c : List Int} (h : Sz k c) (i : Nat) : intBits (c.getD i 0) ≤ k := by
  rw [List.getD_eq_getElem?_getD]
  cases e : c[i]? with
  | none => exact Nat.zero_le _
  | some x => exact h x (List.mem_of_getElem? e)
theorem Sz.ok {a b : Nat} {c d : List Int} (hc : Sz a c) (hd : Sz b d) (h : a + b ≤ 134217728) (i j : Nat) : IntMulOk (c.getD i 0) (d.getD j 0) := mulOk_bits (hc.get i) (hd.get j) h

open Builtin.Int in
theorem intBits_mono {a b : Int} (h0 : 0 ≤ a) (h : a ≤ b) : intBits a ≤ intBits b := by
  unfold intBits
  by_cases ha : a = 0
  · subst ha; simp
  · have hb : b ≠ 0 := by omega
    have e1 : (a == 0) = false := by simp [ha]
    have e2 : (b == 0) = false := by simp [hb]
    rw [e1, e2]
    simp only [Bool.false_eq_true, if_false]
    have h1 : a.natAbs ≠ 0 := by omega
    have h2 := Nat.log2_self_le h1
    have h3 : 2 ^ a.natAbs.log2 ≤ b.natAbs := by omega
    have h4 := (Nat.le_log2 (show b.natAbs ≠ 0 by omega)).mpr h3
    omega

theorem InstAt.of_known {h₀ h : Heap} {L x C dx : Addr} {m : Str → Option Value} {led : List (Addr × Obj)} {od : Obj} (F : Fr h₀ L h m) (N : News h₀ L h led) (h1 : Known h₀ led x (instObj C dx)) (h2 : Known h₀ led dx od) :
    InstAt h x (instObj C dx) C (some od) := ⟨Known.heap F N _ _ h1, rfl, rfl, Known.heap F N _ _ h2⟩

/-- a frame's names -/
def mapOf {h₀ h : Heap} {L : Addr} {m : Str → Option Value} (_F : Fr h₀ L h m) : Str → Option Value := m

section
variable {prog : Program} {w : World} {A : Around} {E : Value → Shared → Prop} {s : Shared} {h₀ h : Heap} {L d : Addr} {m : Str → Option Value} {vs : List Value} {n : Nat} {x : Value} {rest : List (Addr × Obj)}
theorem append_led {Q : Value → Shared → Prop} (F : Fr h₀ L s.heap m) (N : News h₀ L s.heap ((d, listOf vs.toArray n) :: rest)) (hoff : ∀ p ∈ rest, p.1 ≠ d) (hsz : vs.length ≤ sizeLine)
    (h : ∀ h', Fr h₀ L h' m → News h₀ L h' ((d, listOf (vs ++ [x]).toArray (n + 1)) :: rest) → Q .none { s with heap := h' }) :
    wpAny (model prog w) A (call (.builtin "list.append") [.ref d, x]) Q E s := by
  have hd := N _ List.mem_cons_self
  refine append_at hd.1 (fun h' hs hD => h h' (F.change hs hd.2.1 hd.2.2) fun p hp => ?_) (by rw [List.size_toArray]; exact hsz)
  rcases List.mem_cons.mp hp with rfl | hp
  · refine ⟨hD.trans ?_, hd.2⟩
    congr 1
    simp
  · exact ⟨(hs.2 _ (hoff p hp)).trans (N p (List.mem_cons_of_mem _ hp)).1, (N p (List.mem_cons_of_mem _ hp)).2⟩
theorem news_swap {a b : Addr × Obj} (N : News h₀ L h (a :: b :: rest)) : News h₀ L h (b :: a :: rest) := fun p hp => N p (by
  rcases List.mem_cons.mp hp with rfl | hp
  · exact List.mem_cons_of_mem _ List.mem_cons_self
  · rcases List.mem_cons.mp hp with rfl | hp
    · exact List.mem_cons_self
    · exact List.mem_cons_of_mem _ (List.mem_cons_of_mem _ hp))
theorem news_rot {a b c : Addr × Obj} (N : News h₀ L h (a :: b :: c :: rest)) : News h₀ L h (c :: a :: b :: rest) := fun p hp => N p (by
  rcases List.mem_cons.mp hp with rfl | hp
  · exact List.mem_cons_of_mem _ (List.mem_cons_of_mem _ List.mem_cons_self)
  · rcases List.mem_cons.mp hp with rfl | hp
    · exact List.mem_cons_self
    · rcases List.mem_cons.mp hp with rfl | hp
      · exact List.mem_cons_of_mem _ List.mem_cons_self
      · exact List.mem_cons_of_mem _ (List.mem_cons_of_mem _ (List.mem_cons_of_mem _ hp)))
theorem off_cons {a : Addr × Obj} (h1 : a.1 ≠ d) (h2 : ∀ p ∈ rest, p.1 ≠ d) : ∀ p ∈ a :: rest, p.1 ≠ d := fun p hp => by
  rcases List.mem_cons.mp hp with rfl | hp
  · exact h1
  · exact h2 p hp
/-- a new list: freshness told for the whole ledger -/
theorem newList_led {Q : Value → Shared → Prop} (F : Fr h₀ L s.heap m) (N : News h₀ L s.heap rest) (hsz : vs.length ≤ sizeLine)
    (h : ∀ D h', Grow s.heap h' → Fr h₀ L h' m → News h₀ L h' ((D, listOf vs.toArray 0) :: rest) → (∀ p ∈ rest, p.1 ≠ D) → Q (.ref D) { s with heap := h' }) : wpAny (model prog w) A (newList vs) Q E s :=
  wpAny_newObj_type (h _ _ (grow_push _ _) (F.push _) (N.push F _) fun p hp => Nat.ne_of_lt (Heap.lt_size (N p hp).1)) (by show vs.toArray.size ≤ sizeLine; rw [List.size_toArray]; exact hsz)
end

inductive RowsAre (φ : Addr → Obj → Prop) : List Value → List (List Int) → Prop where
  | nil : RowsAre φ [] []
  | cons {a : Addr} {r : List Int} {vs : List Value} {rows : List (List Int)} : (∃ us na, φ a (listOf (List.toArray us) na) ∧ IntsAre us r) → RowsAre φ vs rows → RowsAre φ (.ref a :: vs) (r :: rows)
theorem RowsAre.mono {φ ψ : Addr → Obj → Prop} (h : ∀ a o, φ a o → ψ a o) : ∀ {vs : List Value} {rows : List (List Int)}, RowsAre φ vs rows → RowsAre ψ vs rows
  | _, _, .nil => .nil
  | _, _, .cons ⟨us, na, a, b⟩ r => .cons ⟨us, na, h _ _ a, b⟩ (r.mono h)
theorem RowsAre.snoc {φ : Addr → Obj → Prop} {a : Addr} {r : List Int} (y : ∃ us na, φ a (listOf (List.toArray us) na) ∧ IntsAre us r) : ∀ {vs : List Value} {rows : List (List Int)}, RowsAre φ vs rows → RowsAre φ (vs ++ [.ref a]) (rows ++ [r])
  | _, _, .nil => .cons y .nil
  | _, _, .cons z q => .cons z (q.snoc y)
theorem RowsAre.length {φ : Addr → Obj → Prop} : ∀ {vs : List Value} {rows : List (List Int)}, RowsAre φ vs rows → vs.length = rows.length
  | _, _, .nil => rfl
  | _, _, .cons _ r => by rw [List.length_cons, List.length_cons, r.length]
theorem RowsAre.get {φ : Addr → Obj → Prop} : ∀ {vs : List Value} {rows : List (List Int)}, RowsAre φ vs rows → ∀ {i : Nat} {r : List Int}, rows[i]? = some r → ∃ a us na, vs[i]? = some (.ref a) ∧ φ a (listOf (List.toArray us) na) ∧ IntsAre us r
  | _, _, .nil, i, r, e => by cases e
  | _, _, .cons (a := a) ⟨us, na, h1, h2⟩ q, 0, r, e => by cases e; exact ⟨a, us, na, rfl, h1, h2⟩
  | _, _, .cons _ q, i + 1, r, e => q.get (i := i) (by simpa using e)

section
variable {prog : Program} {w : World} {A : Around} {E : Value → Shared → Prop} {s : Shared} {env : Env} {h₀ : Heap} {x : Str} {px : Pos} {body : List Stmt} {Q : Flow → Shared → Prop}
/-- a turn's end where one list of ints, of any length, is turned -/
def ListTurn (h₀ : Heap) (L : Addr) (x : Str) (stored : List Str) (m₀ : Str → Option Value) (d : Addr) (rest : List (Addr × Obj)) (P : List Int → Prop) (s₁ : Shared) (f : Flow) (s₂ : Shared) : Prop :=
  match f with
  | .ret _ => False
  | .brk => False
  | _ => ∃ m' vs k c, Same s₁ s₂ ∧ Fr h₀ L s₂.heap m' ∧ News h₀ L s₂.heap ((d, listOf (List.toArray vs) k) :: rest) ∧ IntsAre vs c ∧ P c ∧ (∀ z, z ≠ x → stored.contains z = false → m' z = m₀ z)
theorem ListTurn.mk {L : Addr} {stored : List Str} {m₀ m' : Str → Option Value} {d k : Nat} {rest : List (Addr × Obj)} {P : List Int → Prop} {s₁ s₂ : Shared} {vs : List Value} {c : List Int}
    (S : Same s₁ s₂) (F : Fr h₀ L s₂.heap m') (N : News h₀ L s₂.heap ((d, listOf (List.toArray vs) k) :: rest)) (hi : IntsAre vs c) (hp : P c) (hm : ∀ z, z ≠ x → stored.contains z = false → m' z = m₀ z) :
    ListTurn h₀ L x stored m₀ d rest P s₁ .next s₂ := ⟨m', vs, k, c, S, F, N, hi, hp, hm⟩

theorem for_range_list {r d k₀ : Addr} {a₀ b₀ : Int} {t₀ u₀ v₀ : Tok} {n : Nat} {m₀ : Str → Option Value} {rest : List (Addr × Obj)} {vs₀ : List Value} {c₀ : List Int} (stored : List Str) (P : Nat → List Int → Prop)
    (hh : A.handled = none) (hr : IsRange s.heap r a₀ b₀ 1 t₀ u₀ v₀) (hsmall : Builtin.Range.small a₀ b₀ 1 = true) (hn : Builtin.Range.rangeSize a₀ b₀ 1 = (n : Int))
    (hx : env.kindOf x = some .local) (hpk : (env.scope.kind == .class || (env.scope.kind == .module && env.locals != env.globals)) = false) (F : Fr h₀ env.locals s.heap m₀)
    (N : News h₀ env.locals s.heap ((d, listOf (List.toArray vs₀) k₀) :: rest)) (hoff : ∀ p ∈ rest, p.1 ≠ d) (hi : IntsAre vs₀ c₀) (hp : P 0 c₀)
    (turn : ∀ (i : Nat) (vs : List Value) (k : Nat) (c : List Int) t (u : Str → Option Value) s₁ I oI, i < n → (∀ p ∈ (I, oI) :: rest, p.1 ≠ d) → IntsAre vs c → P i c → Same s s₁ →
      Fr h₀ env.locals s₁.heap (fun y => if y = x then some (.int (a₀ + (i : Int)) t) else if stored.contains y then u y else m₀ y) → News h₀ env.locals s₁.heap ((d, listOf (List.toArray vs) k) :: (I, oI) :: rest) →
      wpAny (model prog w) A (execs body env) (ListTurn h₀ env.locals x stored m₀ d ((I, oI) :: rest) (P (i + 1)) s₁) E s₁)
    (done : ∀ (vs : List Value) (k : Nat) (c : List Int) (u : Str → Option Value) s₁, IntsAre vs c → P n c → Same s s₁ →
      Fr h₀ env.locals s₁.heap (fun y => if y = x then u y else if stored.contains y then u y else m₀ y) → News h₀ env.locals s₁.heap ((d, listOf (List.toArray vs) k) :: rest) → Q .next s₁)
    (hE : PassesOwn (model prog w) A env E := by passes_own) :
    wpAny (model prog w) A (pyIter (.ref r)) (fun it s₂ => codeAny (model prog w) A (.forLoop (.Name x px) it body [] env) (fun r s' => match r with | .ok f => Q f s' | .error e => cameBackBy (model prog w) A env E e s') s₂) E s := by
  refine for_range (σ := List Value × Nat × List Int) (n := n) (fun q => (d, listOf q.1.toArray q.2.1) :: rest) (fun _ => []) stored (fun i q => IntsAre q.1 q.2.2 ∧ P i q.2.2) (vs₀, k₀, c₀) hh hr hsmall hn hx hpk F N (fun _ h => nomatch h) ⟨hi, hp⟩ ?_ ?_ hE
  · rintro i ⟨vs, k, c⟩ t u s₁ I oI hlt ⟨hvs, hP⟩ S F₁ N₁ off₁
    refine wpAny_mono (turn i vs k c t u s₁ I oI hlt (off_cons (Ne.symm (off₁ _ List.mem_cons_self)) hoff) hvs hP S F₁ (news_swap N₁)) (fun f s₂ hs => ?_) fun _ _ z => z
    have fin : (∃ m' vs k c, Same s₁ s₂ ∧ Fr h₀ env.locals s₂.heap m' ∧ News h₀ env.locals s₂.heap ((d, listOf (List.toArray vs) k) :: (I, oI) :: rest) ∧ IntsAre vs c ∧ P (i + 1) c ∧ (∀ z, z ≠ x → stored.contains z = false → m' z = m₀ z)) →
        ∃ m' c, Same s₁ s₂ ∧ Fr h₀ env.locals s₂.heap m' ∧ News h₀ env.locals s₂.heap ((I, oI) :: (fun q : List Value × Nat × List Int => (d, listOf q.1.toArray q.2.1) :: rest) c) ∧ (∀ p ∈ (fun q : List Value × Nat × List Int => (d, listOf q.1.toArray q.2.1) :: rest) c, p.1 ≠ I) ∧ (∀ p ∈ ([] : List (Str × Value)), m' p.1 = some p.2) ∧ (∀ z, z ≠ x → (∀ p ∈ ([] : List (Str × Value)), z ≠ p.1) → stored.contains z = false → m' z = m₀ z) ∧ IntsAre c.1 c.2.2 ∧ P (i + 1) c.2.2 := by
      rintro ⟨m', vs', k', c', S', F', N', hi', hP', hm'⟩
      exact ⟨m', (vs', k', c'), S', F', news_swap N', off_cons (a := (d, listOf vs'.toArray k')) (show d ≠ I from off₁ _ List.mem_cons_self) (fun p hp => off₁ p (List.mem_cons_of_mem _ hp)), (fun _ h => nomatch h), (fun z h1 _ h3 => hm' z h1 h3), hi', hP'⟩
    cases f with
    | ret v => exact hs.elim
    | brk => exact hs.elim
    | next => exact fin hs
    | cont => exact fin hs
  · rintro ⟨vs, k, c⟩ u s₁ ⟨hvs, hP⟩ S F₁ N₁
    exact done vs k c u s₁ hvs hP S F₁ N₁
end

section
variable {prog : Program} {w : World} {A : Around} {E : Value → Shared → Prop} {s : Shared} {h₀ : Heap} {L l : Addr} {m : Str → Option Value} {led : List (Addr × Obj)} {value slice : PySem.Expr} {vs : List Value} {a : Nat} {ta : Tok} {Q : Value → Shared → Prop}
theorem slice_from (F : Fr h₀ L s.heap m) (N : News h₀ L s.heap led) (hl : s.heap.IsList l vs.toArray) (hz : vs.length ≤ sizeLine)
    (h : ∀ D h', Fr h₀ L h' m → News h₀ L h' ((D, listOf (vs.drop a).toArray 0) :: led) → (∀ p ∈ led, p.1 ≠ D) → Q (.ref D) { s with heap := h' })
    (hs : subscripted slice false (.ref l) (.ref s.heap.objs.size) = operate [.ref s.heap.objs.size, .ref l] (getItem (.ref l) (.ref s.heap.objs.size))) (ht : ∀ r, letTemporaryGo value (.ref l) r = pure ()) :
    wpAny (model prog w) A (subscriptTail value slice (.ref l) (.ref s.heap.objs.size)) Q E { s with heap := s.heap.push { cls := .type "slice", data := .fields #[.int (a : Int) ta, .none, .none] } } := by
  refine kmk_slice (lo := some (a : Int)) (hi := none) F N hl (by constructor) (by constructor) (fun D h' F' N' l1 => h D h' F' ?_ fun p hp => Nat.ne_of_lt (l1 p hp)) hs ht (by rw [List.size_toArray]; exact hz)
  rw [slicePick_from'] at N'
  exact N'
theorem slice_upto (F : Fr h₀ L s.heap m) (N : News h₀ L s.heap led) (hl : s.heap.IsList l vs.toArray) (hz : vs.length ≤ sizeLine)
    (h : ∀ D h', Fr h₀ L h' m → News h₀ L h' ((D, listOf (vs.take a).toArray 0) :: led) → (∀ p ∈ led, p.1 ≠ D) → Q (.ref D) { s with heap := h' })
    (hs : subscripted slice false (.ref l) (.ref s.heap.objs.size) = operate [.ref s.heap.objs.size, .ref l] (getItem (.ref l) (.ref s.heap.objs.size))) (ht : ∀ r, letTemporaryGo value (.ref l) r = pure ()) :
    wpAny (model prog w) A (subscriptTail value slice (.ref l) (.ref s.heap.objs.size)) Q E { s with heap := s.heap.push { cls := .type "slice", data := .fields #[.none, .int (a : Int) ta, .none] } } := by
  refine kmk_slice (lo := none) (hi := some (a : Int)) F N hl (by constructor) (by constructor) (fun D h' F' N' l1 => h D h' F' ?_ fun p hp => Nat.ne_of_lt (l1 p hp)) hs ht (by rw [List.size_toArray]; exact hz)
  rw [slicePick_upto'] at N'
  exact N'
theorem slice_all (F : Fr h₀ L s.heap m) (N : News h₀ L s.heap led) (hl : s.heap.IsList l vs.toArray) (hz : vs.length ≤ sizeLine)
    (h : ∀ D h', Fr h₀ L h' m → News h₀ L h' ((D, listOf vs.toArray 0) :: led) → (∀ p ∈ led, p.1 ≠ D) → Q (.ref D) { s with heap := h' })
    (hs : subscripted slice false (.ref l) (.ref s.heap.objs.size) = operate [.ref s.heap.objs.size, .ref l] (getItem (.ref l) (.ref s.heap.objs.size))) (ht : ∀ r, letTemporaryGo value (.ref l) r = pure ()) :
    wpAny (model prog w) A (subscriptTail value slice (.ref l) (.ref s.heap.objs.size)) Q E { s with heap := s.heap.push { cls := .type "slice", data := .fields #[.none, .none, .none] } } := by
  refine kmk_slice (lo := none) (hi := none) F N hl (by constructor) (by constructor) (fun D h' F' N' l1 => h D h' F' ?_ fun p hp => Nat.ne_of_lt (l1 p hp)) hs ht (by rw [List.size_toArray]; exact hz)
  rw [slicePick_all] at N'
  exact N'
end
end Mine

namespace Mine

section
variable {M : Model} {A : Around} {E : Value → Shared → Prop} {s : Shared}
/-- a generator expression's code: new or found, the table stays a table -/
theorem genCode_any {env : Env} {c P : Addr} {ps : Array Value} {pos : Pos} {qual : Str} {scope : Scope} {Q : Value → Shared → Prop} (hc : env.code = .ref c) (C : CodeHd s.heap c P) (hP : s.heap.get? P = some (tabObj ps)) (ht : TriplesOk ps.toList)
    (h : ∀ code h' tk ps', Heap.ExtBut P s.heap h' → s.heap.objs.size ≤ h'.objs.size → h'.get? P = some (tabObj ps') → TriplesOk ps'.toList → Q code { s with heap := h', toks := tk }) :
    wpAny M A (genexprCode env pos qual scope) Q E s := by
  cases e : codeAmong pos ps.toList with
  | some c' => exact wpAny_genexprCode_hit hc (C.code hP ht) e (h c' s.heap s.toks ps (fun _ _ _ e => e) (Nat.le_refl _) hP ht)
  | none =>
    refine wpAny_genexprCodeX hc (C.code hP ht) (C.tab hP) e fun c' h' tk hx hge hlt hcode _ htab _ => h _ h' tk _ hx (Nat.le_trans hge (Nat.le_of_lt hlt)) htab.2 ?_
    have := TriplesOk_snoc pos.line pos.col (.ref c') _ ht
    simpa using this
end

/-- a generator made: what it gives in order; what it writes is its own -/
def GenV (prog : Program) (w : World) (A : Around) (h₀ : Heap) (L : Addr) (led : List (Addr × Obj)) (a : Addr) (n : Nat) (F : Nat → Value → Prop) (s : Shared) : Prop :=
  ∃ fp wr g St, WalksS prog w A.in4 a fp wr (GenOnlyQ g) n F St ∧ St 0 s ∧ (∀ b ∈ fp, b < s.heap.objs.size) ∧ ∀ b ∈ wr, b ≠ L ∧ h₀.get? b = none ∧ ∀ p ∈ led, p.1 ≠ b

section
variable {prog : Program} {w : World} {A : Around} {E : Value → Shared → Prop} {s : Shared} {env : Env} {h₀ : Heap} {L P c : Addr} {m mg mgB : Str → Option Value} {elt iter : PySem.Expr} {x : Str} {px : Pos} {scope : Scope} {cl : List (Str × Addr)} {pos : Pos} {ps : Array Value} {led : List (Addr × Obj)}

/-- a generator's element: it reads alone -/
def GenElt (prog : Program) (w : World) (A : Around) (env : Env) (h₀ : Heap) (elt : PySem.Expr) (x : Str) (scope : Scope) (cl : List (Str × Addr)) (led : List (Addr × Obj)) (n : Nat) (Pi F : Nat → Value → Prop) : Prop :=
  ∀ (A' : Around) (E' : Value → Shared → Prop) i v (t : Shared) C (m₂ : Str → Option Value) code, A'.handled = none → A'.depth ≤ A.depth + 1 → A'.units ≤ A.units + 8 → i < n → Pi i v → Fr h₀ C t.heap m₂ → m₂ x = some v → News h₀ C t.heap led →
    wpAny (model prog w) A' (eval elt (genEnv scope cl C code builtinsNs env)) (fun y s₃ => F i y ∧ Keeps t s₃) E' t

def GenSrcG (prog : Program) (w : World) (A : Around) (env : Env) (h₀ : Heap) (L : Addr) (m : Str → Option Value) (elt : PySem.Expr) (x : Str) (scope : Scope) (cl : List (Str × Addr)) (P : Addr) (Q : Value → Shared → Prop) (xv : Value) (s₁ : Shared) : Prop :=
  ∃ (ps : Array Value) (led : List (Addr × Obj)) (n : Nat) (Pi F : Nat → Value → Prop), A.handled = none ∧ Fr h₀ L s₁.heap m ∧ News h₀ L s₁.heap ((P, tabObj ps) :: led) ∧ (∀ p ∈ led, p.1 ≠ P) ∧ TriplesOk ps.toList ∧
    ((∃ r a b t u v, xv = .ref r ∧ IsRange s₁.heap r a b 1 t u v ∧ Builtin.Range.small a b 1 = true ∧ Builtin.Range.rangeSize a b 1 = (n : Int) ∧ Pi = fun i v => ∃ t, v = .int (a + (i : Int)) t) ∨
     (∃ l its, xv = .ref l ∧ its.size = n ∧ Pi = (fun i v => its[i]? = some v) ∧ s₁.heap.IsList l its)) ∧
    GenElt prog w A env h₀ elt x scope cl led n Pi F ∧
    (∀ a s₅ ps', GenV prog w A h₀ L ((P, tabObj ps') :: led) a n F s₅ → Same s₁ s₅ → Fr h₀ L s₅.heap m → News h₀ L s₅.heap ((P, tabObj ps') :: led) → TriplesOk ps'.toList → Q (.ref a) s₅)

theorem passing_all (n : Nat) : passing (fun _ => true) n 0 = List.range n := by
  unfold passing; simp

theorem gen_core {Q : Value → Shared → Prop} {n : Nat} {Pi F : Nat → Value → Prop} {s₂ : Shared} {I : Addr} {fp : List Addr} {St₀ : Nat → Heap → Prop} {bm : Addr} {ob : Obj}
    (M : BMod h₀ env.globals mgB bm ob) (Ch : CodeHd h₀ c P) (hlim : h₀.NoLimit) (hcode : env.code = .ref c)
    (F₂ : Fr h₀ L s₂.heap m) (N₂ : News h₀ L s₂.heap ((P, tabObj ps) :: led)) (off : ∀ p ∈ led, p.1 ≠ P) (ht : TriplesOk ps.toList)
    (W₀ : ∀ A' : Around, A'.handled = none → Walks prog w A' I fp [I] n Pi St₀) (hst : St₀ 0 s₂.heap) (hfp : ∀ b ∈ fp, b < s₂.heap.objs.size) (hPf : P ∉ fp) (hIL : I ≠ L) (hI₀ : h₀.get? I = none) (hIl : ∀ p ∈ led, p.1 ≠ I) (hIP : P ≠ I)
    (elt₁ : GenElt prog w A env h₀ elt x scope cl led n Pi F) (hh : A.handled = none)
    (ret : ∀ a s₅ ps', GenV prog w A h₀ L ((P, tabObj ps') :: led) a n F s₅ → Same s₂ s₅ → Fr h₀ L s₅.heap m → News h₀ L s₅.heap ((P, tabObj ps') :: led) → TriplesOk ps'.toList → Q (.ref a) s₅) :
    s₂.heap.NoLimit ∧ wpAny (model prog w) A (genexprCode env pos (env.qual ++ "<genexpr>") scope) (fun code s₃ => wpAny (model prog w) A (builtinsFor env.globals env.builtins) (fun bi s₄ =>
        ∃ I' fp wr n₀ P' St₀ pz F', Value.ref I = .ref I' ∧ (∀ A' : Around, A'.handled = none → Walks prog w A' I' fp wr n₀ P' St₀) ∧ St₀ 0 s₄.heap ∧ (∀ b ∈ fp, b < s₄.heap.objs.size) ∧ s₄.heap.NoLimit ∧ cStatics ∉ wr ∧
          (∀ href : Heap, (∀ b o, s₄.heap.get? b = some o → href.get? b = some o) →
            QuietGenD prog w (genEnv scope cl s₄.heap.objs.size code bi env) x [] elt (List.range s₄.heap.objs.size) wr P' pz F' href (A.depth + 1) (A.units + 8)) ∧
          (∀ a h₅ tk gs, gs.bare = true → s₄.heap.objs.size < a → h₅.objs.size = a + 1 → (∀ b o, s₄.heap.get? b = some o → h₅.get? b = some o) →
            WalksS prog w A.in4 a (a :: s₄.heap.objs.size :: List.range s₄.heap.objs.size) (s₄.heap.objs.size :: wr) (GenOnlyQ s₄.gens.size) (passing pz n₀ 0).length
              (fun j y => ∃ i, (passing pz n₀ 0)[j]? = some i ∧ F' i y) (GenAt prog w A.in4 a s₄.gens.size s₄.heap.objs.size (List.range s₄.heap.objs.size) wr pz n₀ F') →
            GenAt prog w A.in4 a s₄.gens.size s₄.heap.objs.size (List.range s₄.heap.objs.size) wr pz n₀ F' 0 { s₄ with gens := s₄.gens.push gs, toks := tk, heap := h₅ } →
            Q (.ref a) { s₄ with gens := s₄.gens.push gs, toks := tk, heap := h₅ })) E s₃) E s₂ := by
  have C₂ := Ch.keeps F₂.keep
  have hP₂ := (N₂ _ List.mem_cons_self).1
  refine ⟨hlim.keeps F₂.keep, genCode_any hcode C₂ hP₂ ht fun code h₃ tk₃ ps' hx hsz hP₃ ht₃ => ?_⟩
  have M₃ : BMod h₃ env.globals mgB bm ob := (M.keeps F₂.keep).extBut (C₂.tab hP₂) hx
  have hcP : cStatics ≠ P := fun e => by
    obtain ⟨_, hns, _⟩ := hlim
    obtain ⟨o, es, ep, ho, hd, _⟩ := hns
    have := (N₂ _ List.mem_cons_self).2.2
    rw [e] at ho
    rw [show h₀.get? P = none from this] at ho
    cases ho
  have hl₃ : h₃.NoLimit := (hlim.keeps F₂.keep).extBut hx hcP
  have hcI : cStatics ≠ I := fun e => by
    obtain ⟨_, hns, _⟩ := hlim
    obtain ⟨o, es, ep, ho, hd, _⟩ := hns
    rw [e, hI₀] at ho
    cases ho
  have base₃ : ∀ b o, h₀.get? b = some o → h₃.get? b = some o := fun b o e => hx b o (fun q => by rw [q] at e; rw [show h₀.get? P = none from (N₂ _ List.mem_cons_self).2.2] at e; cases e) (F₂.keep b o e)
  have hPL : P ≠ L := (N₂ _ List.mem_cons_self).2.1
  have F₃ : Fr h₀ L h₃ m := ⟨F₂.ns.at' fun o e => hx _ o (Ne.symm hPL) e, base₃, F₂.above⟩
  have N₃ : News h₀ L h₃ ((P, tabObj ps') :: led) := fun p hp => by
    rcases List.mem_cons.mp hp with rfl | hp
    · exact ⟨hP₃, (N₂ _ List.mem_cons_self).2⟩
    · exact ⟨hx _ _ (off p hp) (N₂ p (List.mem_cons_of_mem _ hp)).1, (N₂ p (List.mem_cons_of_mem _ hp)).2⟩
  refine wpAny_builtinsFor M₃.ns M₃.name M₃.ne M₃.obj M₃.cls M₃.dict M₃.data ?_
  refine ⟨I, fp, [I], n, (fun i v => i < n ∧ Pi i v), St₀, (fun _ => true), F, rfl, (fun A' hA => (W₀ A' hA).bound), (W₀ A hh).frame _ _ _ hst (fun b hb o e => hx b o (fun e' => hPf (e' ▸ hb)) e), (fun b hb => Nat.lt_of_lt_of_le (hfp b hb) hsz), hl₃, (fun hm => hcI (List.mem_singleton.mp hm)),
    (fun href hhref => ⟨?_, ?_⟩), fun a h₅ tk gs hgb hag hsz₅ hk₅ W hat => ?_⟩
  · intro A' E' i v t m₂ hA hd hu hP hn hxv hk
    exact wpAny_pure ⟨rfl, t.heap, t.toks, rfl, fun _ _ e => e⟩
  · rintro A' E' i v t m₂ hA hd hu ⟨hi, hP⟩ _ hn hxv hk
    have keep : ∀ b o, b ≠ I → h₃.get? b = some o → t.heap.get? b = some o := fun b o hb e => hk b (List.mem_range.mpr (Heap.lt_size e)) (fun q => hb (List.mem_singleton.mp q)) o (hhref b o e)
    refine elt₁ A' E' i v t h₃.objs.size m₂ code hA hd hu hi hP ⟨hn, fun b o e => keep b o (fun q => by rw [q, hI₀] at e; cases e) (base₃ b o e), Nat.le_trans F₃.above (Nat.le_of_lt F₃.ns.lt)⟩ hxv fun p hp => ?_
    have hp3 := N₃ p (List.mem_cons_of_mem _ hp)
    exact ⟨keep _ _ (hIl p hp) hp3.1, Nat.ne_of_lt (Heap.lt_size hp3.1), hp3.2.2⟩
  · have e1 := passing_all n
    rw [e1, List.length_range] at W
    have W3 : WalksS prog w A.in4 a _ _ _ n F _ := { sub := W.sub, grefl := W.grefl, gtrans := W.gtrans, frame := W.frame, done := W.done, self := W.self, item := fun i s Q E hi st hQ => W.item i s Q E hi st fun v s' hF => hQ v s' (by
      obtain ⟨j, hj, hF⟩ := hF
      rw [List.getElem?_range hi] at hj
      cases hj
      exact hF) }
    refine ret a _ ps' ⟨_, _, _, _, W3, hat, ?_, ?_⟩ ⟨rfl, fun g => g.push hgb⟩ (F₃.keeps hk₅) (N₃.grown hk₅) ht₃
    · intro b hb
      show b < h₅.objs.size
      rw [hsz₅]
      rcases List.mem_cons.mp hb with rfl | hb
      · exact Nat.lt_succ_self _
      · rcases List.mem_cons.mp hb with rfl | hb
        · exact Nat.lt_succ_of_lt hag
        · exact Nat.lt_succ_of_lt (Nat.lt_trans (List.mem_range.mp hb) hag)
    · intro b hb
      rcases List.mem_cons.mp hb with rfl | hb
      · refine ⟨Nat.ne_of_gt F₃.ns.lt, Heap.get?_none_of_le (Nat.le_trans F₃.above (Nat.le_of_lt F₃.ns.lt)), fun p hp => Nat.ne_of_lt (Heap.lt_size (N₃ p hp).1)⟩
      · rw [List.mem_singleton.mp hb]
        refine ⟨hIL, hI₀, fun p hp => ?_⟩
        rcases List.mem_cons.mp hp with rfl | hp
        · exact hIP
        · exact hIl p hp

theorem eval_Gen_G {Q : Value → Shared → Prop} {bm : Addr} {ob : Obj} (_F₀ : Fr h₀ L s.heap m) (M : BMod h₀ env.globals mgB bm ob) (Ch : CodeHd h₀ c P) (hlim : h₀.NoLimit) (hcode : env.code = .ref c)
    (hh : A.handled = none) (hco : scope.isCoroutine = false) (hclos : closureFor scope env = pure cl) (hcell : ∀ y ∈ scope.names, y.2 ≠ .cell) (h0 : scope.names.lookup (".0" : Str) = some NameKind.local)
    (hx : scope.names.lookup x = some .local) (hkind : scope.kind = .function) (hroom : A.depth < recursionLimit)
    (h : wpAny (model prog w) A (eval iter env) (GenSrcG prog w A env h₀ L m elt x scope cl P Q) E s)
    (hs : ∀ x, genFold iter env x = pure x) :
    wpAny (model prog w) A (eval (.GeneratorExp elt [⟨.Name x px, iter, [], 0⟩] scope pos) env) Q E s := by
  refine wpAny_GeneratorExp_walksQD hh hco hclos hcell h0 hx hkind hroom (wpAny_mono h (fun xv s₁ h₁ => ?_) fun _ _ e => e) hs
  obtain ⟨ps, led, n, Pi, F, _, F₁, N₁, off, ht, src, elt₁, ret⟩ := h₁
  have hPlt : P < s₁.heap.objs.size := Heap.lt_size (N₁ _ List.mem_cons_self).1
  rcases src with ⟨r, a, b, t, u, v, rfl, hr, hsm, hn, rfl⟩ | ⟨l, its, rfl, rfl, rfl, hl⟩
  · refine wpAny_pyIter_range hr hsm ?_
    have up : ∀ b' o, s₁.heap.get? b' = some o → (s₁.heap.push { cls := .type "range_iterator", data := .fields #[rawInt a, rawInt (Builtin.Range.rangeSize a b 1), rawInt 1] }).get? b' = some o := fun b o e => Heap.get?_push_of_some _ e
    refine gen_core (n := n) (s₂ := { s₁ with heap := s₁.heap.push { cls := .type "range_iterator", data := .fields #[rawInt a, rawInt (Builtin.Range.rangeSize a b 1), rawInt 1] } }) M Ch hlim hcode (F₁.keeps up) (N₁.grown up) off ht (fun A' hA => LCg.range_walks hA a n) (by show IsRangeIter _ _ _ _ _; rw [hn]; simpa using Heap.get?_push_size _ rfl) (fun b hb => ?_) (fun hm => ?_) (Nat.ne_of_gt F₁.ns.lt) (next_is_new F₁) (fun p hp => Nat.ne_of_lt (Heap.lt_size (N₁ p (List.mem_cons_of_mem _ hp)).1)) (Nat.ne_of_lt hPlt) elt₁ hh
      fun a s₅ ps' G S F₅ N₅ t₅ => ret a s₅ ps' G ((Same.put s₁ _ s₁.toks).trans S) F₅ N₅ t₅
    · rw [List.mem_singleton.mp hb]
      show s₁.heap.objs.size < (s₁.heap.push _).objs.size
      rw [Heap.size_push]; exact Nat.lt_succ_self _
    · exact Nat.lt_irrefl _ (List.mem_singleton.mp hm ▸ hPlt)
  · have hlt : l < s₁.heap.objs.size := by obtain ⟨_, e, _⟩ := hl; exact Heap.lt_size e
    have hlP : l ≠ P := fun e => by
      obtain ⟨o, ho, hc, _⟩ := hl
      rw [e, (N₁ _ List.mem_cons_self).1] at ho; cases ho; exact absurd hc (by simp)
    refine wpAny_pyIter_list hl ?_
    have up : ∀ b o, s₁.heap.get? b = some o → (s₁.heap.push { cls := .type "list_iterator", data := .fields #[.ref l, .int 0 0] }).get? b = some o := fun b o e => Heap.get?_push_of_some _ e
    refine gen_core (s₂ := { s₁ with heap := s₁.heap.push { cls := .type "list_iterator", data := .fields #[.ref l, .int 0 0] } }) M Ch hlim hcode (F₁.keeps up) (N₁.grown up) off ht (fun A' hA => Walks.list hA _ _ (Nat.ne_of_lt hlt) its) ⟨⟨_, Heap.get?_push_size _ rfl, rfl, rfl⟩, hl.push _⟩ (fun b hb => ?_) (fun hm => ?_) (Nat.ne_of_gt F₁.ns.lt) (next_is_new F₁) (fun p hp => Nat.ne_of_lt (Heap.lt_size (N₁ p (List.mem_cons_of_mem _ hp)).1)) (Nat.ne_of_lt hPlt) elt₁ hh
      fun a s₅ ps' G S F₅ N₅ t₅ => ret a s₅ ps' G ((Same.put s₁ _ s₁.toks).trans S) F₅ N₅ t₅
    · show b < (s₁.heap.push _).objs.size
      rw [Heap.size_push]
      rcases List.mem_cons.mp hb with rfl | hb
      · exact Nat.lt_succ_self _
      · rw [List.mem_singleton.mp hb]; exact Nat.lt_succ_of_lt hlt
    · rcases List.mem_cons.mp hm with e | hb
      · exact Nat.lt_irrefl _ (e ▸ hPlt)
      · exact hlP (List.mem_singleton.mp hb).symm

theorem moved_fr {a : Addr} {n : Nat} {F : Nat → Value → Prop} {wr : List Addr} {g : Nat} {s' : Shared} (Fh : Fr h₀ L s.heap m) (N : News h₀ L s.heap led) (hw : ∀ b ∈ wr, b ≠ L ∧ h₀.get? b = none ∧ ∀ p ∈ led, p.1 ≠ b) (hm : Moved wr (GenOnlyQ g) s s') :
    Same s s' ∧ Fr h₀ L s'.heap m ∧ News h₀ L s'.heap led := by
  refine ⟨⟨hm.os, fun g => g.movedS hm⟩, ⟨Fh.ns.at' fun o e => hm.heap L o (fun hb => (hw L hb).1 rfl) e, fun b o e => hm.heap b o (fun hb => by rw [(hw b hb).2.1] at e; cases e) (Fh.keep b o e), Fh.above⟩, fun p hp => ⟨hm.heap _ _ (fun hb => (hw _ hb).2.2 p hp rfl) (N p hp).1, (N p hp).2⟩⟩

theorem sum_G {a : Addr} {n : Nat} {F : Nat → Value → Prop} {Q : Value → Shared → Prop} (val : Nat → Int) (X : GenV prog w A h₀ L led a n F s) (Fh : Fr h₀ L s.heap m) (N : News h₀ L s.heap led) (hval : ∀ j v, F j v → ∃ t, v = .int (val j) t)
    (h : ∀ s' t', Same s s' → Fr h₀ L s'.heap m → News h₀ L s'.heap led → Q (.int (preSum val n) t') s') : wpAny (model prog w) A (call (.builtin "sum") [.ref a]) Q E s := by
  obtain ⟨fp, wr, g, St, W, hst, hfp, hw⟩ := X
  have W := W.in4_1
  exact call_sum_walkAnyS (W.self 0 _ _ _ hst ⟨a, _, _, _, _, _, _, val, rfl, W, hst, hfp, hval, fun s' t' hm => by
    obtain ⟨S', F', N'⟩ := moved_fr (a := a) (n := n) (F := F) Fh N hw hm
    exact h s' t' S' F' N'⟩)

theorem all_G {a : Addr} {n : Nat} {F : Nat → Value → Prop} {Q : Value → Shared → Prop} (tr : Nat → Bool) (X : GenV prog w A h₀ L led a n F s) (Fh : Fr h₀ L s.heap m) (N : News h₀ L s.heap led) (hval : ∀ j v, F j v → v = .bool (tr j))
    (h : ∀ s', Same s s' → Fr h₀ L s'.heap m → News h₀ L s'.heap led → Q (.bool ((List.range n).all tr)) s') : wpAny (model prog w) A (call (.builtin "all") [.ref a]) Q E s := by
  obtain ⟨fp, wr, g, St, W, hst, hfp, hw⟩ := X
  have W := W.in4_1
  refine call_all_walkS (W.self 0 _ _ _ hst ⟨a, _, _, _, _, _, _, tr, rfl, W, hst, ?_, fun s' hm => by
    obtain ⟨S', F', N'⟩ := moved_fr (a := a) (n := n) (F := F) Fh N hw hm
    exact h s' S' F' N'⟩)
  intro i v s Q E hF hQ
  rw [hval i v hF]
  exact wpAny_truthy_bool hQ

theorem gen_free {A : Around} {s : Shared} {h₀ : Heap} {C0 C : Addr} {code : Value} {y : Str} {npos : Pos} {cc : Addr} {oc : Obj} {v : Value} {Q : Value → Shared → Prop} (N : News h₀ C0 s.heap led) (hc : cl.lookup y = some cc) (hm : (cc, oc) ∈ led) (hd : oc.data = .cell (some v)) (h : Q v s)
    (hk : scope.kind = .function) (hl : (genEnv scope cl C code builtinsNs env).kindOf y = some .free) (hb : (y == ("__debug__" : Str)) = false) (hn : (y == ("__classdict__" : Str)) = false) :
    wpAny (model prog w) A (eval (.Name y npos) (genEnv scope cl C code builtinsNs env)) Q E s := ldFreeG hc ⟨oc, (N _ hm).1, hd⟩ h hk hl hb hn
end
end Mine

namespace Mine

section
variable {prog : Program} {w : World} {A : Around} {E : Value → Shared → Prop} {s : Shared} {env : Env} {h₀ : Heap} {L : Addr} {m : Str → Option Value} {elt iter : PySem.Expr} {x y : Str} {px py : Pos} {scope : Scope} {cl : List (Str × Addr)} {pos spos : Pos}

/-- an element's end where the comprehension's own name is a cell -/
def EltGC (h₀ : Heap) (L : Addr) (m : Str → Option Value) (s₁ : Shared) (I : Addr) (oI : Obj) (C : Addr) (oC : Obj) (D : Addr) (oD : Obj) (R : Addr) (oR : Obj) (r : Value → List (Addr × Obj) → Prop) (y : Value) (s₂ : Shared) : Prop :=
  ∃ led, Same s₁ s₂ ∧ Fr h₀ L s₂.heap m ∧ News h₀ L s₂.heap ((I, oI) :: (C, oC) :: (D, oD) :: (R, oR) :: led) ∧ (∀ p ∈ led, p.1 ≠ I ∧ p.1 ≠ C ∧ p.1 ≠ D ∧ p.1 ≠ R) ∧ r y led
theorem EltGC.mk {s₁ s₂ : Shared} {I C D R : Addr} {oI oC oD oR : Obj} {r : Value → List (Addr × Obj) → Prop} {y : Value} (led : List (Addr × Obj))
    (S : Same s₁ s₂) (F : Fr h₀ L s₂.heap m) (N : News h₀ L s₂.heap ((I, oI) :: (C, oC) :: (D, oD) :: (R, oR) :: led)) (off : ∀ p ∈ led, p.1 ≠ I ∧ p.1 ≠ C ∧ p.1 ≠ D ∧ p.1 ≠ R) (hr : r y led) :
    EltGC h₀ L m s₁ I oI C oC D oD R oR r y s₂ := ⟨led, S, F, N, off, hr⟩

def CompTurnC (prog : Program) (w : World) (A : Around) (env : Env) (h₀ : Heap) (L : Addr) (m : Str → Option Value) (elt : PySem.Expr) (x : Str) (scope : Scope) (cl : List (Str × Addr)) (n : Nat) (P : Nat → Value → Prop) (J : Nat → List Value → List (Addr × Obj) → Prop) (s₂ : Shared) : Prop :=
  ∀ i ys led v I oI C oC D R oR s₁ (E' : Value → Shared → Prop), i < n → ys.length = i → J i ys led → P i v → oR.data = .cell (some v) → Same s₂ s₁ → Fr h₀ L s₁.heap m →
    News h₀ L s₁.heap ((I, oI) :: (C, oC) :: (D, LCg.lst ys) :: (R, oR) :: led) → (∀ p ∈ led, p.1 ≠ I ∧ p.1 ≠ C ∧ p.1 ≠ D ∧ p.1 ≠ R) →
    wpAny (model prog w) A (eval elt (compEnvC scope ((x, R) :: cl) C env)) (EltGC h₀ L m s₁ I oI C oC D (LCg.lst ys) R oR (fun y led' => J (i + 1) (ys ++ [y]) led')) E' s₁

def oneCell : Obj := { cls := .type "cell", data := .cell none }

theorem newEnv_cell {M : Model} {globals : Addr} {qual : Str} {o : Env} {Q : Env → Shared → Prop} (hone : ∀ n, cellsFrom n scope.names cl = (x, n) :: cl) (hpush : ∀ h, pushCells h scope.names = h.push oneCell)
    (h : Q (newEnv scope s.heap.objs.size globals ((x, s.heap.objs.size + 1) :: cl) qual none .none (some o) builtinsNs) { s with heap := (s.heap.push { cls := .type "dict", data := .dict #[] }).push oneCell }) :
    wpAny M A (newFunctionEnv scope globals cl [] qual none .none (some o)) Q E s := by
  simp only [newFunctionEnv, Option.isSome_some, if_true]
  refine wpAny_bind (wpAny_alloc ?_)
  refine wpAny_bind (wpAny_layCells _ (fun name kind cells => by cases hkc : kind == NameKind.cell <;> simp [hkc]) _ _ _ _ ?_)
  rw [show ({ s with heap := s.heap.push { cls := .type "dict", data := .dict #[] } } : Shared).heap.objs.size = s.heap.objs.size + 1 from Heap.size_push .., hone, hpush]
  simp only [List.forIn_nil]
  exact wpAny_bind (wpAny_pure (wpAny_pure h))

theorem block_C {s₂ : Shared} {I : Addr} {n : Nat} {P : Nat → Value → Prop} {St : Nat → Heap → Prop} (J : Nat → List Value → List (Addr × Obj) → Prop) {led₀ : List (Addr × Obj)} {RR : Value → Addr → Result → Shared → Prop}
    (W : Walks prog w A I [I] [I] n P St) (hsz : n ≤ sizeLine) (hIo : ∀ i h, St i h → ∃ o, h.get? I = some o)
    (hone : ∀ n, cellsFrom n scope.names cl = (x, n) :: cl) (hpush : ∀ h, pushCells h scope.names = h.push oneCell) (hkind : scope.kind = .function) (hx : (relabel scope env).names.lookup x = some .cell) (hst : St 0 s₂.heap) (hIlt : I < s₂.heap.objs.size)
    (F : Fr h₀ L s₂.heap m) (N : News h₀ L s₂.heap led₀) (hIL : L ≠ I) (hI₀ : h₀.get? I = none) (off : ∀ p ∈ led₀, p.1 ≠ I) (h0 : J 0 [] led₀)
    (turn : CompTurnC prog w A env h₀ L m elt x scope cl n P J s₂)
    (hRR : ∀ D C s₃ m' ys led, ys.length = n → J n ys led → Same s₂ s₃ → Fr h₀ L s₃.heap m → News h₀ L s₃.heap ((D, LCg.lst ys) :: led) → (∀ p ∈ led, p.1 ≠ D) → s₃.heap.Ns C m' → h₀.get? C = none → h₀.get? D = none → C ≠ L → D ≠ L → C ≠ D → (∀ p ∈ led, p.1 ≠ C) → RR (.ref D) C (.ok .next) s₃) :
    wpAny (model prog w) A (newList []) (fun acc s₃ => wpAny (model prog w) A (newFunctionEnv scope env.globals cl [] env.qual none .none (some env)) (fun cenv s₄ =>
      codeAny (model prog w) A (.compStart (.ListComp elt [⟨.Name x px, iter, [], 0⟩] scope pos) 0 (.ref I) acc { cenv with scope := relabel scope env }) (RR acc cenv.locals) s₄) E s₃) E s₂ := by
  refine wpAny_newObj_type (newEnv_cell hone hpush ?_)
  dsimp only
  generalize hH2 : s₂.heap.push { cls := .type "list", dict := none, data := .seq ([] : List Value).toArray } = H2
  have hC : H2.objs.size = s₂.heap.objs.size + 1 := by rw [← hH2, Heap.size_push]
  generalize hCd : H2.objs.size = C at hC ⊢
  generalize hDd : s₂.heap.objs.size = D at hC hIlt ⊢
  generalize hRd : C + 1 = R
  generalize hH3 : H2.push { cls := .type "dict", data := .dict #[] } = H3
  have hH3s : H3.objs.size = R := by rw [← hH3, Heap.size_push, hCd, hRd]
  have hDC : D ≠ C := by rw [hC]; exact Nat.ne_of_lt (Nat.lt_succ_self _)
  have hCR : C ≠ R := by rw [← hRd]; exact Nat.ne_of_lt (Nat.lt_succ_self _)
  have hDR : D ≠ R := by rw [← hRd, hC]; exact Nat.ne_of_lt (Nat.lt_succ_of_lt (Nat.lt_succ_self _))
  have below : ∀ b, b < D → b ≠ C ∧ b ≠ D ∧ b ≠ R := fun b hb => ⟨by rw [hC]; exact Nat.ne_of_lt (Nat.lt_succ_of_lt hb), Nat.ne_of_lt hb, by rw [← hRd, hC]; exact Nat.ne_of_lt (Nat.lt_succ_of_lt (Nat.lt_succ_of_lt hb))⟩
  have old : ∀ b o, s₂.heap.get? b = some o → (H3.push oneCell).get? b = some o := fun b o e => Heap.get?_push_of_some _ (hH3 ▸ Heap.get?_push_of_some _ (hH2 ▸ Heap.get?_push_of_some _ e))
  have hacc : (H3.push oneCell).get? D = some (LCg.lst []) := Heap.get?_push_of_some _ (hH3 ▸ Heap.get?_push_of_some _ (hH2 ▸ hDd ▸ Heap.get?_push_size _ rfl))
  have hns₁ : (H3.push oneCell).Ns C (fun _ => none) := by
    have := (Heap.Ns.new H2 (.type "dict")).push oneCell
    rw [hCd, hH3] at this
    exact this
  have hcl₁ : (H3.push oneCell).get? R = some oneCell := by
    have := Heap.get?_push_size H3 (o := oneCell) rfl
    rw [hH3s] at this
    exact this
  have hst₁ : St 0 (H3.push oneCell) := W.frame _ _ _ hst fun b _ o e => old b o e
  have fresh : ∀ a, D ≤ a → s₂.heap.get? a = none := fun a ha => by
    cases e : s₂.heap.get? a with
    | none => rfl
    | some o' => exact absurd (Heap.lt_size e) (Nat.not_lt.mpr (hDd ▸ ha))
  have fresh₀ : ∀ a, D ≤ a → h₀.get? a = none := fun a ha => by
    cases e : h₀.get? a with
    | none => rfl
    | some o' => have := F.keep a o' e; rw [fresh a ha] at this; cases this
  have hD₀ : h₀.get? D = none := fresh₀ _ (Nat.le_refl _)
  have hC₀ : h₀.get? C = none := fresh₀ _ (by rw [hC]; exact Nat.le_succ _)
  have hR₀ : h₀.get? R = none := fresh₀ _ (by rw [← hRd, hC]; exact Nat.le_succ_of_le (Nat.le_succ _))
  have hLlt : L < D := hDd ▸ F.ns.lt
  have hDL : D ≠ L := Ne.symm (below L hLlt).2.1
  have hCL : C ≠ L := Ne.symm (below L hLlt).1
  have hRL : R ≠ L := Ne.symm (below L hLlt).2.2
  have hCI : I ≠ C := (below I hIlt).1
  have hDI : I ≠ D := (below I hIlt).2.1
  have hRI : I ≠ R := (below I hIlt).2.2
  have off₀ : ∀ p ∈ led₀, p.1 ≠ I ∧ p.1 ≠ C ∧ p.1 ≠ D ∧ p.1 ≠ R := fun p hp => by
    have b := below _ (hDd ▸ Heap.lt_size (N p hp).1)
    exact ⟨off p hp, b.1, b.2.1, b.2.2⟩
  have loop : ∀ s₃ : Shared, s₃ = { s₂ with heap := H3.push oneCell } →
      codeAny (model prog w) A (.compLoop (.ListComp elt [⟨.Name x px, iter, [], 0⟩] scope pos) 0 (.ref I) (.ref D) (compEnvC scope ((x, R) :: cl) C env)) (RR (.ref D) C) s₃ := by
    rintro s₃ rfl
    refine codeAny_compLoop_tests
      (fun k s' => ∃ i ys oR v₀ led, Same s₂ s' ∧ i ≤ n ∧ k = n + 1 - i ∧ ys.length = i ∧ St i s'.heap ∧ Fr h₀ L s'.heap m ∧ s'.heap.Ns C (fun _ => none) ∧ oR.data = .cell v₀ ∧ News h₀ L s'.heap ((D, LCg.lst ys) :: (R, oR) :: led) ∧
        (∀ p ∈ led, p.1 ≠ I ∧ p.1 ≠ C ∧ p.1 ≠ D ∧ p.1 ≠ R) ∧ J i ys led) ?_ (n + 1)
      ⟨0, [], oneCell, none, led₀, Same.put s₂ _ s₂.toks, Nat.zero_le _, rfl, rfl, hst₁, F.keeps old, hns₁, rfl, fun p hp => ?_, off₀, h0⟩
    · rintro k s' ⟨i, ys, oR, v₀, led, S', hi, rfl, hyl, hst', F', hn', hoR, N', off', hJ⟩
      by_cases hlt : i < n
      · refine W.item i _ _ _ hlt hst' fun v h₂ tk₂ hPv hst₂ hk₂ => ?_
        have N₂ : News h₀ L h₂ ((D, LCg.lst ys) :: (R, oR) :: led) := LCg.news_but N' hk₂ fun p hp => by
          rcases List.mem_cons.mp hp with rfl | hp
          · exact Ne.symm hDI
          · rcases List.mem_cons.mp hp with rfl | hp
            · exact Ne.symm hRI
            · exact (off' p hp).1
        have F₂ : Fr h₀ L h₂ m := LCg.fr_but F' hk₂ hIL hI₀
        have hn₂ : h₂.Ns C (fun _ => none) := hn'.at' fun o e => hk₂ _ o (by simpa using Ne.symm hCI) e
        refine wpAny_assign_Name (wpAny_storeName_cell (env := compEnvC scope ((x, R) :: cl) C env) (c := R) (by simp [compEnvC, relabel, hkind]) hx (by simp [compEnvC]) ⟨oR, (N₂ _ (List.mem_cons_of_mem _ List.mem_cons_self)).1, hoR⟩ fun h₃ hv₃ hs₃ => ?_)
        obtain ⟨oR₃, heR, hoR₃⟩ := hv₃
        refine wpAny_tests_nil ?_
        simp only [if_true]
        have hst₃ : St (i + 1) h₃ := W.frame _ _ _ hst₂ fun b hb o e => hs₃.extBut b o (by rw [List.mem_singleton.mp hb]; exact hRI) e
        obtain ⟨oI, heI⟩ := hIo _ _ hst₃
        have hn₃ : h₃.Ns C (fun _ => none) := hn₂.sameBut hs₃ hCR
        obtain ⟨oC, heC, hoC⟩ := LCg.ns_obj hn₃
        have F₃ : Fr h₀ L h₃ m := F₂.change hs₃ hRL hR₀
        have N₃ : News h₀ L h₃ ((I, oI) :: (C, oC) :: (D, LCg.lst ys) :: (R, oR₃) :: led) := fun p hp => by
          rcases List.mem_cons.mp hp with rfl | hp
          · exact ⟨heI, Ne.symm hIL, hI₀⟩
          rcases List.mem_cons.mp hp with rfl | hp
          · exact ⟨heC, hCL, hC₀⟩
          rcases List.mem_cons.mp hp with rfl | hp
          · exact ⟨hs₃.extBut _ _ hDR (N₂ _ List.mem_cons_self).1, hDL, hD₀⟩
          rcases List.mem_cons.mp hp with rfl | hp
          · exact ⟨heR, hRL, hR₀⟩
          · have z := N₂ p (List.mem_cons_of_mem _ (List.mem_cons_of_mem _ hp))
            exact ⟨hs₃.extBut _ _ (off' p hp).2.2.2 z.1, z.2⟩
        refine wpAny_mono (turn i ys led v I oI C oC D R oR₃ { s' with heap := h₃, toks := tk₂ } _ hlt hyl hJ hPv hoR₃ (S'.putR _ _) F₃ N₃ off') (fun y s₄ h₄ => ?_) fun _ _ e => e
        obtain ⟨led₄, S₄, F₄, N₄, off₄, hJ₄⟩ := h₄
        have zI := (N₄ (I, oI) List.mem_cons_self).1
        have zC := (N₄ (C, oC) (List.mem_cons_of_mem _ List.mem_cons_self)).1
        have zD := (N₄ (D, LCg.lst ys) (List.mem_cons_of_mem _ (List.mem_cons_of_mem _ List.mem_cons_self))).1
        have N₄' : News h₀ L s₄.heap ((R, oR₃) :: led₄) := fun p hp => N₄ p (List.mem_cons_of_mem _ (List.mem_cons_of_mem _ (List.mem_cons_of_mem _ hp)))
        have hst₄ : St (i + 1) s₄.heap := W.frame _ _ _ hst₃ fun b hb o e => by
          rw [List.mem_singleton.mp hb] at e ⊢
          rw [heI] at e
          exact Option.some.inj e ▸ zI
        refine append_at (hsz := by show ys.toArray.size ≤ sizeLine; rw [List.size_toArray, hyl]; exact Nat.le_trans hi hsz) zD fun h₅ hs₅ hD₅ => ?_
        refine ⟨n + 1 - (i + 1), by omega, i + 1, ys ++ [y], oR₃, _, led₄, (S'.putR _ _).trans (S₄.trans (Same.put s₄ _ s₄.toks)), hlt, rfl, by rw [List.length_append, List.length_singleton, hyl], W.frame _ _ _ hst₄ fun b hb o e => hs₅.extBut b o (by rw [List.mem_singleton.mp hb]; exact hDI) e, F₄.change hs₅ hDL hD₀,
          (hoC.ns zC).sameBut hs₅ (Ne.symm hDC), hoR₃, fun p hp => ?_, off₄, hJ₄⟩
        rcases List.mem_cons.mp hp with rfl | hp
        · exact ⟨hD₅.trans (congrArg some (LCg.lst_snoc ys y)), hDL, hD₀⟩
        · refine ⟨hs₅.extBut _ _ ?_ (N₄' p hp).1, (N₄' p hp).2⟩
          rcases List.mem_cons.mp hp with rfl | hp
          · exact Ne.symm hDR
          · exact (off₄ p hp).2.2.1
      · obtain rfl : i = n := Nat.le_antisymm hi (Nat.not_lt.mp hlt)
        refine W.done _ _ _ hst' fun h₂ tk₂ hk₂ => ?_
        refine hRR D C _ _ ys led hyl hJ (S'.putR _ _) (LCg.fr_but F' hk₂ hIL hI₀) (LCg.news_but (fun p hp => N' p ?_) hk₂ fun p hp => ?_) (fun p hp => (off' p hp).2.2.1) (hn'.at' fun o e => hk₂ _ o (by simpa using Ne.symm hCI) e) hC₀ hD₀ hCL hDL (Ne.symm hDC) (fun p hp => (off' p hp).2.1)
        · rcases List.mem_cons.mp hp with rfl | hp
          · exact List.mem_cons_self
          · exact List.mem_cons_of_mem _ (List.mem_cons_of_mem _ hp)
        · rcases List.mem_cons.mp hp with rfl | hp
          · exact Ne.symm hDI
          · exact (off' p hp).1
    · rcases List.mem_cons.mp hp with rfl | hp
      · exact ⟨hacc, hDL, hD₀⟩
      rcases List.mem_cons.mp hp with rfl | hp
      · exact ⟨hcl₁, hRL, hR₀⟩
      · exact ⟨old _ _ (N p hp).1, (N p hp).2⟩
  exact codeAny_compStart_list (loop _ rfl) (W.self 0 _ _ _ hst₁ (loop _ rfl))

/-- a comprehension over a range whose own name is a cell; and what is to be shown -/
def CompGC (prog : Program) (w : World) (A : Around) (env : Env) (h₀ : Heap) (L : Addr) (m : Str → Option Value) (elt : PySem.Expr) (x : Str) (scope : Scope) (cl : List (Str × Addr)) (Fin : Value → List Value → List (Addr × Obj) → Shared → Prop) (xv : Value) (s₁ : Shared) : Prop :=
  A.handled = none ∧ ∃ (n : Nat) (J : Nat → List Value → List (Addr × Obj) → Prop) (led₀ : List (Addr × Obj)), n ≤ sizeLine ∧ Fr h₀ L s₁.heap m ∧ News h₀ L s₁.heap led₀ ∧ J 0 [] led₀ ∧
    ∃ r a b t u v, xv = .ref r ∧ IsRange s₁.heap r a b 1 t u v ∧ Builtin.Range.small a b 1 = true ∧ Builtin.Range.rangeSize a b 1 = (n : Int) ∧
    CompTurnC prog w A env h₀ L m elt x scope cl n (fun i v => ∃ t, v = .int (a + (i : Int)) t) J s₁ ∧
    (∀ D ys led s₃, ys.length = n → J n ys led → Same s₁ s₃ → Fr h₀ L s₃.heap m → News h₀ L s₃.heap ((D, LCg.lst ys) :: led) → (∀ p ∈ led, p.1 ≠ D) → Fin (.ref D) ys led s₃)

theorem assign_ListComp_GC {Q : Flow → Shared → Prop} (_F₀ : Fr h₀ L s.heap m) (hLe : env.locals = L)
    (hsw : swapsWith (.ListComp elt [⟨.Name x px, iter, [], 0⟩] scope pos) (some (.Name y py)) spos.line env = pure true)
    (hclos : closureFor scope env = pure cl) (hone : ∀ n, cellsFrom n scope.names cl = (x, n) :: cl) (hpush : ∀ h, pushCells h scope.names = h.push oneCell) (hkind : scope.kind = .function)
    (hnames : ∀ z ∈ scope.names, z.2 = .local → scope.names.lookup z.1 = some .local) (hx : (relabel scope env).names.lookup x = some .cell)
    (hy : env.kindOf y = some .local) (hp : (env.scope.kind == .class || (env.scope.kind == .module && env.locals != env.globals)) = false)
    (h : wpAny (model prog w) A (eval iter env) (CompGC prog w A env h₀ L m elt x scope cl (FinStore h₀ L m y Q)) E s)
    (hs : ∀ x, foldedSetIterable iter env x = pure x := by intro _; rfl) :
    wpAny (model prog w) A (exec (.Assign [.Name y py] (.ListComp elt [⟨.Name x px, iter, [], 0⟩] scope pos) spos) env) Q E s := by
  subst hLe
  rw [exec_Assign_Name_used _ _ _ _ hsw]
  refine wpAny_bind (wpAny_standAt (wpAny_bind ?_))
  show wpAny _ A (do let _ ← comprehension (.ListComp elt [⟨.Name x px, iter, [], 0⟩] scope pos) scope env _ (newList []) false (eval iter env) (some (assign (.Name y py) env))) _ _ s
  refine wpAny_bind (wpAny_mono (wpAny_comprehension_free (use := some (assign (.Name y py) env)) (Q := fun _ s' => Q .next s') rfl hs hclos hkind hnames
    (wpAny_mono h (fun xv s₁ h₁ => ?_) fun _ _ e => e)) (fun _ s' hq => wpAny_pure (wpAny_pure hq)) fun _ _ e => e)
  obtain ⟨hh, n, J, led₀, hsz, F, N, h0, r, a, b, t, u, v, rfl, hr, hsm, hn, turn, fin⟩ := h₁
  refine wpAny_pyIter_range hr hsm ?_
  refine block_C J (LCg.range_walks hh a n) hsz (fun i h st => ⟨_, st⟩) hone hpush hkind hx (by show IsRangeIter _ _ _ _ _; rw [hn]; simpa using Heap.get?_push_size _ rfl) (by show s₁.heap.objs.size < (s₁.heap.push _).objs.size; rw [Heap.size_push]; exact Nat.lt_succ_self _)
    (F.keeps fun _ _ e => Heap.get?_push_of_some _ e) (N.grown fun _ _ e => Heap.get?_push_of_some _ e) (Nat.ne_of_lt F.ns.lt) (next_is_new F) (fun p hp => Nat.ne_of_lt (Heap.lt_size (N p hp).1)) h0
    (fun i ys led v I oI C oC D R oR s₄ E' z1 z2 z3 z4 z5 S4 => turn i ys led v I oI C oC D R oR s₄ E' z1 z2 z3 z4 z5 ((Same.put s₁ _ s₁.toks).trans S4)) ?_
  intro D C s₃ m' ys led hl hJ S' F N o1 hn hC₀ hD₀ hCL hDL hCD offC
  have hf := fin D ys led s₃ hl hJ ((Same.put s₁ _ s₁.toks).trans S') F N o1
  show wpAny _ A (assign (.Name y py) env (.ref D)) _ _ _
  refine wpAny_assign_Name (wpAny_storeName_local hy F.ns (fun h₂ hn₂ hs₂ => ?_) hp)
  have hL₀ : h₀.get? env.locals = none := Heap.get?_none_of_le F.above
  have F₂ : Fr h₀ env.locals h₂ (fun z => if z = y then some (.ref D) else m z) := ⟨hn₂, fun b o e => hs₂.extBut b o (fun q => by rw [q, hL₀] at e; cases e) (F.keep b o e), F.above⟩
  refine ⟨m', hn.sameBut hs₂ hCL, fun h'' hs'' => hf D { s₃ with heap := h'', toks := _ } rfl (Same.put s₃ _ _) (F₂.change hs'' hCL hC₀) fun p hp => ?_⟩
  have z : h₂.get? p.1 = some p.2 := hs₂.extBut _ _ (N p hp).2.1 (N p hp).1
  refine ⟨hs''.extBut _ _ ?_ z, (N p hp).2⟩
  rcases List.mem_cons.mp hp with rfl | hp
  · exact Ne.symm hCD
  · exact offC p hp
end
end Mine

namespace Mine
section
local macro_rules | `(tactic| k_mem) => `(tactic| first | ktr_member | exact List.mem_cons_self | (refine List.mem_cons_of_mem _ ?_; k_mem))
local macro_rules | `(tactic| k_room) => `(tactic| ktr_room)
local macro_rules | `(tactic| k_inst) => `(tactic| first
  | (refine' InstAt.of_base ?F ?h1 ?h2; (case F => k_asm); (case h1 => assumption); (case h2 => assumption))
  | (refine' InstAt.of_known ?F ?N ?h1 ?h2; (case F => k_asm); (case N => k_asm); (case h1 => assumption); (case h2 => assumption))
  | (refine' InstAt.of_news ?N ?h1 ?h2; (case N => k_asm); (case h1 => k_mem); (case h2 => k_mem))
  | fail "k_inst")
-- enter a def
local macro_rules | `(tactic| one_item) => `(tactic| (k_dflt (first
  | (refine' enter0 ?k1 ?k3 ?k5 ?k6 ?k7 ?k8 ?k9 ?kB ?_ ?c2 ?c3 ?c4 ?c5; (case k1 => k_asm); (case k3 => k_asm); (case k5 => k_asm); (case k6 => k_is); (case k7 => k_is); (case k8 => ktr_room); (case k9 => first | exact BindsTo.of_eq rfl | exact binds_K (by k_in) rfl (by k_is) rfl rfl rfl | fail "enter: no rule for these arguments"); (case c5 => decide); (case kB => exact locs rfl); (case c2 => exact rfl); (case c3 => exact rfl); (case c4 => exact rfl); k_whole; intro L' h' X' T' F' N'; (try dsimp only))
  | (refine' enterC ?k1 ?k3 ?k5 ?k6 ?k7 ?k8 ?k9 ?kB ?kD ?_ ?c2 ?c3 ?c4; (case k1 => k_asm); (case k3 => k_asm); (case k5 => k_asm); (case k6 => k_is); (case k7 => k_is); (case k8 => ktr_room); (case k9 => first | exact BindsTo.of_eq rfl | exact binds_K (by k_in) rfl (by k_is) rfl rfl rfl | fail "enter: no rule for these arguments"); (case kB => exact rfl); (case kD => decide +kernel); (case c2 => exact rfl); (case c3 => exact rfl); (case c4 => exact rfl); k_whole; intro L' h' tk' cells' X' T' F' N' Y'; k_cells Y'; (try dsimp only)))))
-- enter a def whose caller's objects (the first argument, given ahead) it turns
local macro_rules | `(tactic| tb_start) => `(tactic| (k_dflt ((case k1 => k_asm); (case k3 => k_asm); (case k5 => k_asm); (case k6 => k_is); (case k7 => k_is); (case k8 => ktr_room); (case k9 => first | exact BindsTo.of_eq rfl | exact binds_K (by k_in) rfl (by k_is) rfl rfl rfl | fail "enter: no rule for these arguments"); (case c5 => decide); (case kB => exact locs rfl); (case c2 => exact rfl); (case c3 => exact rfl); (case c4 => exact rfl); k_whole)))
-- the stops
local macro_rules | `(tactic| walk_at "call ref") => `(tactic| refine Stop.mk ?_)
local macro_rules | `(tactic| walk_at "exec For Name Call cons nil") => `(tactic| refine Stop.mk ?_)
local macro_rules | `(tactic| walk_at "exec For Name Name cons nil") => `(tactic| refine Stop.mk ?_)
local macro_rules | `(tactic| walk_at "exec For Name Attribute cons nil") => `(tactic| refine Stop.mk ?_)
local macro_rules | `(tactic| walk_at "exec For Name Call") => `(tactic| refine Stop.mk ?_)
local macro_rules | `(tactic| walk_at "exec For Name Name") => `(tactic| refine Stop.mk ?_)
local macro_rules | `(tactic| walk_at "exec For") => `(tactic| refine Stop.mk ?_)
local macro_rules | `(tactic| walk_at "exec While Compare") => `(tactic| refine Stop.mk ?_)
local macro_rules | `(tactic| walk_at "exec While BoolOp") => `(tactic| refine Stop.mk ?_)
local macro_rules | `(tactic| walk_at "exec While") => `(tactic| refine Stop.mk ?_)
local macro_rules | `(tactic| walk_at "eval ListComp") => `(tactic| refine Stop.mk ?_)
local macro_rules | `(tactic| walk_at "exec Assign cons ListComp") => `(tactic| refine Stop.mk ?_)
local macro_rules | `(tactic| walk_at "eval GeneratorExp") => `(tactic| refine Stop.mk ?_)
local macro_rules | `(tactic| walk_at "CompSrc") => `(tactic| refine Stop.mk ?_)
local macro_rules | `(tactic| walk_at "CompG") => `(tactic| refine Stop.mk ?_)
local macro_rules | `(tactic| walk_at "pyIter ref") => `(tactic| refine Stop.mk ?_)
local macro_rules | `(tactic| walk_at "FinA") => `(tactic| refine Stop.mk ?_)
local macro_rules | `(tactic| walk_at "FinE") => `(tactic| refine Stop.mk ?_)
local macro_rules | `(tactic| walk_at "IntsTurn") => `(tactic| refine Stop.mk ?_)
local macro_rules | `(tactic| walk_at "ListTurn") => `(tactic| refine Stop.mk ?_)
local macro_rules | `(tactic| walk_at "TurnG") => `(tactic| refine Stop.mk ?_)
local macro_rules | `(tactic| walk_at "WhileEnd") => `(tactic| refine Stop.mk ?_)
local macro_rules | `(tactic| walk_at "EltG") => `(tactic| refine Stop.mk ?_)
local macro_rules | `(tactic| walk_at "InvPostN") => `(tactic| refine Stop.mk ?_)
local macro_rules | `(tactic| walk_at "InvEndN") => `(tactic| refine Stop.mk ?_)
local macro_rules | `(tactic| walk_at "binaryOp Mult int int") => `(tactic| refine Stop.mk ?_)
local macro_rules | `(tactic| walk_at "setItem ref int") => `(tactic| refine Stop.mk ?_)
local macro_rules | `(tactic| walk_at "newList") => `(tactic| refine Stop.mk ?_)
local macro_rules | `(tactic| walk_at "call builtin:list.append") => `(tactic| refine Stop.mk ?_)
local macro_rules | `(tactic| walk_at "subscriptTail Name Slice ref ref") => `(tactic| refine Stop.mk ?_)
local macro_rules | `(tactic| walk_at "subscriptTail Attribute Slice ref ref") => `(tactic| refine Stop.mk ?_)
local macro_rules | `(tactic| walk_at "binaryOp Add ref ref") => `(tactic| refine Stop.mk ?_)
local macro_rules | `(tactic| walk_at "compareOp Eq ref ref") => `(tactic| refine Stop.mk ?_)
local macro_rules | `(tactic| walk_at "compareOp NotEq ref ref") => `(tactic| refine Stop.mk ?_)
local macro_rules | `(tactic| walk_at "binaryOp Pow int int") => `(tactic| refine Stop.mk ?_)
local macro_rules | `(tactic| walk_at "subscriptTail Name Name ref int") => `(tactic| (k_dflt (refine' sub_base ?k1 ?k2 ?k3 ?k4 ?k5 ?k6 ?_ ?k7; (case k1 => k_asm); (case k2 => assumption); (case k3 => assumption); (case k4 => omega); (case k5 => omega); (case k6 => omega); (case k7 => with_unfolding_all rfl); k_whole); intro _))
local macro_rules | `(tactic| walk_at "subscriptTail Name BinOp ref int") => `(tactic| (k_dflt (refine' sub_base ?k1 ?k2 ?k3 ?k4 ?k5 ?k6 ?_ ?k7; (case k1 => k_asm); (case k2 => assumption); (case k3 => assumption); (case k4 => omega); (case k5 => omega); (case k6 => omega); (case k7 => with_unfolding_all rfl); k_whole); intro _))
local macro_rules | `(tactic| walk_at "subscriptTail Name Constant ref int") => `(tactic| (k_dflt (refine' sub_base ?k1 ?k2 ?k3 ?k4 ?k5 ?k6 ?_ ?k7; (case k1 => k_asm); (case k2 => assumption); (case k3 => assumption); (case k4 => omega); (case k5 => omega); (case k6 => omega); (case k7 => with_unfolding_all rfl); k_whole); intro _))
local macro_rules | `(tactic| walk_at "subscriptTail Attribute") => `(tactic| (k_dflt (refine' sub_base ?k1 ?k2 ?k3 ?k4 ?k5 ?k6 ?_ ?k7; (case k1 => k_asm); (case k2 => assumption); (case k3 => assumption); (case k4 => omega); (case k5 => omega); (case k6 => omega); (case k7 => with_unfolding_all rfl); k_whole); intro _))
local macro_rules | `(tactic| walk_at "subscriptTail") => `(tactic| (k_dflt (refine' sub_base ?k1 ?k2 ?k3 ?k4 ?k5 ?k6 ?_ ?k7; (case k1 => k_asm); (case k2 => assumption); (case k3 => assumption); (case k4 => omega); (case k5 => omega); (case k6 => omega); (case k7 => with_unfolding_all rfl); k_whole); intro _))

local macro_rules | `(tactic| walk_at "call builtin:len") => `(tactic| (k_dflt (first
  | (refine' len_base ?k1 ?k2 ?k3 ?k4 ?_; (case k1 => k_asm); (case k2 => assumption); (case k3 => first | assumption | exact IntsAre.length (by assumption)); (case k4 => omega); k_whole)
  | (refine' len_led ?k1 ?k2 ?k3 ?k4 ?_; (case k1 => k_asm); (case k2 => k_mem); (case k3 => first | assumption | exact IntsAre.length (by assumption)); (case k4 => omega); k_whole))))
local macro_rules | `(tactic| walk_at "call builtin:isinstance") => `(tactic| (k_dflt (refine' kia_one kitx_list ?X ?p ?ee ?nb ?_; (case X => k_in); (case p => first | exact ⟨_, Fr.keep (by k_asm) _ _ (by assumption), rfl⟩ | exact ⟨_, (News.get (by k_asm) (by k_mem)), rfl⟩); (case ee => kit_is); (case nb => kit_nb); k_whole); intro _))
local macro_rules | `(tactic| walk_at "CmpBack") => `(tactic| dsimp only [PySem.W.CmpBack])
local macro_rules | `(tactic| tb_rel) => `(tactic| (refine Stop.out ?_; (try dsimp only [List.cons_append, List.nil_append])))
-- a turn's end: the names that it turns; the other names
local macro_rules | `(tactic| kwd_inv) => `(tactic| (intro p hp; (try dsimp only at hp); (simp only [List.mem_cons, List.not_mem_nil, or_false] at hp); first | (rcases hp with rfl | rfl | rfl | rfl <;> first | rfl | assumption) | (rcases hp with rfl | rfl | rfl <;> first | rfl | assumption) | (rcases hp with rfl | rfl <;> first | rfl | assumption) | (subst hp; first | rfl | assumption)))
local macro_rules | `(tactic| kwd_less) => `(tactic| (intro z h2 h3; (try dsimp only at h2); (simp only [List.forall_mem_cons, List.not_mem_nil, false_implies, implies_true, and_true, ne_eq] at h2); (try simp only [List.contains_cons, List.contains_nil, Bool.or_false, Bool.or_eq_false_iff, beq_eq_false_iff_ne, ne_eq] at h3); first | rfl | (simp [h2]; done) | (simp [h2, h3]; done)))
local macro_rules | `(tactic| kwd_rel) => `(tactic| (intro z h1 h2 h3; (try dsimp only at h2); (simp only [List.contains_cons, List.contains_nil, Bool.or_false, Bool.or_eq_false_iff, beq_eq_false_iff_ne, ne_eq] at h3); (try simp only [List.forall_mem_cons, List.not_mem_nil, false_implies, implies_true, and_true, ne_eq] at h2); first | rfl | (simp [h1, h2, h3]; done) | (simp [h1, h3]; done) | (simp [h1, h2]; done) | (simp [h1]; done)))
local macro_rules | `(tactic| one_place) => `(tactic| ((repeat' (first | (k_unfold; (try dsimp only)) | walk1 | (dsimp only; walk1) | fail "no step")); (all_goals (try k_data))))
local macro_rules | `(tactic| one_sign) => `(tactic| (intro z h1 h3; (simp only [List.contains_cons, List.contains_nil, Bool.or_false, Bool.or_eq_false_iff, beq_eq_false_iff_ne, ne_eq] at h3); first | rfl | (simp [h1, h3]; done) | (simp [h1]; done)))
-- names in a generator
local macro_rules | `(tactic| walk_at "eval Name") => `(tactic| ((with_reducible refine inGen ?_); k_dflt (first
  | (refine' ldVarG ?gF ?gv ?_ ?g1 ?g2 ?g3; (case g1 => with_unfolding_all rfl); (case g2 => with_unfolding_all rfl); (case g3 => decide); (case gF => k_asm); (case gv => assumption); k_whole)
  | (refine' gen_free ?gN ?gc ?gm ?gd ?_ ?g1 ?g2 ?g3 ?g4; (case g1 => with_unfolding_all rfl); (case g2 => with_unfolding_all rfl); (case g3 => decide); (case g4 => decide); (case gc => with_unfolding_all rfl); (case gN => k_asm); (case gm => k_mem); (case gd => k_asm); k_whole))))

-- defs
def RingOn (w : World) (φ : Addr → Obj → Prop) (r : Addr) (q : Int) (n : Nat) : Prop :=
  ∃ dr tq tn tqv tnv, φ r (instObj 59 dr) ∧ φ dr (dictOf [⟨PyData.keyHash w.params "q", .str "q" tq, .int q tqv⟩, ⟨PyData.keyHash w.params "n", .str "n" tn, .int (n : Int) tnv⟩] 2)
def IntsOn (φ : Addr → Obj → Prop) (l : Addr) (c : List Int) : Prop := ∃ vs na, φ l (listOf (List.toArray vs) na) ∧ IntsAre vs c
def PolyOn (w : World) (φ : Addr → Obj → Prop) (x r : Addr) (c : List Int) : Prop :=
  ∃ dx a tp tc, φ x (instObj 222 dx) ∧ φ dx (dictOf [⟨PyData.keyHash w.params "parent", .str "parent" tp, .ref r⟩, ⟨PyData.keyHash w.params "coeffs", .str "coeffs" tc, .ref a⟩] 2) ∧ IntsOn φ a c
theorem IntsOn.mono {φ ψ : Addr → Obj → Prop} {l : Addr} {c : List Int} (h : ∀ a o, φ a o → ψ a o) (x : IntsOn φ l c) : IntsOn ψ l c := let ⟨vs, na, a, b⟩ := x; ⟨vs, na, h _ _ a, b⟩
theorem RingOn.mono {w : World} {φ ψ : Addr → Obj → Prop} {r : Addr} {q : Int} {n : Nat} (h : ∀ a o, φ a o → ψ a o) (x : RingOn w φ r q n) : RingOn w ψ r q n := let ⟨dr, a, b, c, d, e, f⟩ := x; ⟨dr, a, b, c, d, h _ _ e, h _ _ f⟩
theorem PolyOn.mono {w : World} {φ ψ : Addr → Obj → Prop} {x r : Addr} {c : List Int} (h : ∀ a o, φ a o → ψ a o) (y : PolyOn w φ x r c) : PolyOn w ψ x r c := let ⟨dx, a, t, u, e, f, g⟩ := y; ⟨dx, a, t, u, h _ _ e, h _ _ f, g.mono h⟩
theorem grow_is {h h' : Heap} (g : Grow h h') : ∀ a o, HeapIs h a o → HeapIs h' a o := fun a o e => g a o e
theorem fresh_is {h h' : Heap} : ∀ a o, Fresh h h' a o → HeapIs h' a o := fun _ _ e => e.1
theorem news_tl {h₀ h h' : Heap} {L : Addr} {m : Str → Option Value} {led tl : List (Addr × Obj)} (F : Fr h₀ L h m) (N : News h₀ L h led) (G : Grow h h') (f : ∀ p ∈ tl, Fresh h h' p.1 p.2) : News h₀ L h' (tl ++ led) := fun p hp => by
  rcases List.mem_append.mp hp with hp | hp
  · exact ⟨(f p hp).1, fresh_ne F (f p hp), (fresh_sub (f p hp) F.keep).2⟩
  · exact ⟨G _ _ (N p hp).1, (N p hp).2⟩
def InLed (led : List (Addr × Obj)) (a : Addr) (o : Obj) : Prop := (a, o) ∈ led
theorem InLed.known {h₀ : Heap} {led led' : List (Addr × Obj)} (h : ∀ p ∈ led, p ∈ led') : ∀ a o, InLed led a o → Known h₀ led' a o := fun _ _ k => .inr (h _ k)
theorem ints_tl {h h' : Heap} {l : Addr} {c : List Int} (y : IntsOn (Fresh h h') l c) : ∃ tl, (∀ p ∈ tl, Fresh h h' p.1 p.2) ∧ IntsOn (InLed tl) l c := by
  obtain ⟨vs, na, h1, h2⟩ := y
  refine ⟨[(l, listOf vs.toArray na)], fun p hp => ?_, vs, na, List.mem_cons_self, h2⟩
  rw [List.mem_singleton.mp hp]; exact h1
theorem poly_tl {w : World} {h h' : Heap} {z r : Addr} {c : List Int} (y : PolyOn w (Fresh h h') z r c) : ∃ tl, (∀ p ∈ tl, Fresh h h' p.1 p.2) ∧ PolyOn w (InLed tl) z r c := by
  obtain ⟨dx, a, tp, tc, h1, h2, vs, na, h3, h4⟩ := y
  refine ⟨[(z, instObj 222 dx), (dx, dictOf [⟨PyData.keyHash w.params "parent", .str "parent" tp, .ref r⟩, ⟨PyData.keyHash w.params "coeffs", .str "coeffs" tc, .ref a⟩] 2), (a, listOf vs.toArray na)], ?_, dx, a, tp, tc, List.mem_cons_self, List.mem_cons_of_mem _ List.mem_cons_self, vs, na, List.mem_cons_of_mem _ (List.mem_cons_of_mem _ List.mem_cons_self), h4⟩
  intro p hp
  simp only [List.mem_cons, List.not_mem_nil, or_false] at hp
  rcases hp with rfl | rfl | rfl
  · exact h1
  · exact h2
  · exact h3

-- school
def addAt (c : List Int) (k : Nat) (d : Int) : List Int := c.set k (c.getD k 0 + d)
theorem addAt_length (c : List Int) (k : Nat) (d : Int) : (addAt c k d).length = c.length := by simp [addAt]
def rowIn (la lb : List Int) (i : Nat) (c : List Int) (j : Nat) : List Int := addAt c (i + j) (la.getD i 0 * lb.getD j 0)
def rowOut (la lb : List Int) (n : Nat) (c : List Int) (i : Nat) : List Int := (List.range (n - i)).foldl (rowIn la lb i) c
def backIn (la lb : List Int) (n j : Nat) (c : List Int) (t : Nat) : List Int := addAt c t (-(la.getD (n - j + t) 0 * lb.getD j 0))
def backOut (la lb : List Int) (n : Nat) (c : List Int) (j : Nat) : List Int := (List.range (1 + j)).foldl (backIn la lb n (1 + j)) c
def schoolRaw (la lb : List Int) (n : Nat) : List Int := (List.range (n - 1)).foldl (backOut la lb n) ((List.range n).foldl (rowOut la lb n) ((List.range n).map (fun _ => (0 : Int))))
def schoolOf (q : Int) (n : Nat) (la lb : List Int) : List Int := (schoolRaw la lb n).map (fun z => z % q)

theorem school {prog : Program} {w : World} {p : Program} {loose : List Str} {mg mb : Str → Option Value}
    {dp un : Nat} {fr : Option (List Env)} {gd : Option (List Code)} {h₀ : Heap} {s : Shared} {Q E : Value → Shared → Prop} {x y r n : Nat} {q : Int} {la lb : List Int}
    (hsub : Grow h₀ s.heap) (KX : (heapK w.params).In h₀) (T : TopRead p loose mg mb h₀)
    (hx : PolyOn w (HeapIs s.heap) x r la) (hy : PolyOn w (HeapIs s.heap) y r lb) (hr : RingOn w (HeapIs s.heap) r q n)
    (hq : 2 ≤ q) (hn : 1 ≤ n) (hn2 : n ≤ 4) (hla : la.length = n) (hlb : lb.length = n)
    (hm : ∀ i j, IntMulOk (la.getD i 0) (lb.getD j 0))
    (hd : dp + 1 < recursionLimit)
    (ret : ∀ s' l, Grow s.heap s'.heap → Same s s' → IntsOn (Fresh s.heap s'.heap) l (schoolOf q n la lb) → Q (.ref l) s') :
    wpAny (model prog w) (Ar dp fr gd un) (call (.ref 122) [.ref x, .ref y]) Q E s := by
  obtain ⟨dx, ax, tpx, tcx, hx1, hx2, va, nx, hx3, ia⟩ := hx
  obtain ⟨dy, ay, tpy, tcy, hy1, hy2, vb, ny, hy3, ib⟩ := hy
  obtain ⟨dr, tq, tn, tqv, tnv, hr1, hr2⟩ := hr
  dsimp only [HeapIs] at hx1 hx2 hx3 hy1 hy2 hy3 hr1 hr2
  refine wpAny_call ?_
  one_item
  one_place
  refine Stop.out ?_
  k_dflt (refine LCg.Assign_ListComp_U (F₀ := by k_asm) (by rfl) (by with_unfolding_all rfl) (by rfl) (by decide) (by rfl) (by decide) (by rfl) (by rfl) (by rfl) ?_)
  one_place
  refine Stop.out ?_
  k_dflt (refine LCg.CompSrc.range (n := n) (by rfl) (by k_asm) (by k_asm) (by assumption) (small_one (by decide) (by decide) (by omega) (by omega)) (by rw [rangeSize_nat]; omega) (by rw [sizeLine_eq]; omega) ?_)
  intro g
  refine comp_ints (fun _ => 0) trivial ?_ ?_
  · intro i ys hi hl v I oI C oC D m₂ h tk E' hv hC hx' F' N'
    k_dflt one_place
    exact IntBack.mk rfl (by k_asm) (by k_asm)
  intro ys hys
  unfold LCg.FinA
  intro D2 h2 tk2 F2 N2 O2
  dsimp only
  one_place
  refine Stop.out ?_
  with_unfolding_all refine For_invVF F2 rfl rfl ?_
  one_place
  refine Stop.out ?_
  rename IsRange _ _ _ _ _ _ _ _ => R2
  generalize hys0 : (List.range n).map (fun _ => (0 : Int)) = c0 at hys
  k_dflt (refine' range_ints (n := n) [Str.ofString "j"] (fun i c => c.length = n ∧ c = (List.range i).foldl (rowOut la lb n) c0) ?hh ?hr ?hs ?hn ?hF ?hN (off1_all O2) hys ⟨by rw [← hys0]; simp, rfl⟩ ?_ ?_)
  case hh => rfl
  case hr => exact R2
  case hF => k_asm
  case hN => k_asm
  case hs => exact small_one (by decide) (by decide) (by omega) (by omega)
  case hn => rw [rangeSize_nat]; omega
  · intro i vs c t u h tk own hi off hvs hP F2 N2
    obtain ⟨hc1, hc2⟩ := hP
    one_place
    refine Stop.out ?_
    rename Fr _ _ _ _ => F3
    with_unfolding_all refine For_invVF F3 rfl rfl ?_
    one_place
    refine Stop.out ?_
    rename IsRange _ _ _ _ _ _ _ _ => R3
    k_dflt (refine' range_ints (n := n - i) [] (fun j c' => c'.length = n ∧ c' = (List.range j).foldl (rowIn la lb i) c) ?hh ?hr ?hs ?hn ?hF ?hN off hvs ⟨hc1, rfl⟩ ?_ ?_)
    case hh => rfl
    case hr => exact R3
    case hF => k_asm
    case hN => k_asm
    case hs => exact small_one (by omega) (by omega) (by omega) (by omega)
    case hn => rw [rangeSize_nat]; omega
    · intro j vs' c' t' u' h' tk' own' hj off' hvs' hP' F3 N3
      obtain ⟨hc1', hc2'⟩ := hP'
      one_place
      refine Stop.out (mul_ok (hm _ _) ?_)
      one_place
      refine Stop.out (set_ints (by k_asm) (by k_asm) off' hvs' (by omega) (by omega) (by omega) ?_)
      intro h4 F4 N4 hi4
      one_place
      refine Stop.out (IntsTurn.mk (by k_asm) (by k_asm) hi4 ⟨?_, ?_⟩ ?_)
      · rw [List.length_set]; exact hc1'
      · have e1 : (0 + (i : Int) + (0 + (j : Int))).toNat = i + j := by omega
        have e2 : (0 + (i : Int)).toNat = i := by omega
        have e3 : (0 + (j : Int)).toNat = j := by omega
        rw [e1, e2, e3, List.range_succ, List.foldl_append, ← hc2']
        rfl
      · one_sign
    · intro vs' c' u' h' tk' hvs' hP' F3 N3
      obtain ⟨hc1', hc2'⟩ := hP'
      one_place
      refine Stop.out (IntsTurn.mk (by k_asm) (by k_asm) hvs' ⟨hc1', ?_⟩ ?_)
      · rw [List.range_succ, List.foldl_append, ← hc2]
        exact hc2'
      · one_sign
  intro vs c u h tk hvs hP F3 N3
  obtain ⟨hc1, hc2⟩ := hP
  one_place
  refine Stop.out ?_
  rename Fr _ _ _ _ => F4
  with_unfolding_all refine For_invVF F4 rfl rfl ?_
  one_place
  refine Stop.out ?_
  rename IsRange _ _ _ _ _ _ _ _ => R2
  generalize hc1d : (List.range n).foldl (rowOut la lb n) c0 = c1 at hc2
  k_dflt (refine' range_ints (n := n - 1) [Str.ofString "i"] (fun i c => c.length = n ∧ c = (List.range i).foldl (backOut la lb n) c1) ?hh ?hr ?hs ?hn ?hF ?hN (off1_all O2) hvs ⟨hc1, hc2⟩ ?_ ?_)
  case hh => rfl
  case hr => exact R2
  case hF => k_asm
  case hN => k_asm
  case hs => exact small_one (by decide) (by decide) (by omega) (by omega)
  case hn => rw [rangeSize_nat]; omega
  · intro j vs c t u h tk own hj off hvs hP F2 N2
    obtain ⟨hc1, hc2⟩ := hP
    one_place
    refine Stop.out ?_
    rename Fr _ _ _ _ => F3
    with_unfolding_all refine For_invVF F3 rfl rfl ?_
    one_place
    refine Stop.out ?_
    rename IsRange _ _ _ _ _ _ _ _ => R3
    k_dflt (refine' range_ints (n := 1 + j) [] (fun t c' => c'.length = n ∧ c' = (List.range t).foldl (backIn la lb n (1 + j)) c) ?hh ?hr ?hs ?hn ?hF ?hN off hvs ⟨hc1, rfl⟩ ?_ ?_)
    case hh => rfl
    case hr => exact R3
    case hF => k_asm
    case hN => k_asm
    case hs => exact small_one (by omega) (by omega) (by omega) (by omega)
    case hn => rw [rangeSize_nat]; omega
    · intro i vs' c' t' u' h' tk' own' hi off' hvs' hP' F3 N3
      obtain ⟨hc1', hc2'⟩ := hP'
      one_place
      refine Stop.out (mul_ok (hm _ _) ?_)
      one_place
      refine Stop.out (set_ints (by k_asm) (by k_asm) off' hvs' (by omega) (by omega) (by omega) ?_)
      intro h4 F4 N4 hi4
      one_place
      refine Stop.out (IntsTurn.mk (by k_asm) (by k_asm) hi4 ⟨?_, ?_⟩ ?_)
      · rw [List.length_set]; exact hc1'
      · have e1 : ((n : Int) - (1 + (j : Int)) + (i : Int) + (1 + (j : Int)) - (n : Int)).toNat = i := by omega
        have e2 : ((n : Int) - (1 + (j : Int)) + (i : Int)).toNat = n - (1 + j) + i := by omega
        have e3 : (1 + (j : Int)).toNat = 1 + j := by omega
        rw [e1, e2, e3, List.range_succ, List.foldl_append, ← hc2']
        rfl
      · one_sign
    · intro vs' c' u' h' tk' hvs' hP' F3 N3
      obtain ⟨hc1', hc2'⟩ := hP'
      one_place
      refine Stop.out (IntsTurn.mk (by k_asm) (by k_asm) hvs' ⟨hc1', ?_⟩ ?_)
      · rw [List.range_succ, List.foldl_append, ← hc2]
        exact hc2'
      · one_sign
  intro vs' c' u' h' tk' hvs' hP' F5 N5
  obtain ⟨hc1', hc2'⟩ := hP'
  one_place
  refine Stop.out ?_
  k_dflt (refine LCg.ListComp_U (F₀ := by k_asm) (by with_unfolding_all rfl) (by decide) (by rfl) (by decide) (by rfl) ?_)
  one_place
  refine Stop.out ?_
  have hsz : vs'.toArray.size = n := by rw [List.size_toArray, hvs'.length, hc1']
  k_dflt (refine LCg.CompSrc.ledger (by rfl) (by k_asm) (by k_asm) List.mem_cons_self (by rw [hsz, sizeLine_eq]; omega) ?_)
  intro g
  rw [hsz]
  k_dflt (refine comp_ints (fun i => c'.getD i 0 % q) (Or.inr ⟨_, List.mem_cons_self, rfl, _, rfl⟩) ?_ ?_)
  · intro i ys hi hl v I oI C oC D m₂ h tk E' hv hC hx' F' N'
    obtain ⟨t, hti⟩ := hvs'.get i (c'.getD i 0) (by rw [List.getD_eq_getElem?_getD, List.getElem?_eq_getElem (by omega)]; rfl)
    have hv' : vs'[i]? = some v := by simpa using hv
    rw [hti] at hv'
    obtain rfl : v = .int (c'.getD i 0) t := (Option.some.inj hv').symm
    k_dflt one_place
    refine IntBack.mk (Int.fmod_eq_emod_of_nonneg _ (by omega)) (by k_asm) (by k_asm)
  intro ys hys
  unfold LCg.FinE
  intro D h tk F N O
  dsimp only
  refine ret _ _ F.keep (Same.put _ _ _) ⟨_, _, ⟨(N _ List.mem_cons_self).1, (N _ List.mem_cons_self).2.2⟩, ?_⟩
  have e : schoolOf q n la lb = (List.range n).map (fun i => c'.getD i 0 % q) := by
    unfold schoolOf
    have e2 : schoolRaw la lb n = c' := by unfold schoolRaw; rw [hys0, hc1d, ← hc2']
    rw [e2]
    apply List.ext_getElem
    · simp [hc1']
    · intro i h1 h2
      simp [List.getD_eq_getElem?_getD]
      rw [List.getElem?_eq_getElem]
      rfl
  rw [e]
  exact hys

-- poly
theorem parseEq {prog : Program} {w : World} {p : Program} {loose : List Str} {mg mb : Str → Option Value}
    {dp un : Nat} {fr : Option (List Env)} {gd : Option (List Code)} {h₀ : Heap} {s : Shared} {Q E : Value → Shared → Prop} {x l r n dx : Nat} {q : Int} {c : List Int} {tp : Tok}
    (hsub : Grow h₀ s.heap) (KX : (heapK w.params).In h₀) (T : TopRead p loose mg mb h₀)
    (hx1 : HeapIs s.heap x (instObj 222 dx)) (hx2 : HeapIs s.heap dx (dictOf [⟨PyData.keyHash w.params "parent", .str "parent" tp, .ref r⟩] 1))
    (hr : RingOn w (HeapIs s.heap) r q n) (hl : IntsOn (HeapIs s.heap) l c) (hlen : c.length = n) (hn : n ≤ 1000)
    (hd : dp + 1 < recursionLimit)
    (ret : ∀ s', Grow s.heap s'.heap → Same s s' → Q (.ref l) s') :
    wpAny (model prog w) (Ar dp fr gd un) (call (.ref 96) [.ref x, .ref l]) Q E s := by
  obtain ⟨dr, tq, tn, tqv, tnv, hr1, hr2⟩ := hr
  obtain ⟨vs, nl, hl1, hl2⟩ := hl
  dsimp only [HeapIs] at hx1 hx2 hr1 hr2 hl1
  refine wpAny_call ?_
  one_item
  one_place
  exact ret _ (Fr.keep (by k_asm)) (Same.put _ _ _)

theorem parseLt {prog : Program} {w : World} {p : Program} {loose : List Str} {mg mb : Str → Option Value}
    {dp un : Nat} {fr : Option (List Env)} {gd : Option (List Code)} {h₀ : Heap} {s : Shared} {Q E : Value → Shared → Prop} {x l r n dx : Nat} {q : Int} {c : List Int} {tp : Tok}
    (hsub : Grow h₀ s.heap) (KX : (heapK w.params).In h₀) (T : TopRead p loose mg mb h₀)
    (hx1 : HeapIs s.heap x (instObj 222 dx)) (hx2 : HeapIs s.heap dx (dictOf [⟨PyData.keyHash w.params "parent", .str "parent" tp, .ref r⟩] 1))
    (hr : RingOn w (HeapIs s.heap) r q n) (hl : IntsOn (HeapIs s.heap) l c) (hlen : c.length < n) (hn : n ≤ 1000)
    (hd : dp + 1 < recursionLimit)
    (ret : ∀ s' l', Grow s.heap s'.heap → Same s s' → IntsOn (Fresh s.heap s'.heap) l' (c ++ List.replicate (n - c.length) 0) → Q (.ref l') s') :
    wpAny (model prog w) (Ar dp fr gd un) (call (.ref 96) [.ref x, .ref l]) Q E s := by
  obtain ⟨dr, tq, tn, tqv, tnv, hr1, hr2⟩ := hr
  obtain ⟨vs, nl, hl1, hl2⟩ := hl
  dsimp only [HeapIs] at hx1 hx2 hr1 hr2 hl1
  refine wpAny_call ?_
  one_item
  one_place
  refine Stop.out ?_
  k_dflt (refine eval_ListComp_G (by k_asm) (by with_unfolding_all rfl) (by decide) (by rfl) (by decide) (by rfl) ?_)
  one_place
  refine Stop.out ?_
  refine CompG.rangeInts (n := n - c.length) (fun _ => 0) rfl (by k_asm) (by k_asm) (by assumption) (small_one (by decide) (by decide) (by omega) (by omega)) (by rw [rangeSize_nat]; omega) (by rw [sizeLine_eq]; omega) ?_ ?_
  · intro i t I oI C oC D ys m₂ s₁ E' hi hC hx S F N
    k_dflt one_place
    exact IntBackG.mk rfl (Same.put _ _ _) (by k_asm) (by k_asm)
  intro D ys s₃ hys S F N off
  one_place
  have hys' : ys.length = n - c.length := by have := hys.length; simpa using this
  refine add_lists (by k_asm) (by k_asm) (Fr.keep (by k_asm) _ _ hl1) (N _ List.mem_cons_self).1 (by rw [hl2.length, hys', sizeLine_eq]; omega) ?_
  intro D2 h2 G2 F2 N2 off2
  one_place
  refine ret _ D2 (Fr.keep (by k_asm)) (S.trans (Same.put _ _ _)) ⟨_, _, fresh_led (by k_asm) List.mem_cons_self, ?_⟩
  have e : List.replicate (n - c.length) (0 : Int) = (List.range (n - c.length)).map (fun _ => (0 : Int)) := by
    apply List.ext_getElem <;> simp
  rw [e]
  exact hl2.append hys

theorem polyNewEq {prog : Program} {w : World} {p : Program} {loose : List Str} {mg mb : Str → Option Value}
    {dp un : Nat} {fr : Option (List Env)} {gd : Option (List Code)} {h₀ : Heap} {s : Shared} {Q E : Value → Shared → Prop} {r l n : Nat} {q : Int} {c : List Int}
    (hsub : Grow h₀ s.heap) (KX : (heapK w.params).In h₀) (T : TopRead p loose mg mb h₀)
    (hr : RingOn w (HeapIs s.heap) r q n) (hl : IntsOn (HeapIs s.heap) l c) (hlen : c.length = n) (hn : n ≤ 1000)
    (hd : dp + 4 < recursionLimit)
    (ret : ∀ s' x dx tp tc, Grow s.heap s'.heap → Same s s' → Fresh s.heap s'.heap x (instObj 222 dx) → Fresh s.heap s'.heap dx (dictOf [⟨PyData.keyHash w.params "parent", .str "parent" tp, .ref r⟩, ⟨PyData.keyHash w.params "coeffs", .str "coeffs" tc, .ref l⟩] 2) → Q (.ref x) s') :
    wpAny (model prog w) (Ar dp fr gd un) (call (.ref 222) [.ref r, .ref l]) Q E s := by
  have KS := KX.keeps hsub
  k_dflt (refine' wpAny_call (newK ?kn1 ?kn2 ?kn3 ?kn4 ?_); (case kn1 => exact KS); (case kn2 => k_is); (case kn3 => k_is); (case kn4 => k_is))
  intro x dx h' G hx hdx hne
  have hne2 : @Ne Nat dx x := hne
  have hsub' : Grow h₀ h' := hsub.trans G
  have hh0 : ∀ b o, Fresh s.heap h' b o → h₀.get? b = none := fun b o f => by
    cases e : h₀.get? b with
    | none => rfl
    | some o' => have := hsub _ _ e; rw [f.2] at this; cases this
  k_dflt (refine' enterH [(x, instObj 222 dx), (dx, dictOf [] 0)] ?k1 ?k3 ?k5 (fun p hp => ?_) ?k6 ?k7 ?k8 ?k9 ?kB ?_ ?c2 ?c3 ?c4 ?c5)
  tb_start
  · rcases List.mem_cons.mp hp with rfl | hp
    · exact ⟨hx.1, hh0 _ _ hx⟩
    · rw [List.mem_singleton.mp hp]; exact ⟨hdx.1, hh0 _ _ hdx⟩
  intro g L' h₁ G1 G2 G3 G4 G5 KG TG F N
  dsimp only [List.map_cons, List.map_nil] at G3
  have up : ∀ a o, HeapIs s.heap a o → HeapIs g a o := fun a o e => G3 a o (G a o e) fun hm => by
    rcases List.mem_cons.mp hm with e' | hm
    · have e3 : a = x := e'
      have e2 := hx.2; rw [← e3, e] at e2; cases e2
    · have e3 : a = dx := List.mem_singleton.mp hm
      have e2 := hdx.2; rw [← e3, e] at e2; cases e2
  one_place
  rename Fr _ _ _ _ => F2
  rename News _ _ _ _ => N2
  have up2 : ∀ a o, HeapIs s.heap a o → _ := fun a o e => F2.keep a o (up a o e)
  refine Stop.out (parseEq F2.keep KG TG (N2 _ List.mem_cons_self).1 (N2 _ (List.mem_cons_of_mem _ List.mem_cons_self)).1 (hr.mono up2) (hl.mono up2) hlen hn (by ktr_room) ?_)
  intro s' Gs Ss
  have F3 := F2.keeps Gs
  have N3 := N2.grown Gs
  one_place
  rename Fr _ _ _ _ => F4
  rename News _ _ _ _ => N4
  exact ⟨rfl, ret _ x dx _ _ (fun a o e => F4.keep a o (up a o e)) (((Same.put s _ _).trans Ss).trans (Same.put _ _ _)) ⟨(N4 _ List.mem_cons_self).1, hx.2⟩ ⟨(N4 _ (List.mem_cons_of_mem _ List.mem_cons_self)).1, hdx.2⟩⟩

theorem polyNewLt {prog : Program} {w : World} {p : Program} {loose : List Str} {mg mb : Str → Option Value}
    {dp un : Nat} {fr : Option (List Env)} {gd : Option (List Code)} {h₀ : Heap} {s : Shared} {Q E : Value → Shared → Prop} {r l n : Nat} {q : Int} {c : List Int}
    (hsub : Grow h₀ s.heap) (KX : (heapK w.params).In h₀) (T : TopRead p loose mg mb h₀)
    (hr : RingOn w (HeapIs s.heap) r q n) (hl : IntsOn (HeapIs s.heap) l c) (hlen : c.length < n) (hn : n ≤ 1000)
    (hd : dp + 4 < recursionLimit)
    (ret : ∀ s' x, Grow s.heap s'.heap → Same s s' → PolyOn w (Fresh s.heap s'.heap) x r (c ++ List.replicate (n - c.length) 0) → Q (.ref x) s') :
    wpAny (model prog w) (Ar dp fr gd un) (call (.ref 222) [.ref r, .ref l]) Q E s := by
  have KS := KX.keeps hsub
  k_dflt (refine' wpAny_call (newK ?kn1 ?kn2 ?kn3 ?kn4 ?_); (case kn1 => exact KS); (case kn2 => k_is); (case kn3 => k_is); (case kn4 => k_is))
  intro x dx h' G hx hdx hne
  have hne2 : @Ne Nat dx x := hne
  have hsub' : Grow h₀ h' := hsub.trans G
  have hh0 : ∀ b o, Fresh s.heap h' b o → h₀.get? b = none := fun b o f => by
    cases e : h₀.get? b with
    | none => rfl
    | some o' => have := hsub _ _ e; rw [f.2] at this; cases this
  k_dflt (refine' enterH [(x, instObj 222 dx), (dx, dictOf [] 0)] ?k1 ?k3 ?k5 (fun p hp => ?_) ?k6 ?k7 ?k8 ?k9 ?kB ?_ ?c2 ?c3 ?c4 ?c5)
  tb_start
  · rcases List.mem_cons.mp hp with rfl | hp
    · exact ⟨hx.1, hh0 _ _ hx⟩
    · rw [List.mem_singleton.mp hp]; exact ⟨hdx.1, hh0 _ _ hdx⟩
  intro g L' h₁ G1 G2 G3 G4 G5 KG TG F N
  dsimp only [List.map_cons, List.map_nil] at G3
  have up : ∀ a o, HeapIs s.heap a o → HeapIs g a o := fun a o e => G3 a o (G a o e) fun hm => by
    rcases List.mem_cons.mp hm with e' | hm
    · have e3 : a = x := e'
      have e2 := hx.2; rw [← e3, e] at e2; cases e2
    · have e3 : a = dx := List.mem_singleton.mp hm
      have e2 := hdx.2; rw [← e3, e] at e2; cases e2
  one_place
  rename Fr _ _ _ _ => F2
  rename News _ _ _ _ => N2
  have up2 : ∀ a o, HeapIs s.heap a o → _ := fun a o e => F2.keep a o (up a o e)
  refine Stop.out (parseLt F2.keep KG TG (N2 _ List.mem_cons_self).1 (N2 _ (List.mem_cons_of_mem _ List.mem_cons_self)).1 (hr.mono up2) (hl.mono up2) hlen hn (by ktr_room) ?_)
  intro s' l' Gs Ss hl'
  obtain ⟨vs', na', fl, hi'⟩ := hl'
  obtain ⟨N3, O3⟩ := news_fresh F2 N2 Gs fl
  simp only [LCg.Off1, and_true] at O3
  have F3 := F2.keeps Gs
  one_place
  rename Fr _ _ _ _ => F4
  rename News _ _ _ _ => N4
  refine ⟨rfl, ret _ x (fun a o e => F4.keep a o (up a o e)) (((Same.put s _ _).trans Ss).trans (Same.put _ _ _)) ⟨dx, l', _, _, ⟨(N4 _ (List.mem_cons_of_mem _ List.mem_cons_self)).1, hx.2⟩, ⟨(N4 _ (List.mem_cons_of_mem _ (List.mem_cons_of_mem _ List.mem_cons_self))).1, hdx.2⟩, ⟨vs', na', ⟨(N4 _ List.mem_cons_self).1, (fresh_sub fl up2).2⟩, hi'⟩⟩⟩

-- ring
theorem ringList {prog : Program} {w : World} {p : Program} {loose : List Str} {mg mb : Str → Option Value}
    {dp un : Nat} {fr : Option (List Env)} {gd : Option (List Code)} {h₀ : Heap} {s : Shared} {Q E : Value → Shared → Prop} {r l n : Nat} {q : Int} {c : List Int}
    (hsub : Grow h₀ s.heap) (KX : (heapK w.params).In h₀) (T : TopRead p loose mg mb h₀)
    (hr : RingOn w (HeapIs s.heap) r q n) (hl : IntsOn (HeapIs s.heap) l c) (hlen : c.length = n) (hn : n ≤ 1000)
    (hd : dp + 6 < recursionLimit)
    (ret : ∀ s' x dx tp tc, Grow s.heap s'.heap → Same s s' → Fresh s.heap s'.heap x (instObj 222 dx) → Fresh s.heap s'.heap dx (dictOf [⟨PyData.keyHash w.params "parent", .str "parent" tp, .ref r⟩, ⟨PyData.keyHash w.params "coeffs", .str "coeffs" tc, .ref l⟩] 2) → Q (.ref x) s') :
    wpAny (model prog w) (Ar dp fr gd un) (call (.ref r) [.ref l]) Q E s := by
  have hr' := hr
  have hl' := hl
  obtain ⟨dr, tq, tn, tqv, tnv, hr1, hr2⟩ := hr
  obtain ⟨vs, nl, hl1, hl2⟩ := hl
  dsimp only [HeapIs] at hr1 hr2 hl1
  have KS := KX.keeps hsub
  have TS := T.keeps hsub
  refine wpAny_call ?_
  k_dflt (refine' kco_code ?k1 (instAt_is hr1 hr2) rfl ?k4 ?k5 ?k6 ?_; (case k1 => exact KS); (case k4 => k_is); (case k5 => k_is); (case k6 => k_is); (try dsimp only))
  one_item
  one_place
  rename Fr _ _ _ _ => F2
  refine Stop.out (polyNewEq F2.keep KS TS (hr'.mono (grow_is F2.keep)) (hl'.mono (grow_is F2.keep)) hlen hn (by ktr_room) ?_)
  intro s' x dx tp tc G S f1 f2
  exact ret s' x dx tp tc (Grow.trans F2.keep G) ((Same.put s _ _).trans S) (fresh_sub f1 F2.keep) (fresh_sub f2 F2.keep)

theorem ringInt {prog : Program} {w : World} {p : Program} {loose : List Str} {mg mb : Str → Option Value}
    {dp un : Nat} {fr : Option (List Env)} {gd : Option (List Code)} {h₀ : Heap} {s : Shared} {Q E : Value → Shared → Prop} {r n : Nat} {q k : Int} {tk : Tok}
    (hsub : Grow h₀ s.heap) (KX : (heapK w.params).In h₀) (T : TopRead p loose mg mb h₀)
    (hr : RingOn w (HeapIs s.heap) r q n) (hn1 : 1 ≤ n) (hn : n ≤ 1000)
    (hd : dp + 6 < recursionLimit)
    (ret : ∀ s' x, Grow s.heap s'.heap → Same s s' → PolyOn w (Fresh s.heap s'.heap) x r (k :: List.replicate (n - 1) 0) → Q (.ref x) s') :
    wpAny (model prog w) (Ar dp fr gd un) (call (.ref r) [.int k tk]) Q E s := by
  have hr' := hr
  obtain ⟨dr, tq, tn, tqv, tnv, hr1, hr2⟩ := hr
  dsimp only [HeapIs] at hr1 hr2
  have KS := KX.keeps hsub
  have TS := T.keeps hsub
  refine wpAny_call ?_
  k_dflt (refine' kco_code ?k1 (instAt_is hr1 hr2) rfl ?k4 ?k5 ?k6 ?_; (case k1 => exact KS); (case k4 => k_is); (case k5 => k_is); (case k6 => k_is); (try dsimp only))
  one_item
  one_place
  refine Stop.out (newList_led (by k_asm) (by k_asm) (by size_fits) ?_)
  intro D1 h1 G1 F1 N1 O1
  one_place
  rename Fr _ _ _ _ => F2
  rename News _ _ _ _ => N2
  by_cases h1 : n = 1
  · refine Stop.out (polyNewEq F2.keep KS TS (c := [k]) (hr'.mono (grow_is F2.keep)) ⟨_, _, (N2 _ List.mem_cons_self).1, .cons _ _ .nil⟩ h1.symm hn (by ktr_room) ?_)
    intro s' x dx tp tc G S f1 f2
    refine ret s' x (Grow.trans F2.keep G) ((Same.put s _ _).trans S) ⟨dx, _, tp, tc, fresh_sub f1 F2.keep, fresh_sub f2 F2.keep, _, _, ⟨G _ _ (N2 _ List.mem_cons_self).1, (N2 _ List.mem_cons_self).2.2⟩, ?_⟩
    subst h1
    exact .cons _ _ .nil
  · refine Stop.out (polyNewLt F2.keep KS TS (c := [k]) (hr'.mono (grow_is F2.keep)) ⟨_, _, (N2 _ List.mem_cons_self).1, .cons _ _ .nil⟩ (by show 1 < n; omega) hn (by ktr_room) ?_)
    intro s' x G S f1
    exact ret s' x (Grow.trans F2.keep G) ((Same.put s _ _).trans S) (f1.mono fun a o f => fresh_sub f F2.keep)

-- mul
theorem foldl_length {f : List Int → Nat → List Int} (hf : ∀ c i, (f c i).length = c.length) : ∀ (l : List Nat) (c : List Int), (l.foldl f c).length = c.length
  | [], _ => rfl
  | a :: r, c => by rw [List.foldl_cons, foldl_length hf r, hf]
theorem schoolOf_length {q : Int} {n : Nat} {la lb : List Int} (_hn : 1 ≤ n) : (schoolOf q n la lb).length = n := by
  unfold schoolOf schoolRaw
  rw [List.length_map, foldl_length, foldl_length, List.length_map, List.length_range]
  · intro c i
    unfold rowOut
    exact foldl_length (fun c j => by unfold rowIn; exact addAt_length ..) _ _
  · intro c i
    unfold backOut
    exact foldl_length (fun c j => by unfold backIn; exact addAt_length ..) _ _

theorem mulPoly {prog : Program} {w : World} {p : Program} {loose : List Str} {mg mb : Str → Option Value}
    {dp un : Nat} {fr : Option (List Env)} {gd : Option (List Code)} {h₀ : Heap} {s : Shared} {Q E : Value → Shared → Prop} {x y r n : Nat} {q : Int} {la lb : List Int}
    (hsub : Grow h₀ s.heap) (KX : (heapK w.params).In h₀) (T : TopRead p loose mg mb h₀)
    (hx : PolyOn w (HeapIs s.heap) x r la) (hy : PolyOn w (HeapIs s.heap) y r lb) (hr : RingOn w (HeapIs s.heap) r q n)
    (hq : 2 ≤ q) (hn : 1 ≤ n) (hn2 : n ≤ 4) (hla : la.length = n) (hlb : lb.length = n)
    (hm : ∀ i j, IntMulOk (la.getD i 0) (lb.getD j 0))
    (hd : dp + 8 < recursionLimit)
    (ret : ∀ s' z, Grow s.heap s'.heap → Same s s' → PolyOn w (Fresh s.heap s'.heap) z r (schoolOf q n la lb) → Q (.ref z) s') :
    wpAny (model prog w) (Ar dp fr gd un) (call (.ref 184) [.ref x, .ref y]) Q E s := by
  have hx' := hx
  have hy' := hy
  have hr' := hr
  obtain ⟨dx, ax, tpx, tcx, hx1, hx2, va, nx, hx3, ia⟩ := hx
  obtain ⟨dy, ay, tpy, tcy, hy1, hy2, vb, ny, hy3, ib⟩ := hy
  obtain ⟨dr, tq, tn, tqv, tnv, hr1, hr2⟩ := hr
  dsimp only [HeapIs] at hx1 hx2 hx3 hy1 hy2 hy3 hr1 hr2
  have KS := KX.keeps hsub
  have TS := T.keeps hsub
  refine wpAny_call ?_
  one_item
  one_place
  rename Fr _ _ _ _ => F2
  rename News _ _ _ _ => N2
  refine Stop.out (school F2.keep KS TS (hx'.mono (grow_is F2.keep)) (hy'.mono (grow_is F2.keep)) (hr'.mono (grow_is F2.keep)) hq hn hn2 hla hlb hm (by ktr_room) ?_)
  intro s' l Gs Ss hl
  obtain ⟨vs', na', fl, hi'⟩ := hl
  obtain ⟨N3, O3⟩ := news_fresh F2 N2 Gs fl
  simp only [LCg.Off1, and_true] at O3
  have F3 := F2.keeps Gs
  have fl0 := fresh_sub fl F2.keep
  one_place
  rename Fr _ _ _ _ => F4
  rename News _ _ _ _ => N4
  refine Stop.out (ringList (c := schoolOf q n la lb) F4.keep KS TS (hr'.mono (grow_is F4.keep)) ⟨vs', na', (N4 _ List.mem_cons_self).1, hi'⟩ (schoolOf_length hn) (by omega) (by ktr_room) ?_)
  intro s'' z dz tp tc G S f1 f2
  refine ret s'' z (Grow.trans F4.keep G) ((((Same.put s _ _).trans Ss).trans (Same.put _ _ _)).trans S) ⟨dz, l, tp, tc, fresh_sub f1 F4.keep, fresh_sub f2 F4.keep, vs', na', ⟨G _ _ (N4 _ List.mem_cons_self).1, fl0.2⟩, hi'⟩

theorem mulInt {prog : Program} {w : World} {p : Program} {loose : List Str} {mg mb : Str → Option Value}
    {dp un : Nat} {fr : Option (List Env)} {gd : Option (List Code)} {h₀ : Heap} {s : Shared} {Q E : Value → Shared → Prop} {x r n : Nat} {q k : Int} {tk : Tok} {la : List Int}
    (hsub : Grow h₀ s.heap) (KX : (heapK w.params).In h₀) (T : TopRead p loose mg mb h₀)
    (hx : PolyOn w (HeapIs s.heap) x r la) (hr : RingOn w (HeapIs s.heap) r q n)
    (hq : 2 ≤ q) (hn : 1 ≤ n) (hn2 : n ≤ 4) (hla : la.length = n)
    (hm : ∀ c ∈ la, IntMulOk c k)
    (hd : dp + 8 < recursionLimit)
    (ret : ∀ s' z, Grow s.heap s'.heap → Same s s' → PolyOn w (Fresh s.heap s'.heap) z r (la.map fun c => c * k % q) → Q (.ref z) s') :
    wpAny (model prog w) (Ar dp fr gd un) (call (.ref 184) [.ref x, .int k tk]) Q E s := by
  have hx' := hx
  have hr' := hr
  obtain ⟨dx, ax, tpx, tcx, hx1, hx2, va, nx, hx3, ia⟩ := hx
  obtain ⟨dr, tq, tn, tqv, tnv, hr1, hr2⟩ := hr
  dsimp only [HeapIs] at hx1 hx2 hx3 hr1 hr2
  have KS := KX.keeps hsub
  have TS := T.keeps hsub
  refine wpAny_call ?_
  one_item
  one_place
  refine Stop.out ?_
  k_dflt (refine assign_ListComp_G (by k_asm) rfl (by with_unfolding_all rfl) (by with_unfolding_all rfl) (by decide) (by rfl) (by decide) (by rfl) (by rfl) (by rfl) ?_)
  one_place
  refine Stop.out (CompG.listInts (fun c => c * k % q) rfl (by k_asm) (by k_asm) (.inl hx3) ia (by rw [hla, sizeLine_eq]; omega) ?_ ?_)
  · intro c t I oI C oC D ys m₂ s₁ E' hc hC hx S F N
    k_dflt one_place
    refine Stop.out (mul_ok (hm c hc) ?_)
    k_dflt one_place
    exact IntBackG.mk (Int.fmod_eq_emod_of_nonneg _ (by omega)) (Same.put _ _ _) (by k_asm) (by k_asm)
  intro D ys s₃ hys S F N off D' s₄ e S4 F4 N4
  have GK : Grow s.heap s₄.heap := F4.keep
  one_place
  rename Fr _ _ _ _ => F5
  rename News _ _ _ _ => N5
  refine Stop.out (ringList (c := la.map fun c => c * k % q) F5.keep KS TS (hr'.mono (grow_is F5.keep)) ⟨_, _, (N5 _ List.mem_cons_self).1, hys⟩ (by rw [List.length_map, hla]) (by omega) (by ktr_room) ?_)
  intro s'' z dz tp tc G S2 f1 f2
  exact ret s'' z (Grow.trans F5.keep G) ((Same.trans ((Same.put s _ _).trans S) (S4.putR _ _)).trans S2) ⟨dz, _, tp, tc, fresh_sub f1 F5.keep, fresh_sub f2 F5.keep, _, _, ⟨G _ _ (N5 _ List.mem_cons_self).1, (N5 _ List.mem_cons_self).2.2⟩, hys⟩

theorem imulPoly {prog : Program} {w : World} {p : Program} {loose : List Str} {mg mb : Str → Option Value}
    {dp un : Nat} {fr : Option (List Env)} {gd : Option (List Code)} {h₀ : Heap} {s : Shared} {Q E : Value → Shared → Prop} {x y r n : Nat} {q : Int} {la lb : List Int}
    (hsub : Grow h₀ s.heap) (KX : (heapK w.params).In h₀) (T : TopRead p loose mg mb h₀)
    (hx : PolyOn w (HeapIs s.heap) x r la) (hy : PolyOn w (HeapIs s.heap) y r lb) (hr : RingOn w (HeapIs s.heap) r q n)
    (hq : 2 ≤ q) (hn : 1 ≤ n) (hn2 : n ≤ 4) (hla : la.length = n) (hlb : lb.length = n)
    (hm : ∀ i j, IntMulOk (la.getD i 0) (lb.getD j 0))
    (hd : dp + 9 < recursionLimit)
    (ret : ∀ s' z, Grow s.heap s'.heap → Same s s' → PolyOn w (Fresh s.heap s'.heap) z r (schoolOf q n la lb) → Q (.ref z) s') :
    wpAny (model prog w) (Ar dp fr gd un) (call (.ref 198) [.ref x, .ref y]) Q E s := by
  have hx' := hx
  have hy' := hy
  obtain ⟨dx, ax, tpx, tcx, hx1, hx2, va, nx, hx3, ia⟩ := hx
  obtain ⟨dy, ay, tpy, tcy, hy1, hy2, vb, ny, hy3, ib⟩ := hy
  dsimp only [HeapIs] at hx1 hx2 hx3 hy1 hy2 hy3
  have KS := KX.keeps hsub
  have TS := T.keeps hsub
  refine wpAny_call ?_
  one_item
  one_place
  rename Fr _ _ _ _ => F2
  rename News _ _ _ _ => N2
  refine Stop.out (mulPoly F2.keep KS TS (hx'.mono (grow_is F2.keep)) (hy'.mono (grow_is F2.keep)) (hr.mono (grow_is F2.keep)) hq hn hn2 hla hlb hm (by ktr_room) ?_)
  intro s' z Gs Ss hz
  have GK : Grow s.heap s'.heap := Grow.trans F2.keep Gs
  obtain ⟨dz, az, tpz, tcz, hz1, hz2, vz, nz, hz3, iz⟩ := hz
  have hz1' := fresh_sub hz1 F2.keep
  have hz2' := fresh_sub hz2 F2.keep
  have hz3' := fresh_sub hz3 F2.keep
  obtain ⟨N3, O3⟩ := news_fresh F2 N2 Gs hz1
  have N4 := news_add (F2.keeps Gs) N3 hz2' (fresh_ne F2 hz2)
  have N5 := news_add (F2.keeps Gs) N4 hz3' (fresh_ne F2 hz3)
  have F3 := F2.keeps Gs
  one_place
  rename Fr _ _ _ _ => F4
  rename News _ _ _ _ => N6
  exact ret _ z F4.keep (((Same.put s _ _).trans Ss).trans (Same.put _ _ _)) ⟨dz, az, tpz, tcz, ⟨N6.get (by k_mem), hz1'.2⟩, ⟨N6.get (by k_mem), hz2'.2⟩, vz, nz, ⟨N6.get (by k_mem), hz3'.2⟩, iz⟩

-- pow
def oneOf (n : Nat) : List Int := 1 :: List.replicate (n - 1) 0
def powGo (q : Int) (n : Nat) : Nat → Nat → List Int → List Int → List Int
  | 0, _, _, g => g
  | k + 1, e, f, g => if e = 0 then g else powGo q n k (e / 2) (schoolOf q n f f) (if e % 2 = 1 then schoolOf q n g f else g)
def powOf (q : Int) (n : Nat) (f : List Int) (e : Nat) : List Int := powGo q n e e f (oneOf n)
open Builtin.Int in
theorem schoolOf_sz {q : Int} {n k : Nat} {la lb : List Int} (hq : 2 ≤ q) (hk : intBits q ≤ k) : Sz k (schoolOf q n la lb) := by
  intro x hx
  unfold schoolOf at hx
  obtain ⟨z, _, rfl⟩ := List.mem_map.mp hx
  have h1 := Int.emod_nonneg z (show q ≠ 0 by omega)
  have h2 := Int.emod_lt_of_pos z (show 0 < q by omega)
  exact Nat.le_trans (intBits_mono h1 (Int.le_of_lt h2)) hk

structure PowSt where
  led : List (Addr × Obj)
  xf : Addr
  xg : Addr
  cf : List Int
  cg : List Int
  e : Nat
  t : Tok

def PowSt.names (c : PowSt) : List (Str × Value) := [(Str.ofString "f", Value.ref c.xf), (Str.ofString "g", Value.ref c.xg), (Str.ofString "n", Value.int (Int.ofNat c.e) c.t)]
open Builtin.Int in
theorem powPoly {prog : Program} {w : World} {p : Program} {loose : List Str} {mg mb : Str → Option Value}
    {dp un : Nat} {fr : Option (List Env)} {gd : Option (List Code)} {h₀ : Heap} {s : Shared} {Q E : Value → Shared → Prop} {x r n e kk : Nat} {q : Int} {te : Tok} {la : List Int}
    (hsub : Grow h₀ s.heap) (KX : (heapK w.params).In h₀) (T : TopRead p loose mg mb h₀)
    (hx : PolyOn w (HeapIs s.heap) x r la) (hr : RingOn w (HeapIs s.heap) r q n)
    (hq : 2 ≤ q) (hn : 1 ≤ n) (hn2 : n ≤ 4) (hla : la.length = n)
    (hs : Sz kk la) (hqk : intBits q ≤ kk) (hk1 : 1 ≤ kk) (hk2 : kk + kk ≤ 134217728)
    (hd : dp + 12 < recursionLimit)
    (ret : ∀ s' z, Grow s.heap s'.heap → Same s s' → PolyOn w (HeapIs s'.heap) z r (powOf q n la e) → Q (.ref z) s') :
    wpAny (model prog w) (Ar dp fr gd un) (call (.ref 205) [.ref x, .int (e : Int) te]) Q E s := by
  have hx' := hx
  have hr' := hr
  obtain ⟨dx, ax, tpx, tcx, hx1, hx2, va, nx, hx3, ia⟩ := hx
  obtain ⟨dr, tq, tn, tqv, tnv, hr1, hr2⟩ := hr
  dsimp only [HeapIs] at hx1 hx2 hx3 hr1 hr2
  have KS := KX.keeps hsub
  have TS := T.keeps hsub
  have he0 : (0 : Int) ≤ (e : Int) := Int.natCast_nonneg e
  refine wpAny_call ?_
  one_item
  one_place
  rename Fr _ _ _ _ => F2
  rename News _ _ _ _ => N2
  tb_rel
  refine (ringInt F2.keep KS TS (hr'.mono (grow_is F2.keep)) hn (by omega) (by ktr_room) ?_)
  intro s1 g1 G1 S1 hg
  obtain ⟨dg, ag, tpg, tcg, hg1, hg2, vg, ng, hg3, ig⟩ := hg
  have N3 := news_add (F2.keeps G1) (news_add (F2.keeps G1) (news_add (F2.keeps G1) (N2.grown G1) (fresh_sub hg1 F2.keep) (fresh_ne F2 hg1)) (fresh_sub hg2 F2.keep) (fresh_ne F2 hg2)) (fresh_sub hg3 F2.keep) (fresh_ne F2 hg3)
  have F3 := F2.keeps G1
  one_place
  rename Fr _ _ _ _ => F4
  rename News _ _ _ _ => N4
  refine Stop.out ?_
  k_dflt (refine' while_G (σ := PowSt) (fun c => c.led) PowSt.names [] (fun c => PolyOn w (Known s.heap c.led) c.xf r c.cf ∧ PolyOn w (Known s.heap c.led) c.xg r c.cg ∧ c.cf.length = n ∧ c.cg.length = n ∧ Sz kk c.cf ∧ Sz kk c.cg ∧ ∃ k, c.e ≤ k ∧ powGo q n k c.e c.cf c.cg = powOf q n la e) (fun c => c.e) ⟨_, x, g1, la, oneOf n, e, te⟩ F4 N4 ?hk ?h0 ?turn)
  case hk =>
    intro p hp
    simp only [PowSt.names, List.mem_cons, List.not_mem_nil, or_false] at hp
    rcases hp with rfl | rfl | rfl <;> rfl
  case h0 =>
    refine ⟨hx'.mono Known.base, ⟨dg, ag, tpg, tcg, .inr (by k_mem), .inr (by k_mem), vg, ng, .inr (by k_mem), ig⟩, hla, by simp [oneOf]; omega, hs, ?_, e, Nat.le_refl _, rfl⟩
    intro z hz
    simp only [oneOf, List.mem_cons, List.mem_replicate] at hz
    rcases hz with rfl | ⟨_, rfl⟩
    · exact hk1
    · exact Nat.zero_le _
  case turn =>
    rintro ⟨led, xf, xg, cf, cg, e', t'⟩ u s₁ ⟨hf, hg', hcf, hcg, hsf, hsg, kq, hkq, hpow⟩ S5 F5 N5
    dsimp only at hf hg' hcf hcg hsf hsg hkq hpow N5
    dsimp only [PowSt.names, kstB] at F5
    obtain ⟨df, af, tpf, tcf, hf1, hf2, vf, nf, hf3, jf⟩ := id hf
    obtain ⟨dg', ag', tpg', tcg', hg1', hg2', vg', ng', hg3', jg'⟩ := id hg'
    rcases Nat.eq_zero_or_pos e' with rfl | hpos
    · one_place
      rename Fr _ _ _ _ => F6
      rename News _ _ _ _ => N6
      have e3 : powGo q n kq 0 cf cg = cg := by cases kq <;> rfl
      rw [e3] at hpow
      subst hpow
      exact ret _ xg F6.keep (((((Same.put s _ _).trans S1).trans (Same.put _ _ _)).trans S5).trans (Same.put _ _ _)) (hg'.mono (Known.heap F6 N6))
    · have hpos' : (0 : Int) < Int.ofNat e' := Int.ofNat_lt.mpr hpos
      have hdiv : e' / 2 < e' := Nat.div_lt_self hpos (by decide)
      obtain ⟨kq', rfl⟩ : ∃ k', kq = k' + 1 := ⟨kq - 1, by omega⟩
      have hne : e' ≠ 0 := by omega
      rw [powGo, if_neg hne] at hpow
      have em : (Int.ofNat e').fmod 2 = ((e' % 2 : Nat) : Int) := by rw [Int.fmod_eq_emod_of_nonneg _ (by decide)]; show ((e' : Nat) : Int) % 2 = _; omega
      have ed : (Int.ofNat e').fdiv 2 = Int.ofNat (e' / 2) := by rw [Int.fdiv_eq_ediv_of_nonneg _ (by decide)]; show ((e' : Nat) : Int) / 2 = ((e' / 2 : Nat) : Int); omega
      one_place
      · rename Int.fmod _ _ = 1 => hodd
        have hodd' : e' % 2 = 1 := by omega
        rw [if_pos hodd'] at hpow
        rename Fr _ _ _ _ => F6
        rename News _ _ _ _ => N6
        refine Stop.out (mulPoly F6.keep KS TS (hg'.mono (Known.heap F6 N6)) (hf.mono (Known.heap F6 N6)) (hr'.mono (grow_is F6.keep)) hq hn hn2 hcg hcf (hsg.ok hsf hk2) (by ktr_room) ?_)
        intro s2 z2 G2 S2 hz
        obtain ⟨tl2, htl2, hz2⟩ := poly_tl hz
        have N7 := news_tl F6 N6 G2 htl2
        have F7 := F6.keeps G2
        have hz3 := hz2.mono (InLed.known (h₀ := s.heap) (led' := tl2 ++ led) fun p hp => List.mem_append_left _ hp)
        have hf3' := hf.mono (Known.more (h₀ := s.heap) (led' := tl2 ++ led) fun p hp => List.mem_append_right _ hp)
        obtain ⟨df', af', tpf', tcf', hf1', hf2', _⟩ := id hf3'
        clear hf1 hf2 hg1' hg2'
        one_place
        rename Fr _ _ _ _ => F8
        rename News _ _ _ _ => N8
        refine Stop.out (mulPoly F8.keep KS TS (hf3'.mono (Known.heap F8 N8)) (hf3'.mono (Known.heap F8 N8)) (hr'.mono (grow_is F8.keep)) hq hn hn2 hcf hcf (hsf.ok hsf hk2) (by ktr_room) ?_)
        intro s3 z4 G3 S3 hz4
        obtain ⟨tl4, htl4, hz5⟩ := poly_tl hz4
        have N9 := news_tl F8 N8 G3 htl4
        have F9 := F8.keeps G3
        clear hf1' hf2'
        one_place
        rename Fr _ _ _ _ => F10
        rename News _ _ _ _ => N10
        rw [ed] at F10
        obtain ⟨tt, htt⟩ : ∃ t, mapOf F10 (Str.ofString "n") = some (Value.int (Int.ofNat (e' / 2)) t) := ⟨_, rfl⟩
        refine' Stop.out (WhileEnd.mk (PowSt.mk (tl4 ++ (tl2 ++ led)) z4 z2 (schoolOf q n cf cf) (schoolOf q n cg cf) (e' / 2) tt) ?_ F10 N10 ?_ ?_ ⟨hz5.mono (InLed.known fun p hp => List.mem_append_left _ hp), hz3.mono (Known.more fun p hp => List.mem_append_right _ hp), schoolOf_length hn, schoolOf_length hn, schoolOf_sz hq hqk, schoolOf_sz hq hqk, kq', (by dsimp only; omega), hpow⟩ hdiv)
        · exact (((((Same.put _ _ _).trans S2).trans (Same.put _ _ _)).trans S3).trans (Same.put _ _ _))
        · unfold PowSt.names
          intro p hp
          simp only [List.mem_cons, List.not_mem_nil, or_false] at hp
          rcases hp with rfl | rfl | rfl
          · rfl
          · rfl
          · exact htt
        · unfold PowSt.names; kwd_less
      · rename Int.fmod _ _ ≠ 1 => hodd
        have hodd' : ¬ e' % 2 = 1 := by omega
        rw [if_neg hodd'] at hpow
        rename Fr _ _ _ _ => F8
        rename News _ _ _ _ => N8
        refine Stop.out (mulPoly F8.keep KS TS (hf.mono (Known.heap F8 N8)) (hf.mono (Known.heap F8 N8)) (hr'.mono (grow_is F8.keep)) hq hn hn2 hcf hcf (hsf.ok hsf hk2) (by ktr_room) ?_)
        intro s3 z4 G3 S3 hz4
        obtain ⟨tl4, htl4, hz5⟩ := poly_tl hz4
        have N9 := news_tl F8 N8 G3 htl4
        have F9 := F8.keeps G3
        clear hf1 hf2 hg1' hg2'
        one_place
        rename Fr _ _ _ _ => F10
        rename News _ _ _ _ => N10
        rw [ed] at F10
        obtain ⟨tt, htt⟩ : ∃ t, mapOf F10 (Str.ofString "n") = some (Value.int (Int.ofNat (e' / 2)) t) := ⟨_, rfl⟩
        refine' Stop.out (WhileEnd.mk (PowSt.mk (tl4 ++ led) z4 xg (schoolOf q n cf cf) cg (e' / 2) tt) ?_ F10 N10 ?_ ?_ ⟨hz5.mono (InLed.known fun p hp => List.mem_append_left _ hp), hg'.mono (Known.more fun p hp => List.mem_append_right _ hp), schoolOf_length hn, hcg, schoolOf_sz hq hqk, hsg, kq', (by dsimp only; omega), hpow⟩ hdiv)
        · exact (((Same.put _ _ _).trans S3).trans (Same.put _ _ _))
        · unfold PowSt.names
          intro p hp
          simp only [List.mem_cons, List.not_mem_nil, or_false] at hp
          rcases hp with rfl | rfl | rfl
          · rfl
          · rfl
          · exact htt
        · unfold PowSt.names; kwd_less

-- help
def atOf (ns : List Int) (i : Nat) : Int := if i < ns.length then ns.getD i 0 else ((i : Int) + 1) * ((i : Int) + 1) + 2
section
variable {prog : Program} {w : World} {A : Around} {E : Value → Shared → Prop} {s : Shared} {h₀ : Heap} {L l : Addr} {m : Str → Option Value} {vs : List Value} {ns : List Int} {k : Int} {kn : Nat} {u : Tok} {Q : Value → Shared → Prop}
theorem isl_up {h h' : Heap} {its : Array Value} (x : h.IsList l its) (g : ∀ b o, h.get? b = some o → h'.get? b = some o) : h'.IsList l its := let ⟨o, e, r⟩ := x; ⟨o, g _ _ e, r⟩
theorem len_isl (F : Fr h₀ L s.heap m) (hl : h₀.IsList l vs.toArray) (hi : vs.length = kn) (hfit : (kn : Int) < 2 ^ 63)
    (h : Q (.int (kn : Int) (s.toks + 1)) { s with toks := s.toks + 1 + 1 }) : wpAny (model prog w) A (call (.builtin "len") [.ref l]) Q E s := by
  have e2 : vs.toArray.size = kn := by rw [List.size_toArray, hi]
  exact len_list (isl_up hl F.keep) (by rw [e2]; exact hfit) (by rw [e2]; exact h)
theorem sub_isl {value slice : PySem.Expr} (F : Fr h₀ L s.heap m) (hl : h₀.IsList l vs.toArray) (hi : IntsAre vs ns) (h0 : 0 ≤ k) (h1 : k < ns.length) (hfit : k < 2 ^ 63) (h : ∀ t, Q (.int (ns.getD k.toNat 0) t) s)
    (hs : subscripted slice false (.ref l) (.int k u) = operate [.ref l, .int k u] (getItem (.ref l) (.int k u)) := by with_unfolding_all rfl) :
    wpAny (model prog w) A (subscriptTail value slice (.ref l) (.int k u)) Q E s := item_list_intsT (isl_up hl F.keep) hi h0 h1 hfit h hs
end
local macro_rules | `(tactic| walk_at "call builtin:len") => `(tactic| first | (refine' len_isl ?k1 ?k2 ?k3 ?k4 ?_; (case k1 => k_asm); (case k2 => with_reducible assumption); (case k3 => exact IntsAre.length (by assumption)); (case k4 => omega); k_whole) | fail "len_isl")
local macro_rules | `(tactic| walk_at "subscriptTail Name Name ref int") => `(tactic| first | (refine' sub_isl ?k1 ?k2 ?k3 ?k4 ?k5 ?k6 ?_ ?k7; (case k1 => k_asm); (case k2 => with_reducible assumption); (case k3 => assumption); (case k4 => omega); (case k5 => omega); (case k6 => omega); (case k7 => with_unfolding_all rfl); k_whole; intro _) | fail "sub_isl")
theorem lawAt {prog : Program} {w : World} {p : Program} {loose : List Str} {mg mb : Str → Option Value}
    {dp un : Nat} {fr : Option (List Env)} {gd : Option (List Code)} {h₀ : Heap} {s : Shared} {Q E : Value → Shared → Prop} {sc i : Nat} {ti : Tok} {vs : List Value} {ns : List Int}
    (hsub : Grow h₀ s.heap) (KX : (heapK w.params).In h₀) (T : TopRead p loose mg mb h₀)
    (hs : s.heap.IsList sc vs.toArray) (hi : IntsAre vs ns) (hlen : ns.length ≤ 1000) (hi2 : i ≤ 1000)
    (hd : dp + 1 < recursionLimit)
    (ret : ∀ s' t, Grow s.heap s'.heap → Same s s' → Q (.int (atOf ns i) t) s') :
    wpAny (model prog w) (Ar dp fr gd un) (call (.ref 233) [.ref sc, .int (i : Int) ti]) Q E s := by
  have KS := KX.keeps hsub
  have TS := T.keeps hsub
  have hmul : IntMulOk ((i : Int) + 1) ((i : Int) + 1) := IntMulOk.of_left (intBits_le_64 (by omega) (by omega))
  refine wpAny_call ?_
  by_cases h : i < ns.length
  · have h2 : ((i : Int)) < (ns.length : Int) := by omega
    one_item
    one_place
    refine ret _ _ (Fr.keep (by k_asm)) (Same.put _ _ _) |> cast (by unfold atOf; rw [if_pos h]; rfl)
  · have h2 : ¬ ((i : Int)) < (ns.length : Int) := by omega
    one_item
    one_place
    refine Stop.out (mul_ok hmul ?_)
    one_place
    refine ret _ _ (Fr.keep (by k_asm)) (Same.put _ _ _) |> cast (by unfold atOf; rw [if_neg h])

def rowOf (c : List Int) (r : Nat) : List Int := (List.range c.length).map fun k => if k ≤ r then c.getD (r - k) 0 else 0 - c.getD (r + c.length - k) 0
def tableOf (c : List Int) : List (List Int) := (List.range c.length).map (rowOf c)
structure TabSt where
  led : List (Addr × Obj)
  vs : List Value
  k : Nat
  rows : List (List Int)
structure RowSt where
  vs : List Value
  k : Nat
  c : List Int
theorem lawTable {prog : Program} {w : World} {p : Program} {loose : List Str} {mg mb : Str → Option Value}
    {dp un : Nat} {fr : Option (List Env)} {gd : Option (List Code)} {h₀ : Heap} {s : Shared} {Q E : Value → Shared → Prop} {l na : Nat} {vs : List Value} {c : List Int}
    (hsub : Grow h₀ s.heap) (KX : (heapK w.params).In h₀) (T : TopRead p loose mg mb h₀)
    (hl : s.heap.get? l = some (listOf vs.toArray na)) (hi : IntsAre vs c) (hlen : c.length ≤ 1000)
    (hd : dp + 1 < recursionLimit)
    (ret : ∀ s' o k ws tl, Grow s.heap s'.heap → Same s s' → Fresh s.heap s'.heap o (listOf (List.toArray ws) k) → (∀ p ∈ tl, Fresh s.heap s'.heap p.1 p.2) → RowsAre (InLed tl) ws (tableOf c) → Q (.ref o) s') :
    wpAny (model prog w) (Ar dp fr gd un) (call (.ref 240) [.ref l]) Q E s := by
  have KS := KX.keeps hsub
  have TS := T.keeps hsub
  refine wpAny_call ?_
  one_item
  one_place
  refine Stop.out (newList_led (by k_asm) (by k_asm) (Nat.zero_le _) ?_)
  intro D h1 G1 F1 N1 O1
  one_place
  refine Stop.out ?_
  with_unfolding_all refine wpAny_For ?_
  one_place
  refine Stop.out ?_
  rename IsRange _ _ _ _ _ _ _ _ => R2
  k_dflt (refine' for_range (σ := TabSt) (n := c.length) (fun c => (D, listOf (List.toArray c.vs) c.k) :: c.led) (fun _ => []) [Str.ofString "row", Str.ofString "c"] (fun i q => RowsAre (InLed q.led) q.vs q.rows ∧ q.rows = (List.range i).map (rowOf c) ∧ (∀ p ∈ q.led, p.1 ≠ D)) ⟨[], [], _, []⟩ ?hh ?hr ?hs ?hn ?hx ?hp ?hF ?hN (fun _ h => nomatch h) ⟨.nil, rfl, fun _ h => nomatch h⟩ ?_ ?_)
  case hh => rfl
  case hr => exact R2
  case hx => rfl
  case hp => rfl
  case hF => k_asm
  case hN => k_asm
  case hs => exact small_one (by decide) (by decide) (by omega) (by omega)
  case hn => rw [rangeSize_nat]; omega
  · rintro i ⟨led, ws, k, rows⟩ t u s₁ I oI hi' ⟨hr1, hr2, hr3⟩ S2 F2 N2 O2
    dsimp only [kstB] at F2 N2 hr1 hr2 hr3 O2
    one_place
    refine Stop.out (newList_led (by k_asm) (by k_asm) (Nat.zero_le _) ?_)
    intro D3 h3 G3 F3 N3 O3
    one_place
    refine Stop.out ?_
    with_unfolding_all refine wpAny_For ?_
    one_place
    refine Stop.out ?_
    rename IsRange _ _ _ _ _ _ _ _ => R3
    k_dflt (refine' for_range_list (n := c.length) [] (fun i' q => q = (List.range i').map (fun k => if k ≤ i then c.getD (i - k) 0 else 0 - c.getD (i + c.length - k) 0)) ?hh ?hr ?hs ?hn ?hx ?hp ?hF ?hN O3 .nil rfl ?_ ?_)
    case hh => rfl
    case hr => exact R3
    case hx => rfl
    case hp => rfl
    case hF => k_asm
    case hN => k_asm
    case hs => exact small_one (by decide) (by decide) (by omega) (by omega)
    case hn => rw [rangeSize_nat]; omega
    · intro j us k' q t' u' s₂ I' oI' hj off' hus hq S4 F4 N4
      have hlq : us.length = j := by rw [hus.length, hq]; simp
      by_cases hji : j ≤ i
      · have hji' : (0 : Int) + (j : Int) ≤ 0 + (i : Int) := by omega
        one_place
        refine Stop.out (append_led (by k_asm) (by k_asm) off' (by rw [hlq, sizeLine_eq]; omega) ?_)
        intro h5 F5 N5
        one_place
        refine Stop.out (ListTurn.mk (Same.put _ _ _) (by k_asm) (by k_asm) (hus.append (.cons _ _ .nil)) ?_ (by one_sign))
        have e1 : (0 + (i : Int) - (0 + (j : Int))).toNat = i - j := by omega
        rw [e1, List.range_succ, List.map_append, ← hq]
        simp [hji]
      · have hji' : ¬ (0 : Int) + (j : Int) ≤ 0 + (i : Int) := by omega
        one_place
        refine Stop.out (append_led (by k_asm) (by k_asm) off' (by rw [hlq, sizeLine_eq]; omega) ?_)
        intro h5 F5 N5
        one_place
        refine Stop.out (ListTurn.mk (Same.put _ _ _) (by k_asm) (by k_asm) (hus.append (.cons _ _ .nil)) ?_ (by one_sign))
        have e1 : (0 + (i : Int) - (0 + (j : Int)) + (c.length : Int)).toNat = i + c.length - j := by omega
        rw [e1, List.range_succ, List.map_append, ← hq]
        simp [hji]
    · intro us k' q u' s₂ hus hq S4 F4 N4
      one_place
      rename News _ _ _ _ => N5
      have hws : ws.length = i := by rw [hr1.length, hr2]; simp
      refine Stop.out (append_led (by k_asm) (news_rot N5) ?_ (by rw [hws, sizeLine_eq]; omega) ?_)
      · exact off_cons (Ne.symm (O3 _ (List.mem_cons_of_mem _ List.mem_cons_self))) (off_cons (Ne.symm (O2 _ List.mem_cons_self)) hr3)
      intro h6 F6 N6
      one_place
      rename News _ _ _ _ => N7
      refine Stop.out (TurnG.mk (TabSt.mk ((D3, listOf us.toArray k') :: led) (ws ++ [.ref D3]) (k + 1) (rows ++ [q])) (((Same.put _ _ _).trans S4).trans (Same.put _ _ _)) (by k_asm) (news_rot N7) ?_ (fun _ h => nomatch h) (by kwd_rel) ⟨?_, ?_, ?_⟩)
      · exact off_cons (show D ≠ I from O2 _ List.mem_cons_self) (off_cons (show D3 ≠ I from Ne.symm (O3 _ List.mem_cons_self)) fun p hp => O2 p (List.mem_cons_of_mem _ hp))
      · exact (hr1.mono (fun a o h => List.mem_cons_of_mem _ h)).snoc ⟨us, k', List.mem_cons_self, hus⟩
      · show rows ++ [q] = _
        rw [List.range_succ, List.map_append, ← hr2, hq]
        rfl
      · exact off_cons (Ne.symm (O3 _ (List.mem_cons_of_mem _ List.mem_cons_self))) hr3
  · rintro ⟨led, ws, k, rows⟩ u s₁ ⟨hr1, hr2, hr3⟩ S2 F2 N2
    dsimp only [kstB] at F2 N2 hr1 hr2 hr3
    one_place
    rename Fr _ _ _ _ => F4
    rename News _ _ _ _ => N4
    refine ret _ D k ws led F4.keep (((Same.put s _ _).trans S2).trans (Same.put _ _ _)) (fresh_led N4 List.mem_cons_self) (fun p hp => fresh_led N4 (List.mem_cons_of_mem _ hp)) ?_
    rw [show tableOf c = rows from hr2.symm]
    exact hr1

-- minor
def minorOf (rows : List (List Int)) (c : Nat) : List (List Int) := rows.tail.map fun r => r.take c ++ r.drop (c + 1)
theorem lawMinor {prog : Program} {w : World} {p : Program} {loose : List Str} {mg mb : Str → Option Value}
    {dp un : Nat} {fr : Option (List Env)} {gd : Option (List Code)} {h₀ : Heap} {s : Shared} {Q E : Value → Shared → Prop} {l na c : Nat} {tc : Tok} {vs : List Value} {rows : List (List Int)}
    (hsub : Grow h₀ s.heap) (KX : (heapK w.params).In h₀) (T : TopRead p loose mg mb h₀)
    (hl : s.heap.get? l = some (listOf vs.toArray na)) (hi : RowsAre (HeapIs s.heap) vs rows) (hlen : rows.length ≤ 1000) (hw : ∀ r ∈ rows, r.length ≤ 1000) (hc : c ≤ 1000)
    (hd : dp + 1 < recursionLimit)
    (ret : ∀ s' o k ws tl, Grow s.heap s'.heap → Same s s' → Fresh s.heap s'.heap o (listOf (List.toArray ws) k) → (∀ p ∈ tl, Fresh s.heap s'.heap p.1 p.2) → RowsAre (InLed tl) ws (minorOf rows c) → Q (.ref o) s') :
    wpAny (model prog w) (Ar dp fr gd un) (call (.ref 245) [.ref l, .int (c : Int) tc]) Q E s := by
  have KS := KX.keeps hsub
  have TS := T.keeps hsub
  refine wpAny_call ?_
  one_item
  one_place
  refine Stop.out ?_
  k_dflt (refine eval_ListComp_G (by k_asm) (by with_unfolding_all rfl) (by decide) (by rfl) (by decide) (by rfl) ?_)
  one_place
  rename Fr _ _ _ _ => F1
  refine Stop.out ?_
  k_dflt (refine' slice_from ?F ?N (isList_base F1 hl) ?z ?_ ?ss ?tt)
  case F => k_asm
  case N => k_asm
  case z => rw [hi.length, sizeLine_eq]; omega
  case ss => with_unfolding_all rfl
  case tt => intro _; with_unfolding_all rfl
  intro D1 h1 F2 N2 O2
  dsimp only
  have hrl := hi.length
  have hml : (minorOf rows c).length = rows.tail.length := by simp [minorOf]
  refine ⟨rfl, rows.tail.length, _, fun i ys led' => ∃ tl, led' = tl ++ (D1, listOf (vs.drop 1).toArray 0) :: _ ∧ RowsAre (InLed tl) ys ((minorOf rows c).take i), (D1, listOf (vs.drop 1).toArray 0) :: _, by rw [List.length_tail, sizeLine_eq]; omega, F2, N2, ⟨[], rfl, .nil⟩, .inr ⟨D1, (vs.drop 1).toArray, rfl, by simp [hrl], rfl, .inr ⟨listOf (vs.drop 1).toArray 0, fun i ys led' hj => ?_, rfl, 0, rfl⟩⟩, ?_, ?_⟩
  · obtain ⟨tl, rfl, _⟩ := hj
    exact List.mem_append_right _ List.mem_cons_self
  · rintro i ys led v I oI C oC D m₂ s₁ E' hi2 hyl ⟨tl, rfl, hrow⟩ hv hC hx S3 F3 N3 off3
    (try dsimp only at N3); (try dsimp only at off3); (try dsimp only at hv)
    have hri : rows.tail[i]? = some (rows.tail[i]) := List.getElem?_eq_getElem hi2
    generalize hr0 : rows.tail[i] = r0 at hri
    have hri2 : rows[i + 1]? = some r0 := by rw [← hri]; simp
    obtain ⟨a, us, na', ha1, ha2, ha3⟩ := hi.get hri2
    dsimp only [HeapIs] at ha2
    have hv2 : v = .ref a := by
      have : (vs.drop 1)[i]? = some v := by simpa using hv
      rw [List.getElem?_drop, Nat.add_comm, ha1] at this
      exact (Option.some.inj this).symm
    subst hv2
    have hw0 : r0.length ≤ 1000 := hw _ (List.mem_of_getElem? hri2)
    k_dflt one_place
    rename Fr _ _ _ _ => F4
    refine Stop.out ?_
    k_dflt (refine' slice_upto ?F4 ?N4 (isList_base F4 ha2) ?z4 ?_ ?ss4 ?tt4)
    case F4 => k_asm
    case N4 => k_asm
    case z4 => rw [ha3.length, sizeLine_eq]; omega
    case ss4 => with_unfolding_all rfl
    case tt4 => intro _; with_unfolding_all rfl
    intro D5 h5 F5 N5 O5
    dsimp only
    k_dflt one_place
    rename Fr _ _ _ _ => F6
    refine Stop.out ?_
    k_dflt (refine' slice_from ?F6 ?N6 (isList_base F6 ha2) ?z6 ?_ ?ss6 ?tt6)
    case F6 => k_asm
    case N6 => k_asm
    case z6 => rw [ha3.length, sizeLine_eq]; omega
    case ss6 => with_unfolding_all rfl
    case tt6 => intro _; with_unfolding_all rfl
    intro D7 h7 F7 N7 O7
    dsimp only
    k_dflt one_place
    refine Stop.out (add_lists (by k_asm) (by k_asm) (N7 _ (List.mem_cons_of_mem _ List.mem_cons_self)).1 (N7 _ List.mem_cons_self).1 (by have := ha3.length; simp [sizeLine_eq]; omega) ?_)
    intro D8 h8 G8 F8 N8 O8
    k_dflt one_place
    rename Fr _ _ _ _ => F9
    rename News _ _ _ _ => N9
    refine Stop.out (EltG.mk ((D8, listOf (us.take c ++ us.drop (c + 1)).toArray 0) :: (tl ++ _)) (Same.put _ _ _) F9 (fun p hp => N9 p ?_) ?_ ⟨(D8, listOf (us.take c ++ us.drop (c + 1)).toArray 0) :: tl, rfl, ?_⟩)
    · simp only [List.mem_cons] at hp ⊢
      rcases hp with h | h | h | h | h
      · simp [h]
      · simp [h]
      · simp [h]
      · simp [h]
      · exact .inr (.inr (.inr (.inr (.inr (.inr h)))))
    · intro p hp
      rcases List.mem_cons.mp hp with rfl | hp
      · have o := fun q hq => Ne.symm (O8 q (List.mem_cons_of_mem _ (List.mem_cons_of_mem _ hq)))
        exact ⟨o _ List.mem_cons_self, o _ (List.mem_cons_of_mem _ List.mem_cons_self), o _ (List.mem_cons_of_mem _ (List.mem_cons_of_mem _ List.mem_cons_self))⟩
      · exact off3 p hp
    · have hmi : (minorOf rows c)[i]? = some (r0.take c ++ r0.drop (c + 1)) := by
        unfold minorOf
        rw [List.getElem?_map, hri]
        rfl
      rw [List.take_succ, hmi]
      exact (hrow.mono (fun a o h => List.mem_cons_of_mem _ h)).snoc ⟨_, 0, List.mem_cons_self, (ha3.take c).append (ha3.drop (c + 1))⟩
  · rintro D ys led s₃ hyl ⟨tl, rfl, hrow⟩ S3 F3 N3 O3
    one_place
    rename Fr _ _ _ _ => F4
    rename News _ _ _ _ => N4
    refine ret _ D ys.length ys tl F4.keep (((Same.put s _ _).trans S3).trans (Same.put _ _ _)) (fresh_led N4 List.mem_cons_self) (fun p hp => fresh_led N4 (List.mem_cons_of_mem _ (List.mem_append_left _ hp))) ?_
    rw [← hml, List.take_length] at hrow
    exact hrow

-- det
def detOf : Nat → List (List Int) → Int
  | 0, _ => 1
  | m + 1, rows => (List.range (m + 1)).foldl (fun t c => t + (-1) ^ c * (rows.getD 0 []).getD c 0 * detOf m (minorOf rows c)) 0
def Bd (k : Nat) (x : Int) : Prop := x.natAbs < 2 ^ k
theorem Bd.mul {a b : Nat} {x y : Int} (hx : Bd a x) (hy : Bd b y) : Bd (a + b) (x * y) := by
  unfold Bd at *
  rw [Int.natAbs_mul, Nat.pow_add]
  exact Nat.mul_lt_mul'' hx hy
theorem Bd.mono {a b : Nat} {x : Int} (h : a ≤ b) (hx : Bd a x) : Bd b x := Nat.lt_of_lt_of_le hx (Nat.pow_le_pow_right (by decide) h)
open Builtin.Int in
theorem Bd.bits {k : Nat} {x : Int} (hx : Bd k x) : intBits x ≤ k := by
  unfold intBits
  by_cases h : x = 0
  · subst h; simp
  · have e : (x == 0) = false := by simp [h]
    rw [e]
    simp only [Bool.false_eq_true, if_false]
    have h1 : x.natAbs ≠ 0 := by omega
    have h2 := (Nat.log2_lt h1).mpr hx
    omega
open Builtin.Int in
theorem Bd.of_bits {k : Nat} {x : Int} (hx : intBits x ≤ k) : Bd k x := by
  unfold Bd
  unfold intBits at hx
  by_cases h : x = 0
  · subst h; exact Nat.pow_pos (by decide)
  · have e : (x == 0) = false := by simp [h]
    rw [e] at hx
    simp only [Bool.false_eq_true, if_false] at hx
    have h1 : x.natAbs ≠ 0 := by omega
    exact (Nat.log2_lt h1).mp (by omega)
theorem Bd.ok {a b : Nat} {x y : Int} (hx : Bd a x) (hy : Bd b y) (h : a + b ≤ 134217728) : IntMulOk x y := mulOk_bits hx.bits hy.bits h
def Sq (k m : Nat) (rows : List (List Int)) : Prop := rows.length = m ∧ ∀ r ∈ rows, r.length = m ∧ ∀ x ∈ r, Bd k x
theorem Sq.minor {k m c : Nat} {rows : List (List Int)} (h : Sq k (m + 1) rows) (hc : c < m + 1) : Sq k m (minorOf rows c) := by
  refine ⟨by simp [minorOf, h.1], fun r hr => ?_⟩
  unfold minorOf at hr
  obtain ⟨r', h1, rfl⟩ := List.mem_map.mp hr
  obtain ⟨h2, h3⟩ := h.2 r' (List.mem_of_mem_tail h1)
  refine ⟨by simp; omega, fun x hx => ?_⟩
  rcases List.mem_append.mp hx with hx | hx
  · exact h3 x (List.mem_of_mem_take hx)
  · exact h3 x (List.mem_of_mem_drop hx)
theorem Sq.entry {k m c : Nat} {rows : List (List Int)} (h : Sq k (m + 1) rows) : Bd k ((rows.getD 0 []).getD c 0) := by
  rw [List.getD_eq_getElem?_getD, List.getD_eq_getElem?_getD]
  cases e : rows[0]? with
  | none => exact Nat.pow_pos (by decide)
  | some r =>
    simp only [Option.getD_some]
    cases e2 : r[c]? with
    | none => exact Nat.pow_pos (by decide)
    | some x => exact (h.2 r (List.mem_of_getElem? e)).2 x (List.mem_of_getElem? e2)
theorem natAbs_sign (c : Nat) : ((-1 : Int) ^ c).natAbs = 1 := by rw [Int.natAbs_pow]; simp
def detSum (m : Nat) (rows : List (List Int)) (i : Nat) : Int := (List.range i).foldl (fun t c => t + (-1) ^ c * (rows.getD 0 []).getD c 0 * detOf m (minorOf rows c)) 0
theorem detSum_succ (m : Nat) (rows : List (List Int)) (i : Nat) : detSum m rows (i + 1) = detSum m rows i + (-1) ^ i * (rows.getD 0 []).getD i 0 * detOf m (minorOf rows i) := by
  unfold detSum; rw [List.range_succ, List.foldl_append]; rfl
theorem detOf_bd {k : Nat} : ∀ {m : Nat} {rows : List (List Int)}, m ≤ 4 → Sq k m rows → Bd (m * (k + 3) + 1) (detOf m rows)
  | 0, _, _, _ => by simp [detOf, Bd]
  | m + 1, rows, hm, h => by
    have key : ∀ i, i ≤ m + 1 → (detSum m rows i).natAbs ≤ i * 2 ^ (k + (m * (k + 3) + 1)) := by
      intro i
      induction i with
      | zero => intro _; simp [detSum]
      | succ i ih =>
        intro hi
        rw [detSum_succ]
        have h1 := ih (by omega)
        have h2 : Bd (k + (m * (k + 3) + 1)) ((rows.getD 0 []).getD i 0 * detOf m (minorOf rows i)) := h.entry.mul (detOf_bd (by omega) (h.minor (by omega)))
        have h3 : ((-1 : Int) ^ i * (rows.getD 0 []).getD i 0 * detOf m (minorOf rows i)).natAbs < 2 ^ (k + (m * (k + 3) + 1)) := by
          rw [Int.mul_assoc, Int.natAbs_mul, natAbs_sign, Nat.one_mul]; exact h2
        have h4 := Int.natAbs_add_le (detSum m rows i) ((-1) ^ i * (rows.getD 0 []).getD i 0 * detOf m (minorOf rows i))
        rw [Nat.succ_mul]
        omega
    have h5 := key (m + 1) (Nat.le_refl _)
    show (detSum m rows (m + 1)).natAbs < _
    have h6 : (m + 1) * 2 ^ (k + (m * (k + 3) + 1)) ≤ 4 * 2 ^ (k + (m * (k + 3) + 1)) := Nat.mul_le_mul_right _ (by omega)
    have h7 : (4 : Nat) * 2 ^ (k + (m * (k + 3) + 1)) < 2 ^ ((m + 1) * (k + 3) + 1) := by
      have e : (m + 1) * (k + 3) + 1 = (k + (m * (k + 3) + 1)) + 3 := by rw [Nat.succ_mul]; omega
      rw [e]
      generalize k + (m * (k + 3) + 1) = X
      rw [Nat.pow_add]
      have := Nat.pow_pos (n := X) (show 0 < 2 by decide)
      omega
    omega
theorem sub_rows {prog : Program} {w : World} {A : Around} {E : Value → Shared → Prop} {s : Shared} {l a na : Nat} {k : Int} {u : Tok} {vs : List Value} {Q : Value → Shared → Prop} {value slice : PySem.Expr}
    (hl : s.heap.get? l = some (listOf vs.toArray na)) (h0 : 0 ≤ k) (h1 : vs[k.toNat]? = some (.ref a)) (hfit : k < 2 ^ 63) (h : Q (.ref a) s)
    (hs : subscripted slice false (.ref l) (.int k u) = operate [.ref l, .int k u] (getItem (.ref l) (.int k u)) := by with_unfolding_all rfl) (hg : ∀ r, letTemporaryGo value (.ref l) r = pure () := by intro _; with_unfolding_all rfl) :
    wpAny (model prog w) A (subscriptTail value slice (.ref l) (.int k u)) Q E s :=
  PyProof.Rows.item_list ⟨_, hl, rfl, na, rfl⟩ h0 hfit (by simpa using h1) h hs hg
structure DetSt where
  led : List (Addr × Obj)
  t : Int
  tk : Tok
theorem lawDet {prog : Program} {w : World} {p : Program} {loose : List Str} {mg mb : Str → Option Value} {fr : Option (List Env)} {gd : Option (List Code)} {k : Nat} (hk : 4 * (k + 3) + 2 + k ≤ 134217728) :
    ∀ (m : Nat), m ≤ 4 → ∀ {dp un : Nat} {h₀ : Heap} {s : Shared} {Q E : Value → Shared → Prop} {l na : Nat} {vs : List Value} {rows : List (List Int)}
    (hsub : Grow h₀ s.heap) (KX : (heapK w.params).In h₀) (T : TopRead p loose mg mb h₀)
    (hl : s.heap.get? l = some (listOf vs.toArray na)) (hi : RowsAre (HeapIs s.heap) vs rows) (hsq : Sq k m rows)
    (hd : dp + m + 2 < recursionLimit) (hu : un + 10 * m + 100 < cLine)
    (ret : ∀ s' t, Grow s.heap s'.heap → Same s s' → Q (.int (detOf m rows) t) s'),
    wpAny (model prog w) (Ar dp fr gd un) (call (.ref 252) [.ref l]) Q E s
  | 0, _, dp, un, h₀, s, Q, E, l, na, vs, rows, hsub, KX, T, hl, hi, hsq, hd, hu, ret => by
    have KS := KX.keeps hsub
    have TS := T.keeps hsub
    have hv0 : vs = [] := List.length_eq_zero_iff.mp (hi.length.trans hsq.1)
    subst hv0
    refine wpAny_call ?_
    one_item
    one_place
    rename News _ _ _ _ => N2
    rename Fr _ _ _ _ => F2
    refine Stop.out (newList_led F2 N2 (Nat.zero_le _) ?_)
    intro D h1 G1 F3 N3 O3
    one_place
    refine Stop.out (ke_eq_ints (isList_base F3 hl) (isList_led N3 List.mem_cons_self) .nil .nil ?_ ?_)
    · have := cLine_is; show un + 3 + 64 < cLine; omega
    one_place
    rename Fr _ _ _ _ => F4
    exact ret _ _ F4.keep (Same.put _ _ _)
  | m + 1, hm, dp, un, h₀, s, Q, E, l, na, vs, rows, hsub, KX, T, hl, hi, hsq, hd, hu, ret => by
    have KS := KX.keeps hsub
    have TS := T.keeps hsub
    have hvl : vs.length = m + 1 := hi.length.trans hsq.1
    refine wpAny_call ?_
    one_item
    one_place
    rename News _ _ _ _ => N2
    rename Fr _ _ _ _ => F2
    refine Stop.out (newList_led F2 N2 (Nat.zero_le _) ?_)
    intro D h1 G1 F3 N3 O3
    one_place
    refine Stop.out (SeqAt.eq_list_lengthsAt (isList_base F3 hl) (isList_led N3 List.mem_cons_self) (by simp [hvl]) ?_ ?_)
    · have := cLine_is; show un + 3 < cLine; omega
    one_place
    refine Stop.out ?_
    with_unfolding_all refine wpAny_For ?_
    one_place
    refine Stop.out ?_
    rename IsRange _ _ _ _ _ _ _ _ => R2
    rename Fr _ _ _ _ => F4
    rename News _ _ _ _ => N4
    k_dflt (refine' for_range (σ := DetSt) (n := m + 1) (fun c => c.led) (fun c => [(Str.ofString "total", Value.int c.t c.tk)]) [] (fun i c => c.t = detSum m rows i) ⟨_, 0, _⟩ ?hh ?hr ?hs ?hn ?hx ?hp F4 N4 ?hk rfl ?_ ?_)
    case hh => rfl
    case hr => exact R2
    case hx => rfl
    case hp => rfl
    case hs => exact small_one (by decide) (by decide) (by omega) (by omega)
    case hn => rw [rangeSize_nat]; omega
    case hk => kwd_inv
    · rintro i ⟨led, tot, tkk⟩ t u s₁ I oI hi' htot S5 F5 N5 O5
      dsimp only [kstB] at F5 N5 O5 htot
      rw [Int.zero_add] at F5
      have hrl : 0 < rows.length := by rw [hsq.1]; exact Nat.succ_pos m
      have hr0 : rows[0]? = some (rows.getD 0 []) := by rw [List.getD_eq_getElem?_getD, List.getElem?_eq_getElem hrl]; rfl
      obtain ⟨a, us, na', ha1, ha2, ha3⟩ := hi.get hr0
      dsimp only [HeapIs] at ha2
      have ha4 : (rows.getD 0 []).length = m + 1 := (hsq.2 _ (List.mem_of_getElem? hr0)).1
      generalize hrd : rows.getD 0 [] = row at ha3 ha4
      have e1 : ((i : Int)).toNat = i := by omega
      have e2 : ((-1 : Int) ^ i) * row.getD i 0 = (-1 : Int) ^ i * (rows.getD 0 []).getD i 0 := by rw [hrd]
      have b1 : Bd 1 ((-1 : Int) ^ i) := by unfold Bd; rw [natAbs_sign]; decide
      have b2 : Bd k (row.getD i 0) := by rw [← hrd]; exact hsq.entry
      have b3 := detOf_bd (by omega : m ≤ 4) (hsq.minor hi')
      have hmk : m * (k + 3) ≤ 3 * (k + 3) := Nat.mul_le_mul_right _ (by omega)
      have mu1 : IntMulOk ((-1 : Int) ^ i) (row.getD i 0) := b1.ok b2 (by omega)
      have mu2 : IntMulOk ((-1 : Int) ^ i * row.getD i 0) (detOf m (minorOf rows i)) := (b1.mul b2).ok b3 (by omega)
      one_place
      refine Stop.out (pow_int_small (by omega) (by omega) (by decide) ?_)
      rw [e1]
      one_place
      rename Fr _ _ _ _ => F6
      refine sub_rows (F6.keep _ _ hl) (by decide) ha1 (by decide) ?_
      one_place
      refine Stop.out (mul_ok ?_ ?_)
      · rw [e1]; exact mu1
      rw [e1]
      one_place
      rename Fr _ _ _ _ => F8
      rename News _ _ _ _ => N8
      tb_rel
      refine lawMinor F8.keep KS TS (F8.keep _ _ hl) (hi.mono (grow_is F8.keep)) (by rw [hsq.1]; omega) (fun r hr => by rw [(hsq.2 r hr).1]; omega) (by omega) (by ktr_room) ?_
      intro s2 o k2 ws tl2 G2 S2 f2 ft2 hws
      have N9 := news_add (F8.keeps G2) (news_tl F8 N8 G2 ft2) (fresh_sub f2 F8.keep) (fresh_ne F8 f2)
      have F9 := F8.keeps G2
      have hws' : RowsAre (HeapIs s2.heap) ws (minorOf rows i) := hws.mono fun a o h => (ft2 _ h).1
      one_place
      rename Fr _ _ _ _ => F10
      rename News _ _ _ _ => N10
      tb_rel
      refine lawDet hk m (by omega) F10.keep KS TS (N10 _ List.mem_cons_self).1 (hws.mono fun a o h => (N10 _ (List.mem_cons_of_mem _ (List.mem_append_left _ h))).1) (hsq.minor hi') (by ktr_room) ?_ ?_
      · have := cLine_is; show un + 3 + 10 * m + 100 < cLine; omega
      intro s3 t3 G3 S3
      have F11 := F10.keeps G3
      have N11 := N10.grown G3
      one_place
      refine Stop.out (mul_ok mu2 ?_)
      one_place
      rename Fr _ _ _ _ => F12
      rename News _ _ _ _ => N12
      refine Stop.out (TurnG.mk (DetSt.mk led _ _) ((((Same.put _ _ _).trans S2).trans (Same.put _ _ _)).trans (S3.trans (Same.put _ _ _))) F12 (fun p hp => N12 p (List.mem_cons_of_mem _ (List.mem_append_right _ hp))) O5 (by kwd_inv) (by kwd_rel) ?_)
      show tot + _ = detSum m rows (i + 1)
      rw [detSum_succ, htot, ← hrd]
    · rintro ⟨led, tot, tkk⟩ u s₁ htot S5 F5 N5
      dsimp only [kstB] at F5 N5 htot
      one_place
      rename Fr _ _ _ _ => F6
      subst htot
      exact ret _ _ F6.keep (((Same.put _ _ _).trans S5).trans (Same.put _ _ _))

-- turned
def turnedIn (f : List Int) (j : Nat) (c : List Int) (u : Nat) : List Int := addAt c (u * j % f.length) (if u * j / f.length % 2 = 0 then f.getD u 0 else - f.getD u 0)
def turnedOf (f : List Int) (j : Nat) : List Int := (List.range f.length).foldl (turnedIn f j) ((List.range f.length).map fun _ => 0)
theorem lawTurned {prog : Program} {w : World} {p : Program} {loose : List Str} {mg mb : Str → Option Value}
    {dp un : Nat} {fr : Option (List Env)} {gd : Option (List Code)} {h₀ : Heap} {s : Shared} {Q E : Value → Shared → Prop} {l na j : Nat} {tj : Tok} {vs : List Value} {f : List Int}
    (hsub : Grow h₀ s.heap) (KX : (heapK w.params).In h₀) (T : TopRead p loose mg mb h₀)
    (hl : s.heap.get? l = some (listOf vs.toArray na)) (hi : IntsAre vs f) (hlen : f.length ≤ 1000) (hj : j ≤ 1000)
    (hd : dp + 1 < recursionLimit)
    (ret : ∀ s' o, Grow s.heap s'.heap → Same s s' → IntsOn (Fresh s.heap s'.heap) o (turnedOf f j) → Q (.ref o) s') :
    wpAny (model prog w) (Ar dp fr gd un) (call (.ref 257) [.ref l, .int (j : Int) tj]) Q E s := by
  have KS := KX.keeps hsub
  have TS := T.keeps hsub
  refine wpAny_call ?_
  one_item
  one_place
  refine Stop.out ?_
  k_dflt (refine assign_ListComp_G (by k_asm) rfl (by with_unfolding_all rfl) (by with_unfolding_all rfl) (by decide) (by rfl) (by decide) (by rfl) (by rfl) (by rfl) ?_)
  one_place
  refine Stop.out ?_
  rename IsRange _ _ _ _ _ _ _ _ => R1
  refine (CompG.rangeInts (n := f.length) (fun _ => 0) rfl (by k_asm) (by k_asm) R1 (small_one (by decide) (by decide) (by omega) (by omega)) (by rw [rangeSize_nat]; omega) (by rw [sizeLine_eq]; omega) ?_ ?_)
  · intro i t I oI C oC D ys m₂ s₁ E' hi hC hx S F N
    k_dflt one_place
    exact IntBackG.mk rfl (Same.put _ _ _) (by k_asm) (by k_asm)
  intro D ys s₃ hys S3 F3 N3 off D' s₄ e S4 F4 N4
  one_place
  refine Stop.out ?_
  with_unfolding_all refine wpAny_For ?_
  one_place
  refine Stop.out ?_
  rename IsRange _ _ _ _ _ _ _ _ => R2
  rename Fr _ _ _ _ => F5
  rename News _ _ _ _ => N5
  generalize hys0 : (List.range f.length).map (fun _ => (0 : Int)) = c0 at hys
  k_dflt (refine' for_range_list (n := f.length) [] (fun i c => c.length = f.length ∧ c = (List.range i).foldl (turnedIn f j) c0) ?hh ?hr ?hs ?hn ?hx ?hp F5 N5 ?ho hys ⟨by rw [← hys0]; simp, rfl⟩ ?_ ?_)
  case hh => rfl
  case hr => exact R2
  case hx => rfl
  case hp => rfl
  case hs => exact small_one (by decide) (by decide) (by omega) (by omega)
  case hn => rw [rangeSize_nat]; omega
  case ho =>
    obtain rfl := Value.ref.inj e
    exact off
  · rintro i us k' c t' u' s₂ I' oI' hi' off' hus ⟨hc1, hc2⟩ S6 F6 N6
    rw [Int.zero_add] at F6
    have hmu : IntMulOk (i : Int) (j : Int) := IntMulOk.of_left (intBits_le_64 (by omega) (by omega))
    have hnz : ((f.length : Nat) : Int) ≠ 0 := by omega
    have hnp : (0 : Int) < ((f.length : Nat) : Int) := by omega
    have em1 : ((i : Int) * (j : Int)).fmod (f.length : Int) = ((i * j % f.length : Nat) : Int) := by rw [Int.fmod_eq_emod_of_nonneg _ (by omega)]; simp
    have em2 : (((i : Int) * (j : Int)).fdiv (f.length : Int)).fmod 2 = ((i * j / f.length % 2 : Nat) : Int) := by rw [Int.fdiv_eq_ediv_of_nonneg _ (by omega), Int.fmod_eq_emod_of_nonneg _ (by decide)]; simp
    have hlt : i * j % f.length < f.length := Nat.mod_lt _ (by omega)
    have hij : i * j ≤ 1000 * 1000 := Nat.mul_le_mul (by omega) hj
    one_place
    refine Stop.out (mul_ok hmu ?_)
    one_place
    · refine Stop.out (mul_ok hmu ?_)
      one_place
      refine Stop.out (set_ints (by k_asm) (by k_asm) off' hus (by omega) (by omega) (by omega) ?_)
      intro h4 F7 N7 hi4
      one_place
      refine Stop.out (ListTurn.mk (Same.put _ _ _) (by k_asm) (by k_asm) hi4 ⟨?_, ?_⟩ (by one_sign))
      · rw [List.length_set]; exact hc1
      · have hb : i * j / f.length % 2 = 0 := by omega
        rw [List.range_succ, List.foldl_append, ← hc2]
        show _ = turnedIn f j c i
        have e4 : ((i * j % f.length : Nat) : Int).toNat = i * j % f.length := Int.toNat_natCast _
        have e5 : ((i : Nat) : Int).toNat = i := Int.toNat_natCast _
        unfold turnedIn addAt
        rw [if_pos hb, em1, e4, e5]
        
    · refine Stop.out (mul_ok hmu ?_)
      one_place
      refine Stop.out (set_ints (by k_asm) (by k_asm) off' hus (by omega) (by omega) (by omega) ?_)
      intro h4 F7 N7 hi4
      one_place
      refine Stop.out (ListTurn.mk (Same.put _ _ _) (by k_asm) (by k_asm) hi4 ⟨?_, ?_⟩ (by one_sign))
      · rw [List.length_set]; exact hc1
      · have hb : ¬ (i * j / f.length % 2 = 0) := by omega
        rw [List.range_succ, List.foldl_append, ← hc2]
        show _ = turnedIn f j c i
        have e4 : ((i * j % f.length : Nat) : Int).toNat = i * j % f.length := Int.toNat_natCast _
        have e5 : ((i : Nat) : Int).toNat = i := Int.toNat_natCast _
        unfold turnedIn addAt
        rw [if_neg hb, em1, e4, e5]
        rw [Int.sub_eq_add_neg]
  · intro us k' c u' s₂ hus ⟨hc1, hc2⟩ S6 F6 N6
    one_place
    rename Fr _ _ _ _ => F7
    rename News _ _ _ _ => N7
    refine ret _ _ F7.keep ?_ ⟨us, _, fresh_led N7 List.mem_cons_self, ?_⟩
    · exact (((Same.put s _ _).trans S3).trans S4).trans ((Same.put _ _ _).trans (S6.trans (Same.put _ _ _)))
    · unfold turnedOf
      rw [hys0, ← hc2]; exact hus

-- inverse
structure InvSt where
  led : List (Addr × Obj)
  a : Int
  b : Int
  x : Int
  y : Int
  ta : Tok
  tb : Tok
  tx : Tok
  ty : Tok
def InvSt.names (c : InvSt) : List (Str × Value) := [(Str.ofString "a", Value.int c.a c.ta), (Str.ofString "b", Value.int c.b c.tb), (Str.ofString "x", Value.int c.x c.tx), (Str.ofString "y", Value.int c.y c.ty)]
theorem lawInverse {prog : Program} {w : World} {p : Program} {loose : List Str} {mg mb : Str → Option Value}
    {dp un : Nat} {fr : Option (List Env)} {gd : Option (List Code)} {h₀ : Heap} {s : Shared} {Q E : Value → Shared → Prop} {c q : Int} {tc tq : Tok}
    (hsub : Grow h₀ s.heap) (KX : (heapK w.params).In h₀) (T : TopRead p loose mg mb h₀)
    (hq : 2 ≤ q) (hq2 : q ≤ 1000000)
    (hd : dp + 1 < recursionLimit)
    (ret : ∀ s' part t, Grow s.heap s'.heap → Same s s' → 0 ≤ part → part < q → (part ≠ 0 → q ∣ part * c - 1) → Q (.int part t) s') :
    wpAny (model prog w) (Ar dp fr gd un) (call (.ref 264) [.int c tc, .int q tq]) Q E s := by
  have KS := KX.keeps hsub
  have TS := T.keeps hsub
  have hq0 : (0 : Int) < q := by omega
  have hqn : (q : Int) ≠ 0 := by omega
  have em : c.fmod q = c % q := Int.fmod_eq_emod_of_nonneg _ (by omega)
  have hm0 := Int.emod_nonneg c hqn
  have hm1 := Int.emod_lt_of_pos c hq0
  have hm2 : q ∣ c % q - 1 * c := by rw [Int.one_mul]; exact ⟨-(c / q), by have := Int.mul_ediv_add_emod c q; rw [Int.mul_neg]; omega⟩
  refine wpAny_call ?_
  one_item
  one_place
  rename Fr _ _ _ _ => F2
  rename News _ _ _ _ => N2
  refine Stop.out ?_
  k_dflt (refine' while_G (σ := InvSt) (fun c => c.led) InvSt.names [Str.ofString "many"] (fun d => 0 < d.a ∧ d.a ≤ q ∧ 0 ≤ d.b ∧ d.b ≤ q ∧ q ∣ d.a - d.x * c ∧ q ∣ d.b - d.y * c) (fun d => d.b.toNat) ⟨_, q, c.fmod q, 0, 1, _, _, _, _⟩ F2 N2 ?hk ?h0 ?turn)
  case hk =>
    intro p hp
    simp only [InvSt.names, List.mem_cons, List.not_mem_nil, or_false] at hp
    rcases hp with rfl | rfl | rfl | rfl <;> rfl
  case h0 =>
    dsimp only
    rw [em]
    exact ⟨hq0, Int.le_refl _, hm0, by omega, by rw [Int.zero_mul, Int.sub_zero]; exact Int.dvd_refl _, hm2⟩
  case turn =>
    rintro ⟨led, a, b, x, y, ta, tb, tx, ty⟩ u s₁ ⟨ha0, haq, hb0, hbq, hd1, hd2⟩ S5 F5 N5
    dsimp only at ha0 haq hb0 hbq hd1 hd2 N5
    dsimp only [InvSt.names, kstB] at F5
    by_cases hb : b = 0
    · subst hb
      one_place
      · rename Fr _ _ _ _ => F6
        have e1 := Int.fmod_eq_emod_of_nonneg x (show 0 ≤ q by omega)
        refine ret _ _ _ F6.keep (((Same.put s _ _).trans S5).trans (Same.put _ _ _)) ?_ ?_ (fun _ => ?_)
        · rw [e1]; exact Int.emod_nonneg _ hqn
        · rw [e1]; exact Int.emod_lt_of_pos _ hq0
        · rw [e1]
          have ha1 : a = 1 := by assumption
          rw [ha1] at hd1
          obtain ⟨z, hz⟩ := hd1
          refine ⟨-(z + x / q * c), ?_⟩
          have hx := Int.mul_ediv_add_emod x q
          have e2 : x % q = x - q * (x / q) := by omega
          rw [e2, Int.sub_mul, Int.mul_neg, Int.mul_add, Int.mul_assoc]
          omega
      · rename Fr _ _ _ _ => F6
        exact ret _ _ _ F6.keep (((Same.put s _ _).trans S5).trans (Same.put _ _ _)) (Int.le_refl _) hq0 (fun h => absurd rfl h)
    · have hb1 : 0 < b := by omega
      have hdv := Int.fdiv_eq_ediv_of_nonneg a (show 0 ≤ b by omega)
      have hmb : IntMulOk (a.fdiv b) b := by
        rw [hdv]
        have h1 := Int.ediv_nonneg (show 0 ≤ a by omega) hb0
        have h2 := Int.ediv_le_self b (show 0 ≤ a by omega)
        exact IntMulOk.of_left (intBits_le_64 (by omega) (by omega))
      have hmy : IntMulOk (a.fdiv b) y := by
        rw [hdv]
        have h1 := Int.ediv_nonneg (show 0 ≤ a by omega) hb0
        have h2 := Int.ediv_le_self b (show 0 ≤ a by omega)
        exact IntMulOk.of_left (intBits_le_64 (by omega) (by omega))
      one_place
      rotate_left
      · exfalso; omega
      refine Stop.out (mul_ok hmb ?_)
      one_place
      refine Stop.out (mul_ok hmy ?_)
      one_place
      rename Fr _ _ _ _ => F6
      rename News _ _ _ _ => N6
      obtain ⟨tb', htb⟩ : ∃ t, mapOf F6 (Str.ofString "b") = some (Value.int (a - a.fdiv b * b) t) := ⟨_, rfl⟩
      obtain ⟨ty', hty⟩ : ∃ t, mapOf F6 (Str.ofString "y") = some (Value.int (x - a.fdiv b * y) t) := ⟨_, rfl⟩
      have hsplit := Int.mul_ediv_add_emod a b
      have hr0 := Int.emod_nonneg a (show b ≠ 0 by omega)
      have hr1 := Int.emod_lt_of_pos a hb1
      have hnb : a - a.fdiv b * b = a % b := by rw [hdv, Int.mul_comm]; omega
      refine' Stop.out (WhileEnd.mk (InvSt.mk led b (a - a.fdiv b * b) y (x - a.fdiv b * y) tb tb' ty ty') ?_ F6 (fun p hp => N6 p (List.mem_cons_of_mem _ (List.mem_cons_of_mem _ hp))) ?_ ?_ ⟨hb1, hbq, ?_, ?_, hd2, ?_⟩ ?_)
      · exact Same.put _ _ _
      · unfold InvSt.names
        intro p hp
        simp only [List.mem_cons, List.not_mem_nil, or_false] at hp
        rcases hp with rfl | rfl | rfl | rfl
        · rfl
        · exact htb
        · rfl
        · exact hty
      · unfold InvSt.names; kwd_less
      · show 0 ≤ a - a.fdiv b * b
        rw [hnb]; exact hr0
      · show a - a.fdiv b * b ≤ q
        rw [hnb]; omega
      · show q ∣ (a - a.fdiv b * b) - (x - a.fdiv b * y) * c
        have e3 : (a - a.fdiv b * b) - (x - a.fdiv b * y) * c = (a - x * c) - a.fdiv b * (b - y * c) := by
          rw [Int.sub_mul, Int.mul_sub, Int.mul_assoc]; omega
        rw [e3]
        exact Int.dvd_sub hd1 (Int.dvd_trans hd2 (Int.dvd_mul_left _ _))
      · show (a - a.fdiv b * b).toNat < b.toNat
        rw [hnb]; omega

-- isconst
theorem all_range (c : List Int) : (List.range c.length).all (fun j => c.getD j 0 == 0) = c.all (· == 0) := by
  have e : (List.range c.length).map (fun j => c.getD j 0) = c := by
    apply List.ext_getElem
    · simp
    · intro i h1 h2
      simp at h1 h2
      simp [List.getD_eq_getElem?_getD, h2]
  conv => rhs; rw [← e]
  rw [List.all_map]
  rfl
theorem isConstant {prog : Program} {w : World} {p : Program} {loose : List Str} {mg mb : Str → Option Value}
    {dp un : Nat} {fr : Option (List Env)} {gd : Option (List Code)} {h₀ : Heap} {s : Shared} {Q E : Value → Shared → Prop} {x r : Nat} {la : List Int} {ps : Array Value} {mgB : Str → Option Value} {bm : Addr} {ob : Obj}
    (hsub : Grow h₀ s.heap) (KX : (heapK w.params).In h₀) (T : TopRead p loose mg mb h₀) (MB : BMod h₀ mainGlobals mgB bm ob)
    (hx : PolyOn w (HeapIs s.heap) x r la) (hP : s.heap.get? 86 = some (tabObj ps)) (hP0 : h₀.get? 86 = none) (htr : TriplesOk ps.toList)
    (hlen : la.length ≤ 1000)
    (hd : dp + 3 < recursionLimit)
    (ret : ∀ s' ps', (∀ b o, b ≠ 86 → s.heap.get? b = some o → s'.heap.get? b = some o) → s'.heap.get? 86 = some (tabObj ps') → TriplesOk ps'.toList → Same s s' → Q (.bool ((la.drop 1).all (· == 0))) s') :
    wpAny (model prog w) (Ar dp fr gd un) (call (.ref 91) [.ref x]) Q E s := by
  obtain ⟨dx, ax, tpx, tcx, hx1, hx2, va, nx, hx3, ia⟩ := hx
  dsimp only [HeapIs] at hx1 hx2 hx3
  refine wpAny_call ?_
  k_dflt (refine' enterH [(86, tabObj ps)] ?k1 ?k3 ?k5 (fun p hp => ?_) ?k6 ?k7 ?k8 ?k9 ?kB ?_ ?c2 ?c3 ?c4 ?c5)
  tb_start
  · rw [List.mem_singleton.mp hp]; exact ⟨hP, hP0⟩
  intro g L' h₁ G1 G2 G3 G4 G5 KG TG F N
  have up : ∀ a o, s.heap.get? a = some o → a ≠ 86 → g.get? a = some o := fun a o e hn => G3 a o e fun hm => hn (List.mem_singleton.mp hm)
  have gx1 := up _ _ hx1 (fun q => by rw [q, hP] at hx1; cases hx1)
  have gx2 := up _ _ hx2 (fun q => by rw [q, hP] at hx2; cases hx2)
  have gx3 := up _ _ hx3 (fun q => by rw [q, hP] at hx3; cases hx3)
  clear hx1 hx2 hx3
  have MG := MB.keeps G1
  have CG : CodeHd g 90 86 := codeHd_of_K KG (by kernel_rfl)
  one_place
  refine Stop.out ?_
  k_dflt (refine eval_Gen_G (by k_asm) MG CG TG.nolimit rfl rfl rfl (by with_unfolding_all rfl) (by decide) (by rfl) (by rfl) (by rfl) (by ktr_room) ?_ (fun _ => by rfl))
  one_place
  rename Fr _ _ _ _ => F1
  refine Stop.out ?_
  k_dflt (refine' slice_from ?F ?N (isList_base F1 gx3) ?z ?_ ?ss ?tt)
  case F => k_asm
  case N => k_asm
  case z => rw [ia.length, sizeLine_eq]; omega
  case ss => with_unfolding_all rfl
  case tt => intro _; with_unfolding_all rfl
  intro D1 h1 F2 N2 O2
  have id1 : IntsAre (va.drop 1) (la.drop 1) := ia.drop 1
  have N3 := news_swap N2
  refine ⟨ps, [(D1, listOf (va.drop 1).toArray 0)], (la.drop 1).length, _, (fun i v => v = .bool ((la.drop 1).getD i 0 == 0)), rfl, F2, N3, ?_, htr, .inr ⟨D1, (va.drop 1).toArray, rfl, by rw [List.size_toArray, id1.length], rfl, ⟨_, (N2 _ List.mem_cons_self).1, rfl, 0, rfl⟩⟩, ?_, ?_⟩
  · intro p hp
    rw [List.mem_singleton.mp hp]
    exact Ne.symm (O2 _ List.mem_cons_self)
  · intro A' E' i v t C m₂ code hA hdp hun hi hPi Ft hxv Nt
    obtain ⟨n', t', hv, hn'⟩ := id1.at i v (by simpa using hPi)
    subst hv
    one_place
    · show Value.bool _ = Value.bool _
      have e4 : (la.drop 1).getD i 0 = n' := by rw [List.getD_eq_getElem?_getD, hn']; rfl
      rw [e4]
    · exact ⟨_, _, rfl, fun _ _ e => e⟩
  · intro a s₅ ps' X5 S5 F5 N5 t5
    one_place
    refine all_G (fun j => (la.drop 1).getD j 0 == 0) X5 F5 N5 (fun j v h => h) ?_
    intro s₆ S6 F6 N6
    rw [all_range]
    exact ret s₆ ps' (fun b o hb e => F6.keep b o (up b o e hb)) (N6 _ List.mem_cons_self).1 t5 (((Same.put s _ _).trans S5).trans S6)

-- newring
theorem ringNew {prog : Program} {w : World} {p : Program} {loose : List Str} {mg mb : Str → Option Value}
    {dp un : Nat} {fr : Option (List Env)} {gd : Option (List Code)} {h₀ : Heap} {s : Shared} {Q E : Value → Shared → Prop} {n : Nat} {q : Int} {tq tn : Tok}
    (hsub : Grow h₀ s.heap) (KX : (heapK w.params).In h₀) (T : TopRead p loose mg mb h₀)
    (hd : dp + 4 < recursionLimit)
    (ret : ∀ s' r, Grow s.heap s'.heap → Same s s' → RingOn w (Fresh s.heap s'.heap) r q n → Q (.ref r) s') :
    wpAny (model prog w) (Ar dp fr gd un) (call (.ref 59) [.int q tq, .int (n : Int) tn]) Q E s := by
  have KS := KX.keeps hsub
  k_dflt (refine' wpAny_call (newK ?kn1 ?kn2 ?kn3 ?kn4 ?_); (case kn1 => exact KS); (case kn2 => k_is); (case kn3 => k_is); (case kn4 => k_is))
  intro x dx h' G hx hdx hne
  have hne2 : @Ne Nat dx x := hne
  have hsub' : Grow h₀ h' := hsub.trans G
  have hh0 : ∀ b o, Fresh s.heap h' b o → h₀.get? b = none := fun b o f => by
    cases e : h₀.get? b with
    | none => rfl
    | some o' => have := hsub _ _ e; rw [f.2] at this; cases this
  k_dflt (refine' enterH [(x, instObj 59 dx), (dx, dictOf [] 0)] ?k1 ?k3 ?k5 (fun p hp => ?_) ?k6 ?k7 ?k8 ?k9 ?kB ?_ ?c2 ?c3 ?c4 ?c5)
  tb_start
  · rcases List.mem_cons.mp hp with rfl | hp
    · exact ⟨hx.1, hh0 _ _ hx⟩
    · rw [List.mem_singleton.mp hp]; exact ⟨hdx.1, hh0 _ _ hdx⟩
  intro g L' h₁ G1 G2 G3 G4 G5 KG TG F N
  dsimp only [List.map_cons, List.map_nil] at G3
  have up : ∀ a o, HeapIs s.heap a o → HeapIs g a o := fun a o e => G3 a o (G a o e) fun hm => by
    rcases List.mem_cons.mp hm with e' | hm
    · have e3 : a = x := e'
      have e2 := hx.2; rw [← e3, e] at e2; cases e2
    · have e3 : a = dx := List.mem_singleton.mp hm
      have e2 := hdx.2; rw [← e3, e] at e2; cases e2
  one_place
  rename Fr _ _ _ _ => F4
  rename News _ _ _ _ => N4
  exact ⟨rfl, ret _ x (fun a o e => F4.keep a o (up a o e)) ((Same.put s _ _).trans (Same.put _ _ _)) ⟨dx, _, _, _, _, ⟨(N4 _ List.mem_cons_self).1, hx.2⟩, ⟨(N4 _ (List.mem_cons_of_mem _ List.mem_cons_self)).1, hdx.2⟩⟩⟩
theorem ring_tl {w : World} {h h' : Heap} {r : Addr} {q : Int} {n : Nat} (y : RingOn w (Fresh h h') r q n) : ∃ tl, (∀ p ∈ tl, Fresh h h' p.1 p.2) ∧ RingOn w (InLed tl) r q n := by
  obtain ⟨dr, tq, tn, tqv, tnv, h1, h2⟩ := y
  refine ⟨[(r, instObj 59 dr), (dr, dictOf [⟨PyData.keyHash w.params "q", .str "q" tq, .int q tqv⟩, ⟨PyData.keyHash w.params "n", .str "n" tn, .int (n : Int) tnv⟩] 2)], ?_, dr, tq, tn, tqv, tnv, List.mem_cons_self, List.mem_cons_of_mem _ List.mem_cons_self⟩
  intro p hp
  simp only [List.mem_cons, List.not_mem_nil, or_false] at hp
  rcases hp with rfl | rfl
  · exact h1
  · exact h2

-- spec
def lawV (ns : List Int) (n o : Nat) : List Int := (List.range n).map fun u => atOf ns (o + u)
def cofOf (n : Nat) (tb : List (List Int)) : List Int := (List.range n).map fun c => (-1) ^ c * detOf (n - 1) (minorOf tb c)
def dotOf (n : Nat) (a b : List Int) : Int := preSum (fun c => a.getD c 0 * b.getD c 0) n
def toldOf (q : Int) (n : Nat) (tb : List (List Int)) (y : List Int) : List Int := (List.range n).map fun r => dotOf n (tb.getD r []) y % q
def wholeOf (q : Int) (n : Nat) (x : List Int) : List Int := (List.range n).foldl (fun w s => schoolOf q n w (turnedOf x (2 * s + 1))) (oneOf n)
def detX (n : Nat) (x : List Int) : Int := dotOf n ((tableOf x).getD 0 []) (cofOf n (tableOf x))
def noughts (n : Nat) : List Int := List.replicate (n - 1) 0
structure LawOk (q : Int) (n e : Nat) (x y : List Int) : Prop where
  told : schoolOf q n y x = toldOf q n (tableOf x) y
  alone : schoolOf q n x (cofOf n (tableOf x)) = detX n x % q :: noughts n
  back : schoolOf q n (schoolOf q n y x) (cofOf n (tableOf x)) = y.map fun c => detX n x * c % q
  dets : detOf n (tableOf (schoolOf q n y x)) % q = detX n x * detOf n (tableOf y) % q
  whole : n ≠ 3 → wholeOf q n x = detX n x % q :: noughts n
  part1 : ∀ part, 0 ≤ part → part < q → q ∣ part * detX n x - 1 → schoolOf q n x ((cofOf n (tableOf x)).map fun c => c * part % q) = 1 :: noughts n
  part2 : ∀ part, 0 ≤ part → part < q → q ∣ part * detX n x - 1 → schoolOf q n (schoolOf q n y x) ((cofOf n (tableOf x)).map fun c => c * part % q) = y.map fun c => c % q
  part3 : ∀ part, 0 ≤ part → part < q → q ∣ part * detX n x - 1 → schoolOf q n (powOf q n x e) (powOf q n ((cofOf n (tableOf x)).map fun c => c * part % q) e) = 1 :: noughts n
  part4 : ∀ part, 0 ≤ part → part < q → q ∣ part * detX n x - 1 → schoolOf q n (powOf q n x (e + 1)) (powOf q n ((cofOf n (tableOf x)).map fun c => c * part % q) e) = x.map fun c => c % q

/-- the things behind the nine first ones of a ledger lie apart from these -/
def OffAll (cs : List Addr) (rest : List (Addr × Obj)) : Prop := ∀ p ∈ rest, ∀ c ∈ cs, p.1 ≠ c
theorem OffAll.nil {cs : List Addr} : OffAll cs [] := fun _ h => nomatch h
theorem OffAll.get {cs : List Addr} {rest : List (Addr × Obj)} {c : Addr} (h : OffAll cs rest) (hc : c ∈ cs) : ∀ p ∈ rest, p.1 ≠ c := fun p hp => h p hp c hc
section
variable {g h h' : Heap} {L : Addr} {m : Str → Option Value} {l rest tl tl2 : List (Addr × Obj)} {d : Addr × Obj}
theorem gl_perm {l l' : List (Addr × Obj)} (N : News g L h l) (s : ∀ p ∈ l', p ∈ l) : News g L h l' := fun p hp => N p (s p hp)
theorem gl_tl (F : Fr g L h m) (N : News g L h (l ++ rest)) (G : Grow h h') (f : ∀ p ∈ tl, Fresh h h' p.1 p.2) (OO : OffAll (l.map Prod.fst) rest) :
    News g L h' (l ++ (tl ++ rest)) ∧ OffAll (l.map Prod.fst) (tl ++ rest) := by
  have up : ∀ p ∈ l ++ rest, h'.get? p.1 = some p.2 ∧ p.1 ≠ L ∧ g.get? p.1 = none := fun p hp => ⟨G _ _ (N p hp).1, (N p hp).2⟩
  refine ⟨fun p hp => ?_, fun p hp c hc => ?_⟩
  · rcases List.mem_append.mp hp with hp | hp
    · exact up p (List.mem_append_left _ hp)
    · rcases List.mem_append.mp hp with hp | hp
      · exact ⟨(f p hp).1, fresh_ne F (f p hp), (fresh_sub (f p hp) F.keep).2⟩
      · exact up p (List.mem_append_right _ hp)
  · rcases List.mem_append.mp hp with hp | hp
    · intro e
      obtain ⟨q, hq, rfl⟩ := List.mem_map.mp hc
      have e2 := (f p hp).2
      rw [e, (N q (List.mem_append_left _ hq)).1] at e2
      cases e2
    · exact OO p hp c hc
theorem gl_one (N : News g L h (d :: (l ++ rest))) (o : ∀ p ∈ l ++ rest, p.1 ≠ d.1) (OO : OffAll (l.map Prod.fst) rest) : News g L h (l ++ d :: rest) ∧ OffAll (l.map Prod.fst) (d :: rest) := by
  refine ⟨fun p hp => N p ?_, fun p hp c hc => ?_⟩
  · rcases List.mem_append.mp hp with hp | hp
    · exact List.mem_cons_of_mem _ (List.mem_append_left _ hp)
    · rcases List.mem_cons.mp hp with rfl | hp
      · exact List.mem_cons_self
      · exact List.mem_cons_of_mem _ (List.mem_append_right _ hp)
  · rcases List.mem_cons.mp hp with rfl | hp
    · obtain ⟨q, hq, rfl⟩ := List.mem_map.mp hc
      exact Ne.symm (o q (List.mem_append_left _ hq))
    · exact OO p hp c hc
theorem gl_both (F : Fr g L h m) (N : News g L h (l ++ rest)) (G : Grow h h') (f : ∀ p ∈ tl, Fresh h h' p.1 p.2) (f2 : ∀ p ∈ tl2, Fresh h h' p.1 p.2) (OO : OffAll (l.map Prod.fst) rest) :
    News g L h' (l ++ (tl ++ (rest ++ tl2))) ∧ OffAll (l.map Prod.fst) (tl ++ (rest ++ tl2)) := by
  obtain ⟨N', O'⟩ := gl_tl (tl := tl ++ tl2) F N G (fun p hp => (List.mem_append.mp hp).elim (f p) (f2 p)) OO
  have s : ∀ p ∈ tl ++ (rest ++ tl2), p ∈ (tl ++ tl2) ++ rest := fun p hp => by
    simp only [List.mem_append] at hp ⊢
    rcases hp with e | e | e <;> simp [e]
  exact ⟨fun p hp => N' p ((List.mem_append.mp hp).elim (List.mem_append_left _) fun h => List.mem_append_right _ (s p h)), fun p hp => O' p (s p hp)⟩
theorem gl_last {P : Addr × Obj} (N : News g L h (l ++ P :: rest)) : News g L h (P :: (l ++ rest)) := fun p hp => N p (by
  rcases List.mem_cons.mp hp with rfl | hp
  · exact List.mem_append_right _ List.mem_cons_self
  · exact (List.mem_append.mp hp).elim (List.mem_append_left _) fun h => List.mem_append_right _ (List.mem_cons_of_mem _ h))
theorem gl_first {P : Addr × Obj} (N : News g L h (P :: (l ++ rest))) : News g L h (l ++ P :: rest) := fun p hp => N p (by
  rcases List.mem_append.mp hp with hp | hp
  · exact List.mem_cons_of_mem _ (List.mem_append_left _ hp)
  · rcases List.mem_cons.mp hp with rfl | hp
    · exact List.mem_cons_self
    · exact List.mem_cons_of_mem _ (List.mem_append_right _ hp))
end
section
variable {g h h' : Heap} {L : Addr} {m : Str → Option Value} {a1 a2 a3 a4 a5 a6 a7 a8 a9 d : Addr × Obj} {rest tl : List (Addr × Obj)}
theorem lw_tl (F : Fr g L h m) (N : News g L h (a1 :: a2 :: a3 :: a4 :: a5 :: a6 :: a7 :: a8 :: a9 :: rest)) (G : Grow h h') (f : ∀ p ∈ tl, Fresh h h' p.1 p.2) (OO : OffAll [a1.1, a2.1, a3.1, a4.1, a5.1, a6.1, a7.1, a8.1, a9.1] rest) :
    News g L h' (a1 :: a2 :: a3 :: a4 :: a5 :: a6 :: a7 :: a8 :: a9 :: (tl ++ rest)) ∧ OffAll [a1.1, a2.1, a3.1, a4.1, a5.1, a6.1, a7.1, a8.1, a9.1] (tl ++ rest) :=
  gl_tl (l := [a1, a2, a3, a4, a5, a6, a7, a8, a9]) F N G f OO
theorem lw_one (N : News g L h (d :: a1 :: a2 :: a3 :: a4 :: a5 :: a6 :: a7 :: a8 :: a9 :: rest)) (o : ∀ p ∈ (a1 :: a2 :: a3 :: a4 :: a5 :: a6 :: a7 :: a8 :: a9 :: rest), p.1 ≠ d.1) (OO : OffAll [a1.1, a2.1, a3.1, a4.1, a5.1, a6.1, a7.1, a8.1, a9.1] rest) :
    News g L h (a1 :: a2 :: a3 :: a4 :: a5 :: a6 :: a7 :: a8 :: a9 :: d :: rest) ∧ OffAll [a1.1, a2.1, a3.1, a4.1, a5.1, a6.1, a7.1, a8.1, a9.1] (d :: rest) :=
  gl_one (l := [a1, a2, a3, a4, a5, a6, a7, a8, a9]) N o OO
theorem fresh2 {h h' : Heap} {a b : Addr × Obj} (ha : Fresh h h' a.1 a.2) (hb : Fresh h h' b.1 b.2) : ∀ p ∈ [a, b], Fresh h h' p.1 p.2 := fun p hp => by
  simp only [List.mem_cons, List.not_mem_nil, or_false] at hp
  rcases hp with rfl | rfl
  · exact ha
  · exact hb
end
theorem led_is {g h : Heap} {L a : Addr} {o : Obj} {led : List (Addr × Obj)} (N : News g L h led) (hm : (a, o) ∈ led) : HeapIs h a o := (N _ hm).1
theorem lw_both {g h h' : Heap} {L : Addr} {m : Str → Option Value} {a1 a2 a3 a4 a5 a6 a7 a8 a9 : Addr × Obj} {rest tl tl2 : List (Addr × Obj)} (F : Fr g L h m) (N : News g L h (a1 :: a2 :: a3 :: a4 :: a5 :: a6 :: a7 :: a8 :: a9 :: rest)) (G : Grow h h') (f : ∀ p ∈ tl, Fresh h h' p.1 p.2) (f2 : ∀ p ∈ tl2, Fresh h h' p.1 p.2) (OO : OffAll [a1.1, a2.1, a3.1, a4.1, a5.1, a6.1, a7.1, a8.1, a9.1] rest) :
    News g L h' (a1 :: a2 :: a3 :: a4 :: a5 :: a6 :: a7 :: a8 :: a9 :: (tl ++ (rest ++ tl2))) ∧ OffAll [a1.1, a2.1, a3.1, a4.1, a5.1, a6.1, a7.1, a8.1, a9.1] (tl ++ (rest ++ tl2)) :=
  gl_both (l := [a1, a2, a3, a4, a5, a6, a7, a8, a9]) F N G f f2 OO
theorem fresh1 {h h' : Heap} {a : Addr × Obj} (ha : Fresh h h' a.1 a.2) : ∀ p ∈ [a], Fresh h h' p.1 p.2 := fun p hp => by
  rw [List.mem_singleton.mp hp]; exact ha
theorem Bd.zero {k : Nat} : Bd k 0 := Nat.pow_pos (by decide)
theorem Bd.getD {k : Nat} {x : List Int} (h : ∀ z ∈ x, Bd k z) (i : Nat) : Bd k (x.getD i 0) := by
  rw [List.getD_eq_getElem?_getD]
  cases e : x[i]? with
  | none => exact Bd.zero
  | some z => exact h z (List.mem_of_getElem? e)
theorem Bd.neg {k : Nat} {z : Int} (h : Bd k z) : Bd k (0 - z) := by
  unfold Bd at *
  rw [Int.zero_sub, Int.natAbs_neg]; exact h
theorem tableOf_sq {k : Nat} {x : List Int} (h : ∀ z ∈ x, Bd k z) : Sq k x.length (tableOf x) := by
  refine ⟨by simp [tableOf], fun r hr => ?_⟩
  unfold tableOf at hr
  obtain ⟨i, _, rfl⟩ := List.mem_map.mp hr
  refine ⟨by simp [rowOf], fun z hz => ?_⟩
  unfold rowOf at hz
  obtain ⟨k', _, rfl⟩ := List.mem_map.mp hz
  by_cases hc : k' ≤ i
  · rw [if_pos hc]; exact Bd.getD h _
  · rw [if_neg hc]; exact (Bd.getD h _).neg
theorem cofOf_length (n : Nat) (tb : List (List Int)) : (cofOf n tb).length = n := by simp [cofOf]
theorem cofOf_bd {k n : Nat} {tb : List (List Int)} (hn : n ≤ 4) (h : Sq k n tb) : ∀ z ∈ cofOf n tb, Bd ((n - 1) * (k + 3) + 2) z := by
  intro z hz
  unfold cofOf at hz
  obtain ⟨c, hc, rfl⟩ := List.mem_map.mp hz
  have hc := List.mem_range.mp hc
  obtain ⟨m, rfl⟩ : ∃ m, n = m + 1 := ⟨n - 1, by omega⟩
  have b1 : Bd 1 ((-1 : Int) ^ c) := by unfold Bd; rw [natAbs_sign]; decide
  have b2 := detOf_bd (by omega : m ≤ 4) (h.minor hc)
  exact (b1.mul b2).mono (by simp; omega)
theorem lw_gen {g h : Heap} {L : Addr} {a1 a2 a3 a4 a5 a6 a7 a8 a9 : Addr × Obj} {rest : List (Addr × Obj)} (N : News g L h (a1 :: a2 :: a3 :: a4 :: a5 :: a6 :: a7 :: a8 :: a9 :: rest)) : News g L h (a9 :: a1 :: a2 :: a3 :: a4 :: a5 :: a6 :: a7 :: a8 :: rest) :=
  gl_last (l := [a1, a2, a3, a4, a5, a6, a7, a8]) N
theorem lw_ungen {g h : Heap} {L : Addr} {a1 a2 a3 a4 a5 a6 a7 a8 a9 : Addr × Obj} {rest : List (Addr × Obj)} (N : News g L h (a9 :: a1 :: a2 :: a3 :: a4 :: a5 :: a6 :: a7 :: a8 :: rest)) : News g L h (a1 :: a2 :: a3 :: a4 :: a5 :: a6 :: a7 :: a8 :: a9 :: rest) :=
  gl_first (l := [a1, a2, a3, a4, a5, a6, a7, a8]) N
theorem sub_heap {prog : Program} {w : World} {A : Around} {E : Value → Shared → Prop} {s : Shared} {l : Addr} {na : Nat} {vs : List Value} {ns : List Int} {k : Int} {u : Tok} {Q : Value → Shared → Prop} {value slice : PySem.Expr} (hl : HeapIs s.heap l (listOf vs.toArray na)) (hi : IntsAre vs ns) (h0 : 0 ≤ k) (h1 : k < ns.length) (hfit : k < 2 ^ 63) (h : ∀ t, Q (.int (ns.getD k.toNat 0) t) s)
    (hs : subscripted slice false (.ref l) (.int k u) = operate [.ref l, .int k u] (getItem (.ref l) (.int k u)) := by with_unfolding_all rfl) :
    wpAny (model prog w) A (subscriptTail value slice (.ref l) (.int k u)) Q E s :=
  item_list_intsT ⟨_, hl, rfl, na, rfl⟩ hi h0 h1 hfit h hs
theorem rows_row {φ : Addr → Obj → Prop} {vs : List Value} {rows : List (List Int)} (h : RowsAre φ vs rows) {i : Nat} (hi : i < rows.length) : ∃ a us na, vs[i]? = some (.ref a) ∧ φ a (listOf (List.toArray us) na) ∧ IntsAre us (rows.getD i []) := by
  have e : rows[i]? = some (rows.getD i []) := by rw [List.getD_eq_getElem?_getD, List.getElem?_eq_getElem hi]; rfl
  exact h.get e
theorem row_len {k n : Nat} {rows : List (List Int)} (h : Sq k n rows) {i : Nat} (hi : i < n) : (rows.getD i []).length = n ∧ ∀ z ∈ rows.getD i [], Bd k z := by
  have hi' : i < rows.length := by rw [h.1]; exact hi
  have e : rows[i]? = some (rows.getD i []) := by rw [List.getD_eq_getElem?_getD, List.getElem?_eq_getElem hi']; rfl
  exact h.2 _ (List.mem_of_getElem? e)

section
variable {g h h' : Heap} {L : Addr} {m : Str → Option Value} {a1 a2 a3 a4 a5 a6 a7 a8 a9 d : Addr × Obj} {rest tl : List (Addr × Obj)}
/-- the things behind the nine first ones, hidden: what is said of them is kept -/
theorem lw_hide (φ : List (Addr × Obj) → Prop) (N : News g L h (a1 :: a2 :: a3 :: a4 :: a5 :: a6 :: a7 :: a8 :: a9 :: rest)) (OO : OffAll [a1.1, a2.1, a3.1, a4.1, a5.1, a6.1, a7.1, a8.1, a9.1] rest) (hφ : φ rest) :
    ∃ R, News g L h (a1 :: a2 :: a3 :: a4 :: a5 :: a6 :: a7 :: a8 :: a9 :: R) ∧ OffAll [a1.1, a2.1, a3.1, a4.1, a5.1, a6.1, a7.1, a8.1, a9.1] R ∧ φ R := ⟨rest, N, OO, hφ⟩
/-- more things, hidden too -/
theorem lw_more (F : Fr g L h m) (N : News g L h (a1 :: a2 :: a3 :: a4 :: a5 :: a6 :: a7 :: a8 :: a9 :: rest)) (G : Grow h h') (f : ∀ p ∈ tl, Fresh h h' p.1 p.2) (OO : OffAll [a1.1, a2.1, a3.1, a4.1, a5.1, a6.1, a7.1, a8.1, a9.1] rest) :
    ∃ R, News g L h' (a1 :: a2 :: a3 :: a4 :: a5 :: a6 :: a7 :: a8 :: a9 :: R) ∧ OffAll [a1.1, a2.1, a3.1, a4.1, a5.1, a6.1, a7.1, a8.1, a9.1] R ∧ (∀ p ∈ rest, p ∈ R) ∧ ∀ p ∈ tl, p ∈ R :=
  have x := lw_tl F N G f OO
  ⟨tl ++ rest, x.1, x.2, fun _ h => List.mem_append_right _ h, fun _ h => List.mem_append_left _ h⟩
/-- an object that the walk has put in front, hidden -/
theorem lw_front (N : News g L h (d :: a1 :: a2 :: a3 :: a4 :: a5 :: a6 :: a7 :: a8 :: a9 :: rest)) (o : ∀ p ∈ (a1 :: a2 :: a3 :: a4 :: a5 :: a6 :: a7 :: a8 :: a9 :: rest), p.1 ≠ d.1) (OO : OffAll [a1.1, a2.1, a3.1, a4.1, a5.1, a6.1, a7.1, a8.1, a9.1] rest) :
    ∃ R, News g L h (a1 :: a2 :: a3 :: a4 :: a5 :: a6 :: a7 :: a8 :: a9 :: R) ∧ OffAll [a1.1, a2.1, a3.1, a4.1, a5.1, a6.1, a7.1, a8.1, a9.1] R ∧ (∀ p ∈ rest, p ∈ R) ∧ d ∈ R :=
  have x := lw_one N o OO
  ⟨d :: rest, x.1, x.2, fun _ h => List.mem_cons_of_mem _ h, List.mem_cons_self⟩
end

-- math
-- explicit forms
theorem raw1 (a e : Int) : schoolRaw [a] [e] 1 = [a*e] := by
  simp [schoolRaw, rowOut, rowIn, addAt, List.range, List.range.loop]
theorem raw2 (a b e f : Int) : schoolRaw [a,b] [e,f] 2 = [a*e - b*f, a*f + b*e] := by
  simp [schoolRaw, rowOut, rowIn, backOut, backIn, addAt, List.range, List.range.loop]
  grind
theorem raw3 (a b c e f g : Int) : schoolRaw [a,b,c] [e,f,g] 3 = [a*e - b*g - c*f, a*f + b*e - c*g, a*g + b*f + c*e] := by
  simp [schoolRaw, rowOut, rowIn, backOut, backIn, addAt, List.range, List.range.loop]
  grind
theorem raw4 (a b c d e f g h : Int) : schoolRaw [a,b,c,d] [e,f,g,h] 4 = [a*e - b*h - c*g - d*f, a*f + b*e - c*h - d*g, a*g + b*f + c*e - d*h, a*h+b*g+c*f+d*e] := by
  simp [schoolRaw, rowOut, rowIn, backOut, backIn, addAt, List.range, List.range.loop]
  grind
theorem tab1 (a : Int) : tableOf [a] = [[a]] := by
  simp [tableOf, rowOf, List.range, List.range.loop]
theorem tab2 (a b : Int) : tableOf [a,b] = [[a,-b],[b,a]] := by
  simp [tableOf, rowOf, List.range, List.range.loop]
theorem tab3 (a b c : Int) : tableOf [a,b,c] = [[a,-c,-b],[b,a,-c],[c,b,a]] := by
  simp [tableOf, rowOf, List.range, List.range.loop]
theorem tab4 (a b c d : Int) : tableOf [a,b,c,d] = [[a,-d,-c,-b],[b,a,-d,-c],[c,b,a,-d],[d,c,b,a]] := by
  simp [tableOf, rowOf, List.range, List.range.loop]
theorem cof1 (a : Int) : cofOf 1 (tableOf [a]) = [1] := by
  rw [tab1]; simp [cofOf, detOf, List.range, List.range.loop]
theorem cof2 (a b : Int) : cofOf 2 (tableOf [a,b]) = [a, -b] := by
  rw [tab2]; simp [cofOf, detOf, minorOf, List.range, List.range.loop]
theorem cof3 (a b c : Int) : cofOf 3 (tableOf [a,b,c]) = [a*a + b*c, -(a*b) - c*c, b*b - a*c] := by
  rw [tab3]; simp [cofOf, detOf, minorOf, List.range, List.range.loop]
  grind
theorem cof4 (a b c d : Int) : cofOf 4 (tableOf [a,b,c,d]) = [a * (a * a + d * b) + d * (b * a + d * c) - c * (b * b - a * c),
   -(b * (a * a + d * b) + d * (c * a + d * d) - c * (c * b -a * d)),
   b * (b * a + d * c) - a * (c * a + d * d) - c * (c * c - b * d),
   -(b * (b * b - a * c) - a * (c * b - a * d) - d * (c * c - b * d))] := by
  rw [tab4]
  simp [cofOf, detOf, minorOf, List.range, List.range.loop]
  grind
def P2 (a b : Int) : Int := a*a + b*b
def P3 (a b c : Int) : Int := a*a*a - b*b*b + c*c*c + 3*a*b*c
def U4 (a b c d : Int) : Int := a*a - c*c + 2*b*d
def V4 (a b c d : Int) : Int := 2*a*c - b*b + d*d
def P4 (a b c d : Int) : Int := U4 a b c d * U4 a b c d + V4 a b c d * V4 a b c d
theorem det1 (a : Int) : detX 1 [a] = a := by
  rw [detX, cof1, tab1]; simp [dotOf, preSum]
theorem det2 (a b : Int) : detX 2 [a,b] = P2 a b := by
  rw [detX, cof2, tab2]; simp [dotOf, preSum, P2]; grind
theorem det3 (a b c : Int) : detX 3 [a,b,c] = P3 a b c := by
  rw [detX, cof3, tab3]; simp [dotOf, preSum, P3]; grind
theorem det4 (a b c d : Int) : detX 4 [a,b,c,d] = P4 a b c d := by
  rw [detX, cof4, tab4]; simp [dotOf, preSum, P4, U4, V4]; grind
theorem fold_pre (f : Nat → Int) : ∀ n, (List.range n).foldl (fun t c => t + f c) 0 = preSum f n
  | 0 => rfl
  | n + 1 => by rw [List.range_succ, List.foldl_append, fold_pre f n]; rfl
theorem preSum_congr {f g : Nat → Int} : ∀ {n : Nat}, (∀ i, i < n → f i = g i) → preSum f n = preSum g n
  | 0, _ => rfl
  | n + 1, h => by
    show preSum f n + f n = preSum g n + g n
    rw [preSum_congr fun i hi => h i (by omega), h n (by omega)]
theorem detT (m : Nat) (x : List Int) : detOf (m + 1) (tableOf x) = detX (m + 1) x := by
  show (List.range (m + 1)).foldl (fun t c => t + (-1) ^ c * ((tableOf x).getD 0 []).getD c 0 * detOf m (minorOf (tableOf x) c)) 0 = _
  rw [fold_pre]
  unfold detX dotOf
  refine preSum_congr fun c hc => ?_
  have e : (cofOf (m + 1) (tableOf x)).getD c 0 = (-1) ^ c * detOf m (minorOf (tableOf x) c) := by
    unfold cofOf
    rw [List.getD_eq_getElem?_getD, List.getElem?_map, List.getElem?_range hc]
    rfl
  rw [e, Int.mul_comm ((-1) ^ c), Int.mul_assoc]
theorem detT1 (a : Int) : detOf 1 (tableOf [a]) = a := (detT 0 _).trans (det1 a)
theorem detT2 (a b : Int) : detOf 2 (tableOf [a,b]) = P2 a b := (detT 1 _).trans (det2 a b)
theorem detT3 (a b c : Int) : detOf 3 (tableOf [a,b,c]) = P3 a b c := (detT 2 _).trans (det3 a b c)
theorem detT4 (a b c d : Int) : detOf 4 (tableOf [a,b,c,d]) = P4 a b c d := (detT 3 _).trans (det4 a b c d)
-- lists of n, opened
theorem op1 {x : List Int} (h : x.length = 1) : ∃ a, x = [a] := List.length_eq_one_iff.mp h
theorem op2 {x : List Int} (h : x.length = 2) : ∃ a b, x = [a, b] := by
  cases x with
  | nil => cases h
  | cons a r => obtain ⟨b, rfl⟩ := op1 (x := r) (by simpa using h); exact ⟨a, b, rfl⟩
theorem op3 {x : List Int} (h : x.length = 3) : ∃ a b c, x = [a, b, c] := by
  cases x with
  | nil => cases h
  | cons a r => obtain ⟨b, c, rfl⟩ := op2 (x := r) (by simpa using h); exact ⟨a, b, c, rfl⟩
theorem op4 {x : List Int} (h : x.length = 4) : ∃ a b c d, x = [a, b, c, d] := by
  cases x with
  | nil => cases h
  | cons a r => obtain ⟨b, c, d, rfl⟩ := op3 (x := r) (by simpa using h); exact ⟨a, b, c, d, rfl⟩
theorem raw_len {n : Nat} {x y : List Int} (h1 : 1 ≤ n) (h2 : n ≤ 4) (hx : x.length = n) (hy : y.length = n) : (schoolRaw x y n).length = n := by
  obtain rfl | rfl | rfl | rfl : n = 1 ∨ n = 2 ∨ n = 3 ∨ n = 4 := by omega
  · obtain ⟨a, rfl⟩ := op1 hx; obtain ⟨a', rfl⟩ := op1 hy; rw [raw1]; rfl
  · obtain ⟨a, b, rfl⟩ := op2 hx; obtain ⟨a', b', rfl⟩ := op2 hy; rw [raw2]; rfl
  · obtain ⟨a, b, c, rfl⟩ := op3 hx; obtain ⟨a', b', c', rfl⟩ := op3 hy; rw [raw3]; rfl
  · obtain ⟨a, b, c, d, rfl⟩ := op4 hx; obtain ⟨a', b', c', d', rfl⟩ := op4 hy; rw [raw4]; rfl
theorem raw_comm {n : Nat} {x y : List Int} (h1 : 1 ≤ n) (h2 : n ≤ 4) (hx : x.length = n) (hy : y.length = n) : schoolRaw x y n = schoolRaw y x n := by
  obtain rfl | rfl | rfl | rfl : n = 1 ∨ n = 2 ∨ n = 3 ∨ n = 4 := by omega
  · obtain ⟨a, rfl⟩ := op1 hx; obtain ⟨a', rfl⟩ := op1 hy; rw [raw1, raw1]; grind
  · obtain ⟨a, b, rfl⟩ := op2 hx; obtain ⟨a', b', rfl⟩ := op2 hy; rw [raw2, raw2]; grind
  · obtain ⟨a, b, c, rfl⟩ := op3 hx; obtain ⟨a', b', c', rfl⟩ := op3 hy; rw [raw3, raw3]; grind
  · obtain ⟨a, b, c, d, rfl⟩ := op4 hx; obtain ⟨a', b', c', d', rfl⟩ := op4 hy; rw [raw4, raw4]; grind
theorem raw_assoc {n : Nat} {x y z : List Int} (h1 : 1 ≤ n) (h2 : n ≤ 4) (hx : x.length = n) (hy : y.length = n) (hz : z.length = n) : schoolRaw (schoolRaw x y n) z n = schoolRaw x (schoolRaw y z n) n := by
  obtain rfl | rfl | rfl | rfl : n = 1 ∨ n = 2 ∨ n = 3 ∨ n = 4 := by omega
  · obtain ⟨a, rfl⟩ := op1 hx; obtain ⟨a', rfl⟩ := op1 hy; obtain ⟨a2, rfl⟩ := op1 hz; rw [raw1, raw1, raw1, raw1]; grind
  · obtain ⟨a, b, rfl⟩ := op2 hx; obtain ⟨a', b', rfl⟩ := op2 hy; obtain ⟨a2, b2, rfl⟩ := op2 hz; rw [raw2, raw2, raw2, raw2]; grind
  · obtain ⟨a, b, c, rfl⟩ := op3 hx; obtain ⟨a', b', c', rfl⟩ := op3 hy; obtain ⟨a2, b2, c2, rfl⟩ := op3 hz; rw [raw3, raw3, raw3, raw3]; grind
  · obtain ⟨a, b, c, d, rfl⟩ := op4 hx; obtain ⟨a', b', c', d', rfl⟩ := op4 hy; obtain ⟨a2, b2, c2, d2, rfl⟩ := op4 hz; rw [raw4, raw4, raw4, raw4]; grind
theorem raw_const {n : Nat} {x : List Int} (k : Int) (h1 : 1 ≤ n) (h2 : n ≤ 4) (hx : x.length = n) : schoolRaw x (k :: noughts n) n = x.map (fun c => c * k) := by
  obtain rfl | rfl | rfl | rfl : n = 1 ∨ n = 2 ∨ n = 3 ∨ n = 4 := by omega
  · obtain ⟨a, rfl⟩ := op1 hx; rw [show k :: noughts 1 = [k] from rfl, raw1]; rfl
  · obtain ⟨a, b, rfl⟩ := op2 hx; rw [show k :: noughts 2 = [k, 0] from rfl, raw2]; simp
  · obtain ⟨a, b, c, rfl⟩ := op3 hx; rw [show k :: noughts 3 = [k, 0, 0] from rfl, raw3]; simp
  · obtain ⟨a, b, c, d, rfl⟩ := op4 hx; rw [show k :: noughts 4 = [k, 0, 0, 0] from rfl, raw4]; simp
theorem raw_adj {n : Nat} {x : List Int} (h1 : 1 ≤ n) (h2 : n ≤ 4) (hx : x.length = n) : schoolRaw x (cofOf n (tableOf x)) n = detX n x :: noughts n := by
  obtain rfl | rfl | rfl | rfl : n = 1 ∨ n = 2 ∨ n = 3 ∨ n = 4 := by omega
  · obtain ⟨a, rfl⟩ := op1 hx; rw [cof1, det1, raw1]; simp [noughts]
  · obtain ⟨a, b, rfl⟩ := op2 hx; rw [cof2, det2, raw2]; simp [noughts, P2]; grind
  · obtain ⟨a, b, c, rfl⟩ := op3 hx; rw [cof3, det3, raw3]; simp [noughts, P3]; grind
  · obtain ⟨a, b, c, d, rfl⟩ := op4 hx; rw [cof4, det4, raw4]; simp [noughts, P4, U4, V4]; grind
theorem raw_told {n : Nat} {x y : List Int} (h1 : 1 ≤ n) (h2 : n ≤ 4) (hx : x.length = n) (hy : y.length = n) : schoolRaw y x n = (List.range n).map fun r => dotOf n ((tableOf x).getD r []) y := by
  obtain rfl | rfl | rfl | rfl : n = 1 ∨ n = 2 ∨ n = 3 ∨ n = 4 := by omega
  · obtain ⟨a, rfl⟩ := op1 hx; obtain ⟨e, rfl⟩ := op1 hy; rw [raw1, tab1]
    show [_] = [0 + a * e]
    grind
  · obtain ⟨a, b, rfl⟩ := op2 hx; obtain ⟨e, f, rfl⟩ := op2 hy; rw [raw2, tab2]
    show [_, _] = [0 + a * e + -b * f, 0 + b * e + a * f]
    grind
  · obtain ⟨a, b, c, rfl⟩ := op3 hx; obtain ⟨e, f, g, rfl⟩ := op3 hy; rw [raw3, tab3]
    show [_, _, _] = [0 + a * e + -c * f + -b * g, 0 + b * e + a * f + -c * g, 0 + c * e + b * f + a * g]
    grind
  · obtain ⟨a, b, c, d, rfl⟩ := op4 hx; obtain ⟨e, f, g, h, rfl⟩ := op4 hy; rw [raw4, tab4]
    show [_, _, _, _] = [0 + a * e + -d * f + -c * g + -b * h, 0 + b * e + a * f + -d * g + -c * h, 0 + c * e + b * f + a * g + -d * h, 0 + d * e + c * f + b * g + a * h]
    grind
theorem uv4 (a b c d e f g h : Int) : U4 (a*e - b*h - c*g - d*f) (a*f + b*e - c*h - d*g) (a*g + b*f + c*e - d*h) (a*h+b*g+c*f+d*e) = U4 a b c d * U4 e f g h - V4 a b c d * V4 e f g h ∧
    V4 (a*e - b*h - c*g - d*f) (a*f + b*e - c*h - d*g) (a*g + b*f + c*e - d*h) (a*h+b*g+c*f+d*e) = U4 a b c d * V4 e f g h + V4 a b c d * U4 e f g h := by
  constructor
  · simp only [U4, V4]; grind
  · simp only [U4, V4]; grind
theorem det_mul {n : Nat} {x y : List Int} (h1 : 1 ≤ n) (h2 : n ≤ 4) (hx : x.length = n) (hy : y.length = n) : detOf n (tableOf (schoolRaw y x n)) = detX n x * detOf n (tableOf y) := by
  obtain rfl | rfl | rfl | rfl : n = 1 ∨ n = 2 ∨ n = 3 ∨ n = 4 := by omega
  · obtain ⟨a, rfl⟩ := op1 hx; obtain ⟨a', rfl⟩ := op1 hy; rw [raw1, detT1, detT1, det1]; grind
  · obtain ⟨a, b, rfl⟩ := op2 hx; obtain ⟨a', b', rfl⟩ := op2 hy; rw [raw2, detT2, detT2, det2]; simp only [P2]; grind
  · obtain ⟨a, b, c, rfl⟩ := op3 hx; obtain ⟨a', b', c', rfl⟩ := op3 hy; rw [raw3, detT3, detT3, det3]; simp only [P3]; grind
  · obtain ⟨a, b, c, d, rfl⟩ := op4 hx; obtain ⟨a', b', c', d', rfl⟩ := op4 hy; rw [raw4, detT4, detT4, det4]; simp only [P4, uv4]; grind

/-- lists of one length, alike modulo q -/
inductive Mq (q : Int) : List Int → List Int → Prop where
  | nil : Mq q [] []
  | cons {a b : Int} {x y : List Int} : q ∣ a - b → Mq q x y → Mq q (a :: x) (b :: y)
theorem Mq.refl {q : Int} : ∀ x, Mq q x x
  | [] => .nil
  | a :: x => .cons (by simp) (Mq.refl x)
theorem Mq.symm {q : Int} : ∀ {x y}, Mq q x y → Mq q y x
  | _, _, .nil => .nil
  | _, _, .cons h r => .cons (by rw [← Int.neg_sub]; exact Int.dvd_neg.mpr h) r.symm
theorem Mq.trans {q : Int} : ∀ {x y z}, Mq q x y → Mq q y z → Mq q x z
  | _, _, _, .nil, .nil => .nil
  | _, _, _, .cons h r, .cons h' r' => .cons (by have h2 := Int.dvd_add h h'; rwa [show ∀ a b c : Int, a - b + (b - c) = a - c from fun a b c => by omega] at h2) (r.trans r')
theorem Mq.length {q : Int} : ∀ {x y}, Mq q x y → x.length = y.length
  | _, _, .nil => rfl
  | _, _, .cons _ r => by rw [List.length_cons, List.length_cons, r.length]
theorem Mq.mod {q : Int} : ∀ {x y}, Mq q x y → (x.map fun c => c % q) = y.map fun c => c % q
  | _, _, .nil => rfl
  | _, _, .cons h r => by rw [List.map_cons, List.map_cons, r.mod, Int.emod_emod_of_dvd_sub h]
  where Int.emod_emod_of_dvd_sub {q a b : Int} (h : q ∣ a - b) : a % q = b % q := (Int.emod_eq_emod_iff_emod_sub_eq_zero).mpr (Int.emod_eq_zero_of_dvd h)
theorem emod_of_dvd {q a b : Int} (h : q ∣ a - b) : a % q = b % q := (Int.emod_eq_emod_iff_emod_sub_eq_zero).mpr (Int.emod_eq_zero_of_dvd h)
theorem dvd_emod (q a : Int) : q ∣ a % q - a := ⟨-(a / q), by have := Int.mul_ediv_add_emod a q; rw [Int.mul_neg]; omega⟩
theorem Mq.of_mod {q : Int} : ∀ x : List Int, Mq q (x.map fun c => c % q) x
  | [] => .nil
  | a :: x => .cons (dvd_emod q a) (Mq.of_mod x)
theorem dv_mul {q a b c d : Int} (h : q ∣ a - b) (h' : q ∣ c - d) : q ∣ a * c - b * d := by
  have e : a * c - b * d = (a - b) * c + b * (c - d) := by grind
  rw [e]
  exact Int.dvd_add (Int.dvd_trans h (Int.dvd_mul_right _ _)) (Int.dvd_trans h' (Int.dvd_mul_left _ _))
theorem dv_add {q a b c d : Int} (h : q ∣ a - b) (h' : q ∣ c - d) : q ∣ (a + c) - (b + d) := by
  have e : (a + c) - (b + d) = (a - b) + (c - d) := by omega
  rw [e]; exact Int.dvd_add h h'
theorem dv_sub {q a b c d : Int} (h : q ∣ a - b) (h' : q ∣ c - d) : q ∣ (a - c) - (b - d) := by
  have e : (a - c) - (b - d) = (a - b) - (c - d) := by omega
  rw [e]; exact Int.dvd_sub h h'
theorem dv_refl (q a : Int) : q ∣ a - a := by simp
theorem Mq.op1 {q a : Int} {y : List Int} (h : Mq q [a] y) : ∃ b, y = [b] ∧ q ∣ a - b := by
  cases h with
  | cons h r => cases r; exact ⟨_, rfl, h⟩
theorem Mq.op2 {q a b : Int} {y : List Int} (h : Mq q [a, b] y) : ∃ a' b', y = [a', b'] ∧ q ∣ a - a' ∧ q ∣ b - b' := by
  cases h with
  | cons h r => obtain ⟨b', rfl, h2⟩ := r.op1; exact ⟨_, _, rfl, h, h2⟩
theorem Mq.op3 {q a b c : Int} {y : List Int} (h : Mq q [a, b, c] y) : ∃ a' b' c', y = [a', b', c'] ∧ q ∣ a - a' ∧ q ∣ b - b' ∧ q ∣ c - c' := by
  cases h with
  | cons h r => obtain ⟨b', c', rfl, h2⟩ := r.op2; exact ⟨_, _, _, rfl, h, h2⟩
theorem Mq.op4 {q a b c d : Int} {y : List Int} (h : Mq q [a, b, c, d] y) : ∃ a' b' c' d', y = [a', b', c', d'] ∧ q ∣ a - a' ∧ q ∣ b - b' ∧ q ∣ c - c' ∧ q ∣ d - d' := by
  cases h with
  | cons h r => obtain ⟨b', c', d', rfl, h2⟩ := r.op3; exact ⟨_, _, _, _, rfl, h, h2⟩
theorem raw_congr {q : Int} {n : Nat} {x y x' y' : List Int} (h1 : 1 ≤ n) (h2 : n ≤ 4) (hx : x.length = n) (hy : y.length = n) (ex : Mq q x x') (ey : Mq q y y') : Mq q (schoolRaw x y n) (schoolRaw x' y' n) := by
  obtain rfl | rfl | rfl | rfl : n = 1 ∨ n = 2 ∨ n = 3 ∨ n = 4 := by omega
  · obtain ⟨a, rfl⟩ := Mine.op1 hx; obtain ⟨a', rfl⟩ := Mine.op1 hy; obtain ⟨b, rfl, e1⟩ := ex.op1; obtain ⟨b', rfl, e1'⟩ := ey.op1
    rw [raw1, raw1]
    exact .cons (dv_mul e1 e1') .nil
  · obtain ⟨a, b, rfl⟩ := Mine.op2 hx; obtain ⟨a', b', rfl⟩ := Mine.op2 hy; obtain ⟨c, d, rfl, e1, e2⟩ := ex.op2; obtain ⟨c', d', rfl, e1', e2'⟩ := ey.op2
    rw [raw2, raw2]
    exact .cons (dv_sub (dv_mul e1 e1') (dv_mul e2 e2')) (.cons (dv_add (dv_mul e1 e2') (dv_mul e2 e1')) .nil)
  · obtain ⟨a, b, c, rfl⟩ := Mine.op3 hx; obtain ⟨a', b', c', rfl⟩ := Mine.op3 hy; obtain ⟨d, e, f, rfl, e1, e2, e3⟩ := ex.op3; obtain ⟨d', e', f', rfl, e1', e2', e3'⟩ := ey.op3
    rw [raw3, raw3]
    exact .cons (dv_sub (dv_sub (dv_mul e1 e1') (dv_mul e2 e3')) (dv_mul e3 e2')) (.cons (dv_sub (dv_add (dv_mul e1 e2') (dv_mul e2 e1')) (dv_mul e3 e3')) (.cons (dv_add (dv_add (dv_mul e1 e3') (dv_mul e2 e2')) (dv_mul e3 e1')) .nil))
  · obtain ⟨a, b, c, d, rfl⟩ := Mine.op4 hx; obtain ⟨a', b', c', d', rfl⟩ := Mine.op4 hy; obtain ⟨e, f, g, h, rfl, e1, e2, e3, e4⟩ := ex.op4; obtain ⟨e', f', g', h', rfl, e1', e2', e3', e4'⟩ := ey.op4
    rw [raw4, raw4]
    exact .cons (dv_sub (dv_sub (dv_sub (dv_mul e1 e1') (dv_mul e2 e4')) (dv_mul e3 e3')) (dv_mul e4 e2'))
      (.cons (dv_sub (dv_sub (dv_add (dv_mul e1 e2') (dv_mul e2 e1')) (dv_mul e3 e4')) (dv_mul e4 e3'))
      (.cons (dv_sub (dv_add (dv_add (dv_mul e1 e3') (dv_mul e2 e2')) (dv_mul e3 e1')) (dv_mul e4 e4'))
      (.cons (dv_add (dv_add (dv_add (dv_mul e1 e4') (dv_mul e2 e3')) (dv_mul e3 e2')) (dv_mul e4 e1')) .nil)))
theorem det_congr {q : Int} {n : Nat} {x x' : List Int} (h1 : 1 ≤ n) (h2 : n ≤ 4) (hx : x.length = n) (ex : Mq q x x') : q ∣ detOf n (tableOf x) - detOf n (tableOf x') := by
  obtain rfl | rfl | rfl | rfl : n = 1 ∨ n = 2 ∨ n = 3 ∨ n = 4 := by omega
  · obtain ⟨a, rfl⟩ := Mine.op1 hx; obtain ⟨b, rfl, e1⟩ := ex.op1
    rw [detT1, detT1]; exact e1
  · obtain ⟨a, b, rfl⟩ := Mine.op2 hx; obtain ⟨c, d, rfl, e1, e2⟩ := ex.op2
    rw [detT2, detT2]; exact dv_add (dv_mul e1 e1) (dv_mul e2 e2)
  · obtain ⟨a, b, c, rfl⟩ := Mine.op3 hx; obtain ⟨d, e, f, rfl, e1, e2, e3⟩ := ex.op3
    rw [detT3, detT3]
    exact dv_add (dv_add (dv_sub (dv_mul (dv_mul e1 e1) e1) (dv_mul (dv_mul e2 e2) e2)) (dv_mul (dv_mul e3 e3) e3)) (dv_mul (dv_mul (dv_mul (dv_refl _ _) e1) e2) e3)
  · obtain ⟨a, b, c, d, rfl⟩ := Mine.op4 hx; obtain ⟨e, f, g, h, rfl, e1, e2, e3, e4⟩ := ex.op4
    rw [detT4, detT4]
    have hu : q ∣ U4 a b c d - U4 e f g h := dv_add (dv_sub (dv_mul e1 e1) (dv_mul e3 e3)) (dv_mul (dv_mul (dv_refl _ _) e2) e4)
    have hv : q ∣ V4 a b c d - V4 e f g h := dv_add (dv_sub (dv_mul (dv_mul (dv_refl _ _) e1) e3) (dv_mul e2 e2)) (dv_mul e4 e4)
    exact dv_add (dv_mul hu hu) (dv_mul hv hv)
theorem one_eq (n : Nat) : oneOf n = 1 :: noughts n := rfl
theorem one_len {n : Nat} (h1 : 1 ≤ n) : (oneOf n).length = n := by simp [oneOf]; omega
theorem const_len {n : Nat} (k : Int) (h1 : 1 ≤ n) : (k :: noughts n).length = n := by simp [noughts]; omega
theorem raw_one {n : Nat} {x : List Int} (h1 : 1 ≤ n) (h2 : n ≤ 4) (hx : x.length = n) : schoolRaw x (oneOf n) n = x := by
  rw [one_eq, raw_const 1 h1 h2 hx]; simp
theorem sch_len {q : Int} {n : Nat} {x y : List Int} (h1 : 1 ≤ n) (h2 : n ≤ 4) (hx : x.length = n) (hy : y.length = n) : (schoolOf q n x y).length = n := by
  rw [schoolOf, List.length_map, raw_len h1 h2 hx hy]
theorem sch_mq {q : Int} {n : Nat} (x y : List Int) : Mq q (schoolOf q n x y) (schoolRaw x y n) := Mq.of_mod _
theorem sch_congr {q : Int} {n : Nat} {x y x' y' : List Int} (h1 : 1 ≤ n) (h2 : n ≤ 4) (hx : x.length = n) (hy : y.length = n) (ex : Mq q x x') (ey : Mq q y y') : schoolOf q n x y = schoolOf q n x' y' := (raw_congr h1 h2 hx hy ex ey).mod
theorem const_mod {q : Int} (n : Nat) (k : Int) : ((k :: noughts n).map fun c => c % q) = k % q :: noughts n := by
  simp [noughts]
/-- powers, in whole numbers -/
def npow (n : Nat) (x : List Int) : Nat → List Int
  | 0 => oneOf n
  | e + 1 => schoolRaw (npow n x e) x n
theorem npow_len {n : Nat} {x : List Int} (h1 : 1 ≤ n) (h2 : n ≤ 4) (hx : x.length = n) : ∀ e, (npow n x e).length = n
  | 0 => one_len h1
  | e + 1 => raw_len h1 h2 (npow_len h1 h2 hx e) hx
theorem npow_congr {q : Int} {n : Nat} {x x' : List Int} (h1 : 1 ≤ n) (h2 : n ≤ 4) (hx : x.length = n) (ex : Mq q x x') : ∀ e, Mq q (npow n x e) (npow n x' e)
  | 0 => Mq.refl _
  | e + 1 => raw_congr h1 h2 (npow_len h1 h2 hx e) hx (npow_congr h1 h2 hx ex e) ex
theorem npow_add {n : Nat} {x : List Int} (h1 : 1 ≤ n) (h2 : n ≤ 4) (hx : x.length = n) (a : Nat) : ∀ b, npow n x (a + b) = schoolRaw (npow n x a) (npow n x b) n
  | 0 => (raw_one h1 h2 (npow_len h1 h2 hx a)).symm
  | b + 1 => by
    show schoolRaw (npow n x (a + b)) x n = schoolRaw (npow n x a) (schoolRaw (npow n x b) x n) n
    rw [npow_add h1 h2 hx a b, raw_assoc h1 h2 (npow_len h1 h2 hx a) (npow_len h1 h2 hx b) hx]
theorem npow_sq {n : Nat} {x : List Int} (h1 : 1 ≤ n) (h2 : n ≤ 4) (hx : x.length = n) : ∀ e, npow n (schoolRaw x x n) e = npow n x (2 * e)
  | 0 => rfl
  | e + 1 => by
    show schoolRaw (npow n (schoolRaw x x n) e) (schoolRaw x x n) n = schoolRaw (schoolRaw (npow n x (2 * e)) x n) x n
    rw [npow_sq h1 h2 hx e, raw_assoc h1 h2 (npow_len h1 h2 hx _) hx hx]
theorem npow_mul {n : Nat} {x y : List Int} (h1 : 1 ≤ n) (h2 : n ≤ 4) (hx : x.length = n) (hy : y.length = n) : ∀ e, schoolRaw (npow n x e) (npow n y e) n = npow n (schoolRaw x y n) e
  | 0 => raw_one h1 h2 (one_len h1)
  | e + 1 => by
    show schoolRaw (schoolRaw (npow n x e) x n) (schoolRaw (npow n y e) y n) n = schoolRaw (npow n (schoolRaw x y n) e) (schoolRaw x y n) n
    have lx := npow_len h1 h2 hx e
    have ly := npow_len h1 h2 hy e
    rw [← npow_mul h1 h2 hx hy e, raw_assoc h1 h2 lx hx (raw_len h1 h2 ly hy), raw_assoc h1 h2 lx ly (raw_len h1 h2 hx hy), ← raw_assoc h1 h2 hx ly hy, raw_comm h1 h2 hx ly, raw_assoc h1 h2 ly hx hy]
theorem npow_one {n : Nat} (h1 : 1 ≤ n) (h2 : n ≤ 4) : ∀ e, npow n (oneOf n) e = oneOf n
  | 0 => rfl
  | e + 1 => by
    show schoolRaw (npow n (oneOf n) e) (oneOf n) n = _
    rw [npow_one h1 h2 e, raw_one h1 h2 (one_len h1)]
theorem powGo_mq {q : Int} {n : Nat} (h1 : 1 ≤ n) (h2 : n ≤ 4) : ∀ (k e : Nat) (f g : List Int), e ≤ k → f.length = n → g.length = n → Mq q (powGo q n k e f g) (schoolRaw g (npow n f e) n)
  | 0, e, f, g, he, hf, hg => by
    obtain rfl : e = 0 := by omega
    show Mq q g (schoolRaw g (oneOf n) n)
    rw [raw_one h1 h2 hg]; exact Mq.refl _
  | k + 1, e, f, g, he, hf, hg => by
    unfold powGo
    by_cases h0 : e = 0
    · subst h0
      rw [if_pos rfl]
      show Mq q g (schoolRaw g (oneOf n) n)
      rw [raw_one h1 h2 hg]; exact Mq.refl _
    rw [if_neg h0]
    have lf : (schoolOf q n f f).length = n := sch_len h1 h2 hf hf
    have step : Mq q (npow n (schoolOf q n f f) (e / 2)) (npow n f (2 * (e / 2))) := by
      rw [← npow_sq h1 h2 hf]; exact npow_congr h1 h2 lf (sch_mq f f) _
    by_cases ho : e % 2 = 1
    · rw [if_pos ho]
      refine (powGo_mq h1 h2 k (e / 2) _ _ (by omega) lf (sch_len h1 h2 hg hf)).trans ?_
      refine (raw_congr h1 h2 (sch_len h1 h2 hg hf) (npow_len h1 h2 lf _) (sch_mq g f) step).trans ?_
      have e2 : npow n f e = schoolRaw f (npow n f (2 * (e / 2))) n := by
        have : e = 2 * (e / 2) + 1 := by omega
        conv => lhs; rw [this]
        exact raw_comm h1 h2 (npow_len h1 h2 hf _) hf
      rw [e2, raw_assoc h1 h2 hg hf (npow_len h1 h2 hf _)]
      exact Mq.refl _
    · rw [if_neg ho]
      refine (powGo_mq h1 h2 k (e / 2) _ _ (by omega) lf hg).trans ?_
      refine (raw_congr h1 h2 hg (npow_len h1 h2 lf _) (Mq.refl _) step).trans ?_
      have : 2 * (e / 2) = e := by omega
      rw [this]; exact Mq.refl _
theorem pow_mq {q : Int} {n : Nat} {x : List Int} (h1 : 1 ≤ n) (h2 : n ≤ 4) (hx : x.length = n) (e : Nat) : Mq q (powOf q n x e) (npow n x e) := by
  have := powGo_mq (q := q) h1 h2 e e x (oneOf n) (Nat.le_refl _) hx (one_len h1)
  rw [raw_comm h1 h2 (one_len h1) (npow_len h1 h2 hx e), raw_one h1 h2 (npow_len h1 h2 hx e)] at this
  exact this
theorem cof_len (n : Nat) (tb : List (List Int)) : (cofOf n tb).length = n := by simp [cofOf]
theorem scale_mq {q part : Int} (h : List Int) : Mq q (h.map fun c => c * part % q) (h.map fun c => c * part) := by
  induction h with
  | nil => exact .nil
  | cons a x ih => exact .cons (dvd_emod q _) ih
theorem noughts_mq {q : Int} {k k' : Int} (n : Nat) (h : q ∣ k - k') : Mq q (k :: noughts n) (k' :: noughts n) := .cons h (Mq.refl _)
theorem one_mod {q : Int} (hq : 2 ≤ q) (n : Nat) : ((1 :: noughts n).map fun c => c % q) = 1 :: noughts n := by
  rw [const_mod, Int.emod_eq_of_lt (by omega) (by omega)]
theorem back_mq {q : Int} {n : Nat} {x : List Int} (h1 : 1 ≤ n) (h2 : n ≤ 4) (hx : x.length = n) {part : Int} (hp : q ∣ part * detX n x - 1) : Mq q (schoolRaw x ((cofOf n (tableOf x)).map fun c => c * part % q) n) (oneOf n) := by
  have lc := cof_len n (tableOf x)
  refine (raw_congr h1 h2 hx (by rw [List.length_map, lc]) (Mq.refl _) (scale_mq _)).trans ?_
  rw [← raw_const part h1 h2 lc, ← raw_assoc h1 h2 hx lc (const_len _ h1), raw_adj h1 h2 hx, raw_comm h1 h2 (const_len _ h1) (const_len _ h1), raw_const _ h1 h2 (const_len _ h1)]
  rw [one_eq, List.map_cons, show (noughts n).map (fun c => c * detX n x) = noughts n by simp [noughts]]
  exact noughts_mq n hp
theorem turned1 (a : Int) (j : Nat) : turnedOf [a] j = [a] ∨ turnedOf [a] j = [a] := by
  left; simp [turnedOf, turnedIn, addAt, List.range, List.range.loop]
theorem whole_ok {q : Int} {n : Nat} {x : List Int} (h1 : 1 ≤ n) (h2 : n ≤ 4) (hx : x.length = n) (hn : n ≠ 3) : wholeOf q n x = detX n x % q :: noughts n := by
  rw [← const_mod]
  obtain rfl | rfl | rfl | rfl : n = 1 ∨ n = 2 ∨ n = 3 ∨ n = 4 := by omega
  · obtain ⟨a, rfl⟩ := op1 hx
    have t1 : turnedOf [a] (2 * 0 + 1) = [0 + a] := by with_unfolding_all rfl
    show schoolOf q 1 (oneOf 1) (turnedOf [a] (2 * 0 + 1)) = _
    rw [t1, det1]
    refine Mq.mod ?_
    rw [show oneOf 1 = [1] from rfl, raw1, Int.one_mul, Int.zero_add]
    exact Mq.refl _
  · obtain ⟨a, b, rfl⟩ := op2 hx
    have t1 : turnedOf [a,b] (2 * 0 + 1) = [0 + a, 0 + b] := by with_unfolding_all rfl
    have t2 : turnedOf [a,b] (2 * 1 + 1) = [0 + a, 0 + -b] := by with_unfolding_all rfl
    show schoolOf q 2 (schoolOf q 2 (oneOf 2) (turnedOf [a,b] (2 * 0 + 1))) (turnedOf [a,b] (2 * 1 + 1)) = _
    rw [t1, t2, det2]
    refine Mq.mod ((raw_congr h1 h2 (sch_len h1 h2 rfl rfl) rfl (sch_mq _ _) (Mq.refl _)).trans ?_)
    rw [raw_comm h1 h2 (one_len h1) rfl, raw_one h1 h2 rfl, raw2]
    simp only [Int.zero_add]
    have e : [a * a - b * -b, a * -b + b * a] = P2 a b :: noughts 2 := by
      show [_, _] = [P2 a b, 0]
      unfold P2; grind
    rw [e]; exact Mq.refl _
  · exact absurd rfl hn
  · obtain ⟨a, b, c, d, rfl⟩ := op4 hx
    have t1 : turnedOf [a,b,c,d] (2 * 0 + 1) = [a,b,c,d] := by
      have e : turnedOf [a,b,c,d] (2 * 0 + 1) = [0 + a, 0 + b, 0 + c, 0 + d] := by with_unfolding_all rfl
      rw [e]; simp only [Int.zero_add]
    have t2 : turnedOf [a,b,c,d] (2 * 1 + 1) = [a,d,-c,b] := by
      have e : turnedOf [a,b,c,d] (2 * 1 + 1) = [0 + a, 0 + d, 0 + -c, 0 + b] := by with_unfolding_all rfl
      rw [e]; simp only [Int.zero_add]
    have t3 : turnedOf [a,b,c,d] (2 * 2 + 1) = [a,-b,c,-d] := by
      have e : turnedOf [a,b,c,d] (2 * 2 + 1) = [0 + a, 0 + -b, 0 + c, 0 + -d] := by with_unfolding_all rfl
      rw [e]; simp only [Int.zero_add]
    have t4 : turnedOf [a,b,c,d] (2 * 3 + 1) = [a,-d,-c,-b] := by
      have e : turnedOf [a,b,c,d] (2 * 3 + 1) = [0 + a, 0 + -d, 0 + -c, 0 + -b] := by with_unfolding_all rfl
      rw [e]; simp only [Int.zero_add]
    show schoolOf q 4 (schoolOf q 4 (schoolOf q 4 (schoolOf q 4 (oneOf 4) (turnedOf [a,b,c,d] (2 * 0 + 1))) (turnedOf [a,b,c,d] (2 * 1 + 1))) (turnedOf [a,b,c,d] (2 * 2 + 1))) (turnedOf [a,b,c,d] (2 * 3 + 1)) = _
    rw [t1, t2, t3, t4, det4]
    have l1 : (schoolOf q 4 (oneOf 4) [a,b,c,d]).length = 4 := sch_len h1 h2 rfl rfl
    have m1 : Mq q (schoolOf q 4 (oneOf 4) [a,b,c,d]) [a,b,c,d] := by
      have := sch_mq (q := q) (n := 4) (oneOf 4) [a,b,c,d]
      rwa [raw_comm h1 h2 (one_len h1) rfl, raw_one h1 h2 rfl] at this
    have l2 := sch_len (q := q) (y := [a,d,-c,b]) h1 h2 l1 rfl
    have m2 := (sch_mq (q := q) (n := 4) (schoolOf q 4 (oneOf 4) [a,b,c,d]) [a,d,-c,b]).trans (raw_congr h1 h2 l1 rfl m1 (Mq.refl _))
    have l3 := sch_len (q := q) (y := [a,-b,c,-d]) h1 h2 l2 rfl
    have m3 := (sch_mq (q := q) (n := 4) _ [a,-b,c,-d]).trans (raw_congr h1 h2 l2 rfl m2 (Mq.refl _))
    refine Mq.mod ((raw_congr h1 h2 l3 rfl m3 (Mq.refl _)).trans ?_)
    rw [raw4, raw4, raw4]
    have e : ∀ z w : List Int, z = w → Mq q z w := fun z w h => h ▸ Mq.refl _
    apply e
    simp only [P4, U4, V4, noughts, List.replicate, List.cons.injEq, and_true]
    refine ⟨?_, ?_, ?_, ?_⟩
    · grind
    · grind
    · grind
    · grind

theorem pow_len {q : Int} {n : Nat} {x : List Int} (h1 : 1 ≤ n) (h2 : n ≤ 4) (hx : x.length = n) (e : Nat) : (powOf q n x e).length = n := by
  rw [(pow_mq (q := q) h1 h2 hx e).length, npow_len h1 h2 hx e]
theorem powers_mq {q : Int} {n : Nat} {x b : List Int} (h1 : 1 ≤ n) (h2 : n ≤ 4) (hx : x.length = n) (hb : b.length = n) (e : Nat) (h : Mq q (schoolRaw x b n) (oneOf n)) : Mq q (schoolRaw (npow n x e) (npow n b e) n) (oneOf n) := by
  rw [npow_mul h1 h2 hx hb]
  have := npow_congr h1 h2 (raw_len h1 h2 hx hb) h e
  rwa [npow_one h1 h2] at this
theorem lawOk {q : Int} {n e : Nat} {x y : List Int} (hq : 2 ≤ q) (h1 : 1 ≤ n) (h2 : n ≤ 4) (hx : x.length = n) (hy : y.length = n) : LawOk q n e x y := by
  have lc := cof_len n (tableOf x)
  have lyx := raw_len h1 h2 hy hx
  refine ⟨?_, ?_, ?_, ?_, whole_ok h1 h2 hx, ?_, ?_, ?_, ?_⟩
  · rw [schoolOf, raw_told h1 h2 hx hy, toldOf, List.map_map]; rfl
  · rw [schoolOf, raw_adj h1 h2 hx, const_mod]
  · rw [sch_congr h1 h2 (sch_len h1 h2 hy hx) lc (sch_mq y x) (Mq.refl _), schoolOf, raw_assoc h1 h2 hy hx lc, raw_adj h1 h2 hx, raw_const _ h1 h2 hy, List.map_map]
    apply List.map_congr_left
    intro c _
    show c * detX n x % q = _
    rw [Int.mul_comm]
  · rw [← det_mul h1 h2 hx hy]
    exact emod_of_dvd (det_congr h1 h2 (sch_len h1 h2 hy hx) (sch_mq y x))
  · intro part p0 p1 hp
    rw [schoolOf, (back_mq h1 h2 hx hp).mod, one_eq, one_mod hq]
  · intro part p0 p1 hp
    have lb : ((cofOf n (tableOf x)).map fun c => c * part % q).length = n := by rw [List.length_map, lc]
    rw [sch_congr h1 h2 (sch_len h1 h2 hy hx) lb (sch_mq y x) (Mq.refl _), schoolOf, raw_assoc h1 h2 hy hx lb]
    refine Mq.mod ((raw_congr h1 h2 hy (raw_len h1 h2 hx lb) (Mq.refl _) (back_mq h1 h2 hx hp)).trans ?_)
    rw [raw_one h1 h2 hy]; exact Mq.refl _
  · intro part p0 p1 hp
    have lb : ((cofOf n (tableOf x)).map fun c => c * part % q).length = n := by rw [List.length_map, lc]
    have := (raw_congr h1 h2 (pow_len h1 h2 hx e) (pow_len h1 h2 lb e) (pow_mq (q := q) h1 h2 hx e) (pow_mq (q := q) h1 h2 lb e)).trans (powers_mq h1 h2 hx lb e (back_mq h1 h2 hx hp))
    rw [schoolOf, this.mod, one_eq, one_mod hq]
  · intro part p0 p1 hp
    have lb : ((cofOf n (tableOf x)).map fun c => c * part % q).length = n := by rw [List.length_map, lc]
    have le := npow_len h1 h2 hx e
    have lbe := npow_len h1 h2 lb e
    refine Mq.mod ((raw_congr h1 h2 (pow_len h1 h2 hx _) (pow_len h1 h2 lb e) (pow_mq (q := q) h1 h2 hx _) (pow_mq (q := q) h1 h2 lb e)).trans ?_)
    show Mq q (schoolRaw (schoolRaw (npow n x e) x n) _ n) x
    rw [raw_comm h1 h2 le hx, raw_assoc h1 h2 hx le lbe]
    refine (raw_congr h1 h2 hx (raw_len h1 h2 le lbe) (Mq.refl _) (powers_mq h1 h2 hx lb e (back_mq h1 h2 hx hp))).trans ?_
    rw [raw_one h1 h2 hx]; exact Mq.refl _

-- spec2
section
variable {g h : Heap} {L : Addr} {a1 a2 a3 a4 a5 a6 a7 a8 a9 : Addr × Obj} {R : List (Addr × Obj)}
theorem led8 (N : News g L h (a1 :: a2 :: a3 :: a4 :: a5 :: a6 :: a7 :: a8 :: R)) : ∀ a o, InLed R a o → HeapIs h a o := fun _ _ hp =>
  (N _ (List.mem_cons_of_mem _ (List.mem_cons_of_mem _ (List.mem_cons_of_mem _ (List.mem_cons_of_mem _ (List.mem_cons_of_mem _ (List.mem_cons_of_mem _ (List.mem_cons_of_mem _ (List.mem_cons_of_mem _ hp))))))))).1
theorem led9 (N : News g L h (a1 :: a2 :: a3 :: a4 :: a5 :: a6 :: a7 :: a8 :: a9 :: R)) : ∀ a o, InLed R a o → HeapIs h a o := fun _ _ hp =>
  (N _ (List.mem_cons_of_mem _ (List.mem_cons_of_mem _ (List.mem_cons_of_mem _ (List.mem_cons_of_mem _ (List.mem_cons_of_mem _ (List.mem_cons_of_mem _ (List.mem_cons_of_mem _ (List.mem_cons_of_mem _ (List.mem_cons_of_mem _ hp)))))))))).1
theorem InLed.up {R R' : List (Addr × Obj)} (u : ∀ p ∈ R, p ∈ R') : ∀ a o, InLed R a o → InLed R' a o := fun _ _ h => u _ h
theorem InLed.mono {R R' : List (Addr × Obj)} {a : Addr} {o : Obj} (h : InLed R a o) (u : ∀ a o, InLed R a o → InLed R' a o) : InLed R' a o := u _ _ h
end
theorem RowsAre.monoR {φ ψ : Addr → Obj → Prop} {vs : List Value} {rows : List (List Int)} (r : RowsAre φ vs rows) (h : ∀ a o, φ a o → ψ a o) : RowsAre ψ vs rows := r.mono h
theorem RingOn.monoR {w : World} {φ ψ : Addr → Obj → Prop} {r : Addr} {q : Int} {n : Nat} (x : RingOn w φ r q n) (h : ∀ a o, φ a o → ψ a o) : RingOn w ψ r q n := x.mono h
theorem InLed.mem {R : List (Addr × Obj)} {a : Addr} {o : Obj} (h : InLed R a o) : (a, o) ∈ R := h
theorem InstAt.of_led9 {g h : Heap} {L x C dx : Addr} {a1 a2 a3 a4 a5 a6 a7 a8 a9 : Addr × Obj} {R : List (Addr × Obj)} {od : Obj} (N : News g L h (a1 :: a2 :: a3 :: a4 :: a5 :: a6 :: a7 :: a8 :: a9 :: R)) (h1 : InLed R x (instObj C dx)) (h2 : InLed R dx od) :
    InstAt h x (instObj C dx) C (some od) := ⟨led9 N _ _ h1, rfl, rfl, led9 N _ _ h2⟩
theorem IntsOn.monoR {φ ψ : Addr → Obj → Prop} {l : Addr} {c : List Int} (x : IntsOn φ l c) (h : ∀ a o, φ a o → ψ a o) : IntsOn ψ l c := x.mono h
theorem PolyOn.monoR {w : World} {φ ψ : Addr → Obj → Prop} {x r : Addr} {c : List Int} (y : PolyOn w φ x r c) (h : ∀ a o, φ a o → ψ a o) : PolyOn w ψ x r c := y.mono h
theorem isList_h {h : Heap} {l : Addr} {vs : List Value} {n : Nat} (e : HeapIs h l (listOf vs.toArray n)) : h.IsList l vs.toArray := ⟨_, e, rfl, n, rfl⟩
/-- an element that makes an int by a generator of its own -/
def GenBack (h₀ : Heap) (L : Addr) (m : Str → Option Value) (s' : Shared) (hd led : List (Addr × Obj)) (P : Addr) (R : List (Addr × Obj)) (z : Int) (y : Value) (s₂ : Shared) : Prop :=
  ∃ ps t, y = .int z t ∧ TriplesOk (Array.toList ps) ∧ Same s' s₂ ∧ Fr h₀ L s₂.heap m ∧ News h₀ L s₂.heap (hd ++ (led ++ (P, tabObj ps) :: R))
theorem CompGC.gen {prog : Program} {w : World} {A : Around} {env : Env} {h₀ : Heap} {L P r : Addr} {m : Str → Option Value} {elt : PySem.Expr} {x : Str} {scope : Scope} {cl : List (Str × Addr)} {Fin : Value → List Value → List (Addr × Obj) → Shared → Prop} {s₁ : Shared}
    {led R : List (Addr × Obj)} {ps0 : Array Value} {a b : Int} {t u v : Tok} {n : Nat} (f : Nat → Int)
    (hh : A.handled = none) (F : Fr h₀ L s₁.heap m) (N : News h₀ L s₁.heap (led ++ (P, tabObj ps0) :: R)) (tr : TriplesOk ps0.toList)
    (hr : IsRange s₁.heap r a b 1 t u v) (hsm : Builtin.Range.small a b 1 = true) (hn : Builtin.Range.rangeSize a b 1 = (n : Int)) (hsz : n ≤ sizeLine)
    (turn : ∀ i ps ti I oI C oC D ys Rr oR s' (E' : Value → Shared → Prop), i < n → TriplesOk (Array.toList ps) → oR.data = .cell (some (.int (a + (i : Int)) ti)) → Same s₁ s' → Fr h₀ L s'.heap m →
      News h₀ L s'.heap ([(I, oI), (C, oC), (D, LCg.lst ys), (Rr, oR)] ++ (led ++ (P, tabObj ps) :: R)) → (P ≠ I ∧ P ≠ C ∧ P ≠ D ∧ P ≠ Rr) →
      wpAny (model prog w) A (eval elt (compEnvC scope ((x, Rr) :: cl) C env)) (GenBack h₀ L m s' [(I, oI), (C, oC), (D, LCg.lst ys), (Rr, oR)] led P R (f i)) E' s')
    (done : ∀ D ys ps s₃, IntsAre ys ((List.range n).map f) → TriplesOk (Array.toList ps) → Same s₁ s₃ → Fr h₀ L s₃.heap m → News h₀ L s₃.heap ((D, LCg.lst ys) :: (led ++ (P, tabObj ps) :: R)) → (∀ p ∈ led ++ (P, tabObj ps) :: R, p.1 ≠ D) → Fin (.ref D) ys (led ++ (P, tabObj ps) :: R) s₃) :
    CompGC prog w A env h₀ L m elt x scope cl Fin (.ref r) s₁ := by
  refine ⟨hh, n, fun i ys led' => ∃ ps, led' = led ++ (P, tabObj ps) :: R ∧ TriplesOk (Array.toList ps) ∧ IntsAre ys ((List.range i).map f), _, hsz, F, N, ⟨ps0, rfl, tr, .nil⟩, r, a, b, t, u, v, rfl, hr, hsm, hn, ?_, ?_⟩
  · rintro i ys led' v I oI C oC D Rr oR s' E' hi hyl ⟨ps, rfl, tr', hys⟩ ⟨ti, rfl⟩ hoR S' F' N' off
    have hP := off (P, tabObj ps) (List.mem_append_right _ List.mem_cons_self)
    refine wpAny_mono (turn i ps ti I oI C oC D ys Rr oR s' E' hi tr' hoR S' F' N' hP) (fun y s₂ hb => ?_) fun _ _ z => z
    obtain ⟨ps', t', rfl, tr2, S2, F2, N2⟩ := hb
    refine ⟨led ++ (P, tabObj ps') :: R, S2, F2, N2, fun p hp => ?_, ps', rfl, tr2, ?_⟩
    · rcases List.mem_append.mp hp with hp | hp
      · exact off p (List.mem_append_left _ hp)
      · rcases List.mem_cons.mp hp with rfl | hp
        · exact hP
        · exact off p (List.mem_append_right _ (List.mem_cons_of_mem _ hp))
    · rw [List.range_succ, List.map_append]
      exact hys.append (.cons _ _ .nil)
  · rintro D ys led' s₃ hyl ⟨ps, rfl, tr', hys⟩ S3 F3 N3 off3
    exact done D ys ps s₃ hys tr' S3 F3 N3 off3
/-- the table to the front -/
theorem tab_front {g h : Heap} {L : Addr} {b1 b2 b3 b4 p : Addr × Obj} {led R : List (Addr × Obj)} (N : News g L h ([b1, b2, b3, b4] ++ (led ++ p :: R))) : News g L h (p :: (b1 :: b2 :: b3 :: b4 :: (led ++ R))) := fun q hq => N q (by
  simp only [List.mem_cons, List.mem_append, List.not_mem_nil, or_false] at hq ⊢
  rcases hq with e | e | e | e | e | e | e <;> simp [e])
theorem tab_back {g h : Heap} {L : Addr} {b1 b2 b3 b4 p : Addr × Obj} {led R : List (Addr × Obj)} (N : News g L h (p :: (b1 :: b2 :: b3 :: b4 :: (led ++ R)))) : News g L h ([b1, b2, b3, b4] ++ (led ++ p :: R)) := fun q hq => N q (by
  simp only [List.mem_cons, List.mem_append, List.not_mem_nil, or_false] at hq ⊢
  rcases hq with (e | e | e | e) | e | e | e <;> simp [e])
theorem nameB_CC {M : Model} {A : Around} {E : Value → Shared → Prop} {s : Shared} {K : Frag} {h₀ : Heap} {L : Addr} {m mg mb : Str → Option Value} {env : Env} {p : Program} {loose : List Str}
    {x : Str} {pos : Pos} {v : Value} {Q : Value → Shared → Prop} (F : Fr h₀ L s.heap m) (X : K.In h₀) (T : TopRead p loose mg mb h₀) (e : nsIn K mainGlobals x = some none) (hv : bootBuiltins x = some v) (hn : x ≠ "__name__") (h : Q v s)
    (hg : env.globals = mainGlobals) (hb : env.builtins = builtinsNs) (hk : env.scope.kind = .function) (hx : env.kindOf x = some .globalImplicit) (hd : (x == ("__debug__" : Str)) = false) : wpAny M A (eval (.Name x pos) env) Q E s :=
  Name_function_global hk hx (loadGlobal_builtin (env := env) (by rw [hg]; exact T.g.keeps F.keep) (mg_none_of X T.g e) (by rw [hb]; exact T.b.keeps F.keep) ((T.builtins x hn).trans hv) h) hd
theorem led_app {g h : Heap} {L : Addr} {l R : List (Addr × Obj)} (N : News g L h (l ++ R)) : ∀ a o, InLed R a o → HeapIs h a o := fun _ _ hp => (N _ (List.mem_append_right _ hp)).1
section
variable {prog : Program} {w : World} {A : Around} {E : Value → Shared → Prop} {s : Shared} {a b na nb : Addr} {xs ys : List Value} {ns ms : List Int} {Q : Value → Shared → Prop}
theorem ne_same (ha : HeapIs s.heap a (listOf xs.toArray na)) (hb : HeapIs s.heap b (listOf ys.toArray nb)) (hi : IntsAre xs ns) (hj : IntsAre ys ms) (hu : A.units + 64 < cLine) (e : ns = ms) (h : Q (.bool false) s) :
    wpAny (model prog w) A (compareOp .NotEq (.ref a) (.ref b)) Q E s := ke_ne_ints (isList_h ha) (isList_h hb) hi hj hu (by rw [decide_eq_true e]; exact h)
theorem eq_same (ha : HeapIs s.heap a (listOf xs.toArray na)) (hb : HeapIs s.heap b (listOf ys.toArray nb)) (hi : IntsAre xs ns) (hj : IntsAre ys ms) (hu : A.units + 64 < cLine) (e : ns = ms) (h : Q (.bool true) s) :
    wpAny (model prog w) A (compareOp .Eq (.ref a) (.ref b)) Q E s := ke_eq_ints (isList_h ha) (isList_h hb) hi hj hu (by rw [decide_eq_true e]; exact h)
theorem eq_as {B : Bool} (ha : HeapIs s.heap a (listOf xs.toArray na)) (hb : HeapIs s.heap b (listOf ys.toArray nb)) (hi : IntsAre xs ns) (hj : IntsAre ys ms) (hu : A.units + 64 < cLine) (e : decide (ns = ms) = B) (h : Q (.bool B) s) :
    wpAny (model prog w) A (compareOp .Eq (.ref a) (.ref b)) Q E s := ke_eq_ints (isList_h ha) (isList_h hb) hi hj hu (by rw [e]; exact h)
end
theorem all_noughts {n : Nat} {c : List Int} (h : c.length = n - 1) : decide (c = noughts n) = c.all (· == 0) := by
  rw [Bool.eq_iff_iff, decide_eq_true_eq, List.all_eq_true]
  unfold noughts
  rw [List.eq_replicate_iff]
  constructor
  · rintro ⟨_, h2⟩ z hz; simpa using h2 z hz
  · intro h2; exact ⟨h, fun z hz => by simpa using h2 z hz⟩
theorem turn_one {g h h' : Heap} {L P : Addr} {m : Str → Option Value} {o o' : Obj} {led R : List (Addr × Obj)} (F : Fr g L h m) (N : News g L h (led ++ (P, o) :: R)) (hk : ∀ b ob, b ≠ P → h.get? b = some ob → h'.get? b = some ob) (hP : h'.get? P = some o')
    (off : ∀ p ∈ led ++ R, p.1 ≠ P) : Fr g L h' m ∧ News g L h' (led ++ (P, o') :: R) := by
  have hp := (N (P, o) (List.mem_append_right _ List.mem_cons_self)).2
  refine ⟨⟨F.ns.at' fun ob e => hk _ ob (Ne.symm hp.1) e, fun b ob e => hk b ob (fun q => by rw [q, hp.2] at e; cases e) (F.keep b ob e), F.above⟩, fun p hpm => ?_⟩
  rcases List.mem_append.mp hpm with hm | hm
  · exact ⟨hk _ _ (off p (List.mem_append_left _ hm)) (N p (List.mem_append_left _ hm)).1, (N p (List.mem_append_left _ hm)).2⟩
  · rcases List.mem_cons.mp hm with rfl | hm
    · exact ⟨hP, hp⟩
    · exact ⟨hk _ _ (off p (List.mem_append_right _ hm)) (N p (List.mem_append_right _ (List.mem_cons_of_mem _ hm))).1, (N p (List.mem_append_right _ (List.mem_cons_of_mem _ hm))).2⟩
theorem lw_turn8 {g h h' : Heap} {L P : Addr} {m : Str → Option Value} {o o' : Obj} {a1 a2 a3 a4 a5 a6 a7 a9 : Addr × Obj} {R : List (Addr × Obj)} (F : Fr g L h m) (N : News g L h (a1 :: a2 :: a3 :: a4 :: a5 :: a6 :: a7 :: (P, o) :: a9 :: R))
    (hk : ∀ b ob, b ≠ P → h.get? b = some ob → h'.get? b = some ob) (hP : h'.get? P = some o') (off : ∀ p ∈ a1 :: a2 :: a3 :: a4 :: a5 :: a6 :: a7 :: a9 :: R, p.1 ≠ P) :
    Fr g L h' m ∧ News g L h' (a1 :: a2 :: a3 :: a4 :: a5 :: a6 :: a7 :: (P, o') :: a9 :: R) := turn_one (led := [a1, a2, a3, a4, a5, a6, a7]) F N hk hP off
theorem get8 {g h : Heap} {L P : Addr} {o : Obj} {a1 a2 a3 a4 a5 a6 a7 a9 : Addr × Obj} {R : List (Addr × Obj)} (N : News g L h (a1 :: a2 :: a3 :: a4 :: a5 :: a6 :: a7 :: (P, o) :: a9 :: R)) : h.get? P = some o ∧ g.get? P = none :=
  have x := N (P, o) (by simp)
  ⟨x.1, x.2.2⟩
theorem preSum_bd {k : Nat} {f : Nat → Int} : ∀ {n : Nat}, (∀ i, i < n → Bd k (f i)) → (preSum f n).natAbs ≤ n * 2 ^ k
  | 0, _ => by simp [preSum]
  | n + 1, h => by
    have h1 := preSum_bd (n := n) fun i hi => h i (by omega)
    have h2 : (f n).natAbs < 2 ^ k := h n (by omega)
    have h3 : preSum f (n + 1) = preSum f n + f n := rfl
    have h4 := Int.natAbs_add_le (preSum f n) (f n)
    rw [h3, Nat.succ_mul]
    omega
theorem detX_bd {kk n : Nat} {x : List Int} (hn : n ≤ 4) (hr : ∀ z ∈ (tableOf x).getD 0 [], Bd kk z) (hc : ∀ z ∈ cofOf n (tableOf x), Bd ((n - 1) * (kk + 3) + 2) z) : Bd (4 * kk + 20) (detX n x) := by
  have h1 : (detX n x).natAbs ≤ n * 2 ^ (kk + ((n - 1) * (kk + 3) + 2)) := preSum_bd fun i _ => (Bd.getD hr i).mul (Bd.getD hc i)
  have hmk : (n - 1) * (kk + 3) ≤ 3 * (kk + 3) := Nat.mul_le_mul_right _ (by omega)
  have h2 : 2 ^ (kk + ((n - 1) * (kk + 3) + 2)) ≤ 2 ^ (4 * kk + 11) := Nat.pow_le_pow_right (by decide) (by omega)
  have h3 : n * 2 ^ (kk + ((n - 1) * (kk + 3) + 2)) ≤ 4 * 2 ^ (4 * kk + 11) := Nat.mul_le_mul hn h2
  have h4 : 2 ^ (4 * kk + 20) = 512 * 2 ^ (4 * kk + 11) := by rw [show 4 * kk + 20 = (4 * kk + 11) + 9 by omega, Nat.pow_add]; omega
  have h5 := Nat.pow_pos (n := 4 * kk + 11) (show 0 < 2 by decide)
  unfold Bd
  omega
theorem mod_bd {q z : Int} (hq : 2 ≤ q) (hq2 : q ≤ 100000) : Bd 17 (z % q) := by
  have h1 := Int.emod_nonneg z (show q ≠ 0 by omega)
  have h2 := Int.emod_lt_of_pos z (show 0 < q by omega)
  unfold Bd
  have : (2 : Nat) ^ 17 = 131072 := by decide
  omega
theorem schoolOf_bd {q : Int} {n : Nat} {la lb : List Int} (hq : 2 ≤ q) (hq2 : q ≤ 100000) : ∀ z ∈ schoolOf q n la lb, Bd 17 z := by
  intro z hz
  unfold schoolOf at hz
  obtain ⟨z', _, rfl⟩ := List.mem_map.mp hz
  exact mod_bd hq hq2
theorem mapmod_bd {q : Int} {f : Int → Int} {la : List Int} (hq : 2 ≤ q) (hq2 : q ≤ 100000) : ∀ z ∈ la.map (fun c => f c % q), Bd 17 z := by
  intro z hz
  obtain ⟨z', _, rfl⟩ := List.mem_map.mp hz
  exact mod_bd hq hq2
/-- the ways of an if without else meet behind it -/
def JoinEnd (P : Shared → Prop) (f : Flow) (s' : Shared) : Prop := f = .next ∧ P s'
theorem join_K {M : Model} {A : Around} {E : Value → Shared → Prop} {s : Shared} {env : Env} {T : Sem Value} {body : List Stmt} {K : Flow → Shared → Prop} (P : Shared → Prop) (hK : ∀ s', P s' → K .next s')
    (h : wpAny M A T (fun c s₃ => wpAny M A (truthy c) (fun b s₂ => if b = true then wpAny M A (execs body env) (JoinEnd P) E s₂ else wpAny M A (execs [] env) (JoinEnd P) E s₂) E s₃) E s) :
    wpAny M A T (fun c s₃ => wpAny M A (truthy c) (fun b s₂ => if b = true then wpAny M A (execs body env) K E s₂ else wpAny M A (execs [] env) K E s₂) E s₃) E s := by
  have kk : ∀ f s', JoinEnd P f s' → K f s' := fun f s' x => by rw [x.1]; exact hK s' x.2
  refine wpAny_mono h (fun c s₃ h3 => wpAny_mono h3 (fun b s₂ h2 => ?_) fun _ _ e => e) fun _ _ e => e
  split at h2
  · rename_i hb; rw [if_pos hb]; exact wpAny_mono h2 kk fun _ _ e => e
  · rename_i hb; rw [if_neg hb]; exact wpAny_mono h2 kk fun _ _ e => e
def pre9 {g h : Heap} {L : Addr} {a1 a2 a3 a4 a5 a6 a7 a8 a9 : Addr × Obj} {R : List (Addr × Obj)} (_N : News g L h (a1 :: a2 :: a3 :: a4 :: a5 :: a6 :: a7 :: a8 :: a9 :: R)) : List (Addr × Obj) := [a1, a2, a3, a4, a5, a6, a7, a8, a9]
def JoinAt (g : Heap) (L : Addr) (s : Shared) (m : Str → Option Value) (names : List Str) (pre R : List (Addr × Obj)) (s' : Shared) : Prop :=
  ∃ (u : Str → Option Value) (R' : List (Addr × Obj)), Same s s' ∧ Fr g L s'.heap (fun z => if names.contains z then u z else m z) ∧ News g L s'.heap (pre ++ R') ∧ OffAll (pre.map (·.1)) R' ∧ ∀ p ∈ R, p ∈ R'
theorem JoinEnd.mk {g : Heap} {L : Addr} {s s' : Shared} {m m' : Str → Option Value} {names : List Str} {pre R R' : List (Addr × Obj)} (S : Same s s') (F : Fr g L s'.heap m') (N : News g L s'.heap (pre ++ R')) (O : OffAll (pre.map (·.1)) R') (sub : ∀ p ∈ R, p ∈ R')
    (hm : ∀ z, names.contains z = false → m' z = m z) : JoinEnd (JoinAt g L s m names pre R) .next s' := by
  refine ⟨rfl, m', R', S, ?_, N, O, sub⟩
  have e : (fun z => if names.contains z then m' z else m z) = m' := funext fun z => by
    by_cases h : names.contains z = true
    · rw [if_pos h]
    · rw [if_neg h, hm z (by simpa using h)]
  rw [e]; exact F
structure WhSt where
  R : List (Addr × Obj)
  xw : Addr
  cw : List Int
theorem turnedOf_length (f : List Int) (j : Nat) : (turnedOf f j).length = f.length := by
  unfold turnedOf
  rw [foldl_length (fun c u => by unfold turnedIn; exact addAt_length ..)]
  simp
theorem turned_abs {k j : Nat} {f : List Int} (h : ∀ z ∈ f, Bd k z) : ∀ i, ∀ z ∈ (List.range i).foldl (turnedIn f j) ((List.range f.length).map fun _ => 0), z.natAbs ≤ i * 2 ^ k
  | 0, z, hz => by
    obtain ⟨_, _, rfl⟩ := List.mem_map.mp hz
    simp
  | i + 1, z, hz => by
    rw [List.range_succ, List.foldl_append] at hz
    have ih := turned_abs (j := j) h i
    generalize (List.range i).foldl (turnedIn f j) ((List.range f.length).map fun _ => 0) = c at hz ih
    have hz : z ∈ c.set (i * j % f.length) (c.getD (i * j % f.length) 0 + (if i * j / f.length % 2 = 0 then f.getD i 0 else - f.getD i 0)) := hz
    have hf : (f.getD i 0).natAbs < 2 ^ k := Bd.getD h i
    have hc : (c.getD (i * j % f.length) 0).natAbs ≤ i * 2 ^ k := by
      rw [List.getD_eq_getElem?_getD]
      cases e : c[i * j % f.length]? with
      | none => simp
      | some z' => exact ih z' (List.mem_of_getElem? e)
    rw [Nat.succ_mul]
    rcases List.mem_or_eq_of_mem_set hz with hz | rfl
    · have := ih z hz; omega
    · by_cases hb : i * j / f.length % 2 = 0
      · rw [if_pos hb]; omega
      · rw [if_neg hb]; omega
theorem turned_bd {k j : Nat} {f : List Int} (h : ∀ z ∈ f, Bd k z) (hl : f.length ≤ 4) : ∀ z ∈ turnedOf f j, Bd (k + 3) z := fun z hz => by
  have h1 := turned_abs (j := j) h f.length z hz
  have h2 : f.length * 2 ^ k ≤ 4 * 2 ^ k := Nat.mul_le_mul_right _ hl
  have h3 := Nat.pow_pos (n := k) (show 0 < 2 by decide)
  unfold Bd
  rw [Nat.pow_add]
  omega
section
variable {g h h' : Heap} {L : Addr} {m : Str → Option Value} {l rest tl : List (Addr × Obj)} {d : Addr × Obj}
theorem OffAll.nil' {cs : List Addr} : OffAll cs [] := fun _ h => nomatch h
/-- as lw_more and lw_front, ahead of any list -/
theorem gl_more (F : Fr g L h m) (N : News g L h (l ++ rest)) (G : Grow h h') (f : ∀ p ∈ tl, Fresh h h' p.1 p.2) (OO : OffAll (l.map (·.1)) rest) :
    ∃ R, News g L h' (l ++ R) ∧ OffAll (l.map (·.1)) R ∧ (∀ p ∈ rest, p ∈ R) ∧ ∀ p ∈ tl, p ∈ R := by
  refine ⟨tl ++ rest, fun p hp => ?_, fun p hp c hc => ?_, fun _ h => List.mem_append_right _ h, fun _ h => List.mem_append_left _ h⟩
  · rcases List.mem_append.mp hp with hp | hp
    · exact ⟨G _ _ (N p (List.mem_append_left _ hp)).1, (N p (List.mem_append_left _ hp)).2⟩
    · rcases List.mem_append.mp hp with hp | hp
      · exact ⟨(f p hp).1, fresh_ne F (f p hp), (fresh_sub (f p hp) F.keep).2⟩
      · exact ⟨G _ _ (N p (List.mem_append_right _ hp)).1, (N p (List.mem_append_right _ hp)).2⟩
  · rcases List.mem_append.mp hp with hp | hp
    · intro e
      obtain ⟨q, hq, rfl⟩ := List.mem_map.mp hc
      have e2 := (f p hp).2
      rw [e, (N q (List.mem_append_left _ hq)).1] at e2
      cases e2
    · exact OO p hp c hc
theorem gl_front (N : News g L h (d :: (l ++ rest))) (o : ∀ p ∈ l ++ rest, p.1 ≠ d.1) (OO : OffAll (l.map (·.1)) rest) :
    ∃ R, News g L h (l ++ R) ∧ OffAll (l.map (·.1)) R ∧ (∀ p ∈ rest, p ∈ R) ∧ d ∈ R := by
  refine ⟨d :: rest, fun p hp => N p ?_, fun p hp c hc => ?_, fun _ h => List.mem_cons_of_mem _ h, List.mem_cons_self⟩
  · rcases List.mem_append.mp hp with hp | hp
    · exact List.mem_cons_of_mem _ (List.mem_append_left _ hp)
    · rcases List.mem_cons.mp hp with rfl | hp
      · exact List.mem_cons_self
      · exact List.mem_cons_of_mem _ (List.mem_append_right _ hp)
  · rcases List.mem_cons.mp hp with rfl | hp
    · obtain ⟨q, hq, rfl⟩ := List.mem_map.mp hc
      exact Ne.symm (o q (List.mem_append_left _ hq))
    · exact OO p hp c hc
end
theorem InstAt.of_led10 {g h : Heap} {L x C dx : Addr} {b a1 a2 a3 a4 a5 a6 a7 a8 a9 : Addr × Obj} {R : List (Addr × Obj)} {od : Obj} (N : News g L h (b :: a1 :: a2 :: a3 :: a4 :: a5 :: a6 :: a7 :: a8 :: a9 :: R)) (h1 : InLed R x (instObj C dx)) (h2 : InLed R dx od) :
    InstAt h x (instObj C dx) C (some od) :=
  have u := led_app (l := [b, a1, a2, a3, a4, a5, a6, a7, a8, a9]) (R := R) N
  ⟨u _ _ h1, rfl, rfl, u _ _ h2⟩

-- spec3
theorem OffAll.cons {c : Addr} {cs : List Addr} {R : List (Addr × Obj)} (h : ∀ p ∈ R, p.1 ≠ c) (o : OffAll cs R) : OffAll (c :: cs) R := fun p hp d hd => by
  rcases List.mem_cons.mp hd with rfl | hd
  · exact h p hp
  · exact o p hp d hd
theorem led10 {g h : Heap} {L : Addr} {b a1 a2 a3 a4 a5 a6 a7 a8 a9 : Addr × Obj} {R : List (Addr × Obj)} (N : News g L h (b :: a1 :: a2 :: a3 :: a4 :: a5 :: a6 :: a7 :: a8 :: a9 :: R)) : ∀ a o, InLed R a o → HeapIs h a o :=
  led_app (l := [b, a1, a2, a3, a4, a5, a6, a7, a8, a9]) N
theorem InstAt.of_heap {h : Heap} {x C dx : Addr} {od : Obj} (h1 : HeapIs h x (instObj C dx)) (h2 : HeapIs h dx od) : InstAt h x (instObj C dx) C (some od) := ⟨h1, rfl, rfl, h2⟩
theorem oneOf_sz {n kk : Nat} (h : 1 ≤ kk) : Sz kk (oneOf n) := by
  intro z hz
  simp only [oneOf, List.mem_cons, List.mem_replicate] at hz
  rcases hz with rfl | ⟨_, rfl⟩
  · exact h
  · exact Nat.zero_le _
theorem powGo_fact {q : Int} {n : Nat} (hn : 1 ≤ n) (hq : 2 ≤ q) (hq2 : q ≤ 100000) : ∀ (k e : Nat) (f g : List Int), g.length = n → (∀ z ∈ g, Bd 17 z) → (powGo q n k e f g).length = n ∧ ∀ z ∈ powGo q n k e f g, Bd 17 z
  | 0, e, f, g, hg, hb => ⟨hg, hb⟩
  | k + 1, e, f, g, hg, hb => by
    unfold powGo
    by_cases h0 : e = 0
    · rw [if_pos h0]; exact ⟨hg, hb⟩
    rw [if_neg h0]
    by_cases ho : e % 2 = 1
    · rw [if_pos ho]; exact powGo_fact hn hq hq2 k _ _ _ (schoolOf_length hn) (schoolOf_bd hq hq2)
    · rw [if_neg ho]; exact powGo_fact hn hq hq2 k _ _ _ hg hb
theorem powOf_fact {q : Int} {n : Nat} (hn : 1 ≤ n) (hq : 2 ≤ q) (hq2 : q ≤ 100000) (f : List Int) (e : Nat) : (powOf q n f e).length = n ∧ ∀ z ∈ powOf q n f e, Bd 17 z :=
  powGo_fact hn hq hq2 e e f (oneOf n) (by simp [oneOf]; omega) fun z hz => by
    simp only [oneOf, List.mem_cons, List.mem_replicate] at hz
    rcases hz with rfl | ⟨_, rfl⟩
    · unfold Bd; decide
    · exact Bd.zero
theorem Sz.of_bd {k kk : Nat} {c : List Int} (h : ∀ z ∈ c, Bd k z) (hk : k ≤ kk) : Sz kk c := fun z hz => Nat.le_trans (h z hz).bits hk
theorem get9 {g h : Heap} {L P : Addr} {o : Obj} {a1 a2 a3 a4 a5 a6 a7 a8 : Addr × Obj} {R : List (Addr × Obj)} (N : News g L h (a1 :: a2 :: a3 :: a4 :: a5 :: a6 :: a7 :: a8 :: (P, o) :: R)) : h.get? P = some o ∧ g.get? P = none :=
  have x := N (P, o) (by simp)
  ⟨x.1, x.2.2⟩
theorem join_S {M : Model} {A : Around} {E : Value → Shared → Prop} {s : Shared} {env : Env} {T : Sem Value} {body : List Stmt} {K : Flow → Shared → Prop} (P : Shared → Prop) (hK : Stop (∀ s', P s' → K .next s'))
    (h : wpAny M A T (fun c s₃ => wpAny M A (truthy c) (fun b s₂ => if b = true then wpAny M A (execs body env) (JoinEnd P) E s₂ else wpAny M A (execs [] env) (JoinEnd P) E s₂) E s₃) E s) :
    wpAny M A T (fun c s₃ => wpAny M A (truthy c) (fun b s₂ => if b = true then wpAny M A (execs body env) K E s₂ else wpAny M A (execs [] env) K E s₂) E s₃) E s := join_K P hK h

end
end Mine
namespace Mine
section
local macro_rules | `(tactic| k_room) => `(tactic| ktr_room)
local macro_rules | `(tactic| k_inst) => `(tactic| first
  | (refine' InstAt.of_base ?F ?h1 ?h2; (case F => k_asm); (case h1 => assumption); (case h2 => assumption))
  | (refine' InstAt.of_known ?F ?N ?h1 ?h2; (case F => k_asm); (case N => k_asm); (case h1 => assumption); (case h2 => assumption))
  | (refine' InstAt.of_news ?N ?h1 ?h2; (case N => k_asm); (case h1 => k_mem); (case h2 => k_mem))
  | fail "k_inst")
-- enter a def
local macro_rules | `(tactic| one_item) => `(tactic| (k_dflt (first
  | (refine' enter0 ?k1 ?k3 ?k5 ?k6 ?k7 ?k8 ?k9 ?kB ?_ ?c2 ?c3 ?c4 ?c5; (case k1 => k_asm); (case k3 => k_asm); (case k5 => k_asm); (case k6 => k_is); (case k7 => k_is); (case k8 => ktr_room); (case k9 => first | exact BindsTo.of_eq rfl | exact binds_K (by k_in) rfl (by k_is) rfl rfl rfl | fail "enter: no rule for these arguments"); (case c5 => decide); (case kB => exact locs rfl); (case c2 => exact rfl); (case c3 => exact rfl); (case c4 => exact rfl); k_whole; intro L' h' X' T' F' N'; (try dsimp only))
  | (refine' enterC ?k1 ?k3 ?k5 ?k6 ?k7 ?k8 ?k9 ?kB ?kD ?_ ?c2 ?c3 ?c4; (case k1 => k_asm); (case k3 => k_asm); (case k5 => k_asm); (case k6 => k_is); (case k7 => k_is); (case k8 => ktr_room); (case k9 => first | exact BindsTo.of_eq rfl | exact binds_K (by k_in) rfl (by k_is) rfl rfl rfl | fail "enter: no rule for these arguments"); (case kB => exact rfl); (case kD => decide +kernel); (case c2 => exact rfl); (case c3 => exact rfl); (case c4 => exact rfl); k_whole; intro L' h' tk' cells' X' T' F' N' Y'; k_cells Y'; (try dsimp only)))))
-- enter a def whose caller's objects (the first argument, given ahead) it turns
local macro_rules | `(tactic| tb_start) => `(tactic| (k_dflt ((case k1 => k_asm); (case k3 => k_asm); (case k5 => k_asm); (case k6 => k_is); (case k7 => k_is); (case k8 => ktr_room); (case k9 => first | exact BindsTo.of_eq rfl | exact binds_K (by k_in) rfl (by k_is) rfl rfl rfl | fail "enter: no rule for these arguments"); (case c5 => decide); (case kB => exact locs rfl); (case c2 => exact rfl); (case c3 => exact rfl); (case c4 => exact rfl); k_whole)))
-- the stops
local macro_rules | `(tactic| walk_at "call ref") => `(tactic| refine Stop.mk ?_)
local macro_rules | `(tactic| walk_at "exec For Name Call cons nil") => `(tactic| refine Stop.mk ?_)
local macro_rules | `(tactic| walk_at "exec For Name Name cons nil") => `(tactic| refine Stop.mk ?_)
local macro_rules | `(tactic| walk_at "exec For Name Attribute cons nil") => `(tactic| refine Stop.mk ?_)
local macro_rules | `(tactic| walk_at "exec For Name Call") => `(tactic| refine Stop.mk ?_)
local macro_rules | `(tactic| walk_at "exec For Name Name") => `(tactic| refine Stop.mk ?_)
local macro_rules | `(tactic| walk_at "exec For") => `(tactic| refine Stop.mk ?_)
local macro_rules | `(tactic| walk_at "exec While Compare") => `(tactic| refine Stop.mk ?_)
local macro_rules | `(tactic| walk_at "exec While BoolOp") => `(tactic| refine Stop.mk ?_)
local macro_rules | `(tactic| walk_at "exec While") => `(tactic| refine Stop.mk ?_)
local macro_rules | `(tactic| walk_at "eval ListComp") => `(tactic| refine Stop.mk ?_)
local macro_rules | `(tactic| walk_at "exec Assign cons ListComp") => `(tactic| refine Stop.mk ?_)
local macro_rules | `(tactic| walk_at "eval GeneratorExp") => `(tactic| refine Stop.mk ?_)
local macro_rules | `(tactic| walk_at "CompSrc") => `(tactic| refine Stop.mk ?_)
local macro_rules | `(tactic| walk_at "CompG") => `(tactic| refine Stop.mk ?_)
local macro_rules | `(tactic| walk_at "pyIter ref") => `(tactic| refine Stop.mk ?_)
local macro_rules | `(tactic| walk_at "FinA") => `(tactic| refine Stop.mk ?_)
local macro_rules | `(tactic| walk_at "FinE") => `(tactic| refine Stop.mk ?_)
local macro_rules | `(tactic| walk_at "IntsTurn") => `(tactic| refine Stop.mk ?_)
local macro_rules | `(tactic| walk_at "ListTurn") => `(tactic| refine Stop.mk ?_)
local macro_rules | `(tactic| walk_at "TurnG") => `(tactic| refine Stop.mk ?_)
local macro_rules | `(tactic| walk_at "WhileEnd") => `(tactic| refine Stop.mk ?_)
local macro_rules | `(tactic| walk_at "EltG") => `(tactic| refine Stop.mk ?_)
local macro_rules | `(tactic| walk_at "InvPostN") => `(tactic| refine Stop.mk ?_)
local macro_rules | `(tactic| walk_at "InvEndN") => `(tactic| refine Stop.mk ?_)
local macro_rules | `(tactic| walk_at "binaryOp Mult int int") => `(tactic| refine Stop.mk ?_)
local macro_rules | `(tactic| walk_at "setItem ref int") => `(tactic| refine Stop.mk ?_)
local macro_rules | `(tactic| walk_at "newList") => `(tactic| refine Stop.mk ?_)
local macro_rules | `(tactic| walk_at "call builtin:list.append") => `(tactic| refine Stop.mk ?_)
local macro_rules | `(tactic| walk_at "subscriptTail Name Slice ref ref") => `(tactic| refine Stop.mk ?_)
local macro_rules | `(tactic| walk_at "subscriptTail Attribute Slice ref ref") => `(tactic| refine Stop.mk ?_)
local macro_rules | `(tactic| walk_at "binaryOp Add ref ref") => `(tactic| refine Stop.mk ?_)
local macro_rules | `(tactic| walk_at "compareOp Eq ref ref") => `(tactic| refine Stop.mk ?_)
local macro_rules | `(tactic| walk_at "compareOp NotEq ref ref") => `(tactic| refine Stop.mk ?_)
local macro_rules | `(tactic| walk_at "binaryOp Pow int int") => `(tactic| refine Stop.mk ?_)
local macro_rules | `(tactic| walk_at "subscriptTail Name Name ref int") => `(tactic| (k_dflt (refine' sub_base ?k1 ?k2 ?k3 ?k4 ?k5 ?k6 ?_ ?k7; (case k1 => k_asm); (case k2 => assumption); (case k3 => assumption); (case k4 => omega); (case k5 => omega); (case k6 => omega); (case k7 => with_unfolding_all rfl); k_whole); intro _))
local macro_rules | `(tactic| walk_at "subscriptTail Name BinOp ref int") => `(tactic| (k_dflt (refine' sub_base ?k1 ?k2 ?k3 ?k4 ?k5 ?k6 ?_ ?k7; (case k1 => k_asm); (case k2 => assumption); (case k3 => assumption); (case k4 => omega); (case k5 => omega); (case k6 => omega); (case k7 => with_unfolding_all rfl); k_whole); intro _))
local macro_rules | `(tactic| walk_at "subscriptTail Name Constant ref int") => `(tactic| (k_dflt (refine' sub_base ?k1 ?k2 ?k3 ?k4 ?k5 ?k6 ?_ ?k7; (case k1 => k_asm); (case k2 => assumption); (case k3 => assumption); (case k4 => omega); (case k5 => omega); (case k6 => omega); (case k7 => with_unfolding_all rfl); k_whole); intro _))
local macro_rules | `(tactic| walk_at "subscriptTail Attribute") => `(tactic| (k_dflt (refine' sub_base ?k1 ?k2 ?k3 ?k4 ?k5 ?k6 ?_ ?k7; (case k1 => k_asm); (case k2 => assumption); (case k3 => assumption); (case k4 => omega); (case k5 => omega); (case k6 => omega); (case k7 => with_unfolding_all rfl); k_whole); intro _))
local macro_rules | `(tactic| walk_at "subscriptTail") => `(tactic| (k_dflt (refine' sub_base ?k1 ?k2 ?k3 ?k4 ?k5 ?k6 ?_ ?k7; (case k1 => k_asm); (case k2 => assumption); (case k3 => assumption); (case k4 => omega); (case k5 => omega); (case k6 => omega); (case k7 => with_unfolding_all rfl); k_whole); intro _))

local macro_rules | `(tactic| walk_at "call builtin:len") => `(tactic| (k_dflt (first
  | (refine' len_base ?k1 ?k2 ?k3 ?k4 ?_; (case k1 => k_asm); (case k2 => assumption); (case k3 => first | assumption | exact IntsAre.length (by assumption)); (case k4 => omega); k_whole)
  | (refine' len_led ?k1 ?k2 ?k3 ?k4 ?_; (case k1 => k_asm); (case k2 => k_mem); (case k3 => first | assumption | exact IntsAre.length (by assumption)); (case k4 => omega); k_whole))))
local macro_rules | `(tactic| walk_at "call builtin:isinstance") => `(tactic| (k_dflt (refine' kia_one kitx_list ?X ?p ?ee ?nb ?_; (case X => k_in); (case p => first | exact ⟨_, Fr.keep (by k_asm) _ _ (by assumption), rfl⟩ | exact ⟨_, (News.get (by k_asm) (by k_mem)), rfl⟩); (case ee => kit_is); (case nb => kit_nb); k_whole); intro _))
local macro_rules | `(tactic| walk_at "CmpBack") => `(tactic| dsimp only [PySem.W.CmpBack])
local macro_rules | `(tactic| tb_rel) => `(tactic| (refine Stop.out ?_; (try dsimp only [List.cons_append, List.nil_append])))
-- a turn's end: the names that it turns; the other names
local macro_rules | `(tactic| kwd_inv) => `(tactic| (intro p hp; (try dsimp only at hp); (simp only [List.mem_cons, List.not_mem_nil, or_false] at hp); first | (rcases hp with rfl | rfl | rfl | rfl <;> first | rfl | assumption) | (rcases hp with rfl | rfl | rfl <;> first | rfl | assumption) | (rcases hp with rfl | rfl <;> first | rfl | assumption) | (subst hp; first | rfl | assumption)))
local macro_rules | `(tactic| kwd_less) => `(tactic| (intro z h2 h3; (try dsimp only at h2); (simp only [List.forall_mem_cons, List.not_mem_nil, false_implies, implies_true, and_true, ne_eq] at h2); (try simp only [List.contains_cons, List.contains_nil, Bool.or_false, Bool.or_eq_false_iff, beq_eq_false_iff_ne, ne_eq] at h3); first | rfl | (simp [h2]; done) | (simp [h2, h3]; done)))
local macro_rules | `(tactic| kwd_rel) => `(tactic| (intro z h1 h2 h3; (try dsimp only at h2); (simp only [List.contains_cons, List.contains_nil, Bool.or_false, Bool.or_eq_false_iff, beq_eq_false_iff_ne, ne_eq] at h3); (try simp only [List.forall_mem_cons, List.not_mem_nil, false_implies, implies_true, and_true, ne_eq] at h2); first | rfl | (simp [h1, h2, h3]; done) | (simp [h1, h3]; done) | (simp [h1, h2]; done) | (simp [h1]; done)))
local macro_rules | `(tactic| one_place) => `(tactic| ((repeat' (first | (k_unfold; (try dsimp only)) | walk1 | (dsimp only; walk1) | fail "no step")); (all_goals (try k_data))))
local macro_rules | `(tactic| one_sign) => `(tactic| (intro z h1 h3; (simp only [List.contains_cons, List.contains_nil, Bool.or_false, Bool.or_eq_false_iff, beq_eq_false_iff_ne, ne_eq] at h3); first | rfl | (simp [h1, h3]; done) | (simp [h1]; done)))
-- names in a generator
local macro_rules | `(tactic| walk_at "eval Name") => `(tactic| ((with_reducible refine inGen ?_); k_dflt (first
  | (refine' ldVarG ?gF ?gv ?_ ?g1 ?g2 ?g3; (case g1 => with_unfolding_all rfl); (case g2 => with_unfolding_all rfl); (case g3 => decide); (case gF => k_asm); (case gv => assumption); k_whole)
  | (refine' gen_free ?gN ?gc ?gm ?gd ?_ ?g1 ?g2 ?g3 ?g4; (case g1 => with_unfolding_all rfl); (case g2 => with_unfolding_all rfl); (case g3 => decide); (case g4 => decide); (case gc => with_unfolding_all rfl); (case gN => k_asm); (case gm => k_mem); (case gd => k_asm); k_whole))))
local macro_rules | `(tactic| walk_at "subscriptTail Name Constant ref int") => `(tactic| refine Stop.mk ?_)
local macro_rules | `(tactic| walk_at "subscriptTail Subscript Name ref int") => `(tactic| refine Stop.mk ?_)
local macro_rules | `(tactic| walk_at "subscriptTail Name Name ref int") => `(tactic| refine Stop.mk ?_)
local macro_rules | `(tactic| k_mem) => `(tactic| ((repeat (first | (exact List.Mem.head _) | (with_reducible assumption) | (with_reducible exact InLed.mem (by assumption)) | (refine List.Mem.tail _ ?_))); done))
local macro_rules | `(tactic| k_all) => `(tactic| first | exact List.forall_mem_nil _ | (refine' OffAll.get ?oh ?oc; (case oh => assumption); (case oc => k_mem)) | (refine' List.forall_mem_cons.mpr ⟨?a, ?b⟩; (case a => k_ne); (case b => k_all)))
local macro_rules | `(tactic| k_inst) => `(tactic| first | (refine' InstAt.of_led9 ?N ?h1 ?h2; (case N => k_asm); (case h1 => with_reducible assumption); (case h2 => with_reducible assumption)) | fail "k_inst9")
local macro_rules | `(tactic| walk_at "eval Name") => `(tactic| ((with_reducible show wpAny _ _ (eval (Expr.Name _ _) (compEnvC _ _ _ _)) _ _ _); (with_reducible rename Fr _ _ _ _ => kF); k_dflt (refine' nameB_CC kF ?k1 ?k2 ?k3 ?k4 ?k5 ?_ ?k6 ?k7 ?k8 ?k9 ?kA; (case k6 => rfl); (case k7 => rfl); (case k8 => rfl); (case k9 => rfl); (case kA => decide); (case k1 => k_asm); (case k2 => k_asm); (case k3 => k_is); (case k4 => boot_by_name); (case k5 => decide); k_whole)))
local macro_rules | `(tactic| walk_at "compareOp NotEq int int") => `(tactic| refine Stop.mk ?_)
local macro_rules | `(tactic| k_inst) => `(tactic| first | (refine' InstAt.of_led10 ?N ?h1 ?h2; (case N => k_asm); (case h1 => with_reducible assumption); (case h2 => with_reducible assumption)) | fail "k_inst10")
local macro_rules | `(tactic| k_inst) => `(tactic| first | (refine' InstAt.of_heap ?h1 ?h2; (case h1 => with_reducible assumption); (case h2 => with_reducible assumption)) | fail "k_instH")

-- law_a
theorem cell_tok {o : Obj} {z : Int} {t : Tok} (h : o.data = .cell (some (.int z t))) : ∃ t, o.data = .cell (some (.int z t)) := ⟨t, h⟩
theorem fr_tok {h₀ h : Heap} {L : Addr} {m : Str → Option Value} {x : Str} {z : Int} {t : Tok} (F : Fr h₀ L h (fun y => if y = x then some (.int z t) else m y)) : ∃ t, Fr h₀ L h (fun y => if y = x then some (.int z t) else m y) := ⟨t, F⟩
structure Wrap (P : Prop) : Prop where
  h : P
def LawT : Prop := ∀ {prog : Program} {w : World} {p : Program} {loose : List Str} {mg mb : Str → Option Value}
    {dp un : Nat} {fr : Option (List Env)} {gd : Option (List Code)} {h₀ : Heap} {s : Shared} {Q E : Value → Shared → Prop} {l : Nat} {vs : List Value} {ns : List Int} {mgB : Str → Option Value} {bm : Addr} {ob : Obj} {kk : Nat} {q : Int} {n e : Nat} {x y : List Int}
    (hsub : Grow h₀ s.heap) (KX : (heapK w.params).In h₀) (T : TopRead p loose mg mb h₀) (MB : BMod h₀ mainGlobals mgB bm ob)
    (hl : h₀.IsList l vs.toArray) (hi : IntsAre vs ns) (hlen : ns.length ≤ 63)
    (hP1 : s.heap.get? 86 = some (tabObj #[])) (hP10 : h₀.get? 86 = none)
    (hP2 : s.heap.get? 266 = some (tabObj #[])) (hP20 : h₀.get? 266 = none)
    (hqd : 2 + (if atOf ns 0 + 1 < 0 then -(atOf ns 0 + 1) else atOf ns 0 + 1).fmod 99991 = q) (hnd : 1 + (atOf ns 1).fmod 4 = (n : Int)) (hed : (atOf ns 11).fmod 6 = (e : Int))
    (hxd : x = lawV ns n 3) (hyd : y = lawV ns n 7) (ok : LawOk q n e x y)
    (hq : 2 ≤ q) (hq2 : q ≤ 100000) (hn : 1 ≤ n) (hn2 : n ≤ 4) (he : e ≤ 5) (hb : ∀ i, i ≤ 20 → Bd kk (atOf ns i)) (hkk : kk * 10 + 200 ≤ 134217728)
    (hd : dp + 20 < recursionLimit) (hu : un + 300 < cLine)
    (ret : ∀ s' ps1 ps2, Grow h₀ s'.heap → s'.heap.get? 86 = some (tabObj ps1) → s'.heap.get? 266 = some (tabObj ps2) → Same s s' → Q (.bool true) s'),
    wpAny (model prog w) (Ar dp fr gd un) (call (.ref 269) [.ref l]) Q E s
noncomputable def seg_law_a : {P : Prop // Wrap P → LawT} := ⟨_, fun hP => by
  unfold LawT
  intro prog w p loose mg mb dp un fr gd h₀ s Q E l vs ns mgB bm ob kk q n e x y hsub KX T MB hl hi hlen hP1 hP10 hP2 hP20 hqd hnd hed hxd hyd ok hq hq2 hn hn2 he hb hkk hd hu ret
  refine wpAny_call ?_
  k_dflt (refine' enterHC [(86, tabObj #[]), (266, tabObj #[])] ?k1u1 ?k3u1 ?k5u1 (fun p hp => ?_) ?k6u1 ?k7u1 ?k8u1 ?k9u1 ?kBu1 ?kDu1 ?_ ?c2u1 ?c3u1 ?c4u1)
  case k1u1 => k_asm
  case k3u1 => k_asm
  case k5u1 => k_asm
  case k6u1 => k_is
  case k7u1 => k_is
  case k8u1 => ktr_room
  case k9u1 => exact BindsTo.of_eq rfl
  case kBu1 => exact rfl
  case kDu1 => decide +kernel
  case c2u1 => exact rfl
  case c3u1 => exact rfl
  case c4u1 => exact rfl
  · simp only [List.mem_cons, List.not_mem_nil, or_false] at hp
    rcases hp with rfl | rfl
    · exact ⟨hP1, hP10⟩
    · exact ⟨hP2, hP20⟩
  intro g L' h₁ tk cells G1 G2 G3 G4 G5 KG TG F N Y lo hi2
  obtain ⟨o1, o2, o3, o4, o5, o6, o7, hE, d1, d2, d3, d4, d5, d6, d7⟩ := PyProof.Rows.kc_seven Y
  subst hE
  clear Y
  simp only [List.cons_append, List.nil_append] at N
  have lo1 : @LT.lt Nat _ 86 L' := lo _ List.mem_cons_self
  have lo2 : @LT.lt Nat _ 266 L' := lo _ (List.mem_cons_of_mem _ List.mem_cons_self)
  clear lo hi2
  replace d1 : _ = Data.cell none := d1
  replace d2 : _ = Data.cell none := d2
  replace d3 : _ = Data.cell none := d3
  replace d4 : _ = Data.cell none := d4
  replace d5 : _ = Data.cell none := d5
  replace d6 : _ = Data.cell none := d6
  replace d7 : _ = Data.cell (some (.ref l)) := d7
  replace F : Fr g L' h₁ (fun _ => none) := F
  have gl := isl_up hl G1
  have MG := MB.keeps G1
  clear hP1 hP2 G2 G3 G4 G5 KX T hl
  one_place
  rename Fr _ _ _ _ => F1
  rename News _ _ _ _ => N1
  tb_rel
  refine lawAt (i := 0) F1.keep KG TG (isl_up gl F1.keep) hi (by omega) (by decide) (by ktr_room) ?_
  intro s1 t1 H1 S1
  replace N1 := N1.grown H1
  replace F1 := F1.keeps H1
  one_place
  rename Fr _ _ _ _ => F2
  rename News _ _ _ _ => N2
  rename (_ = Data.cell (some (Value.int (2 + _) _))) => dq
  rw [hqd] at dq
  obtain ⟨tq, dq'⟩ := cell_tok dq
  clear dq
  have SS : Same s s1 := (Same.put s _ _).trans S1
  clear H1
  tb_rel
  refine lawAt (i := 1) F2.keep KG TG (isl_up gl F2.keep) hi (by omega) (by decide) (by ktr_room) ?_
  intro s2 t2 H2 S2
  replace N2 := N2.grown H2
  replace F2 := F2.keeps H2
  replace SS := (SS.trans (Same.put _ _ _)).trans S2
  clear S2 H2 S1
  one_place
  rename Fr _ _ _ _ => F3
  rename News _ _ _ _ => N3
  rename (_ = Data.cell (some (Value.int (1 + _) _))) => dn
  rw [hnd] at dn
  obtain ⟨tn, dn'⟩ := cell_tok dn
  clear dn
  tb_rel
  refine lawAt (i := 11) F3.keep KG TG (isl_up gl F3.keep) hi (by omega) (by decide) (by ktr_room) ?_
  intro s3 t3 H3 S3
  replace N3 := N3.grown H3
  replace F3 := F3.keeps H3
  replace SS := (SS.trans (Same.put _ _ _)).trans S3
  clear S3 H3
  one_place
  rename Fr _ _ _ _ => F4
  rename News _ _ _ _ => N4
  rw [hed] at F4
  obtain ⟨te, F4⟩ := fr_tok F4
  tb_rel
  refine ringNew F4.keep KG TG (by ktr_room) ?_
  intro s4 rg H4 S4 hrg
  obtain ⟨dr, tr1, tr2, tr3, tr4, hr1, hr2⟩ := hrg
  obtain ⟨N4, OO⟩ := lw_tl F4 N4 H4 (fresh2 (a := (_, _)) (b := (_, _)) hr1 hr2) OffAll.nil
  simp only [List.cons_append, List.nil_append] at OO N4
  replace F4 := F4.keeps H4
  replace SS := (SS.trans (Same.put _ _ _)).trans S4
  clear S4 H4 hr1 hr2
  one_place
  refine Stop.out ?_
  k_dflt (refine assign_ListComp_G (by k_asm) rfl (by with_unfolding_all rfl) (by with_unfolding_all rfl) (by decide) (by rfl) (by decide) (by rfl) (by rfl) (by rfl) ?_)
  one_place
  refine Stop.out ?_
  rename IsRange _ _ _ _ _ _ _ _ => R5
  refine (CompG.rangeInts (n := n) (fun u => atOf ns (3 + u)) rfl (by k_asm) (by k_asm) R5 (small_one (by decide) (by decide) (by omega) (by omega)) (by rw [rangeSize_nat]; omega) (by rw [sizeLine_eq]; omega) ?_ ?_)
  · intro i t I oI C oC D ys m₂ s₁ E' hi' hC hx S F N
    have e1 : (3 : Int) + (0 + (i : Int)) = ((3 + i : Nat) : Int) := by omega
    k_dflt one_place
    rw [e1]
    rename Fr _ _ _ _ => F6
    rename News _ _ _ _ => N6
    tb_rel
    refine lawAt F6.keep KG TG (isl_up gl F6.keep) hi (by omega) (by omega) (by ktr_room) ?_
    intro s6 t6 H6 S6
    one_place
    exact IntBackG.mk rfl ((Same.put _ _ _).trans S6) (F6.keeps H6) (N6.grown H6)
  intro D5 ys5 s5 hx5 S5 F5 N5 off5 Dx s6 eD S6 F6 N6
  obtain rfl := Value.ref.inj eD
  replace SS := (SS.trans (Same.put _ _ _)).trans (S5.trans S6)
  replace F6 : Fr g L' s6.heap _ := F6
  obtain ⟨N6, OO⟩ := lw_one N6 off5 OO
  dsimp only at OO F6
  replace N6 : News g L' s6.heap _ := N6
  clear S5 S6 F5 N5 off5 R5 eD
  one_place
  refine Stop.out (wpAny_Assign_Name ?_)
  one_place
  refine Stop.out ?_
  k_dflt (refine eval_ListComp_G (by k_asm) (by with_unfolding_all rfl) (by decide) (by rfl) (by decide) (by rfl) ?_)
  one_place
  refine Stop.out ?_
  rename IsRange _ _ _ _ _ _ _ _ => R5
  refine (CompG.rangeInts (n := n) (fun u => atOf ns (7 + u)) rfl (by k_asm) (by k_asm) R5 (small_one (by decide) (by decide) (by omega) (by omega)) (by rw [rangeSize_nat]; omega) (by rw [sizeLine_eq]; omega) ?_ ?_)
  · intro i t I oI C oC D ys m₂ s₁ E' hi' hC hx S F N
    have e1 : (7 : Int) + (0 + (i : Int)) = ((7 + i : Nat) : Int) := by omega
    k_dflt one_place
    rw [e1]
    rename Fr _ _ _ _ => F6
    rename News _ _ _ _ => N6
    tb_rel
    refine lawAt F6.keep KG TG (isl_up gl F6.keep) hi (by omega) (by omega) (by ktr_room) ?_
    intro s6 t6 H6 S6
    one_place
    exact IntBackG.mk rfl ((Same.put _ _ _).trans S6) (F6.keeps H6) (N6.grown H6)
  intro D6 ys6 s7 hy6 S5 F5 N5 off5
  obtain ⟨N5, OO⟩ := lw_one N5 off5 OO
  dsimp only at OO
  replace F5 : Fr g L' s7.heap _ := F5
  replace N5 : News g L' s7.heap _ := N5
  replace SS := (SS.trans (Same.put _ _ _)).trans S5
  clear S5 off5 R5
  one_place
  have hx6 : IntsAre ys5 x := by rw [hxd]; exact hx5
  have hy6' : IntsAre ys6 y := by rw [hyd]; exact hy6
  have hlenx : x.length = n := by rw [hxd]; simp [lawV]
  have hleny : y.length = n := by rw [hyd]; simp [lawV]
  clear hx5 hy6
  refine Stop.out ?_
  rename Fr _ _ _ _ => F8
  rename News _ _ _ _ => N8
  k_dflt (refine' slice_all (F := F8) (N := N8) (l := D5) (vs := ys5) ?hlu2 ?zu2 ?_ ?ssu2 ?ttu2)
  case hlu2 => exact isList_led N8 (by k_mem)
  case zu2 => rw [hx6.length, hlenx, sizeLine_eq]; omega
  case ssu2 => with_unfolding_all rfl
  case ttu2 => intro _; with_unfolding_all rfl
  intro D8 h8 Fa8 Na8 Oa8
  obtain ⟨Na8, OO⟩ := lw_one Na8 Oa8 OO
  dsimp only at OO
  one_place
  tb_rel
  refine ringList Fa8.keep KG TG ⟨dr, tr1, tr2, tr3, tr4, led_is Na8 (by k_mem), led_is Na8 (by k_mem)⟩ ⟨ys5, 0, led_is Na8 (by k_mem), hx6⟩ hlenx (by omega) (by ktr_room) ?_
  intro s8 xf dxf tpf tcf H8 S8 f1 f2
  obtain ⟨N9, OO⟩ := lw_tl Fa8 Na8 H8 (fresh2 (a := (_, _)) (b := (_, _)) f1 f2) OO
  simp only [List.cons_append, List.nil_append] at OO N9
  have F9 := Fa8.keeps H8
  replace SS := (SS.trans (Same.put _ _ _)).trans S8
  clear S8 H8 f1 f2 Fa8 Na8 Oa8
  one_place
  refine Stop.out ?_
  rename Fr _ _ _ _ => F10
  rename News _ _ _ _ => N10
  k_dflt (refine' slice_all (F := F10) (N := N10) (l := D6) (vs := ys6) ?hlu3 ?zu3 ?_ ?ssu3 ?ttu3)
  case hlu3 => exact isList_led N10 (by k_mem)
  case zu3 => rw [hy6'.length, hleny, sizeLine_eq]; omega
  case ssu3 => with_unfolding_all rfl
  case ttu3 => intro _; with_unfolding_all rfl
  intro D10 h10 Fa10 Na10 Oa10
  obtain ⟨Na10, OO⟩ := lw_one Na10 Oa10 OO
  dsimp only at OO
  one_place
  tb_rel
  refine ringList Fa10.keep KG TG ⟨dr, tr1, tr2, tr3, tr4, led_is Na10 (by k_mem), led_is Na10 (by k_mem)⟩ ⟨ys6, 0, led_is Na10 (by k_mem), hy6'⟩ hleny (by omega) (by ktr_room) ?_
  intro s10 xg dxg tpg tcg H10 S10 f1 f2
  obtain ⟨N11, OO⟩ := lw_tl Fa10 Na10 H10 (fresh2 (a := (_, _)) (b := (_, _)) f1 f2) OO
  simp only [List.cons_append, List.nil_append] at OO N11
  have F11 := Fa10.keeps H10
  replace SS := (SS.trans (Same.put _ _ _)).trans S10
  clear S10 H10 f1 f2 Fa10 Na10 Oa10
  one_place
  refine Stop.out ?_
  k_dflt (refine assign_ListComp_G (by k_asm) rfl (by with_unfolding_all rfl) (by with_unfolding_all rfl) (by decide) (by rfl) (by decide) (by rfl) (by rfl) (by rfl) ?_)
  one_place
  refine Stop.out ?_
  rename IsRange _ _ _ _ _ _ _ _ => R11
  have ern : (n : Int) - 1 = ((n - 1 : Nat) : Int) := by omega
  refine (CompG.rangeInts (n := n - 1) (fun _ => 0) rfl (by k_asm) (by k_asm) R11 (small_one (by decide) (by decide) (by omega) (by omega)) (by rw [ern, rangeSize_nat]; omega) (by rw [sizeLine_eq]; omega) ?_ ?_)
  · intro i t I oI C oC D ys m₂ s₁ E' hi' hC hx S F N
    k_dflt one_place
    exact IntBackG.mk rfl (Same.put _ _ _) (by k_asm) (by k_asm)
  intro D11 ys11 s11 hn11 S5 F5 N5 off5 Dx s12 eD S12 F12 N12
  obtain rfl := Value.ref.inj eD
  have hn12 : IntsAre ys11 (noughts n) := by
    have e : (List.range (n - 1)).map (fun _ => (0 : Int)) = noughts n := by unfold noughts; apply List.ext_getElem <;> simp
    rw [← e]; exact hn11
  replace SS := (SS.trans (Same.put _ _ _)).trans (S5.trans S12)
  replace F12 : Fr g L' s12.heap _ := F12
  obtain ⟨N12, OO⟩ := lw_one N12 off5 OO
  dsimp only at OO F12
  replace N12 : News g L' s12.heap _ := N12
  clear S5 S12 F5 N5 off5 R11 eD hn11
  one_place
  rename Fr _ _ _ _ => F13
  rename News _ _ _ _ => N13
  tb_rel
  refine lawTable F13.keep KG TG (led_is N13 (by k_mem)) hx6 (by omega) (by ktr_room) ?_
  intro s13 tb ktb wtb tlt H13 S13 f1 f2 hrows
  obtain ⟨N14, OO⟩ := lw_both F13 N13 H13 (fresh1 (a := (_, _)) f1) f2 OO
  simp only [List.cons_append, List.nil_append] at OO N14
  have F14 := F13.keeps H13
  replace SS := (SS.trans (Same.put _ _ _)).trans S13
  clear S13 H13 f1 f2 F13 N13
  one_place
  have hxb : ∀ z ∈ x, Bd kk z := fun z hz => by
    rw [hxd] at hz
    obtain ⟨u, hur, rfl⟩ := List.mem_map.mp hz
    exact hb _ (by have := List.mem_range.mp hur; omega)
  have hyb : ∀ z ∈ y, Bd kk z := fun z hz => by
    rw [hyd] at hz
    obtain ⟨u, hur, rfl⟩ := List.mem_map.mp hz
    exact hb _ (by have := List.mem_range.mp hur; omega)
  have hsq : Sq kk n (tableOf x) := by have := tableOf_sq hxb; rw [hlenx] at this; exact this
  refine Stop.out (wpAny_Assign_Name ?_)
  one_place
  refine Stop.out ?_
  k_dflt (refine eval_ListComp_G (by k_asm) (by with_unfolding_all rfl) (by decide) (by rfl) (by decide) (by rfl) ?_)
  one_place
  refine Stop.out ?_
  rename IsRange _ _ _ _ _ _ _ _ => R14
  refine (CompG.rangeInts (n := n) (fun c => (-1) ^ c * detOf (n - 1) (minorOf (tableOf x) c)) rfl (by k_asm) (by k_asm) R14 (small_one (by decide) (by decide) (by omega) (by omega)) (by rw [rangeSize_nat]; omega) (by rw [sizeLine_eq]; omega) ?_ ?_)
  · intro i t I oI C oC D ys m₂ s₁ E' hi' hC hx S F N
    rw [Int.zero_add] at hx
    have e1 : ((i : Int)).toNat = i := Int.toNat_natCast i
    have b1 : Bd 1 ((-1 : Int) ^ i) := by unfold Bd; rw [natAbs_sign]; decide
    have hsm : Sq kk (n - 1) (minorOf (tableOf x) i) := Sq.minor (m := n - 1) (by rw [show n - 1 + 1 = n by omega]; exact hsq) (by omega)
    have b3 := detOf_bd (by omega : n - 1 ≤ 4) hsm
    have hmk : (n - 1) * (kk + 3) ≤ 3 * (kk + 3) := Nat.mul_le_mul_right _ (by omega)
    have mu := b1.ok b3 (by omega)
    k_dflt one_place
    refine Stop.out (pow_int_small (by omega) (by omega) (by decide) ?_)
    rw [e1]
    k_dflt one_place
    rename Fr _ _ _ _ => F15
    rename News _ _ _ _ => N15
    tb_rel
    refine lawMinor F15.keep KG TG (led_is N15 (by k_mem)) (hrows.mono fun a o h => led_is N15 (by repeat (first | exact h | apply List.mem_cons_of_mem))) (by rw [hsq.1]; omega) (fun r hr => by rw [(hsq.2 r hr).1]; omega) (by omega) (by ktr_room) ?_
    intro s15 om km wm tlm H15 S15 f1 f2 hrm
    have N16 := news_add (F15.keeps H15) (news_tl F15 N15 H15 f2) (fresh_sub f1 F15.keep) (fresh_ne F15 f1)
    have F16 := F15.keeps H15
    k_dflt one_place
    rename Fr _ _ _ _ => F17
    rename News _ _ _ _ => N17
    tb_rel
    refine lawDet (k := kk) (by omega) (n - 1) (by omega) F17.keep KG TG (led_is N17 List.mem_cons_self) (hrm.mono fun a o h => led_is N17 (List.mem_cons_of_mem _ (List.mem_append_left _ h))) hsm (by ktr_room) ?_ ?_
    · have := cLine_is; show un + 3 + 10 * (n - 1) + 100 < cLine; omega
    intro s17 t17 H17 S17
    have N18 := N17.grown H17
    have F18 := F17.keeps H17
    k_dflt one_place
    refine Stop.out (mul_ok mu ?_)
    k_dflt one_place
    rename Fr _ _ _ _ => F19
    rename News _ _ _ _ => N19
    exact IntBackG.mk rfl ((((Same.put _ _ _).trans S15).trans ((Same.put _ _ _).trans S17)).trans (Same.put _ _ _)) F19 (fun p hp => N19 p (List.mem_cons_of_mem _ (List.mem_append_right _ hp)))
  intro D14 ys14 s14 hc14 S5 F5 N5 off5
  obtain ⟨N5, OO⟩ := lw_one N5 off5 OO
  dsimp only at OO
  replace F5 : Fr g L' s14.heap _ := F5
  replace N5 : News g L' s14.heap _ := N5
  replace hc14 : IntsAre ys14 (cofOf n (tableOf x)) := hc14
  replace SS := (SS.trans (Same.put _ _ _)).trans S5
  clear S5 off5 R14
  one_place
  rename News _ _ _ _ => N15
  rename Fr _ _ _ _ => F15
  obtain ⟨R, NR, OR, RG, XL, YL, PF, PG, NO, mTB, RO, CO⟩ := lw_hide (fun R => RingOn w (InLed R) rg q n ∧ IntsOn (InLed R) D5 x ∧ IntsOn (InLed R) D6 y ∧ PolyOn w (InLed R) xf rg x ∧ PolyOn w (InLed R) xg rg y ∧ IntsOn (InLed R) D11 (noughts n) ∧ InLed R tb (listOf wtb.toArray ktb) ∧ RowsAre (InLed R) wtb (tableOf x) ∧ IntsOn (InLed R) D14 (cofOf n (tableOf x))) N15 OO (by
    refine ⟨⟨dr, tr1, tr2, tr3, tr4, ?_, ?_⟩, ⟨ys5, ys5.length, ?_, hx6⟩, ⟨ys6, ys6.length, ?_, hy6'⟩, ⟨dxf, D8, tpf, tcf, ?_, ?_, ys5, 0, ?_, hx6⟩, ⟨dxg, D10, tpg, tcg, ?_, ?_, ys6, 0, ?_, hy6'⟩, ⟨ys11, ys11.length, ?_, hn12⟩, ?_, hrows.mono fun a o h => ?_, ⟨ys14, ys14.length, ?_, hc14⟩⟩
    all_goals (try unfold InLed)
    all_goals first | (unfold InLed at h; (repeat (first | exact h | apply List.mem_cons_of_mem)); done) | k_mem)
  clear N15 OO hx6 hy6' hn12 hrows hc14
  (repeat clear OO)
  clear N6 N12
  rename_i ca0 ca1 ca2 ca3 ca4 ca5 ca6 ca7 ca8 ca9 ca10 ca11 ca12 ca13 ca14 ca15 ca16 ca17 ca18 ca19 ca20 ca21 ca22 ca23 ca24 ca25 ca26 ca27 ca28 ca29 ca30 ca31 ca32 ca33 ca34 ca35 ca36 ca37 ca38 ca39 ca40 ca41 ca42 ca43 ca44 ca45 ca46 ca47 ca48
  revert prog w p loose mg mb dp un fr gd h₀ s Q E l vs ns mgB bm ob kk q n e x y hsub MB hi hlen hP10 hP20 hqd hnd hed hxd hyd ok hq hq2 hn hn2 he hb hkk hd hu ret g L' h₁ ca0 G1 KG TG o1 o2 o3 o4 o5 o6 o7 lo1 lo2 d1 d2 d3 d4 d5 d6 d7 gl MG s1 t1 ca1 ca2 ca3 ca4 ca5 tq dq' s2 t2 ca6 ca7 ca8 tn dn' s3 t3 ca9 ca10 te s4 rg dr tr1 tr2 tr3 tr4 ca11 ca12 ca13 ca14 ca15 ca16 ca17 ca18 D5 ys5 s5 s6 ca19 ca20 ca21 ca22 ca23 ca24 D6 ys6 s7 ca25 ca26 ca27 hlenx hleny D8 h8 s8 xf dxf tpf tcf ca28 ca29 D10 h10 s10 xg dxg tpg tcg ca30 tk ca31 ca32 ca33 ca34 ca35 ca36 ern D11 ys11 s11 s12 s13 tb ktb wtb tlt ca37 ca38 ca39 hxb hyb hsq ca40 ca41 ca42 ca43 ca44 ca45 D14 ys14 s14 SS ca46 ca47 F15 ca48 R NR OR RG XL YL PF PG NO mTB RO CO
  exact @Wrap.h _ hP
  ⟩

-- law_b
noncomputable def seg_law_b : {P : Prop // Wrap P → seg_law_a.1} := ⟨_, fun hP => by
  delta seg_law_a
  intro prog w p loose mg mb dp un fr gd h₀ s Q E l vs ns mgB bm ob kk q n e x y hsub MB hi hlen hP10 hP20 hqd hnd hed hxd hyd ok hq hq2 hn hn2 he hb hkk hd hu ret g L' h₁ ca0 G1 KG TG o1 o2 o3 o4 o5 o6 o7 lo1 lo2 d1 d2 d3 d4 d5 d6 d7 gl MG s1 t1 ca1 ca2 ca3 ca4 ca5 tq dq' s2 t2 ca6 ca7 ca8 tn dn' s3 t3 ca9 ca10 te s4 rg dr tr1 tr2 tr3 tr4 ca11 ca12 ca13 ca14 ca15 ca16 ca17 ca18 D5 ys5 s5 s6 ca19 ca20 ca21 ca22 ca23 ca24 D6 ys6 s7 ca25 ca26 ca27 hlenx hleny D8 h8 s8 xf dxf tpf tcf ca28 ca29 D10 h10 s10 xg dxg tpg tcg ca30 tk ca31 ca32 ca33 ca34 ca35 ca36 ern D11 ys11 s11 s12 s13 tb ktb wtb tlt ca37 ca38 ca39 hxb hyb hsq ca40 ca41 ca42 ca43 ca44 ca45 D14 ys14 s14 SS ca46 ca47 F15 ca48 R NR OR RG XL YL PF PG NO mTB RO CO
  rename News _ _ _ _ => N15
  have CG : CodeHd g 268 266 := codeHd_of_K KG (by kernel_rfl)
  have CI : CodeHd g 90 86 := codeHd_of_K KG (by kernel_rfl)
  have hlc := cofOf_length n (tableOf x)
  have hcb := cofOf_bd hn2 hsq
  have hmk : (n - 1) * (kk + 3) ≤ 3 * (kk + 3) := Nat.mul_le_mul_right _ (by omega)
  obtain ⟨ra, rus, rna, hra1, mra2, hra3⟩ := rows_row RO (i := 0) (by rw [hsq.1]; omega)
  obtain ⟨cus, cna, mcu1, mcu2⟩ := id CO
  obtain ⟨hr0l, hr0b⟩ := row_len hsq (i := 0) (by omega)
  refine Stop.out ?_
  k_dflt (refine eval_Gen_G (by k_asm) MG CG TG.nolimit rfl rfl rfl (by with_unfolding_all rfl) (by decide) (by rfl) (by rfl) (by rfl) (by ktr_room) ?_ (fun _ => by rfl))
  one_place
  rename IsRange _ _ _ _ _ _ _ _ => R20
  rename Fr _ _ _ _ => F20
  rename News _ _ _ _ => N20
  refine ⟨#[], _, n, _, (fun i v => ∃ t, v = .int (((tableOf x).getD 0 []).getD i 0 * (cofOf n (tableOf x)).getD i 0) t), rfl, F20, lw_gen N20, ?_, trivial, .inl ⟨_, _, _, _, _, _, rfl, R20, small_one (by decide) (by decide) (by omega) (by omega), by rw [rangeSize_nat]; omega, rfl⟩, ?_, ?_⟩
  · k_dflt k_all
  · intro A' E' i v t C m₂ code hA hdp hun hi3 hPi Ft hxv Nt
    obtain ⟨tt, rfl⟩ := hPi
    rw [Int.zero_add] at hxv
    clear F20 N20 R20
    have up := led8 Nt
    one_place
    refine Stop.out (sub_rows (up _ _ mTB) (by decide) hra1 (by decide) ?_)
    one_place
    refine Stop.out (sub_heap (up _ _ mra2) hra3 (by omega) (by omega) (by omega) ?_)
    intro t21
    one_place
    refine Stop.out (sub_heap (up _ _ mcu1) mcu2 (by omega) (by omega) (by omega) ?_)
    intro t22
    one_place
    have e1 : ((i : Int)).toNat = i := Int.toNat_natCast i
    refine Stop.out (mul_ok ?_ ?_)
    · exact (Bd.getD hr0b _).ok (Bd.getD hcb _) (by omega)
    one_place
    all_goals first | exact ⟨_, by rw [e1]⟩ | exact ⟨_, _, rfl, fun _ _ e => e⟩
  intro a20 s20 ps20 X20 S20 F21 N21 tr20
  one_place
  refine sum_G (fun i => ((tableOf x).getD 0 []).getD i 0 * (cofOf n (tableOf x)).getD i 0) X20 F21 N21 (fun j v h => h) ?_
  intro s21 t21 S21 F22 N22
  replace SS := (SS.trans (Same.put _ _ _)).trans (S20.trans S21)
  replace N22 := lw_ungen N22
  clear S20 S21 X20 F21 N21 F20 N20
  (try clear N15)
  obtain ⟨dr', tr1', tr2', tr3', tr4', mrg1, mrg2⟩ := id RG
  one_place
  refine Stop.out ?_
  rename Fr _ _ _ _ => F23
  rename News _ _ _ _ => N23
  k_dflt (refine' slice_all (F := F23) (N := N23) (l := D14) (vs := cus) ?hlu1 ?zu1 ?_ ?ssu1 ?ttu1)
  case hlu1 => exact isList_h (led9 N23 _ _ mcu1)
  case zu1 => rw [mcu2.length, hlc, sizeLine_eq]; omega
  case ssu1 => with_unfolding_all rfl
  case ttu1 => intro _; with_unfolding_all rfl
  intro D23 h23 Fa23 Na23 Oa23
  obtain ⟨R1, N24, OR1, u, mD23⟩ := lw_front Na23 Oa23 OR
  replace u := InLed.up u
  replace mD23 : InLed R1 _ _ := mD23
  replace RG := RG.monoR u
  replace XL := XL.monoR u
  replace YL := YL.monoR u
  replace PF := PF.monoR u
  replace PG := PG.monoR u
  replace NO := NO.monoR u
  replace mTB := InLed.mono mTB u
  replace RO := RO.monoR u
  replace CO := CO.monoR u
  replace mcu1 := InLed.mono mcu1 u
  replace mra2 := InLed.mono mra2 u
  replace mrg1 := InLed.mono mrg1 u
  replace mrg2 := InLed.mono mrg2 u
  clear u
  rename (_ = Data.cell (some (Value.int (preSum _ _) _))) => dd
  replace dd : _ = Data.cell (some (Value.int (detX n x) t21)) := dd
  (try clear F23)
  (try clear N23)
  (try clear Na23)
  (try clear Oa23)
  (try clear OR)
  (try clear MB)
  one_place
  tb_rel
  refine ringList Fa23.keep KG TG (RG.mono (led9 N24)) ⟨cus, 0, led9 N24 _ _ mD23, mcu2⟩ hlc (by omega) (by ktr_room) ?_
  intro s24 xh dxh tph tch H24 S24 f1 f2
  obtain ⟨R2, N25, OR2, u, u2⟩ := lw_more Fa23 N24 H24 (fresh2 (a := (_, _)) (b := (_, _)) f1 f2) OR1
  replace u := InLed.up u
  replace RG := RG.monoR u
  replace XL := XL.monoR u
  replace YL := YL.monoR u
  replace PF := PF.monoR u
  replace PG := PG.monoR u
  replace NO := NO.monoR u
  replace mTB := InLed.mono mTB u
  replace RO := RO.monoR u
  replace CO := CO.monoR u
  replace mcu1 := InLed.mono mcu1 u
  replace mra2 := InLed.mono mra2 u
  replace mrg1 := InLed.mono mrg1 u
  replace mrg2 := InLed.mono mrg2 u
  replace mD23 := InLed.mono mD23 u
  have PH : PolyOn w (InLed R2) xh rg (cofOf n (tableOf x)) := ⟨dxh, D23, tph, tch, u2 _ List.mem_cons_self, u2 _ (List.mem_cons_of_mem _ List.mem_cons_self), cus, 0, mD23, mcu2⟩
  have F25 := Fa23.keeps H24
  replace SS := (SS.trans (Same.put _ _ _)).trans S24
  (try clear S24)
  (try clear H24)
  (try clear f1)
  (try clear f2)
  (try clear Fa23)
  (try clear N24)
  (try clear u)
  (try clear u2)
  (try clear OR1)
  (try clear mD23)
  obtain ⟨dxf, axf, tpf', tcf', mf1, mf2, fus, fna, mf3, if3⟩ := id PF
  obtain ⟨dxg, axg, tpg', tcg', mg1, mg2, gus, gna, mg3, ig3⟩ := id PG
  one_place
  tb_rel
  rename_i cb0 cb1 cb2 cb3 cb4 cb5 cb6 cb7 cb8 cb9 cb10 cb11 cb12 cb13
  revert prog w p loose mg mb dp un fr gd h₀ s Q E l vs ns mgB bm ob kk q n e x y hsub hi hlen hP10 hP20 hqd hnd hed hxd hyd ok hq hq2 hn hn2 he hb hkk hd hu ret g L' h₁ ca0 G1 KG TG o1 o2 o3 o4 o5 o6 o7 lo1 lo2 d1 d2 d3 d4 d5 d6 d7 gl MG s1 t1 ca1 ca2 ca3 ca4 ca5 tq dq' s2 t2 ca6 ca7 ca8 tn dn' s3 t3 ca9 ca10 te s4 rg dr tr1 tr2 tr3 tr4 ca11 ca12 ca13 ca14 ca15 ca16 ca17 ca18 D5 ys5 s5 s6 ca19 ca20 ca21 ca22 ca23 ca24 D6 ys6 s7 ca25 ca26 ca27 hlenx hleny D8 h8 s8 xf cb0 tpf tcf ca28 ca29 D10 h10 s10 xg cb1 tpg tcg ca30 cb2 ca31 ca32 ca33 ca34 ca35 ca36 ern D11 ys11 s11 s12 s13 tb ktb wtb tlt ca37 ca38 ca39 hxb hyb hsq ca40 ca41 ca42 ca43 ca44 ca45 D14 ys14 s14 ca46 ca47 ca48 R CG CI hlc hcb hmk ra rus rna hra1 hra3 cus cna mcu2 hr0l hr0b cb3 cb4 cb5 cb6 cb7 R20 cb8 a20 s20 ps20 tr20 s21 t21 dr' tr1' tr2' tr3' tr4' cb9 cb10 D23 h23 R1 dd s24 xh dxh tph tch R2 OR2 RG XL YL PF PG NO mTB RO CO mcu1 mra2 mrg1 mrg2 PH SS dxf axf tpf' tcf' mf1 mf2 fus fna mf3 if3 dxg axg tpg' tcg' mg1 mg2 gus gna mg3 ig3 cb11 cb12 cb13 tk
  exact @Wrap.h _ hP
  ⟩

-- law_c
noncomputable def seg_law_c : {P : Prop // Wrap P → seg_law_b.1} := ⟨_, fun hP => by
  delta seg_law_b
  intro prog w p loose mg mb dp un fr gd h₀ s Q E l vs ns mgB bm ob kk q n e x y hsub hi hlen hP10 hP20 hqd hnd hed hxd hyd ok hq hq2 hn hn2 he hb hkk hd hu ret g L' h₁ ca0 G1 KG TG o1 o2 o3 o4 o5 o6 o7 lo1 lo2 d1 d2 d3 d4 d5 d6 d7 gl MG s1 t1 ca1 ca2 ca3 ca4 ca5 tq dq' s2 t2 ca6 ca7 ca8 tn dn' s3 t3 ca9 ca10 te s4 rg dr tr1 tr2 tr3 tr4 ca11 ca12 ca13 ca14 ca15 ca16 ca17 ca18 D5 ys5 s5 s6 ca19 ca20 ca21 ca22 ca23 ca24 D6 ys6 s7 ca25 ca26 ca27 hlenx hleny D8 h8 s8 xf cb0 tpf tcf ca28 ca29 D10 h10 s10 xg cb1 tpg tcg ca30 cb2 ca31 ca32 ca33 ca34 ca35 ca36 ern D11 ys11 s11 s12 s13 tb ktb wtb tlt ca37 ca38 ca39 hxb hyb hsq ca40 ca41 ca42 ca43 ca44 ca45 D14 ys14 s14 ca46 ca47 ca48 R CG CI hlc hcb hmk ra rus rna hra1 hra3 cus cna mcu2 hr0l hr0b cb3 cb4 cb5 cb6 cb7 R20 cb8 a20 s20 ps20 tr20 s21 t21 dr' tr1' tr2' tr3' tr4' cb9 cb10 D23 h23 R1 dd s24 xh dxh tph tch R2 OR2 RG XL YL PF PG NO mTB RO CO mcu1 mra2 mrg1 mrg2 PH SS dxf axf tpf' tcf' mf1 mf2 fus fna mf3 if3 dxg axg tpg' tcg' mg1 mg2 gus gna mg3 ig3 cb11 cb12 cb13 tk
  rename Fr _ _ _ _ => F26
  rename News _ _ _ _ => N26
  refine mulPoly F26.keep KG TG (PG.mono (led9 N26)) (PF.mono (led9 N26)) (RG.mono (led9 N26)) hq hn hn2 hleny hlenx (fun i j => (Bd.getD hyb i).ok (Bd.getD hxb j) (by omega)) (by ktr_room) ?_
  intro s26 xp H26 S26 hz
  obtain ⟨tl26, htl26, hz⟩ := poly_tl hz
  obtain ⟨R3, N27, OR3, u, u2⟩ := lw_more F26 N26 H26 htl26 OR2
  replace u := InLed.up u
  replace RG := RG.monoR u
  replace XL := XL.monoR u
  replace YL := YL.monoR u
  replace PF := PF.monoR u
  replace PG := PG.monoR u
  replace PH := PH.monoR u
  replace NO := NO.monoR u
  replace mTB := InLed.mono mTB u
  replace RO := RO.monoR u
  replace CO := CO.monoR u
  replace mcu1 := InLed.mono mcu1 u
  replace mra2 := InLed.mono mra2 u
  replace mrg1 := InLed.mono mrg1 u
  replace mrg2 := InLed.mono mrg2 u
  replace mf1 := InLed.mono mf1 u
  replace mf2 := InLed.mono mf2 u
  replace mf3 := InLed.mono mf3 u
  replace mg1 := InLed.mono mg1 u
  replace mg2 := InLed.mono mg2 u
  replace mg3 := InLed.mono mg3 u
  have PP := hz.mono (InLed.up u2)
  have F27 := F26.keeps H26
  replace SS := (SS.trans (Same.put _ _ _)).trans S26
  (try clear S26)
  (try clear H26)
  (try clear htl26)
  (try clear hz)
  (try clear F26)
  (try clear N26)
  (try clear u)
  (try clear u2)
  (try clear OR2)
  have hlp := schoolOf_length (q := q) (la := y) (lb := x) hn
  obtain ⟨dxp, axp, tpp, tcp, mp1, mp2, pus, pna, mp3, ip3⟩ := id PP
  one_place
  rename Fr _ _ _ _ => F27
  rename News _ _ _ _ => N27
  refine Stop.out ?_
  k_dflt (refine assign_ListComp_GC (by k_asm) rfl (by with_unfolding_all rfl) (by with_unfolding_all rfl) (fun _ => rfl) (fun _ => rfl) (by rfl) (by decide) (by rfl) (by rfl) (by rfl) ?_)
  one_place
  rename IsRange _ _ _ _ _ _ _ _ => R30
  rename Fr _ _ _ _ => F30
  rename News _ _ _ _ => N30
  refine CompGC.gen (led := [_, _, _, _, _, _, _, _]) (P := 266) (R := R3) (ps0 := ps20) (n := n) (fun r => dotOf n ((tableOf x).getD r []) y % q) rfl F30 N30 tr20 R30 (small_one (by decide) (by decide) (by omega) (by omega)) (by rw [rangeSize_nat]; omega) (by rw [sizeLine_eq]; omega) ?_ ?_
  · intro i ps ti I oI C oC D ys Rr oR s' E' hi' tr' hoR S' F' N' hP
    rw [Int.zero_add] at hoR
    clear F30 N30 R30
    obtain ⟨ra, rus, rna, hra1, hra2, hra3⟩ := rows_row RO (i := i) (by rw [hsq.1]; omega)
    obtain ⟨hrl, hrb⟩ := row_len hsq (i := i) (by omega)
    obtain ⟨yus, yna, my1, my2⟩ := id YL
    have e1 : ((i : Int)).toNat = i := Int.toNat_natCast i
    one_place
    refine Stop.out ?_
    rename Fr _ _ _ _ => F31
    k_dflt (refine eval_Gen_G F31 MG CG TG.nolimit rfl rfl rfl (by with_unfolding_all rfl) (by decide) (by rfl) (by rfl) (by rfl) (by ktr_room) ?_ (fun _ => by rfl))
    one_place
    rename IsRange _ _ _ _ _ _ _ _ => R31
    rename Fr _ _ _ _ => F32
    rename News _ _ _ _ => N32
    refine ⟨ps, _, n, _, (fun c v => ∃ t, v = .int (((tableOf x).getD i []).getD c 0 * y.getD c 0) t), rfl, F32, tab_front (led := [_, _, _, _, _, _, _, _]) (R := R3) N32, ?_, tr', .inl ⟨_, _, _, _, _, _, rfl, R31, small_one (by decide) (by decide) (by omega) (by omega), by rw [rangeSize_nat]; omega, rfl⟩, ?_, ?_⟩
    · refine List.forall_mem_cons.mpr ⟨Ne.symm hP.1, List.forall_mem_cons.mpr ⟨Ne.symm hP.2.1, List.forall_mem_cons.mpr ⟨Ne.symm hP.2.2.1, List.forall_mem_cons.mpr ⟨Ne.symm hP.2.2.2, ?_⟩⟩⟩⟩
      simp only [List.cons_append, List.nil_append]
      k_dflt k_all
    · intro A' E' j v t C' m₂ code hA hdp hun hj hPi Ft hxv Nt
      obtain ⟨tt, rfl⟩ := hPi
      rw [Int.zero_add] at hxv
      simp only [List.cons_append, List.nil_append] at Nt
      clear F32 N32 R31
      have up := led_app (l := [_, _, _, _, _, _, _, _, _, _, _, _]) (R := R3) Nt
      one_place
      refine Stop.out (sub_rows (up _ _ mTB) (by omega) (by rw [e1]; exact hra1) (by omega) ?_)
      one_place
      refine Stop.out (sub_heap (up _ _ hra2) hra3 (by omega) (by omega) (by omega) ?_)
      intro t41
      one_place
      refine Stop.out (sub_heap (up _ _ my1) my2 (by omega) (by omega) (by omega) ?_)
      intro t42
      one_place
      have e2 : ((j : Int)).toNat = j := Int.toNat_natCast j
      refine Stop.out (mul_ok ?_ ?_)
      · exact (Bd.getD hrb _).ok (Bd.getD hyb _) (by omega)
      one_place
      all_goals first | exact ⟨_, by rw [e2]⟩ | exact ⟨_, _, rfl, fun _ _ e => e⟩
    intro a40 s40 ps40 X40 S40 F40 N40 tr40
    one_place
    refine sum_G (fun c => ((tableOf x).getD i []).getD c 0 * y.getD c 0) X40 F40 N40 (fun j v h => h) ?_
    intro s41 t41 S41 F41 N41
    replace N41 := tab_back N41
    one_place
    rename Fr _ _ _ _ => F42
    rename News _ _ _ _ => N42
    exact ⟨ps40, _, by rw [Int.fmod_eq_emod_of_nonneg _ (by omega)]; rfl, tr40, ((Same.put s' _ _).trans (S40.trans S41)).trans (Same.put _ _ _), F42, N42⟩
  intro D40 ys40 ps40 s40 hys tr40 S40 F40 N40 off40 Dx s41 eD S41 F41 N41
  obtain rfl := Value.ref.inj eD
  replace F41 : Fr g L' s41.heap _ := F41
  replace N41 : News g L' s41.heap _ := N41
  obtain ⟨R4, N42, OR4, u, mT⟩ := lw_front N41 off40 OR3
  replace u := InLed.up u
  replace RG := RG.monoR u
  replace XL := XL.monoR u
  replace YL := YL.monoR u
  replace PF := PF.monoR u
  replace PG := PG.monoR u
  replace PP := PP.monoR u
  replace PH := PH.monoR u
  replace NO := NO.monoR u
  replace mTB := InLed.mono mTB u
  replace RO := RO.monoR u
  replace CO := CO.monoR u
  replace mcu1 := InLed.mono mcu1 u
  replace mra2 := InLed.mono mra2 u
  replace mrg1 := InLed.mono mrg1 u
  replace mrg2 := InLed.mono mrg2 u
  replace mf1 := InLed.mono mf1 u
  replace mf2 := InLed.mono mf2 u
  replace mf3 := InLed.mono mf3 u
  replace mg1 := InLed.mono mg1 u
  replace mg2 := InLed.mono mg2 u
  replace mg3 := InLed.mono mg3 u
  replace mp1 := InLed.mono mp1 u
  replace mp2 := InLed.mono mp2 u
  replace mp3 := InLed.mono mp3 u
  have TL : IntsOn (InLed R4) D40 (toldOf q n (tableOf x) y) := ⟨ys40, _, mT, hys⟩
  obtain ⟨tus, tna, mt1, it1⟩ := id TL
  replace SS := (SS.trans (Same.put _ _ _)).trans (S40.trans S41)
  (try clear R30)
  (try clear F40)
  (try clear N40)
  (try clear N41)
  (try clear off40)
  (try clear eD)
  (try clear S40)
  (try clear S41)
  (try clear F27)
  (try clear N27)
  (try clear u)
  (try clear mT)
  (try clear OR3)
  (try clear hys)
  (try clear F30)
  (try clear N30)
  (try clear tr20)
  dsimp only at F41
  one_place
  rename_i cc0 cc1 cc2 cc3 cc4 cc5 cc6 cc7 cc8 cc9
  revert prog w p loose mg mb dp un fr gd h₀ s Q E l vs ns mgB bm ob kk q n e x y hsub hi hlen hP10 hP20 hqd hnd hed hxd hyd ok hq hq2 hn hn2 he hb hkk hd hu ret g L' h₁ ca0 G1 KG TG o1 o2 o3 o4 o5 o6 o7 lo1 lo2 d1 d2 d3 d4 d5 d6 d7 gl MG s1 t1 ca1 ca2 ca3 ca4 ca5 tq dq' s2 t2 ca6 ca7 ca8 tn dn' s3 t3 ca9 ca10 te s4 rg dr tr1 tr2 tr3 tr4 ca11 ca12 ca13 ca14 ca15 ca16 ca17 ca18 D5 ys5 s5 s6 ca19 ca20 ca21 ca22 ca23 ca24 D6 ys6 s7 ca25 ca26 ca27 hlenx hleny D8 h8 s8 xf cb0 tpf tcf ca28 ca29 D10 h10 s10 xg cb1 tpg tcg ca30 cb2 ca31 ca32 ca33 ca34 ca35 ca36 ern D11 ys11 s11 s12 s13 tb ktb wtb tlt ca37 ca38 ca39 hxb hyb hsq ca40 ca41 ca42 ca43 ca44 ca45 D14 ys14 s14 ca46 ca47 ca48 R CG CI hlc hcb hmk ra rus rna hra1 hra3 cus cna mcu2 hr0l hr0b cb3 cb4 cb5 cb6 cb7 R20 cb8 a20 s20 ps20 s21 t21 dr' tr1' tr2' tr3' tr4' cb9 cb10 D23 h23 R1 dd s24 xh dxh tph tch R2 dxf axf tpf' tcf' fus fna if3 dxg axg tpg' tcg' gus gna ig3 cb11 cc0 s26 xp hz tl26 R3 hlp dxp axp tpp tcp pus pna ip3 cc1 cc2 cc3 tk cc4 cc5 cc6 cc7 cc8 cc9 D40 ys40 ps40 s40 tr40 s41 F41 R4 N42 OR4 RG XL YL PF PG PP PH NO mTB RO CO mcu1 mra2 mrg1 mrg2 mf1 mf2 mf3 mg1 mg2 mg3 mp1 mp2 mp3 TL tus tna mt1 it1 SS
  exact @Wrap.h _ hP
  ⟩

-- law_d
noncomputable def seg_law_d : {P : Prop // Wrap P → seg_law_c.1} := ⟨_, fun hP => by
  delta seg_law_c
  intro prog w p loose mg mb dp un fr gd h₀ s Q E l vs ns mgB bm ob kk q n e x y hsub hi hlen hP10 hP20 hqd hnd hed hxd hyd ok hq hq2 hn hn2 he hb hkk hd hu ret g L' h₁ ca0 G1 KG TG o1 o2 o3 o4 o5 o6 o7 lo1 lo2 d1 d2 d3 d4 d5 d6 d7 gl MG s1 t1 ca1 ca2 ca3 ca4 ca5 tq dq' s2 t2 ca6 ca7 ca8 tn dn' s3 t3 ca9 ca10 te s4 rg dr tr1 tr2 tr3 tr4 ca11 ca12 ca13 ca14 ca15 ca16 ca17 ca18 D5 ys5 s5 s6 ca19 ca20 ca21 ca22 ca23 ca24 D6 ys6 s7 ca25 ca26 ca27 hlenx hleny D8 h8 s8 xf cb0 tpf tcf ca28 ca29 D10 h10 s10 xg cb1 tpg tcg ca30 cb2 ca31 ca32 ca33 ca34 ca35 ca36 ern D11 ys11 s11 s12 s13 tb ktb wtb tlt ca37 ca38 ca39 hxb hyb hsq ca40 ca41 ca42 ca43 ca44 ca45 D14 ys14 s14 ca46 ca47 ca48 R CG CI hlc hcb hmk ra rus rna hra1 hra3 cus cna mcu2 hr0l hr0b cb3 cb4 cb5 cb6 cb7 R20 cb8 a20 s20 ps20 s21 t21 dr' tr1' tr2' tr3' tr4' cb9 cb10 D23 h23 R1 dd s24 xh dxh tph tch R2 dxf axf tpf' tcf' fus fna if3 dxg axg tpg' tcg' gus gna ig3 cb11 cc0 s26 xp hz tl26 R3 hlp dxp axp tpp tcp pus pna ip3 cc1 cc2 cc3 tk cc4 cc5 cc6 cc7 cc8 cc9 D40 ys40 ps40 s40 tr40 s41 F41 R4 N42 OR4 RG XL YL PF PG PP PH NO mTB RO CO mcu1 mra2 mrg1 mrg2 mf1 mf2 mf3 mg1 mg2 mg3 mp1 mp2 mp3 TL tus tna mt1 it1 SS
  rename Fr _ _ _ _ => F43
  rename News _ _ _ _ => N43
  have hu2 : ((Ar dp fr gd un).deeper (envOfC (Str.ofString "law") default L' 269 (Value.ref 268))).units + 64 < cLine := by
    have := cLine_is; show un + 3 + 64 < cLine; omega
  refine Stop.out (ne_same (led9 N43 _ _ mp3) (led9 N43 _ _ mt1) ip3 it1 hu2 ok.told ?_)
  one_place
  rename Fr _ _ _ _ => F44
  rename News _ _ _ _ => N44
  tb_rel
  obtain ⟨e86, e86'⟩ := get8 N44
  refine isConstant F44.keep KG TG MG (PP.mono (led9 N44)) e86 e86' trivial (by rw [hlp]; omega) (by ktr_room) ?_
  intro s44 ps44 K44 P44 T44 S44
  obtain ⟨F45, N45⟩ := lw_turn8 F44 N44 K44 P44 (by k_dflt k_all)
  replace SS := (SS.trans (Same.put _ _ _)).trans S44
  (try clear F44)
  (try clear N44)
  (try clear e86)
  (try clear e86')
  (try clear K44)
  (try clear P44)
  (try clear S44)
  (try clear F43)
  (try clear N43)
  generalize hB1 : ((schoolOf q n y x).drop 1).all (· == 0) = B1
  one_place
  rename Fr _ _ _ _ => F46
  rename News _ _ _ _ => N46
  refine Stop.out ?_
  k_dflt (refine' slice_from (F := F46) (N := N46) (l := D40) (vs := tus) (a := 1) ?hlu1 ?zu1 ?_ ?ssu1 ?ttu1)
  case hlu1 => exact isList_h (led9 N46 _ _ mt1)
  case zu1 => rw [it1.length, ← ok.told, hlp, sizeLine_eq]; omega
  case ssu1 => with_unfolding_all rfl
  case ttu1 => intro _; with_unfolding_all rfl
  intro D46 h46 Fa46 Na46 Oa46
  obtain ⟨R5, N47, OR5, u, m46⟩ := lw_front Na46 Oa46 OR4
  replace u := InLed.up u
  replace m46 : InLed R5 _ _ := m46
  replace RG := RG.monoR u
  replace XL := XL.monoR u
  replace YL := YL.monoR u
  replace PF := PF.monoR u
  replace PG := PG.monoR u
  replace PP := PP.monoR u
  replace PH := PH.monoR u
  replace NO := NO.monoR u
  replace mTB := InLed.mono mTB u
  replace RO := RO.monoR u
  replace CO := CO.monoR u
  replace mcu1 := InLed.mono mcu1 u
  replace mra2 := InLed.mono mra2 u
  replace mrg1 := InLed.mono mrg1 u
  replace mrg2 := InLed.mono mrg2 u
  replace mf1 := InLed.mono mf1 u
  replace mf2 := InLed.mono mf2 u
  replace mf3 := InLed.mono mf3 u
  replace mg1 := InLed.mono mg1 u
  replace mg2 := InLed.mono mg2 u
  replace mg3 := InLed.mono mg3 u
  replace mp1 := InLed.mono mp1 u
  replace mp2 := InLed.mono mp2 u
  replace mp3 := InLed.mono mp3 u
  replace TL := TL.monoR u
  replace mt1 := InLed.mono mt1 u
  (try clear F46)
  (try clear N46)
  (try clear Na46)
  (try clear Oa46)
  (try clear OR4)
  (try clear u)
  obtain ⟨nus, nna, mn1, in1⟩ := id NO
  obtain ⟨dxh, axh, tph', tch', mh1, mh2, hus, hna, mh3, ih3⟩ := id PH
  one_place
  rename Fr _ _ _ _ => F48
  rename News _ _ _ _ => N48
  have hBe : decide ((toldOf q n (tableOf x) y).drop 1 = noughts n) = B1 := by
    rw [← ok.told, ← hB1]; exact all_noughts (by rw [List.length_drop, hlp])
  refine Stop.out (eq_as (led9 N48 _ _ m46) (led9 N48 _ _ mn1) (it1.drop 1) in1 hu2 hBe ?_)
  one_place
  · exact absurd ‹(B1 != B1) = true› (by simp)
  clear hBe hB1
  rename Fr _ _ _ _ => F49
  rename News _ _ _ _ => N49
  tb_rel
  refine mulPoly F49.keep KG TG (PF.mono (led9 N49)) (PH.mono (led9 N49)) (RG.mono (led9 N49)) hq hn hn2 hlenx hlc (fun i j => (Bd.getD hxb i).ok (Bd.getD hcb j) (by omega)) (by ktr_room) ?_
  intro s49 xa H49 S49 hz
  obtain ⟨tl49, htl49, hz⟩ := poly_tl hz
  obtain ⟨R6, N50, OR6, u, u2⟩ := lw_more F49 N49 H49 htl49 OR5
  replace u := InLed.up u
  replace RG := RG.monoR u
  replace XL := XL.monoR u
  replace YL := YL.monoR u
  replace PF := PF.monoR u
  replace PG := PG.monoR u
  replace PP := PP.monoR u
  replace PH := PH.monoR u
  replace NO := NO.monoR u
  replace mTB := InLed.mono mTB u
  replace RO := RO.monoR u
  replace CO := CO.monoR u
  replace mcu1 := InLed.mono mcu1 u
  replace mra2 := InLed.mono mra2 u
  replace mrg1 := InLed.mono mrg1 u
  replace mrg2 := InLed.mono mrg2 u
  replace mf1 := InLed.mono mf1 u
  replace mf2 := InLed.mono mf2 u
  replace mf3 := InLed.mono mf3 u
  replace mg1 := InLed.mono mg1 u
  replace mg2 := InLed.mono mg2 u
  replace mg3 := InLed.mono mg3 u
  replace mp1 := InLed.mono mp1 u
  replace mp2 := InLed.mono mp2 u
  replace mp3 := InLed.mono mp3 u
  replace TL := TL.monoR u
  replace mt1 := InLed.mono mt1 u
  replace mn1 := InLed.mono mn1 u
  replace mh1 := InLed.mono mh1 u
  replace mh2 := InLed.mono mh2 u
  replace mh3 := InLed.mono mh3 u
  have PA := hz.mono (InLed.up u2)
  have F50 := F49.keeps H49
  replace SS := (SS.trans (Same.put _ _ _)).trans S49
  (try clear S49)
  (try clear H49)
  (try clear htl49)
  (try clear hz)
  (try clear F49)
  (try clear N49)
  (try clear u)
  (try clear u2)
  (try clear OR5)
  (try clear F48)
  (try clear N48)
  have hla := schoolOf_length (q := q) (la := x) (lb := cofOf n (tableOf x)) hn
  obtain ⟨dxa, axa, tpa, tca, ma1, ma2, aus, ana, ma3, ia3⟩ := id PA
  one_place
  rename Fr _ _ _ _ => F51
  rename News _ _ _ _ => N51
  tb_rel
  obtain ⟨e86, e86'⟩ := get8 N51
  refine isConstant F51.keep KG TG MG (PA.mono (led9 N51)) e86 e86' T44 (by rw [hla]; omega) (by ktr_room) ?_
  intro s51 ps51 K51 P51 T51 S51
  obtain ⟨F52, N52⟩ := lw_turn8 F51 N51 K51 P51 (by k_dflt k_all)
  replace SS := (SS.trans (Same.put _ _ _)).trans S51
  (try clear F51)
  (try clear N51)
  (try clear e86)
  (try clear e86')
  (try clear K51)
  (try clear P51)
  (try clear S51)
  (try clear F50)
  (try clear N50)
  rw [show ((schoolOf q n x (cofOf n (tableOf x))).drop 1).all (· == 0) = true from by rw [ok.alone]; simp [noughts]]
  one_place
  rename_i cd0 cd1 cd2 cd3 cd4 cd5 cd6
  revert prog w p loose mg mb dp un fr gd h₀ s Q E l vs ns mgB bm ob kk q n e x y hsub hi hlen hP10 hP20 hqd hnd hed hxd hyd ok hq hq2 hn hn2 he hb hkk hd hu ret g L' h₁ ca0 G1 KG TG o1 o2 o3 o4 o5 o6 o7 lo1 lo2 d1 d2 d3 d4 d5 d6 d7 gl MG s1 t1 ca1 ca2 ca3 ca4 ca5 tq dq' s2 t2 ca6 ca7 ca8 tn dn' s3 t3 ca9 ca10 te s4 rg dr tr1 tr2 tr3 tr4 ca11 ca12 ca13 ca14 ca15 ca16 ca17 ca18 D5 ys5 s5 s6 ca19 ca20 ca21 ca22 ca23 ca24 D6 ys6 s7 ca25 ca26 ca27 hlenx hleny D8 h8 s8 xf cb0 tpf tcf ca28 ca29 D10 h10 s10 xg cb1 tpg tcg ca30 cb2 ca31 ca32 ca33 ca34 ca35 ca36 ern D11 ys11 s11 s12 s13 tb ktb wtb tlt ca37 ca38 ca39 hxb hyb hsq ca40 ca41 ca42 ca43 ca44 ca45 D14 ys14 s14 ca46 ca47 ca48 R CG CI hlc hcb hmk ra rus rna hra1 hra3 cus cna mcu2 hr0l hr0b cb3 cb4 cb5 cb6 cb7 R20 cb8 a20 s20 ps20 s21 t21 dr' tr1' tr2' tr3' tr4' cb9 cb10 D23 h23 R1 dd s24 xh cd0 tph tch R2 dxf axf tpf' tcf' fus fna if3 dxg axg tpg' tcg' gus gna ig3 cb11 cc0 s26 xp cd1 tl26 R3 hlp dxp axp tpp tcp pus pna ip3 cc1 cd2 cc4 cc5 cc6 cc7 cc8 cc9 D40 ys40 ps40 s40 tr40 s41 R4 tus tna it1 hu2 cd3 s44 ps44 T44 B1 D46 h46 R5 m46 nus nna in1 dxh axh tph' tch' hus hna ih3 cd4 cd5 s49 xa hz tl49 R6 OR6 RG XL YL PF PG PP PH NO mTB RO CO mcu1 mra2 mrg1 mrg2 mf1 mf2 mf3 mg1 mg2 mg3 mp1 mp2 mp3 TL mt1 mn1 mh1 mh2 mh3 PA hla dxa axa tpa tca ma1 ma2 aus ana ma3 ia3 cd6 tk s51 ps51 T51 F52 N52 SS
  exact @Wrap.h _ hP
  ⟩

-- law_e
noncomputable def seg_law_e : {P : Prop // Wrap P → seg_law_d.1} := ⟨_, fun hP => by
  delta seg_law_d
  intro prog w p loose mg mb dp un fr gd h₀ s Q E l vs ns mgB bm ob kk q n e x y hsub hi hlen hP10 hP20 hqd hnd hed hxd hyd ok hq hq2 hn hn2 he hb hkk hd hu ret g L' h₁ ca0 G1 KG TG o1 o2 o3 o4 o5 o6 o7 lo1 lo2 d1 d2 d3 d4 d5 d6 d7 gl MG s1 t1 ca1 ca2 ca3 ca4 ca5 tq dq' s2 t2 ca6 ca7 ca8 tn dn' s3 t3 ca9 ca10 te s4 rg dr tr1 tr2 tr3 tr4 ca11 ca12 ca13 ca14 ca15 ca16 ca17 ca18 D5 ys5 s5 s6 ca19 ca20 ca21 ca22 ca23 ca24 D6 ys6 s7 ca25 ca26 ca27 hlenx hleny D8 h8 s8 xf cb0 tpf tcf ca28 ca29 D10 h10 s10 xg cb1 tpg tcg ca30 cb2 ca31 ca32 ca33 ca34 ca35 ca36 ern D11 ys11 s11 s12 s13 tb ktb wtb tlt ca37 ca38 ca39 hxb hyb hsq ca40 ca41 ca42 ca43 ca44 ca45 D14 ys14 s14 ca46 ca47 ca48 R CG CI hlc hcb hmk ra rus rna hra1 hra3 cus cna mcu2 hr0l hr0b cb3 cb4 cb5 cb6 cb7 R20 cb8 a20 s20 ps20 s21 t21 dr' tr1' tr2' tr3' tr4' cb9 cb10 D23 h23 R1 dd s24 xh cd0 tph tch R2 dxf axf tpf' tcf' fus fna if3 dxg axg tpg' tcg' gus gna ig3 cb11 cc0 s26 xp cd1 tl26 R3 hlp dxp axp tpp tcp pus pna ip3 cc1 cd2 cc4 cc5 cc6 cc7 cc8 cc9 D40 ys40 ps40 s40 tr40 s41 R4 tus tna it1 hu2 cd3 s44 ps44 T44 B1 D46 h46 R5 m46 nus nna in1 dxh axh tph' tch' hus hna ih3 cd4 cd5 s49 xa hz tl49 R6 OR6 RG XL YL PF PG PP PH NO mTB RO CO mcu1 mra2 mrg1 mrg2 mf1 mf2 mf3 mg1 mg2 mg3 mp1 mp2 mp3 TL mt1 mn1 mh1 mh2 mh3 PA hla dxa axa tpa tca ma1 ma2 aus ana ma3 ia3 cd6 tk s51 ps51 T51 F52 N52 SS
  have efm : ∀ z : Int, z.fmod q = z % q := fun z => Int.fmod_eq_emod_of_nonneg z (by omega)
  rename Fr _ _ _ _ => F53
  rename News _ _ _ _ => N53
  refine Stop.out (newList_led F53 N53 (by size_fits) ?_)
  intro D53 h53 G53 F54 N54 O54
  obtain ⟨R7, N55, OR7, u, m53⟩ := lw_front N54 O54 OR6
  replace u := InLed.up u
  replace m53 : InLed R7 _ _ := m53
  replace RG := RG.monoR u
  replace XL := XL.monoR u
  replace YL := YL.monoR u
  replace PF := PF.monoR u
  replace PG := PG.monoR u
  replace PP := PP.monoR u
  replace PH := PH.monoR u
  replace PA := PA.monoR u
  replace NO := NO.monoR u
  replace mTB := InLed.mono mTB u
  replace RO := RO.monoR u
  replace CO := CO.monoR u
  replace mcu1 := InLed.mono mcu1 u
  replace mra2 := InLed.mono mra2 u
  replace mrg1 := InLed.mono mrg1 u
  replace mrg2 := InLed.mono mrg2 u
  replace mf1 := InLed.mono mf1 u
  replace mf2 := InLed.mono mf2 u
  replace mf3 := InLed.mono mf3 u
  replace mg1 := InLed.mono mg1 u
  replace mg2 := InLed.mono mg2 u
  replace mg3 := InLed.mono mg3 u
  replace mp1 := InLed.mono mp1 u
  replace mp2 := InLed.mono mp2 u
  replace mp3 := InLed.mono mp3 u
  replace TL := TL.monoR u
  replace mt1 := InLed.mono mt1 u
  replace mn1 := InLed.mono mn1 u
  replace mh1 := InLed.mono mh1 u
  replace mh2 := InLed.mono mh2 u
  replace mh3 := InLed.mono mh3 u
  replace ma1 := InLed.mono ma1 u
  replace ma2 := InLed.mono ma2 u
  replace ma3 := InLed.mono ma3 u
  (try clear F53)
  (try clear N53)
  (try clear N54)
  (try clear O54)
  (try clear OR6)
  (try clear u)
  (try clear G53)
  one_place
  rename Fr _ _ _ _ => F56
  rename News _ _ _ _ => N56
  refine Stop.out (add_lists F56 N56 (led9 N56 _ _ m53) (led9 N56 _ _ mn1) (by have := in1.length; simp [noughts, sizeLine_eq] at this ⊢; omega) ?_)
  intro D57 h57 G57 F57 N57 O57
  obtain ⟨R8, N58, OR8, u, m57⟩ := lw_front N57 O57 OR7
  replace u := InLed.up u
  replace m57 : InLed R8 _ _ := m57
  replace RG := RG.monoR u
  replace XL := XL.monoR u
  replace YL := YL.monoR u
  replace PF := PF.monoR u
  replace PG := PG.monoR u
  replace PP := PP.monoR u
  replace PH := PH.monoR u
  replace PA := PA.monoR u
  replace NO := NO.monoR u
  replace mTB := InLed.mono mTB u
  replace RO := RO.monoR u
  replace CO := CO.monoR u
  replace mcu1 := InLed.mono mcu1 u
  replace mra2 := InLed.mono mra2 u
  replace mrg1 := InLed.mono mrg1 u
  replace mrg2 := InLed.mono mrg2 u
  replace mf1 := InLed.mono mf1 u
  replace mf2 := InLed.mono mf2 u
  replace mf3 := InLed.mono mf3 u
  replace mg1 := InLed.mono mg1 u
  replace mg2 := InLed.mono mg2 u
  replace mg3 := InLed.mono mg3 u
  replace mp1 := InLed.mono mp1 u
  replace mp2 := InLed.mono mp2 u
  replace mp3 := InLed.mono mp3 u
  replace TL := TL.monoR u
  replace mt1 := InLed.mono mt1 u
  replace mn1 := InLed.mono mn1 u
  replace mh1 := InLed.mono mh1 u
  replace mh2 := InLed.mono mh2 u
  replace mh3 := InLed.mono mh3 u
  replace ma1 := InLed.mono ma1 u
  replace ma2 := InLed.mono ma2 u
  replace ma3 := InLed.mono ma3 u
  (try clear F56)
  (try clear N56)
  (try clear N57)
  (try clear O57)
  (try clear OR7)
  (try clear u)
  (try clear G57)
  one_place
  rename Fr _ _ _ _ => F59
  rename News _ _ _ _ => N59
  refine Stop.out (ne_same (led9 N59 _ _ ma3) (led9 N59 _ _ m57) ia3 ((IntsAre.cons _ _ .nil).append in1) hu2 (by rw [ok.alone, efm]; rfl) ?_)
  one_place
  rename_i ce0
  revert prog w p loose mg mb dp un fr gd h₀ s Q E l vs ns mgB bm ob kk q n e x y hsub hi hlen hP10 hP20 hqd hnd hed hxd hyd ok hq hq2 hn hn2 he hb hkk hd hu ret g L' h₁ ca0 G1 KG TG o1 o2 o3 o4 o5 o6 o7 lo1 lo2 d1 d2 d3 d4 d5 d6 d7 gl MG s1 t1 ca1 ca2 ca3 ca4 ca5 tq dq' s2 t2 ca6 ca7 ca8 tn dn' s3 t3 ca9 ca10 te s4 rg dr tr1 tr2 tr3 tr4 ca11 ca12 ca13 ca14 ca15 ca16 ca17 ca18 D5 ys5 s5 s6 ca19 ca20 ca21 ca22 ca23 ca24 D6 ys6 s7 ca25 ca26 ca27 hlenx hleny D8 h8 s8 xf cb0 tpf tcf ca28 ca29 D10 h10 s10 xg cb1 tpg tcg ca30 cb2 ca31 ca32 ca33 ca34 ca35 ca36 ern D11 ys11 s11 s12 s13 tb ktb wtb tlt ca37 ca38 ca39 hxb hyb hsq ca40 ca41 ca42 ca43 ca44 ca45 D14 ys14 s14 ca46 ca47 ca48 R CG CI hlc hcb hmk ra rus rna hra1 hra3 cus cna mcu2 hr0l hr0b cb3 cb4 cb5 cb6 cb7 R20 cb8 a20 s20 ps20 s21 t21 dr' tr1' tr2' tr3' tr4' cb9 cb10 D23 h23 R1 dd s24 xh cd0 tph tch R2 dxf axf tpf' tcf' fus fna if3 dxg axg tpg' tcg' gus gna ig3 cb11 cc0 s26 xp cd1 tl26 R3 hlp dxp axp tpp tcp pus pna ip3 cc1 cd2 cc4 cc5 cc6 cc7 cc8 cc9 D40 ys40 ps40 s40 tr40 s41 R4 tus tna it1 hu2 cd3 s44 ps44 T44 B1 D46 h46 R5 m46 nus nna in1 dxh axh tph' tch' hus hna ih3 cd4 cd5 s49 xa hz tl49 R6 hla dxa axa tpa tca aus ana ia3 cd6 ce0 s51 ps51 T51 SS efm D53 h53 R7 m53 D57 h57 F59 R8 N59 OR8 m57 RG XL YL PF PG PP PH PA NO mTB RO CO mcu1 mra2 mrg1 mrg2 mf1 mf2 mf3 mg1 mg2 mg3 mp1 mp2 mp3 TL mt1 mn1 mh1 mh2 mh3 ma1 ma2 ma3 tk
  exact @Wrap.h _ hP
  ⟩

-- law_f
noncomputable def seg_law_f : {P : Prop // Wrap P → seg_law_e.1} := ⟨_, fun hP => by
  delta seg_law_e
  intro prog w p loose mg mb dp un fr gd h₀ s Q E l vs ns mgB bm ob kk q n e x y hsub hi hlen hP10 hP20 hqd hnd hed hxd hyd ok hq hq2 hn hn2 he hb hkk hd hu ret g L' h₁ ca0 G1 KG TG o1 o2 o3 o4 o5 o6 o7 lo1 lo2 d1 d2 d3 d4 d5 d6 d7 gl MG s1 t1 ca1 ca2 ca3 ca4 ca5 tq dq' s2 t2 ca6 ca7 ca8 tn dn' s3 t3 ca9 ca10 te s4 rg dr tr1 tr2 tr3 tr4 ca11 ca12 ca13 ca14 ca15 ca16 ca17 ca18 D5 ys5 s5 s6 ca19 ca20 ca21 ca22 ca23 ca24 D6 ys6 s7 ca25 ca26 ca27 hlenx hleny D8 h8 s8 xf cb0 tpf tcf ca28 ca29 D10 h10 s10 xg cb1 tpg tcg ca30 cb2 ca31 ca32 ca33 ca34 ca35 ca36 ern D11 ys11 s11 s12 s13 tb ktb wtb tlt ca37 ca38 ca39 hxb hyb hsq ca40 ca41 ca42 ca43 ca44 ca45 D14 ys14 s14 ca46 ca47 ca48 R CG CI hlc hcb hmk ra rus rna hra1 hra3 cus cna mcu2 hr0l hr0b cb3 cb4 cb5 cb6 cb7 R20 cb8 a20 s20 ps20 s21 t21 dr' tr1' tr2' tr3' tr4' cb9 cb10 D23 h23 R1 dd s24 xh cd0 tph tch R2 dxf axf tpf' tcf' fus fna if3 dxg axg tpg' tcg' gus gna ig3 cb11 cc0 s26 xp cd1 tl26 R3 hlp dxp axp tpp tcp pus pna ip3 cc1 cd2 cc4 cc5 cc6 cc7 cc8 cc9 D40 ys40 ps40 s40 tr40 s41 R4 tus tna it1 hu2 cd3 s44 ps44 T44 B1 D46 h46 R5 m46 nus nna in1 dxh axh tph' tch' hus hna ih3 cd4 cd5 s49 xa hz tl49 R6 hla dxa axa tpa tca aus ana ia3 cd6 ce0 s51 ps51 T51 SS efm D53 h53 R7 m53 D57 h57 F59 R8 N59 OR8 m57 RG XL YL PF PG PP PH PA NO mTB RO CO mcu1 mra2 mrg1 mrg2 mf1 mf2 mf3 mg1 mg2 mg3 mp1 mp2 mp3 TL mt1 mn1 mh1 mh2 mh3 ma1 ma2 ma3 tk
  have hpb : ∀ z ∈ schoolOf q n y x, Bd 17 z := schoolOf_bd hq hq2
  have hdb : Bd (4 * kk + 20) (detX n x) := detX_bd hn2 hr0b hcb
  obtain ⟨yus, yna, my1, iy1⟩ := id YL
  rename Fr _ _ _ _ => F60
  rename News _ _ _ _ => N60
  tb_rel
  refine mulPoly F60.keep KG TG (PP.mono (led9 N60)) (PH.mono (led9 N60)) (RG.mono (led9 N60)) hq hn hn2 hlp hlc (fun i j => (Bd.getD hpb i).ok (Bd.getD hcb j) (by omega)) (by ktr_room) ?_
  intro s60 xb H60 S60 hz
  obtain ⟨tl60, htl60, hz⟩ := poly_tl hz
  obtain ⟨R9, N61, OR9, u, u2⟩ := lw_more F60 N60 H60 htl60 OR8
  replace u := InLed.up u
  replace RG := RG.monoR u
  replace XL := XL.monoR u
  replace YL := YL.monoR u
  replace PF := PF.monoR u
  replace PG := PG.monoR u
  replace PP := PP.monoR u
  replace PH := PH.monoR u
  replace PA := PA.monoR u
  replace NO := NO.monoR u
  replace mTB := InLed.mono mTB u
  replace RO := RO.monoR u
  replace CO := CO.monoR u
  replace mcu1 := InLed.mono mcu1 u
  replace mra2 := InLed.mono mra2 u
  replace mrg1 := InLed.mono mrg1 u
  replace mrg2 := InLed.mono mrg2 u
  replace mf1 := InLed.mono mf1 u
  replace mf2 := InLed.mono mf2 u
  replace mf3 := InLed.mono mf3 u
  replace mg1 := InLed.mono mg1 u
  replace mg2 := InLed.mono mg2 u
  replace mg3 := InLed.mono mg3 u
  replace mp1 := InLed.mono mp1 u
  replace mp2 := InLed.mono mp2 u
  replace mp3 := InLed.mono mp3 u
  replace TL := TL.monoR u
  replace mt1 := InLed.mono mt1 u
  replace mn1 := InLed.mono mn1 u
  replace mh1 := InLed.mono mh1 u
  replace mh2 := InLed.mono mh2 u
  replace mh3 := InLed.mono mh3 u
  replace ma1 := InLed.mono ma1 u
  replace ma2 := InLed.mono ma2 u
  replace ma3 := InLed.mono ma3 u
  replace my1 := InLed.mono my1 u
  obtain ⟨dxb, axb, tpb, tcb, mb1, mb2, bus, bna, mb3, ib3⟩ := hz.mono (InLed.up u2)
  have F61 := F60.keeps H60
  replace SS := (SS.trans (Same.put _ _ _)).trans S60
  (try clear S60)
  (try clear H60)
  (try clear htl60)
  (try clear hz)
  (try clear F60)
  (try clear N60)
  (try clear u)
  (try clear u2)
  (try clear OR8)
  one_place
  rename Fr _ _ _ _ => F62
  rename News _ _ _ _ => N62
  refine Stop.out ?_
  k_dflt (refine eval_ListComp_G F62 (by with_unfolding_all rfl) (by decide) (by rfl) (by decide) (by rfl) ?_)
  one_place
  rename Fr _ _ _ _ => F63
  rename News _ _ _ _ => N63
  refine Stop.out (CompG.listInts (fun c => detX n x * c % q) rfl F63 N63 (.inr (by repeat (first | exact my1 | apply List.mem_cons_of_mem))) iy1 (by rw [hleny, sizeLine_eq]; omega) ?_ ?_)
  · intro c t I oI C oC D ys m₂ s₁ E' hc hC hx S F N
    k_dflt one_place
    refine Stop.out (mul_ok (hdb.ok (hyb c hc) (by omega)) ?_)
    k_dflt one_place
    exact IntBackG.mk (efm _) (Same.put _ _ _) (by k_asm) (by k_asm)
  intro D63 ys63 s63 hys63 S63 F64 N64 O64
  obtain ⟨R10, N65, OR10, u, m65⟩ := lw_front N64 O64 OR9
  replace u := InLed.up u
  replace m65 : InLed R10 _ _ := m65
  replace F64 : Fr g L' s63.heap _ := F64
  replace N65 : News g L' s63.heap _ := N65
  replace SS := (SS.trans (Same.put _ _ _)).trans S63
  replace RG := RG.monoR u
  replace XL := XL.monoR u
  replace YL := YL.monoR u
  replace PF := PF.monoR u
  replace PG := PG.monoR u
  replace PP := PP.monoR u
  replace PH := PH.monoR u
  replace PA := PA.monoR u
  replace NO := NO.monoR u
  replace mTB := InLed.mono mTB u
  replace RO := RO.monoR u
  replace CO := CO.monoR u
  replace mcu1 := InLed.mono mcu1 u
  replace mra2 := InLed.mono mra2 u
  replace mrg1 := InLed.mono mrg1 u
  replace mrg2 := InLed.mono mrg2 u
  replace mf1 := InLed.mono mf1 u
  replace mf2 := InLed.mono mf2 u
  replace mf3 := InLed.mono mf3 u
  replace mg1 := InLed.mono mg1 u
  replace mg2 := InLed.mono mg2 u
  replace mg3 := InLed.mono mg3 u
  replace mp1 := InLed.mono mp1 u
  replace mp2 := InLed.mono mp2 u
  replace mp3 := InLed.mono mp3 u
  replace TL := TL.monoR u
  replace mt1 := InLed.mono mt1 u
  replace mn1 := InLed.mono mn1 u
  replace mh1 := InLed.mono mh1 u
  replace mh2 := InLed.mono mh2 u
  replace mh3 := InLed.mono mh3 u
  replace ma1 := InLed.mono ma1 u
  replace ma2 := InLed.mono ma2 u
  replace ma3 := InLed.mono ma3 u
  replace my1 := InLed.mono my1 u
  replace mb1 := InLed.mono mb1 u
  replace mb2 := InLed.mono mb2 u
  replace mb3 := InLed.mono mb3 u
  (try clear S63)
  (try clear F62)
  (try clear N62)
  (try clear F63)
  (try clear N63)
  (try clear N64)
  (try clear O64)
  (try clear u)
  (try clear OR9)
  one_place
  rename Fr _ _ _ _ => F66
  rename News _ _ _ _ => N66
  refine Stop.out (ne_same (led9 N66 _ _ mb3) (led9 N66 _ _ m65) ib3 hys63 hu2 ok.back ?_)
  one_place
  rename_i cf0
  revert prog w p loose mg mb dp un fr gd h₀ s Q E l vs ns mgB bm ob kk q n e x y hsub hi hlen hP10 hP20 hqd hnd hed hxd hyd ok hq hq2 hn hn2 he hb hkk hd hu ret g L' h₁ ca0 G1 KG TG o1 o2 o3 o4 o5 o6 o7 lo1 lo2 d1 d2 d3 d4 d5 d6 d7 gl MG s1 t1 ca1 ca2 ca3 ca4 ca5 tq dq' s2 t2 ca6 ca7 ca8 tn dn' s3 t3 ca9 ca10 te s4 rg dr tr1 tr2 tr3 tr4 ca11 ca12 ca13 ca14 ca15 ca16 ca17 ca18 D5 ys5 s5 s6 ca19 ca20 ca21 ca22 ca23 ca24 D6 ys6 s7 ca25 ca26 ca27 hlenx hleny D8 h8 s8 xf cb0 tpf tcf ca28 ca29 D10 h10 s10 xg cb1 tpg tcg ca30 cb2 ca31 ca32 ca33 ca34 ca35 ca36 ern D11 ys11 s11 s12 s13 tb ktb wtb tlt ca37 ca38 ca39 hxb hyb hsq ca40 ca41 ca42 ca43 ca44 ca45 D14 ys14 s14 ca46 ca47 ca48 R CG CI hlc hcb hmk ra rus rna hra1 hra3 cus cna mcu2 hr0l hr0b cb3 cb4 cb5 cb6 cb7 R20 cb8 a20 s20 ps20 s21 t21 dr' tr1' tr2' tr3' tr4' cb9 cb10 D23 h23 R1 dd s24 xh cd0 tph tch R2 dxf axf tpf' tcf' fus fna if3 dxg axg tpg' tcg' gus gna ig3 cb11 cc0 s26 xp cd1 tl26 R3 hlp dxp axp tpp tcp pus pna ip3 cc1 cd2 cc4 cc5 cc6 cc7 cc8 cc9 D40 ys40 ps40 s40 tr40 s41 R4 tus tna it1 hu2 cd3 s44 ps44 T44 B1 D46 h46 R5 m46 nus nna in1 dxh axh tph' tch' hus hna ih3 cd4 cd5 s49 xa cf0 tl49 R6 hla dxa axa tpa tca aus ana ia3 cd6 ce0 s51 ps51 T51 efm D53 h53 R7 m53 D57 h57 R8 m57 tk hpb hdb yus yna iy1 s60 xb hz tl60 R9 dxb axb tpb tcb bus bna ib3 D63 ys63 s63 hys63 R10 OR10 m65 F66 N66 SS RG XL YL PF PG PP PH PA NO mTB RO CO mcu1 mra2 mrg1 mrg2 mf1 mf2 mf3 mg1 mg2 mg3 mp1 mp2 mp3 TL mt1 mn1 mh1 mh2 mh3 ma1 ma2 ma3 my1 mb1 mb2 mb3
  exact @Wrap.h _ hP
  ⟩

-- law_g
noncomputable def seg_law_g : {P : Prop // Wrap P → seg_law_f.1} := ⟨_, fun hP => by
  delta seg_law_f
  intro prog w p loose mg mb dp un fr gd h₀ s Q E l vs ns mgB bm ob kk q n e x y hsub hi hlen hP10 hP20 hqd hnd hed hxd hyd ok hq hq2 hn hn2 he hb hkk hd hu ret g L' h₁ ca0 G1 KG TG o1 o2 o3 o4 o5 o6 o7 lo1 lo2 d1 d2 d3 d4 d5 d6 d7 gl MG s1 t1 ca1 ca2 ca3 ca4 ca5 tq dq' s2 t2 ca6 ca7 ca8 tn dn' s3 t3 ca9 ca10 te s4 rg dr tr1 tr2 tr3 tr4 ca11 ca12 ca13 ca14 ca15 ca16 ca17 ca18 D5 ys5 s5 s6 ca19 ca20 ca21 ca22 ca23 ca24 D6 ys6 s7 ca25 ca26 ca27 hlenx hleny D8 h8 s8 xf cb0 tpf tcf ca28 ca29 D10 h10 s10 xg cb1 tpg tcg ca30 cb2 ca31 ca32 ca33 ca34 ca35 ca36 ern D11 ys11 s11 s12 s13 tb ktb wtb tlt ca37 ca38 ca39 hxb hyb hsq ca40 ca41 ca42 ca43 ca44 ca45 D14 ys14 s14 ca46 ca47 ca48 R CG CI hlc hcb hmk ra rus rna hra1 hra3 cus cna mcu2 hr0l hr0b cb3 cb4 cb5 cb6 cb7 R20 cb8 a20 s20 ps20 s21 t21 dr' tr1' tr2' tr3' tr4' cb9 cb10 D23 h23 R1 dd s24 xh cd0 tph tch R2 dxf axf tpf' tcf' fus fna if3 dxg axg tpg' tcg' gus gna ig3 cb11 cc0 s26 xp cd1 tl26 R3 hlp dxp axp tpp tcp pus pna ip3 cc1 cd2 cc4 cc5 cc6 cc7 cc8 cc9 D40 ys40 ps40 s40 tr40 s41 R4 tus tna it1 hu2 cd3 s44 ps44 T44 B1 D46 h46 R5 m46 nus nna in1 dxh axh tph' tch' hus hna ih3 cd4 cd5 s49 xa cf0 tl49 R6 hla dxa axa tpa tca aus ana ia3 cd6 ce0 s51 ps51 T51 efm D53 h53 R7 m53 D57 h57 R8 m57 tk hpb hdb yus yna iy1 s60 xb hz tl60 R9 dxb axb tpb tcb bus bna ib3 D63 ys63 s63 hys63 R10 OR10 m65 F66 N66 SS RG XL YL PF PG PP PH PA NO mTB RO CO mcu1 mra2 mrg1 mrg2 mf1 mf2 mf3 mg1 mg2 mg3 mp1 mp2 mp3 TL mt1 mn1 mh1 mh2 mh3 ma1 ma2 ma3 my1 mb1 mb2 mb3
  rename Fr _ _ _ _ => F67
  rename News _ _ _ _ => N67
  tb_rel
  refine lawTable F67.keep KG TG (led9 N67 _ _ mp3) ip3 (by omega) (by ktr_room) ?_
  intro s67 tp ktp wtp tlp H67 S67 f1 f2 hrp
  obtain ⟨R11, N68, OR11, u, u2⟩ := lw_more (tl := (tp, listOf wtp.toArray ktp) :: tlp) F67 N67 H67 (fun p hp => (List.mem_cons.mp hp).elim (fun e => e ▸ f1) (f2 p)) OR10
  replace u := InLed.up u
  replace RG := RG.monoR u
  replace XL := XL.monoR u
  replace YL := YL.monoR u
  replace PF := PF.monoR u
  replace PG := PG.monoR u
  replace PP := PP.monoR u
  replace PH := PH.monoR u
  replace PA := PA.monoR u
  replace NO := NO.monoR u
  replace mTB := InLed.mono mTB u
  replace RO := RO.monoR u
  replace CO := CO.monoR u
  replace mcu1 := InLed.mono mcu1 u
  replace mra2 := InLed.mono mra2 u
  replace mrg1 := InLed.mono mrg1 u
  replace mrg2 := InLed.mono mrg2 u
  replace mf1 := InLed.mono mf1 u
  replace mf2 := InLed.mono mf2 u
  replace mf3 := InLed.mono mf3 u
  replace mg1 := InLed.mono mg1 u
  replace mg2 := InLed.mono mg2 u
  replace mg3 := InLed.mono mg3 u
  replace mp1 := InLed.mono mp1 u
  replace mp2 := InLed.mono mp2 u
  replace mp3 := InLed.mono mp3 u
  replace TL := TL.monoR u
  replace mt1 := InLed.mono mt1 u
  replace mn1 := InLed.mono mn1 u
  replace mh1 := InLed.mono mh1 u
  replace mh2 := InLed.mono mh2 u
  replace mh3 := InLed.mono mh3 u
  replace ma1 := InLed.mono ma1 u
  replace ma2 := InLed.mono ma2 u
  replace ma3 := InLed.mono ma3 u
  replace my1 := InLed.mono my1 u
  have mtp : InLed R11 tp (listOf wtp.toArray ktp) := u2 _ List.mem_cons_self
  have RP : RowsAre (InLed R11) wtp (tableOf (schoolOf q n y x)) := hrp.mono (InLed.up fun p hp => u2 p (List.mem_cons_of_mem _ hp))
  have F68 := F67.keeps H67
  replace SS := (SS.trans (Same.put _ _ _)).trans S67
  (try clear S67)
  (try clear H67)
  (try clear f1)
  (try clear f2)
  (try clear hrp)
  (try clear F67)
  (try clear N67)
  (try clear u)
  (try clear u2)
  (try clear OR10)
  (try clear mb1)
  (try clear mb2)
  (try clear mb3)
  have hsqp : Sq 17 n (tableOf (schoolOf q n y x)) := by have := tableOf_sq hpb; rw [hlp] at this; exact this
  have hsqy : Sq kk n (tableOf y) := by have := tableOf_sq hyb; rw [hleny] at this; exact this
  have hdets : (detOf n (tableOf (schoolOf q n y x))).fmod q = (detX n x * detOf n (tableOf y)).fmod q := by rw [efm, efm]; exact ok.dets
  have hn3 : n * (kk + 3) ≤ 4 * (kk + 3) := Nat.mul_le_mul_right _ hn2
  one_place
  rename Fr _ _ _ _ => F69
  rename News _ _ _ _ => N69
  tb_rel
  refine lawDet (k := 17) (by decide) n hn2 F69.keep KG TG (led9 N69 _ _ mtp) (RP.mono (led9 N69)) hsqp (by ktr_room) ?_ ?_
  · have := cLine_is; show un + 3 + 10 * n + 100 < cLine; omega
  intro s69 t69 H69 S69
  have N70 := N69.grown H69
  have F70 := F69.keeps H69
  replace SS := (SS.trans (Same.put _ _ _)).trans S69
  (try clear F69)
  (try clear N69)
  (try clear H69)
  (try clear S69)
  (try clear F68)
  (try clear N68)
  one_place
  rename Fr _ _ _ _ => F71
  rename News _ _ _ _ => N71
  tb_rel
  refine lawTable F71.keep KG TG (led9 N71 _ _ my1) iy1 (by omega) (by ktr_room) ?_
  intro s71 ty kty wty tly H71 S71 f1 f2 hry
  obtain ⟨R12, N72, OR12, u, u2⟩ := lw_more (tl := (ty, listOf wty.toArray kty) :: tly) F71 N71 H71 (fun p hp => (List.mem_cons.mp hp).elim (fun e => e ▸ f1) (f2 p)) OR11
  replace u := InLed.up u
  replace RG := RG.monoR u
  replace XL := XL.monoR u
  replace YL := YL.monoR u
  replace PF := PF.monoR u
  replace PG := PG.monoR u
  replace PP := PP.monoR u
  replace PH := PH.monoR u
  replace PA := PA.monoR u
  replace NO := NO.monoR u
  replace mTB := InLed.mono mTB u
  replace RO := RO.monoR u
  replace CO := CO.monoR u
  replace mcu1 := InLed.mono mcu1 u
  replace mra2 := InLed.mono mra2 u
  replace mrg1 := InLed.mono mrg1 u
  replace mrg2 := InLed.mono mrg2 u
  replace mf1 := InLed.mono mf1 u
  replace mf2 := InLed.mono mf2 u
  replace mf3 := InLed.mono mf3 u
  replace mg1 := InLed.mono mg1 u
  replace mg2 := InLed.mono mg2 u
  replace mg3 := InLed.mono mg3 u
  replace mp1 := InLed.mono mp1 u
  replace mp2 := InLed.mono mp2 u
  replace mp3 := InLed.mono mp3 u
  replace TL := TL.monoR u
  replace mt1 := InLed.mono mt1 u
  replace mn1 := InLed.mono mn1 u
  replace mh1 := InLed.mono mh1 u
  replace mh2 := InLed.mono mh2 u
  replace mh3 := InLed.mono mh3 u
  replace ma1 := InLed.mono ma1 u
  replace ma2 := InLed.mono ma2 u
  replace ma3 := InLed.mono ma3 u
  replace my1 := InLed.mono my1 u
  have mty : InLed R12 ty (listOf wty.toArray kty) := u2 _ List.mem_cons_self
  have RY : RowsAre (InLed R12) wty (tableOf y) := hry.mono (InLed.up fun p hp => u2 p (List.mem_cons_of_mem _ hp))
  have F72 := F71.keeps H71
  replace SS := (SS.trans (Same.put _ _ _)).trans S71
  (try clear S71)
  (try clear H71)
  (try clear f1)
  (try clear f2)
  (try clear hry)
  (try clear F71)
  (try clear N71)
  (try clear u)
  (try clear u2)
  (try clear OR11)
  (try clear RP)
  (try clear mtp)
  one_place
  rename Fr _ _ _ _ => F73
  rename News _ _ _ _ => N73
  tb_rel
  refine lawDet (k := kk) (by omega) n hn2 F73.keep KG TG (led9 N73 _ _ mty) (RY.mono (led9 N73)) hsqy (by ktr_room) ?_ ?_
  · have := cLine_is; show un + 3 + 10 * n + 100 < cLine; omega
  intro s73 t73 H73 S73
  have N74 := N73.grown H73
  have F74 := F73.keeps H73
  replace SS := (SS.trans (Same.put _ _ _)).trans S73
  (try clear F73)
  (try clear N73)
  (try clear H73)
  (try clear S73)
  (try clear F72)
  (try clear N72)
  one_place
  refine Stop.out (mul_ok (hdb.ok (detOf_bd hn2 hsqy) (by omega)) ?_)
  one_place
  refine Stop.out (ne_int ?_)
  rw [show ((detOf n (tableOf (schoolOf q n y x))).fmod q != (detX n x * detOf n (tableOf y)).fmod q) = false from by rw [hdets]; simp]
  one_place
  rename_i cg0
  revert prog w p loose mg mb dp un fr gd h₀ s Q E l vs ns mgB bm ob kk q n e x y hsub hi hlen hP10 hP20 hqd hnd hed hxd hyd ok hq hq2 hn hn2 he hb hkk hd hu ret g L' h₁ ca0 G1 KG TG o1 o2 o3 o4 o5 o6 o7 lo1 lo2 d1 d2 d3 d4 d5 d6 d7 gl MG s1 t1 ca1 ca2 ca3 ca4 ca5 tq dq' s2 t2 ca6 ca7 ca8 tn dn' s3 t3 ca9 ca10 te s4 rg dr tr1 tr2 tr3 tr4 ca11 ca12 ca13 ca14 ca15 ca16 ca17 ca18 D5 ys5 s5 s6 ca19 ca20 ca21 ca22 ca23 ca24 D6 ys6 s7 ca25 ca26 ca27 hlenx hleny D8 h8 s8 xf cb0 tpf tcf ca28 ca29 D10 h10 s10 xg cb1 tpg tcg ca30 cb2 ca31 ca32 ca33 ca34 ca35 ca36 ern D11 ys11 s11 s12 s13 tb ktb wtb tlt ca37 ca38 ca39 hxb hyb hsq ca40 ca41 ca42 ca43 ca44 ca45 D14 ys14 s14 ca46 ca47 ca48 R CG CI hlc hcb hmk ra rus rna hra1 hra3 cus cna mcu2 hr0l hr0b cb3 cb4 cb5 cb6 cb7 R20 cb8 a20 s20 ps20 s21 t21 dr' tr1' tr2' tr3' tr4' cb9 cb10 D23 h23 R1 dd s24 xh cd0 tph tch R2 dxf axf tpf' tcf' fus fna if3 dxg axg tpg' tcg' gus gna ig3 cb11 cc0 s26 xp cd1 tl26 R3 hlp dxp axp tpp tcp pus pna ip3 cc1 cd2 cc4 cc5 cc6 cc7 cc8 cc9 D40 ys40 ps40 s40 tr40 s41 R4 tus tna it1 hu2 cd3 s44 ps44 T44 B1 D46 h46 R5 m46 nus nna in1 dxh axh tph' tch' hus hna ih3 cd4 cd5 s49 xa cf0 tl49 R6 hla dxa axa tpa tca aus ana ia3 cd6 ce0 s51 ps51 T51 efm D53 h53 R7 m53 D57 h57 R8 m57 cg0 hpb hdb yus yna iy1 s60 xb hz tl60 R9 dxb axb tpb tcb bus bna ib3 D63 ys63 s63 hys63 R10 m65 s67 tp ktp wtp tlp R11 hsqp hsqy hdets hn3 s69 t69 s71 ty kty wty tly R12 OR12 RG XL YL PF PG PP PH PA NO mTB RO CO mcu1 mra2 mrg1 mrg2 mf1 mf2 mf3 mg1 mg2 mg3 mp1 mp2 mp3 TL mt1 mn1 mh1 mh2 mh3 ma1 ma2 ma3 my1 mty RY s73 t73 N74 F74 SS tk
  exact @Wrap.h _ hP
  ⟩

-- law_h
noncomputable def seg_law_h : {P : Prop // Wrap P → seg_law_g.1} := ⟨_, fun hP => by
  delta seg_law_g
  intro prog w p loose mg mb dp un fr gd h₀ s Q E l vs ns mgB bm ob kk q n e x y hsub hi hlen hP10 hP20 hqd hnd hed hxd hyd ok hq hq2 hn hn2 he hb hkk hd hu ret g L' h₁ ca0 G1 KG TG o1 o2 o3 o4 o5 o6 o7 lo1 lo2 d1 d2 d3 d4 d5 d6 d7 gl MG s1 t1 ca1 ca2 ca3 ca4 ca5 tq dq' s2 t2 ca6 ca7 ca8 tn dn' s3 t3 ca9 ca10 te s4 rg dr tr1 tr2 tr3 tr4 ca11 ca12 ca13 ca14 ca15 ca16 ca17 ca18 D5 ys5 s5 s6 ca19 ca20 ca21 ca22 ca23 ca24 D6 ys6 s7 ca25 ca26 ca27 hlenx hleny D8 h8 s8 xf cb0 tpf tcf ca28 ca29 D10 h10 s10 xg cb1 tpg tcg ca30 cb2 ca31 ca32 ca33 ca34 ca35 ca36 ern D11 ys11 s11 s12 s13 tb ktb wtb tlt ca37 ca38 ca39 hxb hyb hsq ca40 ca41 ca42 ca43 ca44 ca45 D14 ys14 s14 ca46 ca47 ca48 R CG CI hlc hcb hmk ra rus rna hra1 hra3 cus cna mcu2 hr0l hr0b cb3 cb4 cb5 cb6 cb7 R20 cb8 a20 s20 ps20 s21 t21 dr' tr1' tr2' tr3' tr4' cb9 cb10 D23 h23 R1 dd s24 xh cd0 tph tch R2 dxf axf tpf' tcf' fus fna if3 dxg axg tpg' tcg' gus gna ig3 cb11 cc0 s26 xp cd1 tl26 R3 hlp dxp axp tpp tcp pus pna ip3 cc1 cd2 cc4 cc5 cc6 cc7 cc8 cc9 D40 ys40 ps40 s40 tr40 s41 R4 tus tna it1 hu2 cd3 s44 ps44 T44 B1 D46 h46 R5 m46 nus nna in1 dxh axh tph' tch' hus hna ih3 cd4 cd5 s49 xa cf0 tl49 R6 hla dxa axa tpa tca aus ana ia3 cd6 ce0 s51 ps51 T51 efm D53 h53 R7 m53 D57 h57 R8 m57 cg0 hpb hdb yus yna iy1 s60 xb hz tl60 R9 dxb axb tpb tcb bus bna ib3 D63 ys63 s63 hys63 R10 m65 s67 tp ktp wtp tlp R11 hsqp hsqy hdets hn3 s69 t69 s71 ty kty wty tly R12 OR12 RG XL YL PF PG PP PH PA NO mTB RO CO mcu1 mra2 mrg1 mrg2 mf1 mf2 mf3 mg1 mg2 mg3 mp1 mp2 mp3 TL mt1 mn1 mh1 mh2 mh3 ma1 ma2 ma3 my1 mty RY s73 t73 N74 F74 SS tk
  rename Fr _ _ _ _ => F75
  rename News _ _ _ _ => N75
  obtain ⟨xus, xna, mx1, ix1⟩ := id XL
  have hdw : n ≠ 3 → wholeOf q n x = (detX n x).fmod q :: noughts n := fun h => by rw [efm]; exact ok.whole h
  refine' Stop.out (join_K (JoinAt g L' s (mapOf F75) [Str.ofString "whole", Str.ofString "s"] (pre9 N75) R12) ?hKu1 ?hu1)
  case hu1 =>
    refine ne_int ?_
    by_cases h3 : n = 3
    · rw [show (((n : Nat) : Int) != 3) = false from by simp; omega]
      one_place
      rename Fr _ _ _ _ => F76
      rename News _ _ _ _ => N76
      exact JoinEnd.mk (SS.trans (Same.put _ _ _)) F76 N76 OR12 (fun _ h => h) (fun _ _ => rfl)
    · rw [show (((n : Nat) : Int) != 3) = true from by simp; omega]
      one_place
      rename Fr _ _ _ _ => F76
      rename News _ _ _ _ => N76
      tb_rel
      refine ringInt F76.keep KG TG (RG.mono (led9 N76)) hn (by omega) (by ktr_room) ?_
      intro s76 xw H76 S76 hz
      obtain ⟨tl76, htl76, hz⟩ := poly_tl hz
      obtain ⟨R13, N77, OR13, u, u2⟩ := lw_more F76 N76 H76 htl76 OR12
      replace u := InLed.up u
      have usub : ∀ p ∈ R12, p ∈ R13 := fun p hp => u p.1 p.2 hp
      replace RG := RG.monoR u
      replace mrg1 := InLed.mono mrg1 u
      replace mrg2 := InLed.mono mrg2 u
      replace mx1 := InLed.mono mx1 u
      replace NO := NO.monoR u
      replace mn1 := InLed.mono mn1 u
      have PW : PolyOn w (InLed R13) xw rg (oneOf n) := hz.mono (InLed.up u2)
      have F77 := F76.keeps H76
      replace SS := (SS.trans (Same.put _ _ _)).trans S76
      (try clear S76)
      (try clear H76)
      (try clear htl76)
      (try clear hz)
      (try clear F76)
      (try clear N76)
      (try clear u)
      (try clear u2)
      one_place
      refine Stop.out ?_
      with_unfolding_all refine wpAny_For ?_
      one_place
      refine Stop.out ?_
      rename IsRange _ _ _ _ _ _ _ _ => R80
      rename Fr _ _ _ _ => F80
      rename News _ _ _ _ => N80
      k_dflt (refine' for_range (σ := WhSt) (n := n) (fun c => pre9 N80 ++ c.R) (fun c => [(Str.ofString "whole", Value.ref c.xw)]) [] (fun i c => PolyOn w (InLed c.R) c.xw rg c.cw ∧ c.cw = (List.range i).foldl (fun w s => schoolOf q n w (turnedOf x (2 * s + 1))) (oneOf n) ∧ (∀ p ∈ R13, p ∈ c.R) ∧ OffAll ((pre9 N80).map Prod.fst) c.R ∧ c.cw.length = n ∧ ∀ z ∈ c.cw, Bd 17 z) ⟨R13, xw, oneOf n⟩ ?hhu2 ?hru2 ?hsu2 ?hnu2 ?hxu2 ?hpu2 F80 N80 ?hku2 ⟨PW, rfl, fun _ h => h, OR13, by simp [oneOf]; omega, ?_⟩ ?_ ?_)
      case hhu2 => rfl
      case hru2 => exact R80
      case hxu2 => rfl
      case hpu2 => rfl
      case hsu2 => exact small_one (by decide) (by decide) (by omega) (by omega)
      case hnu2 => rw [rangeSize_nat]; omega
      case hku2 => kwd_inv
      · intro z hz
        simp only [oneOf, List.mem_cons, List.mem_replicate] at hz
        rcases hz with rfl | ⟨_, rfl⟩
        · unfold Bd; decide
        · exact Bd.zero
      · rintro i ⟨Rc, xw, cw⟩ t u s₁ I oI hi' ⟨hpw, hcw, hsub', hoff, hcl, hcb'⟩ S5 F5 N5 O5
        dsimp only [kstB] at F5 N5 O5 hpw hcw hsub' hoff hcl hcb'
        simp only [pre9, List.cons_append, List.nil_append, List.map_cons, List.map_nil] at N5 hoff
        rw [Int.zero_add] at F5
        replace RG := RG.mono (InLed.up hsub')
        replace mrg1 := InLed.mono mrg1 (InLed.up hsub')
        replace mrg2 := InLed.mono mrg2 (InLed.up hsub')
        replace mx1 := InLed.mono mx1 (InLed.up hsub')
        obtain ⟨dxw, axw, tpw, tcw, mw1, mw2, wus, wna, mw3, iw3⟩ := id hpw
        (try clear F80)
        (try clear R80)
        (try clear F75)
        (try clear F77)
        have OI := OffAll.cons (c := I) (fun p hp => O5 p (List.mem_append_right _ hp)) hoff
        have hturn := turned_bd (j := 2 * i + 1) hxb (by omega)
        have htlen : (turnedOf x (2 * i + 1)).length = n := by rw [turnedOf_length, hlenx]
        one_place
        refine Stop.out (mul_ok (IntMulOk.of_left (intBits_le_64 (by omega) (by omega))) ?_)
        one_place
        rename Fr _ _ _ _ => F82
        rename News _ _ _ _ => N82
        tb_rel
        rw [show (2 * (i : Int) + 1) = ((2 * i + 1 : Nat) : Int) from by omega]
        refine lawTurned F82.keep KG TG (led10 N82 _ _ mx1) ix1 (by omega) (by omega) (by ktr_room) ?_
        intro s82 o H82 S82 ho
        obtain ⟨tl82, htl82, ho⟩ := ints_tl ho
        obtain ⟨R14, N83, OR14, u, u2⟩ := gl_more (l := [_, _, _, _, _, _, _, _, _, _]) F82 N82 H82 htl82 OI
        have us14 := u
        replace u := InLed.up u
        replace RG := RG.monoR u
        replace mrg1 := InLed.mono mrg1 u
        replace mrg2 := InLed.mono mrg2 u
        replace mw1 := InLed.mono mw1 u
        replace mw2 := InLed.mono mw2 u
        replace mw3 := InLed.mono mw3 u
        replace hpw := hpw.monoR u
        obtain ⟨ous, ona, mo1, io1⟩ := ho.mono (InLed.up u2)
        have F83 := F82.keeps H82
        simp only [List.cons_append, List.nil_append] at N83
        have SW : Same _ _ := (Same.put s₁ _ _).trans S82
        (try clear F82)
        (try clear N82)
        (try clear H82)
        (try clear S82)
        (try clear htl82)
        (try clear ho)
        (try clear u)
        (try clear u2)
        (try clear F5)
        one_place
        rename Fr _ _ _ _ => F84
        rename News _ _ _ _ => N84
        tb_rel
        refine ringList F84.keep KG TG (RG.mono (led10 N84)) ⟨ous, ona, led10 N84 _ _ mo1, io1⟩ htlen (by omega) (by ktr_room) ?_
        intro s84 xr dxr tpr tcr H84 S84 f1 f2
        obtain ⟨R15, N85, OR15, u, u2⟩ := gl_more (l := [_, _, _, _, _, _, _, _, _, _]) F84 N84 H84 (fresh2 (a := (_, _)) (b := (_, _)) f1 f2) OR14
        have us15 := u
        replace u := InLed.up u
        replace RG := RG.monoR u
        replace mrg1 := InLed.mono mrg1 u
        replace mrg2 := InLed.mono mrg2 u
        replace mw1 := InLed.mono mw1 u
        replace mw2 := InLed.mono mw2 u
        replace mw3 := InLed.mono mw3 u
        replace hpw := hpw.monoR u
        replace mo1 := InLed.mono mo1 u
        have PR : PolyOn w (InLed R15) xr rg (turnedOf x (2 * i + 1)) := ⟨dxr, o, tpr, tcr, u2 _ List.mem_cons_self, u2 _ (List.mem_cons_of_mem _ List.mem_cons_self), ous, ona, mo1, io1⟩
        obtain ⟨dxr', axr, tpr', tcr', mr1, mr2, rus', rna', mr3, ir3⟩ := id PR
        have F85 := F84.keeps H84
        simp only [List.cons_append, List.nil_append] at N85
        replace SW := (SW.trans (Same.put _ _ _)).trans S84
        (try clear F84)
        (try clear N84)
        (try clear H84)
        (try clear S84)
        (try clear u)
        (try clear u2)
        (try clear F83)
        (try clear N83)
        (try clear f1)
        (try clear f2)
        (try clear OR14)
        (try clear OI)
        (try clear N5)
        one_place
        rename Fr _ _ _ _ => F86
        rename News _ _ _ _ => N86
        tb_rel
        refine imulPoly F86.keep KG TG (hpw.mono (led10 N86)) (PR.mono (led10 N86)) (RG.mono (led10 N86)) hq hn hn2 hcl htlen (fun i j => (Bd.getD hcb' i).ok (Bd.getD hturn j) (by omega)) (by ktr_room) ?_
        intro s86 z H86 S86 hz
        obtain ⟨tl86, htl86, hz⟩ := poly_tl hz
        obtain ⟨R16, N87, OR16, u, u2⟩ := gl_more (l := [_, _, _, _, _, _, _, _, _, _]) F86 N86 H86 htl86 OR15
        have F87 := F86.keeps H86
        replace SW := (SW.trans (Same.put _ _ _)).trans S86
        simp only [List.cons_append, List.nil_append] at N87
        have PZ := hz.mono (InLed.up u2)
        (try clear F86)
        (try clear N86)
        (try clear H86)
        (try clear S86)
        (try clear F85)
        (try clear N85)
        (try clear u2)
        (try clear hz)
        (try clear htl86)
        one_place
        rename Fr _ _ _ _ => F88
        rename News _ _ _ _ => N88
        refine Stop.out (TurnG.mk (WhSt.mk R16 z (schoolOf q n cw (turnedOf x (2 * i + 1)))) (SW.trans (Same.put _ _ _)) F88 N88 ?_ (by kwd_inv) (by kwd_rel) ⟨PZ, ?_, fun p hp => u p (us15 p (us14 p (hsub' p hp))), fun p hp c hc => OR16 p hp c (List.mem_cons_of_mem _ hc), schoolOf_length hn, schoolOf_bd hq hq2⟩)
        · intro p hp
          rcases List.mem_append.mp hp with hp | hp
          · exact O5 p (List.mem_append_left _ hp)
          · exact OR16 p hp I List.mem_cons_self
        · show schoolOf q n cw (turnedOf x (2 * i + 1)) = _
          rw [List.range_succ, List.foldl_append, ← hcw]
          rfl
      · rintro ⟨Rc, xw, cw⟩ u s₁ ⟨hpw, hcw, hsub', hoff, hcl, hcb'⟩ S5 F5 N5
        dsimp only [kstB] at F5 N5 hpw hcw hsub' hoff hcl hcb'
        simp only [pre9, List.cons_append, List.nil_append, List.map_cons, List.map_nil] at N5 hoff
        replace SS := (SS.trans (Same.put _ _ _)).trans S5
        have hcw' : cw = (detX n x).fmod q :: noughts n := hcw.trans (hdw h3)
        replace mn1 := InLed.mono mn1 (InLed.up hsub')
        obtain ⟨dxw, axw, tpw, tcw, mw1, mw2, wus, wna, mw3, iw3⟩ := id hpw
        clear hcw hcl hcb' S5
        one_place
        rename Fr _ _ _ _ => F90
        rename News _ _ _ _ => N90
        refine Stop.out (newList_led F90 N90 (by size_fits) ?_)
        intro D90 h90 G90 F91 N91 O91
        obtain ⟨R17, N92, OR17, u, m92⟩ := lw_front N91 O91 hoff
        have us17 := u
        replace u := InLed.up u
        replace m92 : InLed R17 _ _ := m92
        replace mw1 := InLed.mono mw1 u
        replace mw2 := InLed.mono mw2 u
        replace mw3 := InLed.mono mw3 u
        replace mn1 := InLed.mono mn1 u
        (try clear F90)
        (try clear N90)
        (try clear N91)
        (try clear O91)
        (try clear u)
        (try clear G90)
        (try clear N5)
        (try clear F5)
        one_place
        rename Fr _ _ _ _ => F93
        rename News _ _ _ _ => N93
        refine Stop.out (add_lists F93 N93 (led9 N93 _ _ m92) (led9 N93 _ _ mn1) (by have := in1.length; simp [noughts, sizeLine_eq] at this ⊢; omega) ?_)
        intro D94 h94 G94 F94 N94 O94
        obtain ⟨R18, N95, OR18, u, m95⟩ := lw_front N94 O94 OR17
        have us18 := u
        replace u := InLed.up u
        replace m95 : InLed R18 _ _ := m95
        replace mw3 := InLed.mono mw3 u
        (try clear F93)
        (try clear N93)
        (try clear N94)
        (try clear O94)
        (try clear u)
        (try clear G94)
        one_place
        rename Fr _ _ _ _ => F96
        rename News _ _ _ _ => N96
        refine Stop.out (ne_same (led9 N96 _ _ mw3) (led9 N96 _ _ m95) iw3 ((IntsAre.cons _ _ .nil).append in1) hu2 hcw' ?_)
        one_place
        rename Fr _ _ _ _ => F97
        rename News _ _ _ _ => N97

        refine JoinEnd.mk (SS.trans (Same.put _ _ _)) F97 N97 OR18 (fun p hp => us18 p (us17 p (hsub' p (usub p hp)))) ?_
        intro z hz
        simp only [List.contains_cons, List.contains_nil, Bool.or_false, Bool.or_eq_false_iff, beq_eq_false_iff_ne, ne_eq] at hz
        simp [mapOf, hz]
  rintro s97 ⟨u97, R19, S97, F97, N97, OR19, us19⟩
  dsimp only [mapOf] at F97
  simp only [pre9, List.cons_append, List.nil_append, List.map_cons, List.map_nil] at N97 OR19
  revert prog w p loose mg mb dp un fr gd h₀ s Q E l vs ns mgB bm ob kk q n e x y hsub hi hlen hP10 hP20 hqd hnd hed hxd hyd ok hq hq2 hn hn2 he hb hkk hd hu ret g L' h₁ ca0 G1 KG TG o1 o2 o3 o4 o5 o6 o7 lo1 lo2 d1 d2 d3 d4 d5 d6 d7 gl MG s1 t1 ca1 ca2 ca3 ca4 ca5 tq dq' s2 t2 ca6 ca7 ca8 tn dn' s3 t3 ca9 ca10 te s4 rg dr tr1 tr2 tr3 tr4 ca11 ca12 ca13 ca14 ca15 ca16 ca17 ca18 D5 ys5 s5 s6 ca19 ca20 ca21 ca22 ca23 ca24 D6 ys6 s7 ca25 ca26 ca27 hlenx hleny D8 h8 s8 xf cb0 tpf tcf ca28 ca29 D10 h10 s10 xg cb1 tpg tcg ca30 cb2 ca31 ca32 ca33 ca34 ca35 ca36 ern D11 ys11 s11 s12 s13 tb ktb wtb tlt ca37 ca38 ca39 hxb hyb hsq ca40 ca41 ca42 ca43 ca44 ca45 D14 ys14 s14 ca46 ca47 ca48 R CG CI hlc hcb hmk ra rus rna hra1 hra3 cus cna mcu2 hr0l hr0b cb3 cb4 cb5 cb6 cb7 R20 cb8 a20 s20 ps20 s21 t21 dr' tr1' tr2' tr3' tr4' cb9 cb10 D23 h23 R1 dd s24 xh cd0 tph tch R2 dxf axf tpf' tcf' fus fna if3 dxg axg tpg' tcg' gus gna ig3 cb11 cc0 s26 xp cd1 tl26 R3 hlp dxp axp tpp tcp pus pna ip3 cc1 cd2 cc4 cc5 cc6 cc7 cc8 cc9 D40 ys40 ps40 s40 tr40 s41 R4 tus tna it1 hu2 cd3 s44 ps44 T44 B1 D46 h46 R5 m46 nus nna in1 dxh axh tph' tch' hus hna ih3 cd4 cd5 s49 xa cf0 tl49 R6 hla dxa axa tpa tca aus ana ia3 cd6 ce0 s51 ps51 T51 efm D53 h53 R7 m53 D57 h57 R8 m57 cg0 hpb hdb yus yna iy1 s60 xb hz tl60 R9 dxb axb tpb tcb bus bna ib3 D63 ys63 s63 hys63 R10 m65 s67 tp ktp wtp tlp R11 hsqp hsqy hdets hn3 s69 t69 s71 ty kty wty tly R12 OR12 RG XL YL PF PG PP PH PA NO mTB RO CO mcu1 mra2 mrg1 mrg2 mf1 mf2 mf3 mg1 mg2 mg3 mp1 mp2 mp3 TL mt1 mn1 mh1 mh2 mh3 ma1 ma2 ma3 my1 mty RY s73 t73 N75 F75 SS tk xus xna mx1 ix1 hdw s97 u97 R19 S97 F97 N97 us19 OR19
  exact @Wrap.h _ hP
  ⟩

-- law_i
noncomputable def seg_law_i : {P : Prop // Wrap P → seg_law_h.1} := ⟨_ ∧ _, fun hP => by
  delta seg_law_h
  intro prog w p loose mg mb dp un fr gd h₀ s Q E l vs ns mgB bm ob kk q n e x y hsub hi hlen hP10 hP20 hqd hnd hed hxd hyd ok hq hq2 hn hn2 he hb hkk hd hu ret g L' h₁ ca0 G1 KG TG o1 o2 o3 o4 o5 o6 o7 lo1 lo2 d1 d2 d3 d4 d5 d6 d7 gl MG s1 t1 ca1 ca2 ca3 ca4 ca5 tq dq' s2 t2 ca6 ca7 ca8 tn dn' s3 t3 ca9 ca10 te s4 rg dr tr1 tr2 tr3 tr4 ca11 ca12 ca13 ca14 ca15 ca16 ca17 ca18 D5 ys5 s5 s6 ca19 ca20 ca21 ca22 ca23 ca24 D6 ys6 s7 ca25 ca26 ca27 hlenx hleny D8 h8 s8 xf cb0 tpf tcf ca28 ca29 D10 h10 s10 xg cb1 tpg tcg ca30 cb2 ca31 ca32 ca33 ca34 ca35 ca36 ern D11 ys11 s11 s12 s13 tb ktb wtb tlt ca37 ca38 ca39 hxb hyb hsq ca40 ca41 ca42 ca43 ca44 ca45 D14 ys14 s14 ca46 ca47 ca48 R CG CI hlc hcb hmk ra rus rna hra1 hra3 cus cna mcu2 hr0l hr0b cb3 cb4 cb5 cb6 cb7 R20 cb8 a20 s20 ps20 s21 t21 dr' tr1' tr2' tr3' tr4' cb9 cb10 D23 h23 R1 dd s24 xh cd0 tph tch R2 dxf axf tpf' tcf' fus fna if3 dxg axg tpg' tcg' gus gna ig3 cb11 cc0 s26 xp cd1 tl26 R3 hlp dxp axp tpp tcp pus pna ip3 cc1 cd2 cc4 cc5 cc6 cc7 cc8 cc9 D40 ys40 ps40 s40 tr40 s41 R4 tus tna it1 hu2 cd3 s44 ps44 T44 B1 D46 h46 R5 m46 nus nna in1 dxh axh tph' tch' hus hna ih3 cd4 cd5 s49 xa cf0 tl49 R6 hla dxa axa tpa tca aus ana ia3 cd6 ce0 s51 ps51 T51 efm D53 h53 R7 m53 D57 h57 R8 m57 cg0 hpb hdb yus yna iy1 s60 xb hz tl60 R9 dxb axb tpb tcb bus bna ib3 D63 ys63 s63 hys63 R10 m65 s67 tp ktp wtp tlp R11 hsqp hsqy hdets hn3 s69 t69 s71 ty kty wty tly R12 OR12 RG XL YL PF PG PP PH PA NO mTB RO CO mcu1 mra2 mrg1 mrg2 mf1 mf2 mf3 mg1 mg2 mg3 mp1 mp2 mp3 TL mt1 mn1 mh1 mh2 mh3 ma1 ma2 ma3 my1 mty RY s73 t73 N75 F75 SS tk xus xna mx1 ix1 hdw s97 u97 R19 S97 F97 N97 us19 OR19
  replace us19 := InLed.up us19
  replace RG := RG.monoR us19
  replace XL := XL.monoR us19
  replace YL := YL.monoR us19
  replace PF := PF.monoR us19
  replace PG := PG.monoR us19
  replace PP := PP.monoR us19
  replace PH := PH.monoR us19
  replace PA := PA.monoR us19
  replace NO := NO.monoR us19
  replace mcu1 := InLed.mono mcu1 us19
  replace mrg1 := InLed.mono mrg1 us19
  replace mrg2 := InLed.mono mrg2 us19
  replace mf1 := InLed.mono mf1 us19
  replace mf2 := InLed.mono mf2 us19
  replace mf3 := InLed.mono mf3 us19
  replace mg1 := InLed.mono mg1 us19
  replace mg2 := InLed.mono mg2 us19
  replace mg3 := InLed.mono mg3 us19
  replace mp1 := InLed.mono mp1 us19
  replace mp2 := InLed.mono mp2 us19
  replace mp3 := InLed.mono mp3 us19
  replace mn1 := InLed.mono mn1 us19
  replace mh1 := InLed.mono mh1 us19
  replace mh2 := InLed.mono mh2 us19
  replace mh3 := InLed.mono mh3 us19
  replace mx1 := InLed.mono mx1 us19
  replace my1 := InLed.mono my1 us19
  (try clear F75)
  (try clear N75)
  (try clear SS)
  (try clear us19)
  (try clear PA)
  (try clear ma1)
  (try clear ma2)
  (try clear ma3)
  (try clear RY)
  (try clear mty)
  (try clear mt1)
  (try clear TL)
  (try clear mTB)
  (try clear RO)
  (try clear CO)
  (try clear mra2)
  (try clear OR12)
  (try clear hdets)
  (try clear ia3)
  (try clear ip3')
  (try clear m53)
  (try clear m57)
  one_place
  rename Fr _ _ _ _ => F98
  rename News _ _ _ _ => N98
  tb_rel
  refine lawInverse F98.keep KG TG hq (by omega) (by ktr_room) ?_
  intro s98 part t98 H98 S98 p0 p1 hpd
  have N99 := N98.grown H98
  have F99 := F98.keeps H98
  replace SS := (S97.trans (Same.put _ _ _)).trans S98
  (try clear F98)
  (try clear N98)
  (try clear H98)
  (try clear S98)
  (try clear S97)
  (try clear F97)
  (try clear N97)
  one_place
  rename Fr _ _ _ _ => F100
  rename News _ _ _ _ => N100
  have hpm : ∀ c : Int, IntMulOk c part := fun c => IntMulOk.of_right (intBits_le_64 (by omega) (by omega))
  have hkb : ∀ z ∈ (cofOf n (tableOf x)).map (fun c => c * part % q), Bd 17 z := mapmod_bd hq hq2
  have hlk : ((cofOf n (tableOf x)).map (fun c => c * part % q)).length = n := by rw [List.length_map, hlc]
  refine' Stop.out (join_S (JoinAt g L' s (mapOf F100) [Str.ofString "back"] (pre9 N100) R19) ?hKu1 ?hu1)
  rotate_left
  refine ne_int ?_
  by_cases h0 : part = 0
  · rw [show (part != 0) = false from by simp; omega]
    one_place
    rename Fr _ _ _ _ => F101
    rename News _ _ _ _ => N101
    exact JoinEnd.mk (SS.trans (Same.put _ _ _)) F101 N101 OR19 (fun _ h => h) (fun _ _ => rfl)
  rw [show (part != 0) = true from by simp; omega]
  replace hpd := hpd h0
  one_place
  rename Fr _ _ _ _ => F101
  rename News _ _ _ _ => N101
  tb_rel
  refine mulInt F101.keep KG TG (PH.mono (led9 N101)) (RG.mono (led9 N101)) hq hn hn2 hlc (fun c _ => hpm c) (by ktr_room) ?_
  intro s101 xk H101 S101 hz
  obtain ⟨tl101, htl101, hz⟩ := poly_tl hz
  obtain ⟨R20, N102, OR20, u, u2⟩ := lw_more F101 N101 H101 htl101 OR19
  have us20 := u
  replace u := InLed.up u
  replace RG := RG.monoR u
  replace PF := PF.monoR u
  replace PP := PP.monoR u
  replace mrg1 := InLed.mono mrg1 u
  replace mrg2 := InLed.mono mrg2 u
  replace mf1 := InLed.mono mf1 u
  replace mf2 := InLed.mono mf2 u
  replace mf3 := InLed.mono mf3 u
  replace mp1 := InLed.mono mp1 u
  replace mp2 := InLed.mono mp2 u
  replace mp3 := InLed.mono mp3 u
  replace mn1 := InLed.mono mn1 u
  replace mx1 := InLed.mono mx1 u
  replace my1 := InLed.mono my1 u
  have PK := hz.mono (InLed.up u2)
  obtain ⟨dxk, axk, tpk, tck, mk1, mk2, kus, kna, mk3, ik3⟩ := id PK
  have F102 := F101.keeps H101
  replace SS := (SS.trans (Same.put _ _ _)).trans S101
  (try clear S101)
  (try clear H101)
  (try clear htl101)
  (try clear hz)
  (try clear F101)
  (try clear N101)
  (try clear u)
  (try clear u2)
  one_place
  rename Fr _ _ _ _ => F103
  rename News _ _ _ _ => N103
  tb_rel
  refine mulPoly F103.keep KG TG (PF.mono (led9 N103)) (PK.mono (led9 N103)) (RG.mono (led9 N103)) hq hn hn2 hlenx hlk (fun i j => (Bd.getD hxb i).ok (Bd.getD hkb j) (by omega)) (by ktr_room) ?_
  intro s103 xc H103 S103 hz
  obtain ⟨tl103, htl103, hz⟩ := poly_tl hz
  obtain ⟨R21, N104, OR21, u, u2⟩ := lw_more F103 N103 H103 htl103 OR20
  have us21 := u
  replace u := InLed.up u
  replace RG := RG.monoR u
  replace PF := PF.monoR u
  replace PP := PP.monoR u
  replace PK := PK.monoR u
  replace mrg1 := InLed.mono mrg1 u
  replace mrg2 := InLed.mono mrg2 u
  replace mf1 := InLed.mono mf1 u
  replace mf2 := InLed.mono mf2 u
  replace mf3 := InLed.mono mf3 u
  replace mp1 := InLed.mono mp1 u
  replace mp2 := InLed.mono mp2 u
  replace mp3 := InLed.mono mp3 u
  replace mn1 := InLed.mono mn1 u
  replace mx1 := InLed.mono mx1 u
  replace my1 := InLed.mono my1 u
  replace mk1 := InLed.mono mk1 u
  replace mk2 := InLed.mono mk2 u
  replace mk3 := InLed.mono mk3 u
  obtain ⟨dxc, axc, tpc, tcc, mc1, mc2, cus', cna', mc3, ic3⟩ := hz.mono (InLed.up u2)
  have F104 := F103.keeps H103
  replace SS := (SS.trans (Same.put _ _ _)).trans S103
  (try clear S103)
  (try clear H103)
  (try clear htl103)
  (try clear hz)
  (try clear F103)
  (try clear N103)
  (try clear u)
  (try clear u2)
  (try clear F102)
  (try clear N102)
  (try clear OR20)
  one_place
  rename Fr _ _ _ _ => F105
  rename News _ _ _ _ => N105
  refine Stop.out (newList_led F105 N105 (by size_fits) ?_)
  intro D105 h105 G105 F106 N106 O106
  obtain ⟨R22, N107, OR22, u, m107⟩ := lw_front N106 O106 OR21
  have us22 := u
  replace u := InLed.up u
  replace m107 : InLed R22 _ _ := m107
  replace RG := RG.monoR u
  replace PF := PF.monoR u
  replace PP := PP.monoR u
  replace PK := PK.monoR u
  replace mrg1 := InLed.mono mrg1 u
  replace mrg2 := InLed.mono mrg2 u
  replace mf1 := InLed.mono mf1 u
  replace mf2 := InLed.mono mf2 u
  replace mf3 := InLed.mono mf3 u
  replace mp1 := InLed.mono mp1 u
  replace mp2 := InLed.mono mp2 u
  replace mp3 := InLed.mono mp3 u
  replace mn1 := InLed.mono mn1 u
  replace mx1 := InLed.mono mx1 u
  replace my1 := InLed.mono my1 u
  replace mk1 := InLed.mono mk1 u
  replace mk2 := InLed.mono mk2 u
  replace mk3 := InLed.mono mk3 u
  replace mc3 := InLed.mono mc3 u
  (try clear F105)
  (try clear N105)
  (try clear N106)
  (try clear O106)
  (try clear u)
  (try clear G105)
  (try clear F104)
  (try clear N104)
  (try clear mc1)
  (try clear mc2)
  (try clear OR21)
  one_place
  rename Fr _ _ _ _ => F108
  rename News _ _ _ _ => N108
  refine Stop.out (add_lists F108 N108 (led9 N108 _ _ m107) (led9 N108 _ _ mn1) (by have := in1.length; simp [noughts, sizeLine_eq] at this ⊢; omega) ?_)
  intro D109 h109 G109 F109 N109 O109
  obtain ⟨R23, N110, OR23, u, m110⟩ := lw_front N109 O109 OR22
  have us23 := u
  replace u := InLed.up u
  replace m110 : InLed R23 _ _ := m110
  replace RG := RG.monoR u
  replace PF := PF.monoR u
  replace PP := PP.monoR u
  replace PK := PK.monoR u
  replace mrg1 := InLed.mono mrg1 u
  replace mrg2 := InLed.mono mrg2 u
  replace mf1 := InLed.mono mf1 u
  replace mf2 := InLed.mono mf2 u
  replace mf3 := InLed.mono mf3 u
  replace mp1 := InLed.mono mp1 u
  replace mp2 := InLed.mono mp2 u
  replace mp3 := InLed.mono mp3 u
  replace mn1 := InLed.mono mn1 u
  replace mx1 := InLed.mono mx1 u
  replace my1 := InLed.mono my1 u
  replace mk1 := InLed.mono mk1 u
  replace mk2 := InLed.mono mk2 u
  replace mk3 := InLed.mono mk3 u
  replace mc3 := InLed.mono mc3 u
  (try clear F108)
  (try clear N108)
  (try clear N109)
  (try clear O109)
  (try clear u)
  (try clear G109)
  (try clear OR22)
  (try clear m107)
  one_place
  rename Fr _ _ _ _ => F111
  rename News _ _ _ _ => N111
  refine Stop.out (ne_same (led9 N111 _ _ mc3) (led9 N111 _ _ m110) ic3 ((IntsAre.cons _ _ .nil).append in1) hu2 (ok.part1 part p0 p1 hpd) ?_)
  one_place
  rename_i ci0 ci1 ci2 ci3 ci4 ci5 ci6 ci7 ci8
  revert prog w p loose mg mb dp un fr gd h₀ s Q E l vs ns mgB bm ob kk q n e x y hsub hi hlen hP10 hP20 hqd hnd hed hxd hyd ok hq hq2 hn hn2 he hb hkk hd hu ret g L' h₁ ca0 G1 KG TG o1 o2 o3 o4 o5 o6 o7 lo1 lo2 d1 d2 d3 d4 d5 d6 d7 gl MG s1 t1 ca1 ca2 ca3 ca4 ca5 tq dq' s2 t2 ca6 ca7 ca8 tn dn' s3 t3 ca9 ca10 te s4 rg dr tr1 tr2 tr3 tr4 ca11 ca12 ca13 ca14 ca15 ca16 ca17 ca18 D5 ys5 s5 s6 ca19 ca20 ca21 ca22 ca23 ca24 D6 ys6 s7 ca25 ca26 ca27 hlenx hleny D8 h8 s8 xf cb0 tpf tcf ca28 ca29 D10 h10 s10 xg cb1 tpg tcg ca30 cb2 ca31 ca32 ca33 ca34 ca35 ca36 ern D11 ys11 s11 s12 s13 tb ktb wtb tlt ca37 ca38 ca39 hxb hyb hsq ca40 ca41 ca42 ca43 ca44 ca45 D14 ys14 s14 ca46 ca47 ca48 R CG CI hlc hcb hmk ra rus rna hra1 hra3 cus cna mcu2 hr0l hr0b cb3 cb4 cb5 cb6 cb7 ci0 cb8 a20 s20 ps20 s21 t21 dr' tr1' tr2' tr3' tr4' cb9 cb10 D23 h23 R1 dd s24 xh cd0 tph tch R2 dxf axf tpf' tcf' fus fna if3 dxg axg tpg' tcg' gus gna ig3 cb11 cc0 s26 xp cd1 tl26 R3 hlp dxp axp tpp tcp pus pna ip3 cc1 cd2 cc4 cc5 cc6 cc7 cc8 cc9 D40 ys40 ps40 s40 tr40 s41 R4 tus tna it1 hu2 cd3 s44 ps44 T44 B1 D46 h46 R5 m46 nus nna in1 dxh axh tph' tch' hus hna ih3 cd4 cd5 s49 xa cf0 tl49 R6 hla dxa axa tpa tca aus ana cd6 ce0 s51 ps51 T51 efm D53 h53 R7 D57 h57 R8 cg0 hpb hdb yus yna iy1 s60 xb ci1 tl60 R9 dxb axb tpb tcb bus bna ib3 D63 ys63 s63 hys63 R10 m65 s67 tp ktp wtp tlp R11 hsqp hsqy hn3 s69 t69 s71 ty kty wty tly R12 s73 t73 ci2 xus xna ix1 hdw s97 u97 R19 OR19 XL YL PG PH NO mcu1 mg1 mg2 mg3 mh1 mh2 mh3 s98 part t98 p0 p1 ci3 F101 N101 ci4 hpm hkb hlk h0 hpd ci5 s101 xk ci6 tl101 R20 us20 dxk axk tpk tck kus kna ik3 ci7 ci8 s103 xc hz tl103 R21 us21 dxc axc tpc tcc cus' cna' ic3 SS D105 h105 R22 us22 D109 h109 F111 R23 N111 OR23 us23 m110 RG PF PP PK mrg1 mrg2 mf1 mf2 mf3 mp1 mp2 mp3 mn1 mx1 my1 mk1 mk2 mk3 mc3 tk
  exact @And.left _ _ (Wrap.h hP)
  rename_i di0 di1
  revert prog w p loose mg mb dp un fr gd h₀ s Q E l vs ns mgB bm ob kk q n e x y hsub hi hlen hP10 hP20 hqd hnd hed hxd hyd ok hq hq2 hn hn2 he hb hkk hd hu ret g L' h₁ ca0 G1 KG TG o1 o2 o3 o4 o5 o6 o7 lo1 lo2 d1 d2 d3 d4 d5 d6 d7 gl MG s1 t1 ca1 ca2 ca3 ca4 ca5 tq dq' s2 t2 ca6 ca7 ca8 tn dn' s3 t3 ca9 ca10 te s4 rg dr tr1 tr2 tr3 tr4 ca11 ca12 ca13 ca14 ca15 ca16 ca17 ca18 D5 ys5 s5 s6 ca19 ca20 ca21 ca22 ca23 ca24 D6 ys6 s7 ca25 ca26 ca27 hlenx hleny D8 h8 s8 xf cb0 tpf tcf ca28 ca29 D10 h10 s10 xg cb1 tpg tcg ca30 cb2 ca31 ca32 ca33 ca34 ca35 ca36 ern D11 ys11 s11 s12 s13 tb ktb wtb tlt ca37 ca38 ca39 hxb hyb hsq ca40 ca41 ca42 ca43 ca44 ca45 D14 ys14 s14 ca46 ca47 ca48 R CG CI hlc hcb hmk ra rus rna hra1 hra3 cus cna mcu2 hr0l hr0b cb3 cb4 cb5 cb6 cb7 R20 cb8 a20 s20 ps20 s21 t21 dr' tr1' tr2' tr3' tr4' cb9 cb10 D23 h23 R1 dd s24 xh cd0 tph tch R2 dxf axf tpf' tcf' fus fna if3 dxg axg tpg' tcg' gus gna ig3 cb11 cc0 s26 xp cd1 tl26 R3 hlp dxp axp tpp tcp pus pna ip3 cc1 cd2 cc4 cc5 cc6 cc7 cc8 cc9 D40 ys40 ps40 s40 tr40 s41 R4 tus tna it1 hu2 cd3 s44 ps44 T44 B1 D46 h46 R5 m46 nus nna in1 dxh axh tph' tch' hus hna ih3 cd4 cd5 s49 xa cf0 tl49 R6 hla dxa axa tpa tca aus ana cd6 ce0 s51 ps51 T51 efm D53 h53 R7 D57 h57 R8 cg0 hpb hdb yus yna iy1 s60 xb hz tl60 R9 dxb axb tpb tcb bus bna ib3 D63 ys63 s63 hys63 R10 m65 s67 tp ktp wtp tlp R11 hsqp hsqy hn3 s69 t69 s71 ty kty wty tly R12 s73 t73 di0 xus xna ix1 hdw s97 u97 R19 OR19 RG XL YL PF PG PP PH NO mcu1 mrg1 mrg2 mf1 mf2 mf3 mg1 mg2 mg3 mp1 mp2 mp3 mn1 mh1 mh2 mh3 mx1 my1 s98 part t98 p0 p1 hpd SS di1 F100 N100 tk hpm hkb hlk
  exact @And.right _ _ (Wrap.h hP)
  ⟩

-- law_j
theorem seg_law_j : seg_law_i.1 := by
  delta seg_law_i
  refine ⟨?_, ?_⟩
  · intro prog w p loose mg mb dp un fr gd h₀ s Q E l vs ns mgB bm ob kk q n e x y hsub hi hlen hP10 hP20 hqd hnd hed hxd hyd ok hq hq2 hn hn2 he hb hkk hd hu ret g L' h₁ ca0 G1 KG TG o1 o2 o3 o4 o5 o6 o7 lo1 lo2 d1 d2 d3 d4 d5 d6 d7 gl MG s1 t1 ca1 ca2 ca3 ca4 ca5 tq dq' s2 t2 ca6 ca7 ca8 tn dn' s3 t3 ca9 ca10 te s4 rg dr tr1 tr2 tr3 tr4 ca11 ca12 ca13 ca14 ca15 ca16 ca17 ca18 D5 ys5 s5 s6 ca19 ca20 ca21 ca22 ca23 ca24 D6 ys6 s7 ca25 ca26 ca27 hlenx hleny D8 h8 s8 xf cb0 tpf tcf ca28 ca29 D10 h10 s10 xg cb1 tpg tcg ca30 cb2 ca31 ca32 ca33 ca34 ca35 ca36 ern D11 ys11 s11 s12 s13 tb ktb wtb tlt ca37 ca38 ca39 hxb hyb hsq ca40 ca41 ca42 ca43 ca44 ca45 D14 ys14 s14 ca46 ca47 ca48 R CG CI hlc hcb hmk ra rus rna hra1 hra3 cus cna mcu2 hr0l hr0b cb3 cb4 cb5 cb6 cb7 ci0 cb8 a20 s20 ps20 s21 t21 dr' tr1' tr2' tr3' tr4' cb9 cb10 D23 h23 R1 dd s24 xh cd0 tph tch R2 dxf axf tpf' tcf' fus fna if3 dxg axg tpg' tcg' gus gna ig3 cb11 cc0 s26 xp cd1 tl26 R3 hlp dxp axp tpp tcp pus pna ip3 cc1 cd2 cc4 cc5 cc6 cc7 cc8 cc9 D40 ys40 ps40 s40 tr40 s41 R4 tus tna it1 hu2 cd3 s44 ps44 T44 B1 D46 h46 R5 m46 nus nna in1 dxh axh tph' tch' hus hna ih3 cd4 cd5 s49 xa cf0 tl49 R6 hla dxa axa tpa tca aus ana cd6 ce0 s51 ps51 T51 efm D53 h53 R7 D57 h57 R8 cg0 hpb hdb yus yna iy1 s60 xb ci1 tl60 R9 dxb axb tpb tcb bus bna ib3 D63 ys63 s63 hys63 R10 m65 s67 tp ktp wtp tlp R11 hsqp hsqy hn3 s69 t69 s71 ty kty wty tly R12 s73 t73 ci2 xus xna ix1 hdw s97 u97 R19 OR19 XL YL PG PH NO mcu1 mg1 mg2 mg3 mh1 mh2 mh3 s98 part t98 p0 p1 ci3 F101 N101 ci4 hpm hkb hlk h0 hpd ci5 s101 xk ci6 tl101 R20 us20 dxk axk tpk tck kus kna ik3 ci7 ci8 s103 xc hz tl103 R21 us21 dxc axc tpc tcc cus' cna' ic3 SS D105 h105 R22 us22 D109 h109 F111 R23 N111 OR23 us23 m110 RG PF PP PK mrg1 mrg2 mf1 mf2 mf3 mp1 mp2 mp3 mn1 mx1 my1 mk1 mk2 mk3 mc3 tk
    rename Fr _ _ _ _ => F112
    rename News _ _ _ _ => N112
    tb_rel
    refine mulPoly F112.keep KG TG (PP.mono (led9 N112)) (PK.mono (led9 N112)) (RG.mono (led9 N112)) hq hn hn2 hlp hlk (fun i j => (Bd.getD hpb i).ok (Bd.getD hkb j) (by omega)) (by ktr_room) ?_
    intro s112 xc H112 S112 hz
    obtain ⟨tl112, htl112, hz⟩ := poly_tl hz
    obtain ⟨R24, N113, OR24, u, u2⟩ := lw_more F112 N112 H112 htl112 OR23
    have us24 := u
    replace u := InLed.up u
    replace RG := RG.monoR u
    replace PF := PF.monoR u
    replace PK := PK.monoR u
    replace mrg1 := InLed.mono mrg1 u
    replace mrg2 := InLed.mono mrg2 u
    replace mf1 := InLed.mono mf1 u
    replace mf2 := InLed.mono mf2 u
    replace mf3 := InLed.mono mf3 u
    replace mn1 := InLed.mono mn1 u
    replace mx1 := InLed.mono mx1 u
    replace my1 := InLed.mono my1 u
    replace mk1 := InLed.mono mk1 u
    replace mk2 := InLed.mono mk2 u
    replace mk3 := InLed.mono mk3 u
    obtain ⟨dxc, axc, tpc, tcc, mc1, mc2, cus', cna', mc3, ic3⟩ := hz.mono (InLed.up u2)
    have F113 := F112.keeps H112
    replace SS := (SS.trans (Same.put _ _ _)).trans S112
    (try clear S112)
    (try clear H112)
    (try clear htl112)
    (try clear hz)
    (try clear F112)
    (try clear N112)
    (try clear u)
    (try clear u2)
    (try clear F111)
    (try clear N111)
    (try clear OR23)
    (try clear m110)
    one_place
    rename Fr _ _ _ _ => F114
    rename News _ _ _ _ => N114
    refine Stop.out ?_
    k_dflt (refine eval_ListComp_G F114 (by with_unfolding_all rfl) (by decide) (by rfl) (by decide) (by rfl) ?_)
    one_place
    rename Fr _ _ _ _ => F115
    rename News _ _ _ _ => N115
    refine Stop.out (CompG.listInts (fun c => c % q) rfl F115 N115 (.inr (by repeat (first | exact my1 | apply List.mem_cons_of_mem))) iy1 (by rw [hleny, sizeLine_eq]; omega) ?_ ?_)
    · intro c t I oI C oC D ys m₂ s₁ E' hc hC hx S F N
      k_dflt one_place
      exact IntBackG.mk (efm _) (Same.put _ _ _) (by k_asm) (by k_asm)
    intro D115 ys115 s115 hys115 S115 F116 N116 O116
    obtain ⟨R25, N117, OR25, u, m117⟩ := lw_front N116 O116 OR24
    have us25 := u
    replace u := InLed.up u
    replace m117 : InLed R25 _ _ := m117
    replace F116 : Fr g L' s115.heap _ := F116
    replace N117 : News g L' s115.heap _ := N117
    replace SS := (SS.trans (Same.put _ _ _)).trans S115
    replace RG := RG.monoR u
    replace PF := PF.monoR u
    replace PK := PK.monoR u
    replace mrg1 := InLed.mono mrg1 u
    replace mrg2 := InLed.mono mrg2 u
    replace mf1 := InLed.mono mf1 u
    replace mf2 := InLed.mono mf2 u
    replace mf3 := InLed.mono mf3 u
    replace mn1 := InLed.mono mn1 u
    replace mx1 := InLed.mono mx1 u
    replace my1 := InLed.mono my1 u
    replace mk1 := InLed.mono mk1 u
    replace mk2 := InLed.mono mk2 u
    replace mk3 := InLed.mono mk3 u
    replace mc3 := InLed.mono mc3 u
    (try clear S115)
    (try clear F114)
    (try clear N114)
    (try clear F115)
    (try clear N115)
    (try clear N116)
    (try clear O116)
    (try clear u)
    (try clear OR24)
    (try clear mc1)
    (try clear mc2)
    (try clear F113)
    (try clear N113)
    one_place
    rename Fr _ _ _ _ => F118
    rename News _ _ _ _ => N118
    refine Stop.out (ne_same (led9 N118 _ _ mc3) (led9 N118 _ _ m117) ic3 hys115 hu2 (ok.part2 part p0 p1 hpd) ?_)
    one_place
    have hqb : Builtin.Int.intBits q ≤ kk + 20 := by
      have h : Bd 17 q := by unfold Bd; have : (2 : Nat) ^ 17 = 131072 := by decide
                             omega
      exact Nat.le_trans h.bits (by omega)
    obtain ⟨hE1, hE2⟩ := powOf_fact (q := q) hn hq hq2 x e
    obtain ⟨hE3, hE4⟩ := powOf_fact (q := q) hn hq hq2 x (e + 1)
    obtain ⟨hE5, hE6⟩ := powOf_fact (q := q) hn hq hq2 ((cofOf n (tableOf x)).map (fun c => c * part % q)) e
    rename Fr _ _ _ _ => F119
    rename News _ _ _ _ => N119
    tb_rel
    refine powPoly (kk := kk + 20) F119.keep KG TG (PF.mono (led9 N119)) (RG.mono (led9 N119)) hq hn hn2 hlenx (Sz.of_bd hxb (by omega)) hqb (by omega) (by omega) (by ktr_room) ?_
    intro s119 z1 H119 S119 hz1
    have N120 := N119.grown H119
    have F120 := F119.keeps H119
    replace SS := (SS.trans (Same.put _ _ _)).trans S119
    (try clear F119)
    (try clear N119)
    (try clear H119)
    (try clear S119)
    (try clear F118)
    (try clear N118)
    (try clear m117)
    one_place
    rename Fr _ _ _ _ => F121
    rename News _ _ _ _ => N121
    tb_rel
    refine powPoly (kk := kk + 20) F121.keep KG TG (PK.mono (led9 N121)) (RG.mono (led9 N121)) hq hn hn2 hlk (Sz.of_bd hkb (by omega)) hqb (by omega) (by omega) (by ktr_room) ?_
    intro s121 z2 H121 S121 hz2
    have N122 := N121.grown H121
    have F122 := F121.keeps H121
    replace hz1 := hz1.mono (grow_is H121)
    obtain ⟨d1, ax1, tp1, tc1, z11, z12, _⟩ := id hz1
    obtain ⟨d2, ax2, tp2, tc2, z21, z22, _⟩ := id hz2
    replace SS := (SS.trans (Same.put _ _ _)).trans S121
    (try clear F121)
    (try clear N121)
    (try clear H121)
    (try clear S121)
    (try clear F120)
    (try clear N120)
    one_place
    rename Fr _ _ _ _ => F123
    rename News _ _ _ _ => N123
    tb_rel
    refine mulPoly F123.keep KG TG hz1 hz2 (RG.mono (led9 N123)) hq hn hn2 hE1 hE5 (fun i j => (Bd.getD hE2 i).ok (Bd.getD hE6 j) (by omega)) (by ktr_room) ?_
    intro s123 xd H123 S123 hz
    obtain ⟨tl123, htl123, hz⟩ := poly_tl hz
    obtain ⟨R26, N124, OR26, u, u2⟩ := lw_more F123 N123 H123 htl123 OR25
    have us26 := u
    replace u := InLed.up u
    replace RG := RG.monoR u
    replace PF := PF.monoR u
    replace PK := PK.monoR u
    replace mrg1 := InLed.mono mrg1 u
    replace mrg2 := InLed.mono mrg2 u
    replace mf1 := InLed.mono mf1 u
    replace mf2 := InLed.mono mf2 u
    replace mf3 := InLed.mono mf3 u
    replace mn1 := InLed.mono mn1 u
    replace mx1 := InLed.mono mx1 u
    replace my1 := InLed.mono my1 u
    replace mk1 := InLed.mono mk1 u
    replace mk2 := InLed.mono mk2 u
    replace mk3 := InLed.mono mk3 u
    obtain ⟨dxd, axd, tpd, tcd, md1, md2, dus', dna', md3, id3⟩ := hz.mono (InLed.up u2)
    have F124 := F123.keeps H123
    replace SS := (SS.trans (Same.put _ _ _)).trans S123
    (try clear S123)
    (try clear H123)
    (try clear htl123)
    (try clear hz)
    (try clear F123)
    (try clear N123)
    (try clear u)
    (try clear u2)
    (try clear F122)
    (try clear N122)
    (try clear OR25)
    (try clear hz1)
    (try clear hz2)
    (try clear z11)
    (try clear z12)
    (try clear z21)
    (try clear z22)
    one_place
    rename Fr _ _ _ _ => F125
    rename News _ _ _ _ => N125
    refine Stop.out (newList_led F125 N125 (by size_fits) ?_)
    intro D125 h125 G125 F126 N126 O126
    obtain ⟨R27, N127, OR27, u, m127⟩ := lw_front N126 O126 OR26
    have us27 := u
    replace u := InLed.up u
    replace m127 : InLed R27 _ _ := m127
    replace RG := RG.monoR u
    replace PF := PF.monoR u
    replace PK := PK.monoR u
    replace mrg1 := InLed.mono mrg1 u
    replace mrg2 := InLed.mono mrg2 u
    replace mf1 := InLed.mono mf1 u
    replace mf2 := InLed.mono mf2 u
    replace mf3 := InLed.mono mf3 u
    replace mn1 := InLed.mono mn1 u
    replace mx1 := InLed.mono mx1 u
    replace my1 := InLed.mono my1 u
    replace mk1 := InLed.mono mk1 u
    replace mk2 := InLed.mono mk2 u
    replace mk3 := InLed.mono mk3 u
    replace md3 := InLed.mono md3 u
    (try clear F125)
    (try clear N125)
    (try clear N126)
    (try clear O126)
    (try clear u)
    (try clear G125)
    (try clear F124)
    (try clear N124)
    (try clear md1)
    (try clear md2)
    (try clear OR26)
    one_place
    rename Fr _ _ _ _ => F128
    rename News _ _ _ _ => N128
    refine Stop.out (add_lists F128 N128 (led9 N128 _ _ m127) (led9 N128 _ _ mn1) (by have := in1.length; simp [noughts, sizeLine_eq] at this ⊢; omega) ?_)
    intro D129 h129 G129 F129 N129 O129
    obtain ⟨R28, N130, OR28, u, m130⟩ := lw_front N129 O129 OR27
    have us28 := u
    replace u := InLed.up u
    replace m130 : InLed R28 _ _ := m130
    replace RG := RG.monoR u
    replace PF := PF.monoR u
    replace PK := PK.monoR u
    replace mrg1 := InLed.mono mrg1 u
    replace mrg2 := InLed.mono mrg2 u
    replace mf1 := InLed.mono mf1 u
    replace mf2 := InLed.mono mf2 u
    replace mf3 := InLed.mono mf3 u
    replace mx1 := InLed.mono mx1 u
    replace my1 := InLed.mono my1 u
    replace mk1 := InLed.mono mk1 u
    replace mk2 := InLed.mono mk2 u
    replace mk3 := InLed.mono mk3 u
    replace md3 := InLed.mono md3 u
    (try clear F128)
    (try clear N128)
    (try clear N129)
    (try clear O129)
    (try clear u)
    (try clear G129)
    (try clear OR27)
    (try clear m127)
    one_place
    rename Fr _ _ _ _ => F131
    rename News _ _ _ _ => N131
    refine Stop.out (ne_same (led9 N131 _ _ md3) (led9 N131 _ _ m130) id3 ((IntsAre.cons _ _ .nil).append in1) hu2 (ok.part3 part p0 p1 hpd) ?_)
    one_place
    rename Fr _ _ _ _ => F132
    rename News _ _ _ _ => N132
    tb_rel
    rw [show ((e : Int) + 1) = ((e + 1 : Nat) : Int) from by omega]
    refine powPoly (kk := kk + 20) F132.keep KG TG (PF.mono (led9 N132)) (RG.mono (led9 N132)) hq hn hn2 hlenx (Sz.of_bd hxb (by omega)) hqb (by omega) (by omega) (by ktr_room) ?_
    intro s132 z1 H132 S132 hz1
    have N133 := N132.grown H132
    have F133 := F132.keeps H132
    replace SS := (SS.trans (Same.put _ _ _)).trans S132
    (try clear F132)
    (try clear N132)
    (try clear H132)
    (try clear S132)
    (try clear F131)
    (try clear N131)
    (try clear m130)
    (try clear md3)
    one_place
    rename Fr _ _ _ _ => F134
    rename News _ _ _ _ => N134
    tb_rel
    refine powPoly (kk := kk + 20) F134.keep KG TG (PK.mono (led9 N134)) (RG.mono (led9 N134)) hq hn hn2 hlk (Sz.of_bd hkb (by omega)) hqb (by omega) (by omega) (by ktr_room) ?_
    intro s134 z2 H134 S134 hz2
    have N135 := N134.grown H134
    have F135 := F134.keeps H134
    replace hz1 := hz1.mono (grow_is H134)
    obtain ⟨d1, ax1, tp1, tc1, z11, z12, _⟩ := id hz1
    obtain ⟨d2, ax2, tp2, tc2, z21, z22, _⟩ := id hz2
    replace SS := (SS.trans (Same.put _ _ _)).trans S134
    (try clear F134)
    (try clear N134)
    (try clear H134)
    (try clear S134)
    (try clear F133)
    (try clear N133)
    one_place
    rename Fr _ _ _ _ => F136
    rename News _ _ _ _ => N136
    tb_rel
    refine mulPoly F136.keep KG TG hz1 hz2 (RG.mono (led9 N136)) hq hn hn2 hE3 hE5 (fun i j => (Bd.getD hE4 i).ok (Bd.getD hE6 j) (by omega)) (by ktr_room) ?_
    intro s136 xd H136 S136 hz
    obtain ⟨tl136, htl136, hz⟩ := poly_tl hz
    obtain ⟨R29, N137, OR29, u, u2⟩ := lw_more F136 N136 H136 htl136 OR28
    have us29 := u
    replace u := InLed.up u
    replace mx1 := InLed.mono mx1 u
    obtain ⟨dxd, axd, tpd, tcd, md1, md2, dus', dna', md3, id3⟩ := hz.mono (InLed.up u2)
    have F137 := F136.keeps H136
    replace SS := (SS.trans (Same.put _ _ _)).trans S136
    (try clear S136)
    (try clear H136)
    (try clear htl136)
    (try clear hz)
    (try clear F136)
    (try clear N136)
    (try clear u)
    (try clear u2)
    (try clear F135)
    (try clear N135)
    (try clear OR28)
    (try clear hz1)
    (try clear hz2)
    (try clear z11)
    (try clear z12)
    (try clear z21)
    (try clear z22)
    one_place
    rename Fr _ _ _ _ => F138
    rename News _ _ _ _ => N138
    refine Stop.out ?_
    k_dflt (refine eval_ListComp_G F138 (by with_unfolding_all rfl) (by decide) (by rfl) (by decide) (by rfl) ?_)
    one_place
    rename Fr _ _ _ _ => F139
    rename News _ _ _ _ => N139
    refine Stop.out (CompG.listInts (fun c => c % q) rfl F139 N139 (.inr (by repeat (first | exact mx1 | apply List.mem_cons_of_mem))) ix1 (by rw [hlenx, sizeLine_eq]; omega) ?_ ?_)
    · intro c t I oI C oC D ys m₂ s₁ E' hc hC hx S F N
      k_dflt one_place
      exact IntBackG.mk (efm _) (Same.put _ _ _) (by k_asm) (by k_asm)
    intro D139 ys139 s139 hys139 S139 F140 N140 O140
    obtain ⟨R30, N141, OR30, u, m141⟩ := lw_front N140 O140 OR29
    have us30 := u
    replace u := InLed.up u
    replace m141 : InLed R30 _ _ := m141
    replace F140 : Fr g L' s139.heap _ := F140
    replace N141 : News g L' s139.heap _ := N141
    replace SS := (SS.trans (Same.put _ _ _)).trans S139
    replace md3 := InLed.mono md3 u
    (try clear S139)
    (try clear F138)
    (try clear N138)
    (try clear F139)
    (try clear N139)
    (try clear N140)
    (try clear O140)
    (try clear u)
    (try clear OR29)
    (try clear md1)
    (try clear md2)
    (try clear F137)
    (try clear N137)
    one_place
    rename Fr _ _ _ _ => F142
    rename News _ _ _ _ => N142
    refine Stop.out (ne_same (led9 N142 _ _ md3) (led9 N142 _ _ m141) id3 hys139 hu2 (ok.part4 part p0 p1 hpd) ?_)
    one_place
    rename Fr _ _ _ _ => F143
    rename News _ _ _ _ => N143
    refine JoinEnd.mk (SS.trans (Same.put _ _ _)) F143 N143 OR30 (fun p hp => us30 p (us29 p (us28 p (us27 p (us26 p (us25 p (us24 p (us23 p (us22 p (us21 p (us20 p hp))))))))))) ?_
    intro z hz
    simp only [List.contains_cons, List.contains_nil, Bool.or_false, Bool.or_eq_false_iff, beq_eq_false_iff_ne, ne_eq] at hz
    simp [mapOf, hz]
  · intro prog w p loose mg mb dp un fr gd h₀ s Q E l vs ns mgB bm ob kk q n e x y hsub hi hlen hP10 hP20 hqd hnd hed hxd hyd ok hq hq2 hn hn2 he hb hkk hd hu ret g L' h₁ ca0 G1 KG TG o1 o2 o3 o4 o5 o6 o7 lo1 lo2 d1 d2 d3 d4 d5 d6 d7 gl MG s1 t1 ca1 ca2 ca3 ca4 ca5 tq dq' s2 t2 ca6 ca7 ca8 tn dn' s3 t3 ca9 ca10 te s4 rg dr tr1 tr2 tr3 tr4 ca11 ca12 ca13 ca14 ca15 ca16 ca17 ca18 D5 ys5 s5 s6 ca19 ca20 ca21 ca22 ca23 ca24 D6 ys6 s7 ca25 ca26 ca27 hlenx hleny D8 h8 s8 xf cb0 tpf tcf ca28 ca29 D10 h10 s10 xg cb1 tpg tcg ca30 cb2 ca31 ca32 ca33 ca34 ca35 ca36 ern D11 ys11 s11 s12 s13 tb ktb wtb tlt ca37 ca38 ca39 hxb hyb hsq ca40 ca41 ca42 ca43 ca44 ca45 D14 ys14 s14 ca46 ca47 ca48 R CG CI hlc hcb hmk ra rus rna hra1 hra3 cus cna mcu2 hr0l hr0b cb3 cb4 cb5 cb6 cb7 R20 cb8 a20 s20 ps20 s21 t21 dr' tr1' tr2' tr3' tr4' cb9 cb10 D23 h23 R1 dd s24 xh cd0 tph tch R2 dxf axf tpf' tcf' fus fna if3 dxg axg tpg' tcg' gus gna ig3 cb11 cc0 s26 xp cd1 tl26 R3 hlp dxp axp tpp tcp pus pna ip3 cc1 cd2 cc4 cc5 cc6 cc7 cc8 cc9 D40 ys40 ps40 s40 tr40 s41 R4 tus tna it1 hu2 cd3 s44 ps44 T44 B1 D46 h46 R5 m46 nus nna in1 dxh axh tph' tch' hus hna ih3 cd4 cd5 s49 xa cf0 tl49 R6 hla dxa axa tpa tca aus ana cd6 ce0 s51 ps51 T51 efm D53 h53 R7 D57 h57 R8 cg0 hpb hdb yus yna iy1 s60 xb hz tl60 R9 dxb axb tpb tcb bus bna ib3 D63 ys63 s63 hys63 R10 m65 s67 tp ktp wtp tlp R11 hsqp hsqy hn3 s69 t69 s71 ty kty wty tly R12 s73 t73 di0 xus xna ix1 hdw s97 u97 R19 OR19 RG XL YL PF PG PP PH NO mcu1 mrg1 mrg2 mf1 mf2 mf3 mg1 mg2 mg3 mp1 mp2 mp3 mn1 mh1 mh2 mh3 mx1 my1 s98 part t98 p0 p1 hpd SS di1 F100 N100 tk hpm hkb hlk
    refine Stop.out ?_
    rintro s150 ⟨u150, R31, S150, F150, N150, OR31, us31⟩
    dsimp only [mapOf] at F150
    simp only [pre9, List.cons_append, List.nil_append, List.map_cons, List.map_nil] at N150 OR31
    replace us31 := InLed.up us31
    replace mf1 := InLed.mono mf1 us31
    replace mf2 := InLed.mono mf2 us31
    replace mf3 := InLed.mono mf3 us31
    replace mg1 := InLed.mono mg1 us31
    replace mg2 := InLed.mono mg2 us31
    replace mg3 := InLed.mono mg3 us31
    replace mh1 := InLed.mono mh1 us31
    replace mh2 := InLed.mono mh2 us31
    replace mh3 := InLed.mono mh3 us31
    replace mx1 := InLed.mono mx1 us31
    replace my1 := InLed.mono my1 us31
    replace mcu1 := InLed.mono mcu1 us31
    (try clear SS)
    (try clear us31)
    (try clear PA)
    (try clear RG)
    (try clear PF)
    (try clear PG)
    (try clear PP)
    (try clear PH)
    (try clear NO)
    (try clear XL)
    (try clear YL)
    (try clear OR19)
    one_place
    rename Fr _ _ _ _ => F151
    rename News _ _ _ _ => N151
    refine Stop.out (eq_same (led9 N151 _ _ mf3) (led9 N151 _ _ mx1) if3 ix1 hu2 rfl ?_)
    one_place
    rename Fr _ _ _ _ => F152
    rename News _ _ _ _ => N152
    refine Stop.out (eq_same (led9 N152 _ _ mg3) (led9 N152 _ _ my1) ig3 iy1 hu2 rfl ?_)
    one_place
    rename Fr _ _ _ _ => F153
    rename News _ _ _ _ => N153
    refine Stop.out (eq_same (led9 N153 _ _ mh3) (led9 N153 _ _ mcu1) ih3 mcu2 hu2 rfl ?_)
    one_place
    rename Fr _ _ _ _ => F154
    rename News _ _ _ _ => N154
    exact ret _ _ _ (G1.trans F154.keep) (get8 N154).1 (get9 N154).1 (S150.trans (Same.put _ _ _))
theorem wstep {P Q : Prop} (s : Wrap P → Q) (h : Wrap P) : Wrap Q := ⟨s h⟩
theorem lawAll : LawT := @Wrap.h _ (wstep seg_law_a.2 (wstep seg_law_b.2 (wstep seg_law_c.2 (wstep seg_law_d.2 (wstep seg_law_e.2 (wstep seg_law_f.2 (wstep seg_law_g.2 (wstep seg_law_h.2 (wstep seg_law_i.2 (Wrap.mk seg_law_j))))))))))
theorem lawBody {prog : Program} {w : World} {p : Program} {loose : List Str} {mg mb : Str → Option Value}
    {dp un : Nat} {fr : Option (List Env)} {gd : Option (List Code)} {h₀ : Heap} {s : Shared} {Q E : Value → Shared → Prop} {l : Nat} {vs : List Value} {ns : List Int} {mgB : Str → Option Value} {bm : Addr} {ob : Obj} {kk : Nat} {q : Int} {n e : Nat} {x y : List Int}
    (hsub : Grow h₀ s.heap) (KX : (heapK w.params).In h₀) (T : TopRead p loose mg mb h₀) (MB : BMod h₀ mainGlobals mgB bm ob)
    (hl : h₀.IsList l vs.toArray) (hi : IntsAre vs ns) (hlen : ns.length ≤ 63)
    (hP1 : s.heap.get? 86 = some (tabObj #[])) (hP10 : h₀.get? 86 = none)
    (hP2 : s.heap.get? 266 = some (tabObj #[])) (hP20 : h₀.get? 266 = none)
    (hqd : 2 + (if atOf ns 0 + 1 < 0 then -(atOf ns 0 + 1) else atOf ns 0 + 1).fmod 99991 = q) (hnd : 1 + (atOf ns 1).fmod 4 = (n : Int)) (hed : (atOf ns 11).fmod 6 = (e : Int))
    (hxd : x = lawV ns n 3) (hyd : y = lawV ns n 7) (ok : LawOk q n e x y)
    (hq : 2 ≤ q) (hq2 : q ≤ 100000) (hn : 1 ≤ n) (hn2 : n ≤ 4) (he : e ≤ 5) (hb : ∀ i, i ≤ 20 → Bd kk (atOf ns i)) (hkk : kk * 10 + 200 ≤ 134217728)
    (hd : dp + 20 < recursionLimit) (hu : un + 300 < cLine)
    (ret : ∀ s' ps1 ps2, Grow h₀ s'.heap → s'.heap.get? 86 = some (tabObj ps1) → s'.heap.get? 266 = some (tabObj ps2) → Same s s' → Q (.bool true) s') :
    wpAny (model prog w) (Ar dp fr gd un) (call (.ref 269) [.ref l]) Q E s := by
  have h : LawT := @lawAll
  unfold LawT at h
  exact h hsub KX T MB hl hi hlen hP1 hP10 hP2 hP20 hqd hnd hed hxd hyd ok hq hq2 hn hn2 he hb hkk hd hu ret

end
end Mine
namespace Mine
section

-- join
theorem atOf_bd {ns : List Int} (hw : ∀ z ∈ ns, Builtin.Int.intBits z ≤ 1048576) (i : Nat) (hi : i ≤ 20) : Bd 1048576 (atOf ns i) := by
  unfold atOf
  by_cases h : i < ns.length
  · rw [if_pos h, List.getD_eq_getElem?_getD, List.getElem?_eq_getElem h]
    exact Bd.of_bits (hw _ (List.getElem_mem h))
  · rw [if_neg h]
    refine Bd.mono (a := 10) (by decide) ?_
    have h1 : ((i : Int) + 1) * ((i : Int) + 1) ≤ 21 * 21 := Int.mul_le_mul (by omega) (by omega) (by omega) (by omega)
    have h2 : 0 ≤ ((i : Int) + 1) * ((i : Int) + 1) := Int.mul_nonneg (by omega) (by omega)
    unfold Bd
    have : (2 : Nat) ^ 10 = 1024 := by decide
    omega
theorem lawRun {prog : Program} {w : World} {p : Program} {loose : List Str} {mg mb : Str → Option Value}
    {dp un : Nat} {fr : Option (List Env)} {gd : Option (List Code)} {h₀ : Heap} {s : Shared} {Q E : Value → Shared → Prop} {l : Nat} {vs : List Value} {ns : List Int} {mgB : Str → Option Value} {bm : Addr} {ob : Obj}
    (hsub : Grow h₀ s.heap) (KX : (heapK w.params).In h₀) (T : TopRead p loose mg mb h₀) (MB : BMod h₀ mainGlobals mgB bm ob)
    (hl : h₀.IsList l vs.toArray) (hi : IntsAre vs ns) (hlen : ns.length ≤ 63) (hw : ∀ z ∈ ns, Builtin.Int.intBits z ≤ 1048576)
    (hP1 : s.heap.get? 86 = some (tabObj #[])) (hP10 : h₀.get? 86 = none)
    (hP2 : s.heap.get? 266 = some (tabObj #[])) (hP20 : h₀.get? 266 = none)
    (hd : dp + 20 < recursionLimit) (hu : un + 300 < cLine)
    (ret : ∀ s' ps1 ps2, Grow h₀ s'.heap → s'.heap.get? 86 = some (tabObj ps1) → s'.heap.get? 266 = some (tabObj ps2) → Same s s' → Q (.bool true) s') :
    wpAny (model prog w) (Ar dp fr gd un) (call (.ref 269) [.ref l]) Q E s := by
  have e1 := Int.fmod_eq_emod_of_nonneg (if atOf ns 0 + 1 < 0 then -(atOf ns 0 + 1) else atOf ns 0 + 1) (show (0 : Int) ≤ 99991 by decide)
  have e2 := Int.fmod_eq_emod_of_nonneg (atOf ns 1) (show (0 : Int) ≤ 4 by decide)
  have e3 := Int.fmod_eq_emod_of_nonneg (atOf ns 11) (show (0 : Int) ≤ 6 by decide)
  have b1 := Int.emod_nonneg (if atOf ns 0 + 1 < 0 then -(atOf ns 0 + 1) else atOf ns 0 + 1) (show (99991 : Int) ≠ 0 by decide)
  have b2 := Int.emod_lt_of_pos (if atOf ns 0 + 1 < 0 then -(atOf ns 0 + 1) else atOf ns 0 + 1) (show (0 : Int) < 99991 by decide)
  have b3 := Int.emod_nonneg (atOf ns 1) (show (4 : Int) ≠ 0 by decide)
  have b4 := Int.emod_lt_of_pos (atOf ns 1) (show (0 : Int) < 4 by decide)
  have b5 := Int.emod_nonneg (atOf ns 11) (show (6 : Int) ≠ 0 by decide)
  have b6 := Int.emod_lt_of_pos (atOf ns 11) (show (0 : Int) < 6 by decide)
  have hq : 2 ≤ 2 + (if atOf ns 0 + 1 < 0 then -(atOf ns 0 + 1) else atOf ns 0 + 1).fmod 99991 := by omega
  have hn1 : 1 ≤ (1 + (atOf ns 1).fmod 4).toNat := by omega
  have hn2 : (1 + (atOf ns 1).fmod 4).toNat ≤ 4 := by omega
  refine lawBody (kk := 1048576) (n := (1 + (atOf ns 1).fmod 4).toNat) (e := ((atOf ns 11).fmod 6).toNat) hsub KX T MB hl hi hlen hP1 hP10 hP2 hP20 rfl (by omega) (by omega) rfl rfl
    (lawOk hq hn1 hn2 (by simp [lawV]) (by simp [lawV])) hq (by omega) hn1 hn2 (by omega) (atOf_bd hw) (by decide) hd hu ret

-- fin
theorem good_fin {c : ClaimW} {cl : Str → Option Addr} {mean : ExcName → Option Value} {args : List WData} {s₁ s' : Shared} {tabs : List (Addr × Addr)} (hT : TabsAt tabs s₁.heap) (hg : s₁.gens = #[])
    (hr : ∀ x, c.raises args x = false) (hp : c.post args (.bool true) args = true) (G : Grow (ghostOf s₁.heap tabs) s'.heap) (hgr : ∀ q ∈ tabs, ∃ ps, s'.heap.get? q.2 = some (tabObj ps)) (S : Same s₁ s') : GoodWG c cl mean args s₁ (.ok (.ret (.bool true))) s' := by
  refine ⟨.inl ⟨.bool true, .bool true, [], rfl, hr, .bool true, hp, fun _ => ⟨List.nodup_nil, fun _ h => nomatch h⟩⟩, ⟨fun b o e => ?_, fun b o e => ?_⟩, S.1, S.2 (.of_eq hg)⟩
  · by_cases hb : b ∈ tabs.map (·.2)
    · obtain ⟨q, hq, rfl⟩ := List.mem_map.mp hb
      have e2 := (hT q hq).2
      rw [e] at e2
      obtain ⟨ps, hP⟩ := hgr q hq
      obtain rfl := Option.some.inj e2
      exact .inr (.inl ⟨((hT q hq).1.tab (hT q hq).2).isCodeTable, rfl, #[], ps, rfl, by rw [Array.empty_append]; exact hP⟩)
    · exact .inl (G b o (ghost_ne e hb))
  · by_cases hb : b ∈ tabs.map (·.2)
    · obtain ⟨q, hq, rfl⟩ := List.mem_map.mp hb
      obtain ⟨ps, hP⟩ := hgr q hq
      exact ⟨_, hP⟩
    · exact ⟨o, G b o (ghost_ne e hb)⟩
theorem int_weight {xs : List Int} (h : (PyData.list (xs.map PyData.int)).layable0 = true) : ∀ z ∈ xs, Builtin.Int.intBits z ≤ 1048576 := fun z hz => by
  have := PyData.weight_item_of_list h (List.mem_map_of_mem hz)
  simp only [PyData.weight] at this
  unfold Builtin.Int.intBits
  exact_mod_cast this
theorem post_ok (l : OpenLaw) (args : List WData) : l.row.claim.post args (.bool true) args = true := by
  unfold RowW.claim
  dsimp only
  rw [Bool.and_eq_true]
  refine ⟨?_, ?_⟩
  · show WShape.has [] (.bool true) .bool = true
    simp [WShape.has, WShape.arms]
  · show WTm.holds [] (.eq .res (.lit (.bool true))) _ = true
    simp [WTm.holds, WTm.value]
    simp [W.same]

end
end Mine
theorem PySem.Challenge.cw_ye0001_01_holds : PySem.Challenge.rw_ye0001_01.Holds := by
  refine Mine.headC.2 ⟨?_⟩
  intro said
  intro w s₀ s₁ mg mb G Y fa o pm cd doc dV kV ho hd hcd hD hmg hg args vals as hpre hlay hrd hwl hlo
  have KX := km_in_of Y
  have hT8 := km_tabs_of Y
  refine Ground.open G ?_
  intro T B D TE TW
  have hT9 : TabsAt [(90, 86), (268, 266)] _ := List.forall_mem_cons.mpr ⟨⟨codeHd_of_K (c := 90) (P := 86) KX (by kernel_rfl), hT8 86 (by simp)⟩, List.forall_mem_cons.mpr ⟨⟨codeHd_of_K (c := 268) (P := 266) KX (by kernel_rfl), hT8 266 (by simp)⟩, fun _ h => nomatch h⟩⟩
  have hfa := (mg_of (n := Str.ofString "law") (v := .ref 269) KX T.g (by kernel_rfl))
  obtain rfl : fa = 269 := Value.ref.inj (Option.some.inj (hmg.symm.trans hfa))
  clear Y G hT8 B D TE TW ho hd hcd hD hfa hmg
  wrow_args hpre hlay hrd hwl hlo
  rename IntsAre _ _ => hI
  rename Heap.IsList _ _ _ => hL
  rename (PyData.layable0 _ = true) => hLay
  have T' := ghost_top hT9 T
  obtain ⟨bm, ob, M'⟩ := bmod_of_top T'
  refine Mine.lawRun (dp := callerA.depth) (un := callerA.units) (fun b ob e => of_hideAll _ e) (ghost_K hT9 KX (by kernel_rfl)) (topRead_of T') M' (ghost_list hT9 hL) hI (by omega) (Mine.int_weight hLay) (hT9 (90, 86) (by simp)).2 (hideAll_none _ (by simp)) (hT9 (268, 266) (by simp)).2 (hideAll_none _ (by simp)) (by decide) (by decide) ?_
  intro s' ps1 ps2 G1 e1 e2 S
  refine Mine.good_fin hT9 hg (fun _ => rfl) (Mine.post_ok _ _) G1 (fun q hq => ?_) S
  simp only [List.mem_cons, List.not_mem_nil, or_false] at hq
  rcases hq with rfl | rfl
  · exact ⟨_, e1⟩
  · exact ⟨_, e2⟩

