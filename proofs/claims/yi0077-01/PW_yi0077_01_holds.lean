import PyProof.Rows.All
import Wide.All
import OpenK.AllK
import Wide.FinOn
import PySem.Challenge.RW_yi0077_01
set_option Elab.async false
set_option rowWalk.seconds 0

/-! part Top0 -/
section
open PySem PySem.W PyProof.Rows
namespace Mine
noncomputable abbrev pw : Program := PySem.Challenge.pw_yi0077_01
theorem size1 (w : World) : (boot_heap w.params).isNs mainGlobals = true := by kernel_rfl
theorem size2 (w : World) : (boot_heap w.params).objs.size = 11 := by kernel_rfl
theorem size3 (w : World) : Fast.tw8920871248978507458 (boot_heap w.params) mainGlobals "__annotations__" = some (Value.ref 6) := by kernel_rfl
theorem size4 (w : World) : (boot_heap w.params).nsMap mainGlobals "__annotations__" = some (Value.ref 6) := (congrFun (congrFun (congrFun Fast.te8920871248978507458 (boot_heap w.params)) mainGlobals) "__annotations__").trans (size3 w)
theorem open0 : ∀ w : World, (fencedOpening treeTable pw w 6342).map (fun s => (s.heap, s.gens, s.drawn, s.toks)) = some (boot_heap w.params, Array.mk [], boot_drawn, boot_toks) :=
  boot_open (p := pw) (by kernel_rfl) (by decide) (fun s => by kernel_rfl)
theorem mods0 : importedModules pw.main.body = [] := by kernel_rfl

theorem size0 (w : World) : ((boot_heap w.params).isNs mainGlobals && (Array.mk [] : Array GenState).size == 0, (boot_heap w.params).objs.size, (boot_heap w.params).nsMap mainGlobals "__annotations__") = (true, 11, some (Value.ref 6)) := by
  rw [size1, size2, size4]; rfl
noncomputable def viewOf {s0 s1 s2 s3 s4 s5 s6 s7 s8 s9 s10 s11 s12 s13 s14 : Stmt} (_ : pw.main.body = [s0, s1, s2, s3, s4, s5, s6, s7, s8, s9, s10, s11, s12, s13, s14]) : Program :=
  { pw with main := { pw.main with body := [s0, s2, s4, s5, s7, s8, s9, s11, s12, s13, s14] } }
noncomputable def hd.view_39 : Program := viewOf rfl
noncomputable def nth : List Stmt → Nat → Stmt
  | [], _ => default
  | s :: _, 0 => s
  | _ :: l, n + 1 => nth l n
noncomputable def inCls : Stmt → List Stmt
  | .ClassDef _ _ _ b _ _ _ _ _ _ _ => b
  | _ => []
noncomputable abbrev top (i : Nat) : Stmt := nth pw.main.body i
noncomputable abbrev mem (i j : Nat) : Stmt := nth (inCls (nth pw.main.body i)) j
noncomputable def fnOb {n : Str} {a : Arguments} {b : List Stmt} {ds : List Expr} {re : Option Expr} {tp : List TypeParam} {sc : Scope} {ts : Option Scope} {bi : Str} {po : Pos} (cls : Value) (st : Stmt) (_ : st = .FunctionDef n a b ds re tp sc ts bi po)
    (qual : Str) (cl : List (Str × Addr)) (dV kV doc pm : Value) (an : Option Addr) (cdv ct : Value) (bu gl : Addr) : Obj :=
  { cls := cls, dict := none, data := .func { name := n, qualname := qual, params := a, body := .stmts b, scope := sc, globals := gl, closure := cl, defaults := dV, kwdefaults := kV, doc := doc, pyModule := pm, annotations := an, code := cdv, closureTuple := ct, builtins := bu }, slots := #[] }
noncomputable def nthE : List DictEntry → Nat → DictEntry
  | [], _ => ⟨0, .none, .none⟩
  | e :: _, 0 => e
  | _ :: l, n + 1 => nthE l n
noncomputable def bootEntry (P : Params) (i : Nat) : DictEntry := match (boot_o_3 P).data with
  | .dict es _ => nthE es.toList i
  | _ => ⟨0, .none, .none⟩
noncomputable def ob3 (P : Params) : Obj := { cls := Value.type "dict", data := Data.dict #[{ hash := PyData.keyHash P (Str.ofString "__name__"), key := Value.str (Str.ofString "__name__") 165, val := Value.str (Str.ofString "law_yi0077_01") 737 }, { hash := PyData.keyHash P (Str.ofString "__doc__"), key := Value.str (Str.ofString "__doc__") 166, val := Value.none }, { hash := PyData.keyHash P (Str.ofString "__package__"), key := Value.str (Str.ofString "__package__") 167, val := Value.none }, bootEntry P 3, { hash := PyData.keyHash P (Str.ofString "__spec__"), key := Value.str (Str.ofString "__spec__") 169, val := Value.none }, { hash := PyData.keyHash P (Str.ofString "__annotations__"), key := Value.str (Str.ofString "__annotations__") 170, val := Value.ref 6 }, { hash := PyData.keyHash P (Str.ofString "__builtins__"), key := Value.str (Str.ofString "__builtins__") 171, val := Value.ref 4 }, { hash := PyData.keyHash P (Str.ofString "__file__"), key := Value.str (Str.ofString "__file__") 173, val := Value.str (Str.ofString "/claim/cut.py") 172 }, { hash := PyData.keyHash P (Str.ofString "__cached__"), key := Value.str (Str.ofString "__cached__") 174, val := Value.none }, { hash := PyData.keyHash P (Str.ofString "_wall"), key := Value.str (Str.ofString "_wall") 193, val := Value.ref 21 }, { hash := PyData.keyHash P (Str.ofString "bit_count"), key := Value.str (Str.ofString "bit_count") 202, val := Value.ref 28 }, { hash := PyData.keyHash P (Str.ofString "GenericPolynomialRing"), key := Value.str (Str.ofString "GenericPolynomialRing") 257, val := Value.ref 66 }, { hash := PyData.keyHash P (Str.ofString "GenericPolynomial"), key := Value.str (Str.ofString "GenericPolynomial") 456, val := Value.ref 229 }, { hash := PyData.keyHash P (Str.ofString "PolynomialRing"), key := Value.str (Str.ofString "PolynomialRing") 538, val := Value.ref 287 }, { hash := PyData.keyHash P (Str.ofString "Polynomial"), key := Value.str (Str.ofString "Polynomial") 621, val := Value.ref 355 }, { hash := PyData.keyHash P (Str.ofString "PolynomialNTT"), key := Value.str (Str.ofString "PolynomialNTT") 736, val := Value.ref 431 }, { hash := PyData.keyHash P (Str.ofString "_law_at"), key := Value.str (Str.ofString "_law_at") 746, val := Value.ref 440 }, { hash := PyData.keyHash P (Str.ofString "_law_away"), key := Value.str (Str.ofString "_law_away") 752, val := Value.ref 445 }, { hash := PyData.keyHash P (Str.ofString "_law_spread"), key := Value.str (Str.ofString "_law_spread") 762, val := Value.ref 452 }, { hash := PyData.keyHash P (Str.ofString "law"), key := Value.str (Str.ofString "law") 768, val := Value.ref 457 }] 20 }
noncomputable def ob11 (_ : Params) : Obj := { cls := Value.type "tuple", data := Data.seq #[] }
noncomputable def ob12 (_ : Params) : Obj := { cls := Value.none, data := Data.fields #[Value.int 1 0, Value.int 0 0, Value.ref 20, Value.int 5 0, Value.int 0 0, Value.ref 27, Value.int 8 0, Value.int 0 0, Value.ref 34, Value.int 26 0, Value.int 0 0, Value.ref 76, Value.int 155 0, Value.int 0 0, Value.ref 239, Value.int 197 0, Value.int 0 0, Value.ref 295, Value.int 223 0, Value.int 0 0, Value.ref 363, Value.int 271 0, Value.int 0 0, Value.ref 439, Value.int 275 0, Value.int 0 0, Value.ref 444, Value.int 282 0, Value.int 0 0, Value.ref 451, Value.int 284 0, Value.int 0 0, Value.ref 456] }
noncomputable def ob13 (_ : Params) : Obj := { cls := Value.type "code", data := Data.fields #[Value.str (Str.ofString "<module>") 182, Value.str (Str.ofString "<module>") 183, Value.str (Str.ofString "/claim/cut.py") 184, Value.int 1 0, Value.int 0 0, Value.int 0 0, Value.int 0 0, Value.int 0 0, Value.ref 11, Value.bool false, Value.int 181 0, Value.ref 12, Value.none, Value.none, Value.none, Value.none, Value.int 185 0, Value.int 1 0, Value.str (Str.ofString "/claim/cut.py") 186] }
noncomputable def ob14 (_ : Params) : Obj := { cls := Value.type "frame", slots := #[some (Value.ref 13), some (Value.ref 3), some (Value.ref 3), none, some (Value.str (Str.ofString "__main__") 164), none, some (Value.ref 0)] }
noncomputable def ob15 (_ : Params) : Obj := { cls := Value.type "tuple", data := Data.seq #[] }
noncomputable def ob16 (_ : Params) : Obj := { cls := Value.none, data := Data.fields #[] }
noncomputable def ob17 (_ : Params) : Obj := { cls := Value.type "tuple", data := Data.seq #[Value.str (Str.ofString "k") 190] }
noncomputable def ob18 (_ : Params) : Obj := { cls := Value.type "tuple", data := Data.seq #[] }
noncomputable def ob19 (_ : Params) : Obj := fnOb .none (top 0) rfl (Str.ofString "_wall") [] .none .none .none .none none .none .none 0 0
noncomputable def ob20 (_ : Params) : Obj := { cls := Value.type "code", data := Data.fields #[Value.str (Str.ofString "_wall") 187, Value.str (Str.ofString "_wall") 188, Value.str (Str.ofString "/claim/cut.py") 189, Value.int 1 0, Value.int 1 0, Value.int 0 0, Value.int 0 0, Value.int 3 0, Value.ref 15, Value.bool true, Value.int 181 0, Value.ref 16, Value.none, Value.ref 17, Value.ref 18, Value.ref 19, Value.int 191 0, Value.int 1 0, Value.str (Str.ofString "/claim/cut.py") 192] }
noncomputable def ob21 (_ : Params) : Obj := fnOb (Value.type "function") (top 0) rfl (Str.ofString "_wall") [] .none .none .none (Value.str (Str.ofString "__main__") 164) none (Value.ref 20) .none 0 3
noncomputable def ob22 (_ : Params) : Obj := { cls := Value.type "tuple", data := Data.seq #[] }
noncomputable def ob23 (_ : Params) : Obj := { cls := Value.none, data := Data.fields #[] }
noncomputable def ob24 (_ : Params) : Obj := { cls := Value.type "tuple", data := Data.seq #[Value.str (Str.ofString "x") 199] }
noncomputable def ob25 (_ : Params) : Obj := { cls := Value.type "tuple", data := Data.seq #[] }
noncomputable def ob26 (_ : Params) : Obj := fnOb .none (top 2) rfl (Str.ofString "bit_count") [] .none .none .none .none none .none .none 0 0
noncomputable def ob27 (_ : Params) : Obj := { cls := Value.type "code", data := Data.fields #[Value.str (Str.ofString "bit_count") 196, Value.str (Str.ofString "bit_count") 197, Value.str (Str.ofString "/claim/cut.py") 198, Value.int 5 0, Value.int 1 0, Value.int 0 0, Value.int 0 0, Value.int 3 0, Value.ref 22, Value.bool true, Value.int 181 0, Value.ref 23, Value.none, Value.ref 24, Value.ref 25, Value.ref 26, Value.int 200 0, Value.int 5 0, Value.str (Str.ofString "/claim/cut.py") 201] }
noncomputable def ob28 (_ : Params) : Obj := fnOb (Value.type "function") (top 2) rfl (Str.ofString "bit_count") [] .none .none .none (Value.str (Str.ofString "kyber_py.utilities.utils") 194) none (Value.ref 27) .none 0 3
noncomputable def ob29 (_ : Params) : Obj := { cls := Value.type "tuple", data := Data.seq #[] }
noncomputable def ob30 (_ : Params) : Obj := { cls := Value.type "builtin_function_or_method", data := Data.fields #[Value.builtin "type.__prepare__", Value.type "type"] }
noncomputable def ob31 (P : Params) : Obj := { cls := Value.type "dict", data := Data.dict #[{ hash := PyData.keyHash P (Str.ofString "__module__"), key := Value.str (Str.ofString "__module__") 212, val := Value.str (Str.ofString "kyber_py.polynomials.polynomials_generic") 203 }, { hash := PyData.keyHash P (Str.ofString "__qualname__"), key := Value.str (Str.ofString "__qualname__") 214, val := Value.str (Str.ofString "GenericPolynomialRing") 213 }, { hash := PyData.keyHash P (Str.ofString "__firstlineno__"), key := Value.str (Str.ofString "__firstlineno__") 216, val := Value.int 8 215 }, { hash := PyData.keyHash P (Str.ofString "__init__"), key := Value.str (Str.ofString "__init__") 225, val := Value.ref 42 }, { hash := PyData.keyHash P (Str.ofString "zero"), key := Value.str (Str.ofString "zero") 232, val := Value.ref 49 }, { hash := PyData.keyHash P (Str.ofString "gen"), key := Value.str (Str.ofString "gen") 239, val := Value.ref 56 }, { hash := PyData.keyHash P (Str.ofString "__call__"), key := Value.str (Str.ofString "__call__") 247, val := Value.ref 63 }, { hash := PyData.keyHash P (Str.ofString "__static_attributes__"), key := Value.str (Str.ofString "__static_attributes__") 250, val := Value.ref 64 }] 8 }
noncomputable def ob32 (_ : Params) : Obj := { cls := Value.type "tuple", data := Data.seq #[] }
noncomputable def ob33 (_ : Params) : Obj := { cls := Value.none, data := Data.fields #[Value.int 10 0, Value.int 4 0, Value.ref 41, Value.int 14 0, Value.int 4 0, Value.ref 48, Value.int 17 0, Value.int 4 0, Value.ref 55, Value.int 20 0, Value.int 4 0, Value.ref 62] }
noncomputable def ob34 (_ : Params) : Obj := { cls := Value.type "code", data := Data.fields #[Value.str (Str.ofString "GenericPolynomialRing") 207, Value.str (Str.ofString "GenericPolynomialRing") 208, Value.str (Str.ofString "/claim/cut.py") 209, Value.int 8 0, Value.int 0 0, Value.int 0 0, Value.int 0 0, Value.int 0 0, Value.ref 32, Value.bool false, Value.int 181 0, Value.ref 33, Value.none, Value.none, Value.none, Value.none, Value.int 210 0, Value.int 8 0, Value.str (Str.ofString "/claim/cut.py") 211] }
noncomputable def ob35 (_ : Params) : Obj := { cls := Value.type "frame", slots := #[some (Value.ref 34), some (Value.ref 3), some (Value.ref 31), none, some (Value.str (Str.ofString "kyber_py.polynomials.polynomials_generic") 203), none, some (Value.ref 0)] }
noncomputable def ob36 (_ : Params) : Obj := { cls := Value.type "tuple", data := Data.seq #[] }
noncomputable def ob37 (_ : Params) : Obj := { cls := Value.none, data := Data.fields #[] }
noncomputable def ob38 (_ : Params) : Obj := { cls := Value.type "tuple", data := Data.seq #[Value.str (Str.ofString "self") 220, Value.str (Str.ofString "q") 221, Value.str (Str.ofString "n") 222] }
noncomputable def ob39 (_ : Params) : Obj := { cls := Value.type "tuple", data := Data.seq #[] }
noncomputable def ob40 (_ : Params) : Obj := fnOb .none (mem 4 0) rfl (Str.ofString "GenericPolynomialRing.__init__") [] .none .none .none .none none .none .none 0 0
noncomputable def ob41 (_ : Params) : Obj := { cls := Value.type "code", data := Data.fields #[Value.str (Str.ofString "__init__") 217, Value.str (Str.ofString "GenericPolynomialRing.__init__") 218, Value.str (Str.ofString "/claim/cut.py") 219, Value.int 10 0, Value.int 3 0, Value.int 0 0, Value.int 0 0, Value.int 3 0, Value.ref 36, Value.bool true, Value.int 181 0, Value.ref 37, Value.none, Value.ref 38, Value.ref 39, Value.ref 40, Value.int 223 0, Value.int 10 0, Value.str (Str.ofString "/claim/cut.py") 224] }
noncomputable def ob42 (_ : Params) : Obj := fnOb (Value.type "function") (mem 4 0) rfl (Str.ofString "GenericPolynomialRing.__init__") [] .none .none .none (Value.str (Str.ofString "kyber_py.polynomials.polynomials_generic") 203) none (Value.ref 41) .none 0 3
noncomputable def ob43 (_ : Params) : Obj := { cls := Value.type "tuple", data := Data.seq #[] }
noncomputable def ob44 (_ : Params) : Obj := { cls := Value.none, data := Data.fields #[] }
noncomputable def ob45 (_ : Params) : Obj := { cls := Value.type "tuple", data := Data.seq #[Value.str (Str.ofString "self") 229] }
noncomputable def ob46 (_ : Params) : Obj := { cls := Value.type "tuple", data := Data.seq #[] }
noncomputable def ob47 (_ : Params) : Obj := fnOb .none (mem 4 1) rfl (Str.ofString "GenericPolynomialRing.zero") [] .none .none .none .none none .none .none 0 0
noncomputable def ob48 (_ : Params) : Obj := { cls := Value.type "code", data := Data.fields #[Value.str (Str.ofString "zero") 226, Value.str (Str.ofString "GenericPolynomialRing.zero") 227, Value.str (Str.ofString "/claim/cut.py") 228, Value.int 14 0, Value.int 1 0, Value.int 0 0, Value.int 0 0, Value.int 3 0, Value.ref 43, Value.bool true, Value.int 181 0, Value.ref 44, Value.none, Value.ref 45, Value.ref 46, Value.ref 47, Value.int 230 0, Value.int 14 0, Value.str (Str.ofString "/claim/cut.py") 231] }
noncomputable def ob49 (_ : Params) : Obj := fnOb (Value.type "function") (mem 4 1) rfl (Str.ofString "GenericPolynomialRing.zero") [] .none .none .none (Value.str (Str.ofString "kyber_py.polynomials.polynomials_generic") 203) none (Value.ref 48) .none 0 3
noncomputable def ob50 (_ : Params) : Obj := { cls := Value.type "tuple", data := Data.seq #[] }
noncomputable def ob51 (_ : Params) : Obj := { cls := Value.none, data := Data.fields #[] }
noncomputable def ob52 (_ : Params) : Obj := { cls := Value.type "tuple", data := Data.seq #[Value.str (Str.ofString "self") 236] }
noncomputable def ob53 (_ : Params) : Obj := { cls := Value.type "tuple", data := Data.seq #[] }
noncomputable def ob54 (_ : Params) : Obj := fnOb .none (mem 4 2) rfl (Str.ofString "GenericPolynomialRing.gen") [] .none .none .none .none none .none .none 0 0
noncomputable def ob55 (_ : Params) : Obj := { cls := Value.type "code", data := Data.fields #[Value.str (Str.ofString "gen") 233, Value.str (Str.ofString "GenericPolynomialRing.gen") 234, Value.str (Str.ofString "/claim/cut.py") 235, Value.int 17 0, Value.int 1 0, Value.int 0 0, Value.int 0 0, Value.int 3 0, Value.ref 50, Value.bool true, Value.int 181 0, Value.ref 51, Value.none, Value.ref 52, Value.ref 53, Value.ref 54, Value.int 237 0, Value.int 17 0, Value.str (Str.ofString "/claim/cut.py") 238] }
noncomputable def ob56 (_ : Params) : Obj := fnOb (Value.type "function") (mem 4 2) rfl (Str.ofString "GenericPolynomialRing.gen") [] .none .none .none (Value.str (Str.ofString "kyber_py.polynomials.polynomials_generic") 203) none (Value.ref 55) .none 0 3
noncomputable def ob57 (_ : Params) : Obj := { cls := Value.type "tuple", data := Data.seq #[] }
noncomputable def ob58 (_ : Params) : Obj := { cls := Value.none, data := Data.fields #[] }
noncomputable def ob59 (_ : Params) : Obj := { cls := Value.type "tuple", data := Data.seq #[Value.str (Str.ofString "self") 243, Value.str (Str.ofString "coefficients") 244] }
noncomputable def ob60 (_ : Params) : Obj := { cls := Value.type "tuple", data := Data.seq #[] }
noncomputable def ob61 (_ : Params) : Obj := fnOb .none (mem 4 3) rfl (Str.ofString "GenericPolynomialRing.__call__") [] .none .none .none .none none .none .none 0 0
noncomputable def ob62 (_ : Params) : Obj := { cls := Value.type "code", data := Data.fields #[Value.str (Str.ofString "__call__") 240, Value.str (Str.ofString "GenericPolynomialRing.__call__") 241, Value.str (Str.ofString "/claim/cut.py") 242, Value.int 20 0, Value.int 2 0, Value.int 0 0, Value.int 0 0, Value.int 3 0, Value.ref 57, Value.bool true, Value.int 181 0, Value.ref 58, Value.none, Value.ref 59, Value.ref 60, Value.ref 61, Value.int 245 0, Value.int 20 0, Value.str (Str.ofString "/claim/cut.py") 246] }
noncomputable def ob63 (_ : Params) : Obj := fnOb (Value.type "function") (mem 4 3) rfl (Str.ofString "GenericPolynomialRing.__call__") [] .none .none .none (Value.str (Str.ofString "kyber_py.polynomials.polynomials_generic") 203) none (Value.ref 62) .none 0 3
noncomputable def ob64 (_ : Params) : Obj := { cls := Value.type "tuple", data := Data.seq #[Value.str (Str.ofString "n") 248, Value.str (Str.ofString "q") 249] }
noncomputable def ob65 (P : Params) : Obj := { cls := Value.type "dict", data := Data.dict #[{ hash := PyData.keyHash P (Str.ofString "__module__"), key := Value.str (Str.ofString "__module__") 212, val := Value.str (Str.ofString "kyber_py.polynomials.polynomials_generic") 203 }, { hash := PyData.keyHash P (Str.ofString "__firstlineno__"), key := Value.str (Str.ofString "__firstlineno__") 216, val := Value.int 8 215 }, { hash := PyData.keyHash P (Str.ofString "__init__"), key := Value.str (Str.ofString "__init__") 225, val := Value.ref 42 }, { hash := PyData.keyHash P (Str.ofString "zero"), key := Value.str (Str.ofString "zero") 232, val := Value.ref 49 }, { hash := PyData.keyHash P (Str.ofString "gen"), key := Value.str (Str.ofString "gen") 239, val := Value.ref 56 }, { hash := PyData.keyHash P (Str.ofString "__call__"), key := Value.str (Str.ofString "__call__") 247, val := Value.ref 63 }, { hash := PyData.keyHash P (Str.ofString "__static_attributes__"), key := Value.str (Str.ofString "__static_attributes__") 250, val := Value.ref 64 }, { hash := PyData.keyHash P (Str.ofString "__dict__"), key := Value.str (Str.ofString "__dict__") 252, val := Value.ref 67 }, { hash := PyData.keyHash P (Str.ofString "__weakref__"), key := Value.str (Str.ofString "__weakref__") 254, val := Value.ref 68 }, { hash := PyData.keyHash P (Str.ofString "__doc__"), key := Value.str (Str.ofString "__doc__") 255, val := Value.none }] 4 }
noncomputable def ob66 (_ : Params) : Obj := { cls := Value.type "type", data := Data.cls { name := Str.ofString "GenericPolynomialRing", bases := [Value.type "object"], mro := [Value.ref 66, Value.type "object"], ns := 65, qualname := Str.ofString "GenericPolynomialRing", subclasses := [Value.ref 287] }, slots := #[none, none, some (Value.str (Str.ofString "GenericPolynomialRing") 205), some (Value.str (Str.ofString "GenericPolynomialRing") 213), some (Value.builtin "object.__new__"), some (Value.bool true)] }
noncomputable def ob67 (_ : Params) : Obj := { cls := Value.type "getset_descriptor", data := Data.fields #[Value.str (Str.ofString "__dict__") 251, Value.ref 66, Value.builtin "function.__dict__", Value.builtin "function.__dict__#set"] }
noncomputable def ob68 (_ : Params) : Obj := { cls := Value.type "getset_descriptor", data := Data.fields #[Value.str (Str.ofString "__weakref__") 253, Value.ref 66, Value.builtin "ExceptionGroup.__weakref__", Value.none] }
noncomputable def ob69 (_ : Params) : Obj := { cls := Value.type "super", data := Data.fields #[Value.ref 66, Value.ref 66, Value.ref 66] }
noncomputable def ob70 (_ : Params) : Obj := { cls := Value.type "builtin_function_or_method", data := Data.fields #[Value.builtin "object.__init_subclass__", Value.ref 66] }
noncomputable def ob71 (_ : Params) : Obj := { cls := Value.type "tuple", data := Data.seq #[] }
noncomputable def ob72 (_ : Params) : Obj := { cls := Value.type "builtin_function_or_method", data := Data.fields #[Value.builtin "type.__prepare__", Value.type "type"] }
noncomputable def ob73 (P : Params) : Obj := { cls := Value.type "dict", data := Data.dict #[{ hash := PyData.keyHash P (Str.ofString "__module__"), key := Value.str (Str.ofString "__module__") 265, val := Value.str (Str.ofString "kyber_py.polynomials.polynomials_generic") 203 }, { hash := PyData.keyHash P (Str.ofString "__qualname__"), key := Value.str (Str.ofString "__qualname__") 267, val := Value.str (Str.ofString "GenericPolynomial") 266 }, { hash := PyData.keyHash P (Str.ofString "__firstlineno__"), key := Value.str (Str.ofString "__firstlineno__") 269, val := Value.int 26 268 }, { hash := PyData.keyHash P (Str.ofString "__init__"), key := Value.str (Str.ofString "__init__") 278, val := Value.ref 84 }, { hash := PyData.keyHash P (Str.ofString "is_zero"), key := Value.str (Str.ofString "is_zero") 285, val := Value.ref 91 }, { hash := PyData.keyHash P (Str.ofString "is_constant"), key := Value.str (Str.ofString "is_constant") 292, val := Value.ref 98 }, { hash := PyData.keyHash P (Str.ofString "_parse_coefficients"), key := Value.str (Str.ofString "_parse_coefficients") 298, val := Value.ref 103 }, { hash := PyData.keyHash P (Str.ofString "reduce_coefficients"), key := Value.str (Str.ofString "reduce_coefficients") 305, val := Value.ref 110 }, { hash := PyData.keyHash P (Str.ofString "_add_mod_q"), key := Value.str (Str.ofString "_add_mod_q") 314, val := Value.ref 117 }, { hash := PyData.keyHash P (Str.ofString "_sub_mod_q"), key := Value.str (Str.ofString "_sub_mod_q") 323, val := Value.ref 124 }, { hash := PyData.keyHash P (Str.ofString "_schoolbook_multiplication"), key := Value.str (Str.ofString "_schoolbook_multiplication") 329, val := Value.ref 129 }, { hash := PyData.keyHash P (Str.ofString "__neg__"), key := Value.str (Str.ofString "__neg__") 335, val := Value.ref 134 }, { hash := PyData.keyHash P (Str.ofString "_add_"), key := Value.str (Str.ofString "_add_") 341, val := Value.ref 139 }, { hash := PyData.keyHash P (Str.ofString "__add__"), key := Value.str (Str.ofString "__add__") 350, val := Value.ref 146 }, { hash := PyData.keyHash P (Str.ofString "__radd__"), key := Value.str (Str.ofString "__radd__") 358, val := Value.ref 153 }, { hash := PyData.keyHash P (Str.ofString "__iadd__"), key := Value.str (Str.ofString "__iadd__") 366, val := Value.ref 160 }, { hash := PyData.keyHash P (Str.ofString "_sub_"), key := Value.str (Str.ofString "_sub_") 372, val := Value.ref 165 }, { hash := PyData.keyHash P (Str.ofString "__sub__"), key := Value.str (Str.ofString "__sub__") 381, val := Value.ref 172 }, { hash := PyData.keyHash P (Str.ofString "__rsub__"), key := Value.str (Str.ofString "__rsub__") 389, val := Value.ref 179 }, { hash := PyData.keyHash P (Str.ofString "__isub__"), key := Value.str (Str.ofString "__isub__") 397, val := Value.ref 186 }, { hash := PyData.keyHash P (Str.ofString "__mul__"), key := Value.str (Str.ofString "__mul__") 403, val := Value.ref 191 }, { hash := PyData.keyHash P (Str.ofString "__rmul__"), key := Value.str (Str.ofString "__rmul__") 411, val := Value.ref 198 }, { hash := PyData.keyHash P (Str.ofString "__imul__"), key := Value.str (Str.ofString "__imul__") 419, val := Value.ref 205 }, { hash := PyData.keyHash P (Str.ofString "__pow__"), key := Value.str (Str.ofString "__pow__") 429, val := Value.ref 212 }, { hash := PyData.keyHash P (Str.ofString "__eq__"), key := Value.str (Str.ofString "__eq__") 437, val := Value.ref 219 }, { hash := PyData.keyHash P (Str.ofString "__getitem__"), key := Value.str (Str.ofString "__getitem__") 445, val := Value.ref 226 }, { hash := PyData.keyHash P (Str.ofString "__static_attributes__"), key := Value.str (Str.ofString "__static_attributes__") 448, val := Value.ref 227 }] 27 }
noncomputable def ob74 (_ : Params) : Obj := { cls := Value.type "tuple", data := Data.seq #[] }
noncomputable def ob75 (_ : Params) : Obj := { cls := Value.none, data := Data.fields #[Value.int 28 0, Value.int 4 0, Value.ref 83, Value.int 32 0, Value.int 4 0, Value.ref 90, Value.int 35 0, Value.int 4 0, Value.ref 97, Value.int 38 0, Value.int 4 0, Value.ref 102, Value.int 46 0, Value.int 4 0, Value.ref 109, Value.int 49 0, Value.int 4 0, Value.ref 116, Value.int 52 0, Value.int 4 0, Value.ref 123, Value.int 55 0, Value.int 4 0, Value.ref 128, Value.int 68 0, Value.int 4 0, Value.ref 133, Value.int 72 0, Value.int 4 0, Value.ref 138, Value.int 82 0, Value.int 4 0, Value.ref 145, Value.int 86 0, Value.int 4 0, Value.ref 152, Value.int 89 0, Value.int 4 0, Value.ref 159, Value.int 93 0, Value.int 4 0, Value.ref 164, Value.int 103 0, Value.int 4 0, Value.ref 171, Value.int 107 0, Value.int 4 0, Value.ref 178, Value.int 110 0, Value.int 4 0, Value.ref 185, Value.int 114 0, Value.int 4 0, Value.ref 190, Value.int 123 0, Value.int 4 0, Value.ref 197, Value.int 126 0, Value.int 4 0, Value.ref 204, Value.int 130 0, Value.int 4 0, Value.ref 211, Value.int 144 0, Value.int 4 0, Value.ref 218, Value.int 152 0, Value.int 4 0, Value.ref 225] }
noncomputable def ob76 (_ : Params) : Obj := { cls := Value.type "code", data := Data.fields #[Value.str (Str.ofString "GenericPolynomial") 260, Value.str (Str.ofString "GenericPolynomial") 261, Value.str (Str.ofString "/claim/cut.py") 262, Value.int 26 0, Value.int 0 0, Value.int 0 0, Value.int 0 0, Value.int 0 0, Value.ref 74, Value.bool false, Value.int 181 0, Value.ref 75, Value.none, Value.none, Value.none, Value.none, Value.int 263 0, Value.int 26 0, Value.str (Str.ofString "/claim/cut.py") 264] }
noncomputable def ob77 (_ : Params) : Obj := { cls := Value.type "frame", slots := #[some (Value.ref 76), some (Value.ref 3), some (Value.ref 73), none, some (Value.str (Str.ofString "kyber_py.polynomials.polynomials_generic") 203), none, some (Value.ref 0)] }
noncomputable def ob78 (_ : Params) : Obj := { cls := Value.type "tuple", data := Data.seq #[] }
noncomputable def ob79 (_ : Params) : Obj := { cls := Value.none, data := Data.fields #[] }
noncomputable def ob80 (_ : Params) : Obj := { cls := Value.type "tuple", data := Data.seq #[Value.str (Str.ofString "self") 273, Value.str (Str.ofString "parent") 274, Value.str (Str.ofString "coefficients") 275] }
noncomputable def ob81 (_ : Params) : Obj := { cls := Value.type "tuple", data := Data.seq #[] }
noncomputable def ob82 (_ : Params) : Obj := fnOb .none (mem 5 0) rfl (Str.ofString "GenericPolynomial.__init__") [] .none .none .none .none none .none .none 0 0
noncomputable def ob83 (_ : Params) : Obj := { cls := Value.type "code", data := Data.fields #[Value.str (Str.ofString "__init__") 270, Value.str (Str.ofString "GenericPolynomial.__init__") 271, Value.str (Str.ofString "/claim/cut.py") 272, Value.int 28 0, Value.int 3 0, Value.int 0 0, Value.int 0 0, Value.int 3 0, Value.ref 78, Value.bool true, Value.int 181 0, Value.ref 79, Value.none, Value.ref 80, Value.ref 81, Value.ref 82, Value.int 276 0, Value.int 28 0, Value.str (Str.ofString "/claim/cut.py") 277] }
noncomputable def ob84 (_ : Params) : Obj := fnOb (Value.type "function") (mem 5 0) rfl (Str.ofString "GenericPolynomial.__init__") [] .none .none .none (Value.str (Str.ofString "kyber_py.polynomials.polynomials_generic") 203) none (Value.ref 83) .none 0 3
noncomputable def ob85 (_ : Params) : Obj := { cls := Value.type "tuple", data := Data.seq #[] }
noncomputable def ob86 (_ : Params) : Obj := { cls := Value.none, data := Data.fields #[] }
noncomputable def ob87 (_ : Params) : Obj := { cls := Value.type "tuple", data := Data.seq #[Value.str (Str.ofString "self") 282] }
noncomputable def ob88 (_ : Params) : Obj := { cls := Value.type "tuple", data := Data.seq #[] }
noncomputable def ob89 (_ : Params) : Obj := fnOb .none (mem 5 1) rfl (Str.ofString "GenericPolynomial.is_zero") [] .none .none .none .none none .none .none 0 0
noncomputable def ob90 (_ : Params) : Obj := { cls := Value.type "code", data := Data.fields #[Value.str (Str.ofString "is_zero") 279, Value.str (Str.ofString "GenericPolynomial.is_zero") 280, Value.str (Str.ofString "/claim/cut.py") 281, Value.int 32 0, Value.int 1 0, Value.int 0 0, Value.int 0 0, Value.int 3 0, Value.ref 85, Value.bool true, Value.int 181 0, Value.ref 86, Value.none, Value.ref 87, Value.ref 88, Value.ref 89, Value.int 283 0, Value.int 32 0, Value.str (Str.ofString "/claim/cut.py") 284] }
noncomputable def ob91 (_ : Params) : Obj := fnOb (Value.type "function") (mem 5 1) rfl (Str.ofString "GenericPolynomial.is_zero") [] .none .none .none (Value.str (Str.ofString "kyber_py.polynomials.polynomials_generic") 203) none (Value.ref 90) .none 0 3
noncomputable def ob92 (_ : Params) : Obj := { cls := Value.type "tuple", data := Data.seq #[] }
noncomputable def ob93 (_ : Params) : Obj := { cls := Value.none, data := Data.fields #[] }
noncomputable def ob94 (_ : Params) : Obj := { cls := Value.type "tuple", data := Data.seq #[Value.str (Str.ofString "self") 289] }
noncomputable def ob95 (_ : Params) : Obj := { cls := Value.type "tuple", data := Data.seq #[] }
noncomputable def ob96 (_ : Params) : Obj := fnOb .none (mem 5 2) rfl (Str.ofString "GenericPolynomial.is_constant") [] .none .none .none .none none .none .none 0 0
noncomputable def ob97 (_ : Params) : Obj := { cls := Value.type "code", data := Data.fields #[Value.str (Str.ofString "is_constant") 286, Value.str (Str.ofString "GenericPolynomial.is_constant") 287, Value.str (Str.ofString "/claim/cut.py") 288, Value.int 35 0, Value.int 1 0, Value.int 0 0, Value.int 0 0, Value.int 3 0, Value.ref 92, Value.bool true, Value.int 181 0, Value.ref 93, Value.none, Value.ref 94, Value.ref 95, Value.ref 96, Value.int 290 0, Value.int 35 0, Value.str (Str.ofString "/claim/cut.py") 291] }
noncomputable def ob98 (_ : Params) : Obj := fnOb (Value.type "function") (mem 5 2) rfl (Str.ofString "GenericPolynomial.is_constant") [] .none .none .none (Value.str (Str.ofString "kyber_py.polynomials.polynomials_generic") 203) none (Value.ref 97) .none 0 3
noncomputable def ob99 (_ : Params) : Obj := { cls := Value.type "tuple", data := Data.seq #[] }
noncomputable def ob100 (_ : Params) : Obj := { cls := Value.none, data := Data.fields #[] }
noncomputable def ob101 (_ : Params) : Obj := fnOb .none (mem 5 3) rfl (Str.ofString "GenericPolynomial._parse_coefficients") [] .none .none .none .none none .none .none 0 0
noncomputable def ob102 (_ : Params) : Obj := { cls := Value.type "code", data := Data.fields #[Value.str (Str.ofString "_parse_coefficients") 293, Value.str (Str.ofString "GenericPolynomial._parse_coefficients") 294, Value.str (Str.ofString "/claim/cut.py") 295, Value.int 38 0, Value.int 2 0, Value.int 0 0, Value.int 0 0, Value.int 3 0, Value.ref 99, Value.bool true, Value.int 181 0, Value.ref 100, Value.none, Value.none, Value.none, Value.ref 101, Value.int 296 0, Value.int 38 0, Value.str (Str.ofString "/claim/cut.py") 297] }
noncomputable def ob103 (_ : Params) : Obj := fnOb (Value.type "function") (mem 5 3) rfl (Str.ofString "GenericPolynomial._parse_coefficients") [] .none .none .none (Value.str (Str.ofString "kyber_py.polynomials.polynomials_generic") 203) none (Value.ref 102) .none 0 3
noncomputable def ob104 (_ : Params) : Obj := { cls := Value.type "tuple", data := Data.seq #[] }
noncomputable def ob105 (_ : Params) : Obj := { cls := Value.none, data := Data.fields #[] }
noncomputable def ob106 (_ : Params) : Obj := { cls := Value.type "tuple", data := Data.seq #[Value.str (Str.ofString "self") 302] }
noncomputable def ob107 (_ : Params) : Obj := { cls := Value.type "tuple", data := Data.seq #[] }
noncomputable def ob108 (_ : Params) : Obj := fnOb .none (mem 5 4) rfl (Str.ofString "GenericPolynomial.reduce_coefficients") [] .none .none .none .none none .none .none 0 0
noncomputable def ob109 (_ : Params) : Obj := { cls := Value.type "code", data := Data.fields #[Value.str (Str.ofString "reduce_coefficients") 299, Value.str (Str.ofString "GenericPolynomial.reduce_coefficients") 300, Value.str (Str.ofString "/claim/cut.py") 301, Value.int 46 0, Value.int 1 0, Value.int 0 0, Value.int 0 0, Value.int 3 0, Value.ref 104, Value.bool true, Value.int 181 0, Value.ref 105, Value.none, Value.ref 106, Value.ref 107, Value.ref 108, Value.int 303 0, Value.int 46 0, Value.str (Str.ofString "/claim/cut.py") 304] }
noncomputable def ob110 (_ : Params) : Obj := fnOb (Value.type "function") (mem 5 4) rfl (Str.ofString "GenericPolynomial.reduce_coefficients") [] .none .none .none (Value.str (Str.ofString "kyber_py.polynomials.polynomials_generic") 203) none (Value.ref 109) .none 0 3
noncomputable def ob111 (_ : Params) : Obj := { cls := Value.type "tuple", data := Data.seq #[] }
noncomputable def ob112 (_ : Params) : Obj := { cls := Value.none, data := Data.fields #[] }
noncomputable def ob113 (_ : Params) : Obj := { cls := Value.type "tuple", data := Data.seq #[Value.str (Str.ofString "self") 309, Value.str (Str.ofString "x") 310, Value.str (Str.ofString "y") 311] }
noncomputable def ob114 (_ : Params) : Obj := { cls := Value.type "tuple", data := Data.seq #[] }
noncomputable def ob115 (_ : Params) : Obj := fnOb .none (mem 5 5) rfl (Str.ofString "GenericPolynomial._add_mod_q") [] .none .none .none .none none .none .none 0 0
noncomputable def ob116 (_ : Params) : Obj := { cls := Value.type "code", data := Data.fields #[Value.str (Str.ofString "_add_mod_q") 306, Value.str (Str.ofString "GenericPolynomial._add_mod_q") 307, Value.str (Str.ofString "/claim/cut.py") 308, Value.int 49 0, Value.int 3 0, Value.int 0 0, Value.int 0 0, Value.int 3 0, Value.ref 111, Value.bool true, Value.int 181 0, Value.ref 112, Value.none, Value.ref 113, Value.ref 114, Value.ref 115, Value.int 312 0, Value.int 49 0, Value.str (Str.ofString "/claim/cut.py") 313] }
noncomputable def ob117 (_ : Params) : Obj := fnOb (Value.type "function") (mem 5 5) rfl (Str.ofString "GenericPolynomial._add_mod_q") [] .none .none .none (Value.str (Str.ofString "kyber_py.polynomials.polynomials_generic") 203) none (Value.ref 116) .none 0 3
noncomputable def ob118 (_ : Params) : Obj := { cls := Value.type "tuple", data := Data.seq #[] }
noncomputable def ob119 (_ : Params) : Obj := { cls := Value.none, data := Data.fields #[] }
noncomputable def ob120 (_ : Params) : Obj := { cls := Value.type "tuple", data := Data.seq #[Value.str (Str.ofString "self") 318, Value.str (Str.ofString "x") 319, Value.str (Str.ofString "y") 320] }
noncomputable def ob121 (_ : Params) : Obj := { cls := Value.type "tuple", data := Data.seq #[] }
noncomputable def ob122 (_ : Params) : Obj := fnOb .none (mem 5 6) rfl (Str.ofString "GenericPolynomial._sub_mod_q") [] .none .none .none .none none .none .none 0 0
noncomputable def ob123 (_ : Params) : Obj := { cls := Value.type "code", data := Data.fields #[Value.str (Str.ofString "_sub_mod_q") 315, Value.str (Str.ofString "GenericPolynomial._sub_mod_q") 316, Value.str (Str.ofString "/claim/cut.py") 317, Value.int 52 0, Value.int 3 0, Value.int 0 0, Value.int 0 0, Value.int 3 0, Value.ref 118, Value.bool true, Value.int 181 0, Value.ref 119, Value.none, Value.ref 120, Value.ref 121, Value.ref 122, Value.int 321 0, Value.int 52 0, Value.str (Str.ofString "/claim/cut.py") 322] }
noncomputable def ob124 (_ : Params) : Obj := fnOb (Value.type "function") (mem 5 6) rfl (Str.ofString "GenericPolynomial._sub_mod_q") [] .none .none .none (Value.str (Str.ofString "kyber_py.polynomials.polynomials_generic") 203) none (Value.ref 123) .none 0 3
noncomputable def ob125 (_ : Params) : Obj := { cls := Value.type "tuple", data := Data.seq #[] }
noncomputable def ob126 (_ : Params) : Obj := { cls := Value.none, data := Data.fields #[] }
noncomputable def ob127 (_ : Params) : Obj := fnOb .none (mem 5 7) rfl (Str.ofString "GenericPolynomial._schoolbook_multiplication") [] .none .none .none .none none .none .none 0 0
noncomputable def ob128 (_ : Params) : Obj := { cls := Value.type "code", data := Data.fields #[Value.str (Str.ofString "_schoolbook_multiplication") 324, Value.str (Str.ofString "GenericPolynomial._schoolbook_multiplication") 325, Value.str (Str.ofString "/claim/cut.py") 326, Value.int 55 0, Value.int 2 0, Value.int 0 0, Value.int 0 0, Value.int 3 0, Value.ref 125, Value.bool true, Value.int 181 0, Value.ref 126, Value.none, Value.none, Value.none, Value.ref 127, Value.int 327 0, Value.int 55 0, Value.str (Str.ofString "/claim/cut.py") 328] }
noncomputable def ob129 (_ : Params) : Obj := fnOb (Value.type "function") (mem 5 7) rfl (Str.ofString "GenericPolynomial._schoolbook_multiplication") [] .none .none .none (Value.str (Str.ofString "kyber_py.polynomials.polynomials_generic") 203) none (Value.ref 128) .none 0 3
noncomputable def ob130 (_ : Params) : Obj := { cls := Value.type "tuple", data := Data.seq #[] }
noncomputable def ob131 (_ : Params) : Obj := { cls := Value.none, data := Data.fields #[] }
noncomputable def ob132 (_ : Params) : Obj := fnOb .none (mem 5 8) rfl (Str.ofString "GenericPolynomial.__neg__") [] .none .none .none .none none .none .none 0 0
noncomputable def ob133 (_ : Params) : Obj := { cls := Value.type "code", data := Data.fields #[Value.str (Str.ofString "__neg__") 330, Value.str (Str.ofString "GenericPolynomial.__neg__") 331, Value.str (Str.ofString "/claim/cut.py") 332, Value.int 68 0, Value.int 1 0, Value.int 0 0, Value.int 0 0, Value.int 3 0, Value.ref 130, Value.bool true, Value.int 181 0, Value.ref 131, Value.none, Value.none, Value.none, Value.ref 132, Value.int 333 0, Value.int 68 0, Value.str (Str.ofString "/claim/cut.py") 334] }
noncomputable def ob134 (_ : Params) : Obj := fnOb (Value.type "function") (mem 5 8) rfl (Str.ofString "GenericPolynomial.__neg__") [] .none .none .none (Value.str (Str.ofString "kyber_py.polynomials.polynomials_generic") 203) none (Value.ref 133) .none 0 3
noncomputable def ob135 (_ : Params) : Obj := { cls := Value.type "tuple", data := Data.seq #[] }
noncomputable def ob136 (_ : Params) : Obj := { cls := Value.none, data := Data.fields #[] }
noncomputable def ob137 (_ : Params) : Obj := fnOb .none (mem 5 9) rfl (Str.ofString "GenericPolynomial._add_") [] .none .none .none .none none .none .none 0 0
noncomputable def ob138 (_ : Params) : Obj := { cls := Value.type "code", data := Data.fields #[Value.str (Str.ofString "_add_") 336, Value.str (Str.ofString "GenericPolynomial._add_") 337, Value.str (Str.ofString "/claim/cut.py") 338, Value.int 72 0, Value.int 2 0, Value.int 0 0, Value.int 0 0, Value.int 3 0, Value.ref 135, Value.bool true, Value.int 181 0, Value.ref 136, Value.none, Value.none, Value.none, Value.ref 137, Value.int 339 0, Value.int 72 0, Value.str (Str.ofString "/claim/cut.py") 340] }
noncomputable def ob139 (_ : Params) : Obj := fnOb (Value.type "function") (mem 5 9) rfl (Str.ofString "GenericPolynomial._add_") [] .none .none .none (Value.str (Str.ofString "kyber_py.polynomials.polynomials_generic") 203) none (Value.ref 138) .none 0 3
noncomputable def ob140 (_ : Params) : Obj := { cls := Value.type "tuple", data := Data.seq #[] }
noncomputable def ob141 (_ : Params) : Obj := { cls := Value.none, data := Data.fields #[] }
noncomputable def ob142 (_ : Params) : Obj := { cls := Value.type "tuple", data := Data.seq #[Value.str (Str.ofString "self") 345, Value.str (Str.ofString "other") 346, Value.str (Str.ofString "new_coeffs") 347] }
noncomputable def ob143 (_ : Params) : Obj := { cls := Value.type "tuple", data := Data.seq #[] }
noncomputable def ob144 (_ : Params) : Obj := fnOb .none (mem 5 10) rfl (Str.ofString "GenericPolynomial.__add__") [] .none .none .none .none none .none .none 0 0
noncomputable def ob145 (_ : Params) : Obj := { cls := Value.type "code", data := Data.fields #[Value.str (Str.ofString "__add__") 342, Value.str (Str.ofString "GenericPolynomial.__add__") 343, Value.str (Str.ofString "/claim/cut.py") 344, Value.int 82 0, Value.int 2 0, Value.int 0 0, Value.int 0 0, Value.int 3 0, Value.ref 140, Value.bool true, Value.int 181 0, Value.ref 141, Value.none, Value.ref 142, Value.ref 143, Value.ref 144, Value.int 348 0, Value.int 82 0, Value.str (Str.ofString "/claim/cut.py") 349] }
noncomputable def ob146 (_ : Params) : Obj := fnOb (Value.type "function") (mem 5 10) rfl (Str.ofString "GenericPolynomial.__add__") [] .none .none .none (Value.str (Str.ofString "kyber_py.polynomials.polynomials_generic") 203) none (Value.ref 145) .none 0 3
noncomputable def ob147 (_ : Params) : Obj := { cls := Value.type "tuple", data := Data.seq #[] }
noncomputable def ob148 (_ : Params) : Obj := { cls := Value.none, data := Data.fields #[] }
noncomputable def ob149 (_ : Params) : Obj := { cls := Value.type "tuple", data := Data.seq #[Value.str (Str.ofString "self") 354, Value.str (Str.ofString "other") 355] }
noncomputable def ob150 (_ : Params) : Obj := { cls := Value.type "tuple", data := Data.seq #[] }
noncomputable def ob151 (_ : Params) : Obj := fnOb .none (mem 5 11) rfl (Str.ofString "GenericPolynomial.__radd__") [] .none .none .none .none none .none .none 0 0
noncomputable def ob152 (_ : Params) : Obj := { cls := Value.type "code", data := Data.fields #[Value.str (Str.ofString "__radd__") 351, Value.str (Str.ofString "GenericPolynomial.__radd__") 352, Value.str (Str.ofString "/claim/cut.py") 353, Value.int 86 0, Value.int 2 0, Value.int 0 0, Value.int 0 0, Value.int 3 0, Value.ref 147, Value.bool true, Value.int 181 0, Value.ref 148, Value.none, Value.ref 149, Value.ref 150, Value.ref 151, Value.int 356 0, Value.int 86 0, Value.str (Str.ofString "/claim/cut.py") 357] }
noncomputable def ob153 (_ : Params) : Obj := fnOb (Value.type "function") (mem 5 11) rfl (Str.ofString "GenericPolynomial.__radd__") [] .none .none .none (Value.str (Str.ofString "kyber_py.polynomials.polynomials_generic") 203) none (Value.ref 152) .none 0 3
noncomputable def ob154 (_ : Params) : Obj := { cls := Value.type "tuple", data := Data.seq #[] }
noncomputable def ob155 (_ : Params) : Obj := { cls := Value.none, data := Data.fields #[] }
noncomputable def ob156 (_ : Params) : Obj := { cls := Value.type "tuple", data := Data.seq #[Value.str (Str.ofString "self") 362, Value.str (Str.ofString "other") 363] }
noncomputable def ob157 (_ : Params) : Obj := { cls := Value.type "tuple", data := Data.seq #[] }
noncomputable def ob158 (_ : Params) : Obj := fnOb .none (mem 5 12) rfl (Str.ofString "GenericPolynomial.__iadd__") [] .none .none .none .none none .none .none 0 0
noncomputable def ob159 (_ : Params) : Obj := { cls := Value.type "code", data := Data.fields #[Value.str (Str.ofString "__iadd__") 359, Value.str (Str.ofString "GenericPolynomial.__iadd__") 360, Value.str (Str.ofString "/claim/cut.py") 361, Value.int 89 0, Value.int 2 0, Value.int 0 0, Value.int 0 0, Value.int 3 0, Value.ref 154, Value.bool true, Value.int 181 0, Value.ref 155, Value.none, Value.ref 156, Value.ref 157, Value.ref 158, Value.int 364 0, Value.int 89 0, Value.str (Str.ofString "/claim/cut.py") 365] }
noncomputable def ob160 (_ : Params) : Obj := fnOb (Value.type "function") (mem 5 12) rfl (Str.ofString "GenericPolynomial.__iadd__") [] .none .none .none (Value.str (Str.ofString "kyber_py.polynomials.polynomials_generic") 203) none (Value.ref 159) .none 0 3
noncomputable def ob161 (_ : Params) : Obj := { cls := Value.type "tuple", data := Data.seq #[] }
noncomputable def ob162 (_ : Params) : Obj := { cls := Value.none, data := Data.fields #[] }
noncomputable def ob163 (_ : Params) : Obj := fnOb .none (mem 5 13) rfl (Str.ofString "GenericPolynomial._sub_") [] .none .none .none .none none .none .none 0 0
noncomputable def ob164 (_ : Params) : Obj := { cls := Value.type "code", data := Data.fields #[Value.str (Str.ofString "_sub_") 367, Value.str (Str.ofString "GenericPolynomial._sub_") 368, Value.str (Str.ofString "/claim/cut.py") 369, Value.int 93 0, Value.int 2 0, Value.int 0 0, Value.int 0 0, Value.int 3 0, Value.ref 161, Value.bool true, Value.int 181 0, Value.ref 162, Value.none, Value.none, Value.none, Value.ref 163, Value.int 370 0, Value.int 93 0, Value.str (Str.ofString "/claim/cut.py") 371] }
noncomputable def ob165 (_ : Params) : Obj := fnOb (Value.type "function") (mem 5 13) rfl (Str.ofString "GenericPolynomial._sub_") [] .none .none .none (Value.str (Str.ofString "kyber_py.polynomials.polynomials_generic") 203) none (Value.ref 164) .none 0 3
noncomputable def ob166 (_ : Params) : Obj := { cls := Value.type "tuple", data := Data.seq #[] }
noncomputable def ob167 (_ : Params) : Obj := { cls := Value.none, data := Data.fields #[] }
noncomputable def ob168 (_ : Params) : Obj := { cls := Value.type "tuple", data := Data.seq #[Value.str (Str.ofString "self") 376, Value.str (Str.ofString "other") 377, Value.str (Str.ofString "new_coeffs") 378] }
noncomputable def ob169 (_ : Params) : Obj := { cls := Value.type "tuple", data := Data.seq #[] }
noncomputable def ob170 (_ : Params) : Obj := fnOb .none (mem 5 14) rfl (Str.ofString "GenericPolynomial.__sub__") [] .none .none .none .none none .none .none 0 0
noncomputable def ob171 (_ : Params) : Obj := { cls := Value.type "code", data := Data.fields #[Value.str (Str.ofString "__sub__") 373, Value.str (Str.ofString "GenericPolynomial.__sub__") 374, Value.str (Str.ofString "/claim/cut.py") 375, Value.int 103 0, Value.int 2 0, Value.int 0 0, Value.int 0 0, Value.int 3 0, Value.ref 166, Value.bool true, Value.int 181 0, Value.ref 167, Value.none, Value.ref 168, Value.ref 169, Value.ref 170, Value.int 379 0, Value.int 103 0, Value.str (Str.ofString "/claim/cut.py") 380] }
noncomputable def ob172 (_ : Params) : Obj := fnOb (Value.type "function") (mem 5 14) rfl (Str.ofString "GenericPolynomial.__sub__") [] .none .none .none (Value.str (Str.ofString "kyber_py.polynomials.polynomials_generic") 203) none (Value.ref 171) .none 0 3
noncomputable def ob173 (_ : Params) : Obj := { cls := Value.type "tuple", data := Data.seq #[] }
noncomputable def ob174 (_ : Params) : Obj := { cls := Value.none, data := Data.fields #[] }
noncomputable def ob175 (_ : Params) : Obj := { cls := Value.type "tuple", data := Data.seq #[Value.str (Str.ofString "self") 385, Value.str (Str.ofString "other") 386] }
noncomputable def ob176 (_ : Params) : Obj := { cls := Value.type "tuple", data := Data.seq #[] }
noncomputable def ob177 (_ : Params) : Obj := fnOb .none (mem 5 15) rfl (Str.ofString "GenericPolynomial.__rsub__") [] .none .none .none .none none .none .none 0 0
noncomputable def ob178 (_ : Params) : Obj := { cls := Value.type "code", data := Data.fields #[Value.str (Str.ofString "__rsub__") 382, Value.str (Str.ofString "GenericPolynomial.__rsub__") 383, Value.str (Str.ofString "/claim/cut.py") 384, Value.int 107 0, Value.int 2 0, Value.int 0 0, Value.int 0 0, Value.int 3 0, Value.ref 173, Value.bool true, Value.int 181 0, Value.ref 174, Value.none, Value.ref 175, Value.ref 176, Value.ref 177, Value.int 387 0, Value.int 107 0, Value.str (Str.ofString "/claim/cut.py") 388] }
noncomputable def ob179 (_ : Params) : Obj := fnOb (Value.type "function") (mem 5 15) rfl (Str.ofString "GenericPolynomial.__rsub__") [] .none .none .none (Value.str (Str.ofString "kyber_py.polynomials.polynomials_generic") 203) none (Value.ref 178) .none 0 3
noncomputable def ob180 (_ : Params) : Obj := { cls := Value.type "tuple", data := Data.seq #[] }
noncomputable def ob181 (_ : Params) : Obj := { cls := Value.none, data := Data.fields #[] }
noncomputable def ob182 (_ : Params) : Obj := { cls := Value.type "tuple", data := Data.seq #[Value.str (Str.ofString "self") 393, Value.str (Str.ofString "other") 394] }
noncomputable def ob183 (_ : Params) : Obj := { cls := Value.type "tuple", data := Data.seq #[] }
noncomputable def ob184 (_ : Params) : Obj := fnOb .none (mem 5 16) rfl (Str.ofString "GenericPolynomial.__isub__") [] .none .none .none .none none .none .none 0 0
noncomputable def ob185 (_ : Params) : Obj := { cls := Value.type "code", data := Data.fields #[Value.str (Str.ofString "__isub__") 390, Value.str (Str.ofString "GenericPolynomial.__isub__") 391, Value.str (Str.ofString "/claim/cut.py") 392, Value.int 110 0, Value.int 2 0, Value.int 0 0, Value.int 0 0, Value.int 3 0, Value.ref 180, Value.bool true, Value.int 181 0, Value.ref 181, Value.none, Value.ref 182, Value.ref 183, Value.ref 184, Value.int 395 0, Value.int 110 0, Value.str (Str.ofString "/claim/cut.py") 396] }
noncomputable def ob186 (_ : Params) : Obj := fnOb (Value.type "function") (mem 5 16) rfl (Str.ofString "GenericPolynomial.__isub__") [] .none .none .none (Value.str (Str.ofString "kyber_py.polynomials.polynomials_generic") 203) none (Value.ref 185) .none 0 3
noncomputable def ob187 (_ : Params) : Obj := { cls := Value.type "tuple", data := Data.seq #[] }
noncomputable def ob188 (_ : Params) : Obj := { cls := Value.none, data := Data.fields #[] }
noncomputable def ob189 (_ : Params) : Obj := fnOb .none (mem 5 17) rfl (Str.ofString "GenericPolynomial.__mul__") [] .none .none .none .none none .none .none 0 0
noncomputable def ob190 (_ : Params) : Obj := { cls := Value.type "code", data := Data.fields #[Value.str (Str.ofString "__mul__") 398, Value.str (Str.ofString "GenericPolynomial.__mul__") 399, Value.str (Str.ofString "/claim/cut.py") 400, Value.int 114 0, Value.int 2 0, Value.int 0 0, Value.int 0 0, Value.int 3 0, Value.ref 187, Value.bool true, Value.int 181 0, Value.ref 188, Value.none, Value.none, Value.none, Value.ref 189, Value.int 401 0, Value.int 114 0, Value.str (Str.ofString "/claim/cut.py") 402] }
noncomputable def ob191 (_ : Params) : Obj := fnOb (Value.type "function") (mem 5 17) rfl (Str.ofString "GenericPolynomial.__mul__") [] .none .none .none (Value.str (Str.ofString "kyber_py.polynomials.polynomials_generic") 203) none (Value.ref 190) .none 0 3
noncomputable def ob192 (_ : Params) : Obj := { cls := Value.type "tuple", data := Data.seq #[] }
noncomputable def ob193 (_ : Params) : Obj := { cls := Value.none, data := Data.fields #[] }
noncomputable def ob194 (_ : Params) : Obj := { cls := Value.type "tuple", data := Data.seq #[Value.str (Str.ofString "self") 407, Value.str (Str.ofString "other") 408] }
noncomputable def ob195 (_ : Params) : Obj := { cls := Value.type "tuple", data := Data.seq #[] }
noncomputable def ob196 (_ : Params) : Obj := fnOb .none (mem 5 18) rfl (Str.ofString "GenericPolynomial.__rmul__") [] .none .none .none .none none .none .none 0 0
noncomputable def ob197 (_ : Params) : Obj := { cls := Value.type "code", data := Data.fields #[Value.str (Str.ofString "__rmul__") 404, Value.str (Str.ofString "GenericPolynomial.__rmul__") 405, Value.str (Str.ofString "/claim/cut.py") 406, Value.int 123 0, Value.int 2 0, Value.int 0 0, Value.int 0 0, Value.int 3 0, Value.ref 192, Value.bool true, Value.int 181 0, Value.ref 193, Value.none, Value.ref 194, Value.ref 195, Value.ref 196, Value.int 409 0, Value.int 123 0, Value.str (Str.ofString "/claim/cut.py") 410] }
noncomputable def ob198 (_ : Params) : Obj := fnOb (Value.type "function") (mem 5 18) rfl (Str.ofString "GenericPolynomial.__rmul__") [] .none .none .none (Value.str (Str.ofString "kyber_py.polynomials.polynomials_generic") 203) none (Value.ref 197) .none 0 3
noncomputable def ob199 (_ : Params) : Obj := { cls := Value.type "tuple", data := Data.seq #[] }
noncomputable def ob200 (_ : Params) : Obj := { cls := Value.none, data := Data.fields #[] }
noncomputable def ob201 (_ : Params) : Obj := { cls := Value.type "tuple", data := Data.seq #[Value.str (Str.ofString "self") 415, Value.str (Str.ofString "other") 416] }
noncomputable def ob202 (_ : Params) : Obj := { cls := Value.type "tuple", data := Data.seq #[] }
noncomputable def ob203 (_ : Params) : Obj := fnOb .none (mem 5 19) rfl (Str.ofString "GenericPolynomial.__imul__") [] .none .none .none .none none .none .none 0 0
noncomputable def ob204 (_ : Params) : Obj := { cls := Value.type "code", data := Data.fields #[Value.str (Str.ofString "__imul__") 412, Value.str (Str.ofString "GenericPolynomial.__imul__") 413, Value.str (Str.ofString "/claim/cut.py") 414, Value.int 126 0, Value.int 2 0, Value.int 0 0, Value.int 0 0, Value.int 3 0, Value.ref 199, Value.bool true, Value.int 181 0, Value.ref 200, Value.none, Value.ref 201, Value.ref 202, Value.ref 203, Value.int 417 0, Value.int 126 0, Value.str (Str.ofString "/claim/cut.py") 418] }
noncomputable def ob205 (_ : Params) : Obj := fnOb (Value.type "function") (mem 5 19) rfl (Str.ofString "GenericPolynomial.__imul__") [] .none .none .none (Value.str (Str.ofString "kyber_py.polynomials.polynomials_generic") 203) none (Value.ref 204) .none 0 3
noncomputable def ob206 (_ : Params) : Obj := { cls := Value.type "tuple", data := Data.seq #[] }
noncomputable def ob207 (_ : Params) : Obj := { cls := Value.none, data := Data.fields #[] }
noncomputable def ob208 (_ : Params) : Obj := { cls := Value.type "tuple", data := Data.seq #[Value.str (Str.ofString "self") 423, Value.str (Str.ofString "n") 424, Value.str (Str.ofString "f") 425, Value.str (Str.ofString "g") 426] }
noncomputable def ob209 (_ : Params) : Obj := { cls := Value.type "tuple", data := Data.seq #[] }
noncomputable def ob210 (_ : Params) : Obj := fnOb .none (mem 5 20) rfl (Str.ofString "GenericPolynomial.__pow__") [] .none .none .none .none none .none .none 0 0
noncomputable def ob211 (_ : Params) : Obj := { cls := Value.type "code", data := Data.fields #[Value.str (Str.ofString "__pow__") 420, Value.str (Str.ofString "GenericPolynomial.__pow__") 421, Value.str (Str.ofString "/claim/cut.py") 422, Value.int 130 0, Value.int 2 0, Value.int 0 0, Value.int 0 0, Value.int 3 0, Value.ref 206, Value.bool true, Value.int 181 0, Value.ref 207, Value.none, Value.ref 208, Value.ref 209, Value.ref 210, Value.int 427 0, Value.int 130 0, Value.str (Str.ofString "/claim/cut.py") 428] }
noncomputable def ob212 (_ : Params) : Obj := fnOb (Value.type "function") (mem 5 20) rfl (Str.ofString "GenericPolynomial.__pow__") [] .none .none .none (Value.str (Str.ofString "kyber_py.polynomials.polynomials_generic") 203) none (Value.ref 211) .none 0 3
noncomputable def ob213 (_ : Params) : Obj := { cls := Value.type "tuple", data := Data.seq #[] }
noncomputable def ob214 (_ : Params) : Obj := { cls := Value.none, data := Data.fields #[] }
noncomputable def ob215 (_ : Params) : Obj := { cls := Value.type "tuple", data := Data.seq #[Value.str (Str.ofString "self") 433, Value.str (Str.ofString "other") 434] }
noncomputable def ob216 (_ : Params) : Obj := { cls := Value.type "tuple", data := Data.seq #[] }
noncomputable def ob217 (_ : Params) : Obj := fnOb .none (mem 5 21) rfl (Str.ofString "GenericPolynomial.__eq__") [] .none .none .none .none none .none .none 0 0
noncomputable def ob218 (_ : Params) : Obj := { cls := Value.type "code", data := Data.fields #[Value.str (Str.ofString "__eq__") 430, Value.str (Str.ofString "GenericPolynomial.__eq__") 431, Value.str (Str.ofString "/claim/cut.py") 432, Value.int 144 0, Value.int 2 0, Value.int 0 0, Value.int 0 0, Value.int 3 0, Value.ref 213, Value.bool true, Value.int 181 0, Value.ref 214, Value.none, Value.ref 215, Value.ref 216, Value.ref 217, Value.int 435 0, Value.int 144 0, Value.str (Str.ofString "/claim/cut.py") 436] }
noncomputable def ob219 (_ : Params) : Obj := fnOb (Value.type "function") (mem 5 21) rfl (Str.ofString "GenericPolynomial.__eq__") [] .none .none .none (Value.str (Str.ofString "kyber_py.polynomials.polynomials_generic") 203) none (Value.ref 218) .none 0 3
noncomputable def ob220 (_ : Params) : Obj := { cls := Value.type "tuple", data := Data.seq #[] }
noncomputable def ob221 (_ : Params) : Obj := { cls := Value.none, data := Data.fields #[] }
noncomputable def ob222 (_ : Params) : Obj := { cls := Value.type "tuple", data := Data.seq #[Value.str (Str.ofString "self") 441, Value.str (Str.ofString "idx") 442] }
noncomputable def ob223 (_ : Params) : Obj := { cls := Value.type "tuple", data := Data.seq #[] }
noncomputable def ob224 (_ : Params) : Obj := fnOb .none (mem 5 22) rfl (Str.ofString "GenericPolynomial.__getitem__") [] .none .none .none .none none .none .none 0 0
noncomputable def ob225 (_ : Params) : Obj := { cls := Value.type "code", data := Data.fields #[Value.str (Str.ofString "__getitem__") 438, Value.str (Str.ofString "GenericPolynomial.__getitem__") 439, Value.str (Str.ofString "/claim/cut.py") 440, Value.int 152 0, Value.int 2 0, Value.int 0 0, Value.int 0 0, Value.int 3 0, Value.ref 220, Value.bool true, Value.int 181 0, Value.ref 221, Value.none, Value.ref 222, Value.ref 223, Value.ref 224, Value.int 443 0, Value.int 152 0, Value.str (Str.ofString "/claim/cut.py") 444] }
noncomputable def ob226 (_ : Params) : Obj := fnOb (Value.type "function") (mem 5 22) rfl (Str.ofString "GenericPolynomial.__getitem__") [] .none .none .none (Value.str (Str.ofString "kyber_py.polynomials.polynomials_generic") 203) none (Value.ref 225) .none 0 3
noncomputable def ob227 (_ : Params) : Obj := { cls := Value.type "tuple", data := Data.seq #[Value.str (Str.ofString "coeffs") 446, Value.str (Str.ofString "parent") 447] }
noncomputable def ob228 (P : Params) : Obj := { cls := Value.type "dict", data := Data.dict #[{ hash := PyData.keyHash P (Str.ofString "__module__"), key := Value.str (Str.ofString "__module__") 265, val := Value.str (Str.ofString "kyber_py.polynomials.polynomials_generic") 203 }, { hash := PyData.keyHash P (Str.ofString "__firstlineno__"), key := Value.str (Str.ofString "__firstlineno__") 269, val := Value.int 26 268 }, { hash := PyData.keyHash P (Str.ofString "__init__"), key := Value.str (Str.ofString "__init__") 278, val := Value.ref 84 }, { hash := PyData.keyHash P (Str.ofString "is_zero"), key := Value.str (Str.ofString "is_zero") 285, val := Value.ref 91 }, { hash := PyData.keyHash P (Str.ofString "is_constant"), key := Value.str (Str.ofString "is_constant") 292, val := Value.ref 98 }, { hash := PyData.keyHash P (Str.ofString "_parse_coefficients"), key := Value.str (Str.ofString "_parse_coefficients") 298, val := Value.ref 103 }, { hash := PyData.keyHash P (Str.ofString "reduce_coefficients"), key := Value.str (Str.ofString "reduce_coefficients") 305, val := Value.ref 110 }, { hash := PyData.keyHash P (Str.ofString "_add_mod_q"), key := Value.str (Str.ofString "_add_mod_q") 314, val := Value.ref 117 }, { hash := PyData.keyHash P (Str.ofString "_sub_mod_q"), key := Value.str (Str.ofString "_sub_mod_q") 323, val := Value.ref 124 }, { hash := PyData.keyHash P (Str.ofString "_schoolbook_multiplication"), key := Value.str (Str.ofString "_schoolbook_multiplication") 329, val := Value.ref 129 }, { hash := PyData.keyHash P (Str.ofString "__neg__"), key := Value.str (Str.ofString "__neg__") 335, val := Value.ref 134 }, { hash := PyData.keyHash P (Str.ofString "_add_"), key := Value.str (Str.ofString "_add_") 341, val := Value.ref 139 }, { hash := PyData.keyHash P (Str.ofString "__add__"), key := Value.str (Str.ofString "__add__") 350, val := Value.ref 146 }, { hash := PyData.keyHash P (Str.ofString "__radd__"), key := Value.str (Str.ofString "__radd__") 358, val := Value.ref 153 }, { hash := PyData.keyHash P (Str.ofString "__iadd__"), key := Value.str (Str.ofString "__iadd__") 366, val := Value.ref 160 }, { hash := PyData.keyHash P (Str.ofString "_sub_"), key := Value.str (Str.ofString "_sub_") 372, val := Value.ref 165 }, { hash := PyData.keyHash P (Str.ofString "__sub__"), key := Value.str (Str.ofString "__sub__") 381, val := Value.ref 172 }, { hash := PyData.keyHash P (Str.ofString "__rsub__"), key := Value.str (Str.ofString "__rsub__") 389, val := Value.ref 179 }, { hash := PyData.keyHash P (Str.ofString "__isub__"), key := Value.str (Str.ofString "__isub__") 397, val := Value.ref 186 }, { hash := PyData.keyHash P (Str.ofString "__mul__"), key := Value.str (Str.ofString "__mul__") 403, val := Value.ref 191 }, { hash := PyData.keyHash P (Str.ofString "__rmul__"), key := Value.str (Str.ofString "__rmul__") 411, val := Value.ref 198 }, { hash := PyData.keyHash P (Str.ofString "__imul__"), key := Value.str (Str.ofString "__imul__") 419, val := Value.ref 205 }, { hash := PyData.keyHash P (Str.ofString "__pow__"), key := Value.str (Str.ofString "__pow__") 429, val := Value.ref 212 }, { hash := PyData.keyHash P (Str.ofString "__eq__"), key := Value.str (Str.ofString "__eq__") 437, val := Value.ref 219 }, { hash := PyData.keyHash P (Str.ofString "__getitem__"), key := Value.str (Str.ofString "__getitem__") 445, val := Value.ref 226 }, { hash := PyData.keyHash P (Str.ofString "__static_attributes__"), key := Value.str (Str.ofString "__static_attributes__") 448, val := Value.ref 227 }, { hash := PyData.keyHash P (Str.ofString "__dict__"), key := Value.str (Str.ofString "__dict__") 450, val := Value.ref 230 }, { hash := PyData.keyHash P (Str.ofString "__weakref__"), key := Value.str (Str.ofString "__weakref__") 452, val := Value.ref 231 }, { hash := PyData.keyHash P (Str.ofString "__doc__"), key := Value.str (Str.ofString "__doc__") 453, val := Value.none }, { hash := PyData.keyHash P (Str.ofString "__hash__"), key := Value.str (Str.ofString "__hash__") 454, val := Value.none }] 5 }
noncomputable def ob229 (_ : Params) : Obj := { cls := Value.type "type", data := Data.cls { name := Str.ofString "GenericPolynomial", bases := [Value.type "object"], mro := [Value.ref 229, Value.type "object"], ns := 228, qualname := Str.ofString "GenericPolynomial", subclasses := [Value.ref 355] }, slots := #[none, none, some (Value.str (Str.ofString "GenericPolynomial") 258), some (Value.str (Str.ofString "GenericPolynomial") 266), some (Value.builtin "object.__new__"), some (Value.bool true)] }
noncomputable def ob230 (_ : Params) : Obj := { cls := Value.type "getset_descriptor", data := Data.fields #[Value.str (Str.ofString "__dict__") 449, Value.ref 229, Value.builtin "function.__dict__", Value.builtin "function.__dict__#set"] }
noncomputable def ob231 (_ : Params) : Obj := { cls := Value.type "getset_descriptor", data := Data.fields #[Value.str (Str.ofString "__weakref__") 451, Value.ref 229, Value.builtin "ExceptionGroup.__weakref__", Value.none] }
noncomputable def ob232 (_ : Params) : Obj := { cls := Value.type "super", data := Data.fields #[Value.ref 229, Value.ref 229, Value.ref 229] }
noncomputable def ob233 (_ : Params) : Obj := { cls := Value.type "builtin_function_or_method", data := Data.fields #[Value.builtin "object.__init_subclass__", Value.ref 229] }
noncomputable def ob234 (_ : Params) : Obj := { cls := Value.type "tuple", data := Data.seq #[Value.ref 66] }
noncomputable def ob235 (_ : Params) : Obj := { cls := Value.type "builtin_function_or_method", data := Data.fields #[Value.builtin "type.__prepare__", Value.type "type"] }
noncomputable def ob236 (P : Params) : Obj := { cls := Value.type "dict", data := Data.dict #[{ hash := PyData.keyHash P (Str.ofString "__module__"), key := Value.str (Str.ofString "__module__") 466, val := Value.str (Str.ofString "kyber_py.polynomials.polynomials") 457 }, { hash := PyData.keyHash P (Str.ofString "__qualname__"), key := Value.str (Str.ofString "__qualname__") 468, val := Value.str (Str.ofString "PolynomialRing") 467 }, { hash := PyData.keyHash P (Str.ofString "__firstlineno__"), key := Value.str (Str.ofString "__firstlineno__") 470, val := Value.int 155 469 }, { hash := PyData.keyHash P (Str.ofString "__init__"), key := Value.str (Str.ofString "__init__") 476, val := Value.ref 245 }, { hash := PyData.keyHash P (Str.ofString "_br"), key := Value.str (Str.ofString "_br") 497, val := Value.ref 254 }, { hash := PyData.keyHash P (Str.ofString "ntt_sample"), key := Value.str (Str.ofString "ntt_sample") 505, val := Value.ref 262 }, { hash := PyData.keyHash P (Str.ofString "cbd"), key := Value.str (Str.ofString "cbd") 511, val := Value.ref 268 }, { hash := PyData.keyHash P (Str.ofString "decode"), key := Value.str (Str.ofString "decode") 521, val := Value.ref 276 }, { hash := PyData.keyHash P (Str.ofString "__call__"), key := Value.str (Str.ofString "__call__") 530, val := Value.ref 284 }, { hash := PyData.keyHash P (Str.ofString "__static_attributes__"), key := Value.str (Str.ofString "__static_attributes__") 535, val := Value.ref 285 }] 10 }
noncomputable def ob237 (_ : Params) : Obj := { cls := Value.type "tuple", data := Data.seq #[] }
noncomputable def ob238 (_ : Params) : Obj := { cls := Value.none, data := Data.fields #[Value.int 157 0, Value.int 4 0, Value.ref 244, Value.int 165 0, Value.int 4 0, Value.ref 251, Value.int 169 0, Value.int 4 0, Value.ref 261, Value.int 172 0, Value.int 4 0, Value.ref 267, Value.int 186 0, Value.int 4 0, Value.ref 275, Value.int 189 0, Value.int 4 0, Value.ref 283] }
noncomputable def ob239 (_ : Params) : Obj := { cls := Value.type "code", data := Data.fields #[Value.str (Str.ofString "PolynomialRing") 461, Value.str (Str.ofString "PolynomialRing") 462, Value.str (Str.ofString "/claim/cut.py") 463, Value.int 155 0, Value.int 0 0, Value.int 0 0, Value.int 0 0, Value.int 0 0, Value.ref 237, Value.bool false, Value.int 181 0, Value.ref 238, Value.none, Value.none, Value.none, Value.none, Value.int 464 0, Value.int 155 0, Value.str (Str.ofString "/claim/cut.py") 465] }
noncomputable def ob240 (_ : Params) : Obj := { cls := Value.type "frame", slots := #[some (Value.ref 239), some (Value.ref 3), some (Value.ref 236), none, some (Value.str (Str.ofString "kyber_py.polynomials.polynomials") 457), none, some (Value.ref 0)] }
noncomputable def ob241 (_ : Params) : Obj := { cls := Value.type "tuple", data := Data.seq #[] }
noncomputable def ob242 (_ : Params) : Obj := { cls := Value.none, data := Data.fields #[] }
noncomputable def ob243 (_ : Params) : Obj := fnOb .none (mem 7 0) rfl (Str.ofString "PolynomialRing.__init__") [] .none .none .none .none none .none .none 0 0
noncomputable def ob244 (_ : Params) : Obj := { cls := Value.type "code", data := Data.fields #[Value.str (Str.ofString "__init__") 471, Value.str (Str.ofString "PolynomialRing.__init__") 472, Value.str (Str.ofString "/claim/cut.py") 473, Value.int 157 0, Value.int 1 0, Value.int 0 0, Value.int 0 0, Value.int 3 0, Value.ref 241, Value.bool true, Value.int 181 0, Value.ref 242, Value.none, Value.none, Value.none, Value.ref 243, Value.int 474 0, Value.int 157 0, Value.str (Str.ofString "/claim/cut.py") 475] }
noncomputable def ob245 (_ : Params) : Obj := fnOb (Value.type "function") (mem 7 0) rfl (Str.ofString "PolynomialRing.__init__") [] .none .none .none (Value.str (Str.ofString "kyber_py.polynomials.polynomials") 457) none (Value.ref 244) .none 0 3
noncomputable def ob246 (_ : Params) : Obj := { cls := Value.type "tuple", data := Data.seq #[] }
noncomputable def ob247 (_ : Params) : Obj := { cls := Value.none, data := Data.fields #[] }
noncomputable def ob248 (_ : Params) : Obj := { cls := Value.type "tuple", data := Data.seq #[Value.str (Str.ofString "i") 480, Value.str (Str.ofString "k") 481, Value.str (Str.ofString "bin_i") 482] }
noncomputable def ob249 (_ : Params) : Obj := { cls := Value.type "tuple", data := Data.seq #[] }
noncomputable def ob250 (_ : Params) : Obj := fnOb .none (mem 7 1) rfl (Str.ofString "PolynomialRing._br") [] .none .none .none .none none .none .none 0 0
noncomputable def ob251 (_ : Params) : Obj := { cls := Value.type "code", data := Data.fields #[Value.str (Str.ofString "_br") 477, Value.str (Str.ofString "PolynomialRing._br") 478, Value.str (Str.ofString "/claim/cut.py") 479, Value.int 164 0, Value.int 2 0, Value.int 0 0, Value.int 0 0, Value.int 3 0, Value.ref 246, Value.bool true, Value.int 181 0, Value.ref 247, Value.none, Value.ref 248, Value.ref 249, Value.ref 250, Value.int 483 0, Value.int 164 0, Value.str (Str.ofString "/claim/cut.py") 484] }
noncomputable def ob252 (_ : Params) : Obj := fnOb (Value.type "function") (mem 7 1) rfl (Str.ofString "PolynomialRing._br") [] .none .none .none (Value.str (Str.ofString "kyber_py.polynomials.polynomials") 457) (some 255) (Value.ref 251) .none 0 3
noncomputable def ob253 (P : Params) : Obj := { cls := Value.type "dict", data := Data.dict #[{ hash := PyData.keyHash P (Str.ofString "__module__"), key := Value.str (Str.ofString "__module__") 486, val := Value.str (Str.ofString "kyber_py.polynomials.polynomials") 457 }, { hash := PyData.keyHash P (Str.ofString "__name__"), key := Value.str (Str.ofString "__name__") 489, val := Value.str (Str.ofString "_br") 488 }, { hash := PyData.keyHash P (Str.ofString "__qualname__"), key := Value.str (Str.ofString "__qualname__") 492, val := Value.str (Str.ofString "PolynomialRing._br") 491 }, { hash := PyData.keyHash P (Str.ofString "__doc__"), key := Value.str (Str.ofString "__doc__") 494, val := Value.none }, { hash := PyData.keyHash P (Str.ofString "__annotations__"), key := Value.str (Str.ofString "__annotations__") 496, val := Value.ref 255 }] 5 }
noncomputable def ob254 (_ : Params) : Obj := { cls := Value.type "staticmethod", dict := some 253, data := Data.fields #[Value.ref 252, Value.bool false] }
noncomputable def ob255 (_ : Params) : Obj := { cls := Value.type "dict", data := Data.dict #[] }
noncomputable def ob256 (_ : Params) : Obj := { cls := Value.type "tuple", data := Data.seq #[] }
noncomputable def ob257 (_ : Params) : Obj := { cls := Value.none, data := Data.fields #[] }
noncomputable def ob258 (_ : Params) : Obj := { cls := Value.type "tuple", data := Data.seq #[Value.str (Str.ofString "self") 501, Value.str (Str.ofString "input_bytes") 502] }
noncomputable def ob259 (_ : Params) : Obj := { cls := Value.type "tuple", data := Data.seq #[] }
noncomputable def ob260 (_ : Params) : Obj := fnOb .none (mem 7 2) rfl (Str.ofString "PolynomialRing.ntt_sample") [] .none .none .none .none none .none .none 0 0
noncomputable def ob261 (_ : Params) : Obj := { cls := Value.type "code", data := Data.fields #[Value.str (Str.ofString "ntt_sample") 498, Value.str (Str.ofString "PolynomialRing.ntt_sample") 499, Value.str (Str.ofString "/claim/cut.py") 500, Value.int 169 0, Value.int 2 0, Value.int 0 0, Value.int 0 0, Value.int 3 0, Value.ref 256, Value.bool true, Value.int 181 0, Value.ref 257, Value.none, Value.ref 258, Value.ref 259, Value.ref 260, Value.int 503 0, Value.int 169 0, Value.str (Str.ofString "/claim/cut.py") 504] }
noncomputable def ob262 (_ : Params) : Obj := fnOb (Value.type "function") (mem 7 2) rfl (Str.ofString "PolynomialRing.ntt_sample") [] .none .none .none (Value.str (Str.ofString "kyber_py.polynomials.polynomials") 457) none (Value.ref 261) .none 0 3
noncomputable def ob263 (_ : Params) : Obj := { cls := Value.type "tuple", data := Data.seq #[Value.bool false] }
noncomputable def ob264 (_ : Params) : Obj := { cls := Value.type "tuple", data := Data.seq #[] }
noncomputable def ob265 (_ : Params) : Obj := { cls := Value.none, data := Data.fields #[] }
noncomputable def ob266 (_ : Params) : Obj := fnOb .none (mem 7 3) rfl (Str.ofString "PolynomialRing.cbd") [] .none .none .none .none none .none .none 0 0
noncomputable def ob267 (_ : Params) : Obj := { cls := Value.type "code", data := Data.fields #[Value.str (Str.ofString "cbd") 506, Value.str (Str.ofString "PolynomialRing.cbd") 507, Value.str (Str.ofString "/claim/cut.py") 508, Value.int 172 0, Value.int 4 0, Value.int 0 0, Value.int 0 0, Value.int 3 0, Value.ref 264, Value.bool true, Value.int 181 0, Value.ref 265, Value.none, Value.none, Value.none, Value.ref 266, Value.int 509 0, Value.int 172 0, Value.str (Str.ofString "/claim/cut.py") 510] }
noncomputable def ob268 (_ : Params) : Obj := fnOb (Value.type "function") (mem 7 3) rfl (Str.ofString "PolynomialRing.cbd") [] (Value.ref 263) .none .none (Value.str (Str.ofString "kyber_py.polynomials.polynomials") 457) none (Value.ref 267) .none 0 3
noncomputable def ob269 (_ : Params) : Obj := { cls := Value.type "tuple", data := Data.seq #[Value.bool false] }
noncomputable def ob270 (_ : Params) : Obj := { cls := Value.type "tuple", data := Data.seq #[] }
noncomputable def ob271 (_ : Params) : Obj := { cls := Value.none, data := Data.fields #[] }
noncomputable def ob272 (_ : Params) : Obj := { cls := Value.type "tuple", data := Data.seq #[Value.str (Str.ofString "self") 515, Value.str (Str.ofString "input_bytes") 516, Value.str (Str.ofString "d") 517, Value.str (Str.ofString "is_ntt") 518] }
noncomputable def ob273 (_ : Params) : Obj := { cls := Value.type "tuple", data := Data.seq #[] }
noncomputable def ob274 (_ : Params) : Obj := fnOb .none (mem 7 4) rfl (Str.ofString "PolynomialRing.decode") [] .none .none .none .none none .none .none 0 0
noncomputable def ob275 (_ : Params) : Obj := { cls := Value.type "code", data := Data.fields #[Value.str (Str.ofString "decode") 512, Value.str (Str.ofString "PolynomialRing.decode") 513, Value.str (Str.ofString "/claim/cut.py") 514, Value.int 186 0, Value.int 4 0, Value.int 0 0, Value.int 0 0, Value.int 3 0, Value.ref 270, Value.bool true, Value.int 181 0, Value.ref 271, Value.none, Value.ref 272, Value.ref 273, Value.ref 274, Value.int 519 0, Value.int 186 0, Value.str (Str.ofString "/claim/cut.py") 520] }
noncomputable def ob276 (_ : Params) : Obj := fnOb (Value.type "function") (mem 7 4) rfl (Str.ofString "PolynomialRing.decode") [] (Value.ref 269) .none .none (Value.str (Str.ofString "kyber_py.polynomials.polynomials") 457) none (Value.ref 275) .none 0 3
noncomputable def ob277 (_ : Params) : Obj := { cls := Value.type "tuple", data := Data.seq #[Value.bool false] }
noncomputable def ob278 (_ : Params) : Obj := { cls := Value.type "tuple", data := Data.seq #[] }
noncomputable def ob279 (_ : Params) : Obj := { cls := Value.none, data := Data.fields #[] }
noncomputable def ob280 (_ : Params) : Obj := { cls := Value.type "tuple", data := Data.seq #[Value.str (Str.ofString "self") 525, Value.str (Str.ofString "coefficients") 526, Value.str (Str.ofString "is_ntt") 527] }
noncomputable def ob281 (_ : Params) : Obj := { cls := Value.type "tuple", data := Data.seq #[] }
noncomputable def ob282 (_ : Params) : Obj := fnOb .none (mem 7 5) rfl (Str.ofString "PolynomialRing.__call__") [] .none .none .none .none none .none .none 0 0
noncomputable def ob283 (_ : Params) : Obj := { cls := Value.type "code", data := Data.fields #[Value.str (Str.ofString "__call__") 522, Value.str (Str.ofString "PolynomialRing.__call__") 523, Value.str (Str.ofString "/claim/cut.py") 524, Value.int 189 0, Value.int 3 0, Value.int 0 0, Value.int 0 0, Value.int 3 0, Value.ref 278, Value.bool true, Value.int 181 0, Value.ref 279, Value.none, Value.ref 280, Value.ref 281, Value.ref 282, Value.int 528 0, Value.int 189 0, Value.str (Str.ofString "/claim/cut.py") 529] }
noncomputable def ob284 (_ : Params) : Obj := fnOb (Value.type "function") (mem 7 5) rfl (Str.ofString "PolynomialRing.__call__") [] (Value.ref 277) .none .none (Value.str (Str.ofString "kyber_py.polynomials.polynomials") 457) none (Value.ref 283) .none 0 3
noncomputable def ob285 (_ : Params) : Obj := { cls := Value.type "tuple", data := Data.seq #[Value.str (Str.ofString "n") 531, Value.str (Str.ofString "ntt_f") 532, Value.str (Str.ofString "ntt_zetas") 533, Value.str (Str.ofString "q") 534] }
noncomputable def ob286 (P : Params) : Obj := { cls := Value.type "dict", data := Data.dict #[{ hash := PyData.keyHash P (Str.ofString "__module__"), key := Value.str (Str.ofString "__module__") 466, val := Value.str (Str.ofString "kyber_py.polynomials.polynomials") 457 }, { hash := PyData.keyHash P (Str.ofString "__firstlineno__"), key := Value.str (Str.ofString "__firstlineno__") 470, val := Value.int 155 469 }, { hash := PyData.keyHash P (Str.ofString "__init__"), key := Value.str (Str.ofString "__init__") 476, val := Value.ref 245 }, { hash := PyData.keyHash P (Str.ofString "_br"), key := Value.str (Str.ofString "_br") 497, val := Value.ref 254 }, { hash := PyData.keyHash P (Str.ofString "ntt_sample"), key := Value.str (Str.ofString "ntt_sample") 505, val := Value.ref 262 }, { hash := PyData.keyHash P (Str.ofString "cbd"), key := Value.str (Str.ofString "cbd") 511, val := Value.ref 268 }, { hash := PyData.keyHash P (Str.ofString "decode"), key := Value.str (Str.ofString "decode") 521, val := Value.ref 276 }, { hash := PyData.keyHash P (Str.ofString "__call__"), key := Value.str (Str.ofString "__call__") 530, val := Value.ref 284 }, { hash := PyData.keyHash P (Str.ofString "__static_attributes__"), key := Value.str (Str.ofString "__static_attributes__") 535, val := Value.ref 285 }, { hash := PyData.keyHash P (Str.ofString "__doc__"), key := Value.str (Str.ofString "__doc__") 536, val := Value.none }] 2 }
noncomputable def ob287 (_ : Params) : Obj := { cls := Value.type "type", data := Data.cls { name := Str.ofString "PolynomialRing", bases := [Value.ref 66], mro := [Value.ref 287, Value.ref 66, Value.type "object"], ns := 286, qualname := Str.ofString "PolynomialRing" }, slots := #[some (Value.ref 234), none, some (Value.str (Str.ofString "PolynomialRing") 459), some (Value.str (Str.ofString "PolynomialRing") 467), some (Value.builtin "object.__new__"), some (Value.bool true)] }
noncomputable def ob288 (_ : Params) : Obj := { cls := Value.type "super", data := Data.fields #[Value.ref 287, Value.ref 287, Value.ref 287] }
noncomputable def ob289 (_ : Params) : Obj := { cls := Value.type "builtin_function_or_method", data := Data.fields #[Value.builtin "object.__init_subclass__", Value.ref 287] }
noncomputable def ob290 (_ : Params) : Obj := { cls := Value.type "tuple", data := Data.seq #[Value.ref 229] }
noncomputable def ob291 (_ : Params) : Obj := { cls := Value.type "builtin_function_or_method", data := Data.fields #[Value.builtin "type.__prepare__", Value.type "type"] }
noncomputable def ob292 (P : Params) : Obj := { cls := Value.type "dict", data := Data.dict #[{ hash := PyData.keyHash P (Str.ofString "__module__"), key := Value.str (Str.ofString "__module__") 546, val := Value.str (Str.ofString "kyber_py.polynomials.polynomials") 457 }, { hash := PyData.keyHash P (Str.ofString "__qualname__"), key := Value.str (Str.ofString "__qualname__") 548, val := Value.str (Str.ofString "Polynomial") 547 }, { hash := PyData.keyHash P (Str.ofString "__firstlineno__"), key := Value.str (Str.ofString "__firstlineno__") 550, val := Value.int 197 549 }, { hash := PyData.keyHash P (Str.ofString "__init__"), key := Value.str (Str.ofString "__init__") 559, val := Value.ref 303 }, { hash := PyData.keyHash P (Str.ofString "encode"), key := Value.str (Str.ofString "encode") 567, val := Value.ref 310 }, { hash := PyData.keyHash P (Str.ofString "_compress_ele"), key := Value.str (Str.ofString "_compress_ele") 576, val := Value.ref 317 }, { hash := PyData.keyHash P (Str.ofString "_decompress_ele"), key := Value.str (Str.ofString "_decompress_ele") 585, val := Value.ref 324 }, { hash := PyData.keyHash P (Str.ofString "compress"), key := Value.str (Str.ofString "compress") 593, val := Value.ref 331 }, { hash := PyData.keyHash P (Str.ofString "decompress"), key := Value.str (Str.ofString "decompress") 601, val := Value.ref 338 }, { hash := PyData.keyHash P (Str.ofString "to_ntt"), key := Value.str (Str.ofString "to_ntt") 608, val := Value.ref 345 }, { hash := PyData.keyHash P (Str.ofString "from_ntt"), key := Value.str (Str.ofString "from_ntt") 615, val := Value.ref 352 }, { hash := PyData.keyHash P (Str.ofString "__static_attributes__"), key := Value.str (Str.ofString "__static_attributes__") 618, val := Value.ref 353 }] 12 }
noncomputable def ob293 (_ : Params) : Obj := { cls := Value.type "tuple", data := Data.seq #[] }
noncomputable def ob294 (_ : Params) : Obj := { cls := Value.none, data := Data.fields #[Value.int 199 0, Value.int 4 0, Value.ref 302, Value.int 203 0, Value.int 4 0, Value.ref 309, Value.int 206 0, Value.int 4 0, Value.ref 316, Value.int 209 0, Value.int 4 0, Value.ref 323, Value.int 212 0, Value.int 4 0, Value.ref 330, Value.int 215 0, Value.int 4 0, Value.ref 337, Value.int 218 0, Value.int 4 0, Value.ref 344, Value.int 221 0, Value.int 4 0, Value.ref 351] }
noncomputable def ob295 (_ : Params) : Obj := { cls := Value.type "code", data := Data.fields #[Value.str (Str.ofString "Polynomial") 541, Value.str (Str.ofString "Polynomial") 542, Value.str (Str.ofString "/claim/cut.py") 543, Value.int 197 0, Value.int 0 0, Value.int 0 0, Value.int 0 0, Value.int 0 0, Value.ref 293, Value.bool false, Value.int 181 0, Value.ref 294, Value.none, Value.none, Value.none, Value.none, Value.int 544 0, Value.int 197 0, Value.str (Str.ofString "/claim/cut.py") 545] }
noncomputable def ob296 (_ : Params) : Obj := { cls := Value.type "frame", slots := #[some (Value.ref 295), some (Value.ref 3), some (Value.ref 292), none, some (Value.str (Str.ofString "kyber_py.polynomials.polynomials") 457), none, some (Value.ref 0)] }
noncomputable def ob297 (_ : Params) : Obj := { cls := Value.type "tuple", data := Data.seq #[] }
noncomputable def ob298 (_ : Params) : Obj := { cls := Value.none, data := Data.fields #[] }
noncomputable def ob299 (_ : Params) : Obj := { cls := Value.type "tuple", data := Data.seq #[Value.str (Str.ofString "self") 554, Value.str (Str.ofString "parent") 555, Value.str (Str.ofString "coefficients") 556] }
noncomputable def ob300 (_ : Params) : Obj := { cls := Value.type "tuple", data := Data.seq #[] }
noncomputable def ob301 (_ : Params) : Obj := fnOb .none (mem 8 0) rfl (Str.ofString "Polynomial.__init__") [] .none .none .none .none none .none .none 0 0
noncomputable def ob302 (_ : Params) : Obj := { cls := Value.type "code", data := Data.fields #[Value.str (Str.ofString "__init__") 551, Value.str (Str.ofString "Polynomial.__init__") 552, Value.str (Str.ofString "/claim/cut.py") 553, Value.int 199 0, Value.int 3 0, Value.int 0 0, Value.int 0 0, Value.int 3 0, Value.ref 297, Value.bool true, Value.int 181 0, Value.ref 298, Value.none, Value.ref 299, Value.ref 300, Value.ref 301, Value.int 557 0, Value.int 199 0, Value.str (Str.ofString "/claim/cut.py") 558] }
noncomputable def ob303 (_ : Params) : Obj := fnOb (Value.type "function") (mem 8 0) rfl (Str.ofString "Polynomial.__init__") [] .none .none .none (Value.str (Str.ofString "kyber_py.polynomials.polynomials") 457) none (Value.ref 302) .none 0 3
noncomputable def ob304 (_ : Params) : Obj := { cls := Value.type "tuple", data := Data.seq #[] }
noncomputable def ob305 (_ : Params) : Obj := { cls := Value.none, data := Data.fields #[] }
noncomputable def ob306 (_ : Params) : Obj := { cls := Value.type "tuple", data := Data.seq #[Value.str (Str.ofString "self") 563, Value.str (Str.ofString "d") 564] }
noncomputable def ob307 (_ : Params) : Obj := { cls := Value.type "tuple", data := Data.seq #[] }
noncomputable def ob308 (_ : Params) : Obj := fnOb .none (mem 8 1) rfl (Str.ofString "Polynomial.encode") [] .none .none .none .none none .none .none 0 0
noncomputable def ob309 (_ : Params) : Obj := { cls := Value.type "code", data := Data.fields #[Value.str (Str.ofString "encode") 560, Value.str (Str.ofString "Polynomial.encode") 561, Value.str (Str.ofString "/claim/cut.py") 562, Value.int 203 0, Value.int 2 0, Value.int 0 0, Value.int 0 0, Value.int 3 0, Value.ref 304, Value.bool true, Value.int 181 0, Value.ref 305, Value.none, Value.ref 306, Value.ref 307, Value.ref 308, Value.int 565 0, Value.int 203 0, Value.str (Str.ofString "/claim/cut.py") 566] }
noncomputable def ob310 (_ : Params) : Obj := fnOb (Value.type "function") (mem 8 1) rfl (Str.ofString "Polynomial.encode") [] .none .none .none (Value.str (Str.ofString "kyber_py.polynomials.polynomials") 457) none (Value.ref 309) .none 0 3
noncomputable def ob311 (_ : Params) : Obj := { cls := Value.type "tuple", data := Data.seq #[] }
noncomputable def ob312 (_ : Params) : Obj := { cls := Value.none, data := Data.fields #[] }
noncomputable def ob313 (_ : Params) : Obj := { cls := Value.type "tuple", data := Data.seq #[Value.str (Str.ofString "self") 571, Value.str (Str.ofString "x") 572, Value.str (Str.ofString "d") 573] }
noncomputable def ob314 (_ : Params) : Obj := { cls := Value.type "tuple", data := Data.seq #[] }
noncomputable def ob315 (_ : Params) : Obj := fnOb .none (mem 8 2) rfl (Str.ofString "Polynomial._compress_ele") [] .none .none .none .none none .none .none 0 0
noncomputable def ob316 (_ : Params) : Obj := { cls := Value.type "code", data := Data.fields #[Value.str (Str.ofString "_compress_ele") 568, Value.str (Str.ofString "Polynomial._compress_ele") 569, Value.str (Str.ofString "/claim/cut.py") 570, Value.int 206 0, Value.int 3 0, Value.int 0 0, Value.int 0 0, Value.int 3 0, Value.ref 311, Value.bool true, Value.int 181 0, Value.ref 312, Value.none, Value.ref 313, Value.ref 314, Value.ref 315, Value.int 574 0, Value.int 206 0, Value.str (Str.ofString "/claim/cut.py") 575] }
noncomputable def ob317 (_ : Params) : Obj := fnOb (Value.type "function") (mem 8 2) rfl (Str.ofString "Polynomial._compress_ele") [] .none .none .none (Value.str (Str.ofString "kyber_py.polynomials.polynomials") 457) none (Value.ref 316) .none 0 3
noncomputable def ob318 (_ : Params) : Obj := { cls := Value.type "tuple", data := Data.seq #[] }
noncomputable def ob319 (_ : Params) : Obj := { cls := Value.none, data := Data.fields #[] }
noncomputable def ob320 (_ : Params) : Obj := { cls := Value.type "tuple", data := Data.seq #[Value.str (Str.ofString "self") 580, Value.str (Str.ofString "x") 581, Value.str (Str.ofString "d") 582] }
noncomputable def ob321 (_ : Params) : Obj := { cls := Value.type "tuple", data := Data.seq #[] }
noncomputable def ob322 (_ : Params) : Obj := fnOb .none (mem 8 3) rfl (Str.ofString "Polynomial._decompress_ele") [] .none .none .none .none none .none .none 0 0
noncomputable def ob323 (_ : Params) : Obj := { cls := Value.type "code", data := Data.fields #[Value.str (Str.ofString "_decompress_ele") 577, Value.str (Str.ofString "Polynomial._decompress_ele") 578, Value.str (Str.ofString "/claim/cut.py") 579, Value.int 209 0, Value.int 3 0, Value.int 0 0, Value.int 0 0, Value.int 3 0, Value.ref 318, Value.bool true, Value.int 181 0, Value.ref 319, Value.none, Value.ref 320, Value.ref 321, Value.ref 322, Value.int 583 0, Value.int 209 0, Value.str (Str.ofString "/claim/cut.py") 584] }
noncomputable def ob324 (_ : Params) : Obj := fnOb (Value.type "function") (mem 8 3) rfl (Str.ofString "Polynomial._decompress_ele") [] .none .none .none (Value.str (Str.ofString "kyber_py.polynomials.polynomials") 457) none (Value.ref 323) .none 0 3
noncomputable def ob325 (_ : Params) : Obj := { cls := Value.type "tuple", data := Data.seq #[] }
noncomputable def ob326 (_ : Params) : Obj := { cls := Value.none, data := Data.fields #[] }
noncomputable def ob327 (_ : Params) : Obj := { cls := Value.type "tuple", data := Data.seq #[Value.str (Str.ofString "self") 589, Value.str (Str.ofString "d") 590] }
noncomputable def ob328 (_ : Params) : Obj := { cls := Value.type "tuple", data := Data.seq #[] }
noncomputable def ob329 (_ : Params) : Obj := fnOb .none (mem 8 4) rfl (Str.ofString "Polynomial.compress") [] .none .none .none .none none .none .none 0 0
noncomputable def ob330 (_ : Params) : Obj := { cls := Value.type "code", data := Data.fields #[Value.str (Str.ofString "compress") 586, Value.str (Str.ofString "Polynomial.compress") 587, Value.str (Str.ofString "/claim/cut.py") 588, Value.int 212 0, Value.int 2 0, Value.int 0 0, Value.int 0 0, Value.int 3 0, Value.ref 325, Value.bool true, Value.int 181 0, Value.ref 326, Value.none, Value.ref 327, Value.ref 328, Value.ref 329, Value.int 591 0, Value.int 212 0, Value.str (Str.ofString "/claim/cut.py") 592] }
noncomputable def ob331 (_ : Params) : Obj := fnOb (Value.type "function") (mem 8 4) rfl (Str.ofString "Polynomial.compress") [] .none .none .none (Value.str (Str.ofString "kyber_py.polynomials.polynomials") 457) none (Value.ref 330) .none 0 3
noncomputable def ob332 (_ : Params) : Obj := { cls := Value.type "tuple", data := Data.seq #[] }
noncomputable def ob333 (_ : Params) : Obj := { cls := Value.none, data := Data.fields #[] }
noncomputable def ob334 (_ : Params) : Obj := { cls := Value.type "tuple", data := Data.seq #[Value.str (Str.ofString "self") 597, Value.str (Str.ofString "d") 598] }
noncomputable def ob335 (_ : Params) : Obj := { cls := Value.type "tuple", data := Data.seq #[] }
noncomputable def ob336 (_ : Params) : Obj := fnOb .none (mem 8 5) rfl (Str.ofString "Polynomial.decompress") [] .none .none .none .none none .none .none 0 0
noncomputable def ob337 (_ : Params) : Obj := { cls := Value.type "code", data := Data.fields #[Value.str (Str.ofString "decompress") 594, Value.str (Str.ofString "Polynomial.decompress") 595, Value.str (Str.ofString "/claim/cut.py") 596, Value.int 215 0, Value.int 2 0, Value.int 0 0, Value.int 0 0, Value.int 3 0, Value.ref 332, Value.bool true, Value.int 181 0, Value.ref 333, Value.none, Value.ref 334, Value.ref 335, Value.ref 336, Value.int 599 0, Value.int 215 0, Value.str (Str.ofString "/claim/cut.py") 600] }
noncomputable def ob338 (_ : Params) : Obj := fnOb (Value.type "function") (mem 8 5) rfl (Str.ofString "Polynomial.decompress") [] .none .none .none (Value.str (Str.ofString "kyber_py.polynomials.polynomials") 457) none (Value.ref 337) .none 0 3
noncomputable def ob339 (_ : Params) : Obj := { cls := Value.type "tuple", data := Data.seq #[] }
noncomputable def ob340 (_ : Params) : Obj := { cls := Value.none, data := Data.fields #[] }
noncomputable def ob341 (_ : Params) : Obj := { cls := Value.type "tuple", data := Data.seq #[Value.str (Str.ofString "self") 605] }
noncomputable def ob342 (_ : Params) : Obj := { cls := Value.type "tuple", data := Data.seq #[] }
noncomputable def ob343 (_ : Params) : Obj := fnOb .none (mem 8 6) rfl (Str.ofString "Polynomial.to_ntt") [] .none .none .none .none none .none .none 0 0
noncomputable def ob344 (_ : Params) : Obj := { cls := Value.type "code", data := Data.fields #[Value.str (Str.ofString "to_ntt") 602, Value.str (Str.ofString "Polynomial.to_ntt") 603, Value.str (Str.ofString "/claim/cut.py") 604, Value.int 218 0, Value.int 1 0, Value.int 0 0, Value.int 0 0, Value.int 3 0, Value.ref 339, Value.bool true, Value.int 181 0, Value.ref 340, Value.none, Value.ref 341, Value.ref 342, Value.ref 343, Value.int 606 0, Value.int 218 0, Value.str (Str.ofString "/claim/cut.py") 607] }
noncomputable def ob345 (_ : Params) : Obj := fnOb (Value.type "function") (mem 8 6) rfl (Str.ofString "Polynomial.to_ntt") [] .none .none .none (Value.str (Str.ofString "kyber_py.polynomials.polynomials") 457) none (Value.ref 344) .none 0 3
noncomputable def ob346 (_ : Params) : Obj := { cls := Value.type "tuple", data := Data.seq #[] }
noncomputable def ob347 (_ : Params) : Obj := { cls := Value.none, data := Data.fields #[] }
noncomputable def ob348 (_ : Params) : Obj := { cls := Value.type "tuple", data := Data.seq #[Value.str (Str.ofString "self") 612] }
noncomputable def ob349 (_ : Params) : Obj := { cls := Value.type "tuple", data := Data.seq #[] }
noncomputable def ob350 (_ : Params) : Obj := fnOb .none (mem 8 7) rfl (Str.ofString "Polynomial.from_ntt") [] .none .none .none .none none .none .none 0 0
noncomputable def ob351 (_ : Params) : Obj := { cls := Value.type "code", data := Data.fields #[Value.str (Str.ofString "from_ntt") 609, Value.str (Str.ofString "Polynomial.from_ntt") 610, Value.str (Str.ofString "/claim/cut.py") 611, Value.int 221 0, Value.int 1 0, Value.int 0 0, Value.int 0 0, Value.int 3 0, Value.ref 346, Value.bool true, Value.int 181 0, Value.ref 347, Value.none, Value.ref 348, Value.ref 349, Value.ref 350, Value.int 613 0, Value.int 221 0, Value.str (Str.ofString "/claim/cut.py") 614] }
noncomputable def ob352 (_ : Params) : Obj := fnOb (Value.type "function") (mem 8 7) rfl (Str.ofString "Polynomial.from_ntt") [] .none .none .none (Value.str (Str.ofString "kyber_py.polynomials.polynomials") 457) none (Value.ref 351) .none 0 3
noncomputable def ob353 (_ : Params) : Obj := { cls := Value.type "tuple", data := Data.seq #[Value.str (Str.ofString "coeffs") 616, Value.str (Str.ofString "parent") 617] }
noncomputable def ob354 (P : Params) : Obj := { cls := Value.type "dict", data := Data.dict #[{ hash := PyData.keyHash P (Str.ofString "__module__"), key := Value.str (Str.ofString "__module__") 546, val := Value.str (Str.ofString "kyber_py.polynomials.polynomials") 457 }, { hash := PyData.keyHash P (Str.ofString "__firstlineno__"), key := Value.str (Str.ofString "__firstlineno__") 550, val := Value.int 197 549 }, { hash := PyData.keyHash P (Str.ofString "__init__"), key := Value.str (Str.ofString "__init__") 559, val := Value.ref 303 }, { hash := PyData.keyHash P (Str.ofString "encode"), key := Value.str (Str.ofString "encode") 567, val := Value.ref 310 }, { hash := PyData.keyHash P (Str.ofString "_compress_ele"), key := Value.str (Str.ofString "_compress_ele") 576, val := Value.ref 317 }, { hash := PyData.keyHash P (Str.ofString "_decompress_ele"), key := Value.str (Str.ofString "_decompress_ele") 585, val := Value.ref 324 }, { hash := PyData.keyHash P (Str.ofString "compress"), key := Value.str (Str.ofString "compress") 593, val := Value.ref 331 }, { hash := PyData.keyHash P (Str.ofString "decompress"), key := Value.str (Str.ofString "decompress") 601, val := Value.ref 338 }, { hash := PyData.keyHash P (Str.ofString "to_ntt"), key := Value.str (Str.ofString "to_ntt") 608, val := Value.ref 345 }, { hash := PyData.keyHash P (Str.ofString "from_ntt"), key := Value.str (Str.ofString "from_ntt") 615, val := Value.ref 352 }, { hash := PyData.keyHash P (Str.ofString "__static_attributes__"), key := Value.str (Str.ofString "__static_attributes__") 618, val := Value.ref 353 }, { hash := PyData.keyHash P (Str.ofString "__doc__"), key := Value.str (Str.ofString "__doc__") 619, val := Value.none }] 2 }
noncomputable def ob355 (_ : Params) : Obj := { cls := Value.type "type", data := Data.cls { name := Str.ofString "Polynomial", bases := [Value.ref 229], mro := [Value.ref 355, Value.ref 229, Value.type "object"], ns := 354, qualname := Str.ofString "Polynomial", subclasses := [Value.ref 431] }, slots := #[some (Value.ref 290), none, some (Value.str (Str.ofString "Polynomial") 539), some (Value.str (Str.ofString "Polynomial") 547), some (Value.builtin "object.__new__"), some (Value.bool true)] }
noncomputable def ob356 (_ : Params) : Obj := { cls := Value.type "super", data := Data.fields #[Value.ref 355, Value.ref 355, Value.ref 355] }
noncomputable def ob357 (_ : Params) : Obj := { cls := Value.type "builtin_function_or_method", data := Data.fields #[Value.builtin "object.__init_subclass__", Value.ref 355] }
noncomputable def ob358 (_ : Params) : Obj := { cls := Value.type "tuple", data := Data.seq #[Value.ref 355] }
noncomputable def ob359 (_ : Params) : Obj := { cls := Value.type "builtin_function_or_method", data := Data.fields #[Value.builtin "type.__prepare__", Value.type "type"] }
noncomputable def ob360 (P : Params) : Obj := { cls := Value.type "dict", data := Data.dict #[{ hash := PyData.keyHash P (Str.ofString "__module__"), key := Value.str (Str.ofString "__module__") 629, val := Value.str (Str.ofString "kyber_py.polynomials.polynomials") 457 }, { hash := PyData.keyHash P (Str.ofString "__qualname__"), key := Value.str (Str.ofString "__qualname__") 631, val := Value.str (Str.ofString "PolynomialNTT") 630 }, { hash := PyData.keyHash P (Str.ofString "__firstlineno__"), key := Value.str (Str.ofString "__firstlineno__") 633, val := Value.int 223 632 }, { hash := PyData.keyHash P (Str.ofString "__init__"), key := Value.str (Str.ofString "__init__") 642, val := Value.ref 371 }, { hash := PyData.keyHash P (Str.ofString "to_ntt"), key := Value.str (Str.ofString "to_ntt") 649, val := Value.ref 378 }, { hash := PyData.keyHash P (Str.ofString "from_ntt"), key := Value.str (Str.ofString "from_ntt") 656, val := Value.ref 385 }, { hash := PyData.keyHash P (Str.ofString "_ntt_base_multiplication"), key := Value.str (Str.ofString "_ntt_base_multiplication") 681, val := Value.ref 394 }, { hash := PyData.keyHash P (Str.ofString "_ntt_coefficient_multiplication"), key := Value.str (Str.ofString "_ntt_coefficient_multiplication") 697, val := Value.ref 402 }, { hash := PyData.keyHash P (Str.ofString "_ntt_multiplication"), key := Value.str (Str.ofString "_ntt_multiplication") 706, val := Value.ref 409 }, { hash := PyData.keyHash P (Str.ofString "__add__"), key := Value.str (Str.ofString "__add__") 715, val := Value.ref 416 }, { hash := PyData.keyHash P (Str.ofString "__sub__"), key := Value.str (Str.ofString "__sub__") 724, val := Value.ref 423 }, { hash := PyData.keyHash P (Str.ofString "__mul__"), key := Value.str (Str.ofString "__mul__") 730, val := Value.ref 428 }, { hash := PyData.keyHash P (Str.ofString "__static_attributes__"), key := Value.str (Str.ofString "__static_attributes__") 733, val := Value.ref 429 }] 13 }
noncomputable def ob361 (_ : Params) : Obj := { cls := Value.type "tuple", data := Data.seq #[] }
noncomputable def ob362 (_ : Params) : Obj := { cls := Value.none, data := Data.fields #[Value.int 225 0, Value.int 4 0, Value.ref 370, Value.int 229 0, Value.int 4 0, Value.ref 377, Value.int 232 0, Value.int 4 0, Value.ref 384, Value.int 236 0, Value.int 4 0, Value.ref 391, Value.int 241 0, Value.int 4 0, Value.ref 401, Value.int 250 0, Value.int 4 0, Value.ref 408, Value.int 254 0, Value.int 4 0, Value.ref 415, Value.int 258 0, Value.int 4 0, Value.ref 422, Value.int 262 0, Value.int 4 0, Value.ref 427] }
noncomputable def ob363 (_ : Params) : Obj := { cls := Value.type "code", data := Data.fields #[Value.str (Str.ofString "PolynomialNTT") 624, Value.str (Str.ofString "PolynomialNTT") 625, Value.str (Str.ofString "/claim/cut.py") 626, Value.int 223 0, Value.int 0 0, Value.int 0 0, Value.int 0 0, Value.int 0 0, Value.ref 361, Value.bool false, Value.int 181 0, Value.ref 362, Value.none, Value.none, Value.none, Value.none, Value.int 627 0, Value.int 223 0, Value.str (Str.ofString "/claim/cut.py") 628] }
noncomputable def ob364 (_ : Params) : Obj := { cls := Value.type "frame", slots := #[some (Value.ref 363), some (Value.ref 3), some (Value.ref 360), none, some (Value.str (Str.ofString "kyber_py.polynomials.polynomials") 457), none, some (Value.ref 0)] }
noncomputable def ob365 (_ : Params) : Obj := { cls := Value.type "tuple", data := Data.seq #[] }
noncomputable def ob366 (_ : Params) : Obj := { cls := Value.none, data := Data.fields #[] }
noncomputable def ob367 (_ : Params) : Obj := { cls := Value.type "tuple", data := Data.seq #[Value.str (Str.ofString "self") 637, Value.str (Str.ofString "parent") 638, Value.str (Str.ofString "coefficients") 639] }
noncomputable def ob368 (_ : Params) : Obj := { cls := Value.type "tuple", data := Data.seq #[] }
noncomputable def ob369 (_ : Params) : Obj := fnOb .none (mem 9 0) rfl (Str.ofString "PolynomialNTT.__init__") [] .none .none .none .none none .none .none 0 0
noncomputable def ob370 (_ : Params) : Obj := { cls := Value.type "code", data := Data.fields #[Value.str (Str.ofString "__init__") 634, Value.str (Str.ofString "PolynomialNTT.__init__") 635, Value.str (Str.ofString "/claim/cut.py") 636, Value.int 225 0, Value.int 3 0, Value.int 0 0, Value.int 0 0, Value.int 3 0, Value.ref 365, Value.bool true, Value.int 181 0, Value.ref 366, Value.none, Value.ref 367, Value.ref 368, Value.ref 369, Value.int 640 0, Value.int 225 0, Value.str (Str.ofString "/claim/cut.py") 641] }
noncomputable def ob371 (_ : Params) : Obj := fnOb (Value.type "function") (mem 9 0) rfl (Str.ofString "PolynomialNTT.__init__") [] .none .none .none (Value.str (Str.ofString "kyber_py.polynomials.polynomials") 457) none (Value.ref 370) .none 0 3
noncomputable def ob372 (_ : Params) : Obj := { cls := Value.type "tuple", data := Data.seq #[] }
noncomputable def ob373 (_ : Params) : Obj := { cls := Value.none, data := Data.fields #[] }
noncomputable def ob374 (_ : Params) : Obj := { cls := Value.type "tuple", data := Data.seq #[Value.str (Str.ofString "self") 646] }
noncomputable def ob375 (_ : Params) : Obj := { cls := Value.type "tuple", data := Data.seq #[] }
noncomputable def ob376 (_ : Params) : Obj := fnOb .none (mem 9 1) rfl (Str.ofString "PolynomialNTT.to_ntt") [] .none .none .none .none none .none .none 0 0
noncomputable def ob377 (_ : Params) : Obj := { cls := Value.type "code", data := Data.fields #[Value.str (Str.ofString "to_ntt") 643, Value.str (Str.ofString "PolynomialNTT.to_ntt") 644, Value.str (Str.ofString "/claim/cut.py") 645, Value.int 229 0, Value.int 1 0, Value.int 0 0, Value.int 0 0, Value.int 3 0, Value.ref 372, Value.bool true, Value.int 181 0, Value.ref 373, Value.none, Value.ref 374, Value.ref 375, Value.ref 376, Value.int 647 0, Value.int 229 0, Value.str (Str.ofString "/claim/cut.py") 648] }
noncomputable def ob378 (_ : Params) : Obj := fnOb (Value.type "function") (mem 9 1) rfl (Str.ofString "PolynomialNTT.to_ntt") [] .none .none .none (Value.str (Str.ofString "kyber_py.polynomials.polynomials") 457) none (Value.ref 377) .none 0 3
noncomputable def ob379 (_ : Params) : Obj := { cls := Value.type "tuple", data := Data.seq #[] }
noncomputable def ob380 (_ : Params) : Obj := { cls := Value.none, data := Data.fields #[] }
noncomputable def ob381 (_ : Params) : Obj := { cls := Value.type "tuple", data := Data.seq #[Value.str (Str.ofString "self") 653] }
noncomputable def ob382 (_ : Params) : Obj := { cls := Value.type "tuple", data := Data.seq #[] }
noncomputable def ob383 (_ : Params) : Obj := fnOb .none (mem 9 2) rfl (Str.ofString "PolynomialNTT.from_ntt") [] .none .none .none .none none .none .none 0 0
noncomputable def ob384 (_ : Params) : Obj := { cls := Value.type "code", data := Data.fields #[Value.str (Str.ofString "from_ntt") 650, Value.str (Str.ofString "PolynomialNTT.from_ntt") 651, Value.str (Str.ofString "/claim/cut.py") 652, Value.int 232 0, Value.int 1 0, Value.int 0 0, Value.int 0 0, Value.int 3 0, Value.ref 379, Value.bool true, Value.int 181 0, Value.ref 380, Value.none, Value.ref 381, Value.ref 382, Value.ref 383, Value.int 654 0, Value.int 232 0, Value.str (Str.ofString "/claim/cut.py") 655] }
noncomputable def ob385 (_ : Params) : Obj := fnOb (Value.type "function") (mem 9 2) rfl (Str.ofString "PolynomialNTT.from_ntt") [] .none .none .none (Value.str (Str.ofString "kyber_py.polynomials.polynomials") 457) none (Value.ref 384) .none 0 3
noncomputable def ob386 (_ : Params) : Obj := { cls := Value.type "tuple", data := Data.seq #[] }
noncomputable def ob387 (_ : Params) : Obj := { cls := Value.none, data := Data.fields #[] }
noncomputable def ob388 (_ : Params) : Obj := { cls := Value.type "tuple", data := Data.seq #[Value.str (Str.ofString "a0") 660, Value.str (Str.ofString "a1") 661, Value.str (Str.ofString "b0") 662, Value.str (Str.ofString "b1") 663, Value.str (Str.ofString "zeta") 664, Value.str (Str.ofString "r0") 665, Value.str (Str.ofString "r1") 666] }
noncomputable def ob389 (_ : Params) : Obj := { cls := Value.type "tuple", data := Data.seq #[] }
noncomputable def ob390 (_ : Params) : Obj := fnOb .none (mem 9 3) rfl (Str.ofString "PolynomialNTT._ntt_base_multiplication") [] .none .none .none .none none .none .none 0 0
noncomputable def ob391 (_ : Params) : Obj := { cls := Value.type "code", data := Data.fields #[Value.str (Str.ofString "_ntt_base_multiplication") 657, Value.str (Str.ofString "PolynomialNTT._ntt_base_multiplication") 658, Value.str (Str.ofString "/claim/cut.py") 659, Value.int 235 0, Value.int 5 0, Value.int 0 0, Value.int 0 0, Value.int 3 0, Value.ref 386, Value.bool true, Value.int 181 0, Value.ref 387, Value.none, Value.ref 388, Value.ref 389, Value.ref 390, Value.int 667 0, Value.int 235 0, Value.str (Str.ofString "/claim/cut.py") 668] }
noncomputable def ob392 (_ : Params) : Obj := fnOb (Value.type "function") (mem 9 3) rfl (Str.ofString "PolynomialNTT._ntt_base_multiplication") [] .none .none .none (Value.str (Str.ofString "kyber_py.polynomials.polynomials") 457) (some 395) (Value.ref 391) .none 0 3
noncomputable def ob393 (P : Params) : Obj := { cls := Value.type "dict", data := Data.dict #[{ hash := PyData.keyHash P (Str.ofString "__module__"), key := Value.str (Str.ofString "__module__") 670, val := Value.str (Str.ofString "kyber_py.polynomials.polynomials") 457 }, { hash := PyData.keyHash P (Str.ofString "__name__"), key := Value.str (Str.ofString "__name__") 673, val := Value.str (Str.ofString "_ntt_base_multiplication") 672 }, { hash := PyData.keyHash P (Str.ofString "__qualname__"), key := Value.str (Str.ofString "__qualname__") 676, val := Value.str (Str.ofString "PolynomialNTT._ntt_base_multiplication") 675 }, { hash := PyData.keyHash P (Str.ofString "__doc__"), key := Value.str (Str.ofString "__doc__") 678, val := Value.none }, { hash := PyData.keyHash P (Str.ofString "__annotations__"), key := Value.str (Str.ofString "__annotations__") 680, val := Value.ref 395 }] 5 }
noncomputable def ob394 (_ : Params) : Obj := { cls := Value.type "staticmethod", dict := some 393, data := Data.fields #[Value.ref 392, Value.bool false] }
noncomputable def ob395 (_ : Params) : Obj := { cls := Value.type "dict", data := Data.dict #[] }
noncomputable def ob396 (_ : Params) : Obj := { cls := Value.type "tuple", data := Data.seq #[] }
noncomputable def ob397 (_ : Params) : Obj := { cls := Value.none, data := Data.fields #[] }
noncomputable def ob398 (_ : Params) : Obj := { cls := Value.type "tuple", data := Data.seq #[Value.str (Str.ofString "self") 685, Value.str (Str.ofString "f_coeffs") 686, Value.str (Str.ofString "g_coeffs") 687, Value.str (Str.ofString "new_coeffs") 688, Value.str (Str.ofString "zetas") 689, Value.str (Str.ofString "i") 690, Value.str (Str.ofString "r0") 691, Value.str (Str.ofString "r1") 692, Value.str (Str.ofString "r2") 693, Value.str (Str.ofString "r3") 694] }
noncomputable def ob399 (_ : Params) : Obj := { cls := Value.type "tuple", data := Data.seq #[] }
noncomputable def ob400 (_ : Params) : Obj := fnOb .none (mem 9 4) rfl (Str.ofString "PolynomialNTT._ntt_coefficient_multiplication") [] .none .none .none .none none .none .none 0 0
noncomputable def ob401 (_ : Params) : Obj := { cls := Value.type "code", data := Data.fields #[Value.str (Str.ofString "_ntt_coefficient_multiplication") 682, Value.str (Str.ofString "PolynomialNTT._ntt_coefficient_multiplication") 683, Value.str (Str.ofString "/claim/cut.py") 684, Value.int 241 0, Value.int 3 0, Value.int 0 0, Value.int 0 0, Value.int 3 0, Value.ref 396, Value.bool true, Value.int 181 0, Value.ref 397, Value.none, Value.ref 398, Value.ref 399, Value.ref 400, Value.int 695 0, Value.int 241 0, Value.str (Str.ofString "/claim/cut.py") 696] }
noncomputable def ob402 (_ : Params) : Obj := fnOb (Value.type "function") (mem 9 4) rfl (Str.ofString "PolynomialNTT._ntt_coefficient_multiplication") [] .none .none .none (Value.str (Str.ofString "kyber_py.polynomials.polynomials") 457) none (Value.ref 401) .none 0 3
noncomputable def ob403 (_ : Params) : Obj := { cls := Value.type "tuple", data := Data.seq #[] }
noncomputable def ob404 (_ : Params) : Obj := { cls := Value.none, data := Data.fields #[] }
noncomputable def ob405 (_ : Params) : Obj := { cls := Value.type "tuple", data := Data.seq #[Value.str (Str.ofString "self") 701, Value.str (Str.ofString "other") 702, Value.str (Str.ofString "new_coeffs") 703] }
noncomputable def ob406 (_ : Params) : Obj := { cls := Value.type "tuple", data := Data.seq #[] }
noncomputable def ob407 (_ : Params) : Obj := fnOb .none (mem 9 5) rfl (Str.ofString "PolynomialNTT._ntt_multiplication") [] .none .none .none .none none .none .none 0 0
noncomputable def ob408 (_ : Params) : Obj := { cls := Value.type "code", data := Data.fields #[Value.str (Str.ofString "_ntt_multiplication") 698, Value.str (Str.ofString "PolynomialNTT._ntt_multiplication") 699, Value.str (Str.ofString "/claim/cut.py") 700, Value.int 250 0, Value.int 2 0, Value.int 0 0, Value.int 0 0, Value.int 3 0, Value.ref 403, Value.bool true, Value.int 181 0, Value.ref 404, Value.none, Value.ref 405, Value.ref 406, Value.ref 407, Value.int 704 0, Value.int 250 0, Value.str (Str.ofString "/claim/cut.py") 705] }
noncomputable def ob409 (_ : Params) : Obj := fnOb (Value.type "function") (mem 9 5) rfl (Str.ofString "PolynomialNTT._ntt_multiplication") [] .none .none .none (Value.str (Str.ofString "kyber_py.polynomials.polynomials") 457) none (Value.ref 408) .none 0 3
noncomputable def ob410 (_ : Params) : Obj := { cls := Value.type "tuple", data := Data.seq #[] }
noncomputable def ob411 (_ : Params) : Obj := { cls := Value.none, data := Data.fields #[] }
noncomputable def ob412 (_ : Params) : Obj := { cls := Value.type "tuple", data := Data.seq #[Value.str (Str.ofString "self") 710, Value.str (Str.ofString "other") 711, Value.str (Str.ofString "new_coeffs") 712] }
noncomputable def ob413 (_ : Params) : Obj := { cls := Value.type "tuple", data := Data.seq #[] }
noncomputable def ob414 (_ : Params) : Obj := fnOb .none (mem 9 6) rfl (Str.ofString "PolynomialNTT.__add__") [] .none .none .none .none none .none .none 0 0
noncomputable def ob415 (_ : Params) : Obj := { cls := Value.type "code", data := Data.fields #[Value.str (Str.ofString "__add__") 707, Value.str (Str.ofString "PolynomialNTT.__add__") 708, Value.str (Str.ofString "/claim/cut.py") 709, Value.int 254 0, Value.int 2 0, Value.int 0 0, Value.int 0 0, Value.int 3 0, Value.ref 410, Value.bool true, Value.int 181 0, Value.ref 411, Value.none, Value.ref 412, Value.ref 413, Value.ref 414, Value.int 713 0, Value.int 254 0, Value.str (Str.ofString "/claim/cut.py") 714] }
noncomputable def ob416 (_ : Params) : Obj := fnOb (Value.type "function") (mem 9 6) rfl (Str.ofString "PolynomialNTT.__add__") [] .none .none .none (Value.str (Str.ofString "kyber_py.polynomials.polynomials") 457) none (Value.ref 415) .none 0 3
noncomputable def ob417 (_ : Params) : Obj := { cls := Value.type "tuple", data := Data.seq #[] }
noncomputable def ob418 (_ : Params) : Obj := { cls := Value.none, data := Data.fields #[] }
noncomputable def ob419 (_ : Params) : Obj := { cls := Value.type "tuple", data := Data.seq #[Value.str (Str.ofString "self") 719, Value.str (Str.ofString "other") 720, Value.str (Str.ofString "new_coeffs") 721] }
noncomputable def ob420 (_ : Params) : Obj := { cls := Value.type "tuple", data := Data.seq #[] }
noncomputable def ob421 (_ : Params) : Obj := fnOb .none (mem 9 7) rfl (Str.ofString "PolynomialNTT.__sub__") [] .none .none .none .none none .none .none 0 0
noncomputable def ob422 (_ : Params) : Obj := { cls := Value.type "code", data := Data.fields #[Value.str (Str.ofString "__sub__") 716, Value.str (Str.ofString "PolynomialNTT.__sub__") 717, Value.str (Str.ofString "/claim/cut.py") 718, Value.int 258 0, Value.int 2 0, Value.int 0 0, Value.int 0 0, Value.int 3 0, Value.ref 417, Value.bool true, Value.int 181 0, Value.ref 418, Value.none, Value.ref 419, Value.ref 420, Value.ref 421, Value.int 722 0, Value.int 258 0, Value.str (Str.ofString "/claim/cut.py") 723] }
noncomputable def ob423 (_ : Params) : Obj := fnOb (Value.type "function") (mem 9 7) rfl (Str.ofString "PolynomialNTT.__sub__") [] .none .none .none (Value.str (Str.ofString "kyber_py.polynomials.polynomials") 457) none (Value.ref 422) .none 0 3
noncomputable def ob424 (_ : Params) : Obj := { cls := Value.type "tuple", data := Data.seq #[] }
noncomputable def ob425 (_ : Params) : Obj := { cls := Value.none, data := Data.fields #[] }
noncomputable def ob426 (_ : Params) : Obj := fnOb .none (mem 9 8) rfl (Str.ofString "PolynomialNTT.__mul__") [] .none .none .none .none none .none .none 0 0
noncomputable def ob427 (_ : Params) : Obj := { cls := Value.type "code", data := Data.fields #[Value.str (Str.ofString "__mul__") 725, Value.str (Str.ofString "PolynomialNTT.__mul__") 726, Value.str (Str.ofString "/claim/cut.py") 727, Value.int 262 0, Value.int 2 0, Value.int 0 0, Value.int 0 0, Value.int 3 0, Value.ref 424, Value.bool true, Value.int 181 0, Value.ref 425, Value.none, Value.none, Value.none, Value.ref 426, Value.int 728 0, Value.int 262 0, Value.str (Str.ofString "/claim/cut.py") 729] }
noncomputable def ob428 (_ : Params) : Obj := fnOb (Value.type "function") (mem 9 8) rfl (Str.ofString "PolynomialNTT.__mul__") [] .none .none .none (Value.str (Str.ofString "kyber_py.polynomials.polynomials") 457) none (Value.ref 427) .none 0 3
noncomputable def ob429 (_ : Params) : Obj := { cls := Value.type "tuple", data := Data.seq #[Value.str (Str.ofString "coeffs") 731, Value.str (Str.ofString "parent") 732] }
noncomputable def ob430 (P : Params) : Obj := { cls := Value.type "dict", data := Data.dict #[{ hash := PyData.keyHash P (Str.ofString "__module__"), key := Value.str (Str.ofString "__module__") 629, val := Value.str (Str.ofString "kyber_py.polynomials.polynomials") 457 }, { hash := PyData.keyHash P (Str.ofString "__firstlineno__"), key := Value.str (Str.ofString "__firstlineno__") 633, val := Value.int 223 632 }, { hash := PyData.keyHash P (Str.ofString "__init__"), key := Value.str (Str.ofString "__init__") 642, val := Value.ref 371 }, { hash := PyData.keyHash P (Str.ofString "to_ntt"), key := Value.str (Str.ofString "to_ntt") 649, val := Value.ref 378 }, { hash := PyData.keyHash P (Str.ofString "from_ntt"), key := Value.str (Str.ofString "from_ntt") 656, val := Value.ref 385 }, { hash := PyData.keyHash P (Str.ofString "_ntt_base_multiplication"), key := Value.str (Str.ofString "_ntt_base_multiplication") 681, val := Value.ref 394 }, { hash := PyData.keyHash P (Str.ofString "_ntt_coefficient_multiplication"), key := Value.str (Str.ofString "_ntt_coefficient_multiplication") 697, val := Value.ref 402 }, { hash := PyData.keyHash P (Str.ofString "_ntt_multiplication"), key := Value.str (Str.ofString "_ntt_multiplication") 706, val := Value.ref 409 }, { hash := PyData.keyHash P (Str.ofString "__add__"), key := Value.str (Str.ofString "__add__") 715, val := Value.ref 416 }, { hash := PyData.keyHash P (Str.ofString "__sub__"), key := Value.str (Str.ofString "__sub__") 724, val := Value.ref 423 }, { hash := PyData.keyHash P (Str.ofString "__mul__"), key := Value.str (Str.ofString "__mul__") 730, val := Value.ref 428 }, { hash := PyData.keyHash P (Str.ofString "__static_attributes__"), key := Value.str (Str.ofString "__static_attributes__") 733, val := Value.ref 429 }, { hash := PyData.keyHash P (Str.ofString "__doc__"), key := Value.str (Str.ofString "__doc__") 734, val := Value.none }] 2 }
noncomputable def ob431 (_ : Params) : Obj := { cls := Value.type "type", data := Data.cls { name := Str.ofString "PolynomialNTT", bases := [Value.ref 355], mro := [Value.ref 431, Value.ref 355, Value.ref 229, Value.type "object"], ns := 430, qualname := Str.ofString "PolynomialNTT" }, slots := #[some (Value.ref 358), none, some (Value.str (Str.ofString "PolynomialNTT") 622), some (Value.str (Str.ofString "PolynomialNTT") 630), some (Value.builtin "object.__new__"), some (Value.bool true)] }
noncomputable def ob432 (_ : Params) : Obj := { cls := Value.type "super", data := Data.fields #[Value.ref 431, Value.ref 431, Value.ref 431] }
noncomputable def ob433 (_ : Params) : Obj := { cls := Value.type "builtin_function_or_method", data := Data.fields #[Value.builtin "object.__init_subclass__", Value.ref 431] }
noncomputable def ob434 (_ : Params) : Obj := { cls := Value.type "tuple", data := Data.seq #[] }
noncomputable def ob435 (_ : Params) : Obj := { cls := Value.none, data := Data.fields #[] }
noncomputable def ob436 (_ : Params) : Obj := { cls := Value.type "tuple", data := Data.seq #[Value.str (Str.ofString "script") 742, Value.str (Str.ofString "i") 743] }
noncomputable def ob437 (_ : Params) : Obj := { cls := Value.type "tuple", data := Data.seq #[] }
noncomputable def ob438 (_ : Params) : Obj := fnOb .none (top 11) rfl (Str.ofString "_law_at") [] .none .none .none .none none .none .none 0 0
noncomputable def ob439 (_ : Params) : Obj := { cls := Value.type "code", data := Data.fields #[Value.str (Str.ofString "_law_at") 739, Value.str (Str.ofString "_law_at") 740, Value.str (Str.ofString "/claim/cut.py") 741, Value.int 271 0, Value.int 2 0, Value.int 0 0, Value.int 0 0, Value.int 3 0, Value.ref 434, Value.bool true, Value.int 181 0, Value.ref 435, Value.none, Value.ref 436, Value.ref 437, Value.ref 438, Value.int 744 0, Value.int 271 0, Value.str (Str.ofString "/claim/cut.py") 745] }
noncomputable def ob440 (_ : Params) : Obj := fnOb (Value.type "function") (top 11) rfl (Str.ofString "_law_at") [] .none .none .none (Value.str (Str.ofString "law_yi0077_01") 737) none (Value.ref 439) .none 0 3
noncomputable def ob441 (_ : Params) : Obj := { cls := Value.type "tuple", data := Data.seq #[] }
noncomputable def ob442 (_ : Params) : Obj := { cls := Value.none, data := Data.fields #[] }
noncomputable def ob443 (_ : Params) : Obj := fnOb .none (top 12) rfl (Str.ofString "_law_away") [] .none .none .none .none none .none .none 0 0
noncomputable def ob444 (_ : Params) : Obj := { cls := Value.type "code", data := Data.fields #[Value.str (Str.ofString "_law_away") 747, Value.str (Str.ofString "_law_away") 748, Value.str (Str.ofString "/claim/cut.py") 749, Value.int 275 0, Value.int 2 0, Value.int 0 0, Value.int 0 0, Value.int 3 0, Value.ref 441, Value.bool true, Value.int 181 0, Value.ref 442, Value.none, Value.none, Value.none, Value.ref 443, Value.int 750 0, Value.int 275 0, Value.str (Str.ofString "/claim/cut.py") 751] }
noncomputable def ob445 (_ : Params) : Obj := fnOb (Value.type "function") (top 12) rfl (Str.ofString "_law_away") [] .none .none .none (Value.str (Str.ofString "law_yi0077_01") 737) none (Value.ref 444) .none 0 3
noncomputable def ob446 (_ : Params) : Obj := { cls := Value.type "tuple", data := Data.seq #[] }
noncomputable def ob447 (_ : Params) : Obj := { cls := Value.none, data := Data.fields #[] }
noncomputable def ob448 (_ : Params) : Obj := { cls := Value.type "tuple", data := Data.seq #[Value.str (Str.ofString "a") 756, Value.str (Str.ofString "b") 757, Value.str (Str.ofString "c") 758, Value.str (Str.ofString "s") 759] }
noncomputable def ob449 (_ : Params) : Obj := { cls := Value.type "tuple", data := Data.seq #[] }
noncomputable def ob450 (_ : Params) : Obj := fnOb .none (top 13) rfl (Str.ofString "_law_spread") [] .none .none .none .none none .none .none 0 0
noncomputable def ob451 (_ : Params) : Obj := { cls := Value.type "code", data := Data.fields #[Value.str (Str.ofString "_law_spread") 753, Value.str (Str.ofString "_law_spread") 754, Value.str (Str.ofString "/claim/cut.py") 755, Value.int 282 0, Value.int 4 0, Value.int 0 0, Value.int 0 0, Value.int 3 0, Value.ref 446, Value.bool true, Value.int 181 0, Value.ref 447, Value.none, Value.ref 448, Value.ref 449, Value.ref 450, Value.int 760 0, Value.int 282 0, Value.str (Str.ofString "/claim/cut.py") 761] }
noncomputable def ob452 (_ : Params) : Obj := fnOb (Value.type "function") (top 13) rfl (Str.ofString "_law_spread") [] .none .none .none (Value.str (Str.ofString "law_yi0077_01") 737) none (Value.ref 451) .none 0 3
noncomputable def ob453 (_ : Params) : Obj := { cls := Value.type "tuple", data := Data.seq #[] }
noncomputable def ob454 (_ : Params) : Obj := { cls := Value.none, data := Data.fields #[] }
noncomputable def ob455 (_ : Params) : Obj := fnOb .none (top 14) rfl (Str.ofString "law") [] .none .none .none .none none .none .none 0 0
noncomputable def ob456 (_ : Params) : Obj := { cls := Value.type "code", data := Data.fields #[Value.str (Str.ofString "law") 763, Value.str (Str.ofString "law") 764, Value.str (Str.ofString "/claim/cut.py") 765, Value.int 284 0, Value.int 1 0, Value.int 0 0, Value.int 0 0, Value.int 3 0, Value.ref 453, Value.bool true, Value.int 181 0, Value.ref 454, Value.none, Value.none, Value.none, Value.ref 455, Value.int 766 0, Value.int 284 0, Value.str (Str.ofString "/claim/cut.py") 767] }
noncomputable def ob457 (_ : Params) : Obj := fnOb (Value.type "function") (top 14) rfl (Str.ofString "law") [] .none .none .none (Value.str (Str.ofString "law_yi0077_01") 737) none (Value.ref 456) .none 0 3
set_option maxRecDepth 100000 in
noncomputable def hd.heap_39 : Params → Frag := fun P =>
  (nat_lit 2, boot_o_2 P) ::
  (nat_lit 3, ob3 P) ::
  (nat_lit 15, ob15 P) ::
  (nat_lit 17, ob17 P) ::
  (nat_lit 18, ob18 P) ::
  (nat_lit 20, ob20 P) ::
  (nat_lit 21, ob21 P) ::
  (nat_lit 22, ob22 P) ::
  (nat_lit 24, ob24 P) ::
  (nat_lit 25, ob25 P) ::
  (nat_lit 27, ob27 P) ::
  (nat_lit 28, ob28 P) ::
  (nat_lit 36, ob36 P) ::
  (nat_lit 38, ob38 P) ::
  (nat_lit 39, ob39 P) ::
  (nat_lit 41, ob41 P) ::
  (nat_lit 42, ob42 P) ::
  (nat_lit 43, ob43 P) ::
  (nat_lit 45, ob45 P) ::
  (nat_lit 46, ob46 P) ::
  (nat_lit 48, ob48 P) ::
  (nat_lit 49, ob49 P) ::
  (nat_lit 50, ob50 P) ::
  (nat_lit 52, ob52 P) ::
  (nat_lit 53, ob53 P) ::
  (nat_lit 55, ob55 P) ::
  (nat_lit 56, ob56 P) ::
  (nat_lit 57, ob57 P) ::
  (nat_lit 59, ob59 P) ::
  (nat_lit 60, ob60 P) ::
  (nat_lit 62, ob62 P) ::
  (nat_lit 63, ob63 P) ::
  (nat_lit 64, ob64 P) ::
  (nat_lit 65, ob65 P) ::
  (nat_lit 66, ob66 P) ::
  (nat_lit 67, ob67 P) ::
  (nat_lit 68, ob68 P) ::
  (nat_lit 78, ob78 P) ::
  (nat_lit 80, ob80 P) ::
  (nat_lit 81, ob81 P) ::
  (nat_lit 83, ob83 P) ::
  (nat_lit 84, ob84 P) ::
  (nat_lit 85, ob85 P) ::
  (nat_lit 87, ob87 P) ::
  (nat_lit 88, ob88 P) ::
  (nat_lit 90, ob90 P) ::
  (nat_lit 91, ob91 P) ::
  (nat_lit 92, ob92 P) ::
  (nat_lit 94, ob94 P) ::
  (nat_lit 95, ob95 P) ::
  (nat_lit 97, ob97 P) ::
  (nat_lit 98, ob98 P) ::
  (nat_lit 99, ob99 P) ::
  (nat_lit 102, ob102 P) ::
  (nat_lit 103, ob103 P) ::
  (nat_lit 104, ob104 P) ::
  (nat_lit 106, ob106 P) ::
  (nat_lit 107, ob107 P) ::
  (nat_lit 109, ob109 P) ::
  (nat_lit 110, ob110 P) ::
  (nat_lit 111, ob111 P) ::
  (nat_lit 113, ob113 P) ::
  (nat_lit 114, ob114 P) ::
  (nat_lit 116, ob116 P) ::
  (nat_lit 117, ob117 P) ::
  (nat_lit 118, ob118 P) ::
  (nat_lit 120, ob120 P) ::
  (nat_lit 121, ob121 P) ::
  (nat_lit 123, ob123 P) ::
  (nat_lit 124, ob124 P) ::
  (nat_lit 125, ob125 P) ::
  (nat_lit 128, ob128 P) ::
  (nat_lit 129, ob129 P) ::
  (nat_lit 130, ob130 P) ::
  (nat_lit 133, ob133 P) ::
  (nat_lit 134, ob134 P) ::
  (nat_lit 135, ob135 P) ::
  (nat_lit 138, ob138 P) ::
  (nat_lit 139, ob139 P) ::
  (nat_lit 140, ob140 P) ::
  (nat_lit 142, ob142 P) ::
  (nat_lit 143, ob143 P) ::
  (nat_lit 145, ob145 P) ::
  (nat_lit 146, ob146 P) ::
  (nat_lit 147, ob147 P) ::
  (nat_lit 149, ob149 P) ::
  (nat_lit 150, ob150 P) ::
  (nat_lit 152, ob152 P) ::
  (nat_lit 153, ob153 P) ::
  (nat_lit 154, ob154 P) ::
  (nat_lit 156, ob156 P) ::
  (nat_lit 157, ob157 P) ::
  (nat_lit 159, ob159 P) ::
  (nat_lit 160, ob160 P) ::
  (nat_lit 161, ob161 P) ::
  (nat_lit 164, ob164 P) ::
  (nat_lit 165, ob165 P) ::
  (nat_lit 166, ob166 P) ::
  (nat_lit 168, ob168 P) ::
  (nat_lit 169, ob169 P) ::
  (nat_lit 171, ob171 P) ::
  (nat_lit 172, ob172 P) ::
  (nat_lit 173, ob173 P) ::
  (nat_lit 175, ob175 P) ::
  (nat_lit 176, ob176 P) ::
  (nat_lit 178, ob178 P) ::
  (nat_lit 179, ob179 P) ::
  (nat_lit 180, ob180 P) ::
  (nat_lit 182, ob182 P) ::
  (nat_lit 183, ob183 P) ::
  (nat_lit 185, ob185 P) ::
  (nat_lit 186, ob186 P) ::
  (nat_lit 187, ob187 P) ::
  (nat_lit 190, ob190 P) ::
  (nat_lit 191, ob191 P) ::
  (nat_lit 192, ob192 P) ::
  (nat_lit 194, ob194 P) ::
  (nat_lit 195, ob195 P) ::
  (nat_lit 197, ob197 P) ::
  (nat_lit 198, ob198 P) ::
  (nat_lit 199, ob199 P) ::
  (nat_lit 201, ob201 P) ::
  (nat_lit 202, ob202 P) ::
  (nat_lit 204, ob204 P) ::
  (nat_lit 205, ob205 P) ::
  (nat_lit 206, ob206 P) ::
  (nat_lit 208, ob208 P) ::
  (nat_lit 209, ob209 P) ::
  (nat_lit 211, ob211 P) ::
  (nat_lit 212, ob212 P) ::
  (nat_lit 213, ob213 P) ::
  (nat_lit 215, ob215 P) ::
  (nat_lit 216, ob216 P) ::
  (nat_lit 218, ob218 P) ::
  (nat_lit 219, ob219 P) ::
  (nat_lit 220, ob220 P) ::
  (nat_lit 222, ob222 P) ::
  (nat_lit 223, ob223 P) ::
  (nat_lit 225, ob225 P) ::
  (nat_lit 226, ob226 P) ::
  (nat_lit 227, ob227 P) ::
  (nat_lit 228, ob228 P) ::
  (nat_lit 229, ob229 P) ::
  (nat_lit 230, ob230 P) ::
  (nat_lit 231, ob231 P) ::
  (nat_lit 234, ob234 P) ::
  (nat_lit 241, ob241 P) ::
  (nat_lit 244, ob244 P) ::
  (nat_lit 245, ob245 P) ::
  (nat_lit 246, ob246 P) ::
  (nat_lit 248, ob248 P) ::
  (nat_lit 249, ob249 P) ::
  (nat_lit 251, ob251 P) ::
  (nat_lit 252, ob252 P) ::
  (nat_lit 253, ob253 P) ::
  (nat_lit 254, ob254 P) ::
  (nat_lit 255, ob255 P) ::
  (nat_lit 256, ob256 P) ::
  (nat_lit 258, ob258 P) ::
  (nat_lit 259, ob259 P) ::
  (nat_lit 261, ob261 P) ::
  (nat_lit 262, ob262 P) ::
  (nat_lit 263, ob263 P) ::
  (nat_lit 264, ob264 P) ::
  (nat_lit 267, ob267 P) ::
  (nat_lit 268, ob268 P) ::
  (nat_lit 269, ob269 P) ::
  (nat_lit 270, ob270 P) ::
  (nat_lit 272, ob272 P) ::
  (nat_lit 273, ob273 P) ::
  (nat_lit 275, ob275 P) ::
  (nat_lit 276, ob276 P) ::
  (nat_lit 277, ob277 P) ::
  (nat_lit 278, ob278 P) ::
  (nat_lit 280, ob280 P) ::
  (nat_lit 281, ob281 P) ::
  (nat_lit 283, ob283 P) ::
  (nat_lit 284, ob284 P) ::
  (nat_lit 285, ob285 P) ::
  (nat_lit 286, ob286 P) ::
  (nat_lit 287, ob287 P) ::
  (nat_lit 290, ob290 P) ::
  (nat_lit 297, ob297 P) ::
  (nat_lit 299, ob299 P) ::
  (nat_lit 300, ob300 P) ::
  (nat_lit 302, ob302 P) ::
  (nat_lit 303, ob303 P) ::
  (nat_lit 304, ob304 P) ::
  (nat_lit 306, ob306 P) ::
  (nat_lit 307, ob307 P) ::
  (nat_lit 309, ob309 P) ::
  (nat_lit 310, ob310 P) ::
  (nat_lit 311, ob311 P) ::
  (nat_lit 313, ob313 P) ::
  (nat_lit 314, ob314 P) ::
  (nat_lit 316, ob316 P) ::
  (nat_lit 317, ob317 P) ::
  (nat_lit 318, ob318 P) ::
  (nat_lit 320, ob320 P) ::
  (nat_lit 321, ob321 P) ::
  (nat_lit 323, ob323 P) ::
  (nat_lit 324, ob324 P) ::
  (nat_lit 325, ob325 P) ::
  (nat_lit 327, ob327 P) ::
  (nat_lit 328, ob328 P) ::
  (nat_lit 330, ob330 P) ::
  (nat_lit 331, ob331 P) ::
  (nat_lit 332, ob332 P) ::
  (nat_lit 334, ob334 P) ::
  (nat_lit 335, ob335 P) ::
  (nat_lit 337, ob337 P) ::
  (nat_lit 338, ob338 P) ::
  (nat_lit 339, ob339 P) ::
  (nat_lit 341, ob341 P) ::
  (nat_lit 342, ob342 P) ::
  (nat_lit 344, ob344 P) ::
  (nat_lit 345, ob345 P) ::
  (nat_lit 346, ob346 P) ::
  (nat_lit 348, ob348 P) ::
  (nat_lit 349, ob349 P) ::
  (nat_lit 351, ob351 P) ::
  (nat_lit 352, ob352 P) ::
  (nat_lit 353, ob353 P) ::
  (nat_lit 354, ob354 P) ::
  (nat_lit 355, ob355 P) ::
  (nat_lit 358, ob358 P) ::
  (nat_lit 365, ob365 P) ::
  (nat_lit 367, ob367 P) ::
  (nat_lit 368, ob368 P) ::
  (nat_lit 370, ob370 P) ::
  (nat_lit 371, ob371 P) ::
  (nat_lit 372, ob372 P) ::
  (nat_lit 374, ob374 P) ::
  (nat_lit 375, ob375 P) ::
  (nat_lit 377, ob377 P) ::
  (nat_lit 378, ob378 P) ::
  (nat_lit 379, ob379 P) ::
  (nat_lit 381, ob381 P) ::
  (nat_lit 382, ob382 P) ::
  (nat_lit 384, ob384 P) ::
  (nat_lit 385, ob385 P) ::
  (nat_lit 386, ob386 P) ::
  (nat_lit 388, ob388 P) ::
  (nat_lit 389, ob389 P) ::
  (nat_lit 391, ob391 P) ::
  (nat_lit 392, ob392 P) ::
  (nat_lit 393, ob393 P) ::
  (nat_lit 394, ob394 P) ::
  (nat_lit 395, ob395 P) ::
  (nat_lit 396, ob396 P) ::
  (nat_lit 398, ob398 P) ::
  (nat_lit 399, ob399 P) ::
  (nat_lit 401, ob401 P) ::
  (nat_lit 402, ob402 P) ::
  (nat_lit 403, ob403 P) ::
  (nat_lit 405, ob405 P) ::
  (nat_lit 406, ob406 P) ::
  (nat_lit 408, ob408 P) ::
  (nat_lit 409, ob409 P) ::
  (nat_lit 410, ob410 P) ::
  (nat_lit 412, ob412 P) ::
  (nat_lit 413, ob413 P) ::
  (nat_lit 415, ob415 P) ::
  (nat_lit 416, ob416 P) ::
  (nat_lit 417, ob417 P) ::
  (nat_lit 419, ob419 P) ::
  (nat_lit 420, ob420 P) ::
  (nat_lit 422, ob422 P) ::
  (nat_lit 423, ob423 P) ::
  (nat_lit 424, ob424 P) ::
  (nat_lit 427, ob427 P) ::
  (nat_lit 428, ob428 P) ::
  (nat_lit 429, ob429 P) ::
  (nat_lit 430, ob430 P) ::
  (nat_lit 431, ob431 P) ::
  (nat_lit 434, ob434 P) ::
  (nat_lit 436, ob436 P) ::
  (nat_lit 437, ob437 P) ::
  (nat_lit 439, ob439 P) ::
  (nat_lit 440, ob440 P) ::
  (nat_lit 441, ob441 P) ::
  (nat_lit 444, ob444 P) ::
  (nat_lit 445, ob445 P) ::
  (nat_lit 446, ob446 P) ::
  (nat_lit 448, ob448 P) ::
  (nat_lit 449, ob449 P) ::
  (nat_lit 451, ob451 P) ::
  (nat_lit 452, ob452 P) ::
  (nat_lit 453, ob453 P) ::
  (nat_lit 456, ob456 P) ::
  (nat_lit 457, ob457 P) ::
  []
noncomputable def ob12at1 (_ : Params) : Obj := { cls := Value.none, data := Data.fields #[] }
noncomputable def tr1 (P : Params) : BT := (.node (boot_o_0 P) (.node (boot_o_1 P) (.node (boot_o_3 P) (.node (boot_o_7 P) .nil .nil) (.node (ob11 P) .nil .nil)) (.node (boot_o_5 P) (.node (boot_o_9 P) .nil .nil) (.node (ob13 P) .nil .nil))) (.node (boot_o_2 P) (.node (boot_o_4 P) (.node (boot_o_8 P) .nil .nil) (.node (ob12at1 P) .nil .nil)) (.node (boot_o_6 P) (.node (boot_o_10 P) .nil .nil) (.node (ob14 P) .nil .nil))))
noncomputable def st1 (w : World) (os : OsState) : SharedT := ⟨tr1 w.params, 15, {}, Array.mk [], {}, 187, os⟩
set_option maxRecDepth 100000 in
noncomputable def preH (P : Params) : Heap := ⟨Array.mk (
  boot_o_0 P ::
  boot_o_1 P ::
  boot_o_2 P ::
  boot_o_3 P ::
  boot_o_4 P ::
  boot_o_5 P ::
  boot_o_6 P ::
  boot_o_7 P ::
  boot_o_8 P ::
  boot_o_9 P ::
  boot_o_10 P ::
  ob11 P ::
  ob12at1 P ::
  ob13 P ::
  ob14 P ::
  []), {}⟩
noncomputable def ob3at6 (P : Params) : Obj := { cls := Value.type "dict", data := Data.dict #[{ hash := PyData.keyHash P (Str.ofString "__name__"), key := Value.str (Str.ofString "__name__") 165, val := Value.str (Str.ofString "kyber_py.polynomials.polynomials_generic") 203 }, { hash := PyData.keyHash P (Str.ofString "__doc__"), key := Value.str (Str.ofString "__doc__") 166, val := Value.none }, { hash := PyData.keyHash P (Str.ofString "__package__"), key := Value.str (Str.ofString "__package__") 167, val := Value.none }, bootEntry P 3, { hash := PyData.keyHash P (Str.ofString "__spec__"), key := Value.str (Str.ofString "__spec__") 169, val := Value.none }, { hash := PyData.keyHash P (Str.ofString "__annotations__"), key := Value.str (Str.ofString "__annotations__") 170, val := Value.ref 6 }, { hash := PyData.keyHash P (Str.ofString "__builtins__"), key := Value.str (Str.ofString "__builtins__") 171, val := Value.ref 4 }, { hash := PyData.keyHash P (Str.ofString "__file__"), key := Value.str (Str.ofString "__file__") 173, val := Value.str (Str.ofString "/claim/cut.py") 172 }, { hash := PyData.keyHash P (Str.ofString "__cached__"), key := Value.str (Str.ofString "__cached__") 174, val := Value.none }, { hash := PyData.keyHash P (Str.ofString "_wall"), key := Value.str (Str.ofString "_wall") 193, val := Value.ref 21 }, { hash := PyData.keyHash P (Str.ofString "bit_count"), key := Value.str (Str.ofString "bit_count") 202, val := Value.ref 28 }, { hash := PyData.keyHash P (Str.ofString "GenericPolynomialRing"), key := Value.str (Str.ofString "GenericPolynomialRing") 257, val := Value.ref 66 }] 12 }
noncomputable def ob12at6 (_ : Params) : Obj := { cls := Value.none, data := Data.fields #[Value.int 1 0, Value.int 0 0, Value.ref 20, Value.int 5 0, Value.int 0 0, Value.ref 27, Value.int 8 0, Value.int 0 0, Value.ref 34] }
noncomputable def ob66at6 (_ : Params) : Obj := { cls := Value.type "type", data := Data.cls { name := Str.ofString "GenericPolynomialRing", bases := [Value.type "object"], mro := [Value.ref 66, Value.type "object"], ns := 65, qualname := Str.ofString "GenericPolynomialRing" }, slots := #[none, none, some (Value.str (Str.ofString "GenericPolynomialRing") 205), some (Value.str (Str.ofString "GenericPolynomialRing") 213), some (Value.builtin "object.__new__"), some (Value.bool true)] }
noncomputable def tr6 (P : Params) : BT := (.node (boot_o_0 P) (.node (boot_o_1 P) (.node (ob3at6 P) (.node (boot_o_7 P) (.node (ob15 P) (.node (ob31 P) (.node (ob63 P) .nil .nil) .nil) (.node (ob47 P) .nil .nil)) (.node (ob23 P) (.node (ob39 P) .nil .nil) (.node (ob55 P) .nil .nil))) (.node (ob11 P) (.node (ob19 P) (.node (ob35 P) (.node (ob67 P) .nil .nil) .nil) (.node (ob51 P) .nil .nil)) (.node (ob27 P) (.node (ob43 P) .nil .nil) (.node (ob59 P) .nil .nil)))) (.node (boot_o_5 P) (.node (boot_o_9 P) (.node (ob17 P) (.node (ob33 P) (.node (ob65 P) .nil .nil) .nil) (.node (ob49 P) .nil .nil)) (.node (ob25 P) (.node (ob41 P) .nil .nil) (.node (ob57 P) .nil .nil))) (.node (ob13 P) (.node (ob21 P) (.node (ob37 P) (.node (ob69 P) .nil .nil) .nil) (.node (ob53 P) .nil .nil)) (.node (ob29 P) (.node (ob45 P) .nil .nil) (.node (ob61 P) .nil .nil))))) (.node (boot_o_2 P) (.node (boot_o_4 P) (.node (boot_o_8 P) (.node (ob16 P) (.node (ob32 P) (.node (ob64 P) .nil .nil) .nil) (.node (ob48 P) .nil .nil)) (.node (ob24 P) (.node (ob40 P) .nil .nil) (.node (ob56 P) .nil .nil))) (.node (ob12at6 P) (.node (ob20 P) (.node (ob36 P) (.node (ob68 P) .nil .nil) .nil) (.node (ob52 P) .nil .nil)) (.node (ob28 P) (.node (ob44 P) .nil .nil) (.node (ob60 P) .nil .nil)))) (.node (boot_o_6 P) (.node (boot_o_10 P) (.node (ob18 P) (.node (ob34 P) (.node (ob66at6 P) .nil .nil) .nil) (.node (ob50 P) .nil .nil)) (.node (ob26 P) (.node (ob42 P) .nil .nil) (.node (ob58 P) .nil .nil))) (.node (ob14 P) (.node (ob22 P) (.node (ob38 P) (.node (ob70 P) .nil .nil) .nil) (.node (ob54 P) .nil .nil)) (.node (ob30 P) (.node (ob46 P) .nil .nil) (.node (ob62 P) .nil .nil))))))
noncomputable def st6 (w : World) (os : OsState) : SharedT := ⟨tr6 w.params, 71, {}, Array.mk [], {}, 258, os⟩
noncomputable def ob3at7 (P : Params) : Obj := { cls := Value.type "dict", data := Data.dict #[{ hash := PyData.keyHash P (Str.ofString "__name__"), key := Value.str (Str.ofString "__name__") 165, val := Value.str (Str.ofString "kyber_py.polynomials.polynomials_generic") 203 }, { hash := PyData.keyHash P (Str.ofString "__doc__"), key := Value.str (Str.ofString "__doc__") 166, val := Value.none }, { hash := PyData.keyHash P (Str.ofString "__package__"), key := Value.str (Str.ofString "__package__") 167, val := Value.none }, bootEntry P 3, { hash := PyData.keyHash P (Str.ofString "__spec__"), key := Value.str (Str.ofString "__spec__") 169, val := Value.none }, { hash := PyData.keyHash P (Str.ofString "__annotations__"), key := Value.str (Str.ofString "__annotations__") 170, val := Value.ref 6 }, { hash := PyData.keyHash P (Str.ofString "__builtins__"), key := Value.str (Str.ofString "__builtins__") 171, val := Value.ref 4 }, { hash := PyData.keyHash P (Str.ofString "__file__"), key := Value.str (Str.ofString "__file__") 173, val := Value.str (Str.ofString "/claim/cut.py") 172 }, { hash := PyData.keyHash P (Str.ofString "__cached__"), key := Value.str (Str.ofString "__cached__") 174, val := Value.none }, { hash := PyData.keyHash P (Str.ofString "_wall"), key := Value.str (Str.ofString "_wall") 193, val := Value.ref 21 }, { hash := PyData.keyHash P (Str.ofString "bit_count"), key := Value.str (Str.ofString "bit_count") 202, val := Value.ref 28 }, { hash := PyData.keyHash P (Str.ofString "GenericPolynomialRing"), key := Value.str (Str.ofString "GenericPolynomialRing") 257, val := Value.ref 66 }, { hash := PyData.keyHash P (Str.ofString "GenericPolynomial"), key := Value.str (Str.ofString "GenericPolynomial") 456, val := Value.ref 229 }] 13 }
noncomputable def ob12at7 (_ : Params) : Obj := { cls := Value.none, data := Data.fields #[Value.int 1 0, Value.int 0 0, Value.ref 20, Value.int 5 0, Value.int 0 0, Value.ref 27, Value.int 8 0, Value.int 0 0, Value.ref 34, Value.int 26 0, Value.int 0 0, Value.ref 76] }
noncomputable def ob66at7 (_ : Params) : Obj := { cls := Value.type "type", data := Data.cls { name := Str.ofString "GenericPolynomialRing", bases := [Value.type "object"], mro := [Value.ref 66, Value.type "object"], ns := 65, qualname := Str.ofString "GenericPolynomialRing" }, slots := #[none, none, some (Value.str (Str.ofString "GenericPolynomialRing") 205), some (Value.str (Str.ofString "GenericPolynomialRing") 213), some (Value.builtin "object.__new__"), some (Value.bool true)] }
noncomputable def ob229at7 (_ : Params) : Obj := { cls := Value.type "type", data := Data.cls { name := Str.ofString "GenericPolynomial", bases := [Value.type "object"], mro := [Value.ref 229, Value.type "object"], ns := 228, qualname := Str.ofString "GenericPolynomial" }, slots := #[none, none, some (Value.str (Str.ofString "GenericPolynomial") 258), some (Value.str (Str.ofString "GenericPolynomial") 266), some (Value.builtin "object.__new__"), some (Value.bool true)] }
noncomputable def tr7 (P : Params) : BT := (.node (boot_o_0 P) (.node (boot_o_1 P) (.node (ob3at7 P) (.node (boot_o_7 P) (.node (ob15 P) (.node (ob31 P) (.node (ob63 P) (.node (ob127 P) .nil .nil) (.node (ob191 P) .nil .nil)) (.node (ob95 P) (.node (ob159 P) .nil .nil) (.node (ob223 P) .nil .nil))) (.node (ob47 P) (.node (ob79 P) (.node (ob143 P) .nil .nil) (.node (ob207 P) .nil .nil)) (.node (ob111 P) (.node (ob175 P) .nil .nil) .nil))) (.node (ob23 P) (.node (ob39 P) (.node (ob71 P) (.node (ob135 P) .nil .nil) (.node (ob199 P) .nil .nil)) (.node (ob103 P) (.node (ob167 P) .nil .nil) (.node (ob231 P) .nil .nil))) (.node (ob55 P) (.node (ob87 P) (.node (ob151 P) .nil .nil) (.node (ob215 P) .nil .nil)) (.node (ob119 P) (.node (ob183 P) .nil .nil) .nil)))) (.node (ob11 P) (.node (ob19 P) (.node (ob35 P) (.node (ob67 P) (.node (ob131 P) .nil .nil) (.node (ob195 P) .nil .nil)) (.node (ob99 P) (.node (ob163 P) .nil .nil) (.node (ob227 P) .nil .nil))) (.node (ob51 P) (.node (ob83 P) (.node (ob147 P) .nil .nil) (.node (ob211 P) .nil .nil)) (.node (ob115 P) (.node (ob179 P) .nil .nil) .nil))) (.node (ob27 P) (.node (ob43 P) (.node (ob75 P) (.node (ob139 P) .nil .nil) (.node (ob203 P) .nil .nil)) (.node (ob107 P) (.node (ob171 P) .nil .nil) .nil)) (.node (ob59 P) (.node (ob91 P) (.node (ob155 P) .nil .nil) (.node (ob219 P) .nil .nil)) (.node (ob123 P) (.node (ob187 P) .nil .nil) .nil))))) (.node (boot_o_5 P) (.node (boot_o_9 P) (.node (ob17 P) (.node (ob33 P) (.node (ob65 P) (.node (ob129 P) .nil .nil) (.node (ob193 P) .nil .nil)) (.node (ob97 P) (.node (ob161 P) .nil .nil) (.node (ob225 P) .nil .nil))) (.node (ob49 P) (.node (ob81 P) (.node (ob145 P) .nil .nil) (.node (ob209 P) .nil .nil)) (.node (ob113 P) (.node (ob177 P) .nil .nil) .nil))) (.node (ob25 P) (.node (ob41 P) (.node (ob73 P) (.node (ob137 P) .nil .nil) (.node (ob201 P) .nil .nil)) (.node (ob105 P) (.node (ob169 P) .nil .nil) (.node (ob233 P) .nil .nil))) (.node (ob57 P) (.node (ob89 P) (.node (ob153 P) .nil .nil) (.node (ob217 P) .nil .nil)) (.node (ob121 P) (.node (ob185 P) .nil .nil) .nil)))) (.node (ob13 P) (.node (ob21 P) (.node (ob37 P) (.node (ob69 P) (.node (ob133 P) .nil .nil) (.node (ob197 P) .nil .nil)) (.node (ob101 P) (.node (ob165 P) .nil .nil) (.node (ob229at7 P) .nil .nil))) (.node (ob53 P) (.node (ob85 P) (.node (ob149 P) .nil .nil) (.node (ob213 P) .nil .nil)) (.node (ob117 P) (.node (ob181 P) .nil .nil) .nil))) (.node (ob29 P) (.node (ob45 P) (.node (ob77 P) (.node (ob141 P) .nil .nil) (.node (ob205 P) .nil .nil)) (.node (ob109 P) (.node (ob173 P) .nil .nil) .nil)) (.node (ob61 P) (.node (ob93 P) (.node (ob157 P) .nil .nil) (.node (ob221 P) .nil .nil)) (.node (ob125 P) (.node (ob189 P) .nil .nil) .nil)))))) (.node (boot_o_2 P) (.node (boot_o_4 P) (.node (boot_o_8 P) (.node (ob16 P) (.node (ob32 P) (.node (ob64 P) (.node (ob128 P) .nil .nil) (.node (ob192 P) .nil .nil)) (.node (ob96 P) (.node (ob160 P) .nil .nil) (.node (ob224 P) .nil .nil))) (.node (ob48 P) (.node (ob80 P) (.node (ob144 P) .nil .nil) (.node (ob208 P) .nil .nil)) (.node (ob112 P) (.node (ob176 P) .nil .nil) .nil))) (.node (ob24 P) (.node (ob40 P) (.node (ob72 P) (.node (ob136 P) .nil .nil) (.node (ob200 P) .nil .nil)) (.node (ob104 P) (.node (ob168 P) .nil .nil) (.node (ob232 P) .nil .nil))) (.node (ob56 P) (.node (ob88 P) (.node (ob152 P) .nil .nil) (.node (ob216 P) .nil .nil)) (.node (ob120 P) (.node (ob184 P) .nil .nil) .nil)))) (.node (ob12at7 P) (.node (ob20 P) (.node (ob36 P) (.node (ob68 P) (.node (ob132 P) .nil .nil) (.node (ob196 P) .nil .nil)) (.node (ob100 P) (.node (ob164 P) .nil .nil) (.node (ob228 P) .nil .nil))) (.node (ob52 P) (.node (ob84 P) (.node (ob148 P) .nil .nil) (.node (ob212 P) .nil .nil)) (.node (ob116 P) (.node (ob180 P) .nil .nil) .nil))) (.node (ob28 P) (.node (ob44 P) (.node (ob76 P) (.node (ob140 P) .nil .nil) (.node (ob204 P) .nil .nil)) (.node (ob108 P) (.node (ob172 P) .nil .nil) .nil)) (.node (ob60 P) (.node (ob92 P) (.node (ob156 P) .nil .nil) (.node (ob220 P) .nil .nil)) (.node (ob124 P) (.node (ob188 P) .nil .nil) .nil))))) (.node (boot_o_6 P) (.node (boot_o_10 P) (.node (ob18 P) (.node (ob34 P) (.node (ob66at7 P) (.node (ob130 P) .nil .nil) (.node (ob194 P) .nil .nil)) (.node (ob98 P) (.node (ob162 P) .nil .nil) (.node (ob226 P) .nil .nil))) (.node (ob50 P) (.node (ob82 P) (.node (ob146 P) .nil .nil) (.node (ob210 P) .nil .nil)) (.node (ob114 P) (.node (ob178 P) .nil .nil) .nil))) (.node (ob26 P) (.node (ob42 P) (.node (ob74 P) (.node (ob138 P) .nil .nil) (.node (ob202 P) .nil .nil)) (.node (ob106 P) (.node (ob170 P) .nil .nil) .nil)) (.node (ob58 P) (.node (ob90 P) (.node (ob154 P) .nil .nil) (.node (ob218 P) .nil .nil)) (.node (ob122 P) (.node (ob186 P) .nil .nil) .nil)))) (.node (ob14 P) (.node (ob22 P) (.node (ob38 P) (.node (ob70 P) (.node (ob134 P) .nil .nil) (.node (ob198 P) .nil .nil)) (.node (ob102 P) (.node (ob166 P) .nil .nil) (.node (ob230 P) .nil .nil))) (.node (ob54 P) (.node (ob86 P) (.node (ob150 P) .nil .nil) (.node (ob214 P) .nil .nil)) (.node (ob118 P) (.node (ob182 P) .nil .nil) .nil))) (.node (ob30 P) (.node (ob46 P) (.node (ob78 P) (.node (ob142 P) .nil .nil) (.node (ob206 P) .nil .nil)) (.node (ob110 P) (.node (ob174 P) .nil .nil) .nil)) (.node (ob62 P) (.node (ob94 P) (.node (ob158 P) .nil .nil) (.node (ob222 P) .nil .nil)) (.node (ob126 P) (.node (ob190 P) .nil .nil) .nil)))))))
noncomputable def st7 (w : World) (os : OsState) : SharedT := ⟨tr7 w.params, 234, {}, Array.mk [], {}, 457, os⟩
noncomputable def ob3at9 (P : Params) : Obj := { cls := Value.type "dict", data := Data.dict #[{ hash := PyData.keyHash P (Str.ofString "__name__"), key := Value.str (Str.ofString "__name__") 165, val := Value.str (Str.ofString "kyber_py.polynomials.polynomials") 457 }, { hash := PyData.keyHash P (Str.ofString "__doc__"), key := Value.str (Str.ofString "__doc__") 166, val := Value.none }, { hash := PyData.keyHash P (Str.ofString "__package__"), key := Value.str (Str.ofString "__package__") 167, val := Value.none }, bootEntry P 3, { hash := PyData.keyHash P (Str.ofString "__spec__"), key := Value.str (Str.ofString "__spec__") 169, val := Value.none }, { hash := PyData.keyHash P (Str.ofString "__annotations__"), key := Value.str (Str.ofString "__annotations__") 170, val := Value.ref 6 }, { hash := PyData.keyHash P (Str.ofString "__builtins__"), key := Value.str (Str.ofString "__builtins__") 171, val := Value.ref 4 }, { hash := PyData.keyHash P (Str.ofString "__file__"), key := Value.str (Str.ofString "__file__") 173, val := Value.str (Str.ofString "/claim/cut.py") 172 }, { hash := PyData.keyHash P (Str.ofString "__cached__"), key := Value.str (Str.ofString "__cached__") 174, val := Value.none }, { hash := PyData.keyHash P (Str.ofString "_wall"), key := Value.str (Str.ofString "_wall") 193, val := Value.ref 21 }, { hash := PyData.keyHash P (Str.ofString "bit_count"), key := Value.str (Str.ofString "bit_count") 202, val := Value.ref 28 }, { hash := PyData.keyHash P (Str.ofString "GenericPolynomialRing"), key := Value.str (Str.ofString "GenericPolynomialRing") 257, val := Value.ref 66 }, { hash := PyData.keyHash P (Str.ofString "GenericPolynomial"), key := Value.str (Str.ofString "GenericPolynomial") 456, val := Value.ref 229 }, { hash := PyData.keyHash P (Str.ofString "PolynomialRing"), key := Value.str (Str.ofString "PolynomialRing") 538, val := Value.ref 287 }] 14 }
noncomputable def ob12at9 (_ : Params) : Obj := { cls := Value.none, data := Data.fields #[Value.int 1 0, Value.int 0 0, Value.ref 20, Value.int 5 0, Value.int 0 0, Value.ref 27, Value.int 8 0, Value.int 0 0, Value.ref 34, Value.int 26 0, Value.int 0 0, Value.ref 76, Value.int 155 0, Value.int 0 0, Value.ref 239] }
noncomputable def ob229at9 (_ : Params) : Obj := { cls := Value.type "type", data := Data.cls { name := Str.ofString "GenericPolynomial", bases := [Value.type "object"], mro := [Value.ref 229, Value.type "object"], ns := 228, qualname := Str.ofString "GenericPolynomial" }, slots := #[none, none, some (Value.str (Str.ofString "GenericPolynomial") 258), some (Value.str (Str.ofString "GenericPolynomial") 266), some (Value.builtin "object.__new__"), some (Value.bool true)] }
noncomputable def tr9 (P : Params) : BT := (.node (boot_o_0 P) (.node (boot_o_1 P) (.node (ob3at9 P) (.node (boot_o_7 P) (.node (ob15 P) (.node (ob31 P) (.node (ob63 P) (.node (ob127 P) (.node (ob255 P) .nil .nil) .nil) (.node (ob191 P) .nil .nil)) (.node (ob95 P) (.node (ob159 P) (.node (ob287 P) .nil .nil) .nil) (.node (ob223 P) .nil .nil))) (.node (ob47 P) (.node (ob79 P) (.node (ob143 P) (.node (ob271 P) .nil .nil) .nil) (.node (ob207 P) .nil .nil)) (.node (ob111 P) (.node (ob175 P) .nil .nil) (.node (ob239 P) .nil .nil)))) (.node (ob23 P) (.node (ob39 P) (.node (ob71 P) (.node (ob135 P) (.node (ob263 P) .nil .nil) .nil) (.node (ob199 P) .nil .nil)) (.node (ob103 P) (.node (ob167 P) .nil .nil) (.node (ob231 P) .nil .nil))) (.node (ob55 P) (.node (ob87 P) (.node (ob151 P) (.node (ob279 P) .nil .nil) .nil) (.node (ob215 P) .nil .nil)) (.node (ob119 P) (.node (ob183 P) .nil .nil) (.node (ob247 P) .nil .nil))))) (.node (ob11 P) (.node (ob19 P) (.node (ob35 P) (.node (ob67 P) (.node (ob131 P) (.node (ob259 P) .nil .nil) .nil) (.node (ob195 P) .nil .nil)) (.node (ob99 P) (.node (ob163 P) .nil .nil) (.node (ob227 P) .nil .nil))) (.node (ob51 P) (.node (ob83 P) (.node (ob147 P) (.node (ob275 P) .nil .nil) .nil) (.node (ob211 P) .nil .nil)) (.node (ob115 P) (.node (ob179 P) .nil .nil) (.node (ob243 P) .nil .nil)))) (.node (ob27 P) (.node (ob43 P) (.node (ob75 P) (.node (ob139 P) (.node (ob267 P) .nil .nil) .nil) (.node (ob203 P) .nil .nil)) (.node (ob107 P) (.node (ob171 P) .nil .nil) (.node (ob235 P) .nil .nil))) (.node (ob59 P) (.node (ob91 P) (.node (ob155 P) (.node (ob283 P) .nil .nil) .nil) (.node (ob219 P) .nil .nil)) (.node (ob123 P) (.node (ob187 P) .nil .nil) (.node (ob251 P) .nil .nil)))))) (.node (boot_o_5 P) (.node (boot_o_9 P) (.node (ob17 P) (.node (ob33 P) (.node (ob65 P) (.node (ob129 P) (.node (ob257 P) .nil .nil) .nil) (.node (ob193 P) .nil .nil)) (.node (ob97 P) (.node (ob161 P) (.node (ob289 P) .nil .nil) .nil) (.node (ob225 P) .nil .nil))) (.node (ob49 P) (.node (ob81 P) (.node (ob145 P) (.node (ob273 P) .nil .nil) .nil) (.node (ob209 P) .nil .nil)) (.node (ob113 P) (.node (ob177 P) .nil .nil) (.node (ob241 P) .nil .nil)))) (.node (ob25 P) (.node (ob41 P) (.node (ob73 P) (.node (ob137 P) (.node (ob265 P) .nil .nil) .nil) (.node (ob201 P) .nil .nil)) (.node (ob105 P) (.node (ob169 P) .nil .nil) (.node (ob233 P) .nil .nil))) (.node (ob57 P) (.node (ob89 P) (.node (ob153 P) (.node (ob281 P) .nil .nil) .nil) (.node (ob217 P) .nil .nil)) (.node (ob121 P) (.node (ob185 P) .nil .nil) (.node (ob249 P) .nil .nil))))) (.node (ob13 P) (.node (ob21 P) (.node (ob37 P) (.node (ob69 P) (.node (ob133 P) (.node (ob261 P) .nil .nil) .nil) (.node (ob197 P) .nil .nil)) (.node (ob101 P) (.node (ob165 P) .nil .nil) (.node (ob229at9 P) .nil .nil))) (.node (ob53 P) (.node (ob85 P) (.node (ob149 P) (.node (ob277 P) .nil .nil) .nil) (.node (ob213 P) .nil .nil)) (.node (ob117 P) (.node (ob181 P) .nil .nil) (.node (ob245 P) .nil .nil)))) (.node (ob29 P) (.node (ob45 P) (.node (ob77 P) (.node (ob141 P) (.node (ob269 P) .nil .nil) .nil) (.node (ob205 P) .nil .nil)) (.node (ob109 P) (.node (ob173 P) .nil .nil) (.node (ob237 P) .nil .nil))) (.node (ob61 P) (.node (ob93 P) (.node (ob157 P) (.node (ob285 P) .nil .nil) .nil) (.node (ob221 P) .nil .nil)) (.node (ob125 P) (.node (ob189 P) .nil .nil) (.node (ob253 P) .nil .nil))))))) (.node (boot_o_2 P) (.node (boot_o_4 P) (.node (boot_o_8 P) (.node (ob16 P) (.node (ob32 P) (.node (ob64 P) (.node (ob128 P) (.node (ob256 P) .nil .nil) .nil) (.node (ob192 P) .nil .nil)) (.node (ob96 P) (.node (ob160 P) (.node (ob288 P) .nil .nil) .nil) (.node (ob224 P) .nil .nil))) (.node (ob48 P) (.node (ob80 P) (.node (ob144 P) (.node (ob272 P) .nil .nil) .nil) (.node (ob208 P) .nil .nil)) (.node (ob112 P) (.node (ob176 P) .nil .nil) (.node (ob240 P) .nil .nil)))) (.node (ob24 P) (.node (ob40 P) (.node (ob72 P) (.node (ob136 P) (.node (ob264 P) .nil .nil) .nil) (.node (ob200 P) .nil .nil)) (.node (ob104 P) (.node (ob168 P) .nil .nil) (.node (ob232 P) .nil .nil))) (.node (ob56 P) (.node (ob88 P) (.node (ob152 P) (.node (ob280 P) .nil .nil) .nil) (.node (ob216 P) .nil .nil)) (.node (ob120 P) (.node (ob184 P) .nil .nil) (.node (ob248 P) .nil .nil))))) (.node (ob12at9 P) (.node (ob20 P) (.node (ob36 P) (.node (ob68 P) (.node (ob132 P) (.node (ob260 P) .nil .nil) .nil) (.node (ob196 P) .nil .nil)) (.node (ob100 P) (.node (ob164 P) .nil .nil) (.node (ob228 P) .nil .nil))) (.node (ob52 P) (.node (ob84 P) (.node (ob148 P) (.node (ob276 P) .nil .nil) .nil) (.node (ob212 P) .nil .nil)) (.node (ob116 P) (.node (ob180 P) .nil .nil) (.node (ob244 P) .nil .nil)))) (.node (ob28 P) (.node (ob44 P) (.node (ob76 P) (.node (ob140 P) (.node (ob268 P) .nil .nil) .nil) (.node (ob204 P) .nil .nil)) (.node (ob108 P) (.node (ob172 P) .nil .nil) (.node (ob236 P) .nil .nil))) (.node (ob60 P) (.node (ob92 P) (.node (ob156 P) (.node (ob284 P) .nil .nil) .nil) (.node (ob220 P) .nil .nil)) (.node (ob124 P) (.node (ob188 P) .nil .nil) (.node (ob252 P) .nil .nil)))))) (.node (boot_o_6 P) (.node (boot_o_10 P) (.node (ob18 P) (.node (ob34 P) (.node (ob66 P) (.node (ob130 P) (.node (ob258 P) .nil .nil) .nil) (.node (ob194 P) .nil .nil)) (.node (ob98 P) (.node (ob162 P) .nil .nil) (.node (ob226 P) .nil .nil))) (.node (ob50 P) (.node (ob82 P) (.node (ob146 P) (.node (ob274 P) .nil .nil) .nil) (.node (ob210 P) .nil .nil)) (.node (ob114 P) (.node (ob178 P) .nil .nil) (.node (ob242 P) .nil .nil)))) (.node (ob26 P) (.node (ob42 P) (.node (ob74 P) (.node (ob138 P) (.node (ob266 P) .nil .nil) .nil) (.node (ob202 P) .nil .nil)) (.node (ob106 P) (.node (ob170 P) .nil .nil) (.node (ob234 P) .nil .nil))) (.node (ob58 P) (.node (ob90 P) (.node (ob154 P) (.node (ob282 P) .nil .nil) .nil) (.node (ob218 P) .nil .nil)) (.node (ob122 P) (.node (ob186 P) .nil .nil) (.node (ob250 P) .nil .nil))))) (.node (ob14 P) (.node (ob22 P) (.node (ob38 P) (.node (ob70 P) (.node (ob134 P) (.node (ob262 P) .nil .nil) .nil) (.node (ob198 P) .nil .nil)) (.node (ob102 P) (.node (ob166 P) .nil .nil) (.node (ob230 P) .nil .nil))) (.node (ob54 P) (.node (ob86 P) (.node (ob150 P) (.node (ob278 P) .nil .nil) .nil) (.node (ob214 P) .nil .nil)) (.node (ob118 P) (.node (ob182 P) .nil .nil) (.node (ob246 P) .nil .nil)))) (.node (ob30 P) (.node (ob46 P) (.node (ob78 P) (.node (ob142 P) (.node (ob270 P) .nil .nil) .nil) (.node (ob206 P) .nil .nil)) (.node (ob110 P) (.node (ob174 P) .nil .nil) (.node (ob238 P) .nil .nil))) (.node (ob62 P) (.node (ob94 P) (.node (ob158 P) (.node (ob286 P) .nil .nil) .nil) (.node (ob222 P) .nil .nil)) (.node (ob126 P) (.node (ob190 P) .nil .nil) (.node (ob254 P) .nil .nil))))))))
noncomputable def st9 (w : World) (os : OsState) : SharedT := ⟨tr9 w.params, 290, {}, Array.mk [], {}, 539, os⟩
noncomputable def ob3at10 (P : Params) : Obj := { cls := Value.type "dict", data := Data.dict #[{ hash := PyData.keyHash P (Str.ofString "__name__"), key := Value.str (Str.ofString "__name__") 165, val := Value.str (Str.ofString "kyber_py.polynomials.polynomials") 457 }, { hash := PyData.keyHash P (Str.ofString "__doc__"), key := Value.str (Str.ofString "__doc__") 166, val := Value.none }, { hash := PyData.keyHash P (Str.ofString "__package__"), key := Value.str (Str.ofString "__package__") 167, val := Value.none }, bootEntry P 3, { hash := PyData.keyHash P (Str.ofString "__spec__"), key := Value.str (Str.ofString "__spec__") 169, val := Value.none }, { hash := PyData.keyHash P (Str.ofString "__annotations__"), key := Value.str (Str.ofString "__annotations__") 170, val := Value.ref 6 }, { hash := PyData.keyHash P (Str.ofString "__builtins__"), key := Value.str (Str.ofString "__builtins__") 171, val := Value.ref 4 }, { hash := PyData.keyHash P (Str.ofString "__file__"), key := Value.str (Str.ofString "__file__") 173, val := Value.str (Str.ofString "/claim/cut.py") 172 }, { hash := PyData.keyHash P (Str.ofString "__cached__"), key := Value.str (Str.ofString "__cached__") 174, val := Value.none }, { hash := PyData.keyHash P (Str.ofString "_wall"), key := Value.str (Str.ofString "_wall") 193, val := Value.ref 21 }, { hash := PyData.keyHash P (Str.ofString "bit_count"), key := Value.str (Str.ofString "bit_count") 202, val := Value.ref 28 }, { hash := PyData.keyHash P (Str.ofString "GenericPolynomialRing"), key := Value.str (Str.ofString "GenericPolynomialRing") 257, val := Value.ref 66 }, { hash := PyData.keyHash P (Str.ofString "GenericPolynomial"), key := Value.str (Str.ofString "GenericPolynomial") 456, val := Value.ref 229 }, { hash := PyData.keyHash P (Str.ofString "PolynomialRing"), key := Value.str (Str.ofString "PolynomialRing") 538, val := Value.ref 287 }, { hash := PyData.keyHash P (Str.ofString "Polynomial"), key := Value.str (Str.ofString "Polynomial") 621, val := Value.ref 355 }] 15 }
noncomputable def ob12at10 (_ : Params) : Obj := { cls := Value.none, data := Data.fields #[Value.int 1 0, Value.int 0 0, Value.ref 20, Value.int 5 0, Value.int 0 0, Value.ref 27, Value.int 8 0, Value.int 0 0, Value.ref 34, Value.int 26 0, Value.int 0 0, Value.ref 76, Value.int 155 0, Value.int 0 0, Value.ref 239, Value.int 197 0, Value.int 0 0, Value.ref 295] }
noncomputable def ob355at10 (_ : Params) : Obj := { cls := Value.type "type", data := Data.cls { name := Str.ofString "Polynomial", bases := [Value.ref 229], mro := [Value.ref 355, Value.ref 229, Value.type "object"], ns := 354, qualname := Str.ofString "Polynomial" }, slots := #[some (Value.ref 290), none, some (Value.str (Str.ofString "Polynomial") 539), some (Value.str (Str.ofString "Polynomial") 547), some (Value.builtin "object.__new__"), some (Value.bool true)] }
noncomputable def tr10 (P : Params) : BT := (.node (boot_o_0 P) (.node (boot_o_1 P) (.node (ob3at10 P) (.node (boot_o_7 P) (.node (ob15 P) (.node (ob31 P) (.node (ob63 P) (.node (ob127 P) (.node (ob255 P) .nil .nil) .nil) (.node (ob191 P) (.node (ob319 P) .nil .nil) .nil)) (.node (ob95 P) (.node (ob159 P) (.node (ob287 P) .nil .nil) .nil) (.node (ob223 P) (.node (ob351 P) .nil .nil) .nil))) (.node (ob47 P) (.node (ob79 P) (.node (ob143 P) (.node (ob271 P) .nil .nil) .nil) (.node (ob207 P) (.node (ob335 P) .nil .nil) .nil)) (.node (ob111 P) (.node (ob175 P) (.node (ob303 P) .nil .nil) .nil) (.node (ob239 P) .nil .nil)))) (.node (ob23 P) (.node (ob39 P) (.node (ob71 P) (.node (ob135 P) (.node (ob263 P) .nil .nil) .nil) (.node (ob199 P) (.node (ob327 P) .nil .nil) .nil)) (.node (ob103 P) (.node (ob167 P) (.node (ob295 P) .nil .nil) .nil) (.node (ob231 P) .nil .nil))) (.node (ob55 P) (.node (ob87 P) (.node (ob151 P) (.node (ob279 P) .nil .nil) .nil) (.node (ob215 P) (.node (ob343 P) .nil .nil) .nil)) (.node (ob119 P) (.node (ob183 P) (.node (ob311 P) .nil .nil) .nil) (.node (ob247 P) .nil .nil))))) (.node (ob11 P) (.node (ob19 P) (.node (ob35 P) (.node (ob67 P) (.node (ob131 P) (.node (ob259 P) .nil .nil) .nil) (.node (ob195 P) (.node (ob323 P) .nil .nil) .nil)) (.node (ob99 P) (.node (ob163 P) (.node (ob291 P) .nil .nil) .nil) (.node (ob227 P) (.node (ob355at10 P) .nil .nil) .nil))) (.node (ob51 P) (.node (ob83 P) (.node (ob147 P) (.node (ob275 P) .nil .nil) .nil) (.node (ob211 P) (.node (ob339 P) .nil .nil) .nil)) (.node (ob115 P) (.node (ob179 P) (.node (ob307 P) .nil .nil) .nil) (.node (ob243 P) .nil .nil)))) (.node (ob27 P) (.node (ob43 P) (.node (ob75 P) (.node (ob139 P) (.node (ob267 P) .nil .nil) .nil) (.node (ob203 P) (.node (ob331 P) .nil .nil) .nil)) (.node (ob107 P) (.node (ob171 P) (.node (ob299 P) .nil .nil) .nil) (.node (ob235 P) .nil .nil))) (.node (ob59 P) (.node (ob91 P) (.node (ob155 P) (.node (ob283 P) .nil .nil) .nil) (.node (ob219 P) (.node (ob347 P) .nil .nil) .nil)) (.node (ob123 P) (.node (ob187 P) (.node (ob315 P) .nil .nil) .nil) (.node (ob251 P) .nil .nil)))))) (.node (boot_o_5 P) (.node (boot_o_9 P) (.node (ob17 P) (.node (ob33 P) (.node (ob65 P) (.node (ob129 P) (.node (ob257 P) .nil .nil) .nil) (.node (ob193 P) (.node (ob321 P) .nil .nil) .nil)) (.node (ob97 P) (.node (ob161 P) (.node (ob289 P) .nil .nil) .nil) (.node (ob225 P) (.node (ob353 P) .nil .nil) .nil))) (.node (ob49 P) (.node (ob81 P) (.node (ob145 P) (.node (ob273 P) .nil .nil) .nil) (.node (ob209 P) (.node (ob337 P) .nil .nil) .nil)) (.node (ob113 P) (.node (ob177 P) (.node (ob305 P) .nil .nil) .nil) (.node (ob241 P) .nil .nil)))) (.node (ob25 P) (.node (ob41 P) (.node (ob73 P) (.node (ob137 P) (.node (ob265 P) .nil .nil) .nil) (.node (ob201 P) (.node (ob329 P) .nil .nil) .nil)) (.node (ob105 P) (.node (ob169 P) (.node (ob297 P) .nil .nil) .nil) (.node (ob233 P) .nil .nil))) (.node (ob57 P) (.node (ob89 P) (.node (ob153 P) (.node (ob281 P) .nil .nil) .nil) (.node (ob217 P) (.node (ob345 P) .nil .nil) .nil)) (.node (ob121 P) (.node (ob185 P) (.node (ob313 P) .nil .nil) .nil) (.node (ob249 P) .nil .nil))))) (.node (ob13 P) (.node (ob21 P) (.node (ob37 P) (.node (ob69 P) (.node (ob133 P) (.node (ob261 P) .nil .nil) .nil) (.node (ob197 P) (.node (ob325 P) .nil .nil) .nil)) (.node (ob101 P) (.node (ob165 P) (.node (ob293 P) .nil .nil) .nil) (.node (ob229 P) (.node (ob357 P) .nil .nil) .nil))) (.node (ob53 P) (.node (ob85 P) (.node (ob149 P) (.node (ob277 P) .nil .nil) .nil) (.node (ob213 P) (.node (ob341 P) .nil .nil) .nil)) (.node (ob117 P) (.node (ob181 P) (.node (ob309 P) .nil .nil) .nil) (.node (ob245 P) .nil .nil)))) (.node (ob29 P) (.node (ob45 P) (.node (ob77 P) (.node (ob141 P) (.node (ob269 P) .nil .nil) .nil) (.node (ob205 P) (.node (ob333 P) .nil .nil) .nil)) (.node (ob109 P) (.node (ob173 P) (.node (ob301 P) .nil .nil) .nil) (.node (ob237 P) .nil .nil))) (.node (ob61 P) (.node (ob93 P) (.node (ob157 P) (.node (ob285 P) .nil .nil) .nil) (.node (ob221 P) (.node (ob349 P) .nil .nil) .nil)) (.node (ob125 P) (.node (ob189 P) (.node (ob317 P) .nil .nil) .nil) (.node (ob253 P) .nil .nil))))))) (.node (boot_o_2 P) (.node (boot_o_4 P) (.node (boot_o_8 P) (.node (ob16 P) (.node (ob32 P) (.node (ob64 P) (.node (ob128 P) (.node (ob256 P) .nil .nil) .nil) (.node (ob192 P) (.node (ob320 P) .nil .nil) .nil)) (.node (ob96 P) (.node (ob160 P) (.node (ob288 P) .nil .nil) .nil) (.node (ob224 P) (.node (ob352 P) .nil .nil) .nil))) (.node (ob48 P) (.node (ob80 P) (.node (ob144 P) (.node (ob272 P) .nil .nil) .nil) (.node (ob208 P) (.node (ob336 P) .nil .nil) .nil)) (.node (ob112 P) (.node (ob176 P) (.node (ob304 P) .nil .nil) .nil) (.node (ob240 P) .nil .nil)))) (.node (ob24 P) (.node (ob40 P) (.node (ob72 P) (.node (ob136 P) (.node (ob264 P) .nil .nil) .nil) (.node (ob200 P) (.node (ob328 P) .nil .nil) .nil)) (.node (ob104 P) (.node (ob168 P) (.node (ob296 P) .nil .nil) .nil) (.node (ob232 P) .nil .nil))) (.node (ob56 P) (.node (ob88 P) (.node (ob152 P) (.node (ob280 P) .nil .nil) .nil) (.node (ob216 P) (.node (ob344 P) .nil .nil) .nil)) (.node (ob120 P) (.node (ob184 P) (.node (ob312 P) .nil .nil) .nil) (.node (ob248 P) .nil .nil))))) (.node (ob12at10 P) (.node (ob20 P) (.node (ob36 P) (.node (ob68 P) (.node (ob132 P) (.node (ob260 P) .nil .nil) .nil) (.node (ob196 P) (.node (ob324 P) .nil .nil) .nil)) (.node (ob100 P) (.node (ob164 P) (.node (ob292 P) .nil .nil) .nil) (.node (ob228 P) (.node (ob356 P) .nil .nil) .nil))) (.node (ob52 P) (.node (ob84 P) (.node (ob148 P) (.node (ob276 P) .nil .nil) .nil) (.node (ob212 P) (.node (ob340 P) .nil .nil) .nil)) (.node (ob116 P) (.node (ob180 P) (.node (ob308 P) .nil .nil) .nil) (.node (ob244 P) .nil .nil)))) (.node (ob28 P) (.node (ob44 P) (.node (ob76 P) (.node (ob140 P) (.node (ob268 P) .nil .nil) .nil) (.node (ob204 P) (.node (ob332 P) .nil .nil) .nil)) (.node (ob108 P) (.node (ob172 P) (.node (ob300 P) .nil .nil) .nil) (.node (ob236 P) .nil .nil))) (.node (ob60 P) (.node (ob92 P) (.node (ob156 P) (.node (ob284 P) .nil .nil) .nil) (.node (ob220 P) (.node (ob348 P) .nil .nil) .nil)) (.node (ob124 P) (.node (ob188 P) (.node (ob316 P) .nil .nil) .nil) (.node (ob252 P) .nil .nil)))))) (.node (boot_o_6 P) (.node (boot_o_10 P) (.node (ob18 P) (.node (ob34 P) (.node (ob66 P) (.node (ob130 P) (.node (ob258 P) .nil .nil) .nil) (.node (ob194 P) (.node (ob322 P) .nil .nil) .nil)) (.node (ob98 P) (.node (ob162 P) (.node (ob290 P) .nil .nil) .nil) (.node (ob226 P) (.node (ob354 P) .nil .nil) .nil))) (.node (ob50 P) (.node (ob82 P) (.node (ob146 P) (.node (ob274 P) .nil .nil) .nil) (.node (ob210 P) (.node (ob338 P) .nil .nil) .nil)) (.node (ob114 P) (.node (ob178 P) (.node (ob306 P) .nil .nil) .nil) (.node (ob242 P) .nil .nil)))) (.node (ob26 P) (.node (ob42 P) (.node (ob74 P) (.node (ob138 P) (.node (ob266 P) .nil .nil) .nil) (.node (ob202 P) (.node (ob330 P) .nil .nil) .nil)) (.node (ob106 P) (.node (ob170 P) (.node (ob298 P) .nil .nil) .nil) (.node (ob234 P) .nil .nil))) (.node (ob58 P) (.node (ob90 P) (.node (ob154 P) (.node (ob282 P) .nil .nil) .nil) (.node (ob218 P) (.node (ob346 P) .nil .nil) .nil)) (.node (ob122 P) (.node (ob186 P) (.node (ob314 P) .nil .nil) .nil) (.node (ob250 P) .nil .nil))))) (.node (ob14 P) (.node (ob22 P) (.node (ob38 P) (.node (ob70 P) (.node (ob134 P) (.node (ob262 P) .nil .nil) .nil) (.node (ob198 P) (.node (ob326 P) .nil .nil) .nil)) (.node (ob102 P) (.node (ob166 P) (.node (ob294 P) .nil .nil) .nil) (.node (ob230 P) .nil .nil))) (.node (ob54 P) (.node (ob86 P) (.node (ob150 P) (.node (ob278 P) .nil .nil) .nil) (.node (ob214 P) (.node (ob342 P) .nil .nil) .nil)) (.node (ob118 P) (.node (ob182 P) (.node (ob310 P) .nil .nil) .nil) (.node (ob246 P) .nil .nil)))) (.node (ob30 P) (.node (ob46 P) (.node (ob78 P) (.node (ob142 P) (.node (ob270 P) .nil .nil) .nil) (.node (ob206 P) (.node (ob334 P) .nil .nil) .nil)) (.node (ob110 P) (.node (ob174 P) (.node (ob302 P) .nil .nil) .nil) (.node (ob238 P) .nil .nil))) (.node (ob62 P) (.node (ob94 P) (.node (ob158 P) (.node (ob286 P) .nil .nil) .nil) (.node (ob222 P) (.node (ob350 P) .nil .nil) .nil)) (.node (ob126 P) (.node (ob190 P) (.node (ob318 P) .nil .nil) .nil) (.node (ob254 P) .nil .nil))))))))
noncomputable def st10 (w : World) (os : OsState) : SharedT := ⟨tr10 w.params, 358, {}, Array.mk [], {}, 622, os⟩
noncomputable def ob3at11 (P : Params) : Obj := { cls := Value.type "dict", data := Data.dict #[{ hash := PyData.keyHash P (Str.ofString "__name__"), key := Value.str (Str.ofString "__name__") 165, val := Value.str (Str.ofString "kyber_py.polynomials.polynomials") 457 }, { hash := PyData.keyHash P (Str.ofString "__doc__"), key := Value.str (Str.ofString "__doc__") 166, val := Value.none }, { hash := PyData.keyHash P (Str.ofString "__package__"), key := Value.str (Str.ofString "__package__") 167, val := Value.none }, bootEntry P 3, { hash := PyData.keyHash P (Str.ofString "__spec__"), key := Value.str (Str.ofString "__spec__") 169, val := Value.none }, { hash := PyData.keyHash P (Str.ofString "__annotations__"), key := Value.str (Str.ofString "__annotations__") 170, val := Value.ref 6 }, { hash := PyData.keyHash P (Str.ofString "__builtins__"), key := Value.str (Str.ofString "__builtins__") 171, val := Value.ref 4 }, { hash := PyData.keyHash P (Str.ofString "__file__"), key := Value.str (Str.ofString "__file__") 173, val := Value.str (Str.ofString "/claim/cut.py") 172 }, { hash := PyData.keyHash P (Str.ofString "__cached__"), key := Value.str (Str.ofString "__cached__") 174, val := Value.none }, { hash := PyData.keyHash P (Str.ofString "_wall"), key := Value.str (Str.ofString "_wall") 193, val := Value.ref 21 }, { hash := PyData.keyHash P (Str.ofString "bit_count"), key := Value.str (Str.ofString "bit_count") 202, val := Value.ref 28 }, { hash := PyData.keyHash P (Str.ofString "GenericPolynomialRing"), key := Value.str (Str.ofString "GenericPolynomialRing") 257, val := Value.ref 66 }, { hash := PyData.keyHash P (Str.ofString "GenericPolynomial"), key := Value.str (Str.ofString "GenericPolynomial") 456, val := Value.ref 229 }, { hash := PyData.keyHash P (Str.ofString "PolynomialRing"), key := Value.str (Str.ofString "PolynomialRing") 538, val := Value.ref 287 }, { hash := PyData.keyHash P (Str.ofString "Polynomial"), key := Value.str (Str.ofString "Polynomial") 621, val := Value.ref 355 }, { hash := PyData.keyHash P (Str.ofString "PolynomialNTT"), key := Value.str (Str.ofString "PolynomialNTT") 736, val := Value.ref 431 }] 16 }
noncomputable def ob12at11 (_ : Params) : Obj := { cls := Value.none, data := Data.fields #[Value.int 1 0, Value.int 0 0, Value.ref 20, Value.int 5 0, Value.int 0 0, Value.ref 27, Value.int 8 0, Value.int 0 0, Value.ref 34, Value.int 26 0, Value.int 0 0, Value.ref 76, Value.int 155 0, Value.int 0 0, Value.ref 239, Value.int 197 0, Value.int 0 0, Value.ref 295, Value.int 223 0, Value.int 0 0, Value.ref 363] }
noncomputable def tr11 (P : Params) : BT := (.node (boot_o_0 P) (.node (boot_o_1 P) (.node (ob3at11 P) (.node (boot_o_7 P) (.node (ob15 P) (.node (ob31 P) (.node (ob63 P) (.node (ob127 P) (.node (ob255 P) .nil .nil) (.node (ob383 P) .nil .nil)) (.node (ob191 P) (.node (ob319 P) .nil .nil) .nil)) (.node (ob95 P) (.node (ob159 P) (.node (ob287 P) .nil .nil) (.node (ob415 P) .nil .nil)) (.node (ob223 P) (.node (ob351 P) .nil .nil) .nil))) (.node (ob47 P) (.node (ob79 P) (.node (ob143 P) (.node (ob271 P) .nil .nil) (.node (ob399 P) .nil .nil)) (.node (ob207 P) (.node (ob335 P) .nil .nil) .nil)) (.node (ob111 P) (.node (ob175 P) (.node (ob303 P) .nil .nil) (.node (ob431 P) .nil .nil)) (.node (ob239 P) (.node (ob367 P) .nil .nil) .nil)))) (.node (ob23 P) (.node (ob39 P) (.node (ob71 P) (.node (ob135 P) (.node (ob263 P) .nil .nil) (.node (ob391 P) .nil .nil)) (.node (ob199 P) (.node (ob327 P) .nil .nil) .nil)) (.node (ob103 P) (.node (ob167 P) (.node (ob295 P) .nil .nil) (.node (ob423 P) .nil .nil)) (.node (ob231 P) (.node (ob359 P) .nil .nil) .nil))) (.node (ob55 P) (.node (ob87 P) (.node (ob151 P) (.node (ob279 P) .nil .nil) (.node (ob407 P) .nil .nil)) (.node (ob215 P) (.node (ob343 P) .nil .nil) .nil)) (.node (ob119 P) (.node (ob183 P) (.node (ob311 P) .nil .nil) .nil) (.node (ob247 P) (.node (ob375 P) .nil .nil) .nil))))) (.node (ob11 P) (.node (ob19 P) (.node (ob35 P) (.node (ob67 P) (.node (ob131 P) (.node (ob259 P) .nil .nil) (.node (ob387 P) .nil .nil)) (.node (ob195 P) (.node (ob323 P) .nil .nil) .nil)) (.node (ob99 P) (.node (ob163 P) (.node (ob291 P) .nil .nil) (.node (ob419 P) .nil .nil)) (.node (ob227 P) (.node (ob355 P) .nil .nil) .nil))) (.node (ob51 P) (.node (ob83 P) (.node (ob147 P) (.node (ob275 P) .nil .nil) (.node (ob403 P) .nil .nil)) (.node (ob211 P) (.node (ob339 P) .nil .nil) .nil)) (.node (ob115 P) (.node (ob179 P) (.node (ob307 P) .nil .nil) .nil) (.node (ob243 P) (.node (ob371 P) .nil .nil) .nil)))) (.node (ob27 P) (.node (ob43 P) (.node (ob75 P) (.node (ob139 P) (.node (ob267 P) .nil .nil) (.node (ob395 P) .nil .nil)) (.node (ob203 P) (.node (ob331 P) .nil .nil) .nil)) (.node (ob107 P) (.node (ob171 P) (.node (ob299 P) .nil .nil) (.node (ob427 P) .nil .nil)) (.node (ob235 P) (.node (ob363 P) .nil .nil) .nil))) (.node (ob59 P) (.node (ob91 P) (.node (ob155 P) (.node (ob283 P) .nil .nil) (.node (ob411 P) .nil .nil)) (.node (ob219 P) (.node (ob347 P) .nil .nil) .nil)) (.node (ob123 P) (.node (ob187 P) (.node (ob315 P) .nil .nil) .nil) (.node (ob251 P) (.node (ob379 P) .nil .nil) .nil)))))) (.node (boot_o_5 P) (.node (boot_o_9 P) (.node (ob17 P) (.node (ob33 P) (.node (ob65 P) (.node (ob129 P) (.node (ob257 P) .nil .nil) (.node (ob385 P) .nil .nil)) (.node (ob193 P) (.node (ob321 P) .nil .nil) .nil)) (.node (ob97 P) (.node (ob161 P) (.node (ob289 P) .nil .nil) (.node (ob417 P) .nil .nil)) (.node (ob225 P) (.node (ob353 P) .nil .nil) .nil))) (.node (ob49 P) (.node (ob81 P) (.node (ob145 P) (.node (ob273 P) .nil .nil) (.node (ob401 P) .nil .nil)) (.node (ob209 P) (.node (ob337 P) .nil .nil) .nil)) (.node (ob113 P) (.node (ob177 P) (.node (ob305 P) .nil .nil) (.node (ob433 P) .nil .nil)) (.node (ob241 P) (.node (ob369 P) .nil .nil) .nil)))) (.node (ob25 P) (.node (ob41 P) (.node (ob73 P) (.node (ob137 P) (.node (ob265 P) .nil .nil) (.node (ob393 P) .nil .nil)) (.node (ob201 P) (.node (ob329 P) .nil .nil) .nil)) (.node (ob105 P) (.node (ob169 P) (.node (ob297 P) .nil .nil) (.node (ob425 P) .nil .nil)) (.node (ob233 P) (.node (ob361 P) .nil .nil) .nil))) (.node (ob57 P) (.node (ob89 P) (.node (ob153 P) (.node (ob281 P) .nil .nil) (.node (ob409 P) .nil .nil)) (.node (ob217 P) (.node (ob345 P) .nil .nil) .nil)) (.node (ob121 P) (.node (ob185 P) (.node (ob313 P) .nil .nil) .nil) (.node (ob249 P) (.node (ob377 P) .nil .nil) .nil))))) (.node (ob13 P) (.node (ob21 P) (.node (ob37 P) (.node (ob69 P) (.node (ob133 P) (.node (ob261 P) .nil .nil) (.node (ob389 P) .nil .nil)) (.node (ob197 P) (.node (ob325 P) .nil .nil) .nil)) (.node (ob101 P) (.node (ob165 P) (.node (ob293 P) .nil .nil) (.node (ob421 P) .nil .nil)) (.node (ob229 P) (.node (ob357 P) .nil .nil) .nil))) (.node (ob53 P) (.node (ob85 P) (.node (ob149 P) (.node (ob277 P) .nil .nil) (.node (ob405 P) .nil .nil)) (.node (ob213 P) (.node (ob341 P) .nil .nil) .nil)) (.node (ob117 P) (.node (ob181 P) (.node (ob309 P) .nil .nil) .nil) (.node (ob245 P) (.node (ob373 P) .nil .nil) .nil)))) (.node (ob29 P) (.node (ob45 P) (.node (ob77 P) (.node (ob141 P) (.node (ob269 P) .nil .nil) (.node (ob397 P) .nil .nil)) (.node (ob205 P) (.node (ob333 P) .nil .nil) .nil)) (.node (ob109 P) (.node (ob173 P) (.node (ob301 P) .nil .nil) (.node (ob429 P) .nil .nil)) (.node (ob237 P) (.node (ob365 P) .nil .nil) .nil))) (.node (ob61 P) (.node (ob93 P) (.node (ob157 P) (.node (ob285 P) .nil .nil) (.node (ob413 P) .nil .nil)) (.node (ob221 P) (.node (ob349 P) .nil .nil) .nil)) (.node (ob125 P) (.node (ob189 P) (.node (ob317 P) .nil .nil) .nil) (.node (ob253 P) (.node (ob381 P) .nil .nil) .nil))))))) (.node (boot_o_2 P) (.node (boot_o_4 P) (.node (boot_o_8 P) (.node (ob16 P) (.node (ob32 P) (.node (ob64 P) (.node (ob128 P) (.node (ob256 P) .nil .nil) (.node (ob384 P) .nil .nil)) (.node (ob192 P) (.node (ob320 P) .nil .nil) .nil)) (.node (ob96 P) (.node (ob160 P) (.node (ob288 P) .nil .nil) (.node (ob416 P) .nil .nil)) (.node (ob224 P) (.node (ob352 P) .nil .nil) .nil))) (.node (ob48 P) (.node (ob80 P) (.node (ob144 P) (.node (ob272 P) .nil .nil) (.node (ob400 P) .nil .nil)) (.node (ob208 P) (.node (ob336 P) .nil .nil) .nil)) (.node (ob112 P) (.node (ob176 P) (.node (ob304 P) .nil .nil) (.node (ob432 P) .nil .nil)) (.node (ob240 P) (.node (ob368 P) .nil .nil) .nil)))) (.node (ob24 P) (.node (ob40 P) (.node (ob72 P) (.node (ob136 P) (.node (ob264 P) .nil .nil) (.node (ob392 P) .nil .nil)) (.node (ob200 P) (.node (ob328 P) .nil .nil) .nil)) (.node (ob104 P) (.node (ob168 P) (.node (ob296 P) .nil .nil) (.node (ob424 P) .nil .nil)) (.node (ob232 P) (.node (ob360 P) .nil .nil) .nil))) (.node (ob56 P) (.node (ob88 P) (.node (ob152 P) (.node (ob280 P) .nil .nil) (.node (ob408 P) .nil .nil)) (.node (ob216 P) (.node (ob344 P) .nil .nil) .nil)) (.node (ob120 P) (.node (ob184 P) (.node (ob312 P) .nil .nil) .nil) (.node (ob248 P) (.node (ob376 P) .nil .nil) .nil))))) (.node (ob12at11 P) (.node (ob20 P) (.node (ob36 P) (.node (ob68 P) (.node (ob132 P) (.node (ob260 P) .nil .nil) (.node (ob388 P) .nil .nil)) (.node (ob196 P) (.node (ob324 P) .nil .nil) .nil)) (.node (ob100 P) (.node (ob164 P) (.node (ob292 P) .nil .nil) (.node (ob420 P) .nil .nil)) (.node (ob228 P) (.node (ob356 P) .nil .nil) .nil))) (.node (ob52 P) (.node (ob84 P) (.node (ob148 P) (.node (ob276 P) .nil .nil) (.node (ob404 P) .nil .nil)) (.node (ob212 P) (.node (ob340 P) .nil .nil) .nil)) (.node (ob116 P) (.node (ob180 P) (.node (ob308 P) .nil .nil) .nil) (.node (ob244 P) (.node (ob372 P) .nil .nil) .nil)))) (.node (ob28 P) (.node (ob44 P) (.node (ob76 P) (.node (ob140 P) (.node (ob268 P) .nil .nil) (.node (ob396 P) .nil .nil)) (.node (ob204 P) (.node (ob332 P) .nil .nil) .nil)) (.node (ob108 P) (.node (ob172 P) (.node (ob300 P) .nil .nil) (.node (ob428 P) .nil .nil)) (.node (ob236 P) (.node (ob364 P) .nil .nil) .nil))) (.node (ob60 P) (.node (ob92 P) (.node (ob156 P) (.node (ob284 P) .nil .nil) (.node (ob412 P) .nil .nil)) (.node (ob220 P) (.node (ob348 P) .nil .nil) .nil)) (.node (ob124 P) (.node (ob188 P) (.node (ob316 P) .nil .nil) .nil) (.node (ob252 P) (.node (ob380 P) .nil .nil) .nil)))))) (.node (boot_o_6 P) (.node (boot_o_10 P) (.node (ob18 P) (.node (ob34 P) (.node (ob66 P) (.node (ob130 P) (.node (ob258 P) .nil .nil) (.node (ob386 P) .nil .nil)) (.node (ob194 P) (.node (ob322 P) .nil .nil) .nil)) (.node (ob98 P) (.node (ob162 P) (.node (ob290 P) .nil .nil) (.node (ob418 P) .nil .nil)) (.node (ob226 P) (.node (ob354 P) .nil .nil) .nil))) (.node (ob50 P) (.node (ob82 P) (.node (ob146 P) (.node (ob274 P) .nil .nil) (.node (ob402 P) .nil .nil)) (.node (ob210 P) (.node (ob338 P) .nil .nil) .nil)) (.node (ob114 P) (.node (ob178 P) (.node (ob306 P) .nil .nil) .nil) (.node (ob242 P) (.node (ob370 P) .nil .nil) .nil)))) (.node (ob26 P) (.node (ob42 P) (.node (ob74 P) (.node (ob138 P) (.node (ob266 P) .nil .nil) (.node (ob394 P) .nil .nil)) (.node (ob202 P) (.node (ob330 P) .nil .nil) .nil)) (.node (ob106 P) (.node (ob170 P) (.node (ob298 P) .nil .nil) (.node (ob426 P) .nil .nil)) (.node (ob234 P) (.node (ob362 P) .nil .nil) .nil))) (.node (ob58 P) (.node (ob90 P) (.node (ob154 P) (.node (ob282 P) .nil .nil) (.node (ob410 P) .nil .nil)) (.node (ob218 P) (.node (ob346 P) .nil .nil) .nil)) (.node (ob122 P) (.node (ob186 P) (.node (ob314 P) .nil .nil) .nil) (.node (ob250 P) (.node (ob378 P) .nil .nil) .nil))))) (.node (ob14 P) (.node (ob22 P) (.node (ob38 P) (.node (ob70 P) (.node (ob134 P) (.node (ob262 P) .nil .nil) (.node (ob390 P) .nil .nil)) (.node (ob198 P) (.node (ob326 P) .nil .nil) .nil)) (.node (ob102 P) (.node (ob166 P) (.node (ob294 P) .nil .nil) (.node (ob422 P) .nil .nil)) (.node (ob230 P) (.node (ob358 P) .nil .nil) .nil))) (.node (ob54 P) (.node (ob86 P) (.node (ob150 P) (.node (ob278 P) .nil .nil) (.node (ob406 P) .nil .nil)) (.node (ob214 P) (.node (ob342 P) .nil .nil) .nil)) (.node (ob118 P) (.node (ob182 P) (.node (ob310 P) .nil .nil) .nil) (.node (ob246 P) (.node (ob374 P) .nil .nil) .nil)))) (.node (ob30 P) (.node (ob46 P) (.node (ob78 P) (.node (ob142 P) (.node (ob270 P) .nil .nil) (.node (ob398 P) .nil .nil)) (.node (ob206 P) (.node (ob334 P) .nil .nil) .nil)) (.node (ob110 P) (.node (ob174 P) (.node (ob302 P) .nil .nil) (.node (ob430 P) .nil .nil)) (.node (ob238 P) (.node (ob366 P) .nil .nil) .nil))) (.node (ob62 P) (.node (ob94 P) (.node (ob158 P) (.node (ob286 P) .nil .nil) (.node (ob414 P) .nil .nil)) (.node (ob222 P) (.node (ob350 P) .nil .nil) .nil)) (.node (ob126 P) (.node (ob190 P) (.node (ob318 P) .nil .nil) .nil) (.node (ob254 P) (.node (ob382 P) .nil .nil) .nil))))))))
noncomputable def st11 (w : World) (os : OsState) : SharedT := ⟨tr11 w.params, 434, {}, Array.mk [], {}, 737, os⟩
noncomputable def tr16 (P : Params) : BT := (.node (boot_o_0 P) (.node (boot_o_1 P) (.node (ob3 P) (.node (boot_o_7 P) (.node (ob15 P) (.node (ob31 P) (.node (ob63 P) (.node (ob127 P) (.node (ob255 P) .nil .nil) (.node (ob383 P) .nil .nil)) (.node (ob191 P) (.node (ob319 P) .nil .nil) (.node (ob447 P) .nil .nil))) (.node (ob95 P) (.node (ob159 P) (.node (ob287 P) .nil .nil) (.node (ob415 P) .nil .nil)) (.node (ob223 P) (.node (ob351 P) .nil .nil) .nil))) (.node (ob47 P) (.node (ob79 P) (.node (ob143 P) (.node (ob271 P) .nil .nil) (.node (ob399 P) .nil .nil)) (.node (ob207 P) (.node (ob335 P) .nil .nil) .nil)) (.node (ob111 P) (.node (ob175 P) (.node (ob303 P) .nil .nil) (.node (ob431 P) .nil .nil)) (.node (ob239 P) (.node (ob367 P) .nil .nil) .nil)))) (.node (ob23 P) (.node (ob39 P) (.node (ob71 P) (.node (ob135 P) (.node (ob263 P) .nil .nil) (.node (ob391 P) .nil .nil)) (.node (ob199 P) (.node (ob327 P) .nil .nil) (.node (ob455 P) .nil .nil))) (.node (ob103 P) (.node (ob167 P) (.node (ob295 P) .nil .nil) (.node (ob423 P) .nil .nil)) (.node (ob231 P) (.node (ob359 P) .nil .nil) .nil))) (.node (ob55 P) (.node (ob87 P) (.node (ob151 P) (.node (ob279 P) .nil .nil) (.node (ob407 P) .nil .nil)) (.node (ob215 P) (.node (ob343 P) .nil .nil) .nil)) (.node (ob119 P) (.node (ob183 P) (.node (ob311 P) .nil .nil) (.node (ob439 P) .nil .nil)) (.node (ob247 P) (.node (ob375 P) .nil .nil) .nil))))) (.node (ob11 P) (.node (ob19 P) (.node (ob35 P) (.node (ob67 P) (.node (ob131 P) (.node (ob259 P) .nil .nil) (.node (ob387 P) .nil .nil)) (.node (ob195 P) (.node (ob323 P) .nil .nil) (.node (ob451 P) .nil .nil))) (.node (ob99 P) (.node (ob163 P) (.node (ob291 P) .nil .nil) (.node (ob419 P) .nil .nil)) (.node (ob227 P) (.node (ob355 P) .nil .nil) .nil))) (.node (ob51 P) (.node (ob83 P) (.node (ob147 P) (.node (ob275 P) .nil .nil) (.node (ob403 P) .nil .nil)) (.node (ob211 P) (.node (ob339 P) .nil .nil) .nil)) (.node (ob115 P) (.node (ob179 P) (.node (ob307 P) .nil .nil) (.node (ob435 P) .nil .nil)) (.node (ob243 P) (.node (ob371 P) .nil .nil) .nil)))) (.node (ob27 P) (.node (ob43 P) (.node (ob75 P) (.node (ob139 P) (.node (ob267 P) .nil .nil) (.node (ob395 P) .nil .nil)) (.node (ob203 P) (.node (ob331 P) .nil .nil) .nil)) (.node (ob107 P) (.node (ob171 P) (.node (ob299 P) .nil .nil) (.node (ob427 P) .nil .nil)) (.node (ob235 P) (.node (ob363 P) .nil .nil) .nil))) (.node (ob59 P) (.node (ob91 P) (.node (ob155 P) (.node (ob283 P) .nil .nil) (.node (ob411 P) .nil .nil)) (.node (ob219 P) (.node (ob347 P) .nil .nil) .nil)) (.node (ob123 P) (.node (ob187 P) (.node (ob315 P) .nil .nil) (.node (ob443 P) .nil .nil)) (.node (ob251 P) (.node (ob379 P) .nil .nil) .nil)))))) (.node (boot_o_5 P) (.node (boot_o_9 P) (.node (ob17 P) (.node (ob33 P) (.node (ob65 P) (.node (ob129 P) (.node (ob257 P) .nil .nil) (.node (ob385 P) .nil .nil)) (.node (ob193 P) (.node (ob321 P) .nil .nil) (.node (ob449 P) .nil .nil))) (.node (ob97 P) (.node (ob161 P) (.node (ob289 P) .nil .nil) (.node (ob417 P) .nil .nil)) (.node (ob225 P) (.node (ob353 P) .nil .nil) .nil))) (.node (ob49 P) (.node (ob81 P) (.node (ob145 P) (.node (ob273 P) .nil .nil) (.node (ob401 P) .nil .nil)) (.node (ob209 P) (.node (ob337 P) .nil .nil) .nil)) (.node (ob113 P) (.node (ob177 P) (.node (ob305 P) .nil .nil) (.node (ob433 P) .nil .nil)) (.node (ob241 P) (.node (ob369 P) .nil .nil) .nil)))) (.node (ob25 P) (.node (ob41 P) (.node (ob73 P) (.node (ob137 P) (.node (ob265 P) .nil .nil) (.node (ob393 P) .nil .nil)) (.node (ob201 P) (.node (ob329 P) .nil .nil) (.node (ob457 P) .nil .nil))) (.node (ob105 P) (.node (ob169 P) (.node (ob297 P) .nil .nil) (.node (ob425 P) .nil .nil)) (.node (ob233 P) (.node (ob361 P) .nil .nil) .nil))) (.node (ob57 P) (.node (ob89 P) (.node (ob153 P) (.node (ob281 P) .nil .nil) (.node (ob409 P) .nil .nil)) (.node (ob217 P) (.node (ob345 P) .nil .nil) .nil)) (.node (ob121 P) (.node (ob185 P) (.node (ob313 P) .nil .nil) (.node (ob441 P) .nil .nil)) (.node (ob249 P) (.node (ob377 P) .nil .nil) .nil))))) (.node (ob13 P) (.node (ob21 P) (.node (ob37 P) (.node (ob69 P) (.node (ob133 P) (.node (ob261 P) .nil .nil) (.node (ob389 P) .nil .nil)) (.node (ob197 P) (.node (ob325 P) .nil .nil) (.node (ob453 P) .nil .nil))) (.node (ob101 P) (.node (ob165 P) (.node (ob293 P) .nil .nil) (.node (ob421 P) .nil .nil)) (.node (ob229 P) (.node (ob357 P) .nil .nil) .nil))) (.node (ob53 P) (.node (ob85 P) (.node (ob149 P) (.node (ob277 P) .nil .nil) (.node (ob405 P) .nil .nil)) (.node (ob213 P) (.node (ob341 P) .nil .nil) .nil)) (.node (ob117 P) (.node (ob181 P) (.node (ob309 P) .nil .nil) (.node (ob437 P) .nil .nil)) (.node (ob245 P) (.node (ob373 P) .nil .nil) .nil)))) (.node (ob29 P) (.node (ob45 P) (.node (ob77 P) (.node (ob141 P) (.node (ob269 P) .nil .nil) (.node (ob397 P) .nil .nil)) (.node (ob205 P) (.node (ob333 P) .nil .nil) .nil)) (.node (ob109 P) (.node (ob173 P) (.node (ob301 P) .nil .nil) (.node (ob429 P) .nil .nil)) (.node (ob237 P) (.node (ob365 P) .nil .nil) .nil))) (.node (ob61 P) (.node (ob93 P) (.node (ob157 P) (.node (ob285 P) .nil .nil) (.node (ob413 P) .nil .nil)) (.node (ob221 P) (.node (ob349 P) .nil .nil) .nil)) (.node (ob125 P) (.node (ob189 P) (.node (ob317 P) .nil .nil) (.node (ob445 P) .nil .nil)) (.node (ob253 P) (.node (ob381 P) .nil .nil) .nil))))))) (.node (boot_o_2 P) (.node (boot_o_4 P) (.node (boot_o_8 P) (.node (ob16 P) (.node (ob32 P) (.node (ob64 P) (.node (ob128 P) (.node (ob256 P) .nil .nil) (.node (ob384 P) .nil .nil)) (.node (ob192 P) (.node (ob320 P) .nil .nil) (.node (ob448 P) .nil .nil))) (.node (ob96 P) (.node (ob160 P) (.node (ob288 P) .nil .nil) (.node (ob416 P) .nil .nil)) (.node (ob224 P) (.node (ob352 P) .nil .nil) .nil))) (.node (ob48 P) (.node (ob80 P) (.node (ob144 P) (.node (ob272 P) .nil .nil) (.node (ob400 P) .nil .nil)) (.node (ob208 P) (.node (ob336 P) .nil .nil) .nil)) (.node (ob112 P) (.node (ob176 P) (.node (ob304 P) .nil .nil) (.node (ob432 P) .nil .nil)) (.node (ob240 P) (.node (ob368 P) .nil .nil) .nil)))) (.node (ob24 P) (.node (ob40 P) (.node (ob72 P) (.node (ob136 P) (.node (ob264 P) .nil .nil) (.node (ob392 P) .nil .nil)) (.node (ob200 P) (.node (ob328 P) .nil .nil) (.node (ob456 P) .nil .nil))) (.node (ob104 P) (.node (ob168 P) (.node (ob296 P) .nil .nil) (.node (ob424 P) .nil .nil)) (.node (ob232 P) (.node (ob360 P) .nil .nil) .nil))) (.node (ob56 P) (.node (ob88 P) (.node (ob152 P) (.node (ob280 P) .nil .nil) (.node (ob408 P) .nil .nil)) (.node (ob216 P) (.node (ob344 P) .nil .nil) .nil)) (.node (ob120 P) (.node (ob184 P) (.node (ob312 P) .nil .nil) (.node (ob440 P) .nil .nil)) (.node (ob248 P) (.node (ob376 P) .nil .nil) .nil))))) (.node (ob12 P) (.node (ob20 P) (.node (ob36 P) (.node (ob68 P) (.node (ob132 P) (.node (ob260 P) .nil .nil) (.node (ob388 P) .nil .nil)) (.node (ob196 P) (.node (ob324 P) .nil .nil) (.node (ob452 P) .nil .nil))) (.node (ob100 P) (.node (ob164 P) (.node (ob292 P) .nil .nil) (.node (ob420 P) .nil .nil)) (.node (ob228 P) (.node (ob356 P) .nil .nil) .nil))) (.node (ob52 P) (.node (ob84 P) (.node (ob148 P) (.node (ob276 P) .nil .nil) (.node (ob404 P) .nil .nil)) (.node (ob212 P) (.node (ob340 P) .nil .nil) .nil)) (.node (ob116 P) (.node (ob180 P) (.node (ob308 P) .nil .nil) (.node (ob436 P) .nil .nil)) (.node (ob244 P) (.node (ob372 P) .nil .nil) .nil)))) (.node (ob28 P) (.node (ob44 P) (.node (ob76 P) (.node (ob140 P) (.node (ob268 P) .nil .nil) (.node (ob396 P) .nil .nil)) (.node (ob204 P) (.node (ob332 P) .nil .nil) .nil)) (.node (ob108 P) (.node (ob172 P) (.node (ob300 P) .nil .nil) (.node (ob428 P) .nil .nil)) (.node (ob236 P) (.node (ob364 P) .nil .nil) .nil))) (.node (ob60 P) (.node (ob92 P) (.node (ob156 P) (.node (ob284 P) .nil .nil) (.node (ob412 P) .nil .nil)) (.node (ob220 P) (.node (ob348 P) .nil .nil) .nil)) (.node (ob124 P) (.node (ob188 P) (.node (ob316 P) .nil .nil) (.node (ob444 P) .nil .nil)) (.node (ob252 P) (.node (ob380 P) .nil .nil) .nil)))))) (.node (boot_o_6 P) (.node (boot_o_10 P) (.node (ob18 P) (.node (ob34 P) (.node (ob66 P) (.node (ob130 P) (.node (ob258 P) .nil .nil) (.node (ob386 P) .nil .nil)) (.node (ob194 P) (.node (ob322 P) .nil .nil) (.node (ob450 P) .nil .nil))) (.node (ob98 P) (.node (ob162 P) (.node (ob290 P) .nil .nil) (.node (ob418 P) .nil .nil)) (.node (ob226 P) (.node (ob354 P) .nil .nil) .nil))) (.node (ob50 P) (.node (ob82 P) (.node (ob146 P) (.node (ob274 P) .nil .nil) (.node (ob402 P) .nil .nil)) (.node (ob210 P) (.node (ob338 P) .nil .nil) .nil)) (.node (ob114 P) (.node (ob178 P) (.node (ob306 P) .nil .nil) (.node (ob434 P) .nil .nil)) (.node (ob242 P) (.node (ob370 P) .nil .nil) .nil)))) (.node (ob26 P) (.node (ob42 P) (.node (ob74 P) (.node (ob138 P) (.node (ob266 P) .nil .nil) (.node (ob394 P) .nil .nil)) (.node (ob202 P) (.node (ob330 P) .nil .nil) .nil)) (.node (ob106 P) (.node (ob170 P) (.node (ob298 P) .nil .nil) (.node (ob426 P) .nil .nil)) (.node (ob234 P) (.node (ob362 P) .nil .nil) .nil))) (.node (ob58 P) (.node (ob90 P) (.node (ob154 P) (.node (ob282 P) .nil .nil) (.node (ob410 P) .nil .nil)) (.node (ob218 P) (.node (ob346 P) .nil .nil) .nil)) (.node (ob122 P) (.node (ob186 P) (.node (ob314 P) .nil .nil) (.node (ob442 P) .nil .nil)) (.node (ob250 P) (.node (ob378 P) .nil .nil) .nil))))) (.node (ob14 P) (.node (ob22 P) (.node (ob38 P) (.node (ob70 P) (.node (ob134 P) (.node (ob262 P) .nil .nil) (.node (ob390 P) .nil .nil)) (.node (ob198 P) (.node (ob326 P) .nil .nil) (.node (ob454 P) .nil .nil))) (.node (ob102 P) (.node (ob166 P) (.node (ob294 P) .nil .nil) (.node (ob422 P) .nil .nil)) (.node (ob230 P) (.node (ob358 P) .nil .nil) .nil))) (.node (ob54 P) (.node (ob86 P) (.node (ob150 P) (.node (ob278 P) .nil .nil) (.node (ob406 P) .nil .nil)) (.node (ob214 P) (.node (ob342 P) .nil .nil) .nil)) (.node (ob118 P) (.node (ob182 P) (.node (ob310 P) .nil .nil) (.node (ob438 P) .nil .nil)) (.node (ob246 P) (.node (ob374 P) .nil .nil) .nil)))) (.node (ob30 P) (.node (ob46 P) (.node (ob78 P) (.node (ob142 P) (.node (ob270 P) .nil .nil) (.node (ob398 P) .nil .nil)) (.node (ob206 P) (.node (ob334 P) .nil .nil) .nil)) (.node (ob110 P) (.node (ob174 P) (.node (ob302 P) .nil .nil) (.node (ob430 P) .nil .nil)) (.node (ob238 P) (.node (ob366 P) .nil .nil) .nil))) (.node (ob62 P) (.node (ob94 P) (.node (ob158 P) (.node (ob286 P) .nil .nil) (.node (ob414 P) .nil .nil)) (.node (ob222 P) (.node (ob350 P) .nil .nil) .nil)) (.node (ob126 P) (.node (ob190 P) (.node (ob318 P) .nil .nil) (.node (ob446 P) .nil .nil)) (.node (ob254 P) (.node (ob382 P) .nil .nil) .nil))))))))
noncomputable def st16 (w : World) (os : OsState) : SharedT := ⟨tr16 w.params, 458, {}, Array.mk [], {}, 769, os⟩
set_option maxRecDepth 100000 in
noncomputable def endH (P : Params) : Heap := ⟨Array.mk (
  boot_o_0 P ::
  boot_o_1 P ::
  boot_o_2 P ::
  ob3 P ::
  boot_o_4 P ::
  boot_o_5 P ::
  boot_o_6 P ::
  boot_o_7 P ::
  boot_o_8 P ::
  boot_o_9 P ::
  boot_o_10 P ::
  ob11 P ::
  ob12 P ::
  ob13 P ::
  ob14 P ::
  ob15 P ::
  ob16 P ::
  ob17 P ::
  ob18 P ::
  ob19 P ::
  ob20 P ::
  ob21 P ::
  ob22 P ::
  ob23 P ::
  ob24 P ::
  ob25 P ::
  ob26 P ::
  ob27 P ::
  ob28 P ::
  ob29 P ::
  ob30 P ::
  ob31 P ::
  ob32 P ::
  ob33 P ::
  ob34 P ::
  ob35 P ::
  ob36 P ::
  ob37 P ::
  ob38 P ::
  ob39 P ::
  ob40 P ::
  ob41 P ::
  ob42 P ::
  ob43 P ::
  ob44 P ::
  ob45 P ::
  ob46 P ::
  ob47 P ::
  ob48 P ::
  ob49 P ::
  ob50 P ::
  ob51 P ::
  ob52 P ::
  ob53 P ::
  ob54 P ::
  ob55 P ::
  ob56 P ::
  ob57 P ::
  ob58 P ::
  ob59 P ::
  ob60 P ::
  ob61 P ::
  ob62 P ::
  ob63 P ::
  ob64 P ::
  ob65 P ::
  ob66 P ::
  ob67 P ::
  ob68 P ::
  ob69 P ::
  ob70 P ::
  ob71 P ::
  ob72 P ::
  ob73 P ::
  ob74 P ::
  ob75 P ::
  ob76 P ::
  ob77 P ::
  ob78 P ::
  ob79 P ::
  ob80 P ::
  ob81 P ::
  ob82 P ::
  ob83 P ::
  ob84 P ::
  ob85 P ::
  ob86 P ::
  ob87 P ::
  ob88 P ::
  ob89 P ::
  ob90 P ::
  ob91 P ::
  ob92 P ::
  ob93 P ::
  ob94 P ::
  ob95 P ::
  ob96 P ::
  ob97 P ::
  ob98 P ::
  ob99 P ::
  ob100 P ::
  ob101 P ::
  ob102 P ::
  ob103 P ::
  ob104 P ::
  ob105 P ::
  ob106 P ::
  ob107 P ::
  ob108 P ::
  ob109 P ::
  ob110 P ::
  ob111 P ::
  ob112 P ::
  ob113 P ::
  ob114 P ::
  ob115 P ::
  ob116 P ::
  ob117 P ::
  ob118 P ::
  ob119 P ::
  ob120 P ::
  ob121 P ::
  ob122 P ::
  ob123 P ::
  ob124 P ::
  ob125 P ::
  ob126 P ::
  ob127 P ::
  ob128 P ::
  ob129 P ::
  ob130 P ::
  ob131 P ::
  ob132 P ::
  ob133 P ::
  ob134 P ::
  ob135 P ::
  ob136 P ::
  ob137 P ::
  ob138 P ::
  ob139 P ::
  ob140 P ::
  ob141 P ::
  ob142 P ::
  ob143 P ::
  ob144 P ::
  ob145 P ::
  ob146 P ::
  ob147 P ::
  ob148 P ::
  ob149 P ::
  ob150 P ::
  ob151 P ::
  ob152 P ::
  ob153 P ::
  ob154 P ::
  ob155 P ::
  ob156 P ::
  ob157 P ::
  ob158 P ::
  ob159 P ::
  ob160 P ::
  ob161 P ::
  ob162 P ::
  ob163 P ::
  ob164 P ::
  ob165 P ::
  ob166 P ::
  ob167 P ::
  ob168 P ::
  ob169 P ::
  ob170 P ::
  ob171 P ::
  ob172 P ::
  ob173 P ::
  ob174 P ::
  ob175 P ::
  ob176 P ::
  ob177 P ::
  ob178 P ::
  ob179 P ::
  ob180 P ::
  ob181 P ::
  ob182 P ::
  ob183 P ::
  ob184 P ::
  ob185 P ::
  ob186 P ::
  ob187 P ::
  ob188 P ::
  ob189 P ::
  ob190 P ::
  ob191 P ::
  ob192 P ::
  ob193 P ::
  ob194 P ::
  ob195 P ::
  ob196 P ::
  ob197 P ::
  ob198 P ::
  ob199 P ::
  ob200 P ::
  ob201 P ::
  ob202 P ::
  ob203 P ::
  ob204 P ::
  ob205 P ::
  ob206 P ::
  ob207 P ::
  ob208 P ::
  ob209 P ::
  ob210 P ::
  ob211 P ::
  ob212 P ::
  ob213 P ::
  ob214 P ::
  ob215 P ::
  ob216 P ::
  ob217 P ::
  ob218 P ::
  ob219 P ::
  ob220 P ::
  ob221 P ::
  ob222 P ::
  ob223 P ::
  ob224 P ::
  ob225 P ::
  ob226 P ::
  ob227 P ::
  ob228 P ::
  ob229 P ::
  ob230 P ::
  ob231 P ::
  ob232 P ::
  ob233 P ::
  ob234 P ::
  ob235 P ::
  ob236 P ::
  ob237 P ::
  ob238 P ::
  ob239 P ::
  ob240 P ::
  ob241 P ::
  ob242 P ::
  ob243 P ::
  ob244 P ::
  ob245 P ::
  ob246 P ::
  ob247 P ::
  ob248 P ::
  ob249 P ::
  ob250 P ::
  ob251 P ::
  ob252 P ::
  ob253 P ::
  ob254 P ::
  ob255 P ::
  ob256 P ::
  ob257 P ::
  ob258 P ::
  ob259 P ::
  ob260 P ::
  ob261 P ::
  ob262 P ::
  ob263 P ::
  ob264 P ::
  ob265 P ::
  ob266 P ::
  ob267 P ::
  ob268 P ::
  ob269 P ::
  ob270 P ::
  ob271 P ::
  ob272 P ::
  ob273 P ::
  ob274 P ::
  ob275 P ::
  ob276 P ::
  ob277 P ::
  ob278 P ::
  ob279 P ::
  ob280 P ::
  ob281 P ::
  ob282 P ::
  ob283 P ::
  ob284 P ::
  ob285 P ::
  ob286 P ::
  ob287 P ::
  ob288 P ::
  ob289 P ::
  ob290 P ::
  ob291 P ::
  ob292 P ::
  ob293 P ::
  ob294 P ::
  ob295 P ::
  ob296 P ::
  ob297 P ::
  ob298 P ::
  ob299 P ::
  ob300 P ::
  ob301 P ::
  ob302 P ::
  ob303 P ::
  ob304 P ::
  ob305 P ::
  ob306 P ::
  ob307 P ::
  ob308 P ::
  ob309 P ::
  ob310 P ::
  ob311 P ::
  ob312 P ::
  ob313 P ::
  ob314 P ::
  ob315 P ::
  ob316 P ::
  ob317 P ::
  ob318 P ::
  ob319 P ::
  ob320 P ::
  ob321 P ::
  ob322 P ::
  ob323 P ::
  ob324 P ::
  ob325 P ::
  ob326 P ::
  ob327 P ::
  ob328 P ::
  ob329 P ::
  ob330 P ::
  ob331 P ::
  ob332 P ::
  ob333 P ::
  ob334 P ::
  ob335 P ::
  ob336 P ::
  ob337 P ::
  ob338 P ::
  ob339 P ::
  ob340 P ::
  ob341 P ::
  ob342 P ::
  ob343 P ::
  ob344 P ::
  ob345 P ::
  ob346 P ::
  ob347 P ::
  ob348 P ::
  ob349 P ::
  ob350 P ::
  ob351 P ::
  ob352 P ::
  ob353 P ::
  ob354 P ::
  ob355 P ::
  ob356 P ::
  ob357 P ::
  ob358 P ::
  ob359 P ::
  ob360 P ::
  ob361 P ::
  ob362 P ::
  ob363 P ::
  ob364 P ::
  ob365 P ::
  ob366 P ::
  ob367 P ::
  ob368 P ::
  ob369 P ::
  ob370 P ::
  ob371 P ::
  ob372 P ::
  ob373 P ::
  ob374 P ::
  ob375 P ::
  ob376 P ::
  ob377 P ::
  ob378 P ::
  ob379 P ::
  ob380 P ::
  ob381 P ::
  ob382 P ::
  ob383 P ::
  ob384 P ::
  ob385 P ::
  ob386 P ::
  ob387 P ::
  ob388 P ::
  ob389 P ::
  ob390 P ::
  ob391 P ::
  ob392 P ::
  ob393 P ::
  ob394 P ::
  ob395 P ::
  ob396 P ::
  ob397 P ::
  ob398 P ::
  ob399 P ::
  ob400 P ::
  ob401 P ::
  ob402 P ::
  ob403 P ::
  ob404 P ::
  ob405 P ::
  ob406 P ::
  ob407 P ::
  ob408 P ::
  ob409 P ::
  ob410 P ::
  ob411 P ::
  ob412 P ::
  ob413 P ::
  ob414 P ::
  ob415 P ::
  ob416 P ::
  ob417 P ::
  ob418 P ::
  ob419 P ::
  ob420 P ::
  ob421 P ::
  ob422 P ::
  ob423 P ::
  ob424 P ::
  ob425 P ::
  ob426 P ::
  ob427 P ::
  ob428 P ::
  ob429 P ::
  ob430 P ::
  ob431 P ::
  ob432 P ::
  ob433 P ::
  ob434 P ::
  ob435 P ::
  ob436 P ::
  ob437 P ::
  ob438 P ::
  ob439 P ::
  ob440 P ::
  ob441 P ::
  ob442 P ::
  ob443 P ::
  ob444 P ::
  ob445 P ::
  ob446 P ::
  ob447 P ::
  ob448 P ::
  ob449 P ::
  ob450 P ::
  ob451 P ::
  ob452 P ::
  ob453 P ::
  ob454 P ::
  ob455 P ::
  ob456 P ::
  ob457 P ::
  []), {}⟩
noncomputable abbrev preSh (w : World) (os : OsState) : Shared := ⟨preH w.params, Array.mk [], {}, 187, os⟩
noncomputable abbrev endSh (w : World) (os : OsState) : Shared := ⟨endH w.params, Array.mk [], {}, 769, os⟩
noncomputable def envD : Env := { scope := pw.main.scope, locals := mainNs, globals := mainNs, cells := [], code := .ref 13, frame := some 14 }
noncomputable def bD : List Stmt := behindTheImports pw
noncomputable def cD : Code := .body bD envD
noncomputable def takeL : Nat → List Stmt → List Stmt
  | 0, _ => []
  | _, [] => []
  | n + 1, s :: l => s :: takeL n l
noncomputable def dropL : Nat → List Stmt → List Stmt
  | 0, l => l
  | _, [] => []
  | n + 1, _ :: l => dropL n l
abbrev qD : Pos := ⟨0, 0, 0, 0⟩
noncomputable def stubQ : Thread :=
  ⟨do let code ← Fast.tw17154629097778926822 pw.main
      let frame ← Fast.tw12822647523644345616 code mainNs mainNs
      let _ ← run (.body (behindTheImports pw) { scope := pw.main.scope, locals := mainNs, globals := mainNs, cells := [], code, frame := some frame })
      ret .none,
   .builtin "claim.caller" {}, default, []⟩
theorem stub_eq : topStub pw = stubQ := by
  unfold topStub stubQ
  rw [Fast.te17154629097778926822, Fast.te12822647523644345616]
theorem pre0 : ∀ w : World, (fun os => Fast.tw15667345088766844465 Fast.tw14364793385576792824 pw w 11 (some (Value.ref 6)) 12 ⟨boot_heap w.params, Array.mk [], boot_drawn, boot_toks, os⟩ stubQ) = fun (os : OsState) => some (preSh w os, ⟨Fast.tw11892475500146522536 Fast.tw14364793385576792824 cD, cD, ⟨0, 0, 0, 0⟩, [topFrame qD]⟩) := by
  intro w
  kernel_rfl
theorem pre1 (w : World) (os : OsState) : topGo treeTable pw w 11 (some (Value.ref 6)) 12 ⟨boot_heap w.params, Array.mk [], boot_drawn, boot_toks, os⟩ (topStub pw) = some (preSh w os, ⟨denote treeTable cD, cD, ⟨0, 0, 0, 0⟩, [topFrame qD]⟩) := by
  have h := pre0 w
  rw [← Fast.te15667345088766844465, ← Fast.te11892475500146522536, ← Fast.te14364793385576792824, ← stub_eq] at h
  exact congrFun h os
theorem pre_abs (w : World) (os : OsState) : (st1 w os).abs = preSh w os := by kernel_rfl
theorem block0 : ∀ w : World, (fun os => Fast.tw14374325043358763698 Fast.tw14364793385576792824 pw w 11 (some (Value.ref 6)) 1 1 (preSh w os) ⟨(Fast.tw1066825118222455980 bD envD).wrap (fun _ => doneF .next) deadEnd id id, cD, ⟨0, 0, 0, 0⟩, [topFrame qD]⟩) = fun (os : OsState) => some (.next, preSh w os, cD, ⟨0, 0, 0, 0⟩) := by
  intro w
  kernel_rfl
theorem block1 (w : World) (os : OsState) : segRun treeTable pw w 11 (some (Value.ref 6)) 1 1 (preSh w os) (blockOf bD envD cD ⟨0, 0, 0, 0⟩ [topFrame qD]) = some (.next, preSh w os, cD, ⟨0, 0, 0, 0⟩) := by
  have h := block0 w
  rw [← Fast.te14374325043358763698, ← Fast.te1066825118222455980, ← Fast.te14364793385576792824] at h
  exact congrFun h os
noncomputable def part6 : List Stmt := takeL 5 (dropL 0 bD)
theorem run6q : ∀ w : World, (fun os => Fast.tw10110043849684766642 Fast.tw14364793385576792824 pw w 11 (some (Value.ref 6)) 1 395 (st1 w os) ⟨(Fast.tw12563942051412417395 part6 envD).wrap doneF deadEnd id id, cD, ⟨0, 0, 0, 0⟩, [topFrame qD]⟩) = fun (os : OsState) => some (.next, st6 w os, cD, ⟨8, 0, 25, 52⟩) := by
  intro w
  kernel_rfl
theorem run6 (w : World) (os : OsState) : segRun treeTable pw w 11 (some (Value.ref 6)) 1 395 (st1 w os).abs (piecesOf part6 envD cD ⟨0, 0, 0, 0⟩ [topFrame qD]) = some (.next, (st6 w os).abs, cD, ⟨8, 0, 25, 52⟩) := by
  have h := run6q w
  rw [← Fast.te10110043849684766642, ← Fast.te12563942051412417395, ← Fast.te14364793385576792824] at h
  exact segRun_of (congrFun h os)
noncomputable def part7 : List Stmt := takeL 1 (dropL 5 bD)
theorem run7q : ∀ w : World, (fun os => Fast.tw10110043849684766642 Fast.tw14364793385576792824 pw w 11 (some (Value.ref 6)) 1 914 (st6 w os) ⟨(Fast.tw12563942051412417395 part7 envD).wrap doneF deadEnd id id, cD, ⟨8, 0, 25, 52⟩, [topFrame qD]⟩) = fun (os : OsState) => some (.next, st7 w os, cD, ⟨26, 0, 153, 31⟩) := by
  intro w
  kernel_rfl
theorem run7 (w : World) (os : OsState) : segRun treeTable pw w 11 (some (Value.ref 6)) 1 914 (st6 w os).abs (piecesOf part7 envD cD ⟨8, 0, 25, 52⟩ [topFrame qD]) = some (.next, (st7 w os).abs, cD, ⟨26, 0, 153, 31⟩) := by
  have h := run7q w
  rw [← Fast.te10110043849684766642, ← Fast.te12563942051412417395, ← Fast.te14364793385576792824] at h
  exact segRun_of (congrFun h os)
noncomputable def part9 : List Stmt := takeL 2 (dropL 6 bD)
theorem run9q : ∀ w : World, (fun os => Fast.tw10110043849684766642 Fast.tw14364793385576792824 pw w 11 (some (Value.ref 6)) 1 549 (st7 w os) ⟨(Fast.tw12563942051412417395 part9 envD).wrap doneF deadEnd id id, cD, ⟨26, 0, 153, 31⟩, [topFrame qD]⟩) = fun (os : OsState) => some (.next, st9 w os, cD, ⟨155, 0, 196, 48⟩) := by
  intro w
  kernel_rfl
theorem run9 (w : World) (os : OsState) : segRun treeTable pw w 11 (some (Value.ref 6)) 1 549 (st7 w os).abs (piecesOf part9 envD cD ⟨26, 0, 153, 31⟩ [topFrame qD]) = some (.next, (st9 w os).abs, cD, ⟨155, 0, 196, 48⟩) := by
  have h := run9q w
  rw [← Fast.te10110043849684766642, ← Fast.te12563942051412417395, ← Fast.te14364793385576792824] at h
  exact segRun_of (congrFun h os)
noncomputable def part10 : List Stmt := takeL 1 (dropL 8 bD)
theorem run10q : ∀ w : World, (fun os => Fast.tw10110043849684766642 Fast.tw14364793385576792824 pw w 11 (some (Value.ref 6)) 1 472 (st9 w os) ⟨(Fast.tw12563942051412417395 part10 envD).wrap doneF deadEnd id id, cD, ⟨155, 0, 196, 48⟩, [topFrame qD]⟩) = fun (os : OsState) => some (.next, st10 w os, cD, ⟨197, 0, 222, 17⟩) := by
  intro w
  kernel_rfl
theorem run10 (w : World) (os : OsState) : segRun treeTable pw w 11 (some (Value.ref 6)) 1 472 (st9 w os).abs (piecesOf part10 envD cD ⟨155, 0, 196, 48⟩ [topFrame qD]) = some (.next, (st10 w os).abs, cD, ⟨197, 0, 222, 17⟩) := by
  have h := run10q w
  rw [← Fast.te10110043849684766642, ← Fast.te12563942051412417395, ← Fast.te14364793385576792824] at h
  exact segRun_of (congrFun h os)
noncomputable def part11 : List Stmt := takeL 1 (dropL 9 bD)
theorem run11q : ∀ w : World, (fun os => Fast.tw10110043849684766642 Fast.tw14364793385576792824 pw w 11 (some (Value.ref 6)) 1 660 (st10 w os) ⟨(Fast.tw12563942051412417395 part11 envD).wrap doneF deadEnd id id, cD, ⟨197, 0, 222, 17⟩, [topFrame qD]⟩) = fun (os : OsState) => some (.next, st11 w os, cD, ⟨223, 0, 269, 51⟩) := by
  intro w
  kernel_rfl
theorem run11 (w : World) (os : OsState) : segRun treeTable pw w 11 (some (Value.ref 6)) 1 660 (st10 w os).abs (piecesOf part11 envD cD ⟨197, 0, 222, 17⟩ [topFrame qD]) = some (.next, (st11 w os).abs, cD, ⟨223, 0, 269, 51⟩) := by
  have h := run11q w
  rw [← Fast.te10110043849684766642, ← Fast.te12563942051412417395, ← Fast.te14364793385576792824] at h
  exact segRun_of (congrFun h os)
noncomputable def part16 : List Stmt := takeL 5 (dropL 10 bD)
theorem run16q : ∀ w : World, (fun os => Fast.tw10110043849684766642 Fast.tw14364793385576792824 pw w 11 (some (Value.ref 6)) 1 124 (st11 w os) ⟨(Fast.tw12563942051412417395 part16 envD).wrap doneF deadEnd id id, cD, ⟨223, 0, 269, 51⟩, [topFrame qD]⟩) = fun (os : OsState) => some (.next, st16 w os, cD, ⟨284, 0, 314, 18⟩) := by
  intro w
  kernel_rfl
theorem run16 (w : World) (os : OsState) : segRun treeTable pw w 11 (some (Value.ref 6)) 1 124 (st11 w os).abs (piecesOf part16 envD cD ⟨223, 0, 269, 51⟩ [topFrame qD]) = some (.next, (st16 w os).abs, cD, ⟨284, 0, 314, 18⟩) := by
  have h := run16q w
  rw [← Fast.te10110043849684766642, ← Fast.te12563942051412417395, ← Fast.te14364793385576792824] at h
  exact segRun_of (congrFun h os)
theorem end_abs (w : World) (os : OsState) : (st16 w os).abs = endSh w os := by kernel_rfl
theorem fin0 : ∀ w : World, (fun os => Fast.tw14082659384304107361 Fast.tw14364793385576792824 pw w 11 (some (Value.ref 6)) 2 (endSh w os) ⟨doneF .next, cD, ⟨284, 0, 314, 18⟩, [topFrame qD]⟩) = fun (os : OsState) => some (endSh w os) := by
  intro w
  kernel_rfl
theorem fin1 (w : World) (os : OsState) : topRun treeTable pw w 11 (some (Value.ref 6)) 2 (st16 w os).abs ⟨doneF .next, cD, ⟨284, 0, 314, 18⟩, [topFrame qD]⟩ = some (endSh w os) := by
  have h := fin0 w
  rw [← Fast.te14082659384304107361, ← Fast.te14364793385576792824] at h
  rw [end_abs]
  exact congrFun h os
theorem bD_parts : bD = part6 ++ (part7 ++ (part9 ++ (part10 ++ (part11 ++ (part16 ++ []))))) := by kernel_rfl
theorem rest1 (w : World) (os : OsState) : topRun treeTable pw w 11 (some (Value.ref 6)) (395 + (914 + (549 + (472 + (660 + (124 + 2)))))) (preSh w os) (restOf bD envD cD ⟨0, 0, 0, 0⟩ [topFrame qD]) = some (endSh w os) := by
  rw [bD_parts, ← pre_abs]
  exact piece_app (run6 w os) (piece_app (run7 w os) (piece_app (run9 w os) (piece_app (run10 w os) (piece_app (run11 w os) (piece_app (run16 w os) (piece_nil (fin1 w os)))))))
theorem run0 (w : World) (os : OsState) : topRun treeTable pw w 11 (some (Value.ref 6)) 3129 ⟨boot_heap w.params, Array.mk [], boot_drawn, boot_toks, os⟩ (topStub pw) = some (endSh w os) :=
  go_top (n := 12) (N := 3117) (pre1 w os) (piece_block (n := 1) (N := 3116) (block1 w os) (rest1 w os))
abbrev kAddrs : List Addr := [2, 3, 15, 17, 18, 20, 21, 22, 24, 25, 27, 28, 36, 38, 39, 41, 42, 43, 45, 46, 48, 49, 50, 52, 53, 55, 56, 57, 59, 60, 62, 63, 64, 65, 66, 67, 68, 78, 80, 81, 83, 84, 85, 87, 88, 90, 91, 92, 94, 95, 97, 98, 99, 102, 103, 104, 106, 107, 109, 110, 111, 113, 114, 116, 117, 118, 120, 121, 123, 124, 125, 128, 129, 130, 133, 134, 135, 138, 139, 140, 142, 143, 145, 146, 147, 149, 150, 152, 153, 154, 156, 157, 159, 160, 161, 164, 165, 166, 168, 169, 171, 172, 173, 175, 176, 178, 179, 180, 182, 183, 185, 186, 187, 190, 191, 192, 194, 195, 197, 198, 199, 201, 202, 204, 205, 206, 208, 209, 211, 212, 213, 215, 216, 218, 219, 220, 222, 223, 225, 226, 227, 228, 229, 230, 231, 234, 241, 244, 245, 246, 248, 249, 251, 252, 253, 254, 255, 256, 258, 259, 261, 262, 263, 264, 267, 268, 269, 270, 272, 273, 275, 276, 277, 278, 280, 281, 283, 284, 285, 286, 287, 290, 297, 299, 300, 302, 303, 304, 306, 307, 309, 310, 311, 313, 314, 316, 317, 318, 320, 321, 323, 324, 325, 327, 328, 330, 331, 332, 334, 335, 337, 338, 339, 341, 342, 344, 345, 346, 348, 349, 351, 352, 353, 354, 355, 358, 365, 367, 368, 370, 371, 372, 374, 375, 377, 378, 379, 381, 382, 384, 385, 386, 388, 389, 391, 392, 393, 394, 395, 396, 398, 399, 401, 402, 403, 405, 406, 408, 409, 410, 412, 413, 415, 416, 417, 419, 420, 422, 423, 424, 427, 428, 429, 430, 431, 434, 436, 437, 439, 440, 441, 444, 445, 446, 448, 449, 451, 452, 453, 456, 457]
theorem kAs : ∀ P, kAddrs = (hd.heap_39 P).map (·.1) := fun _ => by kernel_rfl
noncomputable abbrev looseN : List Str := [Str.ofString "PolynomialRing", Str.ofString "PolynomialNTT"]
theorem look1 (w : World) : kAddrs.map (endH w.params).get? = (hd.heap_39 w.params).map fun p => some p.2 := by kernel_rfl
theorem look2 (w : World) : (staticsOk [] (boot_heap w.params) (endH w.params) && namesBound pw (endH w.params) && laidKept (boot_heap w.params) (endH w.params)) = true := by kernel_rfl
theorem look3 (w : World) : (fun os : OsState => Fast.tw4187177175401517315 hd.view_39 looseN [] (fun s => xlAt hd.view_39 [] s && recOk [] s) true (endSh w os)) = fun _ => openGood hd.view_39 looseN := by kernel_rfl
theorem look4 (w : World) : (fun os => ((staticsOk (importedModules pw.main.body) (boot_heap w.params) (endH w.params) && namesBound pw (endH w.params) && gensDone (endSh w os) && laidKept (boot_heap w.params) (endH w.params)),
    openSeen hd.view_39 looseN (importedModules pw.main.body) (fun s => xlAt hd.view_39 [] s && recOk [] s) true (endSh w os), (Hook.obs (kHook hd.heap_39 kAddrs kAs)) (endSh w os))) = fun _ => (true, openGood hd.view_39 looseN, Hook.val (kHook hd.heap_39 kAddrs kAs) w) := by
  funext os
  have h3 := look3 w
  rw [← Fast.te4187177175401517315] at h3
  obtain ⟨a, b⟩ := Bool.and_eq_true_iff.mp (look2 w)
  have g : gensDone (endSh w os) = true := rfl
  rw [mods0]
  refine Prod.ext ?_ (Prod.ext (congrFun h3 os) (look1 w))
  show (staticsOk [] (boot_heap w.params) (endH w.params) && namesBound pw (endH w.params) && gensDone (endSh w os) && laidKept (boot_heap w.params) (endH w.params)) = true
  rw [a, g, b]; rfl
theorem left0 : LeftO pw hd.view_39 looseN (fun s => xlAt hd.view_39 [] s && recOk [] s) (Hook.obs (kHook hd.heap_39 kAddrs kAs)) (Hook.val (kHook hd.heap_39 kAddrs kAs)) 6342 true :=
  LeftO.of_pieces (H₀ := boot_heap) (H₁ := endH) (M := 3129) open0 size0 run0 (by decide) look4
theorem said0 : OpenLaw.wellSaid Challenge.rw_yi0077_01 = true := by
  rw [Fast.te9446332074065402090]
  delta Fast.tw9446332074065402090
  dsimp only
  repeat' (with_reducible refine look_both ?_ ?_)
  all_goals (try delta Fast.tw17960256430627541270)
  all_goals (try dsimp only)
  repeat' (with_reducible refine look_both ?_ ?_)
  all_goals (try delta Fast.tw2436336058641802641)
  all_goals (try dsimp only)
  repeat' (with_reducible refine look_both ?_ ?_)
  all_goals (try delta Fast.tw12908688711261696721)
  all_goals (try dsimp only)
  repeat' (with_reducible refine look_both ?_ ?_)
  all_goals decide +kernel
theorem hd {d : DefRec} {kwd : List (Str × Expr)} (hdef : defOf hd.view_39 Challenge.rw_yi0077_01.row.name = some (d, kwd)) (hp : Challenge.rw_yi0077_01.row.prog.theDef Challenge.rw_yi0077_01.row.name = some (d.params, d.body, d.scope)) (hk : kwWritten? d.params.kwonlyargs d.params.kw_defaults = some kwd)
    (hc : WalkO hd.view_39 looseN (XL hd.view_39 []) (Hook.says (kHook hd.heap_39 kAddrs kAs)) Challenge.rw_yi0077_01.row.toRowW d kwd fun f vs => PySem.call f vs) : Challenge.rw_yi0077_01.Holds := by
  refine holds_law said0 fun said => ?_
  refine holds_open (q := hd.view_39) (loose := looseN) (Xt := fun s => xlAt hd.view_39 [] s && recOk [] s) (XP := XL hd.view_39 []) (Yf := Hook.obs (kHook hd.heap_39 kAddrs kAs)) (Ya := Hook.val (kHook hd.heap_39 kAddrs kAs)) (YP := Hook.says (kHook hd.heap_39 kAddrs kAs)) (N := 6342) left0 (Hook.of (kHook hd.heap_39 kAddrs kAs)) (Hook.keeps (kHook hd.heap_39 kAddrs kAs)) (fun s e => xl_of s (Bool.and_eq_true_iff.mp e).1) XL.keeps hdef hp hk (fun s e => recFacts_of (Bool.and_eq_true_iff.mp e).2) rfl said (by decide +kernel) ⟨rfl, rfl, rfl, rfl, rfl, by decide +kernel⟩ ?hw hc
  w_witness2
end Mine
end

/-! part Base -/
section
open PySem PySem.W PyProof.Rows
namespace Mine
def Stop (P : Prop) : Prop := P
theorem stop_here {P : Prop} (h : Stop P) : P := h
theorem Stop.go {P : Prop} (h : P) : Stop P := h
theorem fd_of {K : Frag} {a : Addr} {c1 c2 : Value} {d1 d2 : Option Addr} {f1 f2 : FuncData} {s1 s2 : Array (Option Value)} (e1 : K.lookup a = some ⟨c1, d1, .func f1, s1⟩) (e2 : K.lookup a = some ⟨c2, d2, .func f2, s2⟩) : f2 = f1 := by
  rw [e1] at e2; cases e2; rfl

section
variable {prog : Program} {w : World} {A : Around} {E : Value → Shared → Prop} {s : Shared} {M : Model}
open PySem.Calls
theorem grown_big {n : Nat} {Q : Value → Shared → Prop} (hn : n < 2 ^ 4096) (h : Q (.int (n : Int) s.toks) { s with toks := s.toks + 1 }) : wpAny M A (mkIntGrown (n : Int)) Q E s := by
  unfold mkIntGrown
  have hl : ¬ ((n : Int).natAbs.log2 ≥ bitsLine) := by
    rw [Int.natAbs_natCast]
    have hb : bitsLine = 134217728 := by first | rfl | decide
    rcases Nat.eq_zero_or_pos n with rfl | hz
    · rw [hb]; decide
    · have := (Nat.log2_lt (Nat.pos_iff_ne_zero.mp hz)).mpr hn
      clear hn
      omega
  rw [if_neg hl]
  exact wpAny_mkInt h
theorem from_little {b : Array UInt8} {t u : Tok} {P : Fin → Shared → Prop} (hl : b.size ≤ 512) (h : P (.done (.ret (.int (KFB.value (KBw.bInts b).reverse) s.toks))) { s with toks := s.toks + 1 }) :
    wpAny M A (Builtin.«int.from_bytes» ⟨[.type "int", .bytes b t, .str (PySem.Str.ofString "little") u], []⟩) P E s := by
  have hv : ((b.toList.reverse.foldl (fun (acc : Nat) (b : UInt8) => acc * 256 + b.toNat) 0 : Nat) : Int) = KFB.value (KBw.bInts b).reverse := by
    rw [KFB.fold_cast, List.map_reverse]; rfl
  have hn : b.toList.reverse.foldl (fun (acc : Nat) (b : UInt8) => acc * 256 + b.toNat) 0 < 2 ^ 4096 := by
    have h1 := KFB.fold_lt b.toList.reverse 0
    rw [Nat.zero_add, Nat.one_mul, List.length_reverse, Array.length_toList] at h1
    have h2 : 256 ^ b.size ≤ 256 ^ 512 := Nat.pow_le_pow_right (by decide) hl
    have h3 : (256 : Nat) ^ 512 = 2 ^ 4096 := by rw [show (256 : Nat) = 2 ^ 8 from rfl, ← Nat.pow_mul]
    rw [h3] at h2
    exact Nat.lt_of_lt_of_le h1 h2
  unfold Builtin.«int.from_bytes»
  refine wpAny_bind (wpAny_of_eq (a := true) KFB.type_int ?_)
  refine KFB.if_not rfl ?_
  refine wpAny_bind (wpAny_of_eq (a := true) F.conv_sub_int ?_)
  refine KFB.if_not rfl ?_
  refine wpAny_bind (wpAny_of_eq (a := [some (.bytes b t), some (.str (PySem.Str.ofString "little") u), none]) (by kernel_rfl) ?_)
  refine wpAny_bind (wpAny_of_eq (a := PySem.Str.ofString "little") (by kernel_rfl) ?_)
  refine wpAny_bind (wpAny_of_eq (a := false) rfl ?_)
  refine wpAny_bind (wpAny_of_eq (a := true) (by kernel_rfl) ?_)
  refine wpAny_bind (wpAny_of_eq (a := b) rfl ?_)
  show wpAny _ _ (mkIntGrown (b.toList.reverse.foldl (fun (acc : Int) (b : UInt8) => acc * 256 + (b.toNat : Int)) ((0 : Nat) : Int)) >>= fun v => _) _ _ _
  rw [KFB.foldI_eq]
  refine wpAny_bind (grown_big hn ?_)
  rw [hv]
  refine KFB.if_so (by decide +kernel) ?_
  exact wpAny_bind (wpAny_pure (wpAny_pure h))
theorem from_call {h₀ : Heap} {L x : Addr} {news : List (Addr × Obj)} {b : Array UInt8} {t u : Tok} {ks : List Int} {Q : Value → Shared → Prop} (N : News h₀ L s.heap news) (hm : (x, KFB.bound) ∈ news) (hb : KBw.bInts b = ks) (hl : ks.length ≤ 512)
    (h : ∀ t' k, Q (.int (KFB.value ks.reverse) t') { s with toks := k }) : wpAny (model prog w) A (call (.ref x) [.bytes b t, .str (PySem.Str.ofString "little") u]) Q E s := by
  subst hb
  exact KFB.call_of (KFB.at_of N hm) (fun z => from_little (by rw [← KBw.ints_length]; exact hl) z) (h _ _)
end


theorem off1_ne {D : Addr} : ∀ {l : List (Addr × Obj)}, LCg.Off1 D l → ∀ p ∈ l, p.1 ≠ D
  | [], _ => fun _ h => nomatch h
  | q :: r, h => fun p hp => by
    rcases List.mem_cons.mp hp with rfl | hp
    · exact h.1
    · exact off1_ne h.2 p hp
section
variable {M : Model} {A : Around} {E : Value → Shared → Prop} {s : Shared} {K : Frag} {env : Env} {pos : Pos} {x C : Addr} {ox : Obj} {od : Option Obj} {first : List Value} {Q : Value → Shared → Prop}
/-- an object called with a keyword -/
theorem own_callWith_kw {e : Expr} {rest : List Expr} {kws : List Keyword} (_X : K.In s.heap) (_I : InstAt s.heap x ox C od) (hd : ox.data = .plain) (hall : (backToKw pos (keywordEach kws env)).all (·.1.isSome) = true)
    (h : wpAny M A (spliced (backTo pos (starEach (e :: rest) env))) (fun vs s₁ => wpAny M A (evalAll ((backToKw pos (keywordEach kws env)).map (·.2)))
      (fun ks s₂ => kco_P K x C ox od s₂.heap ∧ wpAny M A (call (.ref x) (first ++ vs) (((backToKw pos (keywordEach kws env)).filterMap (·.1)).zip ks)) Q E s₂) E s₁) E s)
    (hplain : ((backTo pos (starEach (e :: rest) env)).any (·.1) || (backToKw pos (keywordEach kws env)).any (·.1.isNone)) = false := by rfl) (he : starEach (e :: rest) env = (false, eval e env) :: starEach rest env := by rfl) :
    wpAny M A (callWith pos (.ref x) first (backTo pos (starEach (e :: rest) env)) (backToKw pos (keywordEach kws env))) Q E s :=
  kco_callWith_of (K := K) (C := C) (od := od) hplain hd (evalArgs_kw2 hall h he)
end
theorem drop4 {h₀ h : Heap} {L : Addr} {a b c d : Addr × Obj} {news : List (Addr × Obj)} (N : News h₀ L h (a :: b :: c :: d :: news)) : News h₀ L h (a :: b :: d :: news) := fun p hp => N p (by
  rcases List.mem_cons.mp hp with rfl | hp
  · exact .head _
  rcases List.mem_cons.mp hp with rfl | hp
  · exact .tail _ (.head _)
  rcases List.mem_cons.mp hp with rfl | hp
  · exact .tail _ (.tail _ (.tail _ (.head _)))
  · exact .tail _ (.tail _ (.tail _ (.tail _ hp))))
theorem allLt_lt {b : Nat} : ∀ {l : List (Addr × Obj)}, AllLt b l → ∀ p ∈ l, p.1 < b
  | [], _ => fun _ h => nomatch h
  | q :: r, h => fun p hp => by
    rcases List.mem_cons.mp hp with rfl | hp
    · exact h.1
    · exact allLt_lt h.2 p hp
theorem allLt_ne {D b : Nat} : ∀ {l : List (Addr × Obj)}, AllLt b l → b ≤ D → ∀ p ∈ l, p.1 ≠ D
  | [], _, _ => fun _ h => nomatch h
  | q :: r, h, hb => fun p hp => by
    rcases List.mem_cons.mp hp with rfl | hp
    · exact Nat.ne_of_lt (Nat.lt_of_lt_of_le h.1 hb)
    · exact allLt_ne h.2 hb p hp
/-- what bit_count gives -/
def pcI (a : Int) : Int := ((List.countP a.natAbs.testBit (List.range (Builtin.Int.intBits a)) : Nat) : Int)
/-- b_int before turn i -/
def bI (eta B : Int) : Nat → Int
  | 0 => B
  | i + 1 => (bI eta B i).fdiv (2 ^ (2 * eta).toNat)
/-- the number of one turn -/
def cI (eta b : Int) : Int :=
  (pcI (Builtin.bitAnd (Builtin.bitAnd b (1 * 2 ^ (2 * eta).toNat - 1)) (1 * 2 ^ eta.toNat - 1)) -
    pcI (Builtin.bitAnd ((Builtin.bitAnd b (1 * 2 ^ (2 * eta).toNat - 1)).fdiv (2 ^ eta.toNat)) (1 * 2 ^ eta.toNat - 1))).fmod 3329
def stepL (eta B : Int) (i : Nat) : List Int := (List.range i).map (fun j => cI eta (bI eta B j)) ++ List.replicate (256 - i) 0
theorem stepL_length {eta B : Int} {i : Nat} (h : i ≤ 256) : (stepL eta B i).length = 256 := by
  simp [stepL]; omega
theorem stepL_set {eta B : Int} {i : Nat} (h : i < 256) : (stepL eta B i).set i (cI eta (bI eta B i)) = stepL eta B (i + 1) := by
  unfold stepL
  rw [List.set_append_right _ _ (by simp)]
  obtain ⟨k, hk⟩ : ∃ k, 256 - i = k + 1 := ⟨255 - i, by omega⟩
  have hk' : 256 - (i + 1) = k := by omega
  rw [hk, hk', List.replicate_succ, List.range_succ]
  simp

section
variable {prog : Program} {w : World} {A : Around} {E : Value → Shared → Prop} {s : Shared} {env : Env} {h₀ : Heap} {body : List Stmt} {Q : Flow → Shared → Prop}
def LoopM (eta B : Int) (m₀ : Str → Option Value) (i : Nat) (m : Str → Option Value) : Prop :=
  (∃ tb, m (Str.ofString "b_int") = some (.int (bI eta B i) tb)) ∧ ∀ y, y ≠ Str.ofString "i" → y ≠ Str.ofString "x" → y ≠ Str.ofString "a" → y ≠ Str.ofString "b" → y ≠ Str.ofString "b_int" → m y = m₀ y
def LoopJ (eta B : Int) (m₀ : Str → Option Value) (x' D : Addr) (bo : Obj) (news : List (Addr × Obj)) (i : Nat) (m : Str → Option Value) (nx : List (Addr × Obj)) : Prop :=
  LoopM eta B m₀ i m ∧ ∃ v c, nx = (x', bo) :: (D, W.listOf (List.toArray v) c) :: news ∧ IntsAre v (stepL eta B i)
theorem LoopM.map {eta B : Int} {m₀ m : Str → Option Value} {i : Nat} (h : LoopM eta B m₀ i m) :
    ∃ tb, m = fun y => if y = Str.ofString "i" then m y else if y = Str.ofString "x" then m y else if y = Str.ofString "a" then m y else if y = Str.ofString "b" then m y else if y = Str.ofString "b_int" then some (.int (bI eta B i) tb) else m₀ y := by
  obtain ⟨⟨tb, hb⟩, hm⟩ := h
  refine ⟨tb, ?_⟩
  funext y
  by_cases h1 : y = Str.ofString "i"
  · rw [if_pos h1]
  by_cases h2 : y = Str.ofString "x"
  · rw [if_neg h1, if_pos h2]
  by_cases h3 : y = Str.ofString "a"
  · rw [if_neg h1, if_neg h2, if_pos h3]
  by_cases h4 : y = Str.ofString "b"
  · rw [if_neg h1, if_neg h2, if_neg h3, if_pos h4]
  by_cases h5 : y = Str.ofString "b_int"
  · rw [if_neg h1, if_neg h2, if_neg h3, if_neg h4, if_pos h5, h5, hb]
  · rw [if_neg h1, if_neg h2, if_neg h3, if_neg h4, if_neg h5]; exact hm y h1 h2 h3 h4 h5

theorem cbd_loop (eta : Int) {r : Addr} {t₀ u₀ v₀ : Tok} {m₀ : Str → Option Value} {news : List (Addr × Obj)} {x' D : Addr} {bo : Obj} {v0 : List Value} {c0 : Nat} {B : Int} {tB : Tok}
    (hh : A.handled = none) (hr : IsRange s.heap r 0 256 1 t₀ u₀ v₀) (F : Fr h₀ env.locals s.heap m₀) (N : News h₀ env.locals s.heap ((x', bo) :: (D, W.listOf (List.toArray v0) c0) :: news))
    (hi : IntsAre v0 (List.map (fun _ => (0 : Int)) (rangeKs 0 (256 - 0 : Int).toNat))) (hB : m₀ (Str.ofString "b_int") = some (.int B tB)) (hxD : x' ≠ D) (hnD : ∀ p ∈ news, p.1 ≠ D)
    (turn : ∀ (i : Nat) t tb v c (u : Str → Option Value) h tk own, i < 256 → (∀ p ∈ news ++ own, p.1 ≠ D) → v.length = 256 → IntsAre v (stepL eta B i) →
      Fr h₀ env.locals h (fun y => if y = Str.ofString "i" then some (.int (i : Int) t) else if y = Str.ofString "x" then u y else if y = Str.ofString "a" then u y else if y = Str.ofString "b" then u y else if y = Str.ofString "b_int" then some (.int (bI eta B i) tb) else m₀ y) →
      News h₀ env.locals h ((x', bo) :: (D, W.listOf (List.toArray v) c) :: (news ++ own)) →
      wpAny (model prog w) A (execs body env) (InvPostN h₀ env.locals (LoopJ eta B m₀ x' D bo news (i + 1)) own (x' :: D :: news.map (·.1)) { s with heap := h, toks := tk } Q) E { s with heap := h, toks := tk })
    (done : ∀ (u : Str → Option Value) tb v c h tk, IntsAre v (stepL eta B 256) →
      Fr h₀ env.locals h (fun y => if y = Str.ofString "i" then u y else if y = Str.ofString "x" then u y else if y = Str.ofString "a" then u y else if y = Str.ofString "b" then u y else if y = Str.ofString "b_int" then some (.int (bI eta B 256) tb) else m₀ y) →
      News h₀ env.locals h ((x', bo) :: (D, W.listOf (List.toArray v) c) :: news) → Q .next { s with heap := h, toks := tk }) :
    wpAny (model prog w) A (pyIter (.ref r)) (fun it s₂ => LoopAtV prog w A h₀ env (Str.ofString "i") body Q E it s₂) E s := by
  refine kpr_invN (n := 256) (LoopJ eta B m₀ x' D bo news) hh hr (by decide) (by decide) F N ⟨⟨⟨tB, hB⟩, fun _ _ _ _ _ _ => rfl⟩, v0, c0, rfl, ?_⟩ ?_ ?_
  · have e : stepL eta B 0 = List.map (fun _ => (0 : Int)) (rangeKs 0 (256 - 0 : Int).toNat) := by
      show List.replicate 256 (0 : Int) = _
      decide +kernel
    rw [e]; exact hi
  · rintro i k t m₁ nx h tk own hk hoff ⟨hM, v, c, rfl, hv⟩ F₁ N₁
    obtain ⟨hlt, rfl⟩ : i < 256 ∧ k = (i : Int) := by
      unfold rangeKs at hk
      rw [List.getElem?_map] at hk
      by_cases h : i < 256
      · rw [List.getElem?_range h] at hk
        simp at hk
        exact ⟨h, hk.symm⟩
      · rw [List.getElem?_eq_none (by simpa using h)] at hk
        cases hk
    obtain ⟨tb, e⟩ := hM.map
    refine turn i t tb v c m₁ h tk own hlt ?_ (by rw [hv.length, stepL_length (by omega)]) hv ?_ ?_
    · intro p hp
      rcases List.mem_append.mp hp with hp | hp
      · exact hnD p hp
      · exact hoff p hp D (by simp)
    · have e2 : (fun y => if y = Str.ofString "i" then some (Value.int (i : Int) t) else m₁ y) = (fun y => if y = Str.ofString "i" then some (Value.int (i : Int) t) else if y = Str.ofString "x" then m₁ y else if y = Str.ofString "a" then m₁ y else if y = Str.ofString "b" then m₁ y else if y = Str.ofString "b_int" then some (.int (bI eta B i) tb) else m₀ y) := by
        funext y
        by_cases h1 : y = Str.ofString "i"
        · rw [if_pos h1, if_pos h1]
        · rw [if_neg h1, if_neg h1]
          have := congrFun e y
          rw [if_neg h1] at this
          exact this
      rw [e2] at F₁
      exact F₁
    · exact N₁
  · rintro m₁ nx h tk ⟨hM, v, c, rfl, hv⟩ F₁ N₁
    rw [rangeKs_length] at hM hv
    obtain ⟨tb, e⟩ := hM.map
    rw [e] at F₁
    exact done m₁ tb v c h tk hv F₁ N₁
end
end Mine
end

/-! part C1 -/
section
open PySem PySem.W PyProof.Rows
namespace Mine
def spreadL {α : Type} (a b c : List α) (s : Int) : List α := (List.replicate s.toNat a).flatten ++ b ++ (List.replicate (31 - s).toNat c).flatten

theorem mulsz' (n : List Int) {k : Int} (h : n.length ≤ 16) (hk : k < 32) : n.length * k.toNat ≤ 512 :=
  Nat.le_trans (Nat.mul_le_mul h (show k.toNat ≤ 32 by omega)) (by decide)
theorem mulsz {v : List Value} {n : List Int} {k : Int} (hi : IntsAre v n) (h : n.length ≤ 16) (hk : k < 32) : v.length * k.toNat ≤ 2 ^ 24 := by
  rw [hi.length]; exact Nat.le_trans (mulsz' n h hk) (by decide)
set_option maxRecDepth 100000 in
set_option maxHeartbeats 8000000 in
theorem spread_c {w : World} {loose : List Str} {mean : ExcName → Option Value} {mg mb : Str → Option Value}
    (dp un : Nat) (gd : Option (List Code)) (cn : Str) (cs : Scope) (a : Addr) (ccd : Value) (cl : List (Str × Addr)) (outer : List Env) (A₀ : Around) (base h₀ : Heap) (L : Addr) (m : Str → Option Value) (s : Shared) (Q E : Value → Shared → Prop) (news : List (Addr × Obj))
    (l1 l2 l3 : Addr) (v1 v2 v3 : List Value) (c1 c2 c3 : Nat) (n1 n2 n3 : List Int) (k : Int) (t : Tok)
    (B : Below A₀ base outer h₀) (F : Fr h₀ L s.heap m) (X : (hd.heap_39 w.params).In h₀) (N : News h₀ L s.heap news) (T : Top hd.view_39 loose mean mg mb h₀) (hk : cs.kind = .function)
    (hm1 : (l1, W.listOf v1.toArray c1) ∈ news) (hm2 : (l2, W.listOf v2.toArray c2) ∈ news) (hm3 : (l3, W.listOf v3.toArray c3) ∈ news)
    (hi1 : IntsAre v1 n1) (hi2 : IntsAre v2 n2) (hi3 : IntsAre v3 n3)
    (hz1 : n1.length ≤ 16) (hz2 : n2.length ≤ 16) (hz3 : n3.length ≤ 16) (hk0 : 0 ≤ k) (hk1 : k < 32)
    (hd' : dp + 1 < recursionLimit)
    (hret : ∀ (D : Addr) (us : List Value) (h' : Heap) (tk' : Nat), Fr h₀ L h' m → News h₀ L h' ((D, W.listOf us.toArray 0) :: news) → (∀ p ∈ news, p.1 < D) → IntsAre us (spreadL n1 n2 n3 k) → Q (.ref D) { s with heap := h', toks := tk' }) :
    wpAny (model Challenge.rw_yi0077_01.row.prog w) (ktrTop dp un gd cn cs L a ccd cl outer) (call (.ref 452) [.ref l1, .ref l2, .ref l3, .int k t]) Q E s := by
  k_with_none
  w_top off
  revert X; k_fill; intro X
  refine wpAny_call ?_
  k_dflt cell_enter
  k_steps
  refine KM.mul (by assumption) (by assumption) (News.isList (by assumption) hm1) hi1 (by omega) (by omega) (mulsz hi1 hz1 hk1) ?_
  intro D1 h1 F1 N1 o1 i1 _ _ _ _ _
  k_steps
  refine kmk_add_ints F1 N1 (News.isList N1 (.head _)) (News.isList N1 (.tail _ hm2)) i1 hi2 ?_ (by rw [KM.len_rep, sizeLine_eq]; have := mulsz' n1 hz1 hk1; omega)
  intro D2 us2 h2 F2 N2 o2 i2
  k_steps
  refine KM.mul (by assumption) (by assumption) (News.isList (by assumption) (.tail _ (.tail _ hm3))) hi3 (by omega) (by omega) (mulsz hi3 hz3 (by omega)) ?_
  intro D3 h3 F3 N3 o3 i3 _ _ _ _ _
  k_steps
  refine kmk_add_ints F3 N3 (News.isList N3 (.tail _ (.head _))) (News.isList N3 (.head _)) i2 i3 ?_ (by rw [List.length_append, KM.len_rep, KM.len_rep, sizeLine_eq]; have := mulsz' n1 hz1 hk1; have := mulsz' n3 hz3 (show 31 - k < 32 by omega); omega)
  intro D4 us4 h4 F4 N4 o4 i4
  k_steps
  rename_i kF kN _ _
  refine hret D4 us4 _ _ kF (cb_drop kN fun p hp => ?_) (fun p hp => o4 p (.tail _ (.tail _ (.tail _ hp)))) i4
  rcases List.mem_cons.mp hp with rfl | hp
  · exact .head _
  · exact .tail _ (.tail _ (.tail _ (.tail _ hp)))
end Mine
end

/-! part C2 -/
section
open PySem PySem.W PyProof.Rows
namespace Mine
local macro_rules | `(tactic| k_all) => `(tactic| assumption)
local macro_rules | `(tactic| k_mem) => `(tactic| ((show (_ : Addr × Obj) ∈ (_ : List (Addr × Obj))); ktr_member))
local macro_rules | `(tactic| k_room) => `(tactic| ktr_room)
local macro_rules | `(tactic| walk_at "callWith ref") => `(tactic| (k_here; kco_here; k_dflt (refine' own_callWith_kw ?k1 ?k2 ?k3 ?k4 ?_; (case k1 => k_in); (case k2 => k_inst); (case k3 => rfl); (case k4 => exact rfl); k_whole)))
set_option maxRecDepth 100000 in
set_option maxHeartbeats 8000000 in
theorem cbd_c {w : World} {loose : List Str} {mean : ExcName → Option Value} {mg mb : Str → Option Value}
    (dp un : Nat) (gd : Option (List Code)) (cn : Str) (cs : Scope) (a : Addr) (ccd : Value) (cl : List (Str × Addr)) (outer : List Env) (A₀ : Around) (base h₀ : Heap) (L : Addr) (m : Str → Option Value) (s : Shared) (Q E : Value → Shared → Prop) (news : List (Addr × Obj))
    (x dx z : Addr) (hs1 hs2 hs3 hs4 : Int) (t1 t2 t3 t4 u1 u2 u4 : Tok) (f : Int) (nd : Nat) (b : Array UInt8) (tb te : Tok) (eta : Int) (ntt : Bool) (ks : List Int) (pos : List Value) (kw : List (Str × Value))
    (B : Below A₀ base outer h₀) (F : Fr h₀ L s.heap m) (X : (hd.heap_39 w.params).In h₀) (N : News h₀ L s.heap news) (T : Top hd.view_39 loose mean mg mb h₀) (hk : cs.kind = .function)
    (hm1 : (x, instObj 287 dx) ∈ news) (hm2 : (dx, dictOf [⟨hs1, .str (Str.ofString "q") t1, .int 3329 u1⟩, ⟨hs2, .str (Str.ofString "n") t2, .int 256 u2⟩, ⟨hs3, .str (Str.ofString "ntt_zetas") t3, .ref z⟩, ⟨hs4, .str (Str.ofString "ntt_f") t4, .int f u4⟩] nd) ∈ news)
    (hb : KBw.bInts b = ks) (he0 : 0 ≤ eta) (he1 : eta < 6) (hlen : (ks.length : Int) = 64 * eta)
    (hbd : ∀ fd oc od osl, (hd.heap_39 w.params).lookup 268 = some ⟨oc, od, .func fd, osl⟩ → BindsTo s fd ⟨pos, kw⟩ [(Str.ofString "self", .ref x), (Str.ofString "input_bytes", .bytes b tb), (Str.ofString "eta", .int eta te), (Str.ofString "is_ntt", .bool ntt)])
    (hd' : dp + 9 < recursionLimit)
    (hret : ∀ (q dq D : Addr) (us : List Value) (c nq : Nat) (hq1 hq2 : Int) (tq1 tq2 : Tok) (h' : Heap) (tk' : Nat), Fr h₀ L h' m → News h₀ L h' ((q, instObj (if ntt = true then 431 else 355) dq) :: (dq, dictOf [⟨hq1, .str (Str.ofString "parent") tq1, .ref x⟩, ⟨hq2, .str (Str.ofString "coeffs") tq2, .ref D⟩] nq) :: (D, W.listOf us.toArray c) :: news) →
      IntsAre us (stepL eta (KFB.value ks.reverse) 256) → Q (.ref q) { s with heap := h', toks := tk' }) :
    wpAny (model Challenge.rw_yi0077_01.row.prog w) (ktrTop dp un gd cn cs L a ccd cl outer) (call (.ref 268) pos kw) Q E s := by
  k_with_none
  w_top off
  revert X; k_fill; intro X
  refine wpAny_call ?_
  k_dflt (refine' code_def ?k1 ?k2 ?k3 ?k4 ?k5 ?kA ?kF ?kK ?k6 ?k7 ?k8 ?k9 ?kB ?_ ?c2 ?c3 ?c4 ?c5; (case kA => exact rfl); (case kF => exact rfl); (case kK => assumption); (case k1 => k_asm); (case k2 => k_asm); (case k3 => k_asm); (case k4 => k_asm); (case k5 => k_asm); (case k6 => k_is); (case k7 => k_is); (case k8 => ktr_room); (case k9 => exact hbd _ _ _ _ (by k_is)); (case c5 => decide); (case kB => exact locs rfl); (case c2 => exact rfl); (case c3 => exact rfl); (case c4 => exact rfl); k_whole; intro g' L' h' FG' F' N' B' X' T'; (try dsimp only); (try k_lift B'); (try k_fold))
  (k_with "pyIter ref" => refine stop_here ?_)
  k_steps
  rotate_left
  · exact absurd hlen.symm (by assumption)
  refine from_call (by assumption) (.head _) hb (by omega) ?_
  intro t9 k9
  k_steps
  rename_i lR lF lN _
  have o1' : ∀ p ∈ news, p.1 ≠ _ := off1_ne (by assumption)
  refine Stop.go (cbd_loop eta rfl lR lF lN (by assumption) rfl (by have h9 := (‹_ ∧ AllLt _ news›).1; exact Nat.ne_of_gt h9) (by assumption) ?_ ?_)
  · intro i t tb v c u h tk own hi hD hv hIv F1 N1
    replace F1 : Fr g' L' h _ := F1
    replace N1 : News g' L' h _ := N1
    have hi0 : (0 : Int) ≤ (i : Int) := Int.natCast_nonneg i
    have hi1 : (i : Int) < 256 := by omega
    k_steps
    rename_i F9 N9 hI9 _ _
    rw [Int.toNat_natCast] at hI9
    have hI8 := Eq.mp (congrArg (IntsAre _) (stepL_set (eta := eta) (B := KFB.value ks.reverse) hi)) hI9
    refine InvEndN.intro F9 N9 ⟨⟨⟨_, rfl⟩, ?_⟩, _, c, rfl, hI8⟩ rfl ?_ ?_
    · intro y h1 h2 h3 h4 h5
      simp only [if_neg h1, if_neg h2, if_neg h3, if_neg h4, if_neg h5]
    · intro p hp
      rw [Int.toNat_natCast]
      rcases List.mem_cons.mp hp with rfl | hp
      · exact .head _
      rcases List.mem_cons.mp hp with rfl | hp
      · exact .tail _ (.head _)
      · exact .tail _ (.tail _ (List.mem_append.mpr (.inl hp)))
    · exact fun p hp => .tail _ (.tail _ (List.mem_append.mpr (.inr hp)))
  · intro u tb v c h tk hIv F1 N1
    obtain ⟨ns, hns⟩ : ∃ ns, ns = stepL eta (KFB.value ks.reverse) 256 := ⟨_, rfl⟩
    have hnl : ns.length = 256 := by rw [hns]; exact stepL_length (Nat.le_refl _)
    rw [← hns] at hIv
    have hvl : v.length = 256 := by rw [hIv.length, hnl]
    replace F1 : Fr g' L' h _ := F1
    replace N1 : News g' L' h _ := N1
    k_steps
    all_goals rename_i kF kN _ _
    all_goals rw [hns] at hIv
    · have e : ntt = true := by assumption
      subst e
      exact hret _ _ _ v c _ _ _ _ _ _ _ kF (drop4 kN) hIv
    · have e : ntt = false := by assumption
      subst e
      exact hret _ _ _ v c _ _ _ _ _ _ _ kF (drop4 kN) hIv
end Mine
end

/-! part C6 -/
section
open PySem PySem.W PyProof.Rows
namespace Mine
set_option maxRecDepth 100000 in
set_option maxHeartbeats 3000000 in
theorem cbd_kw {w : World} {loose : List Str} {mean : ExcName → Option Value} {mg mb : Str → Option Value}
    (dp un : Nat) (gd : Option (List Code)) (cn : Str) (cs : Scope) (a : Addr) (ccd : Value) (cl : List (Str × Addr)) (outer : List Env) (A₀ : Around) (base h₀ : Heap) (L : Addr) (m : Str → Option Value) (s : Shared) (Q E : Value → Shared → Prop) (news : List (Addr × Obj))
    (x dx z : Addr) (hs1 hs2 hs3 hs4 : Int) (t1 t2 t3 t4 u1 u2 u4 : Tok) (f : Int) (nd : Nat) (b : Array UInt8) (tb te : Tok) (eta : Int) (ntt : Bool) (ks : List Int)
    (B : Below A₀ base outer h₀) (F : Fr h₀ L s.heap m) (X : (hd.heap_39 w.params).In h₀) (N : News h₀ L s.heap news) (T : Top hd.view_39 loose mean mg mb h₀) (hk : cs.kind = .function)
    (hm1 : (x, instObj 287 dx) ∈ news) (hm2 : (dx, dictOf [⟨hs1, .str (Str.ofString "q") t1, .int 3329 u1⟩, ⟨hs2, .str (Str.ofString "n") t2, .int 256 u2⟩, ⟨hs3, .str (Str.ofString "ntt_zetas") t3, .ref z⟩, ⟨hs4, .str (Str.ofString "ntt_f") t4, .int f u4⟩] nd) ∈ news)
    (hb : KBw.bInts b = ks) (he0 : 0 ≤ eta) (he1 : eta < 6) (hlen : (ks.length : Int) = 64 * eta)
    (hd' : dp + 9 < recursionLimit)
    (hret : ∀ (q dq D : Addr) (us : List Value) (c nq : Nat) (hq1 hq2 : Int) (tq1 tq2 : Tok) (h' : Heap) (tk' : Nat), Fr h₀ L h' m → News h₀ L h' ((q, instObj (if ntt = true then 431 else 355) dq) :: (dq, dictOf [⟨hq1, .str (Str.ofString "parent") tq1, .ref x⟩, ⟨hq2, .str (Str.ofString "coeffs") tq2, .ref D⟩] nq) :: (D, W.listOf us.toArray c) :: news) →
      IntsAre us (stepL eta (KFB.value ks.reverse) 256) → Q (.ref q) { s with heap := h', toks := tk' }) :
    wpAny (model Challenge.rw_yi0077_01.row.prog w) (ktrTop dp un gd cn cs L a ccd cl outer) (call (.ref 268) [.ref x, .bytes b tb, .int eta te] [(Str.ofString "is_ntt", .bool ntt)]) Q E s := by
  k_with_none
  w_top off
  revert X; k_fill; intro X
  refine cbd_c dp un gd cn cs a ccd cl outer A₀ base h₀ L m s Q E news x dx z hs1 hs2 hs3 hs4 t1 t2 t3 t4 u1 u2 u4 f nd b tb te eta ntt ks _ _ B F X N T hk hm1 hm2 hb he0 he1 hlen (fun fd oc od osl e => ?_) hd' hret
  rw [fd_of (by k_is) e]
  exact binds_K (X.keeps F.keep) rfl (by k_is) rfl rfl rfl
set_option maxRecDepth 100000 in
set_option maxHeartbeats 3000000 in
theorem cbd_pl {w : World} {loose : List Str} {mean : ExcName → Option Value} {mg mb : Str → Option Value}
    (dp un : Nat) (gd : Option (List Code)) (cn : Str) (cs : Scope) (a : Addr) (ccd : Value) (cl : List (Str × Addr)) (outer : List Env) (A₀ : Around) (base h₀ : Heap) (L : Addr) (m : Str → Option Value) (s : Shared) (Q E : Value → Shared → Prop) (news : List (Addr × Obj))
    (x dx z : Addr) (hs1 hs2 hs3 hs4 : Int) (t1 t2 t3 t4 u1 u2 u4 : Tok) (f : Int) (nd : Nat) (b : Array UInt8) (tb te : Tok) (eta : Int) (ks : List Int)
    (B : Below A₀ base outer h₀) (F : Fr h₀ L s.heap m) (X : (hd.heap_39 w.params).In h₀) (N : News h₀ L s.heap news) (T : Top hd.view_39 loose mean mg mb h₀) (hk : cs.kind = .function)
    (hm1 : (x, instObj 287 dx) ∈ news) (hm2 : (dx, dictOf [⟨hs1, .str (Str.ofString "q") t1, .int 3329 u1⟩, ⟨hs2, .str (Str.ofString "n") t2, .int 256 u2⟩, ⟨hs3, .str (Str.ofString "ntt_zetas") t3, .ref z⟩, ⟨hs4, .str (Str.ofString "ntt_f") t4, .int f u4⟩] nd) ∈ news)
    (hb : KBw.bInts b = ks) (he0 : 0 ≤ eta) (he1 : eta < 6) (hlen : (ks.length : Int) = 64 * eta)
    (hd' : dp + 9 < recursionLimit)
    (hret : ∀ (q dq D : Addr) (us : List Value) (c nq : Nat) (hq1 hq2 : Int) (tq1 tq2 : Tok) (h' : Heap) (tk' : Nat), Fr h₀ L h' m → News h₀ L h' ((q, instObj (355) dq) :: (dq, dictOf [⟨hq1, .str (Str.ofString "parent") tq1, .ref x⟩, ⟨hq2, .str (Str.ofString "coeffs") tq2, .ref D⟩] nq) :: (D, W.listOf us.toArray c) :: news) →
      IntsAre us (stepL eta (KFB.value ks.reverse) 256) → Q (.ref q) { s with heap := h', toks := tk' }) :
    wpAny (model Challenge.rw_yi0077_01.row.prog w) (ktrTop dp un gd cn cs L a ccd cl outer) (call (.ref 268) [.ref x, .bytes b tb, .int eta te]) Q E s := by
  k_with_none
  w_top off
  revert X; k_fill; intro X
  refine cbd_c dp un gd cn cs a ccd cl outer A₀ base h₀ L m s Q E news x dx z hs1 hs2 hs3 hs4 t1 t2 t3 t4 u1 u2 u4 f nd b tb te eta false ks _ _ B F X N T hk hm1 hm2 hb he0 he1 hlen (fun fd oc od osl e => ?_) hd' hret
  rw [fd_of (by k_is) e]
  exact binds_K (X.keeps F.keep) rfl (by k_is) rfl rfl rfl
end Mine
end

/-! part NumB -/
section
open PySem PySem.W PyProof.Rows PySem.Calls
set_option maxRecDepth 100000
namespace Mine
def numOpt (r : int_private% "Numeral") : Option Int := by
  cases r
  · exact none
  · exact none
  · exact none
  · rename_i v; exact some v
theorem numOpt_eq {r : int_private% "Numeral"} {v : Int} (h : numOpt r = some v) : r = (int_private% "Numeral.value") v := by
  cases r
  · cases h
  · cases h
  · cases h
  · cases h; rfl
/-- what bin(n)[2:].zfill(7) is -/
def binT (n : Nat) : Str := Txt.zfill (Txt.slice (baseText "0b" 2 (n : Int)) (some 2) none) 7
def revT (n : Nat) : Str := Txt.sliceBy (binT n) none none (-1, 0)
def brV (n : Nat) : Int := (numOpt ((int_private% "readNumeral") 0 2 (revT n).cps.toList)).getD 0
theorem bin_len : ∀ n : Nat, n < 128 → (binT n).length ≤ 9 := by decide +kernel
theorem rev_all : ∀ n : Nat, n < 128 → (revT n).length ≤ 9 ∧ ((revT n).cps.toList.takeWhile (· != 0)) = (revT n).cps.toList ∧ (revT n).cps.all (· < 128) = true ∧ (numOpt ((int_private% "readNumeral") 0 2 (revT n).cps.toList)).isSome = true ∧ 0 ≤ brV n ∧ brV n < 128 := by decide +kernel

theorem wp_text2 {M : Model} {A : Around} {E : Value → Shared → Prop} {s : Shared} {Q : Value → Shared → Prop} {v : Value} {text : List Nat} {n : Int}
    (hs : (text.takeWhile (· != 0)).length ≤ 640) (hr : (int_private% "readNumeral") 0 2 (text.takeWhile (· != 0)) = (int_private% "Numeral.value") n)
    (ha : ((text.takeWhile (· != 0)).length == text.length) = true) (h : Q (.int n s.toks) { s with toks := s.toks + 1 }) :
    wpAny M A ((int_private% "intFromText") v text 2) Q E s := by
  obtain ⟨hp, g, d, tk, os⟩ := s
  repeat (any_goals (first
    | assumption
    | (with_reducible refine wpAny_ite_true (decide_eq_true hs) ?_)
    | (with_reducible refine wpAny_ite_true (decide_eq_true ha) ?_)
    | wp_step))
  all_goals (try rw [hr])
  all_goals (try dsimp only)
  repeat (any_goals (first
    | assumption
    | (with_reducible refine wpAny_ite_true (decide_eq_true hs) ?_)
    | (with_reducible refine wpAny_ite_true (decide_eq_true ha) ?_)
    | wp_step))
theorem typeCall2 (a b : Value) : checkTypeCall "int" ⟨[a, b], []⟩ = pure () := by kernel_rfl
theorem newCall2 (a b : Value) : checkBuiltinCall "int.__new__" ⟨[.type "int", a, b], []⟩ = pure () := by kernel_rfl
theorem initArgs3 (obj a b : Value) : argsOk "object.__init__" ⟨[obj, a, b], []⟩ := by unfold argsOk; kernel_rfl
set_option maxHeartbeats 4000000 in
theorem gives_text2 {x : PySem.Str} {u u2 : Tok} {n : Int} (hs : ((numTextOf x).takeWhile (· != 0)).length ≤ 640) (hr : (int_private% "readNumeral") 0 2 ((numTextOf x).takeWhile (· != 0)) = (int_private% "Numeral.value") n)
    (ha : (((numTextOf x).takeWhile (· != 0)).length == (numTextOf x).length) = true) : Gives (Builtin.«int.__new__» ⟨[.type "int", .str x u, .int 2 u2], []⟩) (.int n) :=
  .of_wp fun M A E s Q h => by
    obtain ⟨hp, g, d, tk, os⟩ := s
    have f1 := F.conv_sub_int
    have f2 := F.madeHere_int
    have f6 : typeOf (.str x u) = pure (.type "str") := rfl
    have hk := KIN.Hid.mk (And.intro hs (And.intro hr ha))
    clear hs hr ha
    repeat (any_goals (first
      | assumption
      | ((with_reducible show wpAny _ _ ((int_private% "intFromText") _ _ _) _ _ _); refine wp_text2 hk.out.1 hk.out.2.1 hk.out.2.2 ?_)
      | wp_step))
    all_goals first | exact ⟨_, rfl, h⟩ | skip

theorem call_br {prog : Program} {w : World} {A : Around} {E : Value → Shared → Prop} {s : Shared} {Q : Value → Shared → Prop} {n : Nat} {uk t u : Tok} (hn : n < 128) (h : Q (.int (brV n) s.toks) { s with toks := s.toks + 1 }) :
    wpAny (model prog w) A (call (.type "int") [.str (Txt.sliceBy (binT n) none none (-1, uk)) t, .int 2 u]) Q E s := by
  obtain ⟨hl, ht, h128, hsome, _, _⟩ := rev_all n hn
  have ex : Txt.sliceBy (binT n) none none (-1, uk) = revT n := rfl
  have etx : numTextOf (revT n) = (revT n).cps.toList := by
    show (if (revT n).cps.all (· < 128) then (revT n).cps.toList else _) = _
    rw [h128]; rfl
  rw [ex]
  refine callType_new F.called_int F.newNe_int (typeCall2 _ _) (newCall2 _ _) (fun obj => initArgs3 obj _ _) F.entry_int_new (gives_text2 (n := brV n) ?_ ?_ ?_).meets (show (Made.int _).post _ s from ⟨rfl, h⟩)
  · rw [etx, ht, Array.length_toList]
    exact Nat.le_trans (show (revT n).cps.size ≤ 9 from hl) (by decide)
  · rw [etx, ht]
    obtain ⟨v, hv⟩ := Option.isSome_iff_exists.mp hsome
    have e : brV n = v := by unfold brV; rw [hv]; rfl
    rw [e]
    exact numOpt_eq hv
  · rw [etx, ht]; exact beq_self_eq_true _
end Mine
end

/-! part C3 -/
section
open PySem PySem.W PyProof.Rows
namespace Mine
theorem br_and : ∀ n : Nat, n < 128 → Builtin.bitAnd (n : Int) (2 ^ Int.toNat 7 - 1) = (n : Int) := by decide +kernel
theorem br_len : ∀ n : Nat, n < 128 → (baseText "0b" 2 (n : Int)).length ≤ 9 := by decide +kernel
local macro_rules | `(tactic| walk_at "subscriptTail") => `(tactic| (refine stop_here ?_))
local macro_rules | `(tactic| walk_at "subscriptTail Name Slice str ref") => `(tactic| (refine stop_here ?_))
local macro_rules | `(tactic| k_room) => `(tactic| ktr_room)
set_option maxRecDepth 100000 in
set_option maxHeartbeats 1000000 in
theorem br_c {w : World} {loose : List Str} {mean : ExcName → Option Value} {mg mb : Str → Option Value}
    (dp un : Nat) (gd : Option (List Code)) (cn : Str) (cs : Scope) (a : Addr) (ccd : Value) (cl : List (Str × Addr)) (outer : List Env) (A₀ : Around) (base h₀ : Heap) (L : Addr) (m : Str → Option Value) (s : Shared) (Q E : Value → Shared → Prop) (news : List (Addr × Obj))
    (i : Int) (ti t7 : Tok)
    (B : Below A₀ base outer h₀) (F : Fr h₀ L s.heap m) (X : (hd.heap_39 w.params).In h₀) (N : News h₀ L s.heap news) (T : Top hd.view_39 loose mean mg mb h₀) (hk : cs.kind = .function)
    (hi0 : 0 ≤ i) (hi1 : i < 128)
    (hd' : dp + 9 < recursionLimit)
    (hret : ∀ (t : Tok) (h' : Heap) (tk' : Nat), Fr h₀ L h' m → News h₀ L h' news → 0 ≤ brV i.toNat → brV i.toNat < 128 → Q (.int (brV i.toNat) t) { s with heap := h', toks := tk' }) :
    wpAny (model Challenge.rw_yi0077_01.row.prog w) (ktrTop dp un gd cn cs L a ccd cl outer) (call (.ref 252) [.int i ti, .int 7 t7]) Q E s := by
  k_with_none
  w_top off
  revert X; k_fill; intro X
  refine wpAny_call ?_
  k_dflt cell_enter
  k_steps
  obtain ⟨n, hn, rfl⟩ : ∃ n : Nat, n < 128 ∧ i = (n : Int) := ⟨i.toNat, by omega, by omega⟩
  rw [show Builtin.bitAnd (n : Int) (2 ^ Int.toNat 7 - 1) = (n : Int) from br_and n hn]
  refine P.bin_of_int ?_ (Nat.le_trans (br_len n hn) (by rw [sizeLine_eq]; decide))
  k_steps
  have hb := rev_all n hn
  rename_i F9 N9
  rw [show Txt.zfill (Txt.slice (baseText "0b" 2 (n : Int)) (some 2) none) 7 = binT n from rfl] at F9 ⊢
  refine Stop.go (slice_strK_nn (s := ⟨_, _, _, _, _⟩) F9 N9 (by decide) ?_ (hsz := Nat.le_trans (bin_len n hn) (by rw [sizeLine_eq]; decide)))
  intro h7 t7 c7 F7 N7
  k_steps
  refine call_br hn ?_
  k_steps
  rename_i kF kN _ _
  exact hret _ _ _ kF kN hb.2.2.2.2.1 hb.2.2.2.2.2
end Mine
end

/-! part PowB -/
section
open PySem PySem.W PyProof.Rows PySem.Calls
set_option maxRecDepth 100000
namespace Mine
theorem pow_kind : builtinKind "pow" = none := by decide +kernel
theorem pow_plain : plainId "pow" = true := by decide +kernel
theorem pow_entry : entryFor table "pow" = some Builtin.«pow» := by first | exact entryFor_of_fast (by kernel_rfl) | exact entryFor_of_tree (by kernel_rfl)
theorem pow_args (a b c : Value) : argsOk "pow" ⟨[a, b, c], []⟩ := by unfold argsOk; kernel_rfl
theorem ipow_args (a b c : Value) : argsOk "int.__pow__" ⟨[a, b, c], []⟩ := by unfold argsOk; kernel_rfl

def powV (b : Int) : Int := ((Builtin.powMod 17 b.natAbs 3329 : Nat) : Int)
theorem gives_pow17 (b : Int) (t u v : Tok) (hb : ¬ b < 0) : Gives (Builtin.«int.__pow__» ⟨[.int 17 t, .int b u, .int 3329 v], []⟩) (.int (powV b)) :=
  .of_wp fun M A E s Q h => by
    obtain ⟨hp, g, d, tk, os⟩ := s
    wp_walk
    rw [if_neg (by simp)]
    exact ⟨_, rfl, h⟩
def powI : Int := ((Builtin.powMod ((0 - ((Int.natAbs 3329 : Nat) : Int) / (((128 % ((Int.natAbs 3329 : Nat) : Int)).toNat : Nat) : Int) * 1) % ((Int.natAbs 3329 : Nat) : Int)).toNat (-1 : Int).natAbs (Int.natAbs 3329) : Nat) : Int)
theorem gives_powinv (t u v : Tok) : Gives (Builtin.«int.__pow__» ⟨[.int 128 t, .int (-1) u, .int 3329 v], []⟩) (.int powI) :=
  .of_wp fun M A E s Q h => by
    obtain ⟨hp, g, d, tk, os⟩ := s
    wp_walk
    rw [if_neg (by simp)]
    exact ⟨_, rfl, h⟩
set_option maxHeartbeats 1000000 in
theorem call_pow3 {prog : Program} {w : World} {A : Around} {E : Value → Shared → Prop} {s : Shared} {Q : Value → Shared → Prop} {x y m z : Int} {t u v : Tok} (hg : Gives (Builtin.«int.__pow__» ⟨[.int x t, .int y u, .int m v], []⟩) (.int z))
    (h : Q (.int z s.toks) { s with toks := s.toks + 1 }) : wpAny (model prog w) A (call (.builtin "pow") [.int x t, .int y u, .int m v]) Q E s := by
  refine call_function_entry pow_kind pow_plain pow_entry (pow_args _ _ _) ?_
  obtain ⟨hp, g, d, tk, os⟩ := s
  have hT : (⟨hp, g, d, tk, os⟩ : Shared).TypeIs (.int x t) "int" := rfl
  have f3 := F.slot_int_pow.lookup
  rw [show PySem.dunder "pow" = Str.ofString "__pow__" from by decide +kernel] at f3
  have f4 := F.slot_int_pow.bind (.int x t)
  repeat (any_goals (first | assumption | ((with_reducible show wpAny _ _ (call (Value.builtin "int.__pow__") _ _) _ _ _); refine call_gives F.slot_int_pow hT F.entry_int_pow (F.args_int_pow_3 _ _ _) hg ?_; dsimp only [Made.post]) | wp_step))
  all_goals first | exact ⟨_, rfl, h⟩ | exact h | skip
  all_goals trace_state
end Mine
end

/-! part C4 -/
section
open PySem PySem.W PyProof.Rows
namespace Mine
local macro_rules | `(tactic| k_all) => `(tactic| assumption)
local macro_rules | `(tactic| k_mem) => `(tactic| ((show (_ : Addr × Obj) ∈ (_ : List (Addr × Obj))); ktr_member))
local macro_rules | `(tactic| k_room) => `(tactic| ktr_room)
local macro_rules | `(tactic| walk_at "call ref") => `(tactic| (k_here; (with_reducible show wpAny _ _ (call (Value.ref 252) [Value.int _ _, Value.int 7 _]) _ _ _); k_dflt (refine' br_c _ _ _ _ _ _ _ _ _ _ _ _ _ _ _ _ _ _ _ _ _ ?k1 ?k2 ?k3 ?k4 ?k5 ?kK ?kb0 ?kb1 ?kd ?kR; (case k1 => k_asm); (case k2 => k_asm); (case k3 => k_asm); (case k4 => k_asm); (case k5 => k_asm); (case kK => first | exact rfl | assumption); (case kb0 => omega); (case kb1 => omega); (case kd => ktr_room)); intro t9 h9 tk9 F9 N9 hb0 hb1; (try dsimp only); (try k_fold)))
local macro_rules | `(tactic| walk_at "call builtin:pow") => `(tactic| (first
  | refine call_pow3 (gives_pow17 _ _ _ _ (by omega)) ?_
  | refine call_pow3 (gives_powinv _ _ _) ?_))
set_option maxRecDepth 100000 in
set_option maxHeartbeats 3000000 in
theorem ring_c {w : World} {loose : List Str} {mean : ExcName → Option Value} {mg mb : Str → Option Value}
    (dp un : Nat) (gd : Option (List Code)) (cn : Str) (cs : Scope) (a : Addr) (ccd : Value) (cl : List (Str × Addr)) (outer : List Env) (A₀ : Around) (base h₀ : Heap) (L : Addr) (m : Str → Option Value) (s : Shared) (Q E : Value → Shared → Prop) (news : List (Addr × Obj))
    (B : Below A₀ base outer h₀) (F : Fr h₀ L s.heap m) (X : (hd.heap_39 w.params).In h₀) (N : News h₀ L s.heap news) (T : Top hd.view_39 loose mean mg mb h₀) (hk : cs.kind = .function)
    (hd' : dp + 19 < recursionLimit)
    (hret : ∀ (x dx z : Addr) (hs1 hs2 hs3 hs4 : Int) (t1 t2 t3 t4 u1 u2 u4 : Tok) (f : Int) (nd : Nat) (h' : Heap) (tk' : Nat), Fr h₀ L h' m →
      News h₀ L h' ((x, instObj 287 dx) :: (dx, dictOf [⟨hs1, .str (Str.ofString "q") t1, .int 3329 u1⟩, ⟨hs2, .str (Str.ofString "n") t2, .int 256 u2⟩, ⟨hs3, .str (Str.ofString "ntt_zetas") t3, .ref z⟩, ⟨hs4, .str (Str.ofString "ntt_f") t4, .int f u4⟩] nd) :: news) → Q (.ref x) { s with heap := h', toks := tk' }) :
    wpAny (model Challenge.rw_yi0077_01.row.prog w) (ktrTop dp un gd cn cs L a ccd cl outer) (call (.ref 287) []) Q E s := by
  k_with_none
  w_top off
  revert X; k_fill; intro X
  refine' call_cls ?k1 ?k2 ?k3 ?k4 ?k5 ?k6 ?_
  case k1 => k_asm
  case k2 => k_asm
  case k3 => k_asm
  case k4 => k_is
  case k5 => k_is
  case k6 => k_is
  intro x d h1 F1 N1 l1 l2
  have hdx : x ≠ d := Nat.ne_of_gt l2
  have hnd : ∀ p ∈ news, p.1 ≠ d := fun p hp => Nat.ne_of_lt (l1 p hp)
  have hnx : ∀ p ∈ news, p.1 ≠ x := fun p hp => Nat.ne_of_lt (Nat.lt_trans (l1 p hp) l2)
  k_dflt (refine' code_defC ?k1 ?k2 ?k3 ?k4 ?k5 ?kA ?kF ?kK ?k6 ?k7 ?k8 ?k9 ?kB ?kD ?_ ?c2 ?c3 ?c4; (case kA => exact rfl); (case kF => exact rfl); (case kK => assumption); (case k1 => k_asm); (case k2 => k_asm); (case k3 => k_asm); (case k4 => k_asm); (case k5 => k_asm); (case k6 => k_is); (case k7 => k_is); (case k8 => ktr_room); (case k9 => exact BindsTo.of_eq rfl); (case kB => exact rfl); (case kD => decide +kernel); (case c2 => exact rfl); (case c3 => exact rfl); (case c4 => exact rfl); k_whole; intro g' L' h' tk' cells' FG' F' N' Y' B' X' T' l1; (try k_lt l1); k_cells Y'; (try simp only [List.cons_append, List.nil_append] at N'); (try dsimp only); (try k_lift B'); (try k_fold))
  obtain ⟨lx, ld, lN⟩ := l1
  have hc1 : ∀ p ∈ news, p.1 ≠ L' + 1 := allLt_ne lN (Nat.le_succ _)
  have hc2 : ∀ p ∈ news, p.1 ≠ L' + 1 + 1 := allLt_ne lN (Nat.le_succ_of_le (Nat.le_succ _))
  k_steps
  rename_i kF kN _ _
  exact hret _ _ _ _ _ _ _ _ _ _ _ _ _ _ _ _ _ _ kF (fun p hp => kN p (.tail _ (.tail _ (.tail _ hp))))
end Mine
end

/-! part Comp2 -/
section
open PySem PySem.W PyProof.Rows PySem.Calls
namespace Mine
abbrev two (elt iter1 iter2 : Expr) (x1 x2 : Str) (px1 px2 : Pos) (scope : Scope) (pos : Pos) : Expr := .ListComp elt [⟨.Name x1 px1, iter1, [], 0⟩, ⟨.Name x2 px2, iter2, [], 0⟩] scope pos
section
variable {elt iter1 iter2 : Expr} {x1 x2 : Str} {px1 px2 : Pos} {scope : Scope} {pos : Pos}
theorem turn1_eq (it acc : Value) (env : Env) : compTurn (two elt iter1 iter2 x1 x2 px1 px2 scope pos) 1 it acc env = (do
      standAt iter2.pos
      match ← pyNext it with
      | none => pure (.done .next)
      | some v =>
        letOwnedTupleGo (.Name x2 px2) it v
        assign (.Name x2 px2) env v
        let mut ok := true
        for c in ([] : List Expr) do
          if ok then ok ← isTrue c env (eval c env)
        if ok then
          (do let _ ← call (.builtin "list.append") [acc, ← eval elt env])
        again (.compLoop (two elt iter1 iter2 x1 x2 px1 px2 scope pos) 1 it acc env)) := by rfl
theorem turn0_eq (it acc : Value) (env : Env) : compTurn (two elt iter1 iter2 x1 x2 px1 px2 scope pos) 0 it acc env = (do
      standAt iter1.pos
      match ← pyNext it with
      | none => pure (.done .next)
      | some v =>
        letOwnedTupleGo (.Name x1 px1) it v
        assign (.Name x1 px1) env v
        let mut ok := true
        for c in ([] : List Expr) do
          if ok then ok ← isTrue c env (eval c env)
        if ok then
          let x ← eval iter2 env
          standAt iter2.pos
          let x ← foldedSetIterable iter2 env x
          let _ ← runOwn (.compStart (two elt iter1 iter2 x1 x2 px1 px2 scope pos) 1 (← holding [x] (pyIter x)) acc env) env
        again (.compLoop (two elt iter1 iter2 x1 x2 px1 px2 scope pos) 0 it acc env)) := by rfl
end

section
variable {prog : Program} {w : World} {A : Around} {E : Value → Shared → Prop} {R : Result → Shared → Prop} {s : Shared}
variable {elt iter1 iter2 : Expr} {x1 x2 : Str} {px1 px2 : Pos} {scope : Scope} {pos : Pos}
theorem inner_loop {cenv : Env} {I D : Addr} {n : Nat} {St : Nat → Heap → Prop} {ov : Value} {bs : List Int} {g : Nat → Int} {ys0 : Array Value} {m : Str → Option Value}
    (W : Walks prog w A I [I] [I] n (fun i v => ∃ t, v = .int (0 + (i : Int) * 1) t) St)
    (hx2 : cenv.kindOf x2 = some .local) (hp : (cenv.scope.kind == .class || (cenv.scope.kind == .module && cenv.locals != cenv.globals)) = false) (hx12 : x1 ≠ x2)
    (hDC : D ≠ cenv.locals) (hDI : D ≠ I) (hCI : cenv.locals ≠ I)
    (hst : St 0 s.heap) (hacc : s.heap.PlainList D ys0) (hi0 : IntsAre ys0.toList bs) (hn : s.heap.Ns cenv.locals m) (ho : m x1 = some ov) (hsz : bs.length + n ≤ sizeLine)
    (helt : ∀ (i : Nat) t s₂ m₂ E', i < n → s₂.heap.Ns cenv.locals m₂ → m₂ x1 = some ov → m₂ x2 = some (.int (i : Int) t) →
      wpAny (model prog w) A (eval elt cenv) (fun y s₃ => (∃ t', y = .int (g i) t') ∧ Keeps s₂ s₃) E' s₂)
    (hR : ∀ h' tk m' ys', h'.Ns cenv.locals m' → h'.PlainList D ys' → IntsAre ys'.toList (bs ++ (List.range n).map g) →
      (∀ b o, b ≠ cenv.locals → b ≠ I → b ≠ D → s.heap.get? b = some o → h'.get? b = some o) → R (.ok .next) { s with heap := h', toks := tk }) :
    codeAny (model prog w) A (.compLoop (two elt iter1 iter2 x1 x2 px1 px2 scope pos) 1 (.ref I) (.ref D) cenv) R s := by
  refine codeAny_loop rfl (fun k s' => ∃ h' tk i m', ∃ ys : Array Value, s' = { s with heap := h', toks := tk } ∧ i ≤ n ∧ k = n + 1 - i ∧ St i h' ∧ h'.PlainList D ys ∧ h'.Ns cenv.locals m' ∧ m' x1 = some ov ∧
      IntsAre ys.toList (bs ++ (List.range i).map g) ∧ ∀ b o, b ≠ cenv.locals → b ≠ I → b ≠ D → s.heap.get? b = some o → h'.get? b = some o) ?_ (n + 1)
    ⟨s.heap, s.toks, 0, m, ys0, rfl, Nat.zero_le _, rfl, hst, hacc, hn, ho, by simpa using hi0, fun _ _ _ _ _ e => e⟩
  rintro k s' ⟨H, tk, i, m', ys, rfl, hi, rfl, hst', hacc', hn', ho', hI, hk⟩
  show wpAny _ A ((compTurn (two elt iter1 iter2 x1 x2 px1 px2 scope pos) 1 (.ref I) (.ref D) cenv).onRaise (fun x => do noteFrame x cenv; theTreesLotGoes x)) _ _ _
  refine wpAny_noted ?_
  rw [turn1_eq]
  refine wpAny_bind (wpAny_standAt (wpAny_bind ?_))
  by_cases hlt : i < n
  · refine W.item i _ _ _ hlt hst' fun v h₁ tk₁ hPv hst₁ hk₁ => ?_
    obtain ⟨t, rfl⟩ := hPv
    dsimp only
    refine wpAny_bind (wpAny_of_eq (a := ()) rfl ?_)
    refine wpAny_bind (wpAny_assign_Name (wpAny_storeName_local hx2 (hn'.at' fun o e => hk₁ _ o (by simpa using hCI) e) (fun h₂ hn₂ hs₂ => ?_) hp))
    refine wpAny_bind (wpAny_tests_nil ?_)
    simp only [if_true]
    have hst₂ : St (i + 1) h₂ := W.frame _ _ _ hst₁ fun b hb o e => hs₂.extBut b o (by rw [List.mem_singleton.mp hb]; exact Ne.symm hCI) e
    have up₂ : ∀ b o, b ≠ cenv.locals → b ≠ I → H.get? b = some o → h₂.get? b = some o := fun b o hbC hbI e => hs₂.extBut b o hbC (hk₁ b o (by simpa using hbI) e)
    have hacc₂ : h₂.PlainList D ys := hacc'.at fun o e => up₂ D o hDC hDI e
    refine wpAny_bind (wpAny_bind (wpAny_mono (helt i t _ _ _ hlt hn₂ (by simp [hx12, ho']) (by simp)) (fun y s₃ h₃ => ?_) fun _ _ e => e))
    obtain ⟨⟨t', rfl⟩, h₃, tk₃, rfl, hk₃⟩ := h₃
    have hyl : ys.size = bs.length + i := by have := hI.length; simpa using this
    refine wpAny_bind (wpAny_list_append_plain (hsz := by omega) (hacc₂.at fun o e => hk₃ _ o e) fun h₅ hl₅ hs₅ => ?_)
    refine wpAny_pure (wpAny_pure ⟨rfl, n + 1 - (i + 1), by omega, h₅, tk₃, i + 1, _, ys.push (.int (g i) t'), rfl, hlt, rfl, ?_, hl₅, (hn₂.keeps hk₃).sameBut hs₅ (Ne.symm hDC), by simp [hx12, ho'], ?_, ?_⟩)
    · exact W.frame _ _ h₅ hst₂ fun b hb o e => hs₅.extBut b o (by rw [List.mem_singleton.mp hb]; exact Ne.symm hDI) (hk₃ b o e)
    · rw [Array.toList_push, List.range_succ, List.map_append, ← List.append_assoc]
      exact IntsAre.append hI (.cons _ _ .nil)
    · exact fun b o hbC hbI hbD e => hs₅.extBut b o hbD (hk₃ b o (up₂ b o hbC hbI (hk b o hbC hbI hbD e)))
  · obtain rfl : i = n := Nat.le_antisymm hi (Nat.not_lt.mp hlt)
    refine W.done _ _ _ hst' fun h₁ tk₁ hk₁ => ?_
    exact wpAny_pure (hR h₁ tk₁ m' ys (hn'.at' fun o e => hk₁ _ o (by simpa using hCI) e) (hacc'.at fun o e => hk₁ _ o (by simpa using hDI) e) hI fun b o hbC hbI hbD e => hk₁ b o (by simpa using hbI) (hk b o hbC hbI hbD e))

theorem start1 {it acc : Value} {env : Env} (h0 : codeAny (model prog w) A (.compLoop (two elt iter1 iter2 x1 x2 px1 px2 scope pos) 1 it acc env) R s)
    (h : wpAny (model prog w) A (pyIter it) (fun it' s' => codeAny (model prog w) A (.compLoop (two elt iter1 iter2 x1 x2 px1 px2 scope pos) 1 it' acc env) R s') (notedBy (model prog w) A env fun x s' => R (.error x) s') s) :
    codeAny (model prog w) A (.compStart (two elt iter1 iter2 x1 x2 px1 px2 scope pos) 1 it acc env) R s := by
  refine codeAny_of_tree ?_
  show wpAny _ _ ((compStart (two elt iter1 iter2 x1 x2 px1 px2 scope pos) 1 it acc env).onRaise (fun x => do noteFrame x env; standAt theWindowsPlace)) _ _ s
  refine wpAny_notedAt ?_
  unfold compStart
  show wpAny _ _ (ask >>= _) _ _ s
  refine wpAny_bind (wpAny_askSetting (wpAny_ite ?_))
  split
  · first
      | exact wpAny_bind (wpAny_pure (wpAny_pure (And.intro rfl h0)))
      | exact wpAny_pure (And.intro rfl h0)
  · refine wpAny_bind (wpAny_rule ?_)
    show wpAny _ _ (standAt iter2.pos >>= _) _ _ s
    exact wpAny_bind (wpAny_standAt (wpAny_bind (wpAny_mono h (fun it' s' h' => wpAny_pure (And.intro rfl h')) fun _ _ x => x)))

theorem flat8_len (f : Int → Nat → Int) : ∀ l : List Int, (l.flatMap fun o => (List.range 8).map (f o)).length = l.length * 8
  | [] => rfl
  | o :: r => by rw [List.flatMap_cons, List.length_append, flat8_len f r, List.length_map, List.length_range, List.length_cons]; omega
theorem outer_loop {cenv : Env} {I D ax : Addr} {items : Array Value} {ns : List Int} {f : Int → Nat → Int} {m : Str → Option Value} (hh : A.handled = none)
    (hx1 : cenv.kindOf x1 = some .local) (hx2 : cenv.kindOf x2 = some .local) (hp : (cenv.scope.kind == .class || (cenv.scope.kind == .module && cenv.locals != cenv.globals)) = false) (hx12 : x1 ≠ x2)
    (hs2 : ∀ x, foldedSetIterable iter2 cenv x = pure x)
    (hDC : D ≠ cenv.locals) (hDI : D ≠ I) (hCI : cenv.locals ≠ I) (haI : ax ≠ I) (haC : ax ≠ cenv.locals) (haD : ax ≠ D)
    (hit : s.heap.IsListIter I ax 0) (hl : s.heap.IsList ax items) (hacc : s.heap.PlainList D #[]) (hn : s.heap.Ns cenv.locals m) (hints : IntsAre items.toList ns) (hsz : ns.length ≤ 1000)
    (hiter2 : ∀ s₂ m₂ E', s₂.heap.Ns cenv.locals m₂ → (∀ b o, b ≠ cenv.locals → b ≠ I → b ≠ D → s.heap.get? b = some o → s₂.heap.get? b = some o) →
      wpAny (model prog w) A (eval iter2 cenv) (fun xv s₃ => (∃ r t u v, xv = .ref r ∧ IsRange s₃.heap r 0 8 1 t u v) ∧ Keeps s₂ s₃) E' s₂)
    (helt : ∀ o to (i : Nat) t s₂ m₂ E', o ∈ ns → i < 8 → s₂.heap.Ns cenv.locals m₂ → m₂ x1 = some (.int o to) → m₂ x2 = some (.int (i : Int) t) →
      wpAny (model prog w) A (eval elt cenv) (fun y s₃ => (∃ t', y = .int (f o i) t') ∧ Keeps s₂ s₃) E' s₂)
    (hR : ∀ h' tk m' ys', h'.Ns cenv.locals m' → h'.PlainList D ys' → IntsAre ys'.toList (ns.flatMap fun o => (List.range 8).map (f o)) →
      (∀ b o, b ≠ cenv.locals → b ≠ I → b ≠ D → s.heap.get? b = some o → h'.get? b = some o) → R (.ok .next) { s with heap := h', toks := tk }) :
    codeAny (model prog w) A (.compLoop (two elt iter1 iter2 x1 x2 px1 px2 scope pos) 0 (.ref I) (.ref D) cenv) R s := by
  have W := Walks.list (prog := prog) (w := w) (A := A) hh I ax haI items
  have hlen : items.size = ns.length := by have := hints.length; simpa using this
  refine codeAny_loop rfl (fun k s' => ∃ h' tk i m', ∃ ys : Array Value, s' = { s with heap := h', toks := tk } ∧ i ≤ items.size ∧ k = items.size + 1 - i ∧ (h'.IsListIter I ax i ∧ h'.IsList ax items) ∧ h'.PlainList D ys ∧ h'.Ns cenv.locals m' ∧
      IntsAre ys.toList ((ns.take i).flatMap fun o => (List.range 8).map (f o)) ∧ ∀ b o, b ≠ cenv.locals → b ≠ I → b ≠ D → s.heap.get? b = some o → h'.get? b = some o) ?_ (items.size + 1)
    ⟨s.heap, s.toks, 0, m, #[], rfl, Nat.zero_le _, rfl, ⟨hit, hl⟩, hacc, hn, by simpa using IntsAre.nil, fun _ _ _ _ _ e => e⟩
  rintro k s' ⟨H, tk, i, m', ys, rfl, hi, rfl, hst', hacc', hn', hI, hk⟩
  show wpAny _ A ((compTurn (two elt iter1 iter2 x1 x2 px1 px2 scope pos) 0 (.ref I) (.ref D) cenv).onRaise (fun x => do noteFrame x cenv; theTreesLotGoes x)) _ _ _
  refine wpAny_noted ?_
  rw [turn0_eq]
  refine wpAny_bind (wpAny_standAt (wpAny_bind ?_))
  by_cases hlt : i < items.size
  · refine W.item i _ _ _ hlt hst' fun v h₁ tk₁ hPv hst₁ hk₁ => ?_
    have hin : i < ns.length := by omega
    obtain ⟨to, hx⟩ := hints.get i ns[i] (by simp [hin])
    have hv : v = .int ns[i] to := by
      have hP' : items.toList[i]? = some v := by simpa using hPv
      rw [hx] at hP'; exact (Option.some.inj hP').symm
    subst hv
    dsimp only
    refine wpAny_bind (wpAny_of_eq (a := ()) rfl ?_)
    refine wpAny_bind (wpAny_assign_Name (wpAny_storeName_local hx1 (hn'.at' fun o e => hk₁ _ o (by simpa using hCI) e) (fun h₂ hn₂ hs₂ => ?_) hp))
    refine wpAny_bind (wpAny_tests_nil ?_)
    simp only [if_true]
    have up₂ : ∀ b o, b ≠ cenv.locals → b ≠ I → H.get? b = some o → h₂.get? b = some o := fun b o hbC hbI e => hs₂.extBut b o hbC (hk₁ b o (by simpa using hbI) e)
    have hst₂ : h₂.IsListIter I ax (i + 1) ∧ h₂.IsList ax items := W.frame _ _ _ hst₁ fun b hb o e => hs₂.extBut b o (by
      rcases List.mem_cons.mp hb with rfl | hb
      · exact Ne.symm hCI
      · rw [List.mem_singleton.mp hb]; exact haC) e
    have hacc₂ : h₂.PlainList D ys := hacc'.at fun o e => up₂ D o hDC hDI e
    refine wpAny_bind (wpAny_mono (hiter2 _ _ _ hn₂ fun b o hbC hbI hbD e => up₂ b o hbC hbI (hk b o hbC hbI hbD e)) (fun xv s₃ h₃ => ?_) fun _ _ e => e)
    obtain ⟨⟨r, ta, ua, va, rfl, hr⟩, h₃, tk₃, rfl, hk₃⟩ := h₃
    refine wpAny_bind (wpAny_standAt ?_)
    refine wpAny_bind (wpAny_of_eq (hs2 _) ?_)
    refine wpAny_bind (wpAny_holding (wpAny_pyIter_range hr (by decide) ?_))
    have hn₃ := hn₂.keeps hk₃
    have hacc₃ : h₃.PlainList D ys := hacc₂.at fun o e => hk₃ _ o e
    have lt3 : ∀ b o, h₃.get? b = some o → b ≠ h₃.objs.size := fun b o e => Nat.ne_of_lt (Heap.lt_size e)
    obtain ⟨nD, eD⟩ := id hacc₃
    obtain ⟨oC, _, _, eC, _⟩ := id hn₃
    have W2 := Walks.range (prog := prog) (w := w) (A := A) hh h₃.objs.size 0 1 8
    have hyl : ys.size = i * 8 := by
      have := hI.length
      rw [flat8_len, List.length_take, Nat.min_eq_left (by omega), Array.length_toList] at this
      exact this
    refine wpAny_bind (wpAny_runOwn ?_)
    show codeAny _ A _ _ _
    have body : codeAny (model prog w) A (.compLoop (two elt iter1 iter2 x1 x2 px1 px2 scope pos) 1 (.ref h₃.objs.size) (.ref D) cenv)
        (fun r s' => match r with
          | .ok _ => wpAny (model prog w) A (again (.compLoop (two elt iter1 iter2 x1 x2 px1 px2 scope pos) 0 (.ref I) (.ref D) cenv)) (fun fin s' => match fin with
            | .done fl => R (.ok fl) s'
            | .again c' => c' = .compLoop (two elt iter1 iter2 x1 x2 px1 px2 scope pos) 0 (.ref I) (.ref D) cenv ∧ ∃ m, m < items.size + 1 - i ∧ ∃ h' tk i m', ∃ ys : Array Value, s' = { s with heap := h', toks := tk } ∧ i ≤ items.size ∧ m = items.size + 1 - i ∧ (h'.IsListIter I ax i ∧ h'.IsList ax items) ∧ h'.PlainList D ys ∧ h'.Ns cenv.locals m' ∧
      IntsAre ys.toList ((ns.take i).flatMap fun o => (List.range 8).map (f o)) ∧ ∀ b o, b ≠ cenv.locals → b ≠ I → b ≠ D → s.heap.get? b = some o → h'.get? b = some o) (notedBy (model prog w) A cenv fun e s' => R (.error e) s') s'
          | .error e => cameBackBy (model prog w) A cenv (notedBy (model prog w) A cenv fun e s' => R (.error e) s') e s')
        { s with heap := h₃.push { cls := .type "range_iterator", data := .fields #[rawInt 0, rawInt (Builtin.Range.rangeSize 0 8 1), rawInt 1] }, toks := tk₃ } := by
      refine inner_loop (n := 8) (St := fun i h => IsRangeIter h h₃.objs.size (0 + (i : Nat) * 1) ((8 : Nat) - (i : Nat)) 1) (ov := .int ns[i] to) (g := f ns[i]) (ys0 := ys) W2 hx2 hp hx12 hDC (lt3 _ _ eD) (lt3 _ _ eC)
        (by show IsRangeIter _ _ _ _ _; exact Heap.get?_push_size _ rfl) (hacc₃.at fun o e => Heap.get?_push_of_some _ e) hI (hn₃.keeps fun b o e => Heap.get?_push_of_some _ e) (by simp)
        (by rw [flat8_len, List.length_take, Nat.min_eq_left (by omega), sizeLine_eq]; omega)
        (fun j t s₂ m₂ E' hj hn2 ha hb => helt ns[i] to j t s₂ m₂ E' (List.getElem_mem hin) hj hn2 ha hb) ?_
      intro h₅ tk₅ m₅ ys₅ hn₅ hD₅ hI₅ hk₅
      have up₅ : ∀ b o, b ≠ cenv.locals → b ≠ D → h₂.get? b = some o → h₅.get? b = some o := fun b o hbC hbD e => hk₅ b o hbC (lt3 _ _ (hk₃ b o e)) hbD (Heap.get?_push_of_some _ (hk₃ b o e))
      refine wpAny_pure ⟨rfl, items.size + 1 - (i + 1), by omega, h₅, tk₅, i + 1, m₅, ys₅, rfl, hlt, rfl, ?_, hD₅, hn₅, ?_, ?_⟩
      · refine W.frame _ _ _ hst₂ fun b hb o e => ?_
        rcases List.mem_cons.mp hb with rfl | hb
        · exact up₅ _ o (Ne.symm hCI) (Ne.symm hDI) e
        · rw [List.mem_singleton.mp hb] at e ⊢; exact up₅ _ o haC haD e
      · rw [List.take_add_one, List.flatMap_append]
        simpa [hin] using hI₅
      · exact fun b o hbC hbI hbD e => up₅ b o hbC hbD (up₂ b o hbC hbI (hk b o hbC hbI hbD e))
    exact start1 body (W2.self 0 _ _ _ (by show IsRangeIter _ _ _ _ _; exact Heap.get?_push_size _ rfl) body)
  · obtain rfl : i = items.size := Nat.le_antisymm hi (Nat.not_lt.mp hlt)
    refine W.done _ _ _ hst' fun h₁ tk₁ hk₁ => ?_
    rw [hlen, List.take_length] at hI
    exact wpAny_pure (hR h₁ tk₁ m' ys (hn'.at' fun o e => hk₁ _ o (by simpa using hCI) e) (hacc'.at fun o e => hk₁ _ o (by simpa using hDI) e) hI fun b o hbC hbI hbD e => hk₁ b o (by simpa using hbI) (hk b o hbC hbI hbD e))
end
end Mine
end

/-! part Comp3 -/
section
open PySem PySem.W PyProof.Rows PySem.Calls
namespace Mine
section
variable {prog : Program} {w : World} {A : Around} {E : Value → Shared → Prop} {s : Shared}
theorem elt_bits {cenv : Env} {x1 x2 : Str} {p1 p2 p3 p4 p5 p6 p7 : Pos} {m : Str → Option Value} {o : Int} {i : Nat} {to t : Tok} (hk : cenv.scope.kind = .function)
    (hx1 : cenv.kindOf x1 = some .local) (hx2 : cenv.kindOf x2 = some .local) (hd1 : (x1 == ("__debug__" : Str)) = false) (hd2 : (x2 == ("__debug__" : Str)) = false)
    (hn : s.heap.Ns cenv.locals m) (ha : m x1 = some (.int o to)) (hb : m x2 = some (.int (i : Int) t)) (ho : 0 ≤ o ∧ o < 256) (hi : i < 8) :
    wpAny (model prog w) A (eval (.BinOp (.BinOp (.Name x1 p1) .FloorDiv (.BinOp (.Constant (.int 2) 0 p2) .Pow (.Name x2 p3) p4) p5) .Mod (.Constant (.int 2) 0 p6) p7) cenv)
      (fun y s₃ => (∃ t', y = .int ((o.fdiv (2 ^ i)).fmod 2) t') ∧ Keeps s s₃) E s := by
  have h128 : 0 < (2 : Int) ^ i ∧ (2 : Int) ^ i ≤ 128 := (show ∀ i : Nat, i < 8 → 0 < (2 : Int) ^ i ∧ (2 : Int) ^ i ≤ 128 by decide) i hi
  generalize hz : (2 : Int) ^ i = z at h128 ⊢
  refine wpAny_BinOp (wpAny_BinOp ?_)
  refine wpAny_Name (wpAny_loadName_local hk hx1 hn ha ?_) hd1
  refine wpAny_BinOp ?_
  walk1
  refine wpAny_Name (wpAny_loadName_local hk hx2 hn hb ?_) hd2
  refine pow_int_small (by omega) (by omega) (by decide) ?_
  rw [Int.toNat_natCast, hz]
  refine floordiv_int (by omega) ?_ (hp := Or.inl (PyProof.noPylong_small (by omega)))
  walk1
  refine mod_int (by decide) ?_
  exact ⟨⟨_, rfl⟩, s.heap, _, rfl, fun _ _ e => e⟩
theorem iter_range8 {cenv : Env} {p1 p2 p3 : Pos} {mg mb : Str → Option Value} {h₀ : Heap} (hk : cenv.scope.kind = .function) (hg : cenv.globals = mainGlobals) (hbn : cenv.builtins = builtinsNs)
    (hx : cenv.kindOf (Str.ofString "range") = some .globalImplicit) (hgl : h₀.Ns mainGlobals mg) (hmiss : mg (Str.ofString "range") = none) (hbl : h₀.Ns builtinsNs mb) (hv : mb (Str.ofString "range") = some (.type "range"))
    (hkeep : ∀ b o, h₀.get? b = some o → s.heap.get? b = some o) :
    wpAny (model prog w) A (eval (.Call (.Name (Str.ofString "range") p1) [.Constant (.int 8) 0 p2] [] p3) cenv)
      (fun xv s₃ => (∃ r t u v, xv = .ref r ∧ IsRange s₃.heap r 0 8 1 t u v) ∧ Keeps s s₃) E s := by
  refine Call_ ?_
  refine Name_function_global hk hx (loadGlobal_builtin (env := cenv) (by rw [hg]; exact hgl.keeps hkeep) hmiss (by rw [hbn]; exact hbl.keeps hkeep) hv ?_) (by decide)
  walk1
  walk1
  walk1
  walk1
  refine call_range_1 ?_
  exact ⟨⟨_, _, _, _, rfl, Heap.get?_push_size _ rfl⟩, _, _, rfl, fun b o e => Heap.get?_push_of_some _ e⟩

theorem assign2 {env : Env} {elt iter1 iter2 : Expr} {x1 x2 y : Str} {px1 px2 py spos : Pos} {scope : Scope} {pos : Pos} {h₀ : Heap} {news : List (Addr × Obj)} {m₀ : Str → Option Value} {l : Addr} {v : List Value} {c : Nat} {ns : List Int} {f : Int → Nat → Int} {Q : Flow → Shared → Prop}
    (hh : A.handled = none) (hsw : swapsWith (two elt iter1 iter2 x1 x2 px1 px2 scope pos) (some (.Name y py)) spos.line env = pure true)
    (hs1 : ∀ x, foldedSetIterable iter1 env x = pure x) (hs2 : ∀ C x, foldedSetIterable iter2 (compEnv scope C env) x = pure x)
    (hfree : ∀ z ∈ scope.names, z.2 ≠ .free) (hcell : ∀ z ∈ scope.names, z.2 ≠ .cell) (hkind : scope.kind = .function) (hnames : ∀ z ∈ scope.names, z.2 = .local → scope.names.lookup z.1 = some .local)
    (hx1 : scope.names.lookup x1 = some .local) (hx2 : scope.names.lookup x2 = some .local) (hx12 : x1 ≠ x2)
    (hy : env.kindOf y = some .local) (hp : (env.scope.kind == .class || (env.scope.kind == .module && env.locals != env.globals)) = false)
    (F : Fr h₀ env.locals s.heap m₀) (N : News h₀ env.locals s.heap news) (hm : (l, W.listOf v.toArray c) ∈ news) (hi : IntsAre v ns) (hsz : ns.length ≤ 1000)
    (hiter1 : ∀ Q' : Value → Shared → Prop, Q' (.ref l) s → wpAny (model prog w) A (eval iter1 env) Q' E s)
    (hiter2 : ∀ C (s₂ : Shared) E', (∀ b o, h₀.get? b = some o → s₂.heap.get? b = some o) →
      wpAny (model prog w) A (eval iter2 (compEnv scope C env)) (fun xv s₃ => (∃ r t u v, xv = .ref r ∧ IsRange s₃.heap r 0 8 1 t u v) ∧ Keeps s₂ s₃) E' s₂)
    (helt : ∀ C o to (i : Nat) t (s₂ : Shared) m₂ E', o ∈ ns → i < 8 → s₂.heap.Ns C m₂ → m₂ x1 = some (.int o to) → m₂ x2 = some (.int (i : Int) t) →
      wpAny (model prog w) A (eval elt (compEnv scope C env)) (fun y s₃ => (∃ t', y = .int (f o i) t') ∧ Keeps s₂ s₃) E' s₂)
    (hQ : ∀ D ys c' h' tk, Fr h₀ env.locals h' (fun z => if z = y then some (.ref D) else m₀ z) → News h₀ env.locals h' ((D, W.listOf (List.toArray ys) c') :: news) → (∀ p ∈ news, p.1 ≠ D) →
      IntsAre ys (ns.flatMap fun o => (List.range 8).map (f o)) → Q .next { s with heap := h', toks := tk }) :
    wpAny (model prog w) A (exec (.Assign [.Name y py] (two elt iter1 iter2 x1 x2 px1 px2 scope pos) spos) env) Q E s := by
  rw [exec_Assign_Name_used _ _ _ _ hsw]
  refine wpAny_bind (wpAny_standAt (wpAny_bind ?_))
  show wpAny _ A (do let _ ← comprehension (two elt iter1 iter2 x1 x2 px1 px2 scope pos) scope env _ (newList []) false (eval iter1 env) (some (assign (.Name y py) env))) _ _ s
  refine wpAny_bind (wpAny_mono (wpAny_comprehension_use (Q := fun _ s' => Q .next s') rfl hs1 hfree hkind hnames (hiter1 _ ?_))
    (fun _ s' hq => wpAny_pure (wpAny_pure hq)) fun _ _ e => e)
  have hls : s.heap.IsList l v.toArray := News.isList N hm
  refine wpAny_pyIter_list hls ?_
  refine wpAny_newObj_type (hd := by size_fits) (wpAny_newFunctionEnv hcell (by intro y hy; simp at hy) (fun h₁ hns₁ hsb₁ => ?_) hkind)
  dsimp only at hns₁ hsb₁ ⊢
  obtain ⟨ol, hol, hol'⟩ := id hls
  have hax : l < s.heap.objs.size := Heap.lt_size hol
  generalize hH1 : s.heap.push { cls := .type "list_iterator", data := .fields #[.ref l, .int 0 0] } = H1 at hns₁ hsb₁ ⊢
  have hD : H1.objs.size = s.heap.objs.size + 1 := by rw [← hH1, Heap.size_push]
  generalize hH2 : H1.push { cls := .type "list", dict := none, data := .seq ([] : List Value).toArray } = H2 at hns₁ hsb₁ ⊢
  have hC : H2.objs.size = s.heap.objs.size + 2 := by rw [← hH2, Heap.size_push, hD]
  have hDI : H1.objs.size ≠ s.heap.objs.size := by rw [hD]; exact Nat.succ_ne_self _
  have hDC : H1.objs.size ≠ H2.objs.size := by rw [hD, hC]; exact Nat.ne_of_lt (Nat.lt_succ_self _)
  have hCI : H2.objs.size ≠ s.heap.objs.size := by rw [hC]; exact Nat.ne_of_gt (Nat.lt_succ_of_lt (Nat.lt_succ_self _))
  have below : ∀ b, b < s.heap.objs.size → b ≠ H2.objs.size ∧ b ≠ s.heap.objs.size ∧ b ≠ H1.objs.size := fun b hb =>
    ⟨by rw [hC]; exact Nat.ne_of_lt (Nat.lt_succ_of_lt (Nat.lt_succ_of_lt hb)), Nat.ne_of_lt hb, by rw [hD]; exact Nat.ne_of_lt (Nat.lt_succ_of_lt hb)⟩
  have old : ∀ b o, s.heap.get? b = some o → h₁.get? b = some o := fun b o e =>
    hsb₁.extBut b o (below b (Heap.lt_size e)).1 (Heap.get?_push_of_some _ (hH2 ▸ Heap.get?_push_of_some _ (hH1 ▸ Heap.get?_push_of_some _ e)))
  have hit : h₁.IsListIter s.heap.objs.size l 0 :=
    ⟨_, hsb₁.extBut _ _ (Ne.symm hCI) (Heap.get?_push_of_some _ (hH2 ▸ Heap.get?_push_of_some _ (hH1 ▸ Heap.get?_push_size _ rfl))), rfl, rfl⟩
  have hacc : h₁.PlainList H1.objs.size #[] := ⟨_, hsb₁.extBut _ _ hDC (Heap.get?_push_of_some _ (hH2 ▸ Heap.get?_push_size _ rfl))⟩
  have hl₁ : h₁.IsList l v.toArray := ⟨ol, old _ _ hol, hol'⟩
  have fresh : ∀ a, s.heap.objs.size ≤ a → s.heap.get? a = none := fun a ha => by
    cases e : s.heap.get? a with
    | none => rfl
    | some o' => exact absurd (Heap.lt_size e) (Nat.not_lt.mpr ha)
  have fresh₀ : ∀ a, s.heap.objs.size ≤ a → h₀.get? a = none := fun a ha => by
    cases e : h₀.get? a with
    | none => rfl
    | some o' => have := F.keep a o' e; rw [fresh a ha] at this; cases this
  have hLlt : env.locals < s.heap.objs.size := F.ns.lt
  have loop : ∀ s₂ : Shared, s₂ = { s with heap := h₁, toks := s.toks + ([] : List (Str × Value)).length } →
      codeAny (model prog w) A (.compLoop (two elt iter1 iter2 x1 x2 px1 px2 scope pos) 0 (.ref s.heap.objs.size) (.ref H1.objs.size) (compEnv scope H2.objs.size env))
        (fun r s' => match r with
          | .ok _ => wpAny (model prog w) A (assign (.Name y py) env (.ref H1.objs.size)) (fun _ s'' => ∃ m, s''.heap.Ns H2.objs.size m ∧ ∀ h', Heap.SameBut H2.objs.size s''.heap h' → Q .next { s'' with heap := h' }) E s'
          | .error x => ∃ m, s'.heap.Ns H2.objs.size m ∧ ∀ h', Heap.SameBut H2.objs.size s'.heap h' → wpAny (model prog w) A (passOn "comprehension.variables-let-go" x (compEnv scope H2.objs.size env)) (fun (_ : Value) s' => Q .next s') E { s' with heap := h' }) s₂ := by
    rintro s₂ rfl
    refine outer_loop (cenv := compEnv scope H2.objs.size env) (items := v.toArray) hh hx1 hx2 (by simp [compEnv, hkind]) hx12 (hs2 _) hDC hDI hCI (below l hax).2.1 (below l hax).1 (below l hax).2.2 hit hl₁ hacc hns₁ (by simpa using hi) hsz
      (fun s₂ m₂ E' hn hk => hiter2 _ s₂ E' fun b o e => hk b o (below b (Heap.lt_size (F.keep b o e))).1 (below b (Heap.lt_size (F.keep b o e))).2.1 (below b (Heap.lt_size (F.keep b o e))).2.2 (old b o (F.keep b o e)))
      (fun o to i t s₂ m₂ E' ho hi hn ha hb => helt _ o to i t s₂ m₂ E' ho hi hn ha hb) fun h' tk m' ys hn hl hI hk => ?_
    have hk' : ∀ b o, s.heap.get? b = some o → h'.get? b = some o := fun b o e => hk b o (below b (Heap.lt_size e)).1 (below b (Heap.lt_size e)).2.1 (below b (Heap.lt_size e)).2.2 (old b o e)
    have F' : Fr h₀ env.locals h' m₀ := F.keeps hk'
    have hLC := (below _ hLlt).1
    have hLD := (below _ hLlt).2.2
    refine wpAny_assign_Name (wpAny_storeName_local hy F'.ns (fun h₂ hn₂ hs₂ => ?_) hp)
    refine ⟨m', hn.sameBut hs₂ (Ne.symm hLC), fun h₃ hs₃ => ?_⟩
    obtain ⟨cD, eD⟩ := hl
    have keep₃ : ∀ b o, b ≠ env.locals → b ≠ H2.objs.size → h'.get? b = some o → h₃.get? b = some o := fun b o hb hb2 e => hs₃.extBut b o hb2 (hs₂.extBut b o hb e)
    refine hQ H1.objs.size ys.toList cD h₃ _ ?_ ?_ (fun p hp => (below _ (Heap.lt_size (N p hp).1)).2.2) hI
    · have F2 : Fr h₀ env.locals h₂ (fun z => if z = y then some (.ref H1.objs.size) else m₀ z) := ⟨hn₂, fun b o e => by
        by_cases hb : b = env.locals
        · have := F.above
          exact absurd (Heap.lt_size (hb ▸ e)) (Nat.not_lt.mpr F.above)
        · exact hs₂.extBut b o hb (F'.keep b o e), F.above⟩
      exact F2.change hs₃ (Ne.symm hLC) (fresh₀ _ (by rw [hC]; exact Nat.le_add_right _ _))
    · intro p hp
      rcases List.mem_cons.mp hp with rfl | hp
      · refine ⟨?_, Ne.symm hLD, fresh₀ _ (by rw [hD]; exact Nat.le_succ _)⟩
        have := keep₃ _ _ (Ne.symm hLD) hDC eD
        simpa using this
      · have z := N p hp
        exact ⟨keep₃ _ _ z.2.1 (below _ (Heap.lt_size z.1)).1 (hk' _ _ z.1), z.2⟩
  exact codeAny_compStart_list (loop _ rfl) (wpAny_pyIter_listiter hit (loop _ rfl))
end

section
variable {prog : Program} {w : World} {A : Around} {E : Value → Shared → Prop} {s : Shared} {env : Env} {h₀ : Heap} {body : List Stmt} {Q : Flow → Shared → Prop}
def AwayM (m₀ m : Str → Option Value) : Prop := ∀ y, y ≠ Str.ofString "i" → y ≠ Str.ofString "at" → m y = m₀ y
def AwayJ (g : Nat → Int) (m₀ : Str → Option Value) (D : Addr) (rest : List (Addr × Obj)) (i : Nat) (m : Str → Option Value) (nx : List (Addr × Obj)) : Prop :=
  AwayM m₀ m ∧ ∃ v c, nx = (D, W.listOf (List.toArray v) c) :: rest ∧ IntsAre v ((List.range i).map g)
theorem AwayM.map {m₀ m : Str → Option Value} (h : AwayM m₀ m) : m = fun y => if y = Str.ofString "i" then m y else if y = Str.ofString "at" then m y else m₀ y := by
  funext y
  by_cases h1 : y = Str.ofString "i"
  · rw [if_pos h1]
  by_cases h2 : y = Str.ofString "at"
  · rw [if_neg h1, if_pos h2]
  · rw [if_neg h1, if_neg h2]; exact h y h1 h2
theorem away_loop (g : Nat → Int) {r : Addr} {t₀ u₀ v₀ : Tok} {m₀ : Str → Option Value} {rest : List (Addr × Obj)} {D : Addr} {c0 : Nat}
    (hh : A.handled = none) (hr : IsRange s.heap r 0 8 1 t₀ u₀ v₀) (F : Fr h₀ env.locals s.heap m₀) (N : News h₀ env.locals s.heap ((D, W.listOf #[] c0) :: rest)) (hnD : ∀ p ∈ rest, p.1 ≠ D)
    (turn : ∀ (i : Nat) t v c (u : Str → Option Value) h tk own, i < 8 → (∀ p ∈ rest ++ own, p.1 ≠ D) → v.length = i → IntsAre v ((List.range i).map g) →
      Fr h₀ env.locals h (fun y => if y = Str.ofString "i" then some (.int (i : Int) t) else if y = Str.ofString "at" then u y else m₀ y) →
      News h₀ env.locals h ((D, W.listOf (List.toArray v) c) :: (rest ++ own)) →
      wpAny (model prog w) A (execs body env) (InvPostN h₀ env.locals (AwayJ g m₀ D rest (i + 1)) own (D :: rest.map (·.1)) { s with heap := h, toks := tk } Q) E { s with heap := h, toks := tk })
    (done : ∀ (u : Str → Option Value) v c h tk, IntsAre v ((List.range 8).map g) →
      Fr h₀ env.locals h (fun y => if y = Str.ofString "i" then u y else if y = Str.ofString "at" then u y else m₀ y) →
      News h₀ env.locals h ((D, W.listOf (List.toArray v) c) :: rest) → Q .next { s with heap := h, toks := tk }) :
    wpAny (model prog w) A (pyIter (.ref r)) (fun it s₂ => LoopAtV prog w A h₀ env (Str.ofString "i") body Q E it s₂) E s := by
  refine kpr_invN (n := 8) (AwayJ g m₀ D rest) hh hr (by decide) (by decide) F N ⟨fun _ _ _ => rfl, [], c0, rfl, .nil⟩ ?_ ?_
  · rintro i k t m₁ nx h tk own hk hoff ⟨hM, v, c, rfl, hv⟩ F₁ N₁
    obtain ⟨hlt, rfl⟩ : i < 8 ∧ k = (i : Int) := by
      unfold rangeKs at hk
      rw [List.getElem?_map] at hk
      by_cases h : i < 8
      · rw [List.getElem?_range h] at hk
        simp at hk
        exact ⟨h, hk.symm⟩
      · rw [List.getElem?_eq_none (by simpa using h)] at hk
        cases hk
    refine turn i t v c m₁ h tk own hlt ?_ (by rw [hv.length]; simp) hv ?_ ?_
    · intro p hp
      rcases List.mem_append.mp hp with hp | hp
      · exact hnD p hp
      · exact hoff p hp D (by simp)
    · have e2 : (fun y => if y = Str.ofString "i" then some (Value.int (i : Int) t) else m₁ y) = (fun y => if y = Str.ofString "i" then some (Value.int (i : Int) t) else if y = Str.ofString "at" then m₁ y else m₀ y) := by
        funext y
        by_cases h1 : y = Str.ofString "i"
        · rw [if_pos h1, if_pos h1]
        · rw [if_neg h1, if_neg h1]
          have := congrFun hM.map y
          rw [if_neg h1] at this
          exact this
      rw [e2] at F₁
      exact F₁
    · exact N₁
  · rintro m₁ nx h tk ⟨hM, v, c, rfl, hv⟩ F₁ N₁
    rw [rangeKs_length] at hv
    rw [hM.map] at F₁
    exact done m₁ v c h tk hv F₁ N₁

theorem away_end {g : Nat → Int} {L : Addr} {m₀ m' : Str → Option Value} {D : Addr} {rest own : List (Addr × Obj)} {a b : Addr × Obj} {v : List Value} {i c' : Nat} {z : Int} {t : Tok} {s₁ : Shared} {h' : Heap} {tk : Nat}
    (F9 : Fr h₀ L h' m') (N9 : News h₀ L h' (a :: b :: (D, W.listOf (v ++ [Value.int z t]).toArray c') :: (rest ++ own))) (hz : z = g i) (hv : IntsAre v ((List.range i).map g)) (hm : AwayM m₀ m') :
    InvEndN h₀ L (AwayJ g m₀ D rest (i + 1)) own (D :: rest.map (·.1)) s₁ { s₁ with heap := h', toks := tk } := by
  subst hz
  refine InvEndN.intro F9 N9 ⟨hm, v ++ [Value.int (g i) t], c', rfl, ?_⟩ rfl ?_ ?_
  · rw [List.range_succ, List.map_append]
    exact IntsAre.append hv (.cons _ _ .nil)
  · intro p hp
    rcases List.mem_cons.mp hp with rfl | hp
    · exact .tail _ (.tail _ (.head _))
    · exact .tail _ (.tail _ (.tail _ (List.mem_append.mpr (.inl hp))))
  · exact fun p hp => .tail _ (.tail _ (.tail _ (List.mem_append.mpr (.inr hp))))
end
end Mine
end

/-! part C5 -/
section
open PySem PySem.W PyProof.Rows
namespace Mine
def awayV (bs : List Int) (eta i : Int) : Int := ((bs.drop (2 * eta * i).toNat).take (min (2 * eta * i + eta).toNat bs.length - (2 * eta * i).toNat)).sum -
  ((bs.drop (2 * eta * i + eta).toNat).take (min (2 * eta * i + 2 * eta).toNat bs.length - (2 * eta * i + eta).toNat)).sum
def bitsL (ns : List Int) : List Int := ns.flatMap fun o => (List.range 8).map fun i => (o.fdiv (2 ^ i)).fmod 2
def awayL (ns : List Int) (eta : Int) : List Int := (List.range 8).map fun (i : Nat) => awayV (bitsL ns) eta (i : Int)
local macro_rules | `(tactic| k_all) => `(tactic| assumption)
local macro_rules | `(tactic| k_mem) => `(tactic| ((show (_ : Addr × Obj) ∈ (_ : List (Addr × Obj))); ktr_member))
local macro_rules | `(tactic| k_room) => `(tactic| ktr_room)
set_option maxRecDepth 100000 in
set_option maxHeartbeats 3000000 in
theorem away_c {w : World} {loose : List Str} {mean : ExcName → Option Value} {mg mb : Str → Option Value}
    (dp un : Nat) (gd : Option (List Code)) (cn : Str) (cs : Scope) (a : Addr) (ccd : Value) (cl : List (Str × Addr)) (outer : List Env) (A₀ : Around) (base h₀ : Heap) (L : Addr) (m : Str → Option Value) (s : Shared) (Q E : Value → Shared → Prop) (news : List (Addr × Obj))
    (l : Addr) (v : List Value) (c : Nat) (ns : List Int) (eta : Int) (te : Tok)
    (B : Below A₀ base outer h₀) (F : Fr h₀ L s.heap m) (X : (hd.heap_39 w.params).In h₀) (N : News h₀ L s.heap news) (T : Top hd.view_39 loose mean mg mb h₀) (hk : cs.kind = .function)
    (hm1 : (l, W.listOf v.toArray c) ∈ news) (hi1 : IntsAre v ns) (hz1 : (ns.length : Int) = 2 * eta) (he0 : 0 ≤ eta) (he1 : eta < 6) (hns : ∀ n ∈ ns, 0 ≤ n ∧ n < 256)
    (hd' : dp + 9 < recursionLimit)
    (hret : ∀ (D : Addr) (us : List Value) (c' : Nat) (h' : Heap) (tk' : Nat), Fr h₀ L h' m → News h₀ L h' ((D, W.listOf us.toArray c') :: news) → (∀ p ∈ news, p.1 < D) → IntsAre us (awayL ns eta) → Q (.ref D) { s with heap := h', toks := tk' }) :
    wpAny (model Challenge.rw_yi0077_01.row.prog w) (ktrTop dp un gd cn cs L a ccd cl outer) (call (.ref 445) [.ref l, .int eta te]) Q E s := by
  k_with_none
  w_top off
  revert X; k_fill; intro X
  refine wpAny_call ?_
  k_dflt cell_enter
  (k_with "pyIter ref" => refine stop_here ?_)
  k_steps
  rename_i F1 N1 B1 X1 T1
  refine assign2 (f := fun o i => (o.fdiv (2 ^ i)).fmod 2) rfl ?hsw (fun _ => rfl) (fun _ _ => rfl) ?h1 ?h2 rfl ?h3 rfl rfl (by decide) rfl rfl F1 N1 hm1 hi1 (by omega) ?hi1 ?hi2 ?helt ?hQ
  case hsw => with_unfolding_all rfl
  case h1 => decide
  case h2 => decide
  case h3 => decide
  case hi1 => exact fun Q' hQ' => ld F1 rfl hQ'
  case hi2 => exact fun C s₂ E' hk => iter_range8 rfl rfl rfl rfl T1.g (mg_none_of X1 T1.g (by k_is)) T1.b ((T1.builtins _ (by decide)).trans (by boot_by_name)) hk
  case helt => exact fun C o to i t s₂ m₂ E' ho hi hn ha hb => elt_bits rfl rfl rfl (by decide) (by decide) hn ha hb (hns o ho) hi
  case hQ =>
  intro D ys c' h5 tk5 F5 N5 hD5 hI5
  replace F5 : Fr _ _ h5 _ := F5
  obtain ⟨bs, hbs⟩ : ∃ bs, bs = List.flatMap (fun o => List.map (fun i => (o.fdiv (2 ^ i)).fmod 2) (List.range 8)) ns := ⟨_, rfl⟩
  rw [← hbs] at hI5
  have hbl : (bs.length : Int) = 8 * ns.length := by rw [hbs, flat8_len]; omega
  k_steps
  rename_i lR lF lN _
  have l1 := ‹D < _ ∧ AllLt _ news›
  refine Stop.go (away_loop (fun i => awayV bs eta (i : Int)) rfl lR lF lN ?_ ?_ ?_)
  · intro p hp
    rcases List.mem_cons.mp hp with rfl | hp
    · exact Nat.ne_of_lt l1.1
    · exact allLt_ne l1.2 (Nat.le_refl _) p hp
  · intro i t v c u h tk own hi hD hv hIv F1 N1
    replace F1 : Fr _ _ h _ := F1
    have hi0 : (0 : Int) ≤ (i : Int) := Int.natCast_nonneg i
    have hi1 : (i : Int) < 8 := by omega
    have hz0 : 0 ≤ 2 * eta * (i : Int) := Int.mul_nonneg (by omega) (by omega)
    have hz1 : 2 * eta * (i : Int) ≤ 2 * eta * 7 := Int.mul_le_mul_of_nonneg_left (by omega) (by omega)
    k_steps
    rename_i F9 N9
    rw [List.push_toArray] at N9
    exact away_end F9 N9 rfl hIv (fun y h1 h2 => by simp only [if_neg h1, if_neg h2])
  · intro u v c h tk hIv F1 N1
    k_steps
    rename_i kF kN _ _
    rw [hbs] at hIv
    refine hret _ v c _ _ kF (cb_drop kN fun p hp => ?_) (fun p hp => allLt_lt l1.2 p hp) hIv
    rcases List.mem_cons.mp hp with rfl | hp
    · exact .head _
    · exact .tail _ (.tail _ hp)
end Mine
end

/-! part Comp4 -/
section
open PySem PySem.W PyProof.Rows PySem.Calls
namespace Mine
def IntTo (f : Int → Int) (v y : Value) : Prop := ∃ n t t', v = .int n t ∧ y = .int (f n) t'
theorem ints_paired {f : Int → Int} : ∀ {v : List Value} {ys : List Value} {ns : List Int}, IntsAre v ns → Paired (IntTo f) v ys → IntsAre ys (ns.map f)
  | _, _, _, .nil, .nil => .nil
  | _, _, _, .cons _ _ h, .cons hF hP => by
    obtain ⟨n, t, t', e, rfl⟩ := hF
    cases e
    exact .cons _ _ (ints_paired h hP)
theorem ints_of : ∀ {vs : List Value} {ns : List Int}, vs.length = ns.length → (∀ (j : Nat) (v : Value), vs[j]? = some v → ∃ k t, ns[j]? = some k ∧ v = Value.int k t) → IntsAre vs ns
  | [], [], _, _ => .nil
  | [], _ :: _, h, _ => by cases h
  | _ :: _, [], h, _ => by cases h
  | v :: vs, k :: ns, h, hP => by
    obtain ⟨k', t, e, rfl⟩ := hP 0 v rfl
    cases (show some k = some k' from e)
    exact .cons _ _ (ints_of (by simpa using h) fun j v hj => hP (j + 1) v hj)
section
variable {prog : Program} {w : World} {A : Around} {E : Value → Shared → Prop} {s : Shared}
theorem comp_list {env : Env} {elt iter : Expr} {x : Str} {px : Pos} {scope : Scope} {pos : Pos} {h₀ : Heap} {L : Addr} {news : List (Addr × Obj)} {m₀ : Str → Option Value} {l : Addr} {v : List Value} {c : Nat} {ns : List Int} {f : Int → Int} {Q : Value → Shared → Prop}
    (hh : A.handled = none) (hs : ∀ x, foldedSetIterable iter env x = pure x)
    (hfree : ∀ z ∈ scope.names, z.2 ≠ .free) (hcell : ∀ z ∈ scope.names, z.2 ≠ .cell) (hkind : scope.kind = .function) (hnames : ∀ z ∈ scope.names, z.2 = .local → scope.names.lookup z.1 = some .local)
    (hx : scope.names.lookup x = some .local)
    (F : Fr h₀ L s.heap m₀) (N : News h₀ L s.heap news) (hm : (l, W.listOf v.toArray c) ∈ news) (hi : IntsAre v ns) (hsz : ns.length ≤ sizeLine)
    (hiter : ∀ Q' : Value → Shared → Prop, Q' (.ref l) s → wpAny (model prog w) A (eval iter env) Q' E s)
    (helt : ∀ C n t (s₂ : Shared) m₂ E', s₂.heap.Ns C m₂ → m₂ x = some (.int n t) →
      wpAny (model prog w) A (eval elt (compEnv scope C env)) (fun y s₃ => (∃ t', y = .int (f n) t') ∧ Keeps s₂ s₃) E' s₂)
    (hQ : ∀ D ys c' h' tk, Fr h₀ L h' m₀ → News h₀ L h' ((D, W.listOf (List.toArray ys) c') :: news) → (∀ p ∈ news, p.1 ≠ D) → IntsAre ys (ns.map f) → Q (.ref D) { s with heap := h', toks := tk }) :
    wpAny (model prog w) A (eval (.ListComp elt [⟨.Name x px, iter, [], 0⟩] scope pos) env) Q E s := by
  refine wpAny_ListComp_walk (fun _ => true) (IntTo f) hfree hcell hkind hnames hx (hiter _ ?_) hs
  have hls : s.heap.IsList l v.toArray := News.isList N hm
  obtain ⟨ol, hol, hol'⟩ := id hls
  have hax : l < s.heap.objs.size := Heap.lt_size hol
  have hlen : v.toArray.size = ns.length := by rw [List.size_toArray]; exact hi.length
  have keep1 : ∀ b o, s.heap.get? b = some o → (s.heap.push { cls := .type "list_iterator", data := .fields #[.ref l, .int 0 0] }).get? b = some o := fun b o e => Heap.get?_push_of_some _ e
  refine wpAny_pyIter_list hls ⟨_, _, _, v.toArray.size, _, _, rfl, Walks.list hh s.heap.objs.size l (Nat.ne_of_lt hax) v.toArray, by omega, ⟨⟨_, Heap.get?_push_size _ rfl, rfl, rfl⟩, hls.at fun o e => keep1 _ o e⟩, ?_, ?_, ?_⟩
  · intro b hb
    rw [Heap.size_push]
    rcases List.mem_cons.mp hb with rfl | hb
    · exact Nat.lt_succ_self _
    · rw [List.mem_singleton.mp hb]; exact Nat.lt_succ_of_lt hax
  · refine ⟨fun C i v' s₃ m₃ E' _ _ _ _ _ => wpAny_tests_nil ⟨rfl, s₃.heap, s₃.toks, rfl, fun _ _ e => e⟩, fun C i v' s₃ m₃ E' hP _ hn hv _ _ => ?_⟩
    have hlt : i < v.toArray.size := (Array.getElem?_eq_some_iff.mp hP).1
    obtain ⟨t, hx⟩ := hi.get i (ns[i]'(by omega)) (by simp [show i < ns.length by omega])
    have e : v' = .int (ns[i]'(by omega)) t := by
      have hP' : v[i]? = some v' := by simpa using hP
      rw [hx] at hP'; exact (Option.some.inj hP').symm
    subst e
    refine wpAny_mono (helt C _ t s₃ m₃ E' hn hv) (fun y s₄ h4 => ?_) fun _ _ e => e
    obtain ⟨⟨t', rfl⟩, hk⟩ := h4
    exact ⟨⟨_, _, _, rfl, rfl⟩, hk⟩
  · intro D h' tk ys vs hD hl hpl hvl hP hF hk
    have hvs : vs = v := by
      apply List.ext_getElem?
      intro j
      by_cases hj : j < vs.length
      · have e1 := hP j vs[j] (by simp [hj])
        have e2 : v[j]? = some vs[j] := by simpa using e1
        rw [e2]; simp [hj]
      · have hj' : v.length ≤ j := by have : vs.length = v.length := by simpa using hvl
                                      omega
        rw [List.getElem?_eq_none (by omega), List.getElem?_eq_none hj']
    rw [List.filter_eq_self.mpr (fun _ _ => rfl), hvs] at hF
    have hI := ints_paired hi hF
    have keep2 : ∀ b o, s.heap.get? b = some o → h'.get? b = some o := fun b o e => hk b o (by simpa using Nat.ne_of_lt (Heap.lt_size e)) (keep1 b o e)
    obtain ⟨cD, eD⟩ := hpl
    have hDs : s.heap.get? D = none := by
      cases e : s.heap.get? D with
      | none => rfl
      | some o => have := keep1 D o e; rw [hD] at this; cases this
    have hD0 : h₀.get? D = none := by
      cases e : h₀.get? D with
      | none => rfl
      | some o => have := F.keep D o e; rw [hDs] at this; cases this
    have hDL : D ≠ L := by
      rintro rfl
      obtain ⟨o, _, _, e, _⟩ := F.ns
      rw [hDs] at e; cases e
    refine hQ D ys.toList cD h' tk (F.keeps keep2) (fun p hp => ?_) (fun p hp e => by have := (N p hp).1; rw [e, hDs] at this; cases this) hI
    rcases List.mem_cons.mp hp with rfl | hp
    · exact ⟨by simpa using eD, hDL, hD0⟩
    · exact ⟨keep2 _ _ (N p hp).1, (N p hp).2⟩

/-- v if v >= 0 else 3329 + v -/
def upV (v : Int) : Int := if v ≥ 0 then v else 3329 + v
theorem elt_up {cenv : Env} {x : Str} {p1 p2 p3 p4 p5 p6 p7 p8 : Pos} {m : Str → Option Value} {n : Int} {t : Tok} (hk : cenv.scope.kind = .function) (hx : cenv.kindOf x = some .local) (hd : (x == ("__debug__" : Str)) = false)
    (hn : s.heap.Ns cenv.locals m) (ha : m x = some (.int n t)) :
    wpAny (model prog w) A (eval (.IfExp (.Compare (.Name x p1) [.GtE] [.Constant (.int 0) 0 p2] p3) (.Name x p4) (.BinOp (.Constant (.int 3329) 0 p5) .Add (.Name x p6) p7) p8) cenv)
      (fun y s₃ => (∃ t', y = .int (upV n) t') ∧ Keeps s s₃) E s := by
  refine wpAny_IfExp (wpAny_isTrue_Compare1 ?_)
  refine wpAny_Name (wpAny_loadName_local hk hx hn ha ?_) hd
  walk1
  walk1
  walk1
  cases h : decide (n ≥ 0) with
  | true =>
    have h' : n ≥ 0 := of_decide_eq_true h
    simp only [if_true]
    refine wpAny_Name (wpAny_loadName_local hk hx hn ha ?_) hd
    exact ⟨⟨t, by unfold upV; rw [if_pos h']⟩, s.heap, _, rfl, fun _ _ e => e⟩
  | false =>
    have h' : ¬ n ≥ 0 := of_decide_eq_false h
    simp only [Bool.false_eq_true, if_false]
    refine wpAny_BinOp ?_
    walk1
    refine wpAny_Name (wpAny_loadName_local hk hx hn ha ?_) hd
    walk1
    exact ⟨⟨_, by unfold upV; rw [if_neg h']⟩, s.heap, _, rfl, fun _ _ e => e⟩
/-- 0 - v if v <= 0 else 3329 - v -/
def dnV (v : Int) : Int := if v ≤ 0 then 0 - v else 3329 - v
theorem elt_dn {cenv : Env} {x : Str} {p1 p2 p3 p4 p5 p6 p7 p8 p9 p10 : Pos} {m : Str → Option Value} {n : Int} {t : Tok} (hk : cenv.scope.kind = .function) (hx : cenv.kindOf x = some .local) (hd : (x == ("__debug__" : Str)) = false)
    (hn : s.heap.Ns cenv.locals m) (ha : m x = some (.int n t)) :
    wpAny (model prog w) A (eval (.IfExp (.Compare (.Name x p1) [.LtE] [.Constant (.int 0) 0 p2] p3) (.BinOp (.Constant (.int 0) 0 p4) .Sub (.Name x p5) p6) (.BinOp (.Constant (.int 3329) 0 p7) .Sub (.Name x p8) p9) p10) cenv)
      (fun y s₃ => (∃ t', y = .int (dnV n) t') ∧ Keeps s s₃) E s := by
  refine wpAny_IfExp (wpAny_isTrue_Compare1 ?_)
  refine wpAny_Name (wpAny_loadName_local hk hx hn ha ?_) hd
  walk1
  walk1
  walk1
  cases h : decide (n ≤ 0) with
  | true =>
    have h' : n ≤ 0 := of_decide_eq_true h
    simp only [if_true]
    refine wpAny_BinOp ?_
    walk1
    refine wpAny_Name (wpAny_loadName_local hk hx hn ha ?_) hd
    walk1
    exact ⟨⟨_, by unfold dnV; rw [if_pos h']⟩, s.heap, _, rfl, fun _ _ e => e⟩
  | false =>
    have h' : ¬ n ≤ 0 := of_decide_eq_false h
    simp only [Bool.false_eq_true, if_false]
    refine wpAny_BinOp ?_
    walk1
    refine wpAny_Name (wpAny_loadName_local hk hx hn ha ?_) hd
    walk1
    exact ⟨⟨_, by unfold dnV; rw [if_neg h']⟩, s.heap, _, rfl, fun _ _ e => e⟩
theorem comp_bytes {env : Env} {elt iter : Expr} {x : Str} {px : Pos} {scope : Scope} {pos : Pos} {h₀ : Heap} {L : Addr} {news : List (Addr × Obj)} {m₀ : Str → Option Value} {bt : Array UInt8} {tb : Tok} {ns : List Int} {f : Int → Int} {Q : Value → Shared → Prop}
    (hh : A.handled = none) (hs : ∀ x, foldedSetIterable iter env x = pure x)
    (hfree : ∀ z ∈ scope.names, z.2 ≠ .free) (hcell : ∀ z ∈ scope.names, z.2 ≠ .cell) (hkind : scope.kind = .function) (hnames : ∀ z ∈ scope.names, z.2 = .local → scope.names.lookup z.1 = some .local)
    (hx : scope.names.lookup x = some .local)
    (F : Fr h₀ L s.heap m₀) (N : News h₀ L s.heap news) (hb : KBw.bInts bt = ns) (hsz : ns.length ≤ sizeLine)
    (hiter : ∀ Q' : Value → Shared → Prop, Q' (.bytes bt tb) s → wpAny (model prog w) A (eval iter env) Q' E s)
    (helt : ∀ C n t (s₂ : Shared) m₂ E', s₂.heap.Ns C m₂ → m₂ x = some (.int n t) →
      wpAny (model prog w) A (eval elt (compEnv scope C env)) (fun y s₃ => (∃ t', y = .int (f n) t') ∧ Keeps s₂ s₃) E' s₂)
    (hQ : ∀ D ys c' h' tk, Fr h₀ L h' m₀ → News h₀ L h' ((D, W.listOf (List.toArray ys) c') :: news) → (∀ p ∈ news, p.1 ≠ D) → IntsAre ys (ns.map f) → Q (.ref D) { s with heap := h', toks := tk }) :
    wpAny (model prog w) A (eval (.ListComp elt [⟨.Name x px, iter, [], 0⟩] scope pos) env) Q E s := by
  refine wpAny_ListComp_walk (fun _ => true) (IntTo f) hfree hcell hkind hnames hx (hiter _ ?_) hs
  have hlen : bt.size = ns.length := by rw [← hb, KBw.ints_length]
  have keep1 : ∀ b o, s.heap.get? b = some o → (s.heap.push { cls := .type "bytes_iterator", data := .fields #[.bytes bt tb, .int 0 0] }).get? b = some o := fun b o e => Heap.get?_push_of_some _ e
  refine KBw.pyIter_bytes ⟨_, _, _, bt.size, _, _, rfl, KBw.walks hh s.heap.objs.size bt tb, by omega, ⟨_, Heap.get?_push_size _ rfl, rfl, rfl⟩, ?_, ?_, ?_⟩
  · intro b hb
    rw [Heap.size_push, List.mem_singleton.mp hb]
    exact Nat.lt_succ_self _
  · refine ⟨fun C i v' s₃ m₃ E' _ _ _ _ _ => wpAny_tests_nil ⟨rfl, s₃.heap, s₃.toks, rfl, fun _ _ e => e⟩, fun C i v' s₃ m₃ E' hP _ hn hv _ _ => ?_⟩
    obtain ⟨c, u, hc, rfl⟩ := hP
    refine wpAny_mono (helt C _ u s₃ m₃ E' hn hv) (fun y s₄ h4 => ?_) fun _ _ e => e
    obtain ⟨⟨t', rfl⟩, hk⟩ := h4
    exact ⟨⟨_, _, _, rfl, rfl⟩, hk⟩
  · intro D h' tk ys vs hD hl hpl hvl hP hF hk
    have hI0 : IntsAre vs ns := ints_of (by rw [hvl, hlen]) fun j v hj => by
      obtain ⟨c, u, hc, rfl⟩ := hP j v hj
      exact ⟨_, u, by rw [← hb]; exact KBw.ints_get hc, rfl⟩
    rw [List.filter_eq_self.mpr (fun _ _ => rfl)] at hF
    have hI := ints_paired hI0 hF
    have keep2 : ∀ b o, s.heap.get? b = some o → h'.get? b = some o := fun b o e => hk b o (by simpa using Nat.ne_of_lt (Heap.lt_size e)) (keep1 b o e)
    obtain ⟨cD, eD⟩ := hpl
    have hDs : s.heap.get? D = none := by
      cases e : s.heap.get? D with
      | none => rfl
      | some o => have := keep1 D o e; rw [hD] at this; cases this
    have hD0 : h₀.get? D = none := by
      cases e : h₀.get? D with
      | none => rfl
      | some o => have := F.keep D o e; rw [hDs] at this; cases this
    have hDL : D ≠ L := by
      rintro rfl
      obtain ⟨o, _, _, e, _⟩ := F.ns
      rw [hDs] at e; cases e
    refine hQ D ys.toList cD h' tk (F.keeps keep2) (fun p hp => ?_) (fun p hp e => by have := (N p hp).1; rw [e, hDs] at this; cases this) hI
    rcases List.mem_cons.mp hp with rfl | hp
    · exact ⟨by simpa using eD, hDL, hD0⟩
    · exact ⟨keep2 _ _ (N p hp).1, (N p hp).2⟩

theorem elt_not {cenv : Env} {x : Str} {p1 p2 p3 : Pos} {m : Str → Option Value} {n : Int} {t : Tok} (hk : cenv.scope.kind = .function) (hx : cenv.kindOf x = some .local) (hd : (x == ("__debug__" : Str)) = false)
    (hn : s.heap.Ns cenv.locals m) (ha : m x = some (.int n t)) :
    wpAny (model prog w) A (eval (.BinOp (.Constant (.int 255) 0 p1) .Sub (.Name x p2) p3) cenv) (fun y s₃ => (∃ t', y = .int (255 - n) t') ∧ Keeps s s₃) E s := by
  refine wpAny_BinOp ?_
  walk1
  refine wpAny_Name (wpAny_loadName_local hk hx hn ha ?_) hd
  walk1
  exact ⟨⟨_, rfl⟩, s.heap, _, rfl, fun _ _ e => e⟩
end
end Mine
end

/-! part C7 -/
section
open PySem PySem.W PyProof.Rows
namespace Mine
local macro_rules | `(tactic| k_all) => `(tactic| assumption)
local macro_rules | `(tactic| k_mem) => `(tactic| ((show (_ : Addr × Obj) ∈ (_ : List (Addr × Obj))); ktr_member))
local macro_rules | `(tactic| k_room) => `(tactic| ktr_room)
local macro_rules | `(tactic| walk_at "execs cons") => `(tactic| ((with_reducible show wpAny _ _ (execs (Stmt.Assign _ _ _ :: _) _) _ _ _); refine stop_here ?_))
set_option maxRecDepth 100000 in
set_option maxHeartbeats 8000000 in
theorem cbd_bad {w : World} {loose : List Str} {mean : ExcName → Option Value} {mg mb : Str → Option Value}
    (dp un : Nat) (gd : Option (List Code)) (cn : Str) (cs : Scope) (a : Addr) (ccd : Value) (cl : List (Str × Addr)) (outer : List Env) (A₀ : Around) (base h₀ : Heap) (L : Addr) (m : Str → Option Value) (s : Shared) (Q E : Value → Shared → Prop) (news : List (Addr × Obj))
    (x : Addr) (b : Array UInt8) (tb te : Tok) (eta : Int) (ks : List Int)
    (B : Below A₀ base outer h₀) (F : Fr h₀ L s.heap m) (X : (hd.heap_39 w.params).In h₀) (N : News h₀ L s.heap news) (T : Top hd.view_39 loose mean mg mb h₀) (hk : cs.kind = .function)
    (hb : KBw.bInts b = ks) (hz : ks.length ≤ 1000) (hne : 64 * eta ≠ (ks.length : Int)) (he : -1000 < eta ∧ eta < 1000)
    (hd' : dp + 9 < recursionLimit)
    (hE : ∀ (e : Addr) (g h' : Heap) (tk' : Nat), Fr h₀ L g m → RaisedN base (envX cn cs L a ccd cl :: outer) e (.type "AssertionError") news h' → g.UpToSlots h' → E (.ref e) { s with heap := h', toks := tk' }) :
    wpAny (model Challenge.rw_yi0077_01.row.prog w) (ktrTop dp un gd cn cs L a ccd cl outer) (call (.ref 268) [.ref x, .bytes b tb, .int eta te]) Q E s := by
  k_with_none
  w_top off
  revert X; k_fill; intro X
  refine wpAny_call ?_
  k_dflt (refine' code_def ?k1 ?k2 ?k3 ?k4 ?k5 ?kA ?kF ?kK ?k6 ?k7 ?k8 ?k9 ?kB ?_ ?c2 ?c3 ?c4 ?c5; (case kA => exact rfl); (case kF => exact rfl); (case kK => assumption); (case k1 => k_asm); (case k2 => k_asm); (case k3 => k_asm); (case k4 => k_asm); (case k5 => k_asm); (case k6 => k_is); (case k7 => k_is); (case k8 => ktr_room); (case k9 => exact binds_K (X.keeps F.keep) rfl (by k_is) rfl rfl rfl); (case c5 => decide); (case kB => exact locs rfl); (case c2 => exact rfl); (case c3 => exact rfl); (case c4 => exact rfl); k_whole; intro g' L' h' FG' F' N' B' X' T'; (try dsimp only); (try k_lift B'); (try k_fold))
  k_steps
  · exact absurd (by assumption) hne
  · rename_i R9 U9
    exact hE _ _ _ _ FG' R9 U9
end Mine
end

/-! part C8 -/
section
open PySem PySem.W PyProof.Rows PySem.Calls
namespace Mine
section
variable {prog : Program} {w : World} {A₀ : Around} {E : Value → Shared → Prop} {s' : Shared} {h₀ h : Heap} {outer : List Env} {L a e : Addr} {m mg mb : Str → Option Value} {name : Str} {scope : Scope} {cd : Value} {cl : List (Str × Addr)} {Q : Flow → Shared → Prop} {news : List (Addr × Obj)} {p : Program} {loose : List Str} {b₀ : Stmt} {suite : List Stmt} {rest : List ExceptHandler} {np pos : Pos}
theorem caught_X (K : Below A₀ h₀ outer h₀) (F : Fr h₀ L h m) (hsm : h.UpToSlots s'.heap) (R : RaisedN h₀ (envX name scope L a cd cl :: outer) e (.type "AssertionError") news s'.heap)
    (hg : h₀.Ns mainGlobals mg) (hmiss : mg (Str.ofString "AssertionError") = none) (hbn : h₀.Ns builtinsNs mb) (hv : mb (Str.ofString "AssertionError") = some (.type "AssertionError"))
    (k : ∀ h', Fr h₀ L h' m → News h₀ L h' news →
      wpAny (model prog w) ((A₀.deeper (envX name scope L a cd cl)).mark (some (.ref e))) (execs (b₀ :: suite) (envX name scope L a cd cl)) Q E { s' with heap := h' })
    (hk : scope.kind = .function) (hx : (envX name scope L a cd cl).kindOf (Str.ofString "AssertionError") = some .globalImplicit)
    (hE : PassesOwnAt (model prog w) ((A₀.deeper (envX name scope L a cd cl)).mark (some (.ref e))) (A₀.deeper (envX name scope L a cd cl)) (envX name scope L a cd cl) E) :
    wpAny (model prog w) (A₀.deeper (envX name scope L a cd cl)) (noteFrame (.ref e) (envX name scope L a cd cl))
      (fun _ s₂ => wpAny (model prog w) (A₀.deeper (envX name scope L a cd cl)) (setFlight (.ref e) none) (fun _ s₃ =>
        wpAny (model prog w) (A₀.deeper (envX name scope L a cd cl)) (handleBy (.ref e) (envX name scope L a cd cl) (.ExceptHandler (some (.Name (Str.ofString "AssertionError") np)) none (b₀ :: suite) pos :: rest)) Q E s₃) E s₂) E s' := by
  obtain ⟨B, a0, hB, hl, hfl⟩ := R
  have hL : B.get? L = none := by
    obtain ⟨_, ⟨L', _, hf, hn', _⟩, _⟩ := hfl.2.2.1
    obtain rfl : L = L' := Option.some.inj hf
    exact hn'
  refine wpAny_looks_onW (Around.frames_deeper K.stack) rfl hfl fun h₄ hheld₄ hsm₄ => ?_
  refine wpAny_landsW hheld₄ fun h₅ hheld hsm₅' => ?_
  have hsm₅ := hsm₄.trans hsm₅'
  have hheld' := flyingW_base hB hheld
  have F₅ := F.of_stays hheld'.1 (hsm.trans hsm₅)
  obtain ⟨ob, hob, hobc⟩ := hheld'.there
  refine wpAny_handleBy_builtin (X := "AssertionError") (T := "AssertionError") (b := true) (by first | rfl | kernel_rfl | (rw [isSubtype_type]; kernel_rfl)) (by first | rfl | kernel_rfl | (rw [isSubtype_type]; kernel_rfl)) (by first | rfl | kernel_rfl | (rw [isSubtype_type]; kernel_rfl))
    (Name_function_global hk hx (loadGlobal_builtin (env := envX name scope L a cd cl) (hg.keeps F₅.keep) hmiss (hbn.keeps F₅.keep) hv ⟨rfl, ⟨ob, hob, hobc⟩, ?_⟩) (by decide))
  refine lands_againW hheld fun h₆ hfl₆ hsm₆ => ?_
  have F₆ := F.of_stays (flyingW_base hB hfl₆).1 ((hsm.trans hsm₅).trans hsm₆)
  exact wpAny_passesOwnAt hE (k h₆ F₆ fun q hq => ⟨hfl₆.1 _ _ (hl q hq).1, (fun z => by have := (hl q hq).1; rw [z, hL] at this; cases this), (hl q hq).2⟩)
set_option maxRecDepth 100000 in
set_option maxHeartbeats 3000000 in
theorem caught_L {mean : ExcName → Option Value} (K : Below A₀ h₀ outer h₀) (F : Fr h₀ L h m) (hsm : h.UpToSlots s'.heap) (R : RaisedN h₀ (envX name scope L a cd cl :: outer) e (.type "AssertionError") news s'.heap)
    (X : (hd.heap_39 w.params).In h₀) (T : Top hd.view_39 loose mean mg mb h₀)
    (k : ∀ h', Fr h₀ L h' m → News h₀ L h' news →
      wpAny (model Challenge.rw_yi0077_01.row.prog w) ((A₀.deeper (envX name scope L a cd cl)).mark (some (.ref e))) (execs (b₀ :: suite) (envX name scope L a cd cl)) Q E { s' with heap := h' })
    (hk : scope.kind = .function) (hx : (envX name scope L a cd cl).kindOf (Str.ofString "AssertionError") = some .globalImplicit)
    (hE : PassesOwnAt (model Challenge.rw_yi0077_01.row.prog w) ((A₀.deeper (envX name scope L a cd cl)).mark (some (.ref e))) (A₀.deeper (envX name scope L a cd cl)) (envX name scope L a cd cl) E) :
    wpAny (model Challenge.rw_yi0077_01.row.prog w) (A₀.deeper (envX name scope L a cd cl)) (noteFrame (.ref e) (envX name scope L a cd cl))
      (fun _ s₂ => wpAny (model Challenge.rw_yi0077_01.row.prog w) (A₀.deeper (envX name scope L a cd cl)) (setFlight (.ref e) none) (fun _ s₃ =>
        wpAny (model Challenge.rw_yi0077_01.row.prog w) (A₀.deeper (envX name scope L a cd cl)) (handleBy (.ref e) (envX name scope L a cd cl) (.ExceptHandler (some (.Name (Str.ofString "AssertionError") np)) none (b₀ :: suite) pos :: rest)) Q E s₃) E s₂) E s' := by
  k_with_none
  w_top off
  revert X; k_fill; intro X
  exact caught_X K F hsm R T.g (mg_none_of X T.g (by k_is)) T.b ((T.builtins _ (by decide)).trans (by boot_by_name)) k hk hx hE
theorem many_len {c : UInt8} {n : Int} (h0 : 0 ≤ n) : ((KBw.bInts ((List.replicate n.toNat [c]).flatten).toArray).length : Int) = n := by
  rw [KBw.ints_length]
  simp
  omega
end
end Mine
end

/-! part PL -/
section
open PySem PySem.W PyProof.Rows
namespace Mine
/-- the octets as one number, the lowest first -/
def numB : List Int → Nat
  | [] => 0
  | o :: r => 256 * numB r + o.toNat
theorem value_rev : ∀ (O : List Int), (∀ x ∈ O, 0 ≤ x ∧ x < 256) → KFB.value O.reverse = ((numB O : Nat) : Int)
  | [], _ => rfl
  | o :: r, h => by
    have ih := value_rev r fun x hx => h x (.tail _ hx)
    have ho := h o (.head _)
    unfold KFB.value at ih ⊢
    rw [List.reverse_cons, List.foldl_append, ih]
    simp only [List.foldl_cons, List.foldl_nil, numB]
    rw [Int.natCast_add, Int.natCast_mul]
    omega
set_option maxRecDepth 100000 in
theorem bit_one : ∀ n : Nat, n < 256 → ∀ i : Nat, i < 8 → ((n : Int).fdiv (2 ^ i)).fmod 2 = if n.testBit i then 1 else 0 := by decide +kernel
set_option maxRecDepth 100000 in
theorem bit_not : ∀ n : Nat, n < 256 → ∀ i : Nat, i < 8 → ((255 - (n : Int)).fdiv (2 ^ i)).fmod 2 = 1 - ((n : Int).fdiv (2 ^ i)).fmod 2 := by decide +kernel
def isBits (f : Nat → Bool) (l : List Int) : Prop := ∀ j (h : j < l.length), l[j] = if f j then 1 else 0
theorem bits8_len (o : Int) : ((List.range 8).map fun i => (o.fdiv (2 ^ i)).fmod 2).length = 8 := by simp
theorem bitsL_cons (o : Int) (r : List Int) : bitsL (o :: r) = ((List.range 8).map fun i => (o.fdiv (2 ^ i)).fmod 2) ++ bitsL r := by
  unfold bitsL; rw [List.flatMap_cons]
theorem bitsL_len (l : List Int) : (bitsL l).length = l.length * 8 := flat8_len (fun o i => (o.fdiv (2 ^ i)).fmod 2) l
theorem bits_of : ∀ (O : List Int), (∀ x ∈ O, 0 ≤ x ∧ x < 256) → isBits (numB O).testBit (bitsL O)
  | [], _ => fun j h => absurd h (Nat.not_lt_zero j)
  | o :: r, h => by
    have ih := bits_of r fun x hx => h x (.tail _ hx)
    have ho := h o (.head _)
    intro j hj
    have e : numB (o :: r) = 2 ^ 8 * numB r + o.toNat := rfl
    rw [e, Nat.testBit_two_pow_mul_add _ (by omega)]
    simp only [bitsL_cons]
    by_cases hj8 : j < 8
    · rw [List.getElem_append_left (by rw [bits8_len]; exact hj8), if_pos hj8]
      have := bit_one o.toNat (by omega) j hj8
      rw [show ((o.toNat : Nat) : Int) = o by omega] at this
      simpa using this
    · rw [List.getElem_append_right (by rw [bits8_len]; omega), if_neg hj8]
      simp only [bits8_len]
      exact ih (j - 8) _
/-- how many of the bits a .. a + e - 1 are set -/
def cnt (f : Nat → Bool) (a e : Nat) : Nat := (List.range e).countP fun i => f (a + i)
theorem sum_cnt {f : Nat → Bool} {l : List Int} (h : isBits f l) (a : Nat) : ∀ e : Nat, a + e ≤ l.length → ((l.drop a).take e).sum = ((cnt f a e : Nat) : Int)
  | 0, _ => by simp [cnt]
  | e + 1, hl => by
    have ih := sum_cnt h a e (by omega)
    have hx : (l.drop a)[e]? = some (l[a + e]'(by omega)) := by
      rw [List.getElem?_drop, List.getElem?_eq_getElem (by omega)]
    rw [List.take_add_one, hx, List.sum_append, ih, h (a + e) (by omega)]
    unfold cnt
    rw [List.range_succ, List.countP_append]
    simp only [Option.toList_some, List.sum_cons, List.sum_nil, List.countP_cons, List.countP_nil]
    cases f (a + e) <;> simp
theorem cnt_le (f : Nat → Bool) (a e : Nat) : cnt f a e ≤ e := by
  unfold cnt
  exact Nat.le_trans (List.countP_le_length) (by simp)
theorem countP_more {n k : Nat} (h : n < 2 ^ k) : ∀ d : Nat, (List.range (k + d)).countP n.testBit = (List.range k).countP n.testBit
  | 0 => rfl
  | d + 1 => by
    rw [← Nat.add_assoc, List.range_succ, List.countP_append, countP_more h d]
    have : n.testBit (k + d) = false := Nat.testBit_lt_two_pow (Nat.lt_of_lt_of_le h (Nat.pow_le_pow_right (by decide) (by omega)))
    simp [this]
theorem countP_any {n k k' : Nat} (h : n < 2 ^ k) (h' : n < 2 ^ k') : (List.range k).countP n.testBit = (List.range k').countP n.testBit := by
  have e1 := countP_more h (k' - k)
  have e2 := countP_more h' (k - k')
  rw [← e1, ← e2, show k + (k' - k) = k' + (k - k') by omega]
theorem pc_nat {n k : Nat} (h : n < 2 ^ k) : pcI (n : Int) = (((List.range k).countP n.testBit : Nat) : Int) := by
  unfold pcI
  rw [Int.natAbs_natCast]
  congr 1
  refine countP_any ?_ h
  unfold Builtin.Int.intBits
  by_cases h0 : n = 0
  · subst h0; simp
  · have : ((n : Int) == 0) = false := by simp [h0]
    rw [this, Int.natAbs_natCast]
    exact Nat.lt_log2_self
theorem and_nat (a b : Nat) : Builtin.bitAnd (a : Int) (b : Int) = ((a &&& b : Nat) : Int) := by
  simp [Builtin.bitAnd, Spec.bitAnd]

/-- the number of turn i over bits l -/
def num (l : List Int) (e i : Nat) : Int := ((l.drop (2 * e * i)).take e).sum - ((l.drop (2 * e * i + e)).take e).sum
def nums (l : List Int) (e n : Nat) : List Int := (List.range n).map (num l e)
theorem two_toNat (e : Nat) : (2 * (e : Int)).toNat = 2 * e := by omega
theorem pow_cast (n : Nat) : ((2 : Int) ^ n) = ((2 ^ n : Nat) : Int) := by push_cast; rfl
theorem mask_cast (n : Nat) : (1 * (2 : Int) ^ n - 1) = ((2 ^ n - 1 : Nat) : Int) := by
  have : 0 < 2 ^ n := Nat.two_pow_pos n
  rw [pow_cast]
  omega
theorem bI_nat (e B : Nat) : ∀ i : Nat, bI (e : Int) (B : Int) i = ((B / 2 ^ (2 * e * i) : Nat) : Int)
  | 0 => by simp [bI]
  | i + 1 => by
    show (bI (e : Int) (B : Int) i).fdiv (2 ^ (2 * (e : Int)).toNat) = _
    rw [bI_nat e B i, two_toNat, pow_cast, ← Int.ofNat_fdiv, Nat.div_div_eq_div_mul, ← Nat.pow_add, Nat.mul_succ]
theorem cI_nat (e b : Nat) : cI (e : Int) (b : Int) = (((cnt b.testBit 0 e : Nat) : Int) - ((cnt b.testBit e e : Nat) : Int)).fmod 3329 := by
  unfold cI
  rw [two_toNat, Int.toNat_natCast, mask_cast, mask_cast, pow_cast, and_nat, and_nat, ← Int.ofNat_fdiv, and_nat]
  simp only [Nat.and_two_pow_sub_one_eq_mod]
  rw [pc_nat (Nat.mod_lt _ (Nat.two_pow_pos e)), pc_nat (Nat.mod_lt _ (Nat.two_pow_pos e))]
  have h1 : (List.range e).countP (b % 2 ^ (2 * e) % 2 ^ e).testBit = cnt b.testBit 0 e := by
    unfold cnt
    refine List.countP_congr fun i hi => ?_
    have := List.mem_range.mp hi
    rw [Nat.testBit_mod_two_pow, Nat.testBit_mod_two_pow, Nat.zero_add]
    simp [this, show i < 2 * e by omega]
  have h2 : (List.range e).countP (b % 2 ^ (2 * e) / 2 ^ e % 2 ^ e).testBit = cnt b.testBit e e := by
    unfold cnt
    refine List.countP_congr fun i hi => ?_
    have := List.mem_range.mp hi
    rw [Nat.testBit_mod_two_pow, Nat.testBit_div_two_pow, Nat.testBit_mod_two_pow]
    have hb : i + e < 2 * e := by omega
    simp [this, hb, Nat.add_comm e i]
  rw [h1, h2]
theorem cnt_div (B k a e : Nat) : cnt (B / 2 ^ k).testBit a e = cnt B.testBit (k + a) e := by
  unfold cnt
  refine List.countP_congr fun i _ => ?_
  rw [Nat.testBit_div_two_pow]
  simp [Nat.add_comm, Nat.add_left_comm]
theorem turn_num {O : List Int} {e i : Nat} (iO : ∀ x ∈ O, 0 ≤ x ∧ x < 256) (h : 2 * e * (i + 1) ≤ (bitsL O).length) :
    cI (e : Int) (bI (e : Int) (KFB.value O.reverse) i) = (num (bitsL O) e i).fmod 3329 := by
  rw [Nat.mul_succ] at h
  rw [value_rev O iO, bI_nat, cI_nat, cnt_div, cnt_div, Nat.add_zero]
  unfold num
  rw [sum_cnt (bits_of O iO) _ _ (by omega), sum_cnt (bits_of O iO) _ _ (by omega)]
theorem num_small {O : List Int} {e i : Nat} (iO : ∀ x ∈ O, 0 ≤ x ∧ x < 256) (h : 2 * e * (i + 1) ≤ (bitsL O).length) :
    -(e : Int) ≤ num (bitsL O) e i ∧ num (bitsL O) e i ≤ (e : Int) := by
  rw [Nat.mul_succ] at h
  unfold num
  rw [sum_cnt (bits_of O iO) _ _ (by omega), sum_cnt (bits_of O iO) _ _ (by omega)]
  have := cnt_le (numB O).testBit (2 * e * i) e
  have := cnt_le (numB O).testBit (2 * e * i + e) e
  omega
theorem up_of {v : Int} (h0 : -5 ≤ v) (h1 : v ≤ 5) : v.fmod 3329 = upV v := by
  unfold upV
  rw [Int.fmod_eq_emod_of_nonneg _ (by decide)]
  split <;> omega
theorem dn_of {v : Int} (h0 : -5 ≤ v) (h1 : v ≤ 5) : (-v).fmod 3329 = dnV v := by
  unfold dnV
  rw [Int.fmod_eq_emod_of_nonneg _ (by decide)]
  split <;> omega
theorem steps_num {O : List Int} {e : Nat} (iO : ∀ x ∈ O, 0 ≤ x ∧ x < 256) (h : O.length = 64 * e) :
    stepL (e : Int) (KFB.value O.reverse) 256 = (nums (bitsL O) e 256).map fun v => v.fmod 3329 := by
  unfold stepL nums
  rw [Nat.sub_self, List.replicate_zero, List.append_nil, List.map_map]
  refine List.map_congr_left fun i hi => ?_
  have hi := List.mem_range.mp hi
  refine turn_num iO ?_
  rw [bitsL_len, h]
  have : 2 * e * (i + 1) ≤ 2 * e * 256 := Nat.mul_le_mul (Nat.le_refl _) (by omega)
  omega
theorem nums_small {O : List Int} {e : Nat} (he : e < 6) (iO : ∀ x ∈ O, 0 ≤ x ∧ x < 256) (h : O.length = 64 * e) : ∀ v ∈ nums (bitsL O) e 256, -5 ≤ v ∧ v ≤ 5 := by
  intro v hv
  obtain ⟨i, hi, rfl⟩ := List.mem_map.mp hv
  have hi := List.mem_range.mp hi
  have hb : 2 * e * (i + 1) ≤ (bitsL O).length := by
    rw [bitsL_len, h]
    have : 2 * e * (i + 1) ≤ 2 * e * 256 := Nat.mul_le_mul (Nat.le_refl _) (by omega)
    omega
  have := num_small iO hb
  omega
theorem bitsL_app (a b : List Int) : bitsL (a ++ b) = bitsL a ++ bitsL b := by
  unfold bitsL; rw [List.flatMap_append]
theorem bitsL_rep (a : List Int) : ∀ n : Nat, bitsL (List.replicate n a).flatten = (List.replicate n (bitsL a)).flatten
  | 0 => rfl
  | n + 1 => by rw [List.replicate_succ, List.replicate_succ, List.flatten_cons, List.flatten_cons, bitsL_app, bitsL_rep a n]
theorem bitsL_spread (a b c : List Int) (k : Int) : bitsL (spreadL a b c k) = spreadL (bitsL a) (bitsL b) (bitsL c) k := by
  unfold spreadL; rw [bitsL_app, bitsL_app, bitsL_rep, bitsL_rep]
theorem num_left {a b : List Int} {e i : Nat} (h : 2 * e * (i + 1) ≤ a.length) : num (a ++ b) e i = num a e i := by
  rw [Nat.mul_succ] at h
  unfold num
  rw [List.drop_append_of_le_length (by omega), List.drop_append_of_le_length (by omega), List.take_append_of_le_length (by rw [List.length_drop]; omega), List.take_append_of_le_length (by rw [List.length_drop]; omega)]
theorem num_right {a b : List Int} {e n i : Nat} (h : a.length = 2 * e * n) : num (a ++ b) e (n + i) = num b e i := by
  unfold num
  rw [Nat.mul_add, ← h]
  generalize 2 * e * i = z
  rw [Nat.add_assoc, List.drop_append, List.drop_append, List.drop_eq_nil_of_le (Nat.le_add_right _ _), List.drop_eq_nil_of_le (Nat.le_add_right _ _), Nat.add_sub_cancel_left, Nat.add_sub_cancel_left, List.nil_append, List.nil_append]
theorem nums_app {a b : List Int} {e n m : Nat} (h : a.length = 2 * e * n) : nums (a ++ b) e (n + m) = nums a e n ++ nums b e m := by
  unfold nums
  rw [List.range_add, List.map_append, List.map_map]
  congr 1
  · refine List.map_congr_left fun i hi => num_left ?_
    rw [h]
    exact Nat.mul_le_mul (Nat.le_refl _) (List.mem_range.mp hi)
  · exact List.map_congr_left fun i _ => num_right h
theorem rep_len (a : List Int) : ∀ n : Nat, (List.replicate n a).flatten.length = n * a.length
  | n => by simp
theorem nums_rep {a : List Int} {e : Nat} (h : a.length = 2 * e * 8) : ∀ n : Nat, nums (List.replicate n a).flatten e (8 * n) = (List.replicate n (nums a e 8)).flatten
  | 0 => rfl
  | n + 1 => by
    rw [List.replicate_succ, List.replicate_succ, List.flatten_cons, List.flatten_cons, ← nums_rep h n, ← nums_app h, Nat.mul_succ, Nat.add_comm]
theorem nums_spread {a b c : List Int} {e : Nat} {k : Int} (ha : a.length = 2 * e * 8) (hb : b.length = 2 * e * 8) (hc : c.length = 2 * e * 8) (hk0 : 0 ≤ k) (hk1 : k < 32) :
    nums (spreadL a b c k) e 256 = spreadL (nums a e 8) (nums b e 8) (nums c e 8) k := by
  unfold spreadL
  have e1 : 256 = (8 * k.toNat + 8) + 8 * (31 - k).toNat := by omega
  have l1 : (List.replicate k.toNat a).flatten.length = 2 * e * (8 * k.toNat) := by
    rw [rep_len, ha, Nat.mul_comm, Nat.mul_assoc]
  have l2 : ((List.replicate k.toNat a).flatten ++ b).length = 2 * e * (8 * k.toNat + 8) := by
    rw [List.length_append, l1, hb, Nat.mul_add]
  rw [e1, nums_app l2, nums_app l1, nums_rep ha, nums_rep hc]
theorem awayL_nums {a : List Int} {e : Nat} (ha : a.length = 2 * e) : awayL a (e : Int) = nums (bitsL a) e 8 := by
  unfold awayL nums
  refine List.map_congr_left fun i hi => ?_
  have hi := List.mem_range.mp hi
  have hl : (bitsL a).length = 2 * e * 8 := by rw [bitsL_len, ha]
  have hb : 2 * e * (i + 1) ≤ 2 * e * 8 := Nat.mul_le_mul (Nat.le_refl _) (by omega)
  rw [Nat.mul_succ] at hb
  unfold awayV num
  have c0 : 2 * (e : Int) * (i : Int) = ((2 * e * i : Nat) : Int) := by push_cast; rfl
  rw [c0, hl]
  generalize hz : 2 * e * i = z at *
  have t0 : ((z : Nat) : Int).toNat = z := by omega
  have t1 : (((z : Nat) : Int) + (e : Int)).toNat = z + e := by omega
  have t2 : (((z : Nat) : Int) + 2 * (e : Int)).toNat = z + 2 * e := by omega
  rw [t0, t1, t2, Nat.min_eq_left (by omega), Nat.min_eq_left (by omega), show z + e - z = e by omega, show z + 2 * e - (z + e) = e by omega]
theorem spread_len {a b c : List Int} {n : Nat} {k : Int} (ha : a.length = n) (hb : b.length = n) (hc : c.length = n) (hk0 : 0 ≤ k) (hk1 : k < 32) : (spreadL a b c k).length = 32 * n := by
  unfold spreadL
  rw [List.length_append, List.length_append, rep_len, rep_len, ha, hb, hc]
  have : (31 - k).toNat = 31 - k.toNat := by omega
  rw [this, show k.toNat * n + n + (31 - k.toNat) * n = (k.toNat + 1 + (31 - k.toNat)) * n by rw [Nat.add_mul, Nat.add_mul, Nat.one_mul]]
  congr 1
  omega
theorem spread_all {P : Int → Prop} {a b c : List Int} {k : Int} (ha : ∀ x ∈ a, P x) (hb : ∀ x ∈ b, P x) (hc : ∀ x ∈ c, P x) : ∀ x ∈ spreadL a b c k, P x := by
  intro x hx
  unfold spreadL at hx
  rcases List.mem_append.mp hx with hx | hx
  · rcases List.mem_append.mp hx with hx | hx
    · obtain ⟨l, hl, hx⟩ := List.mem_flatten.mp hx
      rw [(List.mem_replicate.mp hl).2] at hx; exact ha x hx
    · exact hb x hx
  · obtain ⟨l, hl, hx⟩ := List.mem_flatten.mp hx
    rw [(List.mem_replicate.mp hl).2] at hx; exact hc x hx
theorem law_up {A B C : List Int} {eta k : Int} (he0 : 0 ≤ eta) (he1 : eta < 6) (hA : (A.length : Int) = 2 * eta) (hB : (B.length : Int) = 2 * eta) (hC : (C.length : Int) = 2 * eta)
    (iA : ∀ x ∈ A, 0 ≤ x ∧ x < 256) (iB : ∀ x ∈ B, 0 ≤ x ∧ x < 256) (iC : ∀ x ∈ C, 0 ≤ x ∧ x < 256) (hk0 : 0 ≤ k) (hk1 : k < 32) :
    stepL eta (KFB.value (spreadL A B C k).reverse) 256 = (spreadL (awayL A eta) (awayL B eta) (awayL C eta) k).map upV := by
  obtain ⟨e, rfl⟩ := Int.eq_ofNat_of_zero_le he0
  have hA : A.length = 2 * e := by omega
  have hB : B.length = 2 * e := by omega
  have hC : C.length = 2 * e := by omega
  have hO : (spreadL A B C k).length = 64 * e := by rw [spread_len hA hB hC hk0 hk1]; omega
  have iO := spread_all (k := k) iA iB iC
  have hl : ∀ {x : List Int}, x.length = 2 * e → (bitsL x).length = 2 * e * 8 := fun h => by rw [bitsL_len, h]
  rw [steps_num iO hO, awayL_nums hA, awayL_nums hB, awayL_nums hC, ← nums_spread (hl hA) (hl hB) (hl hC) hk0 hk1, ← bitsL_spread]
  refine List.map_congr_left fun v hv => ?_
  have := nums_small (by omega) iO hO v hv
  exact up_of this.1 this.2
theorem bitsL_not : ∀ (O : List Int), (∀ x ∈ O, 0 ≤ x ∧ x < 256) → bitsL (O.map fun o => 255 - o) = (bitsL O).map fun b => 1 - b
  | [], _ => rfl
  | o :: r, h => by
    have ih := bitsL_not r fun x hx => h x (.tail _ hx)
    have ho := h o (.head _)
    rw [List.map_cons, bitsL_cons, bitsL_cons, ih, List.map_append, List.map_map]
    congr 1
    refine List.map_congr_left fun i hi => ?_
    have := bit_not o.toNat (by omega) i (List.mem_range.mp hi)
    rw [show ((o.toNat : Nat) : Int) = o by omega] at this
    exact this
theorem sum_not : ∀ l : List Int, (l.map fun b => 1 - b).sum = l.length - l.sum
  | [] => rfl
  | b :: r => by
    rw [List.map_cons, List.sum_cons, List.sum_cons, sum_not r, List.length_cons]
    omega
theorem num_not {l : List Int} {e i : Nat} (h : 2 * e * (i + 1) ≤ l.length) : num (l.map fun b => 1 - b) e i = - num l e i := by
  rw [Nat.mul_succ] at h
  unfold num
  rw [← List.map_drop, ← List.map_drop, ← List.map_take, ← List.map_take, sum_not, sum_not, List.length_take, List.length_take, List.length_drop, List.length_drop, Nat.min_eq_left (by omega), Nat.min_eq_left (by omega)]
  omega
theorem law_dn {A B C : List Int} {eta k : Int} (he0 : 0 ≤ eta) (he1 : eta < 6) (hA : (A.length : Int) = 2 * eta) (hB : (B.length : Int) = 2 * eta) (hC : (C.length : Int) = 2 * eta)
    (iA : ∀ x ∈ A, 0 ≤ x ∧ x < 256) (iB : ∀ x ∈ B, 0 ≤ x ∧ x < 256) (iC : ∀ x ∈ C, 0 ≤ x ∧ x < 256) (hk0 : 0 ≤ k) (hk1 : k < 32) :
    stepL eta (KFB.value ((spreadL A B C k).map fun o => 255 - o).reverse) 256 = (spreadL (awayL A eta) (awayL B eta) (awayL C eta) k).map dnV := by
  obtain ⟨e, rfl⟩ := Int.eq_ofNat_of_zero_le he0
  have hA : A.length = 2 * e := by omega
  have hB : B.length = 2 * e := by omega
  have hC : C.length = 2 * e := by omega
  have hO : (spreadL A B C k).length = 64 * e := by rw [spread_len hA hB hC hk0 hk1]; omega
  have iO := spread_all (k := k) iA iB iC
  have hl : ∀ {x : List Int}, x.length = 2 * e → (bitsL x).length = 2 * e * 8 := fun h => by rw [bitsL_len, h]
  have iN : ∀ x ∈ (spreadL A B C k).map (fun o => 255 - o), 0 ≤ x ∧ x < 256 := by
    intro x hx
    obtain ⟨o, ho, rfl⟩ := List.mem_map.mp hx
    have := iO o ho
    omega
  rw [steps_num iN (by rw [List.length_map]; exact hO), awayL_nums hA, awayL_nums hB, awayL_nums hC, ← nums_spread (hl hA) (hl hB) (hl hC) hk0 hk1, ← bitsL_spread, bitsL_not _ iO]
  have hn : nums ((bitsL (spreadL A B C k)).map fun b => 1 - b) e 256 = (nums (bitsL (spreadL A B C k)) e 256).map fun v => -v := by
    unfold nums
    rw [List.map_map]
    refine List.map_congr_left fun i hi => ?_
    have hi := List.mem_range.mp hi
    refine num_not ?_
    rw [bitsL_len, hO]
    have : 2 * e * (i + 1) ≤ 2 * e * 256 := Nat.mul_le_mul (Nat.le_refl _) (by omega)
    omega
  rw [hn, List.map_map]
  refine List.map_congr_left fun v hv => ?_
  have := nums_small (by omega) iO hO v hv
  exact dn_of this.1 this.2
end Mine
end

/-! part PLs -/
section
open PySem PySem.W PyProof.Rows
namespace Mine
section
variable {prog : Program} {w : World} {A : Around} {E : Value → Shared → Prop} {s : Shared}
theorem ne_same {h₀ : Heap} {L a b : Addr} {news : List (Addr × Obj)} {vs ws : List Value} {c d : Nat} {ns ms : List Int} {Q : Value → Shared → Prop} (N : News h₀ L s.heap news)
    (ha : (a, W.listOf vs.toArray c) ∈ news) (hb : (b, W.listOf ws.toArray d) ∈ news) (hi : IntsAre vs ns) (hj : IntsAre ws ms) (e : ns = ms) (hu : A.units + 64 < cLine)
    (h : Q (.bool false) s) : wpAny (model prog w) A (compareOp .NotEq (.ref a) (.ref b)) Q E s := by
  refine ne_intsK (News.isList N ha) hi (News.isList N hb) hj hu ?_
  rw [decide_eq_true e]
  exact h
end
end Mine
end

/-! part L1 -/
section
open PySem PySem.W PyProof.Rows
namespace Mine
inductive NoStop : Prop
  | mk
def lawAt (ns : List Int) (i : Int) : Int := if i < (ns.length : Int) then ns.getD i.toNat 0 else Int.fdiv (53 * i * i + 29 * i) 7
theorem fm_lo (x : Int) {k : Int} (h : 0 < k) : 0 ≤ x.fmod k := Int.fmod_nonneg_of_pos x h
theorem fm_hi (x : Int) {k : Int} (h : 0 < k) : x.fmod k < k := Int.fmod_lt_of_pos x h
theorem abc_len (f : Int → Int) {eta : Int} (he : 0 ≤ eta) : (((rangeKs 0 (2 * eta - 0).toNat).map f).length : Int) = 2 * eta := by
  rw [List.length_map, rangeKs_length]; omega
theorem abc_len16 (f : Int → Int) {eta : Int} (he : 0 ≤ eta) (h6 : eta < 6) : ((rangeKs 0 (2 * eta - 0).toNat).map f).length ≤ 16 := by
  rw [List.length_map, rangeKs_length]; omega
theorem abc_in (g : Int → Int) (n : Nat) : ∀ x ∈ (rangeKs 0 n).map (fun k => (g k).fmod 256), 0 ≤ x ∧ x < 256 := by
  intro x hx
  obtain ⟨k, _, rfl⟩ := List.mem_map.mp hx
  exact ⟨fm_lo _ (by decide), fm_hi _ (by decide)⟩
theorem awayL_len (ns : List Int) (eta : Int) : (awayL ns eta).length = 8 := by unfold awayL; simp
theorem spread_in {P : Int → Prop} {a b c : List Int} {k : Int} (ha : ∀ x ∈ a, P x) (hb : ∀ x ∈ b, P x) (hc : ∀ x ∈ c, P x) : ∀ x ∈ spreadL a b c k, P x := by
  intro x hx
  unfold spreadL at hx
  rcases List.mem_append.mp hx with hx | hx
  · rcases List.mem_append.mp hx with hx | hx
    · obtain ⟨l, hl, hx⟩ := List.mem_flatten.mp hx
      rw [List.eq_of_mem_replicate hl] at hx
      exact ha x hx
    · exact hb x hx
  · obtain ⟨l, hl, hx⟩ := List.mem_flatten.mp hx
    rw [List.eq_of_mem_replicate hl] at hx
    exact hc x hx
theorem spread_lenL {a b c : List Int} {k : Int} {n : Nat} (ha : a.length = n) (hb : b.length = n) (hc : c.length = n) (h0 : 0 ≤ k) (h1 : k < 32) : (spreadL a b c k).length = 32 * n := by
  unfold spreadL
  rw [List.length_append, List.length_append, KM.len_rep, KM.len_rep, ha, hb, hc]
  have e : 32 = k.toNat + 1 + (31 - k).toNat := by omega
  conv => rhs; rw [e]
  rw [Nat.add_mul, Nat.add_mul, Nat.one_mul, Nat.mul_comm n, Nat.mul_comm n]
theorem abc_eq (f g : Int → Int) (n : Nat) : ((rangeKs 0 n).map f).length = ((rangeKs 0 n).map g).length := by rw [List.length_map, List.length_map]
theorem not_in {O : List Int} (h : KBa.In O) : KBa.In (O.map fun n => 255 - n) := by
  intro x hx
  obtain ⟨n, hn, rfl⟩ := List.mem_map.mp hx
  have := h n hn
  omega
theorem spread_len64 {f g h : Int → Int} {eta k : Int} (he : 0 ≤ eta) : ((spreadL ((rangeKs 0 (2 * eta - 0).toNat).map f) ((rangeKs 0 (2 * eta - 0).toNat).map g) ((rangeKs 0 (2 * eta - 0).toNat).map h) (k.fmod 32)).length : Int) = 64 * eta := by
  rw [spread_lenL rfl (abc_eq _ _ _) (abc_eq _ _ _) (fm_lo _ (by decide)) (fm_hi _ (by decide)), List.length_map, rangeKs_length]
  omega
theorem spread_le {f g h : Int → Int} {eta k : Int} (he : 0 ≤ eta) (h6 : eta < 6) : (spreadL ((rangeKs 0 (2 * eta - 0).toNat).map f) ((rangeKs 0 (2 * eta - 0).toNat).map g) ((rangeKs 0 (2 * eta - 0).toNat).map h) (k.fmod 32)).length ≤ 16777216 := by
  have := spread_len64 (f := f) (g := g) (h := h) (k := k) he
  omega
theorem spread_le3 {f g h : Int → Int} {eta k : Int} (he : 0 ≤ eta) (h6 : eta < 6) : (spreadL ((rangeKs 0 (2 * eta - 0).toNat).map f) ((rangeKs 0 (2 * eta - 0).toNat).map g) ((rangeKs 0 (2 * eta - 0).toNat).map h) (k.fmod 32)).length ≤ 1000 := by
  have := spread_len64 (f := f) (g := g) (h := h) (k := k) he
  omega
theorem many_le {c : UInt8} {n : Int} (h0 : 0 ≤ n) (h1 : n < 500) : (KBw.bInts ((List.replicate n.toNat [c]).flatten).toArray).length ≤ 1000 := by
  have := many_len (c := c) h0
  omega
theorem neg_ne {x : Int} (l : List Int) (h : 0 ≤ x) : 64 * (0 - 1 - x) ≠ (l.length : Int) := by omega
theorem eta_in {e : Int} (h0 : 0 ≤ e) (h1 : e < 6) : -1000 < e ∧ e < 1000 := by omega
theorem neg_in {x : Int} (h0 : 0 ≤ x) (h1 : x < 3) : -1000 < 0 - 1 - x ∧ 0 - 1 - x < 1000 := by omega
theorem awayL_len2 (a b : List Int) (e : Int) : (awayL a e).length = (awayL b e).length := by rw [awayL_len, awayL_len]
local macro_rules | `(tactic| walk_at "call ref") => `(tactic| (k_here; (with_reducible show wpAny _ _ (call (Value.ref 268) _ _) _ _ _); (fail_if_success (have hns9 : NoStop := by assumption)); refine stop_here ?_))
local macro_rules | `(tactic| walk_at "call ref") => `(tactic| (k_here; (with_reducible show wpAny _ _ (call (Value.ref 452) _ _) _ _ _); refine stop_here ?_))
local macro_rules | `(tactic| walk_at "zy") => `(tactic| (k_here; (with_reducible show wpAny _ _ (call (Value.ref 452) _ _) _ _ _); k_dflt (refine' spread_c _ _ _ _ _ _ _ _ _ _ _ _ _ _ _ _ _ _ _ _ _ _ _ _ _ _ _ _ _ _ _ _ ?k1 ?k2 ?k3 ?k4 ?k5 ?kK ?m1 ?m2 ?m3 ?i1 ?i2 ?i3 ?z1 ?z2 ?z3 ?q0 ?q1 ?kd ?kR; (case k1 => k_asm); (case k2 => k_asm); (case k3 => k_asm); (case k4 => k_asm); (case k5 => k_asm); (case kK => first | exact rfl | assumption); (case m1 => k_mem); (case m2 => k_mem); (case m3 => k_mem); (case i1 => k_asm); (case i2 => k_asm); (case i3 => k_asm); (case z1 => first | exact abc_len16 _ (by assumption) (by assumption) | (rw [awayL_len]; decide)); (case z2 => first | exact abc_len16 _ (by assumption) (by assumption) | (rw [awayL_len]; decide)); (case z3 => first | exact abc_len16 _ (by assumption) (by assumption) | (rw [awayL_len]; decide)); (case q0 => exact fm_lo _ (by decide)); (case q1 => exact fm_hi _ (by decide)); (case kd => ktr_room)); intro D9 us9 h9 tk9 F9 N9 o9 i9; (try k_lt o9); (try dsimp only); (try k_fold)))
local macro_rules | `(tactic| walk_at "zz") => `(tactic| (k_here; (with_reducible show wpAny _ _ (call (Value.ref 445) _ _) _ _ _); k_dflt (refine' away_c _ _ _ _ _ _ _ _ _ _ _ _ _ _ _ _ _ _ _ _ _ _ _ _ ?k1 ?k2 ?k3 ?k4 ?k5 ?kK ?m1 ?i1 ?z1 ?q0 ?q1 ?q2 ?kd ?kR; (case k1 => k_asm); (case k2 => k_asm); (case k3 => k_asm); (case k4 => k_asm); (case k5 => k_asm); (case kK => first | exact rfl | assumption); (case m1 => k_mem); (case i1 => k_asm); (case z1 => exact abc_len _ (by assumption)); (case q0 => assumption); (case q1 => assumption); (case q2 => exact abc_in _ _); (case kd => ktr_room)); intro D9 us9 c9 h9 tk9 F9 N9 o9 i9; (try k_lt o9); (try dsimp only); (try k_fold)))
local macro_rules | `(tactic| walk_at "call ref") => `(tactic| (k_here; (with_reducible show wpAny _ _ (call (Value.ref 445) _ _) _ _ _); refine stop_here ?_))
local macro_rules | `(tactic| walk_at "call ref") => `(tactic| (k_here; (with_reducible show wpAny _ _ (call (Value.ref 287) _ _) _ _ _); refine stop_here ?_))
local macro_rules | `(tactic| walk_at "zx") => `(tactic| (k_here; (with_reducible show wpAny _ _ (call (Value.ref 287) _ _) _ _ _); k_dflt (refine' ring_c _ _ _ _ _ _ _ _ _ _ _ _ _ _ _ _ _ _ ?k1 ?k2 ?k3 ?k4 ?k5 ?kK ?kd ?kR; (case k1 => k_asm); (case k2 => k_asm); (case k3 => k_asm); (case k4 => k_asm); (case k5 => k_asm); (case kK => first | exact rfl | assumption); (case kd => ktr_room)); intro x9 dx9 z9 a1 a2 a3 a4 b1 b2 b3 b4 e1 e2 e4 f9 nd9 h9 tk9 F9 N9; (try dsimp only); (try k_fold)))
local macro_rules | `(tactic| walk_at "call type:bytes") => `(tactic| (k_here; (with_reducible show wpAny _ _ (call (Value.type "bytes") [Value.ref _]) _ _ _); k_dflt (refine' KBa.make_K ?kbaF ?kbaN ?kbah ?kbal ?kbai ?kbar ?kban ?_; (case kbaF => k_asm); (case kbaN => k_asm); (case kbah => rfl); (case kbal => kba_isList); (case kbai => k_asm); (case kbar => first | exact spread_in (abc_in _ _) (abc_in _ _) (abc_in _ _) | exact not_in (by assumption)); (case kban => first | exact spread_le (by assumption) (by assumption) | (rw [List.length_map]; exact spread_le (by assumption) (by assumption)))); intro _ _ _ F' N' kbaIn))
local macro_rules | `(tactic| walk_at "zc") => `(tactic| (k_dflt (refine' cbd_kw _ _ _ _ _ _ _ _ _ _ _ _ _ _ _ _ _ _ _ _ _ _ _ _ _ _ _ _ _ _ _ _ _ _ _ _ _ _ _ _ ?k1 ?k2 ?k3 ?k4 ?k5 ?kK ?m1 ?m2 ?i1 ?q0 ?q1 ?q2 ?kd ?kR; (case k1 => k_asm); (case k2 => k_asm); (case k3 => k_asm); (case k4 => k_asm); (case k5 => k_asm); (case kK => first | exact rfl | assumption); (case m1 => k_mem); (case m2 => k_mem); (case i1 => exact KBa.ints_make (by assumption)); (case q0 => assumption); (case q1 => assumption); (case q2 => first | exact spread_len64 (by assumption) | (rw [List.length_map]; exact spread_len64 (by assumption))); (case kd => ktr_room)); intro x9 dx9 D9 us9 c9 nq9 a1 a2 b1 b2 h9 tk9 F9 N9 i9; (try dsimp only); (try k_fold)))
local macro_rules | `(tactic| walk_at "zp") => `(tactic| (k_dflt (refine' cbd_pl _ _ _ _ _ _ _ _ _ _ _ _ _ _ _ _ _ _ _ _ _ _ _ _ _ _ _ _ _ _ _ _ _ _ _ _ _ _ _ ?k1 ?k2 ?k3 ?k4 ?k5 ?kK ?m1 ?m2 ?i1 ?q0 ?q1 ?q2 ?kd ?kR; (case k1 => k_asm); (case k2 => k_asm); (case k3 => k_asm); (case k4 => k_asm); (case k5 => k_asm); (case kK => first | exact rfl | assumption); (case m1 => k_mem); (case m2 => k_mem); (case i1 => exact KBa.ints_make (by assumption)); (case q0 => assumption); (case q1 => assumption); (case q2 => first | exact spread_len64 (by assumption) | (rw [List.length_map]; exact spread_len64 (by assumption))); (case kd => ktr_room)); intro x9 dx9 D9 us9 c9 nq9 a1 a2 b1 b2 h9 tk9 F9 N9 i9; (try dsimp only); (try k_fold)))
local macro_rules | `(tactic| walk_at "compareOp NotEq ref ref") => `(tactic| (refine stop_here ?_))
local macro_rules | `(tactic| walk_at "zn") => `(tactic| (k_dflt (refine' ne_same ?k1 ?m1 ?m2 ?i1 ?i2 ?ee ?hu ?_; (case k1 => k_asm); (case m1 => k_mem); (case m2 => k_mem); (case i1 => k_asm); (case i2 => k_asm); (case ee => exact law_up (by assumption) (by assumption) (abc_len _ (by assumption)) (abc_len _ (by assumption)) (abc_len _ (by assumption)) (abc_in _ _) (abc_in _ _) (abc_in _ _) (fm_lo _ (by decide)) (fm_hi _ (by decide))); (case hu => k_units)); (try dsimp only)))
local macro_rules | `(tactic| walk_at "zo") => `(tactic| (k_dflt (refine' ne_same ?k1 ?m1 ?m2 ?i1 ?i2 ?ee ?hu ?_; (case k1 => k_asm); (case m1 => k_mem); (case m2 => k_mem); (case i1 => k_asm); (case i2 => k_asm); (case ee => exact law_dn (by assumption) (by assumption) (abc_len _ (by assumption)) (abc_len _ (by assumption)) (abc_len _ (by assumption)) (abc_in _ _) (abc_in _ _) (abc_in _ _) (fm_lo _ (by decide)) (fm_hi _ (by decide))); (case hu => k_units)); (try dsimp only)))
local macro_rules | `(tactic| walk_at "zm") => `(tactic| (k_dflt (refine' comp_list (f := dnV) rfl (fun _ => rfl) ?h1 ?h2 rfl ?h3 rfl ?k1 ?k2 ?m1 ?i1 ?z1 ?hit ?hel ?hQ; (case h1 => decide); (case h2 => decide); (case h3 => decide); (case k1 => k_asm); (case k2 => k_asm); (case hit => (intro Q' hQ'; walk1; exact hQ')); (case m1 => k_mem); (case i1 => k_asm); (case z1 => (rw [spread_lenL rfl (awayL_len2 _ _ _) (awayL_len2 _ _ _) (fm_lo _ (by decide)) (fm_hi _ (by decide)), awayL_len, sizeLine_eq]; decide)); (case hel => exact fun C n t s₂ m₂ E' hn hv => elt_dn rfl rfl (by decide) hn hv)); intro D9 us9 c9 h9 tk9 F9 N9 o9 i9; (try dsimp only); (try k_fold)))
local macro_rules | `(tactic| walk_at "zr") => `(tactic| (k_dflt (refine' cbd_bad _ _ _ _ _ _ _ _ _ _ _ _ _ _ _ _ _ _ _ _ _ _ _ _ ?k1 ?k2 ?k3 ?k4 ?k5 ?kK ?i1 ?z1 ?q0 ?q1 ?kd ?kR; (case k1 => k_asm); (case k2 => k_asm); (case k3 => k_asm); (case k4 => k_asm); (case k5 => k_asm); (case kK => first | exact rfl | assumption); (case i1 => first | (refine KBa.ints_make ?_; assumption) | exact rfl); (case z1 => first | exact spread_le3 (by assumption) (by assumption) | exact many_le (fm_lo _ (by decide)) (fm_hi _ (by decide))); (case q0 => first | (rw [many_len (fm_lo _ (by decide))]; exact Ne.symm (by assumption)) | exact neg_ne _ (fm_lo _ (by decide))); (case q1 => first | exact eta_in (by assumption) (by assumption) | exact neg_in (fm_lo _ (by decide)) (fm_hi _ (by decide))); (case kd => ktr_room)); intro e7 g7 h7 tk7 F7 R7 U7; (try dsimp only); (refine caught_L (by k_asm) F7 U7 R7 (by k_asm) (by k_asm) ?_ rfl rfl (by passes_own)); intro h8 F8 N8; (try k_fold)))
local macro_rules | `(tactic| walk_at "zb") => `(tactic| (k_dflt (refine' comp_bytes (f := fun o => 255 - o) rfl (fun _ => rfl) ?h1 ?h2 rfl ?h3 rfl ?k1 ?k2 ?i1 ?z1 ?hit ?hel ?hQ; (case h1 => decide); (case h2 => decide); (case h3 => decide); (case k1 => k_asm); (case k2 => k_asm); (case hit => (intro Q' hQ'; walk1; exact hQ')); (case i1 => exact KBa.ints_make (by assumption)); (case z1 => (rw [sizeLine_eq]; exact spread_le (by assumption) (by assumption))); (case hel => exact fun C n t s₂ m₂ E' hn hv => elt_not rfl rfl (by decide) hn hv)); intro D9 us9 c9 h9 tk9 F9 N9 o9 i9; (try dsimp only); (try k_fold)))
local macro_rules | `(tactic| walk_at "exec Try") => `(tactic| (refine stop_here ?_))
local macro_rules | `(tactic| walk_at "eval ListComp") => `(tactic| (refine stop_here ?_))
local macro_rules | `(tactic| walk_at "zl") => `(tactic| (k_dflt (refine' comp_list (f := upV) rfl (fun _ => rfl) ?h1 ?h2 rfl ?h3 rfl ?k1 ?k2 ?m1 ?i1 ?z1 ?hit ?hel ?hQ; (case h1 => decide); (case h2 => decide); (case h3 => decide); (case k1 => k_asm); (case k2 => k_asm); (case hit => (intro Q' hQ'; walk1; exact hQ')); (case m1 => k_mem); (case i1 => k_asm); (case z1 => (rw [spread_lenL rfl (awayL_len2 _ _ _) (awayL_len2 _ _ _) (fm_lo _ (by decide)) (fm_hi _ (by decide)), awayL_len, sizeLine_eq]; decide)); (case hel => exact fun C n t s₂ m₂ E' hn hv => elt_up rfl rfl (by decide) hn hv)); intro D9 us9 c9 h9 tk9 F9 N9 o9 i9; (try dsimp only); (try k_fold)))
set_option maxRecDepth 100000 in
set_option maxHeartbeats 20000000 in
theorem t1 : PySem.Challenge.rw_yi0077_01.Holds := hd rfl rfl rfl (by
  k_with_none
  w_top off
  (k_with "call ref" => k_call_by "_law_at" lawAt (fun (_ : List Int) (i : Int) => 0 ≤ i ∧ i < 1000))
  (k_with "tree" => simp only [lawAt])
  k_go0
  all_goals try k_fold
  k_steps
  refine Stop.go ?_
  walk_at "zy"
  k_steps
  refine Stop.go ?_
  walk_at "zz"
  k_steps
  refine Stop.go ?_
  walk_at "zz"
  k_steps
  refine Stop.go ?_
  walk_at "zz"
  k_steps
  refine Stop.go ?_
  walk_at "zy"
  k_steps
  refine Stop.go ?_
  walk_at "zx"
  k_steps
  refine Stop.go ?_
  k_dflt (refine' cbd_kw _ _ _ _ _ _ _ _ _ _ _ _ _ _ _ _ _ _ _ _ _ _ _ _ _ _ _ _ _ _ _ _ _ _ _ _ _ _ _ _ ?k1 ?k2 ?k3 ?k4 ?k5 ?kK ?m1 ?m2 ?i1 ?q0 ?q1 ?q2 ?kd ?kR; (case k1 => k_asm); (case k2 => k_asm); (case k3 => k_asm); (case k4 => k_asm); (case k5 => k_asm); (case kK => first | exact rfl | assumption); (case m1 => k_mem); (case m2 => k_mem); (case i1 => exact KBa.ints_make (by assumption)); (case q0 => assumption); (case q1 => assumption); (case q2 => first | exact spread_len64 (by assumption) | (rw [List.length_map]; exact spread_len64 (by assumption))); (case kd => ktr_room))
  intro x9 dx9 D9 us9 c9 nq9 a1 a2 b1 b2 h9 tk9 F9 N9 i9
  generalize hnt : (Int.fmod (lawAt _ 1) 2 == 1) = nt at F9 N9
  (try dsimp only)
  cases nt
  · rw [if_neg (by decide)] at N9
    (try k_fold)
    k_steps
    refine Stop.go ?_
    walk_at "zl"
    k_steps
    refine Stop.go ?_
    walk_at "zn"
    k_steps
    refine Stop.go ?_
    walk_at "zb"
    k_steps
    refine Stop.go ?_
    walk_at "zp"
    k_steps
    refine Stop.go ?_
    walk_at "zm"
    k_steps
    refine Stop.go ?_
    walk_at "zo"
    k_steps
    · refine Stop.go (wpAny_Try_except ?_)
      k_steps
      refine bytes_mul_any (by simp) (Int.le_trans (by decide) (fm_lo _ (by decide))) (Int.le_trans (Int.le_of_lt (fm_hi _ (by decide))) (by decide)) (by simp) ?_
      intro t7 k7
      k_steps
      refine Stop.go ?_
      walk_at "zr"
      k_steps
      refine Stop.go (wpAny_Try_except ?_)
      k_steps
      refine Stop.go ?_
      walk_at "zr"
      k_steps
    · refine Stop.go (wpAny_Try_except ?_)
      k_steps
      refine Stop.go ?_
      walk_at "zr"
      k_steps
  · rw [if_pos rfl] at N9
    (try k_fold)
    k_steps
    refine Stop.go ?_
    walk_at "zl"
    k_steps
    refine Stop.go ?_
    walk_at "zn"
    k_steps
    refine Stop.go ?_
    walk_at "zb"
    k_steps
    refine Stop.go ?_
    walk_at "zp"
    k_steps
    refine Stop.go ?_
    walk_at "zm"
    k_steps
    refine Stop.go ?_
    walk_at "zo"
    k_steps
    · refine Stop.go (wpAny_Try_except ?_)
      k_steps
      refine bytes_mul_any (by simp) (Int.le_trans (by decide) (fm_lo _ (by decide))) (Int.le_trans (Int.le_of_lt (fm_hi _ (by decide))) (by decide)) (by simp) ?_
      intro t7 k7
      k_steps
      refine Stop.go ?_
      walk_at "zr"
      k_steps
      refine Stop.go (wpAny_Try_except ?_)
      k_steps
      refine Stop.go ?_
      walk_at "zr"
      k_steps
    · refine Stop.go (wpAny_Try_except ?_)
      k_steps
      refine Stop.go ?_
      walk_at "zr"
      k_steps)
end Mine
end

open PySem PySem.W PyProof.Rows
theorem PySem.Challenge.cw_yi0077_01_holds : PySem.Challenge.rw_yi0077_01.Holds := by
  exact Mine.t1
