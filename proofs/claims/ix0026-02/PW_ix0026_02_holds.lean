import PyProof.Rows.All
import Wide.All
import OpenK.AllK
import Wide.FinOn
import KE.KNestM
import Wide.Ends
import KE.KSorted
import OpenK.KInv2
import Lean
import PySem.Challenge.RW_ix0026_02
open PySem PySem.W PyProof.Rows
set_option Elab.async false
set_option linter.unusedVariables false
noncomputable section
open PySem PySem.W PyProof.Rows
set_option Elab.async false
set_option maxRecDepth 1000000
set_option maxHeartbeats 0
namespace Mine
/-- the text's statements, its classes' defs, their parts: read off the row's program -/
def fnAt (i : Nat) : Stmt := (PySem.Challenge.rw_ix0026_02.row.prog.main.body[i]?).getD (.Pass default)
def mtAt (i j : Nat) : Stmt := match fnAt i with
  | .ClassDef _ _ _ b .. => (b[j]?).getD (.Pass default)
  | _ => .Pass default
def psOf : Stmt → Arguments
  | .FunctionDef _ p .. => p
  | _ => default
def bdOf : Stmt → List Stmt
  | .FunctionDef _ _ b .. => b
  | _ => []
def scOf : Stmt → Scope
  | .FunctionDef _ _ _ _ _ _ sc .. => sc
  | _ => default
/-- the part of the heap that the top leaves behind: written by PrK, the defs' parts read off the program -/
noncomputable def hd.heap_39 (P : Params) : Frag := (nat_lit 2, (@PySem.Obj.mk @PySem.Value.none (@Option.none @Nat) (@PySem.Data.dict (@List.toArray @PySem.DictEntry []) 0) (@List.toArray (@Option @PySem.Value) []))) ::
  (nat_lit 3, (@PySem.Obj.mk (@PySem.Value.type "dict") (@Option.none @Nat) (@PySem.Data.dict (@List.toArray @PySem.DictEntry [(@PySem.DictEntry.mk (@PySem.PyData.keyHash P (PySem.Str.ofString "__name__")) (@PySem.Value.str (PySem.Str.ofString "__name__") 165) (@PySem.Value.str (PySem.Str.ofString "law_ix0026_02") 937)), (@PySem.DictEntry.mk (@PySem.PyData.keyHash P (PySem.Str.ofString "__doc__")) (@PySem.Value.str (PySem.Str.ofString "__doc__") 166) @PySem.Value.none), (@PySem.DictEntry.mk (@PySem.PyData.keyHash P (PySem.Str.ofString "__package__")) (@PySem.Value.str (PySem.Str.ofString "__package__") 167) @PySem.Value.none), (@PySem.DictEntry.mk (@PySem.PyData.keyHash P (PySem.Str.ofString "__loader__")) (@PySem.Value.str (PySem.Str.ofString "__loader__") 168) (@PySem.Value.builtin "__main__.__loader__#opaque")), (@PySem.DictEntry.mk (@PySem.PyData.keyHash P (PySem.Str.ofString "__spec__")) (@PySem.Value.str (PySem.Str.ofString "__spec__") 169) @PySem.Value.none), (@PySem.DictEntry.mk (@PySem.PyData.keyHash P (PySem.Str.ofString "__annotations__")) (@PySem.Value.str (PySem.Str.ofString "__annotations__") 170) (@PySem.Value.ref 6)), (@PySem.DictEntry.mk (@PySem.PyData.keyHash P (PySem.Str.ofString "__builtins__")) (@PySem.Value.str (PySem.Str.ofString "__builtins__") 171) (@PySem.Value.ref 4)), (@PySem.DictEntry.mk (@PySem.PyData.keyHash P (PySem.Str.ofString "__file__")) (@PySem.Value.str (PySem.Str.ofString "__file__") 173) (@PySem.Value.str (PySem.Str.ofString "/claim/cut.py") 172)), (@PySem.DictEntry.mk (@PySem.PyData.keyHash P (PySem.Str.ofString "__cached__")) (@PySem.Value.str (PySem.Str.ofString "__cached__") 174) @PySem.Value.none), (@PySem.DictEntry.mk (@PySem.PyData.keyHash P (PySem.Str.ofString "_wall")) (@PySem.Value.str (PySem.Str.ofString "_wall") 193) (@PySem.Value.ref 21)), (@PySem.DictEntry.mk (@PySem.PyData.keyHash P (PySem.Str.ofString "PolynomialRingGeneric")) (@PySem.Value.str (PySem.Str.ofString "PolynomialRingGeneric") 256) (@PySem.Value.ref 66)), (@PySem.DictEntry.mk (@PySem.PyData.keyHash P (PySem.Str.ofString "PolynomialGeneric")) (@PySem.Value.str (PySem.Str.ofString "PolynomialGeneric") 455) (@PySem.Value.ref 229)), (@PySem.DictEntry.mk (@PySem.PyData.keyHash P (PySem.Str.ofString "Shake")) (@PySem.Value.str (PySem.Str.ofString "Shake") 525) (@PySem.Value.ref 278)), (@PySem.DictEntry.mk (@PySem.PyData.keyHash P (PySem.Str.ofString "PolynomialRing")) (@PySem.Value.str (PySem.Str.ofString "PolynomialRing") 685) (@PySem.Value.ref 392)), (@PySem.DictEntry.mk (@PySem.PyData.keyHash P (PySem.Str.ofString "Polynomial")) (@PySem.Value.str (PySem.Str.ofString "Polynomial") 856) (@PySem.Value.ref 528)), (@PySem.DictEntry.mk (@PySem.PyData.keyHash P (PySem.Str.ofString "PolynomialNTT")) (@PySem.Value.str (PySem.Str.ofString "PolynomialNTT") 936) (@PySem.Value.ref 592)), (@PySem.DictEntry.mk (@PySem.PyData.keyHash P (PySem.Str.ofString "_law_stream")) (@PySem.Value.str (PySem.Str.ofString "_law_stream") 946) (@PySem.Value.ref 601)), (@PySem.DictEntry.mk (@PySem.PyData.keyHash P (PySem.Str.ofString "_law_turned")) (@PySem.Value.str (PySem.Str.ofString "_law_turned") 956) (@PySem.Value.ref 608)), (@PySem.DictEntry.mk (@PySem.PyData.keyHash P (PySem.Str.ofString "_law_error")) (@PySem.Value.str (PySem.Str.ofString "_law_error") 964) (@PySem.Value.ref 615)), (@PySem.DictEntry.mk (@PySem.PyData.keyHash P (PySem.Str.ofString "_law_plain")) (@PySem.Value.str (PySem.Str.ofString "_law_plain") 976) (@PySem.Value.ref 622)), (@PySem.DictEntry.mk (@PySem.PyData.keyHash P (PySem.Str.ofString "law")) (@PySem.Value.str (PySem.Str.ofString "law") 982) (@PySem.Value.ref 627))]) 21) (@List.toArray (@Option @PySem.Value) []))) ::
  (nat_lit 15, (@PySem.Obj.mk (@PySem.Value.type "tuple") (@Option.none @Nat) (@PySem.Data.seq (@List.toArray @PySem.Value []) 0) (@List.toArray (@Option @PySem.Value) []))) ::
  (nat_lit 17, (@PySem.Obj.mk (@PySem.Value.type "tuple") (@Option.none @Nat) (@PySem.Data.seq (@List.toArray @PySem.Value [(@PySem.Value.str (PySem.Str.ofString "k") 190)]) 0) (@List.toArray (@Option @PySem.Value) []))) ::
  (nat_lit 18, (@PySem.Obj.mk (@PySem.Value.type "tuple") (@Option.none @Nat) (@PySem.Data.seq (@List.toArray @PySem.Value []) 0) (@List.toArray (@Option @PySem.Value) []))) ::
  (nat_lit 41, (@PySem.Obj.mk (@PySem.Value.type "code") (@Option.none @Nat) (@PySem.Data.fields (@List.toArray @PySem.Value [(@PySem.Value.str (PySem.Str.ofString "zero") 217), (@PySem.Value.str (PySem.Str.ofString "PolynomialRingGeneric.zero") 218), (@PySem.Value.str (PySem.Str.ofString "/claim/cut.py") 219), (@PySem.Value.int (11 : Int) 0), (@PySem.Value.int (1 : Int) 0), (@PySem.Value.int (0 : Int) 0), (@PySem.Value.int (0 : Int) 0), (@PySem.Value.int (3 : Int) 0), (@PySem.Value.ref 36), (@PySem.Value.bool @Bool.true), (@PySem.Value.int (181 : Int) 0), (@PySem.Value.ref 37), @PySem.Value.none, (@PySem.Value.ref 38), (@PySem.Value.ref 39), (@PySem.Value.ref 40), (@PySem.Value.int (221 : Int) 0), (@PySem.Value.int (11 : Int) 0), (@PySem.Value.str (PySem.Str.ofString "/claim/cut.py") 222)])) (@List.toArray (@Option @PySem.Value) []))) ::
  (nat_lit 42, (@PySem.Obj.mk (@PySem.Value.type "function") (@Option.none @Nat) (@PySem.Data.func (@PySem.FuncData.mk (PySem.Str.ofString "zero") (PySem.Str.ofString "PolynomialRingGeneric.zero") (by refine' (fun (x : PSigma fun b : PySem.Arguments => b = psOf (mtAt 2 1)) => x.1) ⟨_, ?h⟩; case h => (conv => rhs; whnf)) (PySem.FuncBody.stmts (by refine' (fun (x : PSigma fun b : (List PySem.Stmt) => b = bdOf (mtAt 2 1)) => x.1) ⟨_, ?h⟩; case h => (conv => rhs; whnf))) (by refine' (fun (x : PSigma fun b : PySem.Scope => b = scOf (mtAt 2 1)) => x.1) ⟨_, ?h⟩; case h => (conv => rhs; whnf)) 3 [] @PySem.Value.none @PySem.Value.none @PySem.Value.none (@PySem.Value.str (PySem.Str.ofString "dilithium_py.polynomials.polynomials_generic") 194) (@Option.none @Nat) (@PySem.Value.ref 41) @PySem.Value.none 0)) (@List.toArray (@Option @PySem.Value) []))) ::
  (nat_lit 48, (@PySem.Obj.mk (@PySem.Value.type "code") (@Option.none @Nat) (@PySem.Data.fields (@List.toArray @PySem.Value [(@PySem.Value.str (PySem.Str.ofString "gen") 224), (@PySem.Value.str (PySem.Str.ofString "PolynomialRingGeneric.gen") 225), (@PySem.Value.str (PySem.Str.ofString "/claim/cut.py") 226), (@PySem.Value.int (14 : Int) 0), (@PySem.Value.int (1 : Int) 0), (@PySem.Value.int (0 : Int) 0), (@PySem.Value.int (0 : Int) 0), (@PySem.Value.int (3 : Int) 0), (@PySem.Value.ref 43), (@PySem.Value.bool @Bool.true), (@PySem.Value.int (181 : Int) 0), (@PySem.Value.ref 44), @PySem.Value.none, (@PySem.Value.ref 45), (@PySem.Value.ref 46), (@PySem.Value.ref 47), (@PySem.Value.int (228 : Int) 0), (@PySem.Value.int (14 : Int) 0), (@PySem.Value.str (PySem.Str.ofString "/claim/cut.py") 229)])) (@List.toArray (@Option @PySem.Value) []))) ::
  (nat_lit 49, (@PySem.Obj.mk (@PySem.Value.type "function") (@Option.none @Nat) (@PySem.Data.func (@PySem.FuncData.mk (PySem.Str.ofString "gen") (PySem.Str.ofString "PolynomialRingGeneric.gen") (by refine' (fun (x : PSigma fun b : PySem.Arguments => b = psOf (mtAt 2 2)) => x.1) ⟨_, ?h⟩; case h => (conv => rhs; whnf)) (PySem.FuncBody.stmts (by refine' (fun (x : PSigma fun b : (List PySem.Stmt) => b = bdOf (mtAt 2 2)) => x.1) ⟨_, ?h⟩; case h => (conv => rhs; whnf))) (by refine' (fun (x : PSigma fun b : PySem.Scope => b = scOf (mtAt 2 2)) => x.1) ⟨_, ?h⟩; case h => (conv => rhs; whnf)) 3 [] @PySem.Value.none @PySem.Value.none @PySem.Value.none (@PySem.Value.str (PySem.Str.ofString "dilithium_py.polynomials.polynomials_generic") 194) (@Option.none @Nat) (@PySem.Value.ref 48) @PySem.Value.none 0)) (@List.toArray (@Option @PySem.Value) []))) ::
  (nat_lit 65, (@PySem.Obj.mk (@PySem.Value.type "dict") (@Option.none @Nat) (@PySem.Data.dict (@List.toArray @PySem.DictEntry [(@PySem.DictEntry.mk (@PySem.PyData.keyHash P (PySem.Str.ofString "__module__")) (@PySem.Value.str (PySem.Str.ofString "__module__") 203) (@PySem.Value.str (PySem.Str.ofString "dilithium_py.polynomials.polynomials_generic") 194)), (@PySem.DictEntry.mk (@PySem.PyData.keyHash P (PySem.Str.ofString "__firstlineno__")) (@PySem.Value.str (PySem.Str.ofString "__firstlineno__") 207) (@PySem.Value.int (5 : Int) 206)), (@PySem.DictEntry.mk (@PySem.PyData.keyHash P (PySem.Str.ofString "__init__")) (@PySem.Value.str (PySem.Str.ofString "__init__") 216) (@PySem.Value.ref 35)), (@PySem.DictEntry.mk (@PySem.PyData.keyHash P (PySem.Str.ofString "zero")) (@PySem.Value.str (PySem.Str.ofString "zero") 223) (@PySem.Value.ref 42)), (@PySem.DictEntry.mk (@PySem.PyData.keyHash P (PySem.Str.ofString "gen")) (@PySem.Value.str (PySem.Str.ofString "gen") 230) (@PySem.Value.ref 49)), (@PySem.DictEntry.mk (@PySem.PyData.keyHash P (PySem.Str.ofString "__call__")) (@PySem.Value.str (PySem.Str.ofString "__call__") 238) (@PySem.Value.ref 56)), (@PySem.DictEntry.mk (@PySem.PyData.keyHash P (PySem.Str.ofString "is_element")) (@PySem.Value.str (PySem.Str.ofString "is_element") 246) (@PySem.Value.ref 63)), (@PySem.DictEntry.mk (@PySem.PyData.keyHash P (PySem.Str.ofString "__static_attributes__")) (@PySem.Value.str (PySem.Str.ofString "__static_attributes__") 249) (@PySem.Value.ref 64)), (@PySem.DictEntry.mk (@PySem.PyData.keyHash P (PySem.Str.ofString "__dict__")) (@PySem.Value.str (PySem.Str.ofString "__dict__") 251) (@PySem.Value.ref 67)), (@PySem.DictEntry.mk (@PySem.PyData.keyHash P (PySem.Str.ofString "__weakref__")) (@PySem.Value.str (PySem.Str.ofString "__weakref__") 253) (@PySem.Value.ref 68)), (@PySem.DictEntry.mk (@PySem.PyData.keyHash P (PySem.Str.ofString "__doc__")) (@PySem.Value.str (PySem.Str.ofString "__doc__") 254) @PySem.Value.none)]) 4) (@List.toArray (@Option @PySem.Value) []))) ::
  (nat_lit 66, (@PySem.Obj.mk (@PySem.Value.type "type") (@Option.none @Nat) (@PySem.Data.cls (@PySem.ClassData.mk (PySem.Str.ofString "PolynomialRingGeneric") [(@PySem.Value.type "object")] [(@PySem.Value.ref 66), (@PySem.Value.type "object")] 65 (PySem.Str.ofString "PolynomialRingGeneric") @Bool.true [] [(@PySem.Value.ref 392)] @Bool.false (@Option.none @Bool) @Bool.false)) (@List.toArray (@Option @PySem.Value) [(@Option.none @PySem.Value), (@Option.none @PySem.Value), (@Option.some @PySem.Value (@PySem.Value.str (PySem.Str.ofString "PolynomialRingGeneric") 196)), (@Option.some @PySem.Value (@PySem.Value.str (PySem.Str.ofString "PolynomialRingGeneric") 204)), (@Option.some @PySem.Value (@PySem.Value.builtin "object.__new__")), (@Option.some @PySem.Value (@PySem.Value.bool @Bool.true))]))) ::
  (nat_lit 67, (@PySem.Obj.mk (@PySem.Value.type "getset_descriptor") (@Option.none @Nat) (@PySem.Data.fields (@List.toArray @PySem.Value [(@PySem.Value.str (PySem.Str.ofString "__dict__") 250), (@PySem.Value.ref 66), (@PySem.Value.builtin "function.__dict__"), (@PySem.Value.builtin "function.__dict__#set")])) (@List.toArray (@Option @PySem.Value) []))) ::
  (nat_lit 68, (@PySem.Obj.mk (@PySem.Value.type "getset_descriptor") (@Option.none @Nat) (@PySem.Data.fields (@List.toArray @PySem.Value [(@PySem.Value.str (PySem.Str.ofString "__weakref__") 252), (@PySem.Value.ref 66), (@PySem.Value.builtin "ExceptionGroup.__weakref__"), @PySem.Value.none])) (@List.toArray (@Option @PySem.Value) []))) ::
  (nat_lit 90, (@PySem.Obj.mk (@PySem.Value.type "code") (@Option.none @Nat) (@PySem.Data.fields (@List.toArray @PySem.Value [(@PySem.Value.str (PySem.Str.ofString "is_zero") 278), (@PySem.Value.str (PySem.Str.ofString "PolynomialGeneric.is_zero") 279), (@PySem.Value.str (PySem.Str.ofString "/claim/cut.py") 280), (@PySem.Value.int (32 : Int) 0), (@PySem.Value.int (1 : Int) 0), (@PySem.Value.int (0 : Int) 0), (@PySem.Value.int (0 : Int) 0), (@PySem.Value.int (3 : Int) 0), (@PySem.Value.ref 85), (@PySem.Value.bool @Bool.true), (@PySem.Value.int (181 : Int) 0), (@PySem.Value.ref 86), @PySem.Value.none, (@PySem.Value.ref 87), (@PySem.Value.ref 88), (@PySem.Value.ref 89), (@PySem.Value.int (282 : Int) 0), (@PySem.Value.int (32 : Int) 0), (@PySem.Value.str (PySem.Str.ofString "/claim/cut.py") 283)])) (@List.toArray (@Option @PySem.Value) []))) ::
  (nat_lit 91, (@PySem.Obj.mk (@PySem.Value.type "function") (@Option.none @Nat) (@PySem.Data.func (@PySem.FuncData.mk (PySem.Str.ofString "is_zero") (PySem.Str.ofString "PolynomialGeneric.is_zero") (by refine' (fun (x : PSigma fun b : PySem.Arguments => b = psOf (mtAt 3 1)) => x.1) ⟨_, ?h⟩; case h => (conv => rhs; whnf)) (PySem.FuncBody.stmts (by refine' (fun (x : PSigma fun b : (List PySem.Stmt) => b = bdOf (mtAt 3 1)) => x.1) ⟨_, ?h⟩; case h => (conv => rhs; whnf))) (by refine' (fun (x : PSigma fun b : PySem.Scope => b = scOf (mtAt 3 1)) => x.1) ⟨_, ?h⟩; case h => (conv => rhs; whnf)) 3 [] @PySem.Value.none @PySem.Value.none @PySem.Value.none (@PySem.Value.str (PySem.Str.ofString "dilithium_py.polynomials.polynomials_generic") 194) (@Option.none @Nat) (@PySem.Value.ref 90) @PySem.Value.none 0)) (@List.toArray (@Option @PySem.Value) []))) ::
  (nat_lit 97, (@PySem.Obj.mk (@PySem.Value.type "code") (@Option.none @Nat) (@PySem.Data.fields (@List.toArray @PySem.Value [(@PySem.Value.str (PySem.Str.ofString "is_constant") 285), (@PySem.Value.str (PySem.Str.ofString "PolynomialGeneric.is_constant") 286), (@PySem.Value.str (PySem.Str.ofString "/claim/cut.py") 287), (@PySem.Value.int (35 : Int) 0), (@PySem.Value.int (1 : Int) 0), (@PySem.Value.int (0 : Int) 0), (@PySem.Value.int (0 : Int) 0), (@PySem.Value.int (3 : Int) 0), (@PySem.Value.ref 92), (@PySem.Value.bool @Bool.true), (@PySem.Value.int (181 : Int) 0), (@PySem.Value.ref 93), @PySem.Value.none, (@PySem.Value.ref 94), (@PySem.Value.ref 95), (@PySem.Value.ref 96), (@PySem.Value.int (289 : Int) 0), (@PySem.Value.int (35 : Int) 0), (@PySem.Value.str (PySem.Str.ofString "/claim/cut.py") 290)])) (@List.toArray (@Option @PySem.Value) []))) ::
  (nat_lit 98, (@PySem.Obj.mk (@PySem.Value.type "function") (@Option.none @Nat) (@PySem.Data.func (@PySem.FuncData.mk (PySem.Str.ofString "is_constant") (PySem.Str.ofString "PolynomialGeneric.is_constant") (by refine' (fun (x : PSigma fun b : PySem.Arguments => b = psOf (mtAt 3 2)) => x.1) ⟨_, ?h⟩; case h => (conv => rhs; whnf)) (PySem.FuncBody.stmts (by refine' (fun (x : PSigma fun b : (List PySem.Stmt) => b = bdOf (mtAt 3 2)) => x.1) ⟨_, ?h⟩; case h => (conv => rhs; whnf))) (by refine' (fun (x : PSigma fun b : PySem.Scope => b = scOf (mtAt 3 2)) => x.1) ⟨_, ?h⟩; case h => (conv => rhs; whnf)) 3 [] @PySem.Value.none @PySem.Value.none @PySem.Value.none (@PySem.Value.str (PySem.Str.ofString "dilithium_py.polynomials.polynomials_generic") 194) (@Option.none @Nat) (@PySem.Value.ref 97) @PySem.Value.none 0)) (@List.toArray (@Option @PySem.Value) []))) ::
  (nat_lit 102, (@PySem.Obj.mk (@PySem.Value.type "code") (@Option.none @Nat) (@PySem.Data.fields (@List.toArray @PySem.Value [(@PySem.Value.str (PySem.Str.ofString "_parse_coefficients") 292), (@PySem.Value.str (PySem.Str.ofString "PolynomialGeneric._parse_coefficients") 293), (@PySem.Value.str (PySem.Str.ofString "/claim/cut.py") 294), (@PySem.Value.int (38 : Int) 0), (@PySem.Value.int (2 : Int) 0), (@PySem.Value.int (0 : Int) 0), (@PySem.Value.int (0 : Int) 0), (@PySem.Value.int (3 : Int) 0), (@PySem.Value.ref 99), (@PySem.Value.bool @Bool.true), (@PySem.Value.int (181 : Int) 0), (@PySem.Value.ref 100), @PySem.Value.none, @PySem.Value.none, @PySem.Value.none, (@PySem.Value.ref 101), (@PySem.Value.int (295 : Int) 0), (@PySem.Value.int (38 : Int) 0), (@PySem.Value.str (PySem.Str.ofString "/claim/cut.py") 296)])) (@List.toArray (@Option @PySem.Value) []))) ::
  (nat_lit 103, (@PySem.Obj.mk (@PySem.Value.type "function") (@Option.none @Nat) (@PySem.Data.func (@PySem.FuncData.mk (PySem.Str.ofString "_parse_coefficients") (PySem.Str.ofString "PolynomialGeneric._parse_coefficients") (by refine' (fun (x : PSigma fun b : PySem.Arguments => b = psOf (mtAt 3 3)) => x.1) ⟨_, ?h⟩; case h => (conv => rhs; whnf)) (PySem.FuncBody.stmts (by refine' (fun (x : PSigma fun b : (List PySem.Stmt) => b = bdOf (mtAt 3 3)) => x.1) ⟨_, ?h⟩; case h => (conv => rhs; whnf))) (by refine' (fun (x : PSigma fun b : PySem.Scope => b = scOf (mtAt 3 3)) => x.1) ⟨_, ?h⟩; case h => (conv => rhs; whnf)) 3 [] @PySem.Value.none @PySem.Value.none @PySem.Value.none (@PySem.Value.str (PySem.Str.ofString "dilithium_py.polynomials.polynomials_generic") 194) (@Option.none @Nat) (@PySem.Value.ref 102) @PySem.Value.none 0)) (@List.toArray (@Option @PySem.Value) []))) ::
  (nat_lit 218, (@PySem.Obj.mk (@PySem.Value.type "code") (@Option.none @Nat) (@PySem.Data.fields (@List.toArray @PySem.Value [(@PySem.Value.str (PySem.Str.ofString "__eq__") 429), (@PySem.Value.str (PySem.Str.ofString "PolynomialGeneric.__eq__") 430), (@PySem.Value.str (PySem.Str.ofString "/claim/cut.py") 431), (@PySem.Value.int (141 : Int) 0), (@PySem.Value.int (2 : Int) 0), (@PySem.Value.int (0 : Int) 0), (@PySem.Value.int (0 : Int) 0), (@PySem.Value.int (3 : Int) 0), (@PySem.Value.ref 213), (@PySem.Value.bool @Bool.true), (@PySem.Value.int (181 : Int) 0), (@PySem.Value.ref 214), @PySem.Value.none, (@PySem.Value.ref 215), (@PySem.Value.ref 216), (@PySem.Value.ref 217), (@PySem.Value.int (434 : Int) 0), (@PySem.Value.int (141 : Int) 0), (@PySem.Value.str (PySem.Str.ofString "/claim/cut.py") 435)])) (@List.toArray (@Option @PySem.Value) []))) ::
  (nat_lit 219, (@PySem.Obj.mk (@PySem.Value.type "function") (@Option.none @Nat) (@PySem.Data.func (@PySem.FuncData.mk (PySem.Str.ofString "__eq__") (PySem.Str.ofString "PolynomialGeneric.__eq__") (by refine' (fun (x : PSigma fun b : PySem.Arguments => b = psOf (mtAt 3 21)) => x.1) ⟨_, ?h⟩; case h => (conv => rhs; whnf)) (PySem.FuncBody.stmts (by refine' (fun (x : PSigma fun b : (List PySem.Stmt) => b = bdOf (mtAt 3 21)) => x.1) ⟨_, ?h⟩; case h => (conv => rhs; whnf))) (by refine' (fun (x : PSigma fun b : PySem.Scope => b = scOf (mtAt 3 21)) => x.1) ⟨_, ?h⟩; case h => (conv => rhs; whnf)) 3 [] @PySem.Value.none @PySem.Value.none @PySem.Value.none (@PySem.Value.str (PySem.Str.ofString "dilithium_py.polynomials.polynomials_generic") 194) (@Option.none @Nat) (@PySem.Value.ref 218) @PySem.Value.none 0)) (@List.toArray (@Option @PySem.Value) []))) ::
  (nat_lit 228, (@PySem.Obj.mk (@PySem.Value.type "dict") (@Option.none @Nat) (@PySem.Data.dict (@List.toArray @PySem.DictEntry [(@PySem.DictEntry.mk (@PySem.PyData.keyHash P (PySem.Str.ofString "__module__")) (@PySem.Value.str (PySem.Str.ofString "__module__") 264) (@PySem.Value.str (PySem.Str.ofString "dilithium_py.polynomials.polynomials_generic") 194)), (@PySem.DictEntry.mk (@PySem.PyData.keyHash P (PySem.Str.ofString "__firstlineno__")) (@PySem.Value.str (PySem.Str.ofString "__firstlineno__") 268) (@PySem.Value.int (26 : Int) 267)), (@PySem.DictEntry.mk (@PySem.PyData.keyHash P (PySem.Str.ofString "__init__")) (@PySem.Value.str (PySem.Str.ofString "__init__") 277) (@PySem.Value.ref 84)), (@PySem.DictEntry.mk (@PySem.PyData.keyHash P (PySem.Str.ofString "is_zero")) (@PySem.Value.str (PySem.Str.ofString "is_zero") 284) (@PySem.Value.ref 91)), (@PySem.DictEntry.mk (@PySem.PyData.keyHash P (PySem.Str.ofString "is_constant")) (@PySem.Value.str (PySem.Str.ofString "is_constant") 291) (@PySem.Value.ref 98)), (@PySem.DictEntry.mk (@PySem.PyData.keyHash P (PySem.Str.ofString "_parse_coefficients")) (@PySem.Value.str (PySem.Str.ofString "_parse_coefficients") 297) (@PySem.Value.ref 103)), (@PySem.DictEntry.mk (@PySem.PyData.keyHash P (PySem.Str.ofString "reduce_coefficients")) (@PySem.Value.str (PySem.Str.ofString "reduce_coefficients") 304) (@PySem.Value.ref 110)), (@PySem.DictEntry.mk (@PySem.PyData.keyHash P (PySem.Str.ofString "_add_mod_q")) (@PySem.Value.str (PySem.Str.ofString "_add_mod_q") 313) (@PySem.Value.ref 117)), (@PySem.DictEntry.mk (@PySem.PyData.keyHash P (PySem.Str.ofString "_sub_mod_q")) (@PySem.Value.str (PySem.Str.ofString "_sub_mod_q") 322) (@PySem.Value.ref 124)), (@PySem.DictEntry.mk (@PySem.PyData.keyHash P (PySem.Str.ofString "_schoolbook_multiplication")) (@PySem.Value.str (PySem.Str.ofString "_schoolbook_multiplication") 328) (@PySem.Value.ref 129)), (@PySem.DictEntry.mk (@PySem.PyData.keyHash P (PySem.Str.ofString "__neg__")) (@PySem.Value.str (PySem.Str.ofString "__neg__") 334) (@PySem.Value.ref 134)), (@PySem.DictEntry.mk (@PySem.PyData.keyHash P (PySem.Str.ofString "_add_")) (@PySem.Value.str (PySem.Str.ofString "_add_") 340) (@PySem.Value.ref 139)), (@PySem.DictEntry.mk (@PySem.PyData.keyHash P (PySem.Str.ofString "__add__")) (@PySem.Value.str (PySem.Str.ofString "__add__") 349) (@PySem.Value.ref 146)), (@PySem.DictEntry.mk (@PySem.PyData.keyHash P (PySem.Str.ofString "__radd__")) (@PySem.Value.str (PySem.Str.ofString "__radd__") 357) (@PySem.Value.ref 153)), (@PySem.DictEntry.mk (@PySem.PyData.keyHash P (PySem.Str.ofString "__iadd__")) (@PySem.Value.str (PySem.Str.ofString "__iadd__") 365) (@PySem.Value.ref 160)), (@PySem.DictEntry.mk (@PySem.PyData.keyHash P (PySem.Str.ofString "_sub_")) (@PySem.Value.str (PySem.Str.ofString "_sub_") 371) (@PySem.Value.ref 165)), (@PySem.DictEntry.mk (@PySem.PyData.keyHash P (PySem.Str.ofString "__sub__")) (@PySem.Value.str (PySem.Str.ofString "__sub__") 380) (@PySem.Value.ref 172)), (@PySem.DictEntry.mk (@PySem.PyData.keyHash P (PySem.Str.ofString "__rsub__")) (@PySem.Value.str (PySem.Str.ofString "__rsub__") 388) (@PySem.Value.ref 179)), (@PySem.DictEntry.mk (@PySem.PyData.keyHash P (PySem.Str.ofString "__isub__")) (@PySem.Value.str (PySem.Str.ofString "__isub__") 396) (@PySem.Value.ref 186)), (@PySem.DictEntry.mk (@PySem.PyData.keyHash P (PySem.Str.ofString "__mul__")) (@PySem.Value.str (PySem.Str.ofString "__mul__") 402) (@PySem.Value.ref 191)), (@PySem.DictEntry.mk (@PySem.PyData.keyHash P (PySem.Str.ofString "__rmul__")) (@PySem.Value.str (PySem.Str.ofString "__rmul__") 410) (@PySem.Value.ref 198)), (@PySem.DictEntry.mk (@PySem.PyData.keyHash P (PySem.Str.ofString "__imul__")) (@PySem.Value.str (PySem.Str.ofString "__imul__") 418) (@PySem.Value.ref 205)), (@PySem.DictEntry.mk (@PySem.PyData.keyHash P (PySem.Str.ofString "__pow__")) (@PySem.Value.str (PySem.Str.ofString "__pow__") 428) (@PySem.Value.ref 212)), (@PySem.DictEntry.mk (@PySem.PyData.keyHash P (PySem.Str.ofString "__eq__")) (@PySem.Value.str (PySem.Str.ofString "__eq__") 436) (@PySem.Value.ref 219)), (@PySem.DictEntry.mk (@PySem.PyData.keyHash P (PySem.Str.ofString "__getitem__")) (@PySem.Value.str (PySem.Str.ofString "__getitem__") 444) (@PySem.Value.ref 226)), (@PySem.DictEntry.mk (@PySem.PyData.keyHash P (PySem.Str.ofString "__static_attributes__")) (@PySem.Value.str (PySem.Str.ofString "__static_attributes__") 447) (@PySem.Value.ref 227)), (@PySem.DictEntry.mk (@PySem.PyData.keyHash P (PySem.Str.ofString "__dict__")) (@PySem.Value.str (PySem.Str.ofString "__dict__") 449) (@PySem.Value.ref 230)), (@PySem.DictEntry.mk (@PySem.PyData.keyHash P (PySem.Str.ofString "__weakref__")) (@PySem.Value.str (PySem.Str.ofString "__weakref__") 451) (@PySem.Value.ref 231)), (@PySem.DictEntry.mk (@PySem.PyData.keyHash P (PySem.Str.ofString "__doc__")) (@PySem.Value.str (PySem.Str.ofString "__doc__") 452) @PySem.Value.none), (@PySem.DictEntry.mk (@PySem.PyData.keyHash P (PySem.Str.ofString "__hash__")) (@PySem.Value.str (PySem.Str.ofString "__hash__") 453) @PySem.Value.none)]) 5) (@List.toArray (@Option @PySem.Value) []))) ::
  (nat_lit 229, (@PySem.Obj.mk (@PySem.Value.type "type") (@Option.none @Nat) (@PySem.Data.cls (@PySem.ClassData.mk (PySem.Str.ofString "PolynomialGeneric") [(@PySem.Value.type "object")] [(@PySem.Value.ref 229), (@PySem.Value.type "object")] 228 (PySem.Str.ofString "PolynomialGeneric") @Bool.true [] [(@PySem.Value.ref 528)] @Bool.false (@Option.none @Bool) @Bool.false)) (@List.toArray (@Option @PySem.Value) [(@Option.none @PySem.Value), (@Option.none @PySem.Value), (@Option.some @PySem.Value (@PySem.Value.str (PySem.Str.ofString "PolynomialGeneric") 257)), (@Option.some @PySem.Value (@PySem.Value.str (PySem.Str.ofString "PolynomialGeneric") 265)), (@Option.some @PySem.Value (@PySem.Value.builtin "object.__new__")), (@Option.some @PySem.Value (@PySem.Value.bool @Bool.true))]))) ::
  (nat_lit 230, (@PySem.Obj.mk (@PySem.Value.type "getset_descriptor") (@Option.none @Nat) (@PySem.Data.fields (@List.toArray @PySem.Value [(@PySem.Value.str (PySem.Str.ofString "__dict__") 448), (@PySem.Value.ref 229), (@PySem.Value.builtin "function.__dict__"), (@PySem.Value.builtin "function.__dict__#set")])) (@List.toArray (@Option @PySem.Value) []))) ::
  (nat_lit 231, (@PySem.Obj.mk (@PySem.Value.type "getset_descriptor") (@Option.none @Nat) (@PySem.Data.fields (@List.toArray @PySem.Value [(@PySem.Value.str (PySem.Str.ofString "__weakref__") 450), (@PySem.Value.ref 229), (@PySem.Value.builtin "ExceptionGroup.__weakref__"), @PySem.Value.none])) (@List.toArray (@Option @PySem.Value) []))) ::
  (nat_lit 246, (@PySem.Obj.mk (@PySem.Value.type "code") (@Option.none @Nat) (@PySem.Data.fields (@List.toArray @PySem.Value [(@PySem.Value.str (PySem.Str.ofString "__init__") 470), (@PySem.Value.str (PySem.Str.ofString "Shake.__init__") 471), (@PySem.Value.str (PySem.Str.ofString "/claim/cut.py") 472), (@PySem.Value.int (153 : Int) 0), (@PySem.Value.int (3 : Int) 0), (@PySem.Value.int (0 : Int) 0), (@PySem.Value.int (0 : Int) 0), (@PySem.Value.int (3 : Int) 0), (@PySem.Value.ref 241), (@PySem.Value.bool @Bool.true), (@PySem.Value.int (181 : Int) 0), (@PySem.Value.ref 242), @PySem.Value.none, (@PySem.Value.ref 243), (@PySem.Value.ref 244), (@PySem.Value.ref 245), (@PySem.Value.int (476 : Int) 0), (@PySem.Value.int (153 : Int) 0), (@PySem.Value.str (PySem.Str.ofString "/claim/cut.py") 477)])) (@List.toArray (@Option @PySem.Value) []))) ::
  (nat_lit 247, (@PySem.Obj.mk (@PySem.Value.type "function") (@Option.none @Nat) (@PySem.Data.func (@PySem.FuncData.mk (PySem.Str.ofString "__init__") (PySem.Str.ofString "Shake.__init__") (by refine' (fun (x : PSigma fun b : PySem.Arguments => b = psOf (mtAt 5 0)) => x.1) ⟨_, ?h⟩; case h => (conv => rhs; whnf)) (PySem.FuncBody.stmts (by refine' (fun (x : PSigma fun b : (List PySem.Stmt) => b = bdOf (mtAt 5 0)) => x.1) ⟨_, ?h⟩; case h => (conv => rhs; whnf))) (by refine' (fun (x : PSigma fun b : PySem.Scope => b = scOf (mtAt 5 0)) => x.1) ⟨_, ?h⟩; case h => (conv => rhs; whnf)) 3 [] @PySem.Value.none @PySem.Value.none @PySem.Value.none (@PySem.Value.str (PySem.Str.ofString "dilithium_py.shake.shake_wrapper") 456) (@Option.none @Nat) (@PySem.Value.ref 246) @PySem.Value.none 0)) (@List.toArray (@Option @PySem.Value) []))) ::
  (nat_lit 277, (@PySem.Obj.mk (@PySem.Value.type "dict") (@Option.none @Nat) (@PySem.Data.dict (@List.toArray @PySem.DictEntry [(@PySem.DictEntry.mk (@PySem.PyData.keyHash P (PySem.Str.ofString "__module__")) (@PySem.Value.str (PySem.Str.ofString "__module__") 465) (@PySem.Value.str (PySem.Str.ofString "dilithium_py.shake.shake_wrapper") 456)), (@PySem.DictEntry.mk (@PySem.PyData.keyHash P (PySem.Str.ofString "__firstlineno__")) (@PySem.Value.str (PySem.Str.ofString "__firstlineno__") 469) (@PySem.Value.int (151 : Int) 468)), (@PySem.DictEntry.mk (@PySem.PyData.keyHash P (PySem.Str.ofString "__init__")) (@PySem.Value.str (PySem.Str.ofString "__init__") 478) (@PySem.Value.ref 247)), (@PySem.DictEntry.mk (@PySem.PyData.keyHash P (PySem.Str.ofString "absorb")) (@PySem.Value.str (PySem.Str.ofString "absorb") 486) (@PySem.Value.ref 254)), (@PySem.DictEntry.mk (@PySem.PyData.keyHash P (PySem.Str.ofString "xof_read")) (@PySem.Value.str (PySem.Str.ofString "xof_read") 494) (@PySem.Value.ref 261)), (@PySem.DictEntry.mk (@PySem.PyData.keyHash P (PySem.Str.ofString "read")) (@PySem.Value.str (PySem.Str.ofString "read") 503) (@PySem.Value.ref 268)), (@PySem.DictEntry.mk (@PySem.PyData.keyHash P (PySem.Str.ofString "__call__")) (@PySem.Value.str (PySem.Str.ofString "__call__") 511) (@PySem.Value.ref 275)), (@PySem.DictEntry.mk (@PySem.PyData.keyHash P (PySem.Str.ofString "__static_attributes__")) (@PySem.Value.str (PySem.Str.ofString "__static_attributes__") 518) (@PySem.Value.ref 276)), (@PySem.DictEntry.mk (@PySem.PyData.keyHash P (PySem.Str.ofString "__dict__")) (@PySem.Value.str (PySem.Str.ofString "__dict__") 520) (@PySem.Value.ref 279)), (@PySem.DictEntry.mk (@PySem.PyData.keyHash P (PySem.Str.ofString "__weakref__")) (@PySem.Value.str (PySem.Str.ofString "__weakref__") 522) (@PySem.Value.ref 280)), (@PySem.DictEntry.mk (@PySem.PyData.keyHash P (PySem.Str.ofString "__doc__")) (@PySem.Value.str (PySem.Str.ofString "__doc__") 523) @PySem.Value.none)]) 4) (@List.toArray (@Option @PySem.Value) []))) ::
  (nat_lit 278, (@PySem.Obj.mk (@PySem.Value.type "type") (@Option.none @Nat) (@PySem.Data.cls (@PySem.ClassData.mk (PySem.Str.ofString "Shake") [(@PySem.Value.type "object")] [(@PySem.Value.ref 278), (@PySem.Value.type "object")] 277 (PySem.Str.ofString "Shake") @Bool.true [] [] @Bool.false (@Option.none @Bool) @Bool.false)) (@List.toArray (@Option @PySem.Value) [(@Option.none @PySem.Value), (@Option.none @PySem.Value), (@Option.some @PySem.Value (@PySem.Value.str (PySem.Str.ofString "Shake") 458)), (@Option.some @PySem.Value (@PySem.Value.str (PySem.Str.ofString "Shake") 466)), (@Option.some @PySem.Value (@PySem.Value.builtin "object.__new__")), (@Option.some @PySem.Value (@PySem.Value.bool @Bool.true))]))) ::
  (nat_lit 279, (@PySem.Obj.mk (@PySem.Value.type "getset_descriptor") (@Option.none @Nat) (@PySem.Data.fields (@List.toArray @PySem.Value [(@PySem.Value.str (PySem.Str.ofString "__dict__") 519), (@PySem.Value.ref 278), (@PySem.Value.builtin "function.__dict__"), (@PySem.Value.builtin "function.__dict__#set")])) (@List.toArray (@Option @PySem.Value) []))) ::
  (nat_lit 280, (@PySem.Obj.mk (@PySem.Value.type "getset_descriptor") (@Option.none @Nat) (@PySem.Data.fields (@List.toArray @PySem.Value [(@PySem.Value.str (PySem.Str.ofString "__weakref__") 521), (@PySem.Value.ref 278), (@PySem.Value.builtin "ExceptionGroup.__weakref__"), @PySem.Value.none])) (@List.toArray (@Option @PySem.Value) []))) ::
  (nat_lit 293, (@PySem.Obj.mk (@PySem.Value.type "code") (@Option.none @Nat) (@PySem.Data.fields (@List.toArray @PySem.Value [(@PySem.Value.str (PySem.Str.ofString "__init__") 540), (@PySem.Value.str (PySem.Str.ofString "PolynomialRing.__init__") 541), (@PySem.Value.str (PySem.Str.ofString "/claim/cut.py") 542), (@PySem.Value.int (182 : Int) 0), (@PySem.Value.int (3 : Int) 0), (@PySem.Value.int (0 : Int) 0), (@PySem.Value.int (0 : Int) 0), (@PySem.Value.int (3 : Int) 0), (@PySem.Value.ref 290), (@PySem.Value.bool @Bool.true), (@PySem.Value.int (181 : Int) 0), (@PySem.Value.ref 291), @PySem.Value.none, @PySem.Value.none, @PySem.Value.none, (@PySem.Value.ref 292), (@PySem.Value.int (543 : Int) 0), (@PySem.Value.int (182 : Int) 0), (@PySem.Value.str (PySem.Str.ofString "/claim/cut.py") 544)])) (@List.toArray (@Option @PySem.Value) []))) ::
  (nat_lit 294, (@PySem.Obj.mk (@PySem.Value.type "function") (@Option.none @Nat) (@PySem.Data.func (@PySem.FuncData.mk (PySem.Str.ofString "__init__") (PySem.Str.ofString "PolynomialRing.__init__") (by refine' (fun (x : PSigma fun b : PySem.Arguments => b = psOf (mtAt 7 0)) => x.1) ⟨_, ?h⟩; case h => (conv => rhs; whnf)) (PySem.FuncBody.stmts (by refine' (fun (x : PSigma fun b : (List PySem.Stmt) => b = bdOf (mtAt 7 0)) => x.1) ⟨_, ?h⟩; case h => (conv => rhs; whnf))) (by refine' (fun (x : PSigma fun b : PySem.Scope => b = scOf (mtAt 7 0)) => x.1) ⟨_, ?h⟩; case h => (conv => rhs; whnf)) 3 [] @PySem.Value.none @PySem.Value.none @PySem.Value.none (@PySem.Value.str (PySem.Str.ofString "dilithium_py.polynomials.polynomials") 526) (@Option.none @Nat) (@PySem.Value.ref 293) @PySem.Value.none 0)) (@List.toArray (@Option @PySem.Value) []))) ::
  (nat_lit 300, (@PySem.Obj.mk (@PySem.Value.type "code") (@Option.none @Nat) (@PySem.Data.fields (@List.toArray @PySem.Value [(@PySem.Value.str (PySem.Str.ofString "br") 546), (@PySem.Value.str (PySem.Str.ofString "PolynomialRing.br") 547), (@PySem.Value.str (PySem.Str.ofString "/claim/cut.py") 548), (@PySem.Value.int (191 : Int) 0), (@PySem.Value.int (2 : Int) 0), (@PySem.Value.int (0 : Int) 0), (@PySem.Value.int (0 : Int) 0), (@PySem.Value.int (3 : Int) 0), (@PySem.Value.ref 295), (@PySem.Value.bool @Bool.true), (@PySem.Value.int (181 : Int) 0), (@PySem.Value.ref 296), @PySem.Value.none, (@PySem.Value.ref 297), (@PySem.Value.ref 298), (@PySem.Value.ref 299), (@PySem.Value.int (552 : Int) 0), (@PySem.Value.int (191 : Int) 0), (@PySem.Value.str (PySem.Str.ofString "/claim/cut.py") 553)])) (@List.toArray (@Option @PySem.Value) []))) ::
  (nat_lit 301, (@PySem.Obj.mk (@PySem.Value.type "function") (@Option.none @Nat) (@PySem.Data.func (@PySem.FuncData.mk (PySem.Str.ofString "br") (PySem.Str.ofString "PolynomialRing.br") (by refine' (fun (x : PSigma fun b : PySem.Arguments => b = psOf (mtAt 7 1)) => x.1) ⟨_, ?h⟩; case h => (conv => rhs; whnf)) (PySem.FuncBody.stmts (by refine' (fun (x : PSigma fun b : (List PySem.Stmt) => b = bdOf (mtAt 7 1)) => x.1) ⟨_, ?h⟩; case h => (conv => rhs; whnf))) (by refine' (fun (x : PSigma fun b : PySem.Scope => b = scOf (mtAt 7 1)) => x.1) ⟨_, ?h⟩; case h => (conv => rhs; whnf)) 3 [] @PySem.Value.none @PySem.Value.none @PySem.Value.none (@PySem.Value.str (PySem.Str.ofString "dilithium_py.polynomials.polynomials") 526) (@Option.some @Nat 304) (@PySem.Value.ref 300) @PySem.Value.none 0)) (@List.toArray (@Option @PySem.Value) []))) ::
  (nat_lit 302, (@PySem.Obj.mk (@PySem.Value.type "dict") (@Option.none @Nat) (@PySem.Data.dict (@List.toArray @PySem.DictEntry [(@PySem.DictEntry.mk (@PySem.PyData.keyHash P (PySem.Str.ofString "__module__")) (@PySem.Value.str (PySem.Str.ofString "__module__") 555) (@PySem.Value.str (PySem.Str.ofString "dilithium_py.polynomials.polynomials") 526)), (@PySem.DictEntry.mk (@PySem.PyData.keyHash P (PySem.Str.ofString "__name__")) (@PySem.Value.str (PySem.Str.ofString "__name__") 558) (@PySem.Value.str (PySem.Str.ofString "br") 557)), (@PySem.DictEntry.mk (@PySem.PyData.keyHash P (PySem.Str.ofString "__qualname__")) (@PySem.Value.str (PySem.Str.ofString "__qualname__") 561) (@PySem.Value.str (PySem.Str.ofString "PolynomialRing.br") 560)), (@PySem.DictEntry.mk (@PySem.PyData.keyHash P (PySem.Str.ofString "__doc__")) (@PySem.Value.str (PySem.Str.ofString "__doc__") 563) @PySem.Value.none), (@PySem.DictEntry.mk (@PySem.PyData.keyHash P (PySem.Str.ofString "__annotations__")) (@PySem.Value.str (PySem.Str.ofString "__annotations__") 565) (@PySem.Value.ref 304))]) 5) (@List.toArray (@Option @PySem.Value) []))) ::
  (nat_lit 303, (@PySem.Obj.mk (@PySem.Value.type "staticmethod") (@Option.some @Nat 302) (@PySem.Data.fields (@List.toArray @PySem.Value [(@PySem.Value.ref 301), (@PySem.Value.bool @Bool.false)])) (@List.toArray (@Option @PySem.Value) []))) ::
  (nat_lit 304, (@PySem.Obj.mk (@PySem.Value.type "dict") (@Option.none @Nat) (@PySem.Data.dict (@List.toArray @PySem.DictEntry []) 0) (@List.toArray (@Option @PySem.Value) []))) ::
  (nat_lit 375, (@PySem.Obj.mk (@PySem.Value.type "tuple") (@Option.none @Nat) (@PySem.Data.seq (@List.toArray @PySem.Value [(@PySem.Value.bool @Bool.false)]) 0) (@List.toArray (@Option @PySem.Value) []))) ::
  (nat_lit 381, (@PySem.Obj.mk (@PySem.Value.type "code") (@Option.none @Nat) (@PySem.Data.fields (@List.toArray @PySem.Value [(@PySem.Value.str (PySem.Str.ofString "__call__") 659), (@PySem.Value.str (PySem.Str.ofString "PolynomialRing.__call__") 660), (@PySem.Value.str (PySem.Str.ofString "/claim/cut.py") 661), (@PySem.Value.int (226 : Int) 0), (@PySem.Value.int (3 : Int) 0), (@PySem.Value.int (0 : Int) 0), (@PySem.Value.int (0 : Int) 0), (@PySem.Value.int (3 : Int) 0), (@PySem.Value.ref 376), (@PySem.Value.bool @Bool.true), (@PySem.Value.int (181 : Int) 0), (@PySem.Value.ref 377), @PySem.Value.none, (@PySem.Value.ref 378), (@PySem.Value.ref 379), (@PySem.Value.ref 380), (@PySem.Value.int (665 : Int) 0), (@PySem.Value.int (226 : Int) 0), (@PySem.Value.str (PySem.Str.ofString "/claim/cut.py") 666)])) (@List.toArray (@Option @PySem.Value) []))) ::
  (nat_lit 382, (@PySem.Obj.mk (@PySem.Value.type "function") (@Option.none @Nat) (@PySem.Data.func (@PySem.FuncData.mk (PySem.Str.ofString "__call__") (PySem.Str.ofString "PolynomialRing.__call__") (by refine' (fun (x : PSigma fun b : PySem.Arguments => b = psOf (mtAt 7 12)) => x.1) ⟨_, ?h⟩; case h => (conv => rhs; whnf)) (PySem.FuncBody.stmts (by refine' (fun (x : PSigma fun b : (List PySem.Stmt) => b = bdOf (mtAt 7 12)) => x.1) ⟨_, ?h⟩; case h => (conv => rhs; whnf))) (by refine' (fun (x : PSigma fun b : PySem.Scope => b = scOf (mtAt 7 12)) => x.1) ⟨_, ?h⟩; case h => (conv => rhs; whnf)) 3 [] (@PySem.Value.ref 375) @PySem.Value.none @PySem.Value.none (@PySem.Value.str (PySem.Str.ofString "dilithium_py.polynomials.polynomials") 526) (@Option.none @Nat) (@PySem.Value.ref 381) @PySem.Value.none 0)) (@List.toArray (@Option @PySem.Value) []))) ::
  (nat_lit 391, (@PySem.Obj.mk (@PySem.Value.type "dict") (@Option.none @Nat) (@PySem.Data.dict (@List.toArray @PySem.DictEntry [(@PySem.DictEntry.mk (@PySem.PyData.keyHash P (PySem.Str.ofString "__module__")) (@PySem.Value.str (PySem.Str.ofString "__module__") 535) (@PySem.Value.str (PySem.Str.ofString "dilithium_py.polynomials.polynomials") 526)), (@PySem.DictEntry.mk (@PySem.PyData.keyHash P (PySem.Str.ofString "__firstlineno__")) (@PySem.Value.str (PySem.Str.ofString "__firstlineno__") 539) (@PySem.Value.int (180 : Int) 538)), (@PySem.DictEntry.mk (@PySem.PyData.keyHash P (PySem.Str.ofString "__init__")) (@PySem.Value.str (PySem.Str.ofString "__init__") 545) (@PySem.Value.ref 294)), (@PySem.DictEntry.mk (@PySem.PyData.keyHash P (PySem.Str.ofString "br")) (@PySem.Value.str (PySem.Str.ofString "br") 566) (@PySem.Value.ref 303)), (@PySem.DictEntry.mk (@PySem.PyData.keyHash P (PySem.Str.ofString "sample_in_ball")) (@PySem.Value.str (PySem.Str.ofString "sample_in_ball") 575) (@PySem.Value.ref 311)), (@PySem.DictEntry.mk (@PySem.PyData.keyHash P (PySem.Str.ofString "rejection_sample_ntt_poly")) (@PySem.Value.str (PySem.Str.ofString "rejection_sample_ntt_poly") 585) (@PySem.Value.ref 318)), (@PySem.DictEntry.mk (@PySem.PyData.keyHash P (PySem.Str.ofString "rejection_bounded_poly")) (@PySem.Value.str (PySem.Str.ofString "rejection_bounded_poly") 595) (@PySem.Value.ref 325)), (@PySem.DictEntry.mk (@PySem.PyData.keyHash P (PySem.Str.ofString "sample_mask_polynomial")) (@PySem.Value.str (PySem.Str.ofString "sample_mask_polynomial") 606) (@PySem.Value.ref 332)), (@PySem.DictEntry.mk (@PySem.PyData.keyHash P (PySem.Str.ofString "_bit_unpack")) (@PySem.Value.str (PySem.Str.ofString "_bit_unpack") 615) (@PySem.Value.ref 339)), (@PySem.DictEntry.mk (@PySem.PyData.keyHash P (PySem.Str.ofString "bit_unpack_t0")) (@PySem.Value.str (PySem.Str.ofString "bit_unpack_t0") 623) (@PySem.Value.ref 346)), (@PySem.DictEntry.mk (@PySem.PyData.keyHash P (PySem.Str.ofString "bit_unpack_t1")) (@PySem.Value.str (PySem.Str.ofString "bit_unpack_t1") 631) (@PySem.Value.ref 353)), (@PySem.DictEntry.mk (@PySem.PyData.keyHash P (PySem.Str.ofString "bit_unpack_s")) (@PySem.Value.str (PySem.Str.ofString "bit_unpack_s") 640) (@PySem.Value.ref 360)), (@PySem.DictEntry.mk (@PySem.PyData.keyHash P (PySem.Str.ofString "bit_unpack_w")) (@PySem.Value.str (PySem.Str.ofString "bit_unpack_w") 649) (@PySem.Value.ref 367)), (@PySem.DictEntry.mk (@PySem.PyData.keyHash P (PySem.Str.ofString "bit_unpack_z")) (@PySem.Value.str (PySem.Str.ofString "bit_unpack_z") 658) (@PySem.Value.ref 374)), (@PySem.DictEntry.mk (@PySem.PyData.keyHash P (PySem.Str.ofString "__call__")) (@PySem.Value.str (PySem.Str.ofString "__call__") 667) (@PySem.Value.ref 382)), (@PySem.DictEntry.mk (@PySem.PyData.keyHash P (PySem.Str.ofString "is_element")) (@PySem.Value.str (PySem.Str.ofString "is_element") 675) (@PySem.Value.ref 389)), (@PySem.DictEntry.mk (@PySem.PyData.keyHash P (PySem.Str.ofString "__static_attributes__")) (@PySem.Value.str (PySem.Str.ofString "__static_attributes__") 682) (@PySem.Value.ref 390)), (@PySem.DictEntry.mk (@PySem.PyData.keyHash P (PySem.Str.ofString "__doc__")) (@PySem.Value.str (PySem.Str.ofString "__doc__") 683) @PySem.Value.none)]) 2) (@List.toArray (@Option @PySem.Value) []))) ::
  (nat_lit 392, (@PySem.Obj.mk (@PySem.Value.type "type") (@Option.none @Nat) (@PySem.Data.cls (@PySem.ClassData.mk (PySem.Str.ofString "PolynomialRing") [(@PySem.Value.ref 66)] [(@PySem.Value.ref 392), (@PySem.Value.ref 66), (@PySem.Value.type "object")] 391 (PySem.Str.ofString "PolynomialRing") @Bool.true [] [] @Bool.false (@Option.none @Bool) @Bool.false)) (@List.toArray (@Option @PySem.Value) [(@Option.some @PySem.Value (@PySem.Value.ref 283)), (@Option.none @PySem.Value), (@Option.some @PySem.Value (@PySem.Value.str (PySem.Str.ofString "PolynomialRing") 528)), (@Option.some @PySem.Value (@PySem.Value.str (PySem.Str.ofString "PolynomialRing") 536)), (@Option.some @PySem.Value (@PySem.Value.builtin "object.__new__")), (@Option.some @PySem.Value (@PySem.Value.bool @Bool.true))]))) ::
  (nat_lit 407, (@PySem.Obj.mk (@PySem.Value.type "code") (@Option.none @Nat) (@PySem.Data.fields (@List.toArray @PySem.Value [(@PySem.Value.str (PySem.Str.ofString "__init__") 698), (@PySem.Value.str (PySem.Str.ofString "Polynomial.__init__") 699), (@PySem.Value.str (PySem.Str.ofString "/claim/cut.py") 700), (@PySem.Value.int (239 : Int) 0), (@PySem.Value.int (3 : Int) 0), (@PySem.Value.int (0 : Int) 0), (@PySem.Value.int (0 : Int) 0), (@PySem.Value.int (3 : Int) 0), (@PySem.Value.ref 402), (@PySem.Value.bool @Bool.true), (@PySem.Value.int (181 : Int) 0), (@PySem.Value.ref 403), @PySem.Value.none, (@PySem.Value.ref 404), (@PySem.Value.ref 405), (@PySem.Value.ref 406), (@PySem.Value.int (704 : Int) 0), (@PySem.Value.int (239 : Int) 0), (@PySem.Value.str (PySem.Str.ofString "/claim/cut.py") 705)])) (@List.toArray (@Option @PySem.Value) []))) ::
  (nat_lit 408, (@PySem.Obj.mk (@PySem.Value.type "function") (@Option.none @Nat) (@PySem.Data.func (@PySem.FuncData.mk (PySem.Str.ofString "__init__") (PySem.Str.ofString "Polynomial.__init__") (by refine' (fun (x : PSigma fun b : PySem.Arguments => b = psOf (mtAt 8 0)) => x.1) ⟨_, ?h⟩; case h => (conv => rhs; whnf)) (PySem.FuncBody.stmts (by refine' (fun (x : PSigma fun b : (List PySem.Stmt) => b = bdOf (mtAt 8 0)) => x.1) ⟨_, ?h⟩; case h => (conv => rhs; whnf))) (by refine' (fun (x : PSigma fun b : PySem.Scope => b = scOf (mtAt 8 0)) => x.1) ⟨_, ?h⟩; case h => (conv => rhs; whnf)) 3 [] @PySem.Value.none @PySem.Value.none @PySem.Value.none (@PySem.Value.str (PySem.Str.ofString "dilithium_py.polynomials.polynomials") 526) (@Option.none @Nat) (@PySem.Value.ref 407) @PySem.Value.none 0)) (@List.toArray (@Option @PySem.Value) []))) ::
  (nat_lit 467, (@PySem.Obj.mk (@PySem.Value.type "dict") (@Option.none @Nat) (@PySem.Data.dict (@List.toArray @PySem.DictEntry [(@PySem.DictEntry.mk (@PySem.PyData.keyHash P (PySem.Str.ofString "__module__")) (@PySem.Value.str (PySem.Str.ofString "__module__") 774) (@PySem.Value.str (PySem.Str.ofString "dilithium_py.polynomials.polynomials") 526)), (@PySem.DictEntry.mk (@PySem.PyData.keyHash P (PySem.Str.ofString "__name__")) (@PySem.Value.str (PySem.Str.ofString "__name__") 777) (@PySem.Value.str (PySem.Str.ofString "_bit_pack") 776)), (@PySem.DictEntry.mk (@PySem.PyData.keyHash P (PySem.Str.ofString "__qualname__")) (@PySem.Value.str (PySem.Str.ofString "__qualname__") 780) (@PySem.Value.str (PySem.Str.ofString "Polynomial._bit_pack") 779)), (@PySem.DictEntry.mk (@PySem.PyData.keyHash P (PySem.Str.ofString "__doc__")) (@PySem.Value.str (PySem.Str.ofString "__doc__") 782) @PySem.Value.none), (@PySem.DictEntry.mk (@PySem.PyData.keyHash P (PySem.Str.ofString "__annotations__")) (@PySem.Value.str (PySem.Str.ofString "__annotations__") 784) (@PySem.Value.ref 469))]) 5) (@List.toArray (@Option @PySem.Value) []))) ::
  (nat_lit 468, (@PySem.Obj.mk (@PySem.Value.type "staticmethod") (@Option.some @Nat 467) (@PySem.Data.fields (@List.toArray @PySem.Value [(@PySem.Value.ref 466), (@PySem.Value.bool @Bool.false)])) (@List.toArray (@Option @PySem.Value) []))) ::
  (nat_lit 469, (@PySem.Obj.mk (@PySem.Value.type "dict") (@Option.none @Nat) (@PySem.Data.dict (@List.toArray @PySem.DictEntry []) 0) (@List.toArray (@Option @PySem.Value) []))) ::
  (nat_lit 527, (@PySem.Obj.mk (@PySem.Value.type "dict") (@Option.none @Nat) (@PySem.Data.dict (@List.toArray @PySem.DictEntry [(@PySem.DictEntry.mk (@PySem.PyData.keyHash P (PySem.Str.ofString "__module__")) (@PySem.Value.str (PySem.Str.ofString "__module__") 693) (@PySem.Value.str (PySem.Str.ofString "dilithium_py.polynomials.polynomials") 526)), (@PySem.DictEntry.mk (@PySem.PyData.keyHash P (PySem.Str.ofString "__firstlineno__")) (@PySem.Value.str (PySem.Str.ofString "__firstlineno__") 697) (@PySem.Value.int (237 : Int) 696)), (@PySem.DictEntry.mk (@PySem.PyData.keyHash P (PySem.Str.ofString "__init__")) (@PySem.Value.str (PySem.Str.ofString "__init__") 706) (@PySem.Value.ref 408)), (@PySem.DictEntry.mk (@PySem.PyData.keyHash P (PySem.Str.ofString "to_ntt")) (@PySem.Value.str (PySem.Str.ofString "to_ntt") 713) (@PySem.Value.ref 415)), (@PySem.DictEntry.mk (@PySem.PyData.keyHash P (PySem.Str.ofString "from_ntt")) (@PySem.Value.str (PySem.Str.ofString "from_ntt") 720) (@PySem.Value.ref 422)), (@PySem.DictEntry.mk (@PySem.PyData.keyHash P (PySem.Str.ofString "power_2_round")) (@PySem.Value.str (PySem.Str.ofString "power_2_round") 728) (@PySem.Value.ref 429)), (@PySem.DictEntry.mk (@PySem.PyData.keyHash P (PySem.Str.ofString "high_bits")) (@PySem.Value.str (PySem.Str.ofString "high_bits") 737) (@PySem.Value.ref 437)), (@PySem.DictEntry.mk (@PySem.PyData.keyHash P (PySem.Str.ofString "low_bits")) (@PySem.Value.str (PySem.Str.ofString "low_bits") 746) (@PySem.Value.ref 445)), (@PySem.DictEntry.mk (@PySem.PyData.keyHash P (PySem.Str.ofString "decompose")) (@PySem.Value.str (PySem.Str.ofString "decompose") 755) (@PySem.Value.ref 452)), (@PySem.DictEntry.mk (@PySem.PyData.keyHash P (PySem.Str.ofString "check_norm_bound")) (@PySem.Value.str (PySem.Str.ofString "check_norm_bound") 763) (@PySem.Value.ref 459)), (@PySem.DictEntry.mk (@PySem.PyData.keyHash P (PySem.Str.ofString "_bit_pack")) (@PySem.Value.str (PySem.Str.ofString "_bit_pack") 785) (@PySem.Value.ref 468)), (@PySem.DictEntry.mk (@PySem.PyData.keyHash P (PySem.Str.ofString "bit_pack_t0")) (@PySem.Value.str (PySem.Str.ofString "bit_pack_t0") 792) (@PySem.Value.ref 476)), (@PySem.DictEntry.mk (@PySem.PyData.keyHash P (PySem.Str.ofString "bit_pack_t1")) (@PySem.Value.str (PySem.Str.ofString "bit_pack_t1") 799) (@PySem.Value.ref 483)), (@PySem.DictEntry.mk (@PySem.PyData.keyHash P (PySem.Str.ofString "bit_pack_s")) (@PySem.Value.str (PySem.Str.ofString "bit_pack_s") 807) (@PySem.Value.ref 490)), (@PySem.DictEntry.mk (@PySem.PyData.keyHash P (PySem.Str.ofString "bit_pack_w")) (@PySem.Value.str (PySem.Str.ofString "bit_pack_w") 815) (@PySem.Value.ref 497)), (@PySem.DictEntry.mk (@PySem.PyData.keyHash P (PySem.Str.ofString "bit_pack_z")) (@PySem.Value.str (PySem.Str.ofString "bit_pack_z") 823) (@PySem.Value.ref 504)), (@PySem.DictEntry.mk (@PySem.PyData.keyHash P (PySem.Str.ofString "make_hint")) (@PySem.Value.str (PySem.Str.ofString "make_hint") 832) (@PySem.Value.ref 511)), (@PySem.DictEntry.mk (@PySem.PyData.keyHash P (PySem.Str.ofString "make_hint_optimised")) (@PySem.Value.str (PySem.Str.ofString "make_hint_optimised") 841) (@PySem.Value.ref 518)), (@PySem.DictEntry.mk (@PySem.PyData.keyHash P (PySem.Str.ofString "use_hint")) (@PySem.Value.str (PySem.Str.ofString "use_hint") 850) (@PySem.Value.ref 525)), (@PySem.DictEntry.mk (@PySem.PyData.keyHash P (PySem.Str.ofString "__static_attributes__")) (@PySem.Value.str (PySem.Str.ofString "__static_attributes__") 853) (@PySem.Value.ref 526)), (@PySem.DictEntry.mk (@PySem.PyData.keyHash P (PySem.Str.ofString "__doc__")) (@PySem.Value.str (PySem.Str.ofString "__doc__") 854) @PySem.Value.none)]) 2) (@List.toArray (@Option @PySem.Value) []))) ::
  (nat_lit 528, (@PySem.Obj.mk (@PySem.Value.type "type") (@Option.none @Nat) (@PySem.Data.cls (@PySem.ClassData.mk (PySem.Str.ofString "Polynomial") [(@PySem.Value.ref 229)] [(@PySem.Value.ref 528), (@PySem.Value.ref 229), (@PySem.Value.type "object")] 527 (PySem.Str.ofString "Polynomial") @Bool.true [] [(@PySem.Value.ref 592)] @Bool.false (@Option.none @Bool) @Bool.false)) (@List.toArray (@Option @PySem.Value) [(@Option.some @PySem.Value (@PySem.Value.ref 395)), (@Option.none @PySem.Value), (@Option.some @PySem.Value (@PySem.Value.str (PySem.Str.ofString "Polynomial") 686)), (@Option.some @PySem.Value (@PySem.Value.str (PySem.Str.ofString "Polynomial") 694)), (@Option.some @PySem.Value (@PySem.Value.builtin "object.__new__")), (@Option.some @PySem.Value (@PySem.Value.bool @Bool.true))]))) ::
  (nat_lit 591, (@PySem.Obj.mk (@PySem.Value.type "dict") (@Option.none @Nat) (@PySem.Data.dict (@List.toArray @PySem.DictEntry [(@PySem.DictEntry.mk (@PySem.PyData.keyHash P (PySem.Str.ofString "__module__")) (@PySem.Value.str (PySem.Str.ofString "__module__") 864) (@PySem.Value.str (PySem.Str.ofString "dilithium_py.polynomials.polynomials") 526)), (@PySem.DictEntry.mk (@PySem.PyData.keyHash P (PySem.Str.ofString "__firstlineno__")) (@PySem.Value.str (PySem.Str.ofString "__firstlineno__") 868) (@PySem.Value.int (293 : Int) 867)), (@PySem.DictEntry.mk (@PySem.PyData.keyHash P (PySem.Str.ofString "__init__")) (@PySem.Value.str (PySem.Str.ofString "__init__") 877) (@PySem.Value.ref 544)), (@PySem.DictEntry.mk (@PySem.PyData.keyHash P (PySem.Str.ofString "to_ntt")) (@PySem.Value.str (PySem.Str.ofString "to_ntt") 884) (@PySem.Value.ref 551)), (@PySem.DictEntry.mk (@PySem.PyData.keyHash P (PySem.Str.ofString "from_ntt")) (@PySem.Value.str (PySem.Str.ofString "from_ntt") 891) (@PySem.Value.ref 558)), (@PySem.DictEntry.mk (@PySem.PyData.keyHash P (PySem.Str.ofString "ntt_coefficient_multiplication")) (@PySem.Value.str (PySem.Str.ofString "ntt_coefficient_multiplication") 897) (@PySem.Value.ref 563)), (@PySem.DictEntry.mk (@PySem.PyData.keyHash P (PySem.Str.ofString "ntt_multiplication")) (@PySem.Value.str (PySem.Str.ofString "ntt_multiplication") 906) (@PySem.Value.ref 570)), (@PySem.DictEntry.mk (@PySem.PyData.keyHash P (PySem.Str.ofString "__add__")) (@PySem.Value.str (PySem.Str.ofString "__add__") 915) (@PySem.Value.ref 577)), (@PySem.DictEntry.mk (@PySem.PyData.keyHash P (PySem.Str.ofString "__sub__")) (@PySem.Value.str (PySem.Str.ofString "__sub__") 924) (@PySem.Value.ref 584)), (@PySem.DictEntry.mk (@PySem.PyData.keyHash P (PySem.Str.ofString "__mul__")) (@PySem.Value.str (PySem.Str.ofString "__mul__") 930) (@PySem.Value.ref 589)), (@PySem.DictEntry.mk (@PySem.PyData.keyHash P (PySem.Str.ofString "__static_attributes__")) (@PySem.Value.str (PySem.Str.ofString "__static_attributes__") 933) (@PySem.Value.ref 590)), (@PySem.DictEntry.mk (@PySem.PyData.keyHash P (PySem.Str.ofString "__doc__")) (@PySem.Value.str (PySem.Str.ofString "__doc__") 934) @PySem.Value.none)]) 2) (@List.toArray (@Option @PySem.Value) []))) ::
  (nat_lit 592, (@PySem.Obj.mk (@PySem.Value.type "type") (@Option.none @Nat) (@PySem.Data.cls (@PySem.ClassData.mk (PySem.Str.ofString "PolynomialNTT") [(@PySem.Value.ref 528)] [(@PySem.Value.ref 592), (@PySem.Value.ref 528), (@PySem.Value.ref 229), (@PySem.Value.type "object")] 591 (PySem.Str.ofString "PolynomialNTT") @Bool.true [] [] @Bool.false (@Option.none @Bool) @Bool.false)) (@List.toArray (@Option @PySem.Value) [(@Option.some @PySem.Value (@PySem.Value.ref 531)), (@Option.none @PySem.Value), (@Option.some @PySem.Value (@PySem.Value.str (PySem.Str.ofString "PolynomialNTT") 857)), (@Option.some @PySem.Value (@PySem.Value.str (PySem.Str.ofString "PolynomialNTT") 865)), (@Option.some @PySem.Value (@PySem.Value.builtin "object.__new__")), (@Option.some @PySem.Value (@PySem.Value.bool @Bool.true))]))) ::
  (nat_lit 600, (@PySem.Obj.mk (@PySem.Value.type "code") (@Option.none @Nat) (@PySem.Data.fields (@List.toArray @PySem.Value [(@PySem.Value.str (PySem.Str.ofString "_law_stream") 939), (@PySem.Value.str (PySem.Str.ofString "_law_stream") 940), (@PySem.Value.str (PySem.Str.ofString "/claim/cut.py") 941), (@PySem.Value.int (331 : Int) 0), (@PySem.Value.int (2 : Int) 0), (@PySem.Value.int (0 : Int) 0), (@PySem.Value.int (0 : Int) 0), (@PySem.Value.int (3 : Int) 0), (@PySem.Value.ref 595), (@PySem.Value.bool @Bool.true), (@PySem.Value.int (181 : Int) 0), (@PySem.Value.ref 596), @PySem.Value.none, (@PySem.Value.ref 597), (@PySem.Value.ref 598), (@PySem.Value.ref 599), (@PySem.Value.int (944 : Int) 0), (@PySem.Value.int (331 : Int) 0), (@PySem.Value.str (PySem.Str.ofString "/claim/cut.py") 945)])) (@List.toArray (@Option @PySem.Value) []))) ::
  (nat_lit 601, (@PySem.Obj.mk (@PySem.Value.type "function") (@Option.none @Nat) (@PySem.Data.func (@PySem.FuncData.mk (PySem.Str.ofString "_law_stream") (PySem.Str.ofString "_law_stream") (by refine' (fun (x : PSigma fun b : PySem.Arguments => b = psOf (fnAt 11)) => x.1) ⟨_, ?h⟩; case h => (conv => rhs; whnf)) (PySem.FuncBody.stmts (by refine' (fun (x : PSigma fun b : (List PySem.Stmt) => b = bdOf (fnAt 11)) => x.1) ⟨_, ?h⟩; case h => (conv => rhs; whnf))) (by refine' (fun (x : PSigma fun b : PySem.Scope => b = scOf (fnAt 11)) => x.1) ⟨_, ?h⟩; case h => (conv => rhs; whnf)) 3 [] @PySem.Value.none @PySem.Value.none @PySem.Value.none (@PySem.Value.str (PySem.Str.ofString "law_ix0026_02") 937) (@Option.none @Nat) (@PySem.Value.ref 600) @PySem.Value.none 0)) (@List.toArray (@Option @PySem.Value) []))) ::
  (nat_lit 607, (@PySem.Obj.mk (@PySem.Value.type "code") (@Option.none @Nat) (@PySem.Data.fields (@List.toArray @PySem.Value [(@PySem.Value.str (PySem.Str.ofString "_law_turned") 947), (@PySem.Value.str (PySem.Str.ofString "_law_turned") 948), (@PySem.Value.str (PySem.Str.ofString "/claim/cut.py") 949), (@PySem.Value.int (333 : Int) 0), (@PySem.Value.int (2 : Int) 0), (@PySem.Value.int (0 : Int) 0), (@PySem.Value.int (0 : Int) 0), (@PySem.Value.int (3 : Int) 0), (@PySem.Value.ref 602), (@PySem.Value.bool @Bool.true), (@PySem.Value.int (181 : Int) 0), (@PySem.Value.ref 603), @PySem.Value.none, (@PySem.Value.ref 604), (@PySem.Value.ref 605), (@PySem.Value.ref 606), (@PySem.Value.int (954 : Int) 0), (@PySem.Value.int (333 : Int) 0), (@PySem.Value.str (PySem.Str.ofString "/claim/cut.py") 955)])) (@List.toArray (@Option @PySem.Value) []))) ::
  (nat_lit 608, (@PySem.Obj.mk (@PySem.Value.type "function") (@Option.none @Nat) (@PySem.Data.func (@PySem.FuncData.mk (PySem.Str.ofString "_law_turned") (PySem.Str.ofString "_law_turned") (by refine' (fun (x : PSigma fun b : PySem.Arguments => b = psOf (fnAt 12)) => x.1) ⟨_, ?h⟩; case h => (conv => rhs; whnf)) (PySem.FuncBody.stmts (by refine' (fun (x : PSigma fun b : (List PySem.Stmt) => b = bdOf (fnAt 12)) => x.1) ⟨_, ?h⟩; case h => (conv => rhs; whnf))) (by refine' (fun (x : PSigma fun b : PySem.Scope => b = scOf (fnAt 12)) => x.1) ⟨_, ?h⟩; case h => (conv => rhs; whnf)) 3 [] @PySem.Value.none @PySem.Value.none @PySem.Value.none (@PySem.Value.str (PySem.Str.ofString "law_ix0026_02") 937) (@Option.none @Nat) (@PySem.Value.ref 607) @PySem.Value.none 0)) (@List.toArray (@Option @PySem.Value) []))) ::
  (nat_lit 614, (@PySem.Obj.mk (@PySem.Value.type "code") (@Option.none @Nat) (@PySem.Data.fields (@List.toArray @PySem.Value [(@PySem.Value.str (PySem.Str.ofString "_law_error") 957), (@PySem.Value.str (PySem.Str.ofString "_law_error") 958), (@PySem.Value.str (PySem.Str.ofString "/claim/cut.py") 959), (@PySem.Value.int (338 : Int) 0), (@PySem.Value.int (2 : Int) 0), (@PySem.Value.int (0 : Int) 0), (@PySem.Value.int (0 : Int) 0), (@PySem.Value.int (3 : Int) 0), (@PySem.Value.ref 609), (@PySem.Value.bool @Bool.true), (@PySem.Value.int (181 : Int) 0), (@PySem.Value.ref 610), @PySem.Value.none, (@PySem.Value.ref 611), (@PySem.Value.ref 612), (@PySem.Value.ref 613), (@PySem.Value.int (962 : Int) 0), (@PySem.Value.int (338 : Int) 0), (@PySem.Value.str (PySem.Str.ofString "/claim/cut.py") 963)])) (@List.toArray (@Option @PySem.Value) []))) ::
  (nat_lit 615, (@PySem.Obj.mk (@PySem.Value.type "function") (@Option.none @Nat) (@PySem.Data.func (@PySem.FuncData.mk (PySem.Str.ofString "_law_error") (PySem.Str.ofString "_law_error") (by refine' (fun (x : PSigma fun b : PySem.Arguments => b = psOf (fnAt 13)) => x.1) ⟨_, ?h⟩; case h => (conv => rhs; whnf)) (PySem.FuncBody.stmts (by refine' (fun (x : PSigma fun b : (List PySem.Stmt) => b = bdOf (fnAt 13)) => x.1) ⟨_, ?h⟩; case h => (conv => rhs; whnf))) (by refine' (fun (x : PSigma fun b : PySem.Scope => b = scOf (fnAt 13)) => x.1) ⟨_, ?h⟩; case h => (conv => rhs; whnf)) 3 [] @PySem.Value.none @PySem.Value.none @PySem.Value.none (@PySem.Value.str (PySem.Str.ofString "law_ix0026_02") 937) (@Option.none @Nat) (@PySem.Value.ref 614) @PySem.Value.none 0)) (@List.toArray (@Option @PySem.Value) []))) ::
  (nat_lit 621, (@PySem.Obj.mk (@PySem.Value.type "code") (@Option.none @Nat) (@PySem.Data.fields (@List.toArray @PySem.Value [(@PySem.Value.str (PySem.Str.ofString "_law_plain") 965), (@PySem.Value.str (PySem.Str.ofString "_law_plain") 966), (@PySem.Value.str (PySem.Str.ofString "/claim/cut.py") 967), (@PySem.Value.int (346 : Int) 0), (@PySem.Value.int (3 : Int) 0), (@PySem.Value.int (0 : Int) 0), (@PySem.Value.int (0 : Int) 0), (@PySem.Value.int (3 : Int) 0), (@PySem.Value.ref 616), (@PySem.Value.bool @Bool.true), (@PySem.Value.int (181 : Int) 0), (@PySem.Value.ref 617), @PySem.Value.none, (@PySem.Value.ref 618), (@PySem.Value.ref 619), (@PySem.Value.ref 620), (@PySem.Value.int (974 : Int) 0), (@PySem.Value.int (346 : Int) 0), (@PySem.Value.str (PySem.Str.ofString "/claim/cut.py") 975)])) (@List.toArray (@Option @PySem.Value) []))) ::
  (nat_lit 622, (@PySem.Obj.mk (@PySem.Value.type "function") (@Option.none @Nat) (@PySem.Data.func (@PySem.FuncData.mk (PySem.Str.ofString "_law_plain") (PySem.Str.ofString "_law_plain") (by refine' (fun (x : PSigma fun b : PySem.Arguments => b = psOf (fnAt 14)) => x.1) ⟨_, ?h⟩; case h => (conv => rhs; whnf)) (PySem.FuncBody.stmts (by refine' (fun (x : PSigma fun b : (List PySem.Stmt) => b = bdOf (fnAt 14)) => x.1) ⟨_, ?h⟩; case h => (conv => rhs; whnf))) (by refine' (fun (x : PSigma fun b : PySem.Scope => b = scOf (fnAt 14)) => x.1) ⟨_, ?h⟩; case h => (conv => rhs; whnf)) 3 [] @PySem.Value.none @PySem.Value.none @PySem.Value.none (@PySem.Value.str (PySem.Str.ofString "law_ix0026_02") 937) (@Option.none @Nat) (@PySem.Value.ref 621) @PySem.Value.none 0)) (@List.toArray (@Option @PySem.Value) []))) ::
  (nat_lit 626, (@PySem.Obj.mk (@PySem.Value.type "code") (@Option.none @Nat) (@PySem.Data.fields (@List.toArray @PySem.Value [(@PySem.Value.str (PySem.Str.ofString "law") 977), (@PySem.Value.str (PySem.Str.ofString "law") 978), (@PySem.Value.str (PySem.Str.ofString "/claim/cut.py") 979), (@PySem.Value.int (357 : Int) 0), (@PySem.Value.int (1 : Int) 0), (@PySem.Value.int (0 : Int) 0), (@PySem.Value.int (0 : Int) 0), (@PySem.Value.int (3 : Int) 0), (@PySem.Value.ref 623), (@PySem.Value.bool @Bool.true), (@PySem.Value.int (181 : Int) 0), (@PySem.Value.ref 624), @PySem.Value.none, @PySem.Value.none, @PySem.Value.none, (@PySem.Value.ref 625), (@PySem.Value.int (980 : Int) 0), (@PySem.Value.int (357 : Int) 0), (@PySem.Value.str (PySem.Str.ofString "/claim/cut.py") 981)])) (@List.toArray (@Option @PySem.Value) []))) ::
  (nat_lit 627, (@PySem.Obj.mk (@PySem.Value.type "function") (@Option.none @Nat) (@PySem.Data.func (@PySem.FuncData.mk (PySem.Str.ofString "law") (PySem.Str.ofString "law") (by refine' (fun (x : PSigma fun b : PySem.Arguments => b = psOf (fnAt 15)) => x.1) ⟨_, ?h⟩; case h => (conv => rhs; whnf)) (PySem.FuncBody.stmts (by refine' (fun (x : PSigma fun b : (List PySem.Stmt) => b = bdOf (fnAt 15)) => x.1) ⟨_, ?h⟩; case h => (conv => rhs; whnf))) (by refine' (fun (x : PSigma fun b : PySem.Scope => b = scOf (fnAt 15)) => x.1) ⟨_, ?h⟩; case h => (conv => rhs; whnf)) 3 [] @PySem.Value.none @PySem.Value.none @PySem.Value.none (@PySem.Value.str (PySem.Str.ofString "law_ix0026_02") 937) (@Option.none @Nat) (@PySem.Value.ref 626) @PySem.Value.none 0)) (@List.toArray (@Option @PySem.Value) []))) :: []
/-- the statements of the top that the names are held to -/
noncomputable def hd.view_39 : Program := view PySem.Challenge.rw_ix0026_02.row.prog [0, 2, 3, 5, 7, 8, 9, 11, 12, 13, 14, 15]
end Mine
end
noncomputable section
open PySem PySem.W PyProof.Rows
set_option Elab.async false
set_option maxRecDepth 100000
namespace Mine
/-- the run of the top over a tree of objects, told as far as it is through -/
def runT (tb : String → Option Builtin) (p : Program) (w : World) (n₀ : Nat) (ann : Option Value) : Nat → SharedT → Thread → Option SharedT
  | 0, _, _ => none
  | n + 1, s, t => match through t with
    | true => some s
    | false => match stepOk n₀ ann t with
      | false => none
      | true => match stepT (denote tb) p w s t with
        | some (s', t') => runT tb p w n₀ ann n s' t'
        | none => none
theorem runT_abs {tb : String → Option Builtin} {p : Program} {w : World} {n₀ : Nat} {ann : Option Value} : ∀ {n : Nat} {s s' : SharedT} {t : Thread}, runT tb p w n₀ ann n s t = some s' → topRun tb p w n₀ ann n s.abs t = some s'.abs
  | 0, _, _, _, h => by cases h
  | n + 1, s, s', t, h => by
    unfold runT at h
    unfold topRun
    cases he : through t with
    | true => rw [he] at h; cases h; rfl
    | false =>
      rw [he] at h
      cases hk : stepOk n₀ ann t with
      | false => rw [hk] at h; cases h
      | true =>
        rw [hk] at h
        cases hs : stepT (denote tb) p w s t with
        | none => rw [hs] at h; cases h
        | some r => obtain ⟨s₂, t₂⟩ := r; rw [hs] at h; rw [stepT_spec hs]; exact runT_abs h
def treeOf (l : List Obj) : BT := (l.foldl (fun (q : BT × Nat) o => (q.1.ins q.2 o, q.2 + 1)) (BT.nil, 0)).1
theorem left_tree {p q : Program} {loose : List Str} {Xt : Shared → Bool} {α : Type} {Yf : Shared → α} {Ya : World → α} {N : Nat} {g0 : Bool} {m₀ : Nat} {ann : Option Value} {T0 : Params → BT} {n0 : Nat} {life0 : Params → Life}
    (hT : ∀ P, absHeap (T0 P) n0 (life0 P) = boot_heap P)
    (open_ : ∀ w : World, (fencedOpening treeTable p w N).map (fun s => (s.heap, s.gens, s.drawn, s.toks)) = some (boot_heap w.params, Array.mk [], boot_drawn, boot_toks))
    (size : ∀ w : World, ((boot_heap w.params).isNs mainGlobals && (Array.mk [] : Array GenState).size == 0, (boot_heap w.params).objs.size, (boot_heap w.params).nsMap mainGlobals "__annotations__") = (true, m₀, ann))
    (run : ∀ (w : World) (os : OsState), (runT treeTable p w m₀ ann N ⟨T0 w.params, n0, life0 w.params, Array.mk [], boot_drawn, boot_toks, os⟩ (topStub p)).map (fun s =>
      ((staticsOk (importedModules p.main.body) (boot_heap w.params) s.abs.heap && namesBound p s.abs.heap && gensDone s.abs && laidKept (boot_heap w.params) s.abs.heap),
        openSeen q loose (importedModules p.main.body) Xt g0 s.abs, Yf s.abs)) = some (true, openGood q loose, Ya w)) : LeftO p q loose Xt Yf Ya N g0 := fun w => by
  obtain ⟨⟨h, gs, d, k, os⟩, e, e'⟩ := Option.map_eq_some_iff.mp (open_ w)
  obtain ⟨rfl, rfl, rfl, rfl⟩ : h = boot_heap w.params ∧ gs = Array.mk [] ∧ d = boot_drawn ∧ k = boot_toks := by simpa using e'
  obtain ⟨z1, z2, z3⟩ : _ ∧ _ ∧ _ := by simpa only [Prod.mk.injEq] using size w
  obtain ⟨s, hs, hl⟩ := Option.map_eq_some_iff.mp (run w os)
  obtain ⟨l1, l2, l3⟩ : _ ∧ _ ∧ _ := by simpa only [Prod.mk.injEq] using hl
  have r := runT_abs hs
  unfold SharedT.abs at r
  dsimp only at r
  rw [hT] at r
  have t : topFrom treeTable p w N ⟨boot_heap w.params, Array.mk [], boot_drawn, boot_toks, os⟩ = some s.abs := by
    unfold topFrom
    dsimp only
    rw [z1, z2, z3, r]
    show (match staticsOk (importedModules p.main.body) (boot_heap w.params) s.abs.heap && namesBound p s.abs.heap && gensDone s.abs && laidKept (boot_heap w.params) s.abs.heap with | true => _ | false => _) = _
    rw [l1]
    rfl
  unfold openEnds
  rw [e]
  show (topFrom treeTable p w N _).map _ = _
  rw [t]
  exact congrArg some (Prod.ext l2 l3)
/-- the boot's objects as a tree -/
noncomputable def bootT (P : Params) : BT := treeOf (boot_heap P).objs.toList
end Mine
end
noncomputable section
open PySem PySem.W PyProof.Rows
set_option Elab.async false
set_option maxRecDepth 1000000
set_option maxHeartbeats 0
namespace Mine
theorem boot_tree (P : Params) : absHeap (bootT P) 11 (boot_heap P).life = boot_heap P := by kernel_rfl
noncomputable abbrev hkT : Hook := kmHook hd.heap_39 [2, 3, 15, 17, 18, 41, 42, 48, 49, 65, 66, 67, 68, 90, 91, 97, 98, 102, 103, 218, 219, 228, 229, 230, 231, 246, 247, 277, 278, 279, 280, 293, 294, 300, 301, 302, 303, 304, 375, 381, 382, 391, 392, 407, 408, 467, 468, 469, 527, 528, 591, 592, 600, 601, 607, 608, 614, 615, 621, 622, 626, 627] (fun _ => by kernel_rfl) [86, 93]
/-- the whole run of the top: one reckoning by the kernel -/
theorem left_run (w : World) (os : OsState) : (runT treeTable PySem.Challenge.rw_ix0026_02.row.prog w 11 (some (.ref 6)) 8172 ⟨bootT w.params, 11, (boot_heap w.params).life, Array.mk [], boot_drawn, boot_toks, os⟩ (topStub PySem.Challenge.rw_ix0026_02.row.prog)).map (fun s => ((staticsOk (importedModules PySem.Challenge.rw_ix0026_02.row.prog.main.body) (boot_heap w.params) s.abs.heap && namesBound PySem.Challenge.rw_ix0026_02.row.prog s.abs.heap && gensDone s.abs && laidKept (boot_heap w.params) s.abs.heap),
      openSeen hd.view_39 [Str.ofString "PolynomialRing", Str.ofString "Polynomial"] (importedModules PySem.Challenge.rw_ix0026_02.row.prog.main.body) (fun s => xlAt hd.view_39 [] s && recOk PySem.Challenge.rw_ix0026_02.row.records s) true s.abs, Hook.obs hkT s.abs)) = some (true, openGood hd.view_39 [Str.ofString "PolynomialRing", Str.ofString "Polynomial"], Hook.val hkT w) := by
  kernel_rfl
theorem left_top : LeftO PySem.Challenge.rw_ix0026_02.row.prog hd.view_39 [Str.ofString "PolynomialRing", Str.ofString "Polynomial"] (fun s => xlAt hd.view_39 [] s && recOk PySem.Challenge.rw_ix0026_02.row.records s) (Hook.obs hkT) (Hook.val hkT) 8172 :=
  left_tree (life0 := fun P => (boot_heap P).life) boot_tree (boot_open (by rfl) (by rfl) (fun _ => rfl)) (fun w => by kernel_rfl) left_run
end Mine
end
noncomputable section
open PySem PySem.W PyProof.Rows
set_option Elab.async false
set_option maxRecDepth 1000000
set_option maxHeartbeats 0
namespace Mine
theorem said02 : OpenLaw.wellSaid PySem.Challenge.rw_ix0026_02 = true := by kernel_rfl
end Mine
end
noncomputable section
open PySem PySem.W PyProof.Rows PySem.Spec PySem.Calls PySem.NumText
set_option Elab.async false
set_option maxRecDepth 100000
set_option maxHeartbeats 4000000
namespace Mine
theorem typeCall_int_2 (a b : Value) : checkTypeCall "int" ⟨[a, b], []⟩ = pure () := by kernel_rfl
theorem newCall_int_2 (a b : Value) : checkBuiltinCall "int.__new__" ⟨[.type "int", a, b], []⟩ = pure () := by kernel_rfl
theorem args_object_init_3 (o a b : Value) : argsOk "object.__init__" ⟨[o, a, b], []⟩ := by
  unfold argsOk; rw [signature?_of (id := "object.__init__") (n := ['_', '_', 't', 'i', 'n', 'i', '_', '_']) (o := ['t', 'c', 'e', 'j', 'b', 'o']) (by kernel_rfl) F.owner_object]; kernel_rfl
section
variable {prog : Program} {w : World} {A : Around} {E : Value → Shared → Prop} {s : Shared}
theorem call_int_2 {x y : Value} {S : PySem.Spec} {Q : Value → Shared → Prop} (g : Meets (Builtin.«int.__new__» ⟨[.type "int", x, y], []⟩) S) (h : S A.in1 (wants (fun obj s₁ => s₁.TypeIs obj "int" ∧ Q obj s₁) E) s) :
    wpAny (model prog w) A (call (.type "int") [x, y]) Q E s :=
  callType_new F.called_int F.newNe_int (typeCall_int_2 x y) (newCall_int_2 x y) (fun obj => args_object_init_3 obj x y) F.entry_int_new g h
end
theorem wp_text2 {M : Model} {A : Around} {E : Value → Shared → Prop} {s : Shared} {Q : Value → Shared → Prop} {v : Value} {text : List Nat} {n : Int}
    (hs : (text.takeWhile (· != 0)).length ≤ 640) (hr : (int_private% "readNumeral") 0 2 (text.takeWhile (· != 0)) = (int_private% "Numeral.value") n)
    (ha : ((text.takeWhile (· != 0)).length == text.length) = true) (h : Q (.int n s.toks) { s with toks := s.toks + 1 }) :
    wpAny M A ((int_private% "intFromText") v text 2) Q E s := by
  obtain ⟨hp, g, d, tk, os⟩ := s
  repeat (any_goals (first
    | assumption
    | (with_reducible refine wpAny_ite_true (decide_eq_true hs) ?_)
    | (with_reducible refine wpAny_ite_true (decide_eq_true ha) ?_)
    | wp_step))
  all_goals (try rw [hr])
  all_goals (try dsimp only)
  repeat (any_goals (first
    | assumption
    | (with_reducible refine wpAny_ite_true (decide_eq_true hs) ?_)
    | (with_reducible refine wpAny_ite_true (decide_eq_true ha) ?_)
    | wp_step))
theorem gives_text2 {x : PySem.Str} {u u2 : Tok} {n : Int} (hs : (numSeenOf x).length ≤ 640) (hr : (int_private% "readNumeral") 0 2 (numSeenOf x) = (int_private% "Numeral.value") n)
    (ha : ((numSeenOf x).length == (numTextOf x).length) = true) : Gives (Builtin.«int.__new__» ⟨[.type "int", .str x u, .int 2 u2], []⟩) (.int n) :=
  .of_wp fun M A E s Q h => by
    obtain ⟨hp, g, d, tk, os⟩ := s
    have f1 := F.conv_sub_int
    have f2 := F.madeHere_int
    have f3 := KIN.str_int
    have f4 := KIN.str_idx
    have f5 := KIN.str_trunc
    have f6 : typeOf (.str x u) = pure (.type "str") := rfl
    have hk := KIN.Hid.mk (And.intro hs (And.intro hr ha))
    clear hs hr ha
    repeat (any_goals (first
      | assumption
      | ((with_reducible show wpAny _ _ ((int_private% "intFromText") _ _ _) _ _ _); refine wp_text2 hk.out.1 hk.out.2.1 hk.out.2.2 ?_)
      | wp_step))
    all_goals first | exact ⟨_, rfl, h⟩ | skip
    all_goals trace_state
end Mine
end
noncomputable section
open PySem PySem.W PyProof.Rows PySem.Spec PySem.Calls PySem.NumText
set_option Elab.async false
set_option maxRecDepth 100000
set_option maxHeartbeats 1000000
namespace Mine
def Bit (c : Nat) : Prop := c = 48 ∨ c = 49
/-- the number of a row of bits, the highest first -/
def bitsNum (cs : List Nat) : Nat := cs.foldl (fun a c => a * 2 + (c - 48)) 0

theorem bit_step {ds : Array Nat} {b : Bool} {c : Nat} (h : Bit c) : NumText.step 2 (ds, b) c = some (ds.push (c - 48), true) := by
  rcases h with rfl | rfl <;> rfl
theorem bit_fold : ∀ (cs : List Nat) (ds : Array Nat), (∀ c ∈ cs, Bit c) → cs.foldlM (NumText.step 2) (ds, true) = some (cs.foldl (fun acc c => acc.push (c - 48)) ds, true)
  | [], _, _ => rfl
  | c :: cs, ds, h => by
    rw [List.foldlM_cons, bit_step (h c (List.mem_cons_self ..))]
    exact bit_fold cs (ds.push (c - 48)) fun d hd => h d (List.mem_cons_of_mem _ hd)
theorem bit_digits {cs : List Nat} (h : ∀ c ∈ cs, Bit c) (hne : cs ≠ []) : digits? 2 cs = some (cs.foldl (fun acc c => acc.push (c - 48)) #[]) := by
  cases cs with
  | nil => exact absurd rfl hne
  | cons c cs =>
    unfold digits?
    rw [List.foldlM_cons, bit_step (h c (List.mem_cons_self ..))]
    show (cs.foldlM (NumText.step 2) ((#[] : Array Nat).push (c - 48), true)).bind _ = _
    rw [bit_fold cs _ fun d hd => h d (List.mem_cons_of_mem _ hd)]
    rfl
theorem bit_push : ∀ (cs : List Nat) (ds : Array Nat), (cs.foldl (fun acc c => acc.push (c - 48)) ds).foldl (fun acc d => acc * 2 + d) 0 = cs.foldl (fun acc c => acc * 2 + (c - 48)) (ds.foldl (fun acc d => acc * 2 + d) 0)
  | [], _ => rfl
  | c :: cs, ds => by
    rw [List.foldl_cons, bit_push cs (ds.push (c - 48)), List.foldl_cons]
    congr 1
    simp
theorem bit_blank {cs : List Nat} (h : ∀ c ∈ cs, Bit c) : cs.dropWhile blank = cs := by
  cases cs with
  | nil => rfl
  | cons c cs =>
    rw [List.dropWhile_cons]
    rcases h c (List.mem_cons_self ..) with rfl | rfl <;> rfl
theorem bit_sign {cs : List Nat} (h : ∀ c ∈ cs, Bit c) : sign cs = (false, cs) := by
  cases cs with
  | nil => rfl
  | cons c cs => rcases h c (List.mem_cons_self ..) with rfl | rfl <;> rfl
theorem bit_prefix {cs : List Nat} (h : ∀ c ∈ cs, Bit c) : prefix? cs = none := by
  match cs, h with
  | [], _ => rfl
  | [c], h => rcases h c (by simp) with rfl | rfl <;> rfl
  | c :: d :: r, h =>
    rcases h c (by simp) with rfl | rfl
    · rcases h d (by simp) with rfl | rfl <;> rfl
    · rfl
theorem bit_based {cs : List Nat} (h : ∀ c ∈ cs, Bit c) : based 2 cs = (2, false, cs) := by
  unfold based
  rw [bit_prefix h]
  rfl
theorem read_bits {cs : List Nat} (h : ∀ c ∈ cs, Bit c) (hne : cs ≠ []) : (int_private% "readNumeral") 0 2 cs = (int_private% "Numeral.value") ((bitsNum cs : Nat) : Int) := by
  refine (readNumeral_eq 0 2 cs).trans ?_
  rw [bit_blank h, bit_sign h]
  show judge 0 false (based 2 cs).1 (based 2 cs).2.1 (digits? (based 2 cs).1 (((based 2 cs).2.2.reverse.dropWhile blank).reverse)) = _
  rw [bit_based h]
  show judge 0 false 2 false (digits? 2 ((cs.reverse.dropWhile blank).reverse)) = _
  rw [bit_blank fun c hc => h c (List.mem_reverse.mp hc), List.reverse_reverse, bit_digits h hne]
  have e := bit_push cs #[]
  show (int_private% "Numeral.value") (((cs.foldl (fun acc c => acc.push (c - 48)) #[]).foldl (fun acc d => acc * 2 + d) 0 : Nat) : Int) = _
  rw [e]
  rfl
theorem bit_texts {x : Str} (h : ∀ c ∈ x.cps.toList, Bit c) : numTextOf x = x.cps.toList ∧ numSeenOf x = x.cps.toList :=
  numText_signs fun c hc => Or.inr (by rcases h c hc with rfl | rfl <;> decide)
theorem gives_bits {x : Str} {u u2 : Tok} (h : ∀ c ∈ x.cps.toList, Bit c) (hne : x.cps.toList ≠ []) (hl : x.length ≤ 640) :
    Gives (Builtin.«int.__new__» ⟨[.type "int", .str x u, .int 2 u2], []⟩) (.int ((bitsNum x.cps.toList : Nat) : Int)) := by
  obtain ⟨e1, e2⟩ := bit_texts h
  refine gives_text2 ?_ ?_ ?_
  · rw [e2]; exact Nat.le_trans (Nat.le_of_eq Array.length_toList) hl
  · rw [e2]; exact read_bits h hne
  · rw [e1, e2]; exact beq_self_eq_true _
section
variable {prog : Program} {w : World} {A : Around} {E : Value → Shared → Prop} {s : Shared} {Q : Value → Shared → Prop}
theorem call_bits {x : Str} {t t2 : Tok} (hb : ∀ c ∈ x.cps.toList, Bit c) (hne : x.cps.toList ≠ []) (hl : x.length ≤ 640) (h : Q (.int ((bitsNum x.cps.toList : Nat) : Int) s.toks) { s with toks := s.toks + 1 }) :
    wpAny (model prog w) A (call (.type "int") [.str x t, .int 2 t2]) Q E s :=
  call_int_2 (gives_bits hb hne hl).meets (show (Made.int _).post _ s from ⟨rfl, h⟩)
end

/-- the lowest k bits of i turned round -/
def rev (i : Int) : Nat → Int
  | 0 => 0
  | k + 1 => 2 * rev i k + i / 2 ^ k % 2
/-- the bits of n, the lowest first -/
def lows (n : Nat) : Nat → List Nat
  | 0 => []
  | k + 1 => (48 + n % 2) :: lows (n / 2) k
theorem lows_bit : ∀ (k n : Nat), ∀ c ∈ lows n k, Bit c
  | k + 1, n, c, hc => by
    rcases List.mem_cons.mp hc with rfl | hc
    · have := Nat.mod_lt n (by decide : 2 > 0)
      unfold Bit; omega
    · exact lows_bit k (n / 2) c hc
theorem lows_len : ∀ (k n : Nat), (lows n k).length = k
  | 0, _ => rfl
  | k + 1, n => by show (lows (n / 2) k).length + 1 = k + 1; rw [lows_len k]
theorem lows_snoc : ∀ (k n : Nat), lows n (k + 1) = lows n k ++ [48 + n / 2 ^ k % 2]
  | 0, n => by simp [lows]
  | k + 1, n => by
    show (48 + n % 2) :: lows (n / 2) (k + 1) = ((48 + n % 2) :: lows (n / 2) k) ++ _
    rw [lows_snoc k (n / 2), Nat.div_div_eq_div_mul, List.cons_append, Nat.pow_succ, Nat.mul_comm (2 ^ k) 2]
theorem bitsNum_snoc (cs : List Nat) (c : Nat) : bitsNum (cs ++ [c]) = bitsNum cs * 2 + (c - 48) := by
  unfold bitsNum; rw [List.foldl_append]; rfl
theorem lows_num (n : Nat) : ∀ k, ((bitsNum (lows n k) : Nat) : Int) = rev (n : Int) k
  | 0 => rfl
  | k + 1 => by
    rw [lows_snoc, bitsNum_snoc]
    show _ = 2 * rev (n : Int) k + (n : Int) / 2 ^ k % 2
    rw [← lows_num n k]
    have e : (n : Int) / 2 ^ k % 2 = ((n / 2 ^ k % 2 : Nat) : Int) := by simp
    rw [e]
    omega
theorem rev_mod (i : Int) : ∀ (k j : Nat), j ≤ k → rev (i % 2 ^ k) j = rev i j
  | k, 0, _ => rfl
  | k, j + 1, h => by
    show 2 * rev (i % 2 ^ k) j + i % 2 ^ k / 2 ^ j % 2 = 2 * rev i j + i / 2 ^ j % 2
    rw [rev_mod i k j (by omega)]
    have e : (2 : Int) ^ k = 2 ^ j * 2 ^ (k - j) := by rw [← Int.pow_add]; congr 1; omega
    have e2 : (2 : Int) ^ (k - j) = 2 * 2 ^ (k - j - 1) := by
      rw [show k - j = (k - j - 1) + 1 by omega, Int.pow_succ, Int.mul_comm]; rfl
    have hp : (0 : Int) < 2 ^ j := Int.pow_pos (by decide)
    have h1 : i % 2 ^ k / 2 ^ j = i / 2 ^ j % 2 ^ (k - j) := by
      rw [e, Int.emod_def, Int.emod_def]
      have h3 : i / (2 ^ j * 2 ^ (k - j)) = i / 2 ^ j / 2 ^ (k - j) := by rw [Int.ediv_ediv_of_nonneg (Int.le_of_lt hp)]
      rw [h3, show i - 2 ^ j * 2 ^ (k - j) * (i / 2 ^ j / 2 ^ (k - j)) = i + (-(2 ^ (k - j) * (i / 2 ^ j / 2 ^ (k - j)))) * 2 ^ j by
        rw [Int.neg_mul, Int.mul_comm (2 ^ (k - j) * _) (2 ^ j), ← Int.mul_assoc]; omega]
      rw [Int.add_mul_ediv_right _ _ (by omega)]
      omega
    rw [h1, e2]
    have h4 : i / 2 ^ j % (2 * 2 ^ (k - j - 1)) % 2 = i / 2 ^ j % 2 := Int.emod_emod_of_dvd _ ⟨_, rfl⟩
    rw [h4]

/-- the digits of n in base two, as code points -/
def digs (n : Nat) : List Nat := (Nat.toDigits 2 n).map Char.toNat
theorem digs_small {n : Nat} (h : n < 2) : digs n = [48 + n] := by
  unfold digs
  rw [Nat.toDigits_of_lt_base h]
  rcases (by omega : n = 0 ∨ n = 1) with rfl | rfl <;> rfl
theorem digs_big {n : Nat} (h : 2 ≤ n) : digs n = digs (n / 2) ++ [48 + n % 2] := by
  have hm : n % 2 < 2 := Nat.mod_lt n (by decide)
  have t : Nat.toDigits 2 (n / 2) ++ Nat.toDigits 2 (n % 2) = Nat.toDigits 2 (2 * (n / 2) + n % 2) := Nat.toDigits_append_toDigits (by decide) (by omega) hm
  rw [Nat.div_add_mod] at t
  show (Nat.toDigits 2 n).map Char.toNat = _
  rw [← t, List.map_append]
  show digs (n / 2) ++ digs (n % 2) = _
  rw [digs_small hm]
theorem lows_zero : ∀ k, lows 0 k = List.replicate k 48
  | 0 => rfl
  | k + 1 => by show (48 + 0 % 2) :: lows (0 / 2) k = _; rw [List.replicate_succ]; simp [lows_zero k]
/-- the digits turned round and filled up -/
theorem digs_rev : ∀ (k n : Nat), n < 2 ^ (k + 1) → (digs n).length ≤ k + 1 ∧ (digs n).reverse ++ List.replicate (k + 1 - (digs n).length) 48 = lows n (k + 1)
  | k, n, h => by
    by_cases h2 : n < 2
    · rw [digs_small h2]
      refine ⟨by simp, ?_⟩
      show [48 + n] ++ List.replicate (k + 1 - 1) 48 = (48 + n % 2) :: lows (n / 2) k
      rw [Nat.mod_eq_of_lt h2, Nat.div_eq_of_lt h2, lows_zero]
      simp
    · have hk : k ≠ 0 := by rintro rfl; simp at h; omega
      obtain ⟨j, rfl⟩ := Nat.exists_eq_succ_of_ne_zero hk
      have hn : n / 2 < 2 ^ (j + 1) := by
        rw [Nat.pow_succ] at h
        exact Nat.div_lt_of_lt_mul (by rw [Nat.mul_comm]; exact h)
      obtain ⟨h3, h4⟩ := digs_rev j (n / 2) hn
      rw [digs_big (by omega)]
      refine ⟨by simp; omega, ?_⟩
      rw [List.reverse_append, List.length_append, List.length_singleton]
      show [48 + n % 2] ++ (digs (n / 2)).reverse ++ _ = (48 + n % 2) :: lows (n / 2) (j + 1)
      rw [← h4, show j.succ + 1 - ((digs (n / 2)).length + 1) = j + 1 - (digs (n / 2)).length by omega]
      simp
theorem digs_bit (n : Nat) : ∀ c ∈ digs n, Bit c := by
  induction n using Nat.strongRecOn with
  | _ n ih =>
    by_cases h : n < 2
    · rw [digs_small h]; intro c hc; rw [List.mem_singleton.mp hc]; unfold Bit; omega
    · rw [digs_big (by omega)]
      intro c hc
      rcases List.mem_append.mp hc with hc | hc
      · exact ih _ (by omega) c hc
      · rw [List.mem_singleton.mp hc]; unfold Bit; omega
theorem digs_ne (n : Nat) : digs n ≠ [] := by
  by_cases h : n < 2
  · rw [digs_small h]; simp
  · rw [digs_big (by omega)]; simp

theorem base_signs {v : Nat} : (baseText "0b" 2 (v : Int)).cps.toList = [48, 98] ++ digs v := by
  rw [baseText_nonneg (by omega), Str.cps_append, Str.cps_append, Array.toList_append, Array.toList_append]
  have e1 : (Str.ofString "").cps.toList = [] := by decide
  have e2 : (Str.ofString "0b").cps.toList = [48, 98] := by decide
  rw [e1, e2, Str.ofString_eq_toList]
  simp [digs]
theorem cut_signs {v : Nat} : (Txt.slice (baseText "0b" 2 (v : Int)) (some 2) none).cps.toList = digs v := by
  have hl : (baseText "0b" 2 (v : Int)).cps.toList.length = (baseText "0b" 2 (v : Int)).length := Array.length_toList
  rw [base_signs] at hl
  have hl' : ([48, 98] ++ digs v).length = (digs v).length + 2 := by simp
  rw [slice_from_eq (b := (baseText "0b" 2 (v : Int)).length) (by decide) (by omega) rfl]
  show List.take _ (List.drop 2 (baseText "0b" 2 (v : Int)).cps.toList) = _
  rw [base_signs]
  show List.take _ (digs v) = _
  exact List.take_of_length_le (by omega)
theorem fill_signs {x : Str} {k : Nat} (h : ∀ c ∈ x.cps.toList, Bit c) : (Txt.zfill x (k : Int)).cps.toList = List.replicate (k - x.length) 48 ++ x.cps.toList := by
  unfold Txt.zfill
  split
  · rename_i hle
    rw [show k - x.length = 0 by omega]; rfl
  · unfold zfilled
    have hp : (match x.cps[0]? with
      | some 43 | some 45 => Builtin.Str.strSub x 0 1 ++ Builtin.Str.padded (Builtin.Str.strSub x 1 x.length) ((k : Int).toNat - x.length) 0 48
      | _ => Builtin.Str.padded x ((k : Int).toNat - x.length) 0 48) = Builtin.Str.padded x (k - x.length) 0 48 := by
      split
      · rename_i e
        rcases h 43 (by rw [← Array.getElem?_toList] at e; exact List.mem_of_getElem? e) with q | q <;> cases q
      · rename_i e
        rcases h 45 (by rw [← Array.getElem?_toList] at e; exact List.mem_of_getElem? e) with q | q <;> cases q
      · rfl
    refine (congrArg (fun y : Str => y.cps.toList) hp).trans ?_
    show (Array.replicate (k - x.length) 48 ++ x.cps ++ Array.replicate 0 48).toList = _
    simp
theorem turn_signs (x : Str) (u : Tok) : (Txt.sliceBy x none none (-1, u)).cps.toList = x.cps.toList.reverse := by
  rw [step_rev_list]
  apply List.ext_getElem
  · simp [Str.length]
  · intro i h1 h2
    have h3 : i < x.cps.size := by simpa [Str.length] using h1
    simp only [List.getElem_map, List.getElem_range, List.getElem_reverse, Array.length_toList, Array.getElem_toList]
    show x.cps.getD (x.cps.size - 1 - i) 0 = _
    rw [Array.getD, dif_pos (by omega)]
    rfl

/-- what br hands to int: its signs -/
theorem br_signs (i : Int) (k : Nat) (u : Tok) :
    let x := Txt.sliceBy (Txt.zfill (Txt.slice (baseText "0b" 2 (i % 2 ^ k)) (some 2) none) (k : Int)) none none (-1, u)
    (∀ c ∈ x.cps.toList, Bit c) ∧ x.cps.toList ≠ [] ∧ x.length ≤ k + 1 ∧ ((bitsNum x.cps.toList : Nat) : Int) = rev i k := by
  intro x
  have hp : (0 : Int) < 2 ^ k := Int.pow_pos (by decide)
  have h0 : 0 ≤ i % 2 ^ k := Int.emod_nonneg _ (by omega)
  have h1 : i % 2 ^ k < 2 ^ k := Int.emod_lt_of_pos _ hp
  obtain ⟨v, hv⟩ := Int.eq_ofNat_of_zero_le h0
  have hvk : v < 2 ^ k := by
    have e : ((2 ^ k : Nat) : Int) = (2 : Int) ^ k := by simp
    rw [hv, ← e] at h1
    exact Int.ofNat_lt.mp h1
  have hc := cut_signs (v := v)
  have hcl : (Txt.slice (baseText "0b" 2 (v : Int)) (some 2) none).length = (digs v).length := by
    rw [← hc]; exact Array.length_toList.symm
  have hf := fill_signs (x := Txt.slice (baseText "0b" 2 (v : Int)) (some 2) none) (k := k) (by rw [hc]; exact digs_bit v)
  have hx : x.cps.toList = (digs v).reverse ++ List.replicate (k - (digs v).length) 48 := by
    show (Txt.sliceBy (Txt.zfill (Txt.slice (baseText "0b" 2 (i % 2 ^ k)) (some 2) none) (k : Int)) none none (-1, u)).cps.toList = _
    rw [turn_signs, hv, hf, hcl, hc, List.reverse_append, List.reverse_replicate]
  have hlen : x.length = x.cps.toList.length := Array.length_toList.symm
  have key : (∀ c ∈ x.cps.toList, Bit c) ∧ x.cps.toList ≠ [] := by
    rw [hx]
    refine ⟨fun c hc => ?_, ?_⟩
    · rcases List.mem_append.mp hc with hc | hc
      · exact digs_bit v c (List.mem_reverse.mp hc)
      · rw [List.eq_of_mem_replicate hc]; exact .inl rfl
    · have := digs_ne v
      simp [this]
  refine ⟨key.1, key.2, ?_, ?_⟩
  · cases k with
    | zero =>
      have : v = 0 := by simp at hvk; omega
      subst this
      rw [hlen, hx, digs_small (by decide)]; simp
    | succ k =>
      have := digs_rev k v hvk
      rw [hlen, hx]; simp; omega
  · cases k with
    | zero =>
      have : v = 0 := by simp at hvk; omega
      subst this
      rw [hx, digs_small (by decide)]; rfl
    | succ k =>
      have := digs_rev k v hvk
      rw [hx, this.2, lows_num, ← hv, rev_mod i (k + 1) (k + 1) (Nat.le_refl _)]
end Mine
end
noncomputable section
open PySem PySem.W PyProof.Rows PySem.Spec PySem.Calls
set_option Elab.async false
set_option maxRecDepth 100000
set_option maxHeartbeats 4000000
namespace Mine
theorem pow_kind : builtinKind "pow" = none := by decide +kernel
theorem pow_plain : plainId "pow" = true := by decide +kernel
theorem pow_entry : entryFor table "pow" = some Builtin.«pow» := entryFor_of_fast (by kernel_rfl)
theorem pow_args (a b c : Value) : argsOk "pow" ⟨[a, b, c], []⟩ := by unfold argsOk; kernel_rfl

theorem gives_pow3 (a b c : Int) (t u v : Tok) (hc0 : ¬(c == 0) = true) (hc1 : ¬(c.natAbs == 1) = true) (hb : ¬ b < 0) (hc2 : ¬ c < 0) :
    Gives (Builtin.«int.__pow__» ⟨[.int a t, .int b u, .int c v], []⟩) (.int ((Builtin.powMod (a % (c.natAbs : Int)).toNat b.natAbs c.natAbs : Nat) : Int)) :=
  .of_wp fun M A E s Q h => by
    obtain ⟨hp, g, d, tk, os⟩ := s
    have hz : (decide (c < 0) && (((Builtin.powMod (a % (c.natAbs : Int)).toNat b.natAbs c.natAbs : Nat) : Int) != 0)) = false := by
      rw [decide_eq_false hc2]; rfl
    wp_walk
    refine ⟨_, rfl, ?_⟩
    rw [if_neg (by rw [hz]; exact Bool.false_ne_true)]
    exact h
theorem gives_inv256 (t u v : Tok) : Gives (Builtin.«int.__pow__» ⟨[.int 256 t, .int (-1) u, .int 8380417 v], []⟩) (.int 8347681) :=
  .of_wp fun M A E s Q h => by
    obtain ⟨hp, g, d, tk, os⟩ := s
    wp_walk
    refine ⟨_, rfl, ?_⟩
    exact h
section
variable {prog : Program} {w : World} {A : Around} {E : Value → Shared → Prop} {s : Shared} {Q : Value → Shared → Prop}
theorem call_pow_of {a b c r : Int} {t u v : Tok} (G : Gives (Builtin.«int.__pow__» ⟨[.int a t, .int b u, .int c v], []⟩) (.int r)) (h : Q (.int r s.toks) { s with toks := s.toks + 1 }) :
    wpAny (model prog w) A (call (.builtin "pow") [.int a t, .int b u, .int c v]) Q E s := by
  refine call_function_entry pow_kind pow_plain pow_entry (pow_args _ _ _) ?_
  obtain ⟨hp, g, d, tk, os⟩ := s
  have hT : (⟨hp, g, d, tk, os⟩ : Shared).TypeIs (.int a t) "int" := rfl
  have e : PySem.dunder "pow" = Str.ofString "__pow__" := by decide +kernel
  have f3 : typeLookup (.type "int") (Str.ofString "__pow__") = pure (some (.builtin "int.__pow__")) := e ▸ F.slot_int_pow.lookup
  have f4 := F.slot_int_pow.bind (.int a t)
  repeat (any_goals (first | assumption | ((with_reducible show wpAny _ _ (call (Value.builtin "int.__pow__") _ _) _ _ _); refine call_gives F.slot_int_pow hT F.entry_int_pow (F.args_int_pow_3 _ _ _) G ?_; dsimp only [Made.post]) | wp_step))

  all_goals first | exact ⟨_, rfl, h⟩ | exact h | skip
end
end Mine
namespace Mine
theorem rev_nonneg (i : Int) : ∀ k, 0 ≤ rev i k
  | 0 => Int.le_refl 0
  | k + 1 => by
    have h1 := rev_nonneg i k
    have h2 := Int.emod_nonneg (i / 2 ^ k) (by decide : (2 : Int) ≠ 0)
    show 0 ≤ 2 * rev i k + i / 2 ^ k % 2
    omega
theorem rev_front (i : Int) : ∀ k, rev i (k + 1) = (i % 2) * 2 ^ k + rev (i / 2) k
  | 0 => by
    show 2 * 0 + i / 2 ^ 0 % 2 = (i % 2) * 2 ^ 0 + 0
    simp
  | k + 1 => by
    have e : i / 2 ^ (k + 1) = i / 2 / 2 ^ k := by
      rw [Int.ediv_ediv_of_nonneg (by decide : (0 : Int) ≤ 2), Int.pow_succ, Int.mul_comm]
    show 2 * rev i (k + 1) + i / 2 ^ (k + 1) % 2 = (i % 2) * 2 ^ (k + 1) + (2 * rev (i / 2) k + i / 2 / 2 ^ k % 2)
    rw [rev_front i k, e, Int.pow_succ, Int.mul_add, ← Int.mul_assoc (i % 2), Int.mul_comm 2 (i % 2 * 2 ^ k)]
    omega
theorem rev_rev (i : Int) : ∀ k, rev (rev i k) k = i % 2 ^ k
  | 0 => by show (0 : Int) = i % 2 ^ 0; simp [Int.emod_one]
  | k + 1 => by
    have hb := Int.emod_nonneg (i / 2 ^ k) (by decide : (2 : Int) ≠ 0)
    have hb2 := Int.emod_lt_of_pos (i / 2 ^ k) (by decide : (0 : Int) < 2)
    rw [rev_front (rev i (k + 1)) k]
    have e1 : rev i (k + 1) % 2 = i / 2 ^ k % 2 := by show (2 * rev i k + i / 2 ^ k % 2) % 2 = _; omega
    have e2 : rev i (k + 1) / 2 = rev i k := by show (2 * rev i k + i / 2 ^ k % 2) / 2 = _; omega
    rw [e1, e2, rev_rev i k]
    have h1 := Int.mul_ediv_add_emod i (2 ^ k)
    have h2 := Int.mul_ediv_add_emod (i / 2 ^ k) 2
    have hp : (0 : Int) < 2 ^ k := Int.pow_pos (by decide)
    have h3 := Int.emod_nonneg i (Int.ne_of_gt hp)
    have h4 := Int.emod_lt_of_pos i hp
    have e3 : i = (i / 2 ^ k % 2 * 2 ^ k + i % 2 ^ k) + 2 ^ (k + 1) * (i / 2 ^ k / 2) := by
      rw [Int.pow_succ, Int.mul_assoc]
      have q : 2 ^ k * (2 * (i / 2 ^ k / 2)) = 2 ^ k * (i / 2 ^ k) - 2 ^ k * (i / 2 ^ k % 2) := by
        rw [← Int.mul_sub]; congr 1; omega
      rw [q, Int.mul_comm (i / 2 ^ k % 2)]
      omega
    have e4 : i % 2 ^ (k + 1) = (i / 2 ^ k % 2 * 2 ^ k + i % 2 ^ k) % 2 ^ (k + 1) := by
      conv => lhs; rw [e3]
      rw [Int.add_mul_emod_self_left]
    rw [e4]
    have hle : i / 2 ^ k % 2 * 2 ^ k ≤ 2 ^ k := by
      rcases (by omega : i / 2 ^ k % 2 = 0 ∨ i / 2 ^ k % 2 = 1) with e | e <;> rw [e] <;> omega
    have hge : 0 ≤ i / 2 ^ k % 2 * 2 ^ k := Int.mul_nonneg hb (Int.le_of_lt hp)
    have h5 : (2 : Int) ^ (k + 1) = 2 ^ k * 2 := Int.pow_succ ..
    exact (Int.emod_eq_of_lt (by omega) (by omega)).symm
theorem rev_back (i k : Int) : rev (rev i k.toNat) k.toNat = i.fmod (2 ^ k.toNat) := by
  rw [rev_rev, Int.fmod_eq_emod_of_nonneg _ (Int.le_of_lt (Int.pow_pos (by decide)))]
theorem rev_lt (i : Int) : ∀ k, rev i k < 2 ^ k
  | 0 => by show (0 : Int) < 2 ^ 0; decide
  | k + 1 => by
    have h1 := rev_lt i k
    have h2 := Int.emod_lt_of_pos (i / 2 ^ k) (by decide : (0 : Int) < 2)
    have h5 : (2 : Int) ^ (k + 1) = 2 ^ k * 2 := Int.pow_succ ..
    show 2 * rev i k + i / 2 ^ k % 2 < _
    omega
/-- a power modulo the prime, as the model reckons it -/
def pw (a e : Int) : Int := ((Builtin.powMod (a % 8380417).toNat e.toNat 8380417 : Nat) : Int)
section
variable {prog : Program} {w : World} {A : Around} {E : Value → Shared → Prop} {s : Shared} {Q : Value → Shared → Prop}
theorem call_pw {a e : Int} {t u v : Tok} (he : 0 ≤ e) (h : Q (.int (pw a e) s.toks) { s with toks := s.toks + 1 }) :
    wpAny (model prog w) A (call (.builtin "pow") [.int a t, .int e u, .int 8380417 v]) Q E s := by
  refine call_pow_of (gives_pow3 a e 8380417 t u v (by decide) (by decide) (by omega) (by decide)) ?_
  have e1 : e.natAbs = e.toNat := by omega
  rw [e1]
  exact h
theorem call_inv256 {t u v : Tok} (h : Q (.int 8347681 s.toks) { s with toks := s.toks + 1 }) :
    wpAny (model prog w) A (call (.builtin "pow") [.int 256 t, .int (-1) u, .int 8380417 v]) Q E s := call_pow_of (gives_inv256 t u v) h
end
end Mine
end
noncomputable section
open PySem PySem.W PyProof.Rows PySem.Spec PySem.Calls
set_option Elab.async false
set_option maxRecDepth 100000
set_option maxHeartbeats 4000000
namespace Mine
theorem bin_fits (i : Int) {n : Nat} (hn : n ≤ 70) : (baseText "0b" 2 (i % 2 ^ n)).length ≤ sizeLine := by
  have hp : (0 : Int) < 2 ^ n := Int.pow_pos (by decide)
  have q0 : 0 ≤ i % 2 ^ n := Int.emod_nonneg _ (by omega)
  have q1 : i % 2 ^ n < 2 ^ n := Int.emod_lt_of_pos _ hp
  have e1 : ((2 ^ n : Nat) : Int) = (2 : Int) ^ n := by simp
  have e : (2 : Nat) ^ n ≤ 2 ^ 70 := Nat.pow_le_pow_right (by decide) hn
  have hd := toDigits_len_pow (b := 2) (k := 70) (n := (i % 2 ^ n).natAbs) (by decide) (by decide) (by omega)
  have e3 : (Str.ofString "").length = 0 := by decide
  have e4 : (Str.ofString "0b").length = 2 := by decide
  rw [baseText_nonneg q0, Str.length_append, Str.length_append, ofString_ofList_length (Nat.toDigits 2 (i % 2 ^ n).natAbs), sizeLine_eq, e3, e4]
  omega
theorem fill_fits (i : Int) {n : Nat} (hn : n ≤ 70) : (Txt.zfill (Txt.slice (baseText "0b" 2 (i % 2 ^ n)) (some 2) none) (n : Int)).length ≤ sizeLine := by
  have h := (br_signs i n 0).2.2.1
  rw [step_rev_len] at h
  rw [sizeLine_eq]
  omega
theorem br_call {pv : Program} {w : World} {loose : List Str} {mean : ExcName → Option Value} {mg mb : Str → Option Value} {dp un : Nat} {gd : Option (List Code)} {cn : Str} {cs : Scope} {a : Addr} {ccd : Value} {cl : List (Str × Addr)} {outer : List Env} {A₀ : Around} {base h₀ : Heap} {L : Addr} {m : Str → Option Value} {news : List (Addr × Obj)} {s : Shared}
    {Q E : Value → Shared → Prop} {i k : Int} {ti tk : Tok}
    (B : Below A₀ base outer h₀) (F : Fr h₀ L s.heap m) (X : (hd.heap_39 w.params).In h₀) (N : News h₀ L s.heap news) (T : Top pv loose mean mg mb h₀) (hk : cs.kind = .function)
    (h0 : 0 ≤ k) (h1 : k ≤ 70) (hd : dp + 1 < recursionLimit)
    (ret : ∀ t h' tk', Fr h₀ L h' m → News h₀ L h' news → Q (.int (rev i k.toNat) t) { s with heap := h', toks := tk' }) :
    wpAny (model PySem.Challenge.rw_ix0026_02.row.prog w) (ktrTop dp un gd cn cs L a ccd cl outer) (call (.ref 301) [.int i ti, .int k tk]) Q E s := by
  revert X
  k_fill
  intro X
  refine wpAny_call ?_
  k_dflt cell_enter
  iterate 20 walk1
  obtain ⟨n, rfl⟩ := Int.eq_ofNat_of_zero_le h0
  have hv : Builtin.bitAnd i (2 ^ (n : Int).toNat - 1) = i % 2 ^ n := kbt_mask i n
  rw [hv]
  have hx := br_signs i n
  have hsz : (baseText "0b" 2 (i % 2 ^ n)).length ≤ sizeLine := bin_fits i (by omega)
  refine P.bin_of_int ?_ (hsz := hsz)
  dsimp only
  iterate 29 (first | walk1 | (dsimp only; walk1))
  dsimp only
  rename Fr _ _ _ _ => Fx
  rename News _ _ _ _ => Nx
  refine slice_strK_nn (hsz := fill_fits i (by omega)) (s := ⟨_, _, _, _, _⟩) Fx Nx (by decide) ?_
  clear Fx Nx
  intro h1 t1 c1 F1 N1
  dsimp only
  iterate 3 (first | walk1 | (dsimp only; walk1))
  have hx := br_signs i n (tk + 1)
  refine call_bits hx.1 hx.2.1 (Nat.le_trans hx.2.2.1 (by omega)) ?_
  rw [hx.2.2.2]
  dsimp only
  repeat (first | (k_unfold; (try dsimp only)) | walk1)
  exact ret _ _ _ (by assumption) (by assumption)
end Mine
end
noncomputable section
open PySem PySem.W PyProof.Rows PySem.Spec PySem.Calls
set_option Elab.async false
set_option maxRecDepth 100000
set_option maxHeartbeats 4000000
local macro_rules | `(tactic| k_room) => `(tactic| ktr_room)
local macro_rules | `(tactic| k_enter) => `(tactic| first
  | (refine' code_def ?k1 ?k2 ?k3 ?k4 ?k5 ?kA ?kF ?kK ?k6 ?k7 ?k8 ?k9 ?kB ?_ ?c2 ?c3 ?c4 ?c5; (case kA => exact rfl); (case kF => exact rfl); (case kK => first | exact rfl | assumption); (case k1 => k_asm); (case k2 => k_asm); (case k3 => k_asm); (case k4 => k_asm); (case k5 => k_asm); (case k6 => k_is); (case k7 => k_is); (case k8 => ktr_room); (case k9 => first | exact BindsTo.of_eq rfl | exact binds_K (by k_in) rfl (by k_is) rfl rfl rfl | fail "k_enter: no rule for these arguments"); (case c5 => decide); (case kB => exact locs rfl); (case c2 => exact rfl); (case c3 => exact rfl); (case c4 => exact rfl); k_whole; intro g' L' h' FG' F' N' B' X' T'; (try dsimp only); (try k_lift B'); (try k_fold))
  | (refine' code_defC ?k1 ?k2 ?k3 ?k4 ?k5 ?kA ?kF ?kK ?k6 ?k7 ?k8 ?k9 ?kB ?kD ?_ ?c2 ?c3 ?c4; (case kA => exact rfl); (case kF => exact rfl); (case kK => first | exact rfl | assumption); (case k1 => k_asm); (case k2 => k_asm); (case k3 => k_asm); (case k4 => k_asm); (case k5 => k_asm); (case k6 => k_is); (case k7 => k_is); (case k8 => ktr_room); (case k9 => first | exact BindsTo.of_eq rfl | exact binds_K (by k_in) rfl (by k_is) rfl rfl rfl | fail "k_enter: no rule for these arguments"); (case kB => exact rfl); (case kD => decide +kernel); (case c2 => exact rfl); (case c3 => exact rfl); (case c4 => exact rfl); k_whole; intro g' L' h' tk' cells' FG' F' N' Y' B' X' T' l1; (try k_lt l1); k_cells Y'; (try simp only [List.cons_append, List.nil_append] at N'); (try dsimp only); (try k_lift B'); (try k_fold)))
local macro_rules | `(tactic| walk_at "getMethod ref") => `(tactic| (k_here; (with_reducible show wpAny _ _ (getMethod (Value.ref _) (PySem.Str.ofString "br") _) _ _ _); k_dflt (
  refine' kmu_sm ?k1 ?k2 ?k4 ?k5 ?k6 ?k7 ?k8 ?k9 ?k10 ?k11 ?k12 ?k13 ?k14 ?_; (case k1 => k_asm); (case k2 => k_asm); (case k4 => k_inst); (case k5 => k_is); (case k6 => k_is); (case k7 => k_is); (case k8 => k_is); (case k9 => k_is); (case k10 => k_is); (case k11 => decide +kernel); (case k12 => k_get); (case k13 => k_is); (case k14 => k_handed); k_whole)))
local macro_rules | `(tactic| walk_at "call ref") => `(tactic| (k_here; k_dflt (refine' Mine.br_call ?k1 ?k2 ?k3 ?k4 ?k5 ?kK ?k6 ?k7 ?kd ?_; (case k1 => k_asm); (case k2 => k_asm); (case k3 => k_asm); (case k4 => k_asm); (case k5 => k_asm); (case kK => first | exact rfl | assumption); (case k6 => first | decide | omega | l_fact); (case k7 => first | decide | omega | l_fact); (case kd => ktr_room)); intro t9 h9 tk9 F9 N9; (try dsimp only)))
local macro_rules | `(tactic| walk_at "call builtin:pow") => `(tactic| (k_dflt (refine Mine.call_pw (by first | decide | exact Mine.rev_nonneg _ _ | omega) ?_); (try dsimp only)))
local macro_rules | `(tactic| walk_at "call builtin:pow") => `(tactic| (k_dflt (refine Mine.call_inv256 ?_); (try dsimp only)))
namespace Mine
def rootsL : List Int := (rangeKs 0 256).map fun i => pw 1753 (rev i 8)
theorem ring_make {pv : Program} {w : World} {loose : List Str} {mean : ExcName → Option Value} {mg mb : Str → Option Value} {dp un : Nat} {gd : Option (List Code)} {cn : Str} {cs : Scope} {a : Addr} {ccd : Value} {cl : List (Str × Addr)} {outer : List Env} {A₀ : Around} {base h₀ : Heap} {L : Addr} {m : Str → Option Value} {s : Shared} {c1 c2 c3 : Addr} {o1 o2 o3 : Obj}
    {Q E : Value → Shared → Prop}
    (B : Below A₀ base outer h₀) (F : Fr h₀ L s.heap m) (X : (hd.heap_39 w.params).In h₀) (N : News h₀ L s.heap [(c1, o1), (c2, o2), (c3, o3)]) (T : Top pv loose mean mg mb h₀) (hk : cs.kind = .function)
    (hd : dp + 5 < recursionLimit)
    (ret : ∀ (x d D a b : Addr) (t1 t2 t3 t4 t5 t6 t7 t8 t9 : Tok) (ys : List Value) (h' : Heap) (tk' : Nat), Fr h₀ L h' m →
      News h₀ L h' [(D, LCg.lst ys), (x, instObj 392 d), (d, dictOf [⟨PyData.keyHash w.params (Str.ofString "q"), .str (Str.ofString "q") t1, .int 8380417 t2⟩, ⟨PyData.keyHash w.params (Str.ofString "n"), .str (Str.ofString "n") t3, .int 256 t4⟩,
        ⟨PyData.keyHash w.params (Str.ofString "shake128"), .str (Str.ofString "shake128") t5, .ref a⟩, ⟨PyData.keyHash w.params (Str.ofString "shake256"), .str (Str.ofString "shake256") t6, .ref b⟩,
        ⟨PyData.keyHash w.params (Str.ofString "ntt_zetas"), .str (Str.ofString "ntt_zetas") t7, .ref D⟩, ⟨PyData.keyHash w.params (Str.ofString "ntt_f"), .str (Str.ofString "ntt_f") t8, .int 8347681 t9⟩] 6), (c1, o1), (c2, o2), (c3, o3)] →
      IntsAre ys rootsL → @LT.lt Nat _ d x → @Ne Nat D x → @Ne Nat D d → (@Ne Nat c1 D ∧ @Ne Nat c2 D ∧ @Ne Nat c3 D) → (@LT.lt Nat _ c1 d ∧ @LT.lt Nat _ c2 d ∧ @LT.lt Nat _ c3 d) → Q (.ref x) { s with heap := h', toks := tk' }) :
    wpAny (model PySem.Challenge.rw_ix0026_02.row.prog w) (ktrTop dp un gd cn cs L a ccd cl outer) (call (.ref 392) [.ref 601, .ref 601]) Q E s := by
  w_strict (iterate 94 (first | (k_unfold; (try dsimp only)) | walk1 | (dsimp only; walk1) | (leave1; (try dsimp only))))
  w_strict ((with_reducible refine plainObj_wpAny_Assign_Attribute ?_ ?_); rotate_left; with_unfolding_all rfl)
  w_strict (iterate 8 (first | (k_unfold; (try dsimp only)) | walk1 | (dsimp only; walk1) | (leave1; (try dsimp only))))
  (refine LCg.CompSrc.range (by rfl) (by k_asm) (by k_asm) (by assumption) (by decide) (by rfl) (by exact Nat.le_of_ble_eq_true rfl) ?_; intro g')
  refine' kcf_range (fun i => pw 1753 (rev i 8)) (fun k' t' I' oI' C' oC' D' m' ys' h' tk' E' hlo' hhi' hC' hx' F' N' off' ne' hMark' => ?_) ?_
  · (try (simp only [LCg.Off3, and_true] at off'))
    (try k_fold)
    w_strict (iterate 24 (first | (k_unfold; (try dsimp only)) | walk1 | (dsimp only; walk1) | (leave1; (try dsimp only))))
    exact kcf_el rfl rfl rfl
  · w_strict (iterate 25 (first | (k_unfold; (try dsimp only)) | walk1 | (dsimp only; walk1) | (leave1; (try dsimp only))))
    rename News _ _ _ _ => kN
    refine' ret _ _ _ _ _ _ _ _ _ _ _ _ _ _ _ _ _ (by assumption) (cb_drop kN ?k1) (by assumption) ?k2 ?k3 ?k4 ?k5 ?k6
    case k1 =>
      refine List.forall_mem_cons.mpr ⟨by k_mem, ?_⟩
      refine List.forall_mem_cons.mpr ⟨by k_mem, ?_⟩
      refine List.forall_mem_cons.mpr ⟨by k_mem, ?_⟩
      refine List.forall_mem_cons.mpr ⟨by k_mem, ?_⟩
      refine List.forall_mem_cons.mpr ⟨by k_mem, ?_⟩
      refine List.forall_mem_cons.mpr ⟨by k_mem, ?_⟩
      exact List.forall_mem_nil _
    case k2 => omega
    case k3 => exact neN (by omega)
    case k4 => exact neN (by omega)
    case k5 => exact ⟨neN (by omega), neN (by omega), neN (by omega)⟩
    case k6 => omega
end Mine
end
noncomputable section
open PySem PySem.W PyProof.Rows PySem.Spec PySem.Calls
set_option Elab.async false
set_option maxRecDepth 100000
set_option maxHeartbeats 4000000
local macro_rules | `(tactic| k_room) => `(tactic| ktr_room)
local macro_rules | `(tactic| k_enter) => `(tactic| first
  | (refine' code_def ?k1 ?k2 ?k3 ?k4 ?k5 ?kA ?kF ?kK ?k6 ?k7 ?k8 ?k9 ?kB ?_ ?c2 ?c3 ?c4 ?c5; (case kA => exact rfl); (case kF => exact rfl); (case kK => first | exact rfl | assumption); (case k1 => k_asm); (case k2 => k_asm); (case k3 => k_asm); (case k4 => k_asm); (case k5 => k_asm); (case k6 => k_is); (case k7 => k_is); (case k8 => ktr_room); (case k9 => first | exact BindsTo.of_eq rfl | exact binds_K (by k_in) rfl (by k_is) rfl rfl rfl | fail "k_enter: no rule for these arguments"); (case c5 => decide); (case kB => exact locs rfl); (case c2 => exact rfl); (case c3 => exact rfl); (case c4 => exact rfl); k_whole; intro g' L' h' FG' F' N' B' X' T'; (try dsimp only); (try k_lift B'); (try k_fold))
  | (refine' code_defC ?k1 ?k2 ?k3 ?k4 ?k5 ?kA ?kF ?kK ?k6 ?k7 ?k8 ?k9 ?kB ?kD ?_ ?c2 ?c3 ?c4; (case kA => exact rfl); (case kF => exact rfl); (case kK => first | exact rfl | assumption); (case k1 => k_asm); (case k2 => k_asm); (case k3 => k_asm); (case k4 => k_asm); (case k5 => k_asm); (case k6 => k_is); (case k7 => k_is); (case k8 => ktr_room); (case k9 => first | exact BindsTo.of_eq rfl | exact binds_K (by k_in) rfl (by k_is) rfl rfl rfl | fail "k_enter: no rule for these arguments"); (case kB => exact rfl); (case kD => decide +kernel); (case c2 => exact rfl); (case c3 => exact rfl); (case c4 => exact rfl); k_whole; intro g' L' h' tk' cells' FG' F' N' Y' B' X' T' l1; (try k_lt l1); k_cells Y'; (try simp only [List.cons_append, List.nil_append] at N'); (try dsimp only); (try k_lift B'); (try k_fold)))
local macro_rules | `(tactic| walk_at "getMethod ref") => `(tactic| (k_here; (with_reducible show wpAny _ _ (getMethod (Value.ref _) (PySem.Str.ofString "br") _) _ _ _); k_dflt (
  refine' kmu_sm ?k1 ?k2 ?k4 ?k5 ?k6 ?k7 ?k8 ?k9 ?k10 ?k11 ?k12 ?k13 ?k14 ?_; (case k1 => k_asm); (case k2 => k_asm); (case k4 => k_inst); (case k5 => k_is); (case k6 => k_is); (case k7 => k_is); (case k8 => k_is); (case k9 => k_is); (case k10 => k_is); (case k11 => decide +kernel); (case k12 => k_get); (case k13 => k_is); (case k14 => k_handed); k_whole)))
local macro_rules | `(tactic| walk_at "call ref") => `(tactic| (k_here; k_dflt (refine' Mine.br_call ?k1 ?k2 ?k3 ?k4 ?k5 ?kK ?k6 ?k7 ?kd ?_; (case k1 => k_asm); (case k2 => k_asm); (case k3 => k_asm); (case k4 => k_asm); (case k5 => k_asm); (case kK => first | exact rfl | assumption); (case k6 => first | decide | omega | l_fact); (case k7 => first | decide | omega | l_fact); (case kd => ktr_room)); intro t9 h9 tk9 F9 N9; (try dsimp only)))
local macro_rules | `(tactic| walk_at "call builtin:pow") => `(tactic| (k_dflt (refine Mine.call_pw (by first | decide | exact Mine.rev_nonneg _ _ | omega) ?_); (try dsimp only)))
local macro_rules | `(tactic| walk_at "call builtin:pow") => `(tactic| (k_dflt (refine Mine.call_inv256 ?_); (try dsimp only)))
namespace Mine
theorem rev_fold (i : Int) : ∀ n : Nat, (List.foldl (fun (σ : Int × Unit) (k : Int) => (2 * σ.fst + (i.fdiv (2 ^ k.toNat)).fmod 2, ())) (0, ()) (rangeInts 0 1 n)).fst = rev i n
  | 0 => rfl
  | n + 1 => by
    have e : rangeInts 0 1 (n + 1) = rangeInts 0 1 n ++ [(n : Int)] := by simp [rangeInts, List.range_succ]
    rw [e, List.foldl_append]
    show 2 * (List.foldl (fun (σ : Int × Unit) (k : Int) => (2 * σ.fst + (i.fdiv (2 ^ k.toNat)).fmod 2, ())) (0, ()) (rangeInts 0 1 n)).fst + (i.fdiv (2 ^ (n : Int).toNat)).fmod 2 = 2 * rev i n + i / 2 ^ n % 2
    rw [rev_fold i n, Int.toNat_natCast, Int.fdiv_eq_ediv_of_nonneg _ (Int.le_of_lt (Int.pow_pos (by decide))), Int.fmod_eq_emod_of_nonneg _ (by decide)]
theorem turned_call {pv : Program} {w : World} {loose : List Str} {mean : ExcName → Option Value} {mg mb : Str → Option Value} {dp un : Nat} {gd : Option (List Code)} {cn : Str} {cs : Scope} {a : Addr} {ccd : Value} {cl : List (Str × Addr)} {outer : List Env} {A₀ : Around} {base h₀ : Heap} {L : Addr} {m : Str → Option Value} {news : List (Addr × Obj)} {s : Shared}
    {Q E : Value → Shared → Prop} {i k : Int} {ti tk : Tok}
    (B : Below A₀ base outer h₀) (F : Fr h₀ L s.heap m) (X : (hd.heap_39 w.params).In h₀) (N : News h₀ L s.heap news) (T : Top pv loose mean mg mb h₀) (hk : cs.kind = .function)
    (h0 : 0 ≤ k) (h1 : k ≤ 70) (hd : dp + 1 < recursionLimit)
    (ret : ∀ t h' tk', Fr h₀ L h' m → News h₀ L h' news → Q (.int (rev i k.toNat) t) { s with heap := h', toks := tk' }) :
    wpAny (model PySem.Challenge.rw_ix0026_02.row.prog w) (ktrTop dp un gd cn cs L a ccd cl outer) (call (.ref 608) [.int i ti, .int k tk]) Q E s := by
  refine wpAny_call ?_
  k_dflt cell_enter
  w_strict (iterate 42 (first | (k_unfold; (try dsimp only)) | walk1 | (dsimp only; walk1) | (leave1; (try dsimp only))))
  rename News _ _ _ _ => kN
  refine cb_retI (Q := Q) (s := s) ret ?e (by assumption) (cb_drop kN (by kcj_all))
  exact (rev_fold i (k - 0).toNat).trans (by rw [show (k - 0).toNat = k.toNat by omega])
end Mine
end
noncomputable section
open PySem PySem.W PyProof.Rows PySem.Spec PySem.Calls
set_option Elab.async false
set_option maxRecDepth 100000
namespace Mine
def AllNe (d : Addr) : List (Addr × Obj) → Prop
  | [] => True
  | p :: r => @Ne Nat p.1 d ∧ AllNe d r
/-- a list of ints stored under a name, new -/
def MidL (h₀ : Heap) (L : Addr) (m : Str → Option Value) (news : List (Addr × Obj)) (s : Shared) (x : Str) (C : List Int → Prop) (fl : Flow) (s1 : Shared) : Prop :=
  fl = Flow.next ∧ ∃ (P : Addr) (vs : List Value) (ps : List Int) (n : Nat) (h' : Heap) (tk' : Nat), s1 = { s with heap := h', toks := tk' } ∧
    Fr h₀ L h' (fun y => if y = x then some (.ref P) else m y) ∧ News h₀ L h' ((P, { cls := .type "list", data := .seq vs.toArray n }) :: news) ∧ IntsAre vs ps ∧ C ps ∧ AllNe P news
theorem mid_list {M : Model} {A : Around} {E : Value → Shared → Prop} {s : Shared} {h₀ : Heap} {L : Addr} {m : Str → Option Value} {news : List (Addr × Obj)} {t : Sem Flow} {Q : Flow → Shared → Prop} (x : Str) (C : List Int → Prop)
    (F : Fr h₀ L s.heap m) (N : News h₀ L s.heap news) (hs : wpAny M A t (MidL h₀ L m news s x C) E s)
    (hr : ∀ (P : Addr) (vs : List Value) (ps : List Int) (n : Nat) (h' : Heap) (tk' : Nat), Fr h₀ L h' (fun y => if y = x then some (.ref P) else m y) →
      News h₀ L h' ((P, { cls := .type "list", data := .seq vs.toArray n }) :: news) → IntsAre vs ps → C ps → AllNe P news → Q Flow.next { s with heap := h', toks := tk' }) : wpAny M A t Q E s :=
  wpAny_mono hs (fun fl s1 ⟨e, P, vs, ps, n, h', tk', e1, F', N', I, c, l⟩ => by subst e; subst e1; exact hr P vs ps n h' tk' F' N' I c l) fun _ _ z => z
theorem MidL.done {s : Shared} {h₀ : Heap} {L : Addr} {m : Str → Option Value} {news news' : List (Addr × Obj)} {x : Str} {C : List Int → Prop} {P : Addr} {vs : List Value} {ps : List Int} {n : Nat} {h' : Heap} {tk' : Nat}
    (F : Fr h₀ L h' (fun y => if y = x then some (.ref P) else m y)) (N : News h₀ L h' news') (hm : ∀ p ∈ ((P, ({ cls := .type "list", data := .seq vs.toArray n } : Obj)) :: news), p ∈ news')
    (I : IntsAre vs ps) (c : C ps) (l : AllNe P news) : MidL h₀ L m news s x C .next { s with heap := h', toks := tk' } :=
  ⟨rfl, P, vs, ps, n, h', tk', rfl, F, cb_drop N hm, I, c, l⟩
section
variable {prog : Program} {w : World} {A : Around} {E : Value → Shared → Prop} {s : Shared} {h₀ : Heap} {L l : Addr} {m : Str → Option Value} {news : List (Addr × Obj)} {value slice : PySem.Expr} {vs : List Value} {ns ms : List Int} {vl vu : Value} {lo hi : Option Int} {Q : Value → Shared → Prop}
/-- a cut of a list that no name holds -/
theorem cut_temp (F : Fr h₀ L s.heap m) (N : News h₀ L s.heap news) (hl : s.heap.IsList l vs.toArray) (pl : IsPart vl lo) (pu : IsPart vu hi) (hm : IntsAre (slicePick vs.toArray lo hi none).toList ms)
    (h : ∀ D ws h', Fr h₀ L h' m → News h₀ L h' ((D, listOf (List.toArray ws) 0) :: news) → (∀ p ∈ news, p.1 < D) → IntsAre ws ms → Q (.ref D) { s with heap := h' })
    (hs : subscripted slice false (.ref l) (.ref s.heap.objs.size) = operate [.ref s.heap.objs.size, .ref l] (getItem (.ref l) (.ref s.heap.objs.size))) (hz : vs.toArray.size ≤ sizeLine) :
    wpAny (model prog w) A (subscriptTail value slice (.ref l) (.ref s.heap.objs.size)) Q E { s with heap := s.heap.push { cls := .type "slice", data := .fields #[vl, vu, .none] } } := by
  refine tail_any (Heap.IsList.typeIs (s := { s with heap := s.heap.push { cls := .type "slice", data := .fields #[vl, vu, .none] } }) (hl.push _)) list_getitem_lookup
    (wpAny_getItem_list_slice (hl.push _) (Heap.IsSliceOf.new ..) pl pu .none (by simp) ?_ hz) hs
  have N1 := News.push (F.push { cls := .type "slice", data := .fields #[vl, vu, .none] }) (N.grown fun _ _ e => Heap.get?_push_of_some _ e) { cls := .type "list", data := .seq (slicePick vs.toArray lo hi none) }
  rw [Heap.size_push] at N1
  show Q (.ref (s.heap.push _).objs.size) _
  rw [Heap.size_push]
  refine h _ (slicePick vs.toArray lo hi none).toList _ ((F.push _).push _) ?_ (fun p hp => Nat.lt_succ_of_lt (Heap.lt_size (N p hp).1)) hm
  rw [Array.toArray_toList]
  exact N1
end
theorem dedup_nodup : ∀ (ns acc : List Int), (acc ++ ns).Nodup → ns.foldl step_dedup acc = acc ++ ns
  | [], acc, _ => by simp
  | n :: r, acc, h => by
    rw [List.foldl_cons]
    have hn : acc.any (· == n) = false := by
      rw [List.any_eq_false]
      intro x hx
      have hd := (List.nodup_append.mp h).2.2 x hx n (List.mem_cons_self ..)
      simpa using hd
    have e : step_dedup acc n = acc ++ [n] := by
      unfold step_dedup
      rw [hn]
      rfl
    rw [e, dedup_nodup r (acc ++ [n]) (by simpa using h)]
    simp
theorem firstMet_nodup {ns : List Int} (h : ns.Nodup) : firstMet (fun i => ns.getD i 0) ns.length = ns := by
  unfold firstMet
  have e : (List.range ns.length).map (fun i => ns.getD i 0) = ns := by
    apply List.ext_getElem
    · simp
    · intro i h1 h2
      simp only [List.getElem_map, List.getElem_range, List.getD_eq_getElem?_getD, List.getElem?_eq_getElem h2, Option.getD_some]
  rw [e]
  simpa using dedup_nodup ns [] (by simpa using h)
section
variable {prog : Program} {w : World} {A : Around} {E : Value → Shared → Prop} {s : Shared} {h₀ : Heap} {L l : Addr} {m : Str → Option Value} {news : List (Addr × Obj)} {vs : List Value} {ns : List Int} {Q : Value → Shared → Prop}
/-- set(a list of unlike ints), and its length -/
theorem set_nodup (F : Fr h₀ L s.heap m) (N : News h₀ L s.heap news) (hh : A.handled = none) (hl : s.heap.IsList l vs.toArray) (hi : IntsAre vs ns) (hnd : ns.Nodup) (hb : ns.length < 4000)
    (h : ∀ (S : Addr) (h' : Heap) (tk : Nat) (o : Obj) (k : Int → Bool), Fr h₀ L h' m → News h₀ L h' ((S, o) :: news) → o.SetObjOf (intKind prog w) k ns.length → Q (.ref S) { s with heap := h', toks := tk }) :
    wpAny (model prog w) A (call (.type "set") [.ref l]) Q E s := by
  have hvn : vs.length = ns.length := IntsAre.length hi
  have hsz : vs.toArray.size = ns.length := by rw [List.size_toArray, hvn]
  refine PySem.call_set_list (items := vs.toArray) (ns := ns) hh hl (by simpa using hi) (by rw [hsz]; unfold scanBound; omega) fun h' tk hS hk => ?_
  rw [hsz, firstMet_nodup hnd] at hS
  obtain ⟨o, ho, hso⟩ := hS.objOf
  obtain ⟨oL, _, _, hL, _⟩ := F.ns
  have hLlt : L < s.heap.objs.size := Heap.lt_size hL
  refine h _ h' tk o _ ⟨F.ns.at' fun o' e => hk L o' hLlt e, fun b o' e => hk b o' (Heap.lt_size (F.keep b o' e)) (F.keep b o' e), F.above⟩ (fun p hp => ?_) hso
  rcases List.mem_cons.mp hp with rfl | hp
  · refine ⟨ho, Nat.ne_of_gt hLlt, ?_⟩
    cases hq : h₀.get? s.heap.objs.size with
    | none => rfl
    | some o' => exact absurd (Heap.lt_size (F.keep _ _ hq)) (Nat.lt_irrefl _)
  · exact ⟨hk _ _ (Heap.lt_size (N p hp).1) (N p hp).1, (N p hp).2.1, (N p hp).2.2⟩
end
end Mine
end
noncomputable section
open PySem PySem.W PyProof.Rows PySem.Spec PySem.Calls
set_option Elab.async false
set_option maxRecDepth 100000
namespace Mine
/-- the names that a loop may have turned -/
def over (stored : List Str) (u m₀ : Str → Option Value) : Str → Option Value := fun z => if stored.contains z then u z else m₀ z
theorem over_of {stored : List Str} {u m₀ : Str → Option Value} (h : ∀ z, stored.contains z = false → u z = m₀ z) : u = over stored u m₀ := by
  funext z
  unfold over
  cases e : stored.contains z with
  | true => simp
  | false => simpa using h z e
section
variable {prog : Program} {w : World} {A : Around} {E : Value → Shared → Prop} {s : Shared} {env : Env} {h₀ : Heap} {x : Str} {body : List Stmt} {Q : Flow → Shared → Prop}
/-- a loop over a range of any step, by what holds of its ledger -/
theorem range_loop (stored : List Str) (J : Nat → List (Addr × Obj) → Prop) {r : Addr} {a₀ b₀ c : Int} {t₀ u₀ v₀ : Tok} (n : Nat) {m₀ : Str → Option Value} {news : List (Addr × Obj)}
    (hh : A.handled = none) (hr : IsRange s.heap r a₀ b₀ c t₀ u₀ v₀) (hsmall : Builtin.Range.small a₀ b₀ c = true) (hn : Builtin.Range.rangeSize a₀ b₀ c = (n : Int)) (F : Fr h₀ env.locals s.heap m₀) (N : News h₀ env.locals s.heap news)
    (h0 : J 0 news) (hx : stored.contains x = true)
    (turn : ∀ (i : Nat) (u : Str → Option Value) (news₁ : List (Addr × Obj)) (I : Addr) (h : Heap) (tk : Nat) (t : Tok), i < n → J i news₁ → AllNe I news₁ →
      Fr h₀ env.locals h (fun z => if z = x then some (.int (a₀ + (i : Int) * c) t) else over stored u m₀ z) → News h₀ env.locals h ((I, krsIt (a₀ + ((i + 1 : Nat) : Int) * c) ((n : Int) - ((i + 1 : Nat) : Int)) c) :: news₁) →
      wpAny (model prog w) A (execs body env) (UnrPost h₀ env.locals { s with heap := h, toks := tk } I (krsIt (a₀ + ((i + 1 : Nat) : Int) * c) ((n : Int) - ((i + 1 : Nat) : Int)) c) (fun m' news' => (∀ z, stored.contains z = false → m' z = m₀ z) ∧ J (i + 1) news') Q) E { s with heap := h, toks := tk })
    (done : ∀ (u : Str → Option Value) (news₁ : List (Addr × Obj)) (h : Heap) (tk : Nat), J n news₁ → Fr h₀ env.locals h (over stored u m₀) → News h₀ env.locals h news₁ → Q .next { s with heap := h, toks := tk }) :
    wpAny (model prog w) A (pyIter (.ref r)) (fun it s₂ => LoopAtV prog w A h₀ env x body Q E it s₂) E s := by
  refine krs_iter hh hr hsmall hn F N fun I hI => ?_
  have ne_of : ∀ l : List (Addr × Obj), (∀ p ∈ l, p.1 ≠ I) → AllNe I l := by
    intro l
    induction l with
    | nil => intro _; exact trivial
    | cons p l ih => intro h; exact ⟨h p (List.mem_cons_self ..), ih fun q hq => h q (List.mem_cons_of_mem _ hq)⟩
  have key : ∀ (k i : Nat) (m : Str → Option Value) (news₁ : List (Addr × Obj)), i + k = n → (∀ p ∈ news₁, p.1 ≠ I) → (∀ z, stored.contains z = false → m z = m₀ z) → J i news₁ →
      KrsRest prog w A E h₀ env x body Q s I a₀ c n k i m news₁ := by
    intro k
    induction k with
    | zero =>
      intro i m news₁ hi _ hm hJ
      have e : i = n := by omega
      subst e
      refine KrsRest.zero fun h tk F₁ N₁ => done m news₁ h tk hJ ?_ N₁
      rw [← over_of hm]; exact F₁
    | succ k ih =>
      intro i m news₁ hi off hm hJ
      refine KrsRest.succ rfl fun t h tk F₁ N₁ => ?_
      have e := over_of hm
      rw [e] at F₁
      refine wpAny_mono (turn i m news₁ I h tk t (by omega) hJ (ne_of _ off) F₁ N₁) (fun f s₂ p => ?_) fun _ _ z => z
      have fin : UnrEnd h₀ env.locals { s with heap := h, toks := tk } I (krsIt (a₀ + ((i + 1 : Nat) : Int) * c) ((n : Int) - ((i + 1 : Nat) : Int)) c) (fun m' news' => (∀ z, stored.contains z = false → m' z = m₀ z) ∧ J (i + 1) news') s₂ →
          UnrEnd h₀ env.locals { s with heap := h, toks := tk } I (krsIt (a₀ + ((i + 1 : Nat) : Int) * c) ((n : Int) - ((i + 1 : Nat) : Int)) c) (KrsRest prog w A E h₀ env x body Q s I a₀ c n k (i + 1)) s₂ := by
        rintro ⟨h', tk', m', news', e', F', N', off', hm', hJ'⟩
        exact ⟨h', tk', m', news', e', F', N', off', ih (i + 1) m' news' (by omega) off' hm' hJ'⟩
      cases f with
      | ret v => exact p
      | brk => exact p
      | next => exact fin p
      | cont => exact fin p
  exact key n 0 m₀ news (by omega) (fun p hp => Nat.ne_of_lt (hI p hp)) (fun _ _ => rfl) h0
end
end Mine
namespace Mine
section
variable {prog : Program} {w : World} {A : Around} {E : Value → Shared → Prop} {s : Shared} {env : Env} {h₀ : Heap} {x : Str} {body : List Stmt} {Q : Flow → Shared → Prop}
/-- a loop over a list of the ledger that turns names alone -/
theorem list_loop (stored : List Str) {l : Addr} {vs : List Value} {ns : List Int} {nn : Nat} {m₀ : Str → Option Value} {news : List (Addr × Obj)}
    (hh : A.handled = none) (hl : (l, listOf vs.toArray nn) ∈ news) (hi : IntsAre vs ns) (F : Fr h₀ env.locals s.heap m₀) (N : News h₀ env.locals s.heap news)
    (turn : ∀ (i : Nat) (n : Int) (t : Tok) (u : Str → Option Value) (h : Heap) (tk : Nat) (own : List (Addr × Obj)), ns[i]? = some n → OwnOff own (news.map (·.1)) →
      Fr h₀ env.locals h (fun z => if z = x then some (.int n t) else over stored u m₀ z) → News h₀ env.locals h (news ++ own) →
      wpAny (model prog w) A (execs body env) (InvPostN h₀ env.locals (fun m' nx => nx = news ∧ ∀ z, stored.contains z = false → m' z = m₀ z) own (news.map (·.1)) { s with heap := h, toks := tk } Q) E { s with heap := h, toks := tk })
    (done : ∀ (u : Str → Option Value) (h : Heap) (tk : Nat), Fr h₀ env.locals h (over stored u m₀) → News h₀ env.locals h news → Q .next { s with heap := h, toks := tk }) :
    wpAny (model prog w) A (pyIter (.ref l)) (fun it s₂ => LoopAtV prog w A h₀ env x body Q E it s₂) E s := by
  refine iter_invNL (fun _ m nx => nx = news ∧ ∀ z, stored.contains z = false → m z = m₀ z) hh hl hi F N ⟨rfl, fun _ _ => rfl⟩ ?_ ?_
  · rintro i n t m₁ nx h tk own hn _ hoff _ ⟨rfl, hm⟩ F₁ N₁
    have e := over_of hm
    rw [e] at F₁
    refine wpAny_mono (turn i n t m₁ h tk own hn hoff F₁ N₁) (fun f s₂ p => ?_) fun _ _ x => x
    have up : InvEndN h₀ env.locals (fun m' nx' => nx' = nx ∧ ∀ z, stored.contains z = false → m' z = m₀ z) own (nx.map (·.1)) { s with heap := h, toks := tk } s₂ →
        InvEndN h₀ env.locals (fun m' nx' => (l, listOf vs.toArray nn) ∈ nx' ∧ nx' = nx ∧ ∀ z, stored.contains z = false → m' z = m₀ z) own (nx.map (·.1)) { s with heap := h, toks := tk } s₂ := by
      rintro ⟨h', tk', m', news', nx', e', F', N', hn', ho', ha, rfl, hm'⟩
      exact ⟨h', tk', m', news', nx', e', F', N', hn', ho', ha, hl, rfl, hm'⟩
    cases f with
    | ret v => exact p
    | brk => exact p
    | next => exact up p
    | cont => exact up p
  · rintro m₁ nx h tk _ ⟨rfl, hm⟩ F₁ N₁
    rw [over_of hm] at F₁
    exact done m₁ h tk F₁ N₁
end
end Mine
end
noncomputable section
open PySem PySem.W PyProof.Rows PySem.Spec PySem.Calls
set_option Elab.async false
set_option maxRecDepth 100000
set_option maxHeartbeats 4000000
namespace Mine
/-- the law's statements, its names: read off the row -/
def stmtAt (p : Program) (k i : Nat) : Stmt := match p.main.body[k]? with
  | some (.FunctionDef _ _ b _ _ _ _ _ _ _) => (b[i]?).getD (.Pass default)
  | _ => .Pass default
def scopeAt (p : Program) (k : Nat) : Scope := match p.main.body[k]? with
  | some (.FunctionDef _ _ _ _ _ _ sc _ _ _) => sc
  | _ => default
abbrev lawEnv (L fa : Addr) (cd : Value) : Env := envOfC (Str.ofString "law") (scopeAt PySem.Challenge.rw_ix0026_02.row.prog 15) L fa cd
def mA (L fa : Addr) (cd : Value) (l : Addr) (tp : Tok) : Str → Option Value := fun y => if y = Str.ofString "prime" then some (.int 8380417 tp) else
  bindL (lawEnv L fa cd).kindOf [(Str.ofString "script", .ref l)] (fun _ => none) y
def mB (L fa : Addr) (cd : Value) (l : Addr) (tp : Tok) (P : Addr) : Str → Option Value := fun y => if y = Str.ofString "pairs" then some (.ref P) else mA L fa cd l tp y
abbrev ringLed (P : Params) (D x d a b : Addr) (t1 t2 t3 t4 t5 t6 t7 t8 t9 : Tok) (ys : List Value) (r : List (Addr × Obj)) : List (Addr × Obj) :=
  (D, LCg.lst ys) :: (x, instObj 392 d) :: (d, dictOf [⟨PyData.keyHash P (Str.ofString "q"), .str (Str.ofString "q") t1, .int 8380417 t2⟩, ⟨PyData.keyHash P (Str.ofString "n"), .str (Str.ofString "n") t3, .int 256 t4⟩,
        ⟨PyData.keyHash P (Str.ofString "shake128"), .str (Str.ofString "shake128") t5, .ref a⟩, ⟨PyData.keyHash P (Str.ofString "shake256"), .str (Str.ofString "shake256") t6, .ref b⟩,
        ⟨PyData.keyHash P (Str.ofString "ntt_zetas"), .str (Str.ofString "ntt_zetas") t7, .ref D⟩, ⟨PyData.keyHash P (Str.ofString "ntt_f"), .str (Str.ofString "ntt_f") t8, .int 8347681 t9⟩] 6) :: r
end Mine
end
noncomputable section
open PySem PySem.W PyProof.Rows PySem.Spec PySem.Calls
set_option Elab.async false
set_option maxRecDepth 100000
set_option maxHeartbeats 4000000
local macro_rules | `(tactic| k_room) => `(tactic| ktr_room)
local macro_rules | `(tactic| k_enter) => `(tactic| first
  | (refine' code_def ?k1 ?k2 ?k3 ?k4 ?k5 ?kA ?kF ?kK ?k6 ?k7 ?k8 ?k9 ?kB ?_ ?c2 ?c3 ?c4 ?c5; (case kA => exact rfl); (case kF => exact rfl); (case kK => first | exact rfl | assumption); (case k1 => k_asm); (case k2 => k_asm); (case k3 => k_asm); (case k4 => k_asm); (case k5 => k_asm); (case k6 => k_is); (case k7 => k_is); (case k8 => ktr_room); (case k9 => first | exact BindsTo.of_eq rfl | exact binds_K (by k_in) rfl (by k_is) rfl rfl rfl | fail "k_enter: no rule for these arguments"); (case c5 => decide); (case kB => exact locs rfl); (case c2 => exact rfl); (case c3 => exact rfl); (case c4 => exact rfl); k_whole; intro g' L' h' FG' F' N' B' X' T'; (try dsimp only); (try k_lift B'); (try k_fold))
  | (refine' code_defC ?k1 ?k2 ?k3 ?k4 ?k5 ?kA ?kF ?kK ?k6 ?k7 ?k8 ?k9 ?kB ?kD ?_ ?c2 ?c3 ?c4; (case kA => exact rfl); (case kF => exact rfl); (case kK => first | exact rfl | assumption); (case k1 => k_asm); (case k2 => k_asm); (case k3 => k_asm); (case k4 => k_asm); (case k5 => k_asm); (case k6 => k_is); (case k7 => k_is); (case k8 => ktr_room); (case k9 => first | exact BindsTo.of_eq rfl | exact binds_K (by k_in) rfl (by k_is) rfl rfl rfl | fail "k_enter: no rule for these arguments"); (case kB => exact rfl); (case kD => decide +kernel); (case c2 => exact rfl); (case c3 => exact rfl); (case c4 => exact rfl); k_whole; intro g' L' h' tk' cells' FG' F' N' Y' B' X' T' l1; (try k_lt l1); k_cells Y'; (try simp only [List.cons_append, List.nil_append] at N'); (try dsimp only); (try k_lift B'); (try k_fold)))
local macro_rules | `(tactic| walk_at "getMethod ref") => `(tactic| (k_here; (with_reducible show wpAny _ _ (getMethod (Value.ref _) (PySem.Str.ofString "br") _) _ _ _); k_dflt (
  refine' kmu_sm ?k1 ?k2 ?k4 ?k5 ?k6 ?k7 ?k8 ?k9 ?k10 ?k11 ?k12 ?k13 ?k14 ?_; (case k1 => k_asm); (case k2 => k_asm); (case k4 => k_inst); (case k5 => k_is); (case k6 => k_is); (case k7 => k_is); (case k8 => k_is); (case k9 => k_is); (case k10 => k_is); (case k11 => decide +kernel); (case k12 => k_get); (case k13 => k_is); (case k14 => k_handed); k_whole)))
local macro_rules | `(tactic| walk_at "call ref") => `(tactic| (k_here; k_dflt (refine' Mine.br_call ?k1 ?k2 ?k3 ?k4 ?k5 ?kK ?k6 ?k7 ?kd ?_; (case k1 => k_asm); (case k2 => k_asm); (case k3 => k_asm); (case k4 => k_asm); (case k5 => k_asm); (case kK => first | exact rfl | assumption); (case k6 => first | decide | omega | l_fact); (case k7 => first | decide | omega | l_fact); (case kd => ktr_room)); intro t9 h9 tk9 F9 N9; (try dsimp only)))
local macro_rules | `(tactic| walk_at "call builtin:pow") => `(tactic| (k_dflt (refine Mine.call_pw (by first | decide | exact Mine.rev_nonneg _ _ | omega) ?_); (try dsimp only)))
local macro_rules | `(tactic| walk_at "call builtin:pow") => `(tactic| (k_dflt (refine Mine.call_inv256 ?_); (try dsimp only)))
local macro_rules | `(tactic| k_steps) => `(tactic| repeat' (first | (k_unfold; (try dsimp only)) | walk1 | (dsimp only; walk1) | fail "no step"))
local macro_rules | `(tactic| walk_at "MidL") => `(tactic| (k_dflt (refine' Mine.MidL.done ?k1 ?k2 ?k3 ?k4 ?k5 ?k6; (case k1 => assumption); (case k2 => assumption); (case k3 => kcj_all); (case k4 => l_ints); (case k5 => ((try simp only [List.length_take, List.length_append, List.length_cons, List.length_nil, List.length_map]); first | omega | assumption)); (case k6 => ((simp only [Mine.AllNe, and_true]); omega)))))
local macro_rules | `(tactic| walk_at "subscriptTail BinOp") => `(tactic| (k_here; (with_reducible show wpAny _ _ (subscriptTail _ (PySem.Expr.Slice _ _ none _) (Value.ref _) (Value.ref _)) _ _ _); k_dflt (refine' Mine.cut_temp ?F ?N ?l ?p ?q ?m ?_ ?s ?z; (case F => k_asm); (case N => k_asm); (case l => kmk_list); (case p => kmk_part); (case q => kmk_part); (case m => kmk_nums); (case s => with_unfolding_all rfl); (case z => kmk_size)); intro D' ws' h' F' N' l1 hI'; (try simp only [Int.reduceNeg, Int.neg_neg, Int.reduceToNat] at hI'); (try k_lt l1); (try k_sweep)))
local macro_rules | `(tactic| walk_at "call ref") => `(tactic| (k_here; k_dflt (refine' Mine.turned_call ?k1 ?k2 ?k3 ?k4 ?k5 ?kK ?k6 ?k7 ?kd ?_; (case k1 => k_asm); (case k2 => k_asm); (case k3 => k_asm); (case k4 => k_asm); (case k5 => k_asm); (case kK => first | exact rfl | assumption); (case k6 => first | decide | omega | l_fact); (case k7 => first | decide | omega | l_fact); (case kd => ktr_room)); intro t9 h9 tk9 F9 N9; (try dsimp only)))
local macro_rules | `(tactic| walk) => `(tactic| ((try dsimp only); repeat (first | (k_unfold; (try dsimp only)) | ((fail_if_success (with_reducible refine ite_neg ?_ ?_)); (fail_if_success (with_reducible show UnrPost _ _ _ _ _ _ _ _ _)); walk1) | ((fail_if_success (with_reducible refine ite_neg ?_ ?_)); (fail_if_success (with_reducible show UnrPost _ _ _ _ _ _ _ _ _)); dsimp only; walk1))))
local macro_rules | `(tactic| k_units) => `(tactic| ktr_units)
namespace Mine
theorem small_pairs : ∀ n : Nat, n < 17 → Builtin.Range.small 0 ((n : Int) - 1) 2 = true := by decide +kernel
theorem stmt3 {pv : Program} {w : World} {loose : List Str} {mean : ExcName → Option Value} {mg mb : Str → Option Value} {h₀ : Heap} {L fa : Addr} {cd : Value} {s : Shared} {Q : Flow → Shared → Prop}
    {l P D x d a b : Addr} {tp t1 t2 t3 t4 t5 t6 t7 t8 t9 : Tok} {ys vs : List Value} {ps : List Int} {np : Nat} {o1 o2 o3 : Obj} {v2 v3 : Option Value}
    (K0 : Below callerA h₀ [] h₀) (F : Fr h₀ L s.heap (mB L fa cd l tp P)) (X : (hd.heap_39 w.params).In h₀) (T : Top pv loose mean mg mb h₀)
    (N : News h₀ L s.heap ((P, { cls := .type "list", data := .seq vs.toArray np }) :: ringLed w.params D x d a b t1 t2 t3 t4 t5 t6 t7 t8 t9 ys [(L + 1 + 1 + 1, o3), (L + 1 + 1, o2), (L + 1, o1)]))
    (IP : IntsAre vs ps) (cP : 2 ≤ ps.length ∧ ps.length ≤ 16) (d1 : o1.data = .cell (some (.ref x))) (d2 : o2.data = .cell v2) (d3 : o3.data = .cell v3)
    (n1 : @Ne Nat D P ∧ @Ne Nat x P ∧ @Ne Nat d P ∧ @Ne Nat (L + 1 + 1 + 1) P ∧ @Ne Nat (L + 1 + 1) P ∧ @Ne Nat (L + 1) P)
    (n2 : @LT.lt Nat _ d x) (n3 : @Ne Nat D x) (n4 : @Ne Nat D d) (n5 : @Ne Nat (L + 1 + 1 + 1) D ∧ @Ne Nat (L + 1 + 1) D ∧ @Ne Nat (L + 1) D) (n6 : @LT.lt Nat _ (L + 1 + 1 + 1) d ∧ @LT.lt Nat _ (L + 1 + 1) d ∧ @LT.lt Nat _ (L + 1) d)
    (ret : ∀ (u : Str → Option Value) (o2 o3 : Obj) (v2 v3 : Option Value) (h' : Heap) (tk' : Nat), Fr h₀ L h' (over [Str.ofString "k", Str.ofString "told"] u (mB L fa cd l tp P)) →
      News h₀ L h' ((P, { cls := .type "list", data := .seq vs.toArray np }) :: ringLed w.params D x d a b t1 t2 t3 t4 t5 t6 t7 t8 t9 ys [(L + 1 + 1 + 1, o3), (L + 1 + 1, o2), (L + 1, o1)]) →
      o2.data = .cell v2 → o3.data = .cell v3 → Q .next { s with heap := h', toks := tk' }) :
    wpAny (model PySem.Challenge.rw_ix0026_02.row.prog w) (callerA.deeper (lawEnv L fa cd)) (exec (stmtAt PySem.Challenge.rw_ix0026_02.row.prog 15 3) (lawEnv L fa cd)) Q (fun _ _ => False) s := by
  (conv => enter [3, 1]; whnf)
  dsimp only [ringLed] at N

  w_strict (iterate 21 (first | (k_unfold; (try dsimp only)) | walk1 | (dsimp only; walk1) | (leave1; (try dsimp only))))
  rename IsRange _ _ _ _ _ _ _ _ => R1
  rename Fr _ _ _ _ => F1
  rename News _ _ _ _ => N1
  refine range_loop [Str.ofString "k", Str.ofString "told"] (fun _ nw => ∃ (o2 o3 : Obj) (v2 v3 : Option Value), nw = ((P, { cls := .type "list", data := .seq vs.toArray np }) :: ringLed w.params D x d a b t1 t2 t3 t4 t5 t6 t7 t8 t9 ys [(L + 1 + 1 + 1, o3), (L + 1 + 1, o2), (L + 1, o1)]) ∧ o2.data = .cell v2 ∧ o3.data = .cell v3) (ps.length / 2)
    rfl R1 ?small ?size F1 N1 ⟨o2, o3, v2, v3, rfl, d2, d3⟩ rfl ?turn ?done
  case small => exact small_pairs _ (by omega)
  case size =>
    show (if (2 : Int) > 0 then _ else _) = _
    rw [if_pos (by decide)]
    split <;> omega
  case done =>
    intro u nw h' tk' hJ F2 N2
    obtain ⟨o2', o3', v2', v3', rfl, e2, e3⟩ := hJ
    exact ret u o2' o3' v2' v3' h' tk' F2 N2 e2 e3
  case turn =>
    intro i u nw I h' tk' t hi hJ off F2 N2
    obtain ⟨o2', o3', v2', v3', rfl, e2, e3⟩ := hJ
    simp only [AllNe, and_true] at off
    clear F1 N1 R1
    dsimp only [ringLed] at N2
    dsimp only
    w_strict (iterate 68 (first | (k_unfold; (try dsimp only)) | walk1 | (dsimp only; walk1) | (leave1; (try dsimp only))))
    refine ite_neg (by simp) ?_
    w_strict (iterate 22 (first | (k_unfold; (try dsimp only)) | walk1 | (dsimp only; walk1) | (leave1; (try dsimp only))))
    refine ite_neg (by rw [rev_back]; simp) ?_
    w_strict (iterate 5 (first | (k_unfold; (try dsimp only)) | walk1 | (dsimp only; walk1) | (leave1; (try dsimp only))))
    dsimp only [UnrPost]
    rename Fr _ _ _ _ => Fe
    rename News _ _ _ _ => Ne
    refine' UnrEnd.intro Fe Ne ((P, _) :: ringLed w.params D x d a b t1 t2 t3 t4 t5 t6 t7 t8 t9 ys [(L + 1 + 1 + 1, _), (L + 1 + 1, _), (L + 1, o1)]) ?sub ?off ?r
    case sub => kcj_all
    case off => 
      obtain ⟨q1, q2, q3, q4, q5, q6, q7⟩ := off
      exact List.forall_mem_cons.mpr ⟨q1, List.forall_mem_cons.mpr ⟨q2, List.forall_mem_cons.mpr ⟨q3, List.forall_mem_cons.mpr ⟨q4, List.forall_mem_cons.mpr ⟨q5, List.forall_mem_cons.mpr ⟨q6, List.forall_mem_cons.mpr ⟨q7, List.forall_mem_nil _⟩⟩⟩⟩⟩⟩⟩
    refine' ⟨?same, _, _, _, _, rfl, ?w2, ?w3⟩
    case same => 
      intro z hz
      have hz1 : z ≠ Str.ofString "k" := by rintro rfl; simp at hz
      have hz2 : z ≠ Str.ofString "told" := by rintro rfl; simp at hz
      simp only [if_neg hz1, if_neg hz2]
      unfold over
      rw [hz]; rfl
    case w2 => assumption
    case w3 => assumption
end Mine
end
noncomputable section
open PySem PySem.W PyProof.Rows PySem.Spec PySem.Calls
set_option Elab.async false
set_option maxRecDepth 100000
set_option maxHeartbeats 4000000
local macro_rules | `(tactic| k_room) => `(tactic| ktr_room)
local macro_rules | `(tactic| k_enter) => `(tactic| first
  | (refine' code_def ?k1 ?k2 ?k3 ?k4 ?k5 ?kA ?kF ?kK ?k6 ?k7 ?k8 ?k9 ?kB ?_ ?c2 ?c3 ?c4 ?c5; (case kA => exact rfl); (case kF => exact rfl); (case kK => first | exact rfl | assumption); (case k1 => k_asm); (case k2 => k_asm); (case k3 => k_asm); (case k4 => k_asm); (case k5 => k_asm); (case k6 => k_is); (case k7 => k_is); (case k8 => ktr_room); (case k9 => first | exact BindsTo.of_eq rfl | exact binds_K (by k_in) rfl (by k_is) rfl rfl rfl | fail "k_enter: no rule for these arguments"); (case c5 => decide); (case kB => exact locs rfl); (case c2 => exact rfl); (case c3 => exact rfl); (case c4 => exact rfl); k_whole; intro g' L' h' FG' F' N' B' X' T'; (try dsimp only); (try k_lift B'); (try k_fold))
  | (refine' code_defC ?k1 ?k2 ?k3 ?k4 ?k5 ?kA ?kF ?kK ?k6 ?k7 ?k8 ?k9 ?kB ?kD ?_ ?c2 ?c3 ?c4; (case kA => exact rfl); (case kF => exact rfl); (case kK => first | exact rfl | assumption); (case k1 => k_asm); (case k2 => k_asm); (case k3 => k_asm); (case k4 => k_asm); (case k5 => k_asm); (case k6 => k_is); (case k7 => k_is); (case k8 => ktr_room); (case k9 => first | exact BindsTo.of_eq rfl | exact binds_K (by k_in) rfl (by k_is) rfl rfl rfl | fail "k_enter: no rule for these arguments"); (case kB => exact rfl); (case kD => decide +kernel); (case c2 => exact rfl); (case c3 => exact rfl); (case c4 => exact rfl); k_whole; intro g' L' h' tk' cells' FG' F' N' Y' B' X' T' l1; (try k_lt l1); k_cells Y'; (try simp only [List.cons_append, List.nil_append] at N'); (try dsimp only); (try k_lift B'); (try k_fold)))
local macro_rules | `(tactic| walk_at "getMethod ref") => `(tactic| (k_here; (with_reducible show wpAny _ _ (getMethod (Value.ref _) (PySem.Str.ofString "br") _) _ _ _); k_dflt (
  refine' kmu_sm ?k1 ?k2 ?k4 ?k5 ?k6 ?k7 ?k8 ?k9 ?k10 ?k11 ?k12 ?k13 ?k14 ?_; (case k1 => k_asm); (case k2 => k_asm); (case k4 => k_inst); (case k5 => k_is); (case k6 => k_is); (case k7 => k_is); (case k8 => k_is); (case k9 => k_is); (case k10 => k_is); (case k11 => decide +kernel); (case k12 => k_get); (case k13 => k_is); (case k14 => k_handed); k_whole)))
local macro_rules | `(tactic| walk_at "call ref") => `(tactic| (k_here; k_dflt (refine' Mine.br_call ?k1 ?k2 ?k3 ?k4 ?k5 ?kK ?k6 ?k7 ?kd ?_; (case k1 => k_asm); (case k2 => k_asm); (case k3 => k_asm); (case k4 => k_asm); (case k5 => k_asm); (case kK => first | exact rfl | assumption); (case k6 => first | decide | omega | l_fact); (case k7 => first | decide | omega | l_fact); (case kd => ktr_room)); intro t9 h9 tk9 F9 N9; (try dsimp only)))
local macro_rules | `(tactic| walk_at "call builtin:pow") => `(tactic| (k_dflt (refine Mine.call_pw (by first | decide | exact Mine.rev_nonneg _ _ | omega) ?_); (try dsimp only)))
local macro_rules | `(tactic| walk_at "call builtin:pow") => `(tactic| (k_dflt (refine Mine.call_inv256 ?_); (try dsimp only)))
local macro_rules | `(tactic| k_steps) => `(tactic| repeat' (first | (k_unfold; (try dsimp only)) | walk1 | (dsimp only; walk1) | fail "no step"))
local macro_rules | `(tactic| walk_at "MidL") => `(tactic| (k_dflt (refine' Mine.MidL.done ?k1 ?k2 ?k3 ?k4 ?k5 ?k6; (case k1 => assumption); (case k2 => assumption); (case k3 => kcj_all); (case k4 => l_ints); (case k5 => ((try simp only [List.length_take, List.length_append, List.length_cons, List.length_nil, List.length_map]); first | omega | assumption)); (case k6 => ((simp only [Mine.AllNe, and_true]); omega)))))
local macro_rules | `(tactic| walk_at "subscriptTail BinOp") => `(tactic| (k_here; (with_reducible show wpAny _ _ (subscriptTail _ (PySem.Expr.Slice _ _ none _) (Value.ref _) (Value.ref _)) _ _ _); k_dflt (refine' Mine.cut_temp ?F ?N ?l ?p ?q ?m ?_ ?s ?z; (case F => k_asm); (case N => k_asm); (case l => kmk_list); (case p => kmk_part); (case q => kmk_part); (case m => kmk_nums); (case s => with_unfolding_all rfl); (case z => kmk_size)); intro D' ws' h' F' N' l1 hI'; (try simp only [Int.reduceNeg, Int.neg_neg, Int.reduceToNat] at hI'); (try k_lt l1); (try k_sweep)))
local macro_rules | `(tactic| walk_at "call ref") => `(tactic| (k_here; k_dflt (refine' Mine.turned_call ?k1 ?k2 ?k3 ?k4 ?k5 ?kK ?k6 ?k7 ?kd ?_; (case k1 => k_asm); (case k2 => k_asm); (case k3 => k_asm); (case k4 => k_asm); (case k5 => k_asm); (case kK => first | exact rfl | assumption); (case k6 => first | decide | omega | l_fact); (case k7 => first | decide | omega | l_fact); (case kd => ktr_room)); intro t9 h9 tk9 F9 N9; (try dsimp only)))
local macro_rules | `(tactic| walk) => `(tactic| ((try dsimp only); repeat (first | (k_unfold; (try dsimp only)) | ((fail_if_success (with_reducible refine ite_neg ?_ ?_)); (fail_if_success (with_reducible show UnrPost _ _ _ _ _ _ _ _ _)); walk1) | ((fail_if_success (with_reducible refine ite_neg ?_ ?_)); (fail_if_success (with_reducible show UnrPost _ _ _ _ _ _ _ _ _)); dsimp only; walk1))))
local macro_rules | `(tactic| k_units) => `(tactic| ktr_units)
namespace Mine
def mC (L fa : Addr) (cd : Value) (l : Addr) (tp : Tok) (P : Addr) (u : Str → Option Value) : Str → Option Value := over [Str.ofString "k", Str.ofString "told"] u (mB L fa cd l tp P)
def mD (L fa : Addr) (cd : Value) (l : Addr) (tp : Tok) (P : Addr) (u : Str → Option Value) (D : Addr) : Str → Option Value := fun y => if y = Str.ofString "roots" then some (.ref D) else mC L fa cd l tp P u y
theorem stmt7 {pv : Program} {w : World} {loose : List Str} {mean : ExcName → Option Value} {mg mb : Str → Option Value} {h₀ : Heap} {L fa : Addr} {cd : Value} {s : Shared} {Q : Flow → Shared → Prop} {u : Str → Option Value}
    {l P D x d a b : Addr} {tp t1 t2 t3 t4 t5 t6 t7 t8 t9 : Tok} {ys : List Value} {R : List Int} {o1 o2 o3 : Obj}
    (K0 : Below callerA h₀ [] h₀) (F : Fr h₀ L s.heap (mD L fa cd l tp P u D)) (X : (hd.heap_39 w.params).In h₀) (T : Top pv loose mean mg mb h₀)
    (N : News h₀ L s.heap (ringLed w.params D x d a b t1 t2 t3 t4 t5 t6 t7 t8 t9 ys [(L + 1 + 1 + 1, o3), (L + 1 + 1, o2), (L + 1, o1)]))
    (IR : IntsAre ys R) (hlen : R.length = 256) (h0 : R.getD 0 0 = 1) (h1 : (R.getD 1 0 * R.getD 1 0).fmod 8380417 = 8380416) (hbd : ∀ i, i < 256 → 1 ≤ R.getD i 0 ∧ R.getD i 0 < 8380417) (hnd : R.Nodup) (d1 : o1.data = .cell (some (.ref x)))
    (n2 : @LT.lt Nat _ d x) (n3 : @Ne Nat D x) (n4 : @Ne Nat D d) (n5 : @Ne Nat (L + 1 + 1 + 1) D ∧ @Ne Nat (L + 1 + 1) D ∧ @Ne Nat (L + 1) D) (n6 : @LT.lt Nat _ (L + 1 + 1 + 1) d ∧ @LT.lt Nat _ (L + 1 + 1) d ∧ @LT.lt Nat _ (L + 1) d)
    (ret : ∀ (h' : Heap) (tk' : Nat), Fr h₀ L h' (mD L fa cd l tp P u D) →
      News h₀ L h' (ringLed w.params D x d a b t1 t2 t3 t4 t5 t6 t7 t8 t9 ys [(L + 1 + 1 + 1, o3), (L + 1 + 1, o2), (L + 1, o1)]) → Q .next { s with heap := h', toks := tk' }) :
    wpAny (model PySem.Challenge.rw_ix0026_02.row.prog w) (callerA.deeper (lawEnv L fa cd)) (exec (stmtAt PySem.Challenge.rw_ix0026_02.row.prog 15 7) (lawEnv L fa cd)) Q (fun _ _ => False) s := by
  (conv => enter [3, 1]; whnf)
  dsimp only [ringLed] at N
  w_strict walk
  refine ite_neg (by simp [hlen]) ?_
  dsimp only
  w_strict walk
  refine ite_neg (by show ¬ ((R.getD 0 0 != 1) = true); rw [h0]; decide) ?_
  dsimp only
  have hb1 := hbd (Int.toNat 1) (by decide)
  w_strict walk
  refine ite_neg (by show ¬ (((R.getD 1 0 * R.getD 1 0).fmod 8380417 != 8380417 - 1) = true); rw [h1]; decide) ?_
  dsimp only
  w_strict (iterate 12 (first | (k_unfold; (try dsimp only)) | walk1 | (dsimp only; walk1) | (leave1; (try dsimp only))))
  rename Fr _ _ _ _ => F1
  rename News _ _ _ _ => N1
  refine set_nodup F1 N1 rfl (by is_list) IR hnd (by omega) fun S h5 tk5 o k F5 N5 hS => ?_
  clear F1 N1
  dsimp only
  w_strict (iterate 1 (first | (k_unfold; (try dsimp only)) | walk1 | (dsimp only; walk1) | (leave1; (try dsimp only))))
  refine PyProof.Rows.len_sl1 (own := []) N5 hS (by omega) ?_
  dsimp only
  w_strict walk
  refine ite_neg (by simp [hlen]) ?_
  dsimp only
  w_strict walk
  refine ite_neg (by decide) ?_
  w_strict walk
  exact ret _ _ F5 (cb_drop N5 (by kcj_all))

theorem stmt8 {pv : Program} {w : World} {loose : List Str} {mean : ExcName → Option Value} {mg mb : Str → Option Value} {h₀ : Heap} {L fa : Addr} {cd : Value} {s : Shared} {Q : Flow → Shared → Prop} {u : Str → Option Value}
    {l P D x d a b : Addr} {tp t1 t2 t3 t4 t5 t6 t7 t8 t9 : Tok} {ys : List Value} {R : List Int} {o1 o2 o3 : Obj}
    (K0 : Below callerA h₀ [] h₀) (F : Fr h₀ L s.heap (mD L fa cd l tp P u D)) (X : (hd.heap_39 w.params).In h₀) (T : Top pv loose mean mg mb h₀)
    (N : News h₀ L s.heap (ringLed w.params D x d a b t1 t2 t3 t4 t5 t6 t7 t8 t9 ys [(L + 1 + 1 + 1, o3), (L + 1 + 1, o2), (L + 1, o1)]))
    (IR : IntsAre ys R) (hlen : R.length = 256) (hbd : ∀ v ∈ R, 1 ≤ v ∧ v < 8380417) (d1 : o1.data = .cell (some (.ref x)))
    (n2 : @LT.lt Nat _ d x) (n3 : @Ne Nat D x) (n4 : @Ne Nat D d) (n5 : @Ne Nat (L + 1 + 1 + 1) D ∧ @Ne Nat (L + 1 + 1) D ∧ @Ne Nat (L + 1) D) (n6 : @LT.lt Nat _ (L + 1 + 1 + 1) d ∧ @LT.lt Nat _ (L + 1 + 1) d ∧ @LT.lt Nat _ (L + 1) d)
    (ret : ∀ (h' : Heap) (tk' : Nat), Fr h₀ L h' (mD L fa cd l tp P u D) →
      News h₀ L h' (ringLed w.params D x d a b t1 t2 t3 t4 t5 t6 t7 t8 t9 ys [(L + 1 + 1 + 1, o3), (L + 1 + 1, o2), (L + 1, o1)]) → Q .next { s with heap := h', toks := tk' }) :
    wpAny (model PySem.Challenge.rw_ix0026_02.row.prog w) (callerA.deeper (lawEnv L fa cd)) (exec (stmtAt PySem.Challenge.rw_ix0026_02.row.prog 15 8) (lawEnv L fa cd)) Q (fun _ _ => False) s := by
  (conv => enter [3, 1]; whnf)
  dsimp only [ringLed] at N
  w_strict (iterate 9 (first | (k_unfold; (try dsimp only)) | walk1 | (dsimp only; walk1) | (leave1; (try dsimp only))))
  refine min_list_N rfl (by assumption) (by assumption) (by is_list) IR (by omega) fun h5 M t5 tk5 F5 N5 hM _ => ?_
  have bM := hbd M hM
  (try dsimp only)
  w_strict walk
  refine ite_neg (by simp; omega) ?_
  w_strict (iterate 8 (first | (k_unfold; (try dsimp only)) | walk1 | (dsimp only; walk1) | (leave1; (try dsimp only))))
  refine max_list_N rfl (by assumption) (by assumption) (by is_list) IR (by omega) fun h6 M6 t6 tk6 F6 N6 hM6 _ => ?_
  have bM6 := hbd M6 hM6
  (try dsimp only)
  w_strict walk
  refine ite_neg (by simp; omega) ?_
  w_strict walk
  refine ite_neg (by decide) ?_
  w_strict walk
  refine ite_neg (by decide) ?_
  w_strict walk
  refine ite_neg (by decide) ?_
  w_strict walk
  exact ret _ _ (by assumption) (cb_drop (by assumption) (by kcj_all))
end Mine
end
noncomputable section
open PySem PySem.W PyProof.Rows PySem.Spec PySem.Calls
set_option Elab.async false
set_option maxRecDepth 100000
set_option maxHeartbeats 4000000
local macro_rules | `(tactic| k_room) => `(tactic| ktr_room)
local macro_rules | `(tactic| k_enter) => `(tactic| first
  | (refine' code_def ?k1 ?k2 ?k3 ?k4 ?k5 ?kA ?kF ?kK ?k6 ?k7 ?k8 ?k9 ?kB ?_ ?c2 ?c3 ?c4 ?c5; (case kA => exact rfl); (case kF => exact rfl); (case kK => first | exact rfl | assumption); (case k1 => k_asm); (case k2 => k_asm); (case k3 => k_asm); (case k4 => k_asm); (case k5 => k_asm); (case k6 => k_is); (case k7 => k_is); (case k8 => ktr_room); (case k9 => first | exact BindsTo.of_eq rfl | exact binds_K (by k_in) rfl (by k_is) rfl rfl rfl | fail "k_enter: no rule for these arguments"); (case c5 => decide); (case kB => exact locs rfl); (case c2 => exact rfl); (case c3 => exact rfl); (case c4 => exact rfl); k_whole; intro g' L' h' FG' F' N' B' X' T'; (try dsimp only); (try k_lift B'); (try k_fold))
  | (refine' code_defC ?k1 ?k2 ?k3 ?k4 ?k5 ?kA ?kF ?kK ?k6 ?k7 ?k8 ?k9 ?kB ?kD ?_ ?c2 ?c3 ?c4; (case kA => exact rfl); (case kF => exact rfl); (case kK => first | exact rfl | assumption); (case k1 => k_asm); (case k2 => k_asm); (case k3 => k_asm); (case k4 => k_asm); (case k5 => k_asm); (case k6 => k_is); (case k7 => k_is); (case k8 => ktr_room); (case k9 => first | exact BindsTo.of_eq rfl | exact binds_K (by k_in) rfl (by k_is) rfl rfl rfl | fail "k_enter: no rule for these arguments"); (case kB => exact rfl); (case kD => decide +kernel); (case c2 => exact rfl); (case c3 => exact rfl); (case c4 => exact rfl); k_whole; intro g' L' h' tk' cells' FG' F' N' Y' B' X' T' l1; (try k_lt l1); k_cells Y'; (try simp only [List.cons_append, List.nil_append] at N'); (try dsimp only); (try k_lift B'); (try k_fold)))
local macro_rules | `(tactic| walk_at "getMethod ref") => `(tactic| (k_here; (with_reducible show wpAny _ _ (getMethod (Value.ref _) (PySem.Str.ofString "br") _) _ _ _); k_dflt (
  refine' kmu_sm ?k1 ?k2 ?k4 ?k5 ?k6 ?k7 ?k8 ?k9 ?k10 ?k11 ?k12 ?k13 ?k14 ?_; (case k1 => k_asm); (case k2 => k_asm); (case k4 => k_inst); (case k5 => k_is); (case k6 => k_is); (case k7 => k_is); (case k8 => k_is); (case k9 => k_is); (case k10 => k_is); (case k11 => decide +kernel); (case k12 => k_get); (case k13 => k_is); (case k14 => k_handed); k_whole)))
local macro_rules | `(tactic| walk_at "call ref") => `(tactic| (k_here; k_dflt (refine' Mine.br_call ?k1 ?k2 ?k3 ?k4 ?k5 ?kK ?k6 ?k7 ?kd ?_; (case k1 => k_asm); (case k2 => k_asm); (case k3 => k_asm); (case k4 => k_asm); (case k5 => k_asm); (case kK => first | exact rfl | assumption); (case k6 => first | decide | omega | l_fact); (case k7 => first | decide | omega | l_fact); (case kd => ktr_room)); intro t9 h9 tk9 F9 N9; (try dsimp only)))
local macro_rules | `(tactic| walk_at "call builtin:pow") => `(tactic| (k_dflt (refine Mine.call_pw (by first | decide | exact Mine.rev_nonneg _ _ | omega) ?_); (try dsimp only)))
local macro_rules | `(tactic| walk_at "call builtin:pow") => `(tactic| (k_dflt (refine Mine.call_inv256 ?_); (try dsimp only)))
local macro_rules | `(tactic| k_steps) => `(tactic| repeat' (first | (k_unfold; (try dsimp only)) | walk1 | (dsimp only; walk1) | fail "no step"))
local macro_rules | `(tactic| walk_at "MidL") => `(tactic| (k_dflt (refine' Mine.MidL.done ?k1 ?k2 ?k3 ?k4 ?k5 ?k6; (case k1 => assumption); (case k2 => assumption); (case k3 => kcj_all); (case k4 => l_ints); (case k5 => ((try simp only [List.length_take, List.length_append, List.length_cons, List.length_nil, List.length_map]); first | omega | assumption)); (case k6 => ((simp only [Mine.AllNe, and_true]); omega)))))
local macro_rules | `(tactic| walk_at "subscriptTail BinOp") => `(tactic| (k_here; (with_reducible show wpAny _ _ (subscriptTail _ (PySem.Expr.Slice _ _ none _) (Value.ref _) (Value.ref _)) _ _ _); k_dflt (refine' Mine.cut_temp ?F ?N ?l ?p ?q ?m ?_ ?s ?z; (case F => k_asm); (case N => k_asm); (case l => kmk_list); (case p => kmk_part); (case q => kmk_part); (case m => kmk_nums); (case s => with_unfolding_all rfl); (case z => kmk_size)); intro D' ws' h' F' N' l1 hI'; (try simp only [Int.reduceNeg, Int.neg_neg, Int.reduceToNat] at hI'); (try k_lt l1); (try k_sweep)))
local macro_rules | `(tactic| walk_at "call ref") => `(tactic| (k_here; k_dflt (refine' Mine.turned_call ?k1 ?k2 ?k3 ?k4 ?k5 ?kK ?k6 ?k7 ?kd ?_; (case k1 => k_asm); (case k2 => k_asm); (case k3 => k_asm); (case k4 => k_asm); (case k5 => k_asm); (case kK => first | exact rfl | assumption); (case k6 => first | decide | omega | l_fact); (case k7 => first | decide | omega | l_fact); (case kd => ktr_room)); intro t9 h9 tk9 F9 N9; (try dsimp only)))
local macro_rules | `(tactic| walk) => `(tactic| ((try dsimp only); repeat (first | (k_unfold; (try dsimp only)) | ((fail_if_success (with_reducible refine ite_neg ?_ ?_)); (fail_if_success (with_reducible show UnrPost _ _ _ _ _ _ _ _ _)); walk1) | ((fail_if_success (with_reducible refine ite_neg ?_ ?_)); (fail_if_success (with_reducible show UnrPost _ _ _ _ _ _ _ _ _)); dsimp only; walk1))))
local macro_rules | `(tactic| k_units) => `(tactic| ktr_units)
namespace Mine
theorem stmt9 {pv : Program} {w : World} {loose : List Str} {mean : ExcName → Option Value} {mg mb : Str → Option Value} {h₀ : Heap} {L fa : Addr} {cd : Value} {s : Shared} {Q : Flow → Shared → Prop} {u : Str → Option Value}
    {l P D x d a b : Addr} {tp t1 t2 t3 t4 t5 t6 t7 t8 t9 : Tok} {ys : List Value} {R : List Int} {o1 o2 o3 : Obj}
    (K0 : Below callerA h₀ [] h₀) (F : Fr h₀ L s.heap (mD L fa cd l tp P u D)) (X : (hd.heap_39 w.params).In h₀) (T : Top pv loose mean mg mb h₀)
    (N : News h₀ L s.heap (ringLed w.params D x d a b t1 t2 t3 t4 t5 t6 t7 t8 t9 ys [(L + 1 + 1 + 1, o3), (L + 1 + 1, o2), (L + 1, o1)]))
    (IR : IntsAre ys R) (hlen : R.length = 256) (hbd : ∀ i, i < 256 → 1 ≤ R.getD i 0 ∧ R.getD i 0 < 8380417)
    (hR : ∀ k : Nat, 1 ≤ k → k < 128 → (R.getD (2 * k) 0 * R.getD (2 * k) 0).fmod 8380417 = R.getD k 0 ∧ (R.getD (2 * k) 0 * R.getD 1 0).fmod 8380417 = R.getD (2 * k + 1) 0)
    (n2 : @LT.lt Nat _ d x) (n3 : @Ne Nat D x) (n4 : @Ne Nat D d) (n5 : @Ne Nat (L + 1 + 1 + 1) D ∧ @Ne Nat (L + 1 + 1) D ∧ @Ne Nat (L + 1) D) (n6 : @LT.lt Nat _ (L + 1 + 1 + 1) d ∧ @LT.lt Nat _ (L + 1 + 1) d ∧ @LT.lt Nat _ (L + 1) d)
    (ret : ∀ (u' : Str → Option Value) (h' : Heap) (tk' : Nat), Fr h₀ L h' (over [Str.ofString "k"] u' (mD L fa cd l tp P u D)) →
      News h₀ L h' (ringLed w.params D x d a b t1 t2 t3 t4 t5 t6 t7 t8 t9 ys [(L + 1 + 1 + 1, o3), (L + 1 + 1, o2), (L + 1, o1)]) → Q .next { s with heap := h', toks := tk' }) :
    wpAny (model PySem.Challenge.rw_ix0026_02.row.prog w) (callerA.deeper (lawEnv L fa cd)) (exec (stmtAt PySem.Challenge.rw_ix0026_02.row.prog 15 9) (lawEnv L fa cd)) Q (fun _ _ => False) s := by
  (conv => enter [3, 1]; whnf)
  w_strict (iterate 10 (first | (k_unfold; (try dsimp only)) | walk1 | (dsimp only; walk1) | (leave1; (try dsimp only))))
  rename IsRange _ _ _ _ _ _ _ _ => R1
  rename Fr _ _ _ _ => F1
  rename News _ _ _ _ => N1
  refine range_loop [Str.ofString "k"] (fun _ nw => nw = ringLed w.params D x d a b t1 t2 t3 t4 t5 t6 t7 t8 t9 ys [(L + 1 + 1 + 1, o3), (L + 1 + 1, o2), (L + 1, o1)]) 127
    rfl R1 (by decide) (by decide) F1 N1 rfl rfl ?turn ?done
  case done =>
    intro u nw h' tk' hJ F2 N2
    subst hJ
    exact ret u h' tk' F2 N2
  case turn =>
    intro i u nw I h' tk' t hi hJ off F2 N2
    subst hJ
    simp only [AllNe, and_true] at off
    clear F1 N1 R1
    have hk := hR (1 + i) (by omega) (by omega)
    have hb1 := hbd 1 (by omega)
    have hb2 := hbd (2 * (1 + i)) (by omega)
    have e1 : (2 * (1 + (i : Int) * 1)).toNat = 2 * (1 + i) := by omega
    have e2 : (2 * (1 + (i : Int) * 1) + 1).toNat = 2 * (1 + i) + 1 := by omega
    have e3 : (1 + (i : Int) * 1).toNat = 1 + i := by omega
    have e4 : Int.toNat 1 = 1 := rfl
    rw [← e2, ← e1, ← e3, ← e4] at hk
    rw [← e1] at hb2
    rw [← e4] at hb1
    dsimp only [ringLed] at N2
    (try dsimp only)
    w_strict walk
    refine ite_neg (by rw [hk.1]; simp) ?_
    w_strict walk
    refine ite_neg (by rw [hk.2]; simp) ?_
    w_strict walk
    refine ite_neg (by decide) ?_
    w_strict walk
    dsimp only [UnrPost]
    rename Fr _ _ _ _ => Fe
    rename News _ _ _ _ => Ne
    refine' UnrEnd.intro Fe Ne (ringLed w.params D x d a b t1 t2 t3 t4 t5 t6 t7 t8 t9 ys [(L + 1 + 1 + 1, o3), (L + 1 + 1, o2), (L + 1, o1)]) ?sub ?off ?r
    case sub => kcj_all
    case off =>
      obtain ⟨q1, q2, q3, q4, q5, q6⟩ := off
      exact List.forall_mem_cons.mpr ⟨q1, List.forall_mem_cons.mpr ⟨q2, List.forall_mem_cons.mpr ⟨q3, List.forall_mem_cons.mpr ⟨q4, List.forall_mem_cons.mpr ⟨q5, List.forall_mem_cons.mpr ⟨q6, List.forall_mem_nil _⟩⟩⟩⟩⟩⟩
    refine ⟨?same, rfl⟩
    case same =>
      intro z hz
      have hz1 : z ≠ Str.ofString "k" := by rintro rfl; simp at hz
      simp only [if_neg hz1]
      unfold over
      rw [hz]; rfl
end Mine
end
noncomputable section
open PySem PySem.W PyProof.Rows PySem.Spec PySem.Calls
set_option Elab.async false
set_option maxRecDepth 100000
set_option maxHeartbeats 4000000
local macro_rules | `(tactic| k_room) => `(tactic| ktr_room)
local macro_rules | `(tactic| k_enter) => `(tactic| first
  | (refine' code_def ?k1 ?k2 ?k3 ?k4 ?k5 ?kA ?kF ?kK ?k6 ?k7 ?k8 ?k9 ?kB ?_ ?c2 ?c3 ?c4 ?c5; (case kA => exact rfl); (case kF => exact rfl); (case kK => first | exact rfl | assumption); (case k1 => k_asm); (case k2 => k_asm); (case k3 => k_asm); (case k4 => k_asm); (case k5 => k_asm); (case k6 => k_is); (case k7 => k_is); (case k8 => ktr_room); (case k9 => first | exact BindsTo.of_eq rfl | exact binds_K (by k_in) rfl (by k_is) rfl rfl rfl | fail "k_enter: no rule for these arguments"); (case c5 => decide); (case kB => exact locs rfl); (case c2 => exact rfl); (case c3 => exact rfl); (case c4 => exact rfl); k_whole; intro g' L' h' FG' F' N' B' X' T'; (try dsimp only); (try k_lift B'); (try k_fold))
  | (refine' code_defC ?k1 ?k2 ?k3 ?k4 ?k5 ?kA ?kF ?kK ?k6 ?k7 ?k8 ?k9 ?kB ?kD ?_ ?c2 ?c3 ?c4; (case kA => exact rfl); (case kF => exact rfl); (case kK => first | exact rfl | assumption); (case k1 => k_asm); (case k2 => k_asm); (case k3 => k_asm); (case k4 => k_asm); (case k5 => k_asm); (case k6 => k_is); (case k7 => k_is); (case k8 => ktr_room); (case k9 => first | exact BindsTo.of_eq rfl | exact binds_K (by k_in) rfl (by k_is) rfl rfl rfl | fail "k_enter: no rule for these arguments"); (case kB => exact rfl); (case kD => decide +kernel); (case c2 => exact rfl); (case c3 => exact rfl); (case c4 => exact rfl); k_whole; intro g' L' h' tk' cells' FG' F' N' Y' B' X' T' l1; (try k_lt l1); k_cells Y'; (try simp only [List.cons_append, List.nil_append] at N'); (try dsimp only); (try k_lift B'); (try k_fold)))
local macro_rules | `(tactic| walk_at "getMethod ref") => `(tactic| (k_here; (with_reducible show wpAny _ _ (getMethod (Value.ref _) (PySem.Str.ofString "br") _) _ _ _); k_dflt (
  refine' kmu_sm ?k1 ?k2 ?k4 ?k5 ?k6 ?k7 ?k8 ?k9 ?k10 ?k11 ?k12 ?k13 ?k14 ?_; (case k1 => k_asm); (case k2 => k_asm); (case k4 => k_inst); (case k5 => k_is); (case k6 => k_is); (case k7 => k_is); (case k8 => k_is); (case k9 => k_is); (case k10 => k_is); (case k11 => decide +kernel); (case k12 => k_get); (case k13 => k_is); (case k14 => k_handed); k_whole)))
local macro_rules | `(tactic| walk_at "call ref") => `(tactic| (k_here; k_dflt (refine' Mine.br_call ?k1 ?k2 ?k3 ?k4 ?k5 ?kK ?k6 ?k7 ?kd ?_; (case k1 => k_asm); (case k2 => k_asm); (case k3 => k_asm); (case k4 => k_asm); (case k5 => k_asm); (case kK => first | exact rfl | assumption); (case k6 => first | decide | omega | l_fact); (case k7 => first | decide | omega | l_fact); (case kd => ktr_room)); intro t9 h9 tk9 F9 N9; (try dsimp only)))
local macro_rules | `(tactic| walk_at "call builtin:pow") => `(tactic| (k_dflt (refine Mine.call_pw (by first | decide | exact Mine.rev_nonneg _ _ | omega) ?_); (try dsimp only)))
local macro_rules | `(tactic| walk_at "call builtin:pow") => `(tactic| (k_dflt (refine Mine.call_inv256 ?_); (try dsimp only)))
local macro_rules | `(tactic| k_steps) => `(tactic| repeat' (first | (k_unfold; (try dsimp only)) | walk1 | (dsimp only; walk1) | fail "no step"))
local macro_rules | `(tactic| walk_at "MidL") => `(tactic| (k_dflt (refine' Mine.MidL.done ?k1 ?k2 ?k3 ?k4 ?k5 ?k6; (case k1 => assumption); (case k2 => assumption); (case k3 => kcj_all); (case k4 => l_ints); (case k5 => ((try simp only [List.length_take, List.length_append, List.length_cons, List.length_nil, List.length_map]); first | omega | assumption)); (case k6 => ((simp only [Mine.AllNe, and_true]); omega)))))
local macro_rules | `(tactic| walk_at "subscriptTail BinOp") => `(tactic| (k_here; (with_reducible show wpAny _ _ (subscriptTail _ (PySem.Expr.Slice _ _ none _) (Value.ref _) (Value.ref _)) _ _ _); k_dflt (refine' Mine.cut_temp ?F ?N ?l ?p ?q ?m ?_ ?s ?z; (case F => k_asm); (case N => k_asm); (case l => kmk_list); (case p => kmk_part); (case q => kmk_part); (case m => kmk_nums); (case s => with_unfolding_all rfl); (case z => kmk_size)); intro D' ws' h' F' N' l1 hI'; (try simp only [Int.reduceNeg, Int.neg_neg, Int.reduceToNat] at hI'); (try k_lt l1); (try k_sweep)))
local macro_rules | `(tactic| walk_at "call ref") => `(tactic| (k_here; k_dflt (refine' Mine.turned_call ?k1 ?k2 ?k3 ?k4 ?k5 ?kK ?k6 ?k7 ?kd ?_; (case k1 => k_asm); (case k2 => k_asm); (case k3 => k_asm); (case k4 => k_asm); (case k5 => k_asm); (case kK => first | exact rfl | assumption); (case k6 => first | decide | omega | l_fact); (case k7 => first | decide | omega | l_fact); (case kd => ktr_room)); intro t9 h9 tk9 F9 N9; (try dsimp only)))
local macro_rules | `(tactic| walk) => `(tactic| ((try dsimp only); repeat (first | (k_unfold; (try dsimp only)) | ((fail_if_success (with_reducible refine ite_neg ?_ ?_)); (fail_if_success (with_reducible show UnrPost _ _ _ _ _ _ _ _ _)); walk1) | ((fail_if_success (with_reducible refine ite_neg ?_ ?_)); (fail_if_success (with_reducible show UnrPost _ _ _ _ _ _ _ _ _)); dsimp only; walk1))))
local macro_rules | `(tactic| k_units) => `(tactic| ktr_units)
namespace Mine
def mE (L fa : Addr) (cd : Value) (l : Addr) (tp : Tok) (P : Addr) (u : Str → Option Value) (D : Addr) (u' : Str → Option Value) : Str → Option Value := over [Str.ofString "k"] u' (mD L fa cd l tp P u D)
theorem stmt10 {pv : Program} {w : World} {loose : List Str} {mean : ExcName → Option Value} {mg mb : Str → Option Value} {h₀ : Heap} {L fa : Addr} {cd : Value} {s : Shared} {Q : Flow → Shared → Prop} {u u' : Str → Option Value}
    {l P D x d a b : Addr} {tp t1 t2 t3 t4 t5 t6 t7 t8 t9 : Tok} {ys vs : List Value} {ns R : List Int} {o1 o2 o3 : Obj}
    (K0 : Below callerA h₀ [] h₀) (F : Fr h₀ L s.heap (mE L fa cd l tp P u D u')) (X : (hd.heap_39 w.params).In h₀) (T : Top pv loose mean mg mb h₀)
    (hl : h₀.IsList l vs.toArray) (hns : IntsAre vs ns) (hfit : ns.length ≤ 63)
    (N : News h₀ L s.heap (ringLed w.params D x d a b t1 t2 t3 t4 t5 t6 t7 t8 t9 ys [(L + 1 + 1 + 1, o3), (L + 1 + 1, o2), (L + 1, o1)]))
    (IR : IntsAre ys R) (hlen : R.length = 256)
    (hR : ∀ k : Nat, k < 256 → R.getD k 0 = pw 1753 (rev (k : Int) 8) ∧ pw (R.getD k 0) 512 = 1)
    (n2 : @LT.lt Nat _ d x) (n3 : @Ne Nat D x) (n4 : @Ne Nat D d) (n5 : @Ne Nat (L + 1 + 1 + 1) D ∧ @Ne Nat (L + 1 + 1) D ∧ @Ne Nat (L + 1) D) (n6 : @LT.lt Nat _ (L + 1 + 1 + 1) d ∧ @LT.lt Nat _ (L + 1 + 1) d ∧ @LT.lt Nat _ (L + 1) d)
    (ret : ∀ (u'' : Str → Option Value) (h' : Heap) (tk' : Nat), Fr h₀ L h' (over [Str.ofString "place"] u'' (mE L fa cd l tp P u D u')) →
      News h₀ L h' (ringLed w.params D x d a b t1 t2 t3 t4 t5 t6 t7 t8 t9 ys [(L + 1 + 1 + 1, o3), (L + 1 + 1, o2), (L + 1, o1)]) → Q .next { s with heap := h', toks := tk' }) :
    wpAny (model PySem.Challenge.rw_ix0026_02.row.prog w) (callerA.deeper (lawEnv L fa cd)) (exec (stmtAt PySem.Challenge.rw_ix0026_02.row.prog 15 10) (lawEnv L fa cd)) Q (fun _ _ => False) s := by
  (conv => enter [3, 1]; whnf)
  dsimp only [ringLed] at N
  (with_unfolding_all refine' For_invVF F ?k1 ?k2 ?_)
  case k1 => exact rfl
  case k2 => exact rfl
  w_strict (iterate 25 (first | (k_unfold; (try dsimp only)) | walk1 | (dsimp only; walk1) | (leave1; (try dsimp only))))
  (try dsimp only)
  rename Fr _ _ _ _ => F1
  rename News _ _ _ _ => N1
  rename IntsAre _ _ => I1
  refine' list_loop [Str.ofString "place"] rfl ?mem I1 F1 N1 ?turn ?done
  case mem => k_mem
  case done =>
    intro u h' tk' F2 N2
    exact ret u h' tk' F2 (cb_drop N2 (by kcj_all))
  case turn =>
    intro i p t u h' tk' own hp hoff F2 N2
    have hp1 : 0 ≤ p ∧ p < 256 := by
      have hm := List.mem_of_getElem? hp
      rcases List.mem_append.mp hm with hm | hm
      · obtain ⟨k, _, rfl⟩ := List.mem_map.mp hm
        exact ⟨fmod_lo _ (by decide), fmod_hi _ (by decide)⟩
      · simp only [List.mem_cons, List.not_mem_nil, or_false] at hm
        omega
    clear F1 N1 I1
    obtain ⟨hp0, hp2⟩ := hp1
    have hk := hR p.toNat (by omega)
    rw [Int.toNat_of_nonneg hp0] at hk
    simp only [List.cons_append, List.nil_append] at N2
    w_strict walk
    refine ite_neg (by rw [hk.1]; simp) ?_
    w_strict walk
    refine ite_neg (by rw [hk.2]; simp) ?_
    w_strict walk
    refine ite_neg (by decide) ?_
    w_strict (iterate 3 (first | (k_unfold; (try dsimp only)) | walk1 | (dsimp only; walk1) | (leave1; (try dsimp only))))
    dsimp only [InvPostN]
    rename Fr _ _ _ _ => Fe
    rename News _ _ _ _ => Ne
    refine' InvEndN.intro Fe Ne ?j ?ha ?sub ?own
    case j =>
      refine ⟨rfl, ?_⟩
      intro z hz
      have hz1 : z ≠ Str.ofString "place" := by rintro rfl; simp at hz
      simp only [if_neg hz1]
      unfold over
      rw [hz]; rfl
    case ha => rfl
    case sub => kcj_all
    case own =>
      intro p hp
      first | k_ownIn | kst_mem | skip
end Mine
end
noncomputable section
open PySem PySem.W PyProof.Rows PySem.Spec PySem.Calls
set_option Elab.async false
set_option maxRecDepth 100000
set_option maxHeartbeats 4000000
local macro_rules | `(tactic| k_room) => `(tactic| ktr_room)
local macro_rules | `(tactic| k_enter) => `(tactic| first
  | (refine' code_def ?k1 ?k2 ?k3 ?k4 ?k5 ?kA ?kF ?kK ?k6 ?k7 ?k8 ?k9 ?kB ?_ ?c2 ?c3 ?c4 ?c5; (case kA => exact rfl); (case kF => exact rfl); (case kK => first | exact rfl | assumption); (case k1 => k_asm); (case k2 => k_asm); (case k3 => k_asm); (case k4 => k_asm); (case k5 => k_asm); (case k6 => k_is); (case k7 => k_is); (case k8 => ktr_room); (case k9 => first | exact BindsTo.of_eq rfl | exact binds_K (by k_in) rfl (by k_is) rfl rfl rfl | fail "k_enter: no rule for these arguments"); (case c5 => decide); (case kB => exact locs rfl); (case c2 => exact rfl); (case c3 => exact rfl); (case c4 => exact rfl); k_whole; intro g' L' h' FG' F' N' B' X' T'; (try dsimp only); (try k_lift B'); (try k_fold))
  | (refine' code_defC ?k1 ?k2 ?k3 ?k4 ?k5 ?kA ?kF ?kK ?k6 ?k7 ?k8 ?k9 ?kB ?kD ?_ ?c2 ?c3 ?c4; (case kA => exact rfl); (case kF => exact rfl); (case kK => first | exact rfl | assumption); (case k1 => k_asm); (case k2 => k_asm); (case k3 => k_asm); (case k4 => k_asm); (case k5 => k_asm); (case k6 => k_is); (case k7 => k_is); (case k8 => ktr_room); (case k9 => first | exact BindsTo.of_eq rfl | exact binds_K (by k_in) rfl (by k_is) rfl rfl rfl | fail "k_enter: no rule for these arguments"); (case kB => exact rfl); (case kD => decide +kernel); (case c2 => exact rfl); (case c3 => exact rfl); (case c4 => exact rfl); k_whole; intro g' L' h' tk' cells' FG' F' N' Y' B' X' T' l1; (try k_lt l1); k_cells Y'; (try simp only [List.cons_append, List.nil_append] at N'); (try dsimp only); (try k_lift B'); (try k_fold)))
local macro_rules | `(tactic| walk_at "getMethod ref") => `(tactic| (k_here; (with_reducible show wpAny _ _ (getMethod (Value.ref _) (PySem.Str.ofString "br") _) _ _ _); k_dflt (
  refine' kmu_sm ?k1 ?k2 ?k4 ?k5 ?k6 ?k7 ?k8 ?k9 ?k10 ?k11 ?k12 ?k13 ?k14 ?_; (case k1 => k_asm); (case k2 => k_asm); (case k4 => k_inst); (case k5 => k_is); (case k6 => k_is); (case k7 => k_is); (case k8 => k_is); (case k9 => k_is); (case k10 => k_is); (case k11 => decide +kernel); (case k12 => k_get); (case k13 => k_is); (case k14 => k_handed); k_whole)))
local macro_rules | `(tactic| walk_at "call ref") => `(tactic| (k_here; k_dflt (refine' Mine.br_call ?k1 ?k2 ?k3 ?k4 ?k5 ?kK ?k6 ?k7 ?kd ?_; (case k1 => k_asm); (case k2 => k_asm); (case k3 => k_asm); (case k4 => k_asm); (case k5 => k_asm); (case kK => first | exact rfl | assumption); (case k6 => first | decide | omega | l_fact); (case k7 => first | decide | omega | l_fact); (case kd => ktr_room)); intro t9 h9 tk9 F9 N9; (try dsimp only)))
local macro_rules | `(tactic| walk_at "call builtin:pow") => `(tactic| (k_dflt (refine Mine.call_pw (by first | decide | exact Mine.rev_nonneg _ _ | omega) ?_); (try dsimp only)))
local macro_rules | `(tactic| walk_at "call builtin:pow") => `(tactic| (k_dflt (refine Mine.call_inv256 ?_); (try dsimp only)))
local macro_rules | `(tactic| k_steps) => `(tactic| repeat' (first | (k_unfold; (try dsimp only)) | walk1 | (dsimp only; walk1) | fail "no step"))
local macro_rules | `(tactic| walk_at "MidL") => `(tactic| (k_dflt (refine' Mine.MidL.done ?k1 ?k2 ?k3 ?k4 ?k5 ?k6; (case k1 => assumption); (case k2 => assumption); (case k3 => kcj_all); (case k4 => l_ints); (case k5 => ((try simp only [List.length_take, List.length_append, List.length_cons, List.length_nil, List.length_map]); first | omega | assumption)); (case k6 => ((simp only [Mine.AllNe, and_true]); omega)))))
local macro_rules | `(tactic| walk_at "subscriptTail BinOp") => `(tactic| (k_here; (with_reducible show wpAny _ _ (subscriptTail _ (PySem.Expr.Slice _ _ none _) (Value.ref _) (Value.ref _)) _ _ _); k_dflt (refine' Mine.cut_temp ?F ?N ?l ?p ?q ?m ?_ ?s ?z; (case F => k_asm); (case N => k_asm); (case l => kmk_list); (case p => kmk_part); (case q => kmk_part); (case m => kmk_nums); (case s => with_unfolding_all rfl); (case z => kmk_size)); intro D' ws' h' F' N' l1 hI'; (try simp only [Int.reduceNeg, Int.neg_neg, Int.reduceToNat] at hI'); (try k_lt l1); (try k_sweep)))
local macro_rules | `(tactic| walk_at "call ref") => `(tactic| (k_here; k_dflt (refine' Mine.turned_call ?k1 ?k2 ?k3 ?k4 ?k5 ?kK ?k6 ?k7 ?kd ?_; (case k1 => k_asm); (case k2 => k_asm); (case k3 => k_asm); (case k4 => k_asm); (case k5 => k_asm); (case kK => first | exact rfl | assumption); (case k6 => first | decide | omega | l_fact); (case k7 => first | decide | omega | l_fact); (case kd => ktr_room)); intro t9 h9 tk9 F9 N9; (try dsimp only)))
local macro_rules | `(tactic| walk) => `(tactic| ((try dsimp only); repeat (first | (k_unfold; (try dsimp only)) | ((fail_if_success (with_reducible refine ite_neg ?_ ?_)); (fail_if_success (with_reducible show UnrPost _ _ _ _ _ _ _ _ _)); walk1) | ((fail_if_success (with_reducible refine ite_neg ?_ ?_)); (fail_if_success (with_reducible show UnrPost _ _ _ _ _ _ _ _ _)); dsimp only; walk1))))
local macro_rules | `(tactic| k_units) => `(tactic| ktr_units)
namespace Mine
theorem stmt4 {pv : Program} {w : World} {loose : List Str} {mean : ExcName → Option Value} {mg mb : Str → Option Value} {h₀ : Heap} {L fa : Addr} {cd : Value} {s : Shared} {Q : Flow → Shared → Prop} {u u' : Str → Option Value}
    {l P D x d a b : Addr} {tp t1 t2 t3 t4 t5 t6 t7 t8 t9 : Tok} {ys vs : List Value} {ps R : List Int} {np : Nat} {o1 o2 o3 : Obj} {v2 v3 : Option Value}
    (K0 : Below callerA h₀ [] h₀) (F : Fr h₀ L s.heap (mC L fa cd l tp P u)) (X : (hd.heap_39 w.params).In h₀) (T : Top pv loose mean mg mb h₀)
    (N : News h₀ L s.heap ((P, { cls := .type "list", data := .seq vs.toArray np }) :: ringLed w.params D x d a b t1 t2 t3 t4 t5 t6 t7 t8 t9 ys [(L + 1 + 1 + 1, o3), (L + 1 + 1, o2), (L + 1, o1)]))
    (IP : IntsAre vs ps) (cP : 2 ≤ ps.length ∧ ps.length ≤ 16) (d1 : o1.data = .cell (some (.ref x))) (d2 : o2.data = .cell v2) (d3 : o3.data = .cell v3)
    (n1 : @Ne Nat D P ∧ @Ne Nat x P ∧ @Ne Nat d P ∧ @Ne Nat (L + 1 + 1 + 1) P ∧ @Ne Nat (L + 1 + 1) P ∧ @Ne Nat (L + 1) P)
    (n2 : @LT.lt Nat _ d x) (n3 : @Ne Nat D x) (n4 : @Ne Nat D d) (n5 : @Ne Nat (L + 1 + 1 + 1) D ∧ @Ne Nat (L + 1 + 1) D ∧ @Ne Nat (L + 1) D) (n6 : @LT.lt Nat _ (L + 1 + 1 + 1) d ∧ @LT.lt Nat _ (L + 1 + 1) d ∧ @LT.lt Nat _ (L + 1) d)
    (ret : ∀ (o2 o3 : Obj) (n0 w0 : Int) (ta tb : Tok) (h' : Heap) (tk' : Nat), Fr h₀ L h' (mC L fa cd l tp P u) →
      News h₀ L h' (ringLed w.params D x d a b t1 t2 t3 t4 t5 t6 t7 t8 t9 ys [(L + 1 + 1 + 1, o3), (L + 1 + 1, o2), (L + 1, o1)]) → o2.data = .cell (some (.int n0 ta)) → o3.data = .cell (some (.int w0 tb)) → 0 ≤ w0 → w0 < 7 → Q .next { s with heap := h', toks := tk' }) :
    wpAny (model PySem.Challenge.rw_ix0026_02.row.prog w) (callerA.deeper (lawEnv L fa cd)) (exec (stmtAt PySem.Challenge.rw_ix0026_02.row.prog 15 4) (lawEnv L fa cd)) Q (fun _ _ => False) s := by
  (conv => enter [3, 1]; whnf)
  dsimp only [ringLed] at N
  w_strict walk
  (try dsimp only)
  rename Fr _ _ _ _ => Fe
  rename News _ _ _ _ => Ne
  refine' ret _ _ _ _ _ _ _ _ Fe (cb_drop Ne ?k1) ?k2 ?k3 ?k4 ?k5
  case k1 => kcj_all
  case k2 => assumption
  case k3 => assumption
  case k4 => exact fmod_lo _ (by decide)
  case k5 => exact fmod_hi _ (by decide)

theorem stmt6 {pv : Program} {w : World} {loose : List Str} {mean : ExcName → Option Value} {mg mb : Str → Option Value} {h₀ : Heap} {L fa : Addr} {cd : Value} {s : Shared} {Q : Flow → Shared → Prop} {u u' : Str → Option Value}
    {l P D x d a b : Addr} {tp t1 t2 t3 t4 t5 t6 t7 t8 t9 : Tok} {ys vs : List Value} {ps R : List Int} {np : Nat} {o1 o2 o3 : Obj} {v2 v3 : Option Value}
    (K0 : Below callerA h₀ [] h₀) (F : Fr h₀ L s.heap (mC L fa cd l tp P u)) (X : (hd.heap_39 w.params).In h₀) (T : Top pv loose mean mg mb h₀)
    (N : News h₀ L s.heap (ringLed w.params D x d a b t1 t2 t3 t4 t5 t6 t7 t8 t9 ys [(L + 1 + 1 + 1, o3), (L + 1 + 1, o2), (L + 1, o1)]))
    (d1 : o1.data = .cell (some (.ref x)))
    (n2 : @LT.lt Nat _ d x) (n3 : @Ne Nat D x) (n4 : @Ne Nat D d) (n5 : @Ne Nat (L + 1 + 1 + 1) D ∧ @Ne Nat (L + 1 + 1) D ∧ @Ne Nat (L + 1) D) (n6 : @LT.lt Nat _ (L + 1 + 1 + 1) d ∧ @LT.lt Nat _ (L + 1 + 1) d ∧ @LT.lt Nat _ (L + 1) d)
    (ret : ∀ (h' : Heap) (tk' : Nat), Fr h₀ L h' (mD L fa cd l tp P u D) →
      News h₀ L h' (ringLed w.params D x d a b t1 t2 t3 t4 t5 t6 t7 t8 t9 ys [(L + 1 + 1 + 1, o3), (L + 1 + 1, o2), (L + 1, o1)]) → Q .next { s with heap := h', toks := tk' }) :
    wpAny (model PySem.Challenge.rw_ix0026_02.row.prog w) (callerA.deeper (lawEnv L fa cd)) (exec (stmtAt PySem.Challenge.rw_ix0026_02.row.prog 15 6) (lawEnv L fa cd)) Q (fun _ _ => False) s := by
  (conv => enter [3, 1]; whnf)
  dsimp only [ringLed] at N
  w_strict walk
  (try dsimp only)
  rename Fr _ _ _ _ => Fe
  rename News _ _ _ _ => Ne
  exact ret _ _ Fe Ne

theorem stmt11 {pv : Program} {w : World} {loose : List Str} {mean : ExcName → Option Value} {mg mb : Str → Option Value} {h₀ : Heap} {L fa : Addr} {cd : Value} {s : Shared} {Q : Flow → Shared → Prop} {u u' u'' : Str → Option Value}
    {l P D x d a b : Addr} {tp t1 t2 t3 t4 t5 t6 t7 t8 t9 : Tok} {ys vs : List Value} {ps R : List Int} {np : Nat} {o1 o2 o3 : Obj} {v2 v3 : Option Value}
    (K0 : Below callerA h₀ [] h₀) (F : Fr h₀ L s.heap (over [Str.ofString "place"] u'' (over [Str.ofString "k"] u' (mD L fa cd l tp P u D)))) (X : (hd.heap_39 w.params).In h₀) (T : Top pv loose mean mg mb h₀)
    (N : News h₀ L s.heap (ringLed w.params D x d a b t1 t2 t3 t4 t5 t6 t7 t8 t9 ys [(L + 1 + 1 + 1, o3), (L + 1 + 1, o2), (L + 1, o1)]))
    (d1 : o1.data = .cell (some (.ref x)))
    (n2 : @LT.lt Nat _ d x) (n3 : @Ne Nat D x) (n4 : @Ne Nat D d) (n5 : @Ne Nat (L + 1 + 1 + 1) D ∧ @Ne Nat (L + 1 + 1) D ∧ @Ne Nat (L + 1) D) (n6 : @LT.lt Nat _ (L + 1 + 1 + 1) d ∧ @LT.lt Nat _ (L + 1 + 1) d ∧ @LT.lt Nat _ (L + 1) d)
    (ret : ∀ (h' : Heap) (tk' : Nat), Fr h₀ L h' (over [Str.ofString "place"] u'' (over [Str.ofString "k"] u' (mD L fa cd l tp P u D))) →
      News h₀ L h' (ringLed w.params D x d a b t1 t2 t3 t4 t5 t6 t7 t8 t9 ys [(L + 1 + 1 + 1, o3), (L + 1 + 1, o2), (L + 1, o1)]) → Q .next { s with heap := h', toks := tk' }) :
    wpAny (model PySem.Challenge.rw_ix0026_02.row.prog w) (callerA.deeper (lawEnv L fa cd)) (exec (stmtAt PySem.Challenge.rw_ix0026_02.row.prog 15 11) (lawEnv L fa cd)) Q (fun _ _ => False) s := by
  (conv => enter [3, 1]; whnf)
  dsimp only [ringLed] at N
  w_strict walk
  refine ite_neg (by decide) ?_
  w_strict walk
  refine ite_pos (by decide) ?_
  w_strict walk
  refine ite_neg (by decide) ?_
  w_strict walk
  refine ite_neg (by decide) ?_
  w_strict walk
  (try dsimp only)
  rename Fr _ _ _ _ => Fe
  rename News _ _ _ _ => Ne
  exact ret _ _ Fe Ne
end Mine
end
noncomputable section
open PySem PyProof.Rows
set_option maxRecDepth 100000
namespace Mine
structure SB (a₀ : Array Keyed) (st : SortSt) : Prop where
  perm : (arrOf st).Perm a₀
  kind : kindOf st = oneType'
  failed : failedOf st = none
  gallop : gallopOf st = 7
theorem SB.size {a₀ : Array Keyed} {st : SortSt} (h : SB a₀ st) : (arrOf st).size = a₀.size := h.perm.size_eq
theorem SB.setArr {a₀ : Array Keyed} {st : SortSt} (h : SB a₀ st) {xs : Array Keyed} (hp : xs.Perm (arrOf st)) : SB a₀ (setArr st xs) :=
  ⟨hp.trans h.perm, h.kind, h.failed, h.gallop⟩
theorem SB.setP {a₀ : Array Keyed} {st : SortSt} (h : SB a₀ st) (p : Array (Nat × Nat × Nat)) : SB a₀ (setPending st p) := ⟨h.perm, h.kind, h.failed, h.gallop⟩
theorem SB.at {a₀ : Array Keyed} {st : SortSt} (h : SB a₀ st) (h0 : IntKeys a₀) {i : Nat} (hi : i < a₀.size) :
    ∃ t q, (arrOf st)[i]? = some (.int (K (arrOf st) i) t, q) :=
  SBase.at (a₀ := a₀) (st := setPending st #[]) ⟨h.perm, h.kind, h.failed, rfl⟩ h0 hi
/-- the keys of a window come of that window, the others stand -/
def Win (xs ys : Array Keyed) (lo : Nat) : Prop :=
  (∀ k, ¬(lo ≤ k ∧ k < lo + 32) → K ys k = K xs k) ∧ ∀ k, lo ≤ k → k < lo + 32 → ∃ k', lo ≤ k' ∧ k' < lo + 32 ∧ K ys k = K xs k'
theorem Win.refl (xs : Array Keyed) (lo : Nat) : Win xs xs lo := ⟨fun _ _ => rfl, fun k h1 h2 => ⟨k, h1, h2, rfl⟩⟩
theorem Win.trans {xs ys zs : Array Keyed} {lo : Nat} (h : Win xs ys lo) (h' : Win ys zs lo) : Win xs zs lo :=
  ⟨fun k hk => (h'.1 k hk).trans (h.1 k hk), fun k h1 h2 => by
    obtain ⟨k1, a1, a2, a3⟩ := h'.2 k h1 h2
    obtain ⟨k2, b1, b2, b3⟩ := h.2 k1 a1 a2
    exact ⟨k2, b1, b2, a3.trans b3⟩⟩
theorem Win.mirror {xs : Array Keyed} {lo i j : Nat} (hj : j ≤ xs.size) (h1 : lo ≤ i) (h2 : j ≤ lo + 32) : Win xs (PyProof.Rows.mirror xs i j ((j - i) / 2)) lo :=
  ⟨fun k hk => by rw [K_mirror hj, if_neg (by omega)], fun k a1 a2 => by
    rw [K_mirror hj]
    split
    · exact ⟨i + j - 1 - k, by omega, by omega, rfl⟩
    · exact ⟨k, a1, a2, rfl⟩⟩
theorem Win.bubble {xs : Array Keyed} {lo src d : Nat} (hs : src < xs.size) (h1 : lo ≤ src - d) (hd : d ≤ src) (h2 : src < lo + 32) : Win xs (PyProof.Rows.bubble xs src d) lo :=
  ⟨fun k hk => by rw [K_bubble hs hd, if_neg (by omega), if_neg (by omega)], fun k a1 a2 => by
    rw [K_bubble hs hd]
    split
    · exact ⟨src, by omega, by omega, rfl⟩
    · split
      · exact ⟨k - 1, by omega, by omega, rfl⟩
      · exact ⟨k, a1, a2, rfl⟩⟩
/-- sorted from lo on, n of them -/
def SortW (xs : Array Keyed) (lo n : Nat) : Prop := ∀ i j, lo ≤ i → i ≤ j → j < lo + n → K xs i ≤ K xs j
section
variable {prog : Program} {w : World} {A : Around} {E : Value → Shared → Prop} {s : Shared} {a₀ : Array Keyed}
theorem wpS_lt {st : SortSt} {i j : Nat} {Q : Option Bool → SortSt → Prop} (hB : SB a₀ st) (h0 : IntKeys a₀) (hi : i < a₀.size) (hj : j < a₀.size)
    (h : Q (some (decide (K (arrOf st) i < K (arrOf st) j))) st) : wpS (model prog w) A E s (ltAt' i j) Q st := by
  obtain ⟨t, p, e1⟩ := hB.at h0 hi
  obtain ⟨u, q, e2⟩ := hB.at h0 hj
  exact wpS_ltAt hB.kind e1 e2 h
theorem binSort {st : SortSt} {lo ok : Nat} {Q : Bool → SortSt → Prop} (h0 : IntKeys a₀) (hn : lo + 32 ≤ a₀.size) (hok : ok ≤ 32) (hB : SB a₀ st) (hs : SortW (arrOf st) lo ok)
    (h : ∀ st', SB a₀ st' → pendingOf st' = pendingOf st → Win (arrOf st) (arrOf st') lo → SortW (arrOf st') lo 32 → Q true st') : wpS (model prog w) A E s (binarySort' lo 32 ok) Q st := by
  rw [binarySort'_eq]
  refine wpS_bind (wpS_mono (wpS_forRange (I := fun k c st' => c = (none, ()) ∧ SB a₀ st' ∧ pendingOf st' = pendingOf st ∧ Win (arrOf st) (arrOf st') lo ∧ SortW (arrOf st') lo (min k 32))
    (Q := fun c st' => c = (none, ()) ∧ SB a₀ st' ∧ pendingOf st' = pendingOf st ∧ Win (arrOf st) (arrOf st') lo ∧ SortW (arrOf st') lo 32) ?step ?fin ?init) ?post)
  case post =>
    rintro c st' ⟨rfl, b1, b2, b3, b4⟩
    exact wpS_pure (h st' b1 b2 b3 b4)
  case init =>
    refine ⟨rfl, hB, rfl, Win.refl _ _, fun i j h1 h2 h3 => ?_⟩
    by_cases hz : ok = 0
    · have : i = j := by omega
      subst this; exact Int.le_refl _
    · exact hs i j h1 h2 (by omega)
  case fin =>
    rintro c st' ⟨hc, b1, b2, b3, b4⟩
    refine ⟨hc, b1, b2, b3, ?_⟩
    rwa [show min (max (max ok 1) 32) 32 = 32 by omega] at b4
  case step =>
    rintro k c st' hak hkn ⟨rfl, b1, b2, b3, b4⟩
    rw [show min k 32 = k by omega] at b4
    refine wpS_bind (wpS_mono (wpS_forRange (I := fun x c st'' => st'' = st' ∧ ∃ l r, c = (none, l, r) ∧ l ≤ r ∧ r ≤ k ∧ r - l ≤ k - x ∧
        (∀ i, lo ≤ i → i < lo + l → K (arrOf st') i ≤ K (arrOf st') (lo + k)) ∧ (∀ i, lo + r ≤ i → i < lo + k → K (arrOf st') (lo + k) < K (arrOf st') i))
      (Q := fun c st'' => st'' = st' ∧ ∃ l r, c = (none, l, r) ∧ l ≤ k ∧
        (∀ i, lo ≤ i → i < lo + l → K (arrOf st') i ≤ K (arrOf st') (lo + k)) ∧ (∀ i, lo + l ≤ i → i < lo + k → K (arrOf st') (lo + k) < K (arrOf st') i)) ?istep ?ifin ?iinit) ?ipost)
    case iinit => exact ⟨rfl, 0, k, rfl, by omega, by omega, by omega, fun i h1 h2 => by omega, fun i h1 h2 => by omega⟩
    case ifin =>
      rintro c st'' ⟨rfl, l, r, rfl, hlr, hrk, hm, hlo, hhi⟩
      have : l = r := by omega
      subst this
      exact ⟨rfl, l, l, rfl, hrk, hlo, hhi⟩
    case istep =>
      rintro x c st'' _ hxk ⟨rfl, l, r, rfl, hlr, hrk, hm, hlo, hhi⟩
      dsimp only
      by_cases hge : l ≥ r
      · rw [if_pos hge]
        have : l = r := by omega
        subst this
        exact wpS_pure ⟨rfl, l, l, rfl, hrk, hlo, hhi⟩
      · rw [if_neg hge]
        refine wpS_bind (wpS_lt b1 h0 (by omega) (by omega) ?_)
        by_cases hless : K (arrOf st'') (lo + k) < K (arrOf st'') (lo + (l + r) / 2)
        · simp only [hless, decide_true, if_true]
          refine wpS_pure ⟨rfl, l, (l + r) / 2, rfl, by omega, by omega, by omega, hlo, fun i h1 h2 => ?_⟩
          exact Int.lt_of_lt_of_le hless (b4 _ _ (by omega) h1 h2)
        · simp only [hless, decide_false, Bool.false_eq_true, if_false]
          refine wpS_pure ⟨rfl, (l + r) / 2 + 1, r, rfl, by omega, by omega, by omega, fun i h1 h2 => ?_, hhi⟩
          exact Int.le_trans (b4 i (lo + (l + r) / 2) h1 (by omega) (by omega)) (Int.not_lt.mp hless)
    case ipost =>
      rintro c st'' ⟨rfl, l, r, rfl, hlk, hlo, hhi⟩
      show wpS _ _ _ _ (do moveDown' (lo + k) (lo + l); pure (ForInStep.yield (none, ()))) _ _
      rw [moveDown'_eq]
      have hks : lo + k < (arrOf st'').size := by rw [b1.size]; omega
      refine wpS_bind (wpS_modify (wpS_pure ⟨rfl, b1.setArr (bubble_perm _ _ _), b2, b3.trans (Win.bubble hks (by omega) (by omega) (by omega)), ?_⟩))
      rw [show min (k + 1) 32 = k + 1 by omega]
      intro i j h1 hij hj
      show K (PyProof.Rows.bubble (arrOf st'') (lo + k) (lo + k - (lo + l))) i ≤ K (PyProof.Rows.bubble (arrOf st'') (lo + k) (lo + k - (lo + l))) j
      rw [K_bubble hks (by omega), K_bubble hks (by omega), show lo + k - (lo + k - (lo + l)) = lo + l by omega]
      repeat' split
      all_goals first
        | (exfalso; omega)
        | exact Int.le_refl _
        | exact hlo _ (by omega) (by omega)
        | exact Int.le_of_lt (hhi _ (by omega) (by omega))
        | exact b4 _ _ (by omega) (by omega) (by omega)
end
end Mine
end
noncomputable section
open PySem PyProof.Rows
set_option maxRecDepth 100000
namespace Mine
section
variable {prog : Program} {w : World} {A : Around} {E : Value → Shared → Prop} {s : Shared} {a₀ : Array Keyed}
/-- low, high by turns -/
def Alt (xs : Array Keyed) (lo : Nat) : Prop := ∀ i, i < 3 → ((K xs (lo + i) < 32 ∧ 32 ≤ K xs (lo + i + 1)) ∨ (32 ≤ K xs (lo + i) ∧ K xs (lo + i + 1) < 32))
theorem cntRun {st : SortSt} {lo nrem : Nat} {Q : Option Nat → SortSt → Prop} (h0 : IntKeys a₀) (hn : lo + nrem ≤ a₀.size) (h32 : 32 ≤ nrem) (hB : SB a₀ st) (hA : Alt (arrOf st) lo)
    (h : ∀ m st', SB a₀ st' → pendingOf st' = pendingOf st → Win (arrOf st) (arrOf st') lo → 1 ≤ m → m ≤ 3 → SortW (arrOf st') lo m → Q (some m) st') : wpS (model prog w) A E s (countRun' lo nrem) Q st := by
  have a0 := hA 0 (by omega)
  have a1 := hA 1 (by omega)
  have a2 := hA 2 (by omega)
  simp only [Nat.add_zero, Nat.add_assoc, Nat.reduceAdd] at a0 a1 a2
  rw [countRun'_eq]
  refine wpS_bind (wpS_mono (wpS_forRange
    (I := fun x c st' => st' = st ∧ ((x = 1 ∧ c = (none, 1)) ∨ (x = 2 ∧ K (arrOf st) lo < 32 ∧ c = (none, 2))))
    (Q := fun c st' => st' = st ∧ ((K (arrOf st) lo < 32 ∧ c = (none, 2)) ∨ (32 ≤ K (arrOf st) lo ∧ c = (none, 1)))) ?step ?fin ⟨rfl, .inl ⟨rfl, rfl⟩⟩) ?post)
  case fin =>
    rintro c st' ⟨rfl, ⟨h1, _⟩ | ⟨h1, _⟩⟩ <;> omega
  case step =>
    rintro x c st' hx1 hx2 ⟨rfl, ⟨rfl, rfl⟩ | ⟨rfl, hl, rfl⟩⟩
    · dsimp only
      refine wpS_bind (wpS_lt hB h0 (by omega) (by omega) ?_)
      by_cases hless : K (arrOf st') (lo + 1) < K (arrOf st') (lo + 1 - 1)
      · simp only [hless, decide_true, if_true]
        rw [show lo + 1 - 1 = lo by omega] at hless
        exact wpS_pure ⟨rfl, .inr ⟨by omega, rfl⟩⟩
      · simp only [hless, decide_false, Bool.false_eq_true, if_false]
        rw [show lo + 1 - 1 = lo by omega] at hless
        exact wpS_pure ⟨rfl, .inr ⟨trivial, by omega, rfl⟩⟩
    · dsimp only
      refine wpS_bind (wpS_lt hB h0 (by omega) (by omega) ?_)
      have hless : K (arrOf st') (lo + 2) < K (arrOf st') (lo + 2 - 1) := by rw [show lo + 2 - 1 = lo + 1 by omega]; omega
      simp only [hless, decide_true, if_true]
      exact wpS_pure ⟨rfl, .inl ⟨hl, rfl⟩⟩
  case post =>
    rintro c st' ⟨rfl, ⟨hl, rfl⟩ | ⟨hl, rfl⟩⟩
    · dsimp only
      rw [if_neg (by simp; omega), if_pos (by decide)]
      refine wpS_bind (wpS_lt hB h0 (by omega) (by omega) ?_)
      have hless : K (arrOf st') lo < K (arrOf st') (lo + 2 - 1) := by rw [show lo + 2 - 1 = lo + 1 by omega]; omega
      simp only [hless, decide_true, if_true]
      refine wpS_pure (h 2 st' hB rfl (Win.refl _ _) (by omega) (by omega) ?_)
      intro i j h1 h2 h3
      by_cases e : i = j
      · subst e; exact Int.le_refl _
      · have e1 : i = lo := by omega
        have e2 : j = lo + 1 := by omega
        subst e1; subst e2; omega
    · dsimp only
      rw [if_neg (by simp; omega), if_neg (by decide)]
      refine wpS_bind (wpS_lift (wpAny_rule ⟨rfl, ?_⟩))
      refine wpS_bind (wpS_mono (wpS_forRange (I := fun x c st'' => x = 2 ∧ st'' = st' ∧ c = (none, 2, 0)) (Q := fun c st'' => st'' = st' ∧ c = (none, 2, 0)) ?step2 ?fin2 ⟨rfl, rfl, rfl⟩) ?post2)
      case fin2 => rintro c st'' ⟨h1, _⟩; omega
      case step2 =>
        rintro x c st'' _ _ ⟨rfl, rfl, rfl⟩
        dsimp only
        refine wpS_bind (wpS_lt hB h0 (by omega) (by omega) ?_)
        have hless : ¬ K (arrOf st'') (lo + 2) < K (arrOf st'') (lo + 2 - 1) := by rw [show lo + 2 - 1 = lo + 1 by omega]; omega
        simp only [hless, decide_false, Bool.false_eq_true, if_false]
        refine wpS_bind (wpS_lt hB h0 (by omega) (by omega) ?_)
        have hl2 : K (arrOf st'') (lo + 2 - 1) < K (arrOf st'') (lo + 2) := by rw [show lo + 2 - 1 = lo + 1 by omega]; omega
        simp only [hl2, decide_true, if_true]
        exact wpS_pure ⟨rfl, rfl⟩
      case post2 =>
        rintro c st'' ⟨rfl, rfl⟩
        dsimp only
        rw [if_neg (by decide)]
        refine wpS_bind (wpS_reverse ?_)
        have hsz : lo + 2 ≤ (arrOf st'').size := by rw [hB.size]; omega
        have hB' : SB a₀ (setArr st'' (mirror (arrOf st'') lo (lo + 2) ((lo + 2 - lo) / 2))) := hB.setArr (mirror_perm _ _ _ _)
        have km := K_mirror (i := lo) hsz
        generalize hg : setArr st'' (mirror (arrOf st'') lo (lo + 2) ((lo + 2 - lo) / 2)) = st3 at hB' ⊢
        have e3 : arrOf st3 = mirror (arrOf st'') lo (lo + 2) ((lo + 2 - lo) / 2) := by rw [← hg]
        have hW : Win (arrOf st'') (arrOf st3) lo := by rw [e3]; exact Win.mirror hsz (Nat.le_refl _) (by omega)
        have hp : pendingOf st3 = pendingOf st'' := by rw [← hg]
        rw [← e3] at km
        have k0 := km lo
        have k1 := km (lo + 1)
        have k2 := km (lo + 2)
        have k3 := km (lo + 3)
        rw [if_pos (by omega), show lo + (lo + 2) - 1 - lo = lo + 1 by omega] at k0
        rw [if_pos (by omega), show lo + (lo + 2) - 1 - (lo + 1) = lo by omega] at k1
        rw [if_neg (by omega)] at k2 k3
        refine wpS_bind (wpS_mono (wpS_forRange (I := fun x c st4 => st4 = st3 ∧ ((x = 2 ∧ c = (none, 2)) ∨ (x = 3 ∧ K (arrOf st3) (lo + 1) ≤ K (arrOf st3) (lo + 2) ∧ c = (none, 3))))
          (Q := fun c st4 => st4 = st3 ∧ ((c = (none, 2)) ∨ (K (arrOf st3) (lo + 1) ≤ K (arrOf st3) (lo + 2) ∧ c = (none, 3)))) ?step3 ?fin3 ⟨rfl, .inl ⟨rfl, rfl⟩⟩) ?post3)
        case fin3 => rintro c st4 ⟨rfl, ⟨h1, _⟩ | ⟨h1, _⟩⟩ <;> omega
        case step3 =>
          rintro x c st4 _ _ ⟨rfl, ⟨rfl, rfl⟩ | ⟨rfl, hl3, rfl⟩⟩
          · dsimp only
            refine wpS_bind (wpS_lt hB' h0 (by omega) (by omega) ?_)
            by_cases hless : K (arrOf st4) (lo + 2) < K (arrOf st4) (lo + 2 - 1)
            · simp only [hless, decide_true, if_true]
              exact wpS_pure ⟨rfl, .inl rfl⟩
            · simp only [hless, decide_false, Bool.false_eq_true, if_false]
              rw [show lo + 2 - 1 = lo + 1 by omega] at hless
              exact wpS_pure ⟨rfl, .inr ⟨trivial, by omega, rfl⟩⟩
          · dsimp only
            refine wpS_bind (wpS_lt hB' h0 (by omega) (by omega) ?_)
            have hless : K (arrOf st4) (lo + 3) < K (arrOf st4) (lo + 3 - 1) := by rw [show lo + 3 - 1 = lo + 2 by omega]; omega
            simp only [hless, decide_true, if_true]
            exact wpS_pure ⟨rfl, .inr ⟨hl3, rfl⟩⟩
        case post3 =>
          rintro c st4 ⟨rfl, rfl | ⟨hl3, rfl⟩⟩
          · refine wpS_pure (h 2 st4 hB' hp hW (by omega) (by omega) ?_)
            intro i j h1 h2 h3
            by_cases e : i = j
            · subst e; exact Int.le_refl _
            · have e1 : i = lo := by omega
              have e2 : j = lo + 1 := by omega
              subst e1; subst e2; omega
          · refine wpS_pure (h 3 st4 hB' hp hW (by omega) (by omega) ?_)
            intro i j h1 h2 h3
            by_cases e : i = j
            · subst e; exact Int.le_refl _
            · have e1 : (i = lo ∧ j = lo + 1) ∨ (i = lo ∧ j = lo + 2) ∨ (i = lo + 1 ∧ j = lo + 2) := by omega
              rcases e1 with ⟨rfl, rfl⟩ | ⟨rfl, rfl⟩ | ⟨rfl, rfl⟩ <;> omega
end
end Mine
end
noncomputable section
open PySem PyProof.Rows
set_option maxRecDepth 100000
namespace Mine
def gallop' : Bool → Keyed → Array Keyed → Nat → Nat → Nat → StateT SortSt Sem (Option Nat) := sortPriv% PySem.Builtin.gallop
def mergeLo' : Array Keyed → Array Keyed → StateT SortSt Sem (Array Keyed) := sortPriv% PySem.Builtin.mergeLo
def mergeHi' : Array Keyed → Array Keyed → StateT SortSt Sem (Array Keyed) := sortPriv% PySem.Builtin.mergeHi
section
variable {prog : Program} {w : World} {A : Around} {E : Value → Shared → Prop} {s : Shared} {a₀ : Array Keyed}
theorem ltV {st : SortSt} {x y : Keyed} {a b : Int} {Q : Option Bool → SortSt → Prop} (hk : kindOf st = oneType') (hx : ∃ t, x.1 = .int a t) (hy : ∃ t, y.1 = .int b t)
    (h : Q (some (decide (a < b))) st) : wpS (model prog w) A E s (lt' x y) Q st := by
  obtain ⟨t, hx⟩ := hx
  obtain ⟨u, hy⟩ := hy
  rw [lt'_eq]
  refine wpS_bind (wpS_get ?_)
  rw [hk, keyLt'_oneType, hx, hy]
  refine wpS_bind (wpS_lift (wpAny_attempt (oneLt_int ⟨rfl, ?_⟩)))
  exact wpS_pure h
theorem elemV {st : SortSt} {arr : Array Keyed} {i : Nat} {p : Keyed} {Q : Keyed → SortSt → Prop} (hi : arr[i]? = some p) (h : Q p st) : wpS (model prog w) A E s (elem' arr i) Q st := by
  rw [elem'_eq, hi]; exact wpS_pure h
theorem gallopR {st : SortSt} {key p0 p1 : Keyed} {arr : Array Keyed} {base n : Nat} {b a0 a1 : Int} {Q : Option Nat → SortSt → Prop} (hk : kindOf st = oneType')
    (hkey : ∃ t, key.1 = .int b t) (e0 : arr[base + 0]? = some p0) (v0 : ∃ t, p0.1 = .int a0 t) (e1 : arr[base + (0 + 1)]? = some p1) (v1 : ∃ t, p1.1 = .int a1 t) (hn : 2 ≤ n) (h1 : b < a1)
    (hq0 : b < a0 → Q (some 0) st) (hq1 : ¬ b < a0 → Q (some 1) st) : wpS (model prog w) A E s (gallop' false key arr base n 0) Q st := by
  refine wpS_bind (wpS_bind (elemV e0 ?_))
  rw [if_neg (by decide)]
  refine wpS_bind (ltV hk hkey v0 ?_)
  refine wpS_pure ?_
  dsimp only [Option.map]
  by_cases hb : b < a0
  · simp only [hb, decide_true, Bool.not_true, Bool.false_eq_true, if_false]
    refine wpS_bind (wpS_mono (wpS_forRange (I := fun x c st' => x = 0 ∧ st' = st ∧ c = (none, 0, 1)) (Q := fun c st' => st' = st ∧ c = (none, 0, 1)) ?step ?fin ⟨rfl, rfl, rfl⟩) ?post)
    case fin => rintro c st' ⟨h1, _⟩; omega
    case step =>
      rintro x c st' _ _ ⟨rfl, rfl, rfl⟩
      dsimp only
      rw [if_pos (by omega)]
      exact wpS_pure ⟨rfl, rfl⟩
    case post =>
      rintro c st' ⟨rfl, rfl⟩
      dsimp only
      refine wpS_bind (wpS_mono (wpS_forRange (I := fun x c st'' => x = 0 ∧ st'' = st' ∧ c = (none, 0, 0)) (Q := fun c st'' => st'' = st' ∧ c = (none, 0, 0)) ?step2 ?fin2 ⟨rfl, rfl, rfl⟩) ?post2)
      case fin2 => rintro c st' ⟨h1, _⟩; omega
      case step2 =>
        rintro x c st'' _ _ ⟨rfl, rfl, rfl⟩
        dsimp only
        rw [if_pos (by omega)]
        exact wpS_pure ⟨rfl, rfl⟩
      case post2 =>
        rintro c st'' ⟨rfl, rfl⟩
        exact wpS_pure (hq0 hb)
  · simp only [hb, decide_false, Bool.not_false, if_true]
    refine wpS_bind (wpS_mono (wpS_forRange (I := fun x c st' => x = 0 ∧ st' = st ∧ c = (none, 0, 1)) (Q := fun c st' => st' = st ∧ c = (none, 0, 1)) ?step ?fin ⟨rfl, rfl, rfl⟩) ?post)
    case fin => rintro c st' ⟨h1, _⟩; omega
    case step =>
      rintro x c st' _ _ ⟨rfl, rfl, rfl⟩
      dsimp only
      rw [if_neg (by omega)]
      refine wpS_bind (wpS_bind (elemV e1 ?_))
      rw [if_neg (by decide)]
      refine wpS_bind (ltV hk hkey v1 ?_)
      refine wpS_pure ?_
      simp only [h1, decide_true, Option.map, Bool.not_true, Bool.not_false, if_true]
      exact wpS_pure ⟨rfl, rfl⟩
    case post =>
      rintro c st' ⟨rfl, rfl⟩
      dsimp only
      refine wpS_bind (wpS_mono (wpS_forRange (I := fun x c st'' => x = 0 ∧ st'' = st' ∧ c = (none, 1, 1)) (Q := fun c st'' => st'' = st' ∧ c = (none, 1, 1)) ?step2 ?fin2 ⟨rfl, rfl, by rw [show 0 + min 1 (n - 0) = 1 by omega]⟩) ?post2)
      case fin2 => rintro c st' ⟨h1, _⟩; omega
      case step2 =>
        rintro x c st'' _ _ ⟨rfl, rfl, rfl⟩
        dsimp only
        rw [if_pos (by omega)]
        exact wpS_pure ⟨rfl, rfl⟩
      case post2 =>
        rintro c st'' ⟨rfl, rfl⟩
        exact wpS_pure (hq1 hb)
theorem gallopL {st : SortSt} {key p0 p1 : Keyed} {arr : Array Keyed} {base n hint : Nat} {b b1 b2 : Int} {Q : Option Nat → SortSt → Prop} (hk : kindOf st = oneType') (hh : n = hint + 1) (hn : 1 ≤ hint)
    (hkey : ∃ t, key.1 = .int b t) (e0 : arr[base + hint]? = some p0) (v0 : ∃ t, p0.1 = .int b1 t) (e1 : arr[base + (hint - 1)]? = some p1) (v1 : ∃ t, p1.1 = .int b2 t) (h1 : b2 < b)
    (hq0 : b1 < b → Q (some n) st) (hq1 : ¬ b1 < b → Q (some hint) st) : wpS (model prog w) A E s (gallop' true key arr base n hint) Q st := by
  refine wpS_bind (wpS_bind (elemV e0 ?_))
  rw [if_pos (by decide)]
  refine (ltV hk v0 hkey ?_)
  dsimp only
  by_cases hb : b1 < b
  · simp only [hb, decide_true, if_true]
    refine wpS_bind (wpS_mono (wpS_forRange (I := fun x c st' => x = 0 ∧ st' = st ∧ c = (none, 0, 1)) (Q := fun c st' => st' = st ∧ c = (none, 0, 1)) ?step ?fin ⟨rfl, rfl, rfl⟩) ?post)
    case fin => rintro c st' ⟨h1, _⟩; omega
    case step =>
      rintro x c st' _ _ ⟨rfl, rfl, rfl⟩
      dsimp only
      rw [if_pos (by omega)]
      exact wpS_pure ⟨rfl, rfl⟩
    case post =>
      rintro c st' ⟨rfl, rfl⟩
      dsimp only
      refine wpS_bind (wpS_mono (wpS_forRange (I := fun x c st'' => x = 0 ∧ st'' = st' ∧ c = (none, n, n)) (Q := fun c st'' => st'' = st' ∧ c = (none, n, n)) ?step2 ?fin2 ⟨rfl, rfl, by rw [show hint + 0 + 1 = n by omega, show hint + min 1 (n - hint) = n by omega]⟩) ?post2)
      case fin2 => rintro c st' ⟨h1, _⟩; omega
      case step2 =>
        rintro x c st'' _ _ ⟨rfl, rfl, rfl⟩
        dsimp only
        rw [if_pos (by omega)]
        exact wpS_pure ⟨rfl, rfl⟩
      case post2 =>
        rintro c st'' ⟨rfl, rfl⟩
        exact wpS_pure (hq0 hb)
  · simp only [hb, decide_false, Bool.false_eq_true, if_false]
    refine wpS_bind (wpS_mono (wpS_forRange (I := fun x c st' => x = 0 ∧ st' = st ∧ c = (none, 0, 1)) (Q := fun c st' => st' = st ∧ c = (none, 0, 1)) ?step ?fin ⟨rfl, rfl, rfl⟩) ?post)
    case fin => rintro c st' ⟨h1, _⟩; omega
    case step =>
      rintro x c st' _ _ ⟨rfl, rfl, rfl⟩
      dsimp only
      rw [if_neg (by omega)]
      refine wpS_bind (wpS_bind (elemV e1 ?_))
      refine (ltV hk v1 hkey ?_)
      simp only [h1, decide_true, if_true]
      exact wpS_pure ⟨rfl, rfl⟩
    case post =>
      rintro c st' ⟨rfl, rfl⟩
      dsimp only
      refine wpS_bind (wpS_mono (wpS_forRange (I := fun x c st'' => x = 0 ∧ st'' = st' ∧ c = (none, hint, hint)) (Q := fun c st'' => st'' = st' ∧ c = (none, hint, hint)) ?step2 ?fin2 ⟨rfl, rfl, by rw [show hint + 1 - min 1 (hint + 1) = hint by omega]; rfl⟩) ?post2)
      case fin2 => rintro c st' ⟨h1, _⟩; omega
      case step2 =>
        rintro x c st'' _ _ ⟨rfl, rfl, rfl⟩
        dsimp only
        rw [if_pos (by omega)]
        exact wpS_pure ⟨rfl, rfl⟩
      case post2 =>
        rintro c st'' ⟨rfl, rfl⟩
        exact wpS_pure (hq1 hb)
end
end Mine
end
noncomputable section
open PySem PyProof.Rows
set_option maxRecDepth 100000
namespace Mine
abbrev kk (p : Keyed) : Int := numOf p.1
def Ks : List Keyed → Int → Prop
  | [], _ => True
  | p :: r, k => kk p = k ∧ Ks r (k + 1)
theorem Ks.append : ∀ {l r : List Keyed} {k : Int}, Ks l k → Ks r (k + l.length) → Ks (l ++ r) k
  | [], r, k, _, h => by
    simp only [List.length_nil] at h
    rw [List.nil_append]
    have e : k + ((0 : Nat) : Int) = k := by omega
    rw [e] at h; exact h
  | p :: l, r, k, h1, h => ⟨h1.1, Ks.append h1.2 (by
      have e : k + ((p :: l).length : Int) = k + 1 + (l.length : Int) := by rw [List.length_cons]; omega
      rw [e] at h; exact h)⟩
theorem Ks.one {p : Keyed} {k : Int} (h : kk p = k) : Ks [p] k := ⟨h, trivial⟩
theorem drop_at {α : Type} {l : List α} {i : Nat} {p : α} (h : l[i]? = some p) : l.drop i = p :: l.drop (i + 1) := by
  obtain ⟨hi, rfl⟩ := List.getElem?_eq_some_iff.mp h
  exact List.drop_eq_getElem_cons hi
theorem toList_cut {α : Type} (x : Array α) (i : Nat) : (x.extract i).toList = x.toList.drop i := by
  rw [Array.toList_extract]
  simp [List.extract]
  rw [← Array.length_toList, ← List.length_drop, List.take_length]
theorem numOf_of {p : Keyed} {a : Int} (h : ∃ t, p.1 = .int a t) : kk p = a := by obtain ⟨t, h⟩ := h; show numOf p.1 = a; rw [h]; rfl
structure Prs (A B : Nat → Int) : Prop where
  pair : ∀ i : Nat, i < 32 → (A i = 2 * (i : Int) ∧ B i = 2 * (i : Int) + 1) ∨ (A i = 2 * (i : Int) + 1 ∧ B i = 2 * (i : Int))
theorem Prs.ra {A B : Nat → Int} (h : Prs A B) {i : Nat} (hi : i < 32) : 2 * (i : Int) ≤ A i ∧ A i ≤ 2 * (i : Int) + 1 := by
  rcases h.pair i hi with ⟨a, b⟩ | ⟨a, b⟩ <;> rw [a] <;> omega
theorem Prs.rb {A B : Nat → Int} (h : Prs A B) {i : Nat} (hi : i < 32) : 2 * (i : Int) ≤ B i ∧ B i ≤ 2 * (i : Int) + 1 := by
  rcases h.pair i hi with ⟨a, b⟩ | ⟨a, b⟩ <;> rw [b] <;> omega
theorem Prs.sum {A B : Nat → Int} (h : Prs A B) {i : Nat} (hi : i < 32) : A i + B i = 4 * (i : Int) + 1 := by
  rcases h.pair i hi with ⟨a, b⟩ | ⟨a, b⟩ <;> rw [a, b] <;> omega
/-- which of the two is next, counted up -/
def PhL (p q ac bc : Nat) (a b : Int) : Prop := (p = q ∧ ac ≤ 1 ∧ bc ≤ 1) ∨ (p = q + 1 ∧ b = 2 * (q : Int) + 1 ∧ ac ≤ 2 ∧ bc = 0) ∨ (q = p + 1 ∧ a = 2 * (p : Int) + 1 ∧ ac = 0 ∧ bc ≤ 2)
theorem PhL.b {p q ac bc : Nat} {a b : Int} (h : PhL p q ac bc a b) (ra : 2 * (p : Int) ≤ a ∧ a ≤ 2 * (p : Int) + 1) (rb : 2 * (q : Int) ≤ b ∧ b ≤ 2 * (q : Int) + 1) (hs : p = q → a + b = 4 * (p : Int) + 1) (hw : b < a) :
    b = (p : Int) + q ∧ ((p = q ∧ a = 2 * (p : Int) + 1 ∧ ac ≤ 1 ∧ bc ≤ 1) ∨ (p = q + 1 ∧ bc = 0)) := by
  rcases h with ⟨e, a1, a2⟩ | ⟨e, a1, a2, a3⟩ | ⟨e, a1, a2, a3⟩
  · have := hs e; subst e; exact ⟨by omega, .inl ⟨rfl, by omega, a1, a2⟩⟩
  · exact ⟨by omega, .inr ⟨e, a3⟩⟩
  · exfalso; omega
theorem PhL.a {p q ac bc : Nat} {a b : Int} (h : PhL p q ac bc a b) (ra : 2 * (p : Int) ≤ a ∧ a ≤ 2 * (p : Int) + 1) (rb : 2 * (q : Int) ≤ b ∧ b ≤ 2 * (q : Int) + 1) (hs : p = q → a + b = 4 * (p : Int) + 1) (hw : ¬ b < a) :
    a = (p : Int) + q ∧ ((p = q ∧ b = 2 * (p : Int) + 1 ∧ ac ≤ 1 ∧ bc ≤ 1) ∨ (q = p + 1 ∧ ac = 0)) := by
  rcases h with ⟨e, a1, a2⟩ | ⟨e, a1, a2, a3⟩ | ⟨e, a1, a2, a3⟩
  · have := hs e; subst e; exact ⟨by omega, .inl ⟨rfl, by omega, a1, a2⟩⟩
  · exfalso; omega
  · exact ⟨by omega, .inr ⟨e, a2⟩⟩
/-- the items of a part, as read -/
def At (x : Array Keyed) (A : Nat → Int) (sa hi : Nat) : Prop := ∀ i, sa ≤ i → i < hi → ∃ p, x[i - sa]? = some p ∧ ∃ t, p.1 = .int (A i) t
def Res (x y : Array Keyed) (sa : Nat) (r : Array Keyed) : Prop := Ks r.toList sa ∧ r.toList.Perm (x.toList ++ y.toList)
section
variable {prog : Program} {w : World} {Ar : Around} {E : Value → Shared → Prop} {s : Shared} {a₀ : Array Keyed}
set_option maxHeartbeats 1000000
theorem mrgLo {st : SortSt} {x y : Array Keyed} {A B : Nat → Int} {sa nb : Nat} {Q : Array Keyed → SortSt → Prop} (hk : kindOf st = oneType') (hg : gallopOf st = 7) (hP : Prs A B)
    (hx : At x A sa 32) (hy : At y B 0 nb) (sx : x.size = 32 - sa) (sy : y.size = nb) (hs : (sa = 0 ∧ B 0 = 0) ∨ (sa = 1 ∧ A 0 = 0)) (hnb : (nb = 32 ∧ B 31 = 62) ∨ (nb = 31 ∧ A 31 = 62))
    (h : ∀ r, Res x y sa r → Q r st) :
    wpS (model prog w) Ar E s (mergeLo' x y) Q st := by
  obtain ⟨p0, e0, v0⟩ := hy 0 (by omega) (by omega)
  refine wpS_bind (wpS_lift (wpAny_rule ⟨rfl, ?_⟩))
  refine wpS_bind (elemV e0 ?_)
  dsimp only
  rw [if_neg (by simp; omega)]
  rw [if_neg (by simp; omega)]
  refine wpS_bind (wpS_get ?_)
  have k0 := hP.sum (i := 0) (by omega)
  have k31 := hP.sum (i := 31) (by omega)
  refine wpS_bind (wpS_mono (wpS_forRange (I := fun t c st' => t = 0 ∧ st' = st ∧ c = (none, #[p0], 0, 1, 7)) (Q := fun c st' => st' = st ∧ ∃ r o, c = (some r, o) ∧ Res x y sa r) ?step ?fin ⟨rfl, rfl, by
    show (none, #[p0], 0, 1, gallopOf st) = _
    rw [hg]⟩) ?post)
  case fin => rintro c st' ⟨h1, _⟩; omega
  case post =>
    rintro c st' ⟨rfl, r, o, rfl, hr⟩
    exact wpS_pure (h r hr)
  case step =>
    rintro t c st' _ _ ⟨rfl, rfl, rfl⟩
    dsimp only
    refine wpS_bind (wpS_mono (wpS_forRange
      (I := fun t c st'' => st'' = st' ∧ ∃ (out : Array Keyed) (p q ac bc : Nat), c = (none, out, p - sa, q, ac, bc) ∧ p + q = sa + t + 1 ∧ sa ≤ p ∧ p ≤ 30 ∧ q < nb ∧
        PhL p q ac bc (A p) (B q) ∧
        Ks out.toList sa ∧ out.size = p + q - sa ∧ (out.toList ++ (x.toList.drop (p - sa) ++ y.toList.drop q)).Perm (x.toList ++ y.toList))
      (Q := fun c st'' => st'' = st' ∧ ∃ r o, c = (some r, o) ∧ Res x y sa r) ?istep ?ifin ?iinit) ?ipost)
    case iinit =>
      refine ⟨rfl, #[p0], sa, 1, 0, 0, by simp, by omega, by omega, by omega, by omega, ?_, ?_, ?_, ?_⟩
      · rcases hs with ⟨rfl, hb⟩ | ⟨rfl, hb⟩
        · refine .inr (.inr ⟨rfl, by omega, rfl, by omega⟩)
        · exact .inl ⟨rfl, by omega, by omega⟩
      · refine Ks.one ?_
        rw [numOf_of v0]; omega
      · simp
      · rw [Nat.sub_self, List.drop_zero]
        have e := drop_at (l := y.toList) (i := 0) (p := p0) (by simpa using e0)
        rw [List.drop_zero] at e
        conv => rhs; rw [e]
        show (p0 :: (x.toList ++ y.toList.drop 1)).Perm _
        exact List.perm_middle.symm
    case ifin =>
      rintro c st'' ⟨_, out, p, q, ac, bc, _, h1, h2, h3, h4, _⟩
      omega
    case ipost =>
      rintro c st'' ⟨rfl, r, o, rfl, hr⟩
      exact wpS_pure ⟨rfl, r, _, rfl, hr⟩
    case istep =>
      rintro t c st'' _ ht ⟨rfl, out, p, q, ac, bc, rfl, h1, h2, h3, h4, hph, hks, hsz, hperm⟩
      dsimp only
      obtain ⟨pb, eb, vb⟩ := hy q (by omega) h4
      obtain ⟨pa, ea, va⟩ := hx p h2 (by omega)
      have ra := hP.ra (i := p) (by omega)
      have rb := hP.rb (i := q) (by omega)
      have hsum : p = q → A p + B q = 4 * (p : Int) + 1 := fun e => by rw [← e]; exact hP.sum (by omega)
      rw [Nat.sub_zero] at eb
      have da := drop_at (l := x.toList) (i := p - sa) (p := pa) (by simpa using ea)
      have db := drop_at (l := y.toList) (i := q) (p := pb) (by simpa using eb)
      refine wpS_bind (elemV eb ?_)
      refine wpS_bind (elemV ea ?_)
      refine wpS_bind (ltV hk vb va ?_)
      dsimp only
      by_cases hw : B q < A p
      · simp only [hw, decide_true, if_true]
        refine wpS_bind (elemV eb ?_)
        obtain ⟨key, ph⟩ := hph.b ra rb hsum hw
        have hks' : Ks (out.push pb).toList sa := by
          rw [Array.toList_push]
          refine hks.append (Ks.one ?_)
          rw [numOf_of vb, Array.length_toList, hsz, key]
          clear key ph hph ra rb k0 k31 hs hnb
          omega
        have hpm : ((out.push pb).toList ++ (x.toList.drop (p - sa) ++ y.toList.drop (q + 1))).Perm (x.toList ++ y.toList) := by
          refine List.Perm.trans ?_ hperm
          rw [db, Array.toList_push, List.append_assoc]
          refine List.Perm.append_left _ ?_
          show (pb :: (x.toList.drop (p - sa) ++ y.toList.drop (q + 1))).Perm _
          exact List.perm_middle.symm
        by_cases hend : q + 1 = nb
        · rw [if_pos (by simp; omega)]
          refine wpS_pure ⟨rfl, _, _, rfl, ?_, ?_⟩
          · have hq : p = 30 ∧ q = 30 ∧ nb = 31 ∧ A 31 = 62 ∧ A p = 61 := by
              rcases ph with ⟨e, e2, _⟩ | ⟨e, _⟩ <;> rcases hnb with ⟨n1, n2⟩ | ⟨n1, n2⟩
              · exfalso; clear k0 k31 ra rb; omega
              · clear k0 k31 ra rb; exact ⟨by omega, by omega, n1, n2, by omega⟩
              · exfalso; clear k0 k31 ra rb; omega
              · exfalso; clear k0 k31 ra rb; omega
            obtain ⟨rfl, rfl, rfl, ha31, ha30⟩ := hq
            clear hnb hph ph
            obtain ⟨pa2, ea2, va2⟩ := hx 31 (by omega) (by omega)
            have da2 := drop_at (l := x.toList) (i := 31 - sa) (p := pa2) (by simpa using ea2)
            rw [Array.toList_append, Array.toList_append, toList_cut, toList_cut, da, show 30 - sa + 1 = 31 - sa by omega, da2, show 31 - sa + 1 = 32 - sa by omega,
              List.drop_of_length_le (l := x.toList) (by simp; omega), List.drop_of_length_le (l := y.toList) (by simp; omega), List.append_nil]
            refine hks'.append ⟨?_, ?_, trivial⟩
            · rw [numOf_of va, ha30]; simp; omega
            · rw [numOf_of va2, ha31]; simp; omega
          · rw [Array.toList_append, Array.toList_append, toList_cut, toList_cut, List.append_assoc]
            exact hpm
        · rw [if_neg (by simp; omega), if_neg (by omega)]
          refine wpS_pure ⟨rfl, _, p, q + 1, 0, bc + 1, rfl, by omega, by omega, by omega, by omega, ?_, hks', by simp; omega, hpm⟩
          rcases ph with ⟨e, e2, e3, e4⟩ | ⟨e, e2⟩
          · subst e; exact .inr (.inr ⟨rfl, e2, rfl, by omega⟩)
          · exact .inl ⟨e, by omega, by omega⟩
      · simp only [hw, decide_false, Bool.false_eq_true, if_false]
        refine wpS_bind (elemV ea ?_)
        obtain ⟨key, ph⟩ := hph.a ra rb hsum hw
        have hks' : Ks (out.push pa).toList sa := by
          rw [Array.toList_push]
          refine hks.append (Ks.one ?_)
          rw [numOf_of va, Array.length_toList, hsz, key]
          clear key ph hph ra rb k0 k31 hs hnb
          omega
        have hpm : ((out.push pa).toList ++ (x.toList.drop (p - sa + 1) ++ y.toList.drop q)).Perm (x.toList ++ y.toList) := by
          refine List.Perm.trans ?_ hperm
          rw [da, Array.toList_push, List.append_assoc]
          exact List.Perm.refl _
        by_cases hend : p = 30
        · rw [if_pos (by simp; omega)]
          refine wpS_pure ⟨rfl, _, _, rfl, ?_, ?_⟩
          · subst hend
            obtain ⟨pa2, ea2, va2⟩ := hx 31 (by omega) (by omega)
            have da2 := drop_at (l := x.toList) (i := 31 - sa) (p := pa2) (by simpa using ea2)
            rw [Array.toList_append, Array.toList_append, toList_cut, toList_cut, show 30 - sa + 1 = 31 - sa by omega, da2, show 31 - sa + 1 = 32 - sa by omega,
              List.drop_of_length_le (l := x.toList) (by simp; omega), db]
            clear ra hph
            rcases hnb with ⟨rfl, hb31⟩ | ⟨rfl, ha31⟩
            · obtain ⟨pb2, eb2, vb2⟩ := hy 31 (by omega) (by omega)
              have db2 := drop_at (l := y.toList) (i := 31) (p := pb2) (by simpa using eb2)
              have ha63 : A 31 = 63 := by rw [hb31] at k31; omega
              rcases ph with ⟨a1, a2, _⟩ | ⟨a1, _⟩
              · subst a1
                rw [db2, List.drop_of_length_le (l := y.toList) (by simp; omega)]
                refine Ks.append (hks'.append ⟨?_, ?_, trivial⟩) (Ks.one ?_)
                · rw [numOf_of vb, a2]; simp; omega
                · rw [numOf_of vb2, hb31]; simp; omega
                · rw [numOf_of va2, ha63]; simp; omega
              · subst a1
                rw [List.drop_of_length_le (l := y.toList) (by simp; omega)]
                refine Ks.append (hks'.append ⟨?_, trivial⟩) (Ks.one ?_)
                · rw [numOf_of vb, hb31]; simp; omega
                · rw [numOf_of va2, ha63]; simp; omega
            · rcases ph with ⟨a1, a2, _⟩ | ⟨a1, _⟩
              · subst a1
                rw [List.drop_of_length_le (l := y.toList) (by simp; omega)]
                refine Ks.append (hks'.append ⟨?_, trivial⟩) (Ks.one ?_)
                · rw [numOf_of vb, a2]; simp; omega
                · rw [numOf_of va2, ha31]; simp; omega
              · exfalso; omega
          · rw [Array.toList_append, Array.toList_append, toList_cut, toList_cut, List.append_assoc]
            exact List.Perm.trans (List.Perm.append_left _ List.perm_append_comm) hpm
        · rw [if_neg (by simp; omega), if_neg (by omega)]
          refine wpS_pure ⟨rfl, _, p + 1, q, ac + 1, 0, by rw [show p + 1 - sa = p - sa + 1 by omega], by omega, by omega, by omega, by omega, ?_, hks', by simp; omega, by rw [show p + 1 - sa = p - sa + 1 by omega]; exact hpm⟩
          rcases ph with ⟨e, e2, e3, e4⟩ | ⟨e, e2⟩
          · subst e; exact .inr (.inl ⟨rfl, e2, by omega, rfl⟩)
          · exact .inl ⟨e.symm, by omega, by omega⟩
end
end Mine
end
noncomputable section
open PySem PyProof.Rows
set_option maxRecDepth 100000
namespace Mine
section
variable {prog : Program} {w : World} {Ar : Around} {E : Value → Shared → Prop} {s : Shared} {a₀ : Array Keyed}
set_option maxHeartbeats 1000000
theorem take_at {α : Type} {l : List α} {i : Nat} {p : α} (h : l[i]? = some p) : l.take (i + 1) = l.take i ++ [p] := by
  obtain ⟨hi, rfl⟩ := List.getElem?_eq_some_iff.mp h
  simp
theorem toList_ext0 {α : Type} (x : Array α) (i : Nat) : (x.extract 0 i).toList = x.toList.take i := by
  rw [Array.toList_extract]
  simp [List.extract]
/-- which of the two is next, counted down -/
def PhH (p q ac bc : Nat) (a b : Int) : Prop := (p = q ∧ ac ≤ 1 ∧ bc ≤ 1) ∨ (q = p + 1 ∧ b = 2 * (q : Int) - 2 ∧ ac ≤ 2 ∧ bc = 0) ∨ (p = q + 1 ∧ a = 2 * (p : Int) - 2 ∧ ac = 0 ∧ bc ≤ 2)
theorem PhH.a {p q ac bc : Nat} {a b : Int} (h : PhH p q ac bc a b) (ra : 2 * (p : Int) - 2 ≤ a ∧ a ≤ 2 * (p : Int) - 1) (rb : 2 * (q : Int) - 2 ≤ b ∧ b ≤ 2 * (q : Int) - 1) (hs : p = q → a + b = 4 * (p : Int) - 3) (hw : b < a) :
    a = (p : Int) + q - 1 ∧ ((p = q ∧ b = 2 * (q : Int) - 2 ∧ ac ≤ 1 ∧ bc ≤ 1) ∨ (p = q + 1 ∧ ac = 0)) := by
  rcases h with ⟨e, a1, a2⟩ | ⟨e, a1, a2, a3⟩ | ⟨e, a1, a2, a3⟩
  · have := hs e; subst e; exact ⟨by omega, .inl ⟨rfl, by omega, a1, a2⟩⟩
  · exfalso; omega
  · exact ⟨by omega, .inr ⟨e, a2⟩⟩
theorem PhH.b {p q ac bc : Nat} {a b : Int} (h : PhH p q ac bc a b) (ra : 2 * (p : Int) - 2 ≤ a ∧ a ≤ 2 * (p : Int) - 1) (rb : 2 * (q : Int) - 2 ≤ b ∧ b ≤ 2 * (q : Int) - 1) (hs : p = q → a + b = 4 * (p : Int) - 3) (hw : ¬ b < a) :
    b = (p : Int) + q - 1 ∧ ((p = q ∧ a = 2 * (p : Int) - 2 ∧ ac ≤ 1 ∧ bc ≤ 1) ∨ (q = p + 1 ∧ bc = 0)) := by
  rcases h with ⟨e, a1, a2⟩ | ⟨e, a1, a2, a3⟩ | ⟨e, a1, a2, a3⟩
  · have := hs e; subst e; exact ⟨by omega, .inl ⟨rfl, by omega, a1, a2⟩⟩
  · exact ⟨by omega, .inr ⟨e, a3⟩⟩
  · exfalso; omega
theorem mrgHi {st : SortSt} {x y : Array Keyed} {A B : Nat → Int} {Q : Array Keyed → SortSt → Prop} (hk : kindOf st = oneType') (hg : gallopOf st = 7) (hP : Prs A B)
    (hx : At x A 0 32) (hy : At y B 0 31) (sx : x.size = 32) (sy : y.size = 31) (h0 : B 0 = 0) (h31 : A 31 = 62)
    (h : ∀ r, Res x y 0 r → Q r st) :
    wpS (model prog w) Ar E s (mergeHi' x y) Q st := by
  obtain ⟨p0, e0, v0⟩ := hx 31 (by omega) (by omega)
  refine wpS_bind (wpS_lift (wpAny_rule ⟨rfl, ?_⟩))
  rw [Nat.sub_zero] at e0
  rw [sx, sy]
  refine wpS_bind (elemV e0 ?_)
  dsimp only
  rw [if_neg (by simp)]
  rw [if_neg (by simp)]
  refine wpS_bind (wpS_get ?_)
  have k0 := hP.sum (i := 0) (by omega)
  refine wpS_bind (wpS_mono (wpS_forRange (I := fun t c st' => t = 0 ∧ st' = st ∧ c = (none, 31, 31, #[p0], 7)) (Q := fun c st' => st' = st ∧ ∃ r o, c = (some r, o) ∧ Res x y 0 r) ?step ?fin ⟨rfl, rfl, by
    show (none, 31, 31, #[p0], gallopOf st) = _
    rw [hg]⟩) ?post)
  case fin => rintro c st' ⟨h1, _⟩; omega
  case post =>
    rintro c st' ⟨rfl, r, o, rfl, hr⟩
    exact wpS_pure (h r hr)
  case step =>
    rintro t c st' _ _ ⟨rfl, rfl, rfl⟩
    dsimp only
    refine wpS_bind (wpS_mono (wpS_forRange
      (I := fun t c st'' => st'' = st' ∧ ∃ (out : Array Keyed) (p q ac bc : Nat), c = (none, p, q, out, ac, bc) ∧ p + q + t = 62 ∧ p ≤ 31 ∧ 1 ≤ p ∧ q ≤ 31 ∧ 2 ≤ q ∧
        PhH p q ac bc (A (p - 1)) (B (q - 1)) ∧
        Ks out.toList.reverse ((p + q : Nat) : Int) ∧ ((x.toList.take p ++ y.toList.take q) ++ out.toList.reverse).Perm (x.toList ++ y.toList))
      (Q := fun c st'' => st'' = st' ∧ ∃ r o, c = (some r, o) ∧ Res x y 0 r) ?istep ?ifin ?iinit) ?ipost)
    case iinit =>
      refine ⟨rfl, #[p0], 31, 31, 0, 0, rfl, by omega, by omega, by omega, by omega, by omega, .inl ⟨rfl, by omega, by omega⟩, ?_, ?_⟩
      · refine Ks.one ?_
        rw [numOf_of v0]; omega
      · have e := take_at (l := x.toList) (i := 31) (p := p0) (by simpa using e0)
        have e1 : x.toList.take (31 + 1) = x.toList := List.take_of_length_le (by simp; omega)
        have e2 : y.toList.take 31 = y.toList := List.take_of_length_le (by simp; omega)
        rw [e1] at e
        rw [e2]
        conv => rhs; rw [e]
        show ((x.toList.take 31 ++ y.toList) ++ [p0]).Perm _
        rw [List.append_assoc, List.append_assoc]
        exact List.Perm.append_left _ List.perm_append_comm
    case ifin =>
      rintro c st'' ⟨_, out, p, q, ac, bc, _, h1, h2, h3, h4, h5, _⟩
      omega
    case ipost =>
      rintro c st'' ⟨rfl, r, o, rfl, hr⟩
      exact wpS_pure ⟨rfl, r, _, rfl, hr⟩
    case istep =>
      rintro t c st'' _ ht ⟨rfl, out, p, q, ac, bc, rfl, h1, h2, h3, h4, h5, hph, hks, hperm⟩
      dsimp only
      obtain ⟨pb, eb, vb⟩ := hy (q - 1) (by omega) (by omega)
      obtain ⟨pa, ea, va⟩ := hx (p - 1) (by omega) (by omega)
      have ra0 := hP.ra (i := p - 1) (by omega)
      have rb0 := hP.rb (i := q - 1) (by omega)
      have ra : 2 * (p : Int) - 2 ≤ A (p - 1) ∧ A (p - 1) ≤ 2 * (p : Int) - 1 := by clear hph rb0; omega
      have rb : 2 * (q : Int) - 2 ≤ B (q - 1) ∧ B (q - 1) ≤ 2 * (q : Int) - 1 := by clear hph ra0; omega
      have hsum : p = q → A (p - 1) + B (q - 1) = 4 * (p : Int) - 3 := fun e => by
        have := hP.sum (i := p - 1) (by omega)
        rw [← e]; clear hph ra rb ra0 rb0; omega
      clear ra0 rb0
      have da := take_at (l := x.toList) (i := p - 1) (p := pa) (by simpa using ea)
      have db := take_at (l := y.toList) (i := q - 1) (p := pb) (by simpa using eb)
      rw [show p - 1 + 1 = p by omega] at da
      rw [show q - 1 + 1 = q by omega] at db
      rw [Nat.sub_zero] at ea eb
      refine wpS_bind (elemV eb ?_)
      refine wpS_bind (elemV ea ?_)
      refine wpS_bind (ltV hk vb va ?_)
      dsimp only
      by_cases hw : B (q - 1) < A (p - 1)
      · simp only [hw, decide_true, if_true]
        refine wpS_bind (elemV ea ?_)
        obtain ⟨key, ph⟩ := hph.a ra rb hsum hw
        have hp2 : 2 ≤ p := by
          rcases ph with ⟨e, _⟩ | ⟨e, _⟩
          · rw [e]; exact h5
          · omega
        have hac : ac ≤ 1 := by
          rcases ph with ⟨_, _, e, _⟩ | ⟨_, e⟩ <;> omega
        clear ra rb hph hsum
        rw [if_neg (by simp; omega), if_neg (by omega)]
        have hks' : Ks (out.push pa).toList.reverse ((p - 1 + q : Nat) : Int) := by
          rw [Array.toList_push, List.reverse_append]
          refine ⟨?_, ?_⟩
          · rw [numOf_of va, key]; clear key ph; omega
          · rw [show (((p - 1 + q : Nat) : Int) + 1) = ((p + q : Nat) : Int) by omega]; exact hks
        have hpm : ((x.toList.take (p - 1) ++ y.toList.take q) ++ (out.push pa).toList.reverse).Perm (x.toList ++ y.toList) := by
          refine List.Perm.trans ?_ hperm
          rw [da, Array.toList_push, List.reverse_append, List.append_assoc, List.append_assoc, List.append_assoc]
          refine List.Perm.append_left _ ?_
          show (y.toList.take q ++ (pa :: out.toList.reverse)).Perm (pa :: (y.toList.take q ++ out.toList.reverse))
          exact List.perm_middle
        refine wpS_pure ⟨rfl, _, p - 1, q, ac + 1, 0, rfl, by omega, by omega, by omega, by omega, by omega, ?_, hks', hpm⟩
        rcases ph with ⟨e, e2, e3, e4⟩ | ⟨e, e2⟩
        · exact .inr (.inl ⟨by omega, e2, by omega, rfl⟩)
        · exact .inl ⟨by omega, by omega, by omega⟩
      · simp only [hw, decide_false, Bool.false_eq_true, if_false]
        refine wpS_bind (elemV eb ?_)
        obtain ⟨key, ph⟩ := hph.b ra rb hsum hw
        have hbc : bc ≤ 1 := by
          rcases ph with ⟨_, _, _, e⟩ | ⟨_, e⟩ <;> omega
        clear ra rb hph hsum
        have hks' : Ks (out.push pb).toList.reverse ((p + (q - 1) : Nat) : Int) := by
          rw [Array.toList_push, List.reverse_append]
          refine ⟨?_, ?_⟩
          · rw [numOf_of vb, key]; clear key ph; omega
          · rw [show (((p + (q - 1) : Nat) : Int) + 1) = ((p + q : Nat) : Int) by omega]; exact hks
        have hpm : ((x.toList.take p ++ y.toList.take (q - 1)) ++ (out.push pb).toList.reverse).Perm (x.toList ++ y.toList) := by
          refine List.Perm.trans ?_ hperm
          rw [db, Array.toList_push, List.reverse_append, List.append_assoc, List.append_assoc, List.append_assoc]
          exact List.Perm.refl _
        by_cases hend : q = 2
        · rw [if_pos (by simp; omega)]
          refine wpS_pure ⟨rfl, _, _, rfl, ?_, ?_⟩
          · subst hend
            obtain ⟨pa0, ea0, va0⟩ := hx 0 (by omega) (by omega)
            obtain ⟨pa1, ea1, va1⟩ := hx 1 (by omega) (by omega)
            obtain ⟨pb0, eb0, vb0⟩ := hy 0 (by omega) (by omega)
            have da0 := take_at (l := x.toList) (i := 0) (p := pa0) (by simpa using ea0)
            have da1 := take_at (l := x.toList) (i := 1) (p := pa1) (by simpa using ea1)
            have db0 := take_at (l := y.toList) (i := 0) (p := pb0) (by simpa using eb0)
            rw [List.take_zero, List.nil_append, Nat.zero_add] at da0 db0
            rw [da0] at da1
            rw [Array.toList_append, Array.toList_append, toList_ext0, toList_ext0, Array.toList_reverse, show 2 - 1 = 1 by omega, db0]
            have ha0 : A 0 = 1 := by rw [h0] at k0; omega
            rcases ph with ⟨a1, a2, _⟩ | ⟨a1, _⟩
            · subst a1
              have ha1 : A 1 = 2 := a2
              rw [show (2 : Nat) = 1 + 1 by omega, da1]
              refine Ks.append (Ks.append (Ks.one ?_) ⟨?_, ?_, trivial⟩) ?_
              · rw [numOf_of vb0, h0]; rfl
              · rw [numOf_of va0, ha0]; simp
              · rw [numOf_of va1, ha1]; simp
              · simpa using hks'
            · have hp1 : p = 1 := by omega
              subst hp1
              rw [da0]
              refine Ks.append (Ks.append (Ks.one ?_) ⟨?_, trivial⟩) ?_
              · rw [numOf_of vb0, h0]; rfl
              · rw [numOf_of va0, ha0]; simp
              · simpa using hks'
          · rw [Array.toList_append, Array.toList_append, toList_ext0, toList_ext0, Array.toList_reverse]
            exact List.Perm.trans (List.Perm.append_right _ List.perm_append_comm) hpm
        · rw [if_neg (by simp; omega), if_neg (by omega)]
          refine wpS_pure ⟨rfl, _, p, q - 1, 0, bc + 1, rfl, by omega, by omega, by omega, by omega, by omega, ?_, hks', hpm⟩
          rcases ph with ⟨e, e2, e3, e4⟩ | ⟨e, e2⟩
          · exact .inr (.inr ⟨by omega, e2, rfl, by omega⟩)
          · exact .inl ⟨by omega, by omega, by omega⟩
end
end Mine
end
noncomputable section
open PySem PyProof.Rows
set_option maxRecDepth 100000
namespace Mine
theorem set_run {α : Type} : ∀ (l : List α) (a : Array α) (sa j0 : Nat), sa + j0 + l.length ≤ a.size →
    ((l.zipIdx j0).foldl (fun a (q : α × Nat) => a.setIfInBounds (sa + q.2) q.1) a).toList = a.toList.take (sa + j0) ++ (l ++ a.toList.drop (sa + j0 + l.length))
  | [], a, sa, j0, _ => by simp
  | p :: l, a, sa, j0, h => by
    rw [List.length_cons] at h
    rw [List.zipIdx_cons, List.foldl_cons, set_run l _ sa (j0 + 1) (by rw [Array.size_setIfInBounds]; omega), Array.toList_setIfInBounds, List.set_eq_take_append_cons_drop, if_pos (by simp; omega)]
    have hl : (a.toList.take (sa + j0)).length = sa + j0 := by simp; omega
    have e1 : (a.toList.take (sa + j0) ++ p :: a.toList.drop (sa + j0 + 1)).take (sa + (j0 + 1)) = a.toList.take (sa + j0) ++ [p] := by
      rw [List.take_append, hl, show sa + (j0 + 1) - (sa + j0) = 1 by omega]
      rw [List.take_of_length_le (by omega)]
      rfl
    have e2 : (a.toList.take (sa + j0) ++ p :: a.toList.drop (sa + j0 + 1)).drop (sa + (j0 + 1) + l.length) = a.toList.drop (sa + j0 + (l.length + 1)) := by
      rw [List.drop_append, hl, List.drop_of_length_le (by omega), List.nil_append, show sa + (j0 + 1) + l.length - (sa + j0) = l.length + 1 by omega, List.drop_succ_cons, List.drop_drop]
      congr 1
      omega
    rw [e1, e2, List.length_cons, List.append_assoc]
    rfl
theorem mono_up {g : Nat → Int} (hm : ∀ i j, i < j → j < 32 → g i < g j) (hlo : ∀ i, i < 32 → 0 ≤ g i) : ∀ i : Nat, i < 32 → (i : Int) ≤ g i
  | 0, h => hlo 0 h
  | i + 1, h => by
    have := mono_up hm hlo i (by omega)
    have := hm i (i + 1) (by omega) h
    omega
theorem mono_dn {g : Nat → Int} (hm : ∀ i j, i < j → j < 32 → g i < g j) (hhi : ∀ i, i < 32 → g i < 32) : ∀ d i : Nat, i + d = 31 → g i ≤ (i : Int)
  | 0, i, h => by have := hhi i (by omega); omega
  | d + 1, i, h => by
    have := mono_dn hm hhi d (i + 1) (by omega)
    have := hm i (i + 1) (by omega) (by omega)
    omega
theorem Ks.get : ∀ {l : List Keyed} {k : Int} {i : Nat} {p : Keyed}, Ks l k → l[i]? = some p → kk p = k + i
  | p :: l, k, 0, q, h, e => by cases e; simpa using h.1
  | p :: l, k, i + 1, q, h, e => by
    have := Ks.get h.2 (show l[i]? = some q by simpa using e)
    rw [this]; omega
theorem K_of_Ks {xs : Array Keyed} {i : Nat} (h : Ks xs.toList 0) (hi : i < xs.size) : K xs i = i := by
  have e : xs[i]? = some xs[i] := getElem?_pos xs i hi
  rw [K_eq hi]
  have := Ks.get h (show xs.toList[i]? = some xs[i] by simp)
  simpa using this
theorem K_inj {xs a₀ : Array Keyed} (hp : xs.Perm a₀) (hsz : a₀.size = 64) (hN : ∀ i j, i < 64 → j < 64 → K a₀ i = K a₀ j → i = j) : ∀ i j, i < 64 → j < 64 → K xs i = K xs j → i = j := by
  have hs := hp.size_eq
  have h0 : (a₀.toList.map kk).Nodup := by
    rw [List.nodup_iff_pairwise_ne, List.pairwise_iff_getElem]
    intro i j hi hj hij e
    simp only [List.length_map, Array.length_toList] at hi hj
    have := hN i j (by omega) (by omega) (by rw [K_eq (by omega), K_eq (by omega)]; simpa using e)
    omega
  have h1 : (xs.toList.map kk).Nodup := ((Array.perm_iff_toList_perm.mp hp).map kk).nodup_iff.mpr h0
  intro i j hi hj e
  rw [K_eq (by omega), K_eq (by omega)] at e
  exact (List.getElem_inj (i := i) (j := j) (h₀ := by simp; omega) (h₁ := by simp; omega) h1).mp (by simpa using e)
structure Good64 (a₀ : Array Keyed) : Prop where
  size : a₀.size = 64
  keys : IntKeys a₀
  rng : ∀ i, i < 64 → 0 ≤ K a₀ i ∧ K a₀ i < 64
  inj : ∀ i j, i < 64 → j < 64 → K a₀ i = K a₀ j → i = j
  half : ∀ i j, i < 64 → j < 64 → (i < 32 ↔ j < 32) → K a₀ i / 2 = K a₀ j / 2 → i = j
  alt : ∀ i, i < 63 → ((K a₀ i < 32 ∧ 32 ≤ K a₀ (i + 1)) ∨ (32 ≤ K a₀ i ∧ K a₀ (i + 1) < 32))
theorem half_sorted {xs a₀ : Array Keyed} {lo : Nat} (H : Good64 a₀) (hp : xs.Perm a₀) (hlo : lo = 0 ∨ lo = 32) (hw : ∀ k, lo ≤ k → k < lo + 32 → ∃ k', lo ≤ k' ∧ k' < lo + 32 ∧ K xs k = K a₀ k') (hs : SortW xs lo 32) :
    ∀ i : Nat, i < 32 → K xs (lo + i) / 2 = i := by
  have hinj := K_inj hp H.size H.inj
  have hm : ∀ i j, i < j → j < 32 → K xs (lo + i) / 2 < K xs (lo + j) / 2 := by
    intro i j h1 h2
    have h3 := hs (lo + i) (lo + j) (by omega) (by omega) (by omega)
    have h4 : K xs (lo + i) / 2 ≠ K xs (lo + j) / 2 := by
      intro e
      obtain ⟨a, a1, a2, a3⟩ := hw (lo + i) (by omega) (by omega)
      obtain ⟨b, b1, b2, b3⟩ := hw (lo + j) (by omega) (by omega)
      rw [a3, b3] at e
      have e2 := H.half a b (by omega) (by omega) (by omega) e
      subst e2
      have := hinj _ _ (by omega) (by omega) (a3.trans b3.symm)
      omega
    omega
  have hr : ∀ i, i < 32 → 0 ≤ K xs (lo + i) / 2 ∧ K xs (lo + i) / 2 < 32 := by
    intro i hi
    obtain ⟨a, a1, a2, a3⟩ := hw (lo + i) (by omega) (by omega)
    have := H.rng a (by omega)
    rw [a3]; omega
  intro i hi
  have u := mono_up (g := fun i => K xs (lo + i) / 2) hm (fun i h => (hr i h).1) i hi
  have d := mono_dn (g := fun i => K xs (lo + i) / 2) hm (fun i h => (hr i h).2) (31 - i) i (by omega)
  omega

theorem prs_of {xs a₀ : Array Keyed} (H : Good64 a₀) (hp : xs.Perm a₀) (hw0 : ∀ k, k < 32 → ∃ k', k' < 32 ∧ K xs k = K a₀ k') (hw1 : ∀ k, 32 ≤ k → k < 64 → ∃ k', 32 ≤ k' ∧ k' < 64 ∧ K xs k = K a₀ k')
    (s0 : SortW xs 0 32) (s1 : SortW xs 32 32) : Prs (fun i => K xs i) (fun i => K xs (32 + i)) where
  pair i hi := by
    have e0 := half_sorted H hp (.inl rfl) (fun k h1 h2 => by obtain ⟨k', a, b⟩ := hw0 k (by omega); exact ⟨k', by omega, by omega, b⟩) s0 i hi
    have e1 := half_sorted H hp (.inr rfl) (fun k h1 h2 => by obtain ⟨k', a, b, c⟩ := hw1 k (by omega) (by omega); exact ⟨k', by omega, by omega, c⟩) s1 i hi
    rw [Nat.zero_add] at e0
    have hne : K xs i ≠ K xs (32 + i) := fun e => by have := K_inj hp H.size H.inj _ _ (by omega) (by omega) e; omega
    omega
theorem at_of {xs : Array Keyed} {a₀ : Array Keyed} (h0 : IntKeys a₀) (hp : xs.Perm a₀) {i : Nat} (hi : i < xs.size) : ∃ p, xs[i]? = some p ∧ ∃ t, p.1 = .int (K xs i) t := by
  refine ⟨xs[i], getElem?_pos xs i hi, ?_⟩
  have hm : xs[i] ∈ a₀.toList := (Array.perm_iff_toList_perm.mp hp).mem_iff.mp (by simp)
  obtain ⟨n, t, hn⟩ := h0 _ hm
  refine ⟨t, ?_⟩
  rw [K_eq hi, hn]
  rfl
section
variable {prog : Program} {w : World} {Ar : Around} {E : Value → Shared → Prop} {s : Shared} {a₀ : Array Keyed}
def Dn (a₀ : Array Keyed) (st : SortSt) : Prop := (arrOf st).Perm a₀ ∧ failedOf st = none ∧ SortedTo (arrOf st) a₀.size
theorem wpS_set {σ : Type} {M : Model} {A : Around} {x st : σ} {Q : PUnit → σ → Prop} (h : Q ⟨⟩ x) : wpS M A E s (set x : StateT σ Sem PUnit) Q st := by
  unfold wpS; rw [StateT.run_set]; exact wpAny_pure ⟨rfl, h⟩
theorem ext_list {α : Type} (xs : Array α) (i j : Nat) : (xs.extract i j).toList = (xs.toList.drop i).take (j - i) := by
  rw [Array.toList_extract]
theorem fin64 {xs r : Array Keyed} {sa nb : Nat} (H : Good64 a₀) (hp : xs.Perm a₀) (hR : Res (xs.extract sa 32) (xs.extract 32 (32 + nb)) sa r) (hnb : nb = 32 ∨ (nb = 31 ∧ K xs 63 = 63)) (hsa : sa = 0 ∨ (sa = 1 ∧ K xs 0 = 0)) :
    ((r.toList.zipIdx.foldl (fun a (q : Keyed × Nat) => a.setIfInBounds (sa + q.2) q.1) xs)).Perm a₀ ∧ SortedTo (r.toList.zipIdx.foldl (fun a (q : Keyed × Nat) => a.setIfInBounds (sa + q.2) q.1) xs) a₀.size := by
  have hsz : xs.size = 64 := by rw [hp.size_eq, H.size]
  obtain ⟨hks, hperm⟩ := hR
  rw [ext_list, ext_list, show 32 + nb - 32 = nb by omega] at hperm
  have hlen : r.toList.length = 32 - sa + nb := by
    rw [hperm.length_eq, List.length_append, List.length_take, List.length_take, List.length_drop, List.length_drop, Array.length_toList, hsz]; omega
  have e := set_run r.toList xs sa 0 (by rw [hlen]; omega)
  rw [hlen, show sa + 0 + (32 - sa + nb) = 32 + nb by omega, Nat.add_zero] at e
  generalize r.toList.zipIdx.foldl (fun a (q : Keyed × Nat) => a.setIfInBounds (sa + q.2) q.1) xs = ys at e ⊢
  have hpy : ys.Perm a₀ := by
    refine Array.Perm.trans (Array.perm_iff_toList_perm.mpr ?_) hp
    rw [e]
    have e2 : xs.toList = xs.toList.take sa ++ (((xs.toList.drop sa).take (32 - sa) ++ (xs.toList.drop 32).take nb) ++ xs.toList.drop (32 + nb)) := by
      have a1 : (xs.toList.drop 32).take nb ++ xs.toList.drop (32 + nb) = xs.toList.drop 32 := by
        rw [← List.drop_drop]; exact List.take_append_drop _ _
      have a2 : (xs.toList.drop sa).take (32 - sa) ++ xs.toList.drop 32 = xs.toList.drop sa := by
        have a3 : xs.toList.drop 32 = (xs.toList.drop sa).drop (32 - sa) := by rw [List.drop_drop, show sa + (32 - sa) = 32 by omega]
        rw [a3]; exact List.take_append_drop _ _
      rw [List.append_assoc, a1, a2, List.take_append_drop]
    conv => rhs; rw [e2]
    exact List.Perm.append_left _ (List.Perm.append_right _ hperm)
  refine ⟨hpy, ?_⟩
  have hk : Ks ys.toList 0 := by
    rw [e]
    refine Ks.append ?_ (Ks.append ?_ ?_)
    · rcases hsa with rfl | ⟨rfl, h0⟩
      · exact trivial
      · have t := take_at (l := xs.toList) (i := 0) (p := xs[0]) (by simp)
        rw [List.take_zero, List.nil_append, Nat.zero_add] at t
        rw [t]
        rw [K_eq (by omega)] at h0
        exact Ks.one h0
    · have : (0 : Int) + ((xs.toList.take sa).length : Int) = (sa : Int) := by rw [List.length_take, Array.length_toList]; omega
      rw [this]; exact hks
    · rcases hnb with rfl | ⟨rfl, h63⟩
      · rw [List.drop_of_length_le (by rw [Array.length_toList]; omega)]; exact trivial
      · have t := drop_at (l := xs.toList) (i := 63) (p := xs[63]) (by simp)
        rw [show 32 + 31 = 63 by omega, t, List.drop_of_length_le (by rw [Array.length_toList]; omega)]
        rw [K_eq (by omega)] at h63
        refine Ks.one ?_
        show numOf xs[63].1 = _
        rw [h63, hlen, List.length_take, Array.length_toList]; omega
  have hys : ys.size = 64 := by rw [hpy.size_eq, H.size]
  intro i j hij hj
  rw [H.size] at hj
  rw [K_of_Ks hk (by omega), K_of_Ks hk (by omega)]
  omega
theorem mrgAt {st : SortSt} {pw : Nat} {Q : Bool → SortSt → Prop} (H : Good64 a₀) (hB : SB a₀ st) (hp : pendingOf st = #[(0, 32, pw), (32, 32, 0)]) (hP : Prs (fun i => K (arrOf st) i) (fun i => K (arrOf st) (32 + i)))
    (h : ∀ st', Dn a₀ st' → pendingOf st' = #[(0, 64, pw)] → Q true st') : wpS (model prog w) Ar E s (mergeAt' 0) Q st := by
  have hsz : (arrOf st).size = 64 := by rw [hB.size, H.size]
  rcases st with ⟨kd, xs, pd, mg, fl⟩
  have hpd : pd = #[(0, 32, pw), (32, 32, 0)] := hp
  have hfl : fl = none := hB.failed
  subst hpd
  subst hfl
  clear hp
  have hpm : xs.Perm a₀ := hB.perm
  have hkd : kd = oneType' := hB.kind
  have hmg : mg = 7 := hB.gallop
  subst hmg
  replace hsz : xs.size = 64 := hsz
  replace hP : Prs (fun i => K xs i) (fun i => K xs (32 + i)) := hP
  have k0 := hP.pair 0 (by omega)
  have k1 := hP.pair 1 (by omega)
  have k30 := hP.pair 30 (by omega)
  have k31 := hP.pair 31 (by omega)
  simp only [Nat.add_zero, Nat.reduceAdd] at k0 k1 k30 k31
  obtain ⟨q0, e0, v0⟩ := at_of H.keys hpm (i := 0) (by omega)
  obtain ⟨q1, e1, v1⟩ := at_of H.keys hpm (i := 1) (by omega)
  obtain ⟨q31, e31, v31⟩ := at_of H.keys hpm (i := 31) (by omega)
  obtain ⟨q32, e32, v32⟩ := at_of H.keys hpm (i := 32) (by omega)
  obtain ⟨q62, e62, v62⟩ := at_of H.keys hpm (i := 62) (by omega)
  obtain ⟨q63, e63, v63⟩ := at_of H.keys hpm (i := 63) (by omega)
  refine wpS_bind (wpS_get ?_)
  dsimp only
  refine wpS_bind (wpS_set ?_)
  refine wpS_bind (elemV e32 ?_)
  have fin : ∀ (sa nb off : Nat) (r : Array Keyed) (pd : Array (Nat × Nat × Nat)) (fo : Bool), off = sa → pd = #[(0, 64, pw)] → fo = true → (sa = 0 ∨ (sa = 1 ∧ K xs 0 = 0)) → (nb = 32 ∨ (nb = 31 ∧ K xs 63 = 63)) → Res (xs.extract sa 32) (xs.extract 32 (32 + nb)) sa r →
      Q fo (SortSt.mk' kd (r.toList.zipIdx.foldl (fun a (q : Keyed × Nat) => a.setIfInBounds (off + q.2) q.1) xs) pd 7 none) := by
    rintro sa nb off r pd fo rfl rfl rfl hsa hnb hR
    obtain ⟨f1, f2⟩ := fin64 H hpm hR hnb hsa
    exact h (SortSt.mk' kd _ _ 7 none) ⟨f1, rfl, f2⟩ rfl
  have hAx : ∀ sa, At (xs.extract sa 32) (fun i => K xs i) sa 32 := by
    intro sa i h1 h2
    obtain ⟨p, ep, vp⟩ := at_of H.keys hpm (i := i) (by omega)
    refine ⟨p, ?_, vp⟩
    rw [Array.getElem?_extract, if_pos (by omega), show sa + (i - sa) = i by omega]
    exact ep
  have hAy : ∀ nb, nb ≤ 32 → At (xs.extract 32 (32 + nb)) (fun i => K xs (32 + i)) 0 nb := by
    intro nb hnb i h1 h2
    obtain ⟨p, ep, vp⟩ := at_of H.keys hpm (i := 32 + i) (by omega)
    refine ⟨p, ?_, vp⟩
    rw [Array.getElem?_extract, if_pos (by omega), Nat.sub_zero]
    exact ep
  refine wpS_bind (gallopR (n := 32) (base := 0) hkd v32 e0 v0 e1 v1 (by omega) (by omega) (fun hlt => ?_) (fun hlt => ?_))
  all_goals
    dsimp only
    rw [if_neg (by decide)]
    refine wpS_bind (elemV e31 ?_)
    refine wpS_bind (gallopL (n := 32) (base := 32) (hint := 31) hkd rfl (by omega) v31 e63 v63 e62 v62 (by omega) (fun hlt2 => ?_) (fun hlt2 => ?_))
  all_goals
    dsimp only
    rw [if_neg (by decide)]
  · rw [if_pos (by decide)]
    refine wpS_bind (mrgLo (sa := 0) (nb := 32) hkd rfl hP (hAx 0) (hAy 32 (by omega)) (by simp; omega) (by simp; omega) (.inl ⟨rfl, by show K xs 32 = 0; omega⟩) (.inl ⟨rfl, by show K xs 63 = 62; omega⟩) fun r hr => ?_)
    refine wpS_bind (wpS_modify ?_)
    refine wpS_bind (wpS_get ?_)
    exact wpS_pure (fin 0 32 _ r _ _ rfl (by simp) rfl (.inl rfl) (.inl rfl) hr)
  · rw [if_neg (by decide)]
    refine wpS_bind (mrgHi hkd rfl hP (hAx 0) (hAy 31 (by omega)) (by simp; omega) (by simp; omega) (by show K xs 32 = 0; omega) (by show K xs 31 = 62; omega) fun r hr => ?_)
    refine wpS_bind (wpS_modify ?_)
    refine wpS_bind (wpS_get ?_)
    exact wpS_pure (fin 0 31 _ r _ _ rfl (by simp) rfl (.inl rfl) (.inr ⟨rfl, by omega⟩) hr)
  · rw [if_pos (by decide)]
    refine wpS_bind (mrgLo (sa := 1) (nb := 32) hkd rfl hP (hAx 1) (hAy 32 (by omega)) (by simp; omega) (by simp; omega) (.inr ⟨rfl, by show K xs 0 = 0; omega⟩) (.inl ⟨rfl, by show K xs 63 = 62; omega⟩) fun r hr => ?_)
    refine wpS_bind (wpS_modify ?_)
    refine wpS_bind (wpS_get ?_)
    exact wpS_pure (fin 1 32 _ r _ _ rfl (by simp) rfl (.inr ⟨rfl, by omega⟩) (.inl rfl) hr)
  · rw [if_pos (by decide)]
    refine wpS_bind (mrgLo (sa := 1) (nb := 31) hkd rfl hP (hAx 1) (hAy 31 (by omega)) (by simp; omega) (by simp; omega) (.inr ⟨rfl, by show K xs 0 = 0; omega⟩) (.inr ⟨rfl, by show K xs 31 = 62; omega⟩) fun r hr => ?_)
    refine wpS_bind (wpS_modify ?_)
    refine wpS_bind (wpS_get ?_)
    exact wpS_pure (fin 1 31 _ r _ _ rfl (by simp) rfl (.inr ⟨rfl, by omega⟩) (.inr ⟨rfl, by omega⟩) hr)
def M1 (a₀ : Array Keyed) (st : SortSt) : Prop := SB a₀ st ∧ pendingOf st = #[(0, 32, 0)] ∧ Win a₀ (arrOf st) 0 ∧ SortW (arrOf st) 0 32
def M2 (a₀ : Array Keyed) (st : SortSt) : Prop := SB a₀ st ∧ (∃ pw, pendingOf st = #[(0, 32, pw), (32, 32, 0)]) ∧ Prs (fun i => K (arrOf st) i) (fun i => K (arrOf st) (32 + i))
theorem sort64 {Q : Unit → SortSt → Prop} (H : Good64 a₀) (h : ∀ st', (arrOf st').Perm a₀ → failedOf st' = none → SortedTo (arrOf st') a₀.size → Q () st') :
    wpS (model prog w) Ar E s sortRuns' Q (SortSt.mk' oneType' a₀ #[] 7 none) := by
  rw [sortRuns'_eq]
  refine wpS_bind (wpS_get ?_)
  have hB0 : SB a₀ (SortSt.mk' oneType' a₀ #[] 7 none) := ⟨Array.Perm.refl _, rfl, rfl, rfl⟩
  have hsz := H.size
  have hmr : minRun' 64 64 0 = 32 := rfl
  dsimp only
  rw [hsz, hmr]
  refine wpS_bind (wpS_mono (wpS_forRange
    (I := fun x c st' => (x = 0 ∧ c = (none, 0) ∧ st' = SortSt.mk' oneType' a₀ #[] 7 none) ∨ (x = 1 ∧ c = (none, 32) ∧ M1 a₀ st') ∨ (2 ≤ x ∧ c = (none, 64) ∧ M2 a₀ st'))
    (Q := fun c st' => c = (none, 64) ∧ M2 a₀ st') ?step ?fin (.inl ⟨rfl, rfl, rfl⟩)) ?post)
  case fin =>
    rintro c st' (⟨hx, _, _⟩ | ⟨hx, _⟩ | ⟨_, hc, hD⟩)
    · omega
    · omega
    · exact ⟨hc, hD⟩
  case step =>
    rintro x c st' _ hx (⟨rfl, rfl, rfl⟩ | ⟨rfl, rfl, hB, hp, hW, hS⟩ | ⟨hx2, rfl, hM⟩)
    · dsimp only
      rw [if_neg (by omega)]
      refine wpS_bind (cntRun H.keys (lo := 0) (nrem := 64 - 0) (by omega) (by omega) hB0 ?_ fun m st2 hB2 hp2 hW2 hm1 hm2 hs2 => ?_)
      · intro i hi
        have := H.alt i (by omega)
        simp only [Nat.zero_add]
        exact this
      dsimp only
      rw [if_pos (by omega)]
      refine wpS_bind (wpS_lift (wpAny_rule ⟨rfl, ?_⟩))
      rw [show min (64 - 0) 32 = 32 by omega]
      refine wpS_bind (binSort H.keys (by omega) (by omega) hB2 hs2 fun st3 hB3 hp3 hW3 hs3 => ?_)
      simp only [Bool.not_true, Bool.false_eq_true, if_false]
      refine wpS_bind (wpS_get ?_)
      have hpend : pendingOf st3 = #[] := hp3.trans hp2
      have hb : (pendingOf st3).back? = none := by rw [hpend]; rfl
      rw [hb]
      dsimp only
      refine wpS_bind (wpS_modify (wpS_pure (.inr (.inl ⟨trivial, rfl, hB3.setP _, ?_, hW2.trans hW3, hs3⟩))))
      show (pendingOf st3).push _ = _
      rw [hpend]; rfl
    · dsimp only
      rw [if_neg (by omega)]
      refine wpS_bind (cntRun H.keys (lo := 32) (nrem := 64 - 32) (by omega) (by omega) hB ?_ fun m st2 hB2 hp2 hW2 hm1 hm2 hs2 => ?_)
      · intro i hi
        have := H.alt (32 + i) (by omega)
        rw [hW.1 (32 + i) (by omega), hW.1 (32 + i + 1) (by omega)]
        exact this
      dsimp only
      rw [if_pos (by omega)]
      refine wpS_bind (wpS_lift (wpAny_rule ⟨rfl, ?_⟩))
      rw [show min (64 - 32) 32 = 32 by omega]
      refine wpS_bind (binSort H.keys (by omega) (by omega) hB2 hs2 fun st3 hB3 hp3 hW3 hs3 => ?_)
      simp only [Bool.not_true, Bool.false_eq_true, if_false]
      refine wpS_bind (wpS_get ?_)
      have hpend : pendingOf st3 = #[(0, 32, 0)] := hp3.trans (hp2.trans hp)
      have hb : (pendingOf st3).back? = some (0, 32, 0) := by rw [hpend]; rfl
      rw [hb]
      dsimp only
      have hWW := hW2.trans hW3
      have hP3 : Prs (fun i => K (arrOf st3) i) (fun i => K (arrOf st3) (32 + i)) := by
        refine prs_of H hB3.perm (fun k hk => ?_) (fun k h1 h2 => ?_) (fun i j h1 h2 h3 => ?_) hs3
        · obtain ⟨k', a1, a2, a3⟩ := hW.2 k (by omega) (by omega)
          exact ⟨k', by omega, (hWW.1 k (by omega)).trans a3⟩
        · obtain ⟨k', a1, a2, a3⟩ := hWW.2 k (by omega) (by omega)
          exact ⟨k', by omega, by omega, a3.trans (hW.1 k' (by omega))⟩
        · rw [hWW.1 i (by omega), hWW.1 j (by omega)]
          exact hS i j h1 h2 h3
      refine wpS_bind (wpS_mono (wpS_forRange (I := fun x c st4 => x = 0 ∧ st4 = st3 ∧ c = (none, ())) (Q := fun c st4 => st4 = st3 ∧ c = (none, ())) ?bstep ?bfin ⟨rfl, rfl, rfl⟩) ?bpost)
      case bfin => rintro c st4 ⟨h1, _⟩; omega
      case bstep =>
        rintro x c st4 _ _ ⟨rfl, rfl, rfl⟩
        refine wpS_bind (wpS_get ?_)
        have hs1 : ¬ (pendingOf st4).size > 1 := by rw [hpend]; decide
        rw [if_neg hs1]
        exact wpS_pure ⟨rfl, rfl⟩
      case bpost =>
        rintro c st4 ⟨rfl, rfl⟩
        dsimp only
        refine wpS_bind (wpS_modify ?_)
        refine wpS_bind (wpS_modify (wpS_pure (.inr (.inr ⟨by omega, rfl, hB3.setP _, ⟨power' 64 (2 * 0 + 32) (2 * 0 + 32 + 32 + 32) 64, ?_⟩, hP3⟩))))
        show (((pendingOf st4).modify _ _).push _) = _
        rw [hpend]; rfl
    · dsimp only
      rw [if_pos (Nat.le_refl _)]
      exact wpS_pure ⟨rfl, hM⟩
  case post =>
    rintro c st' ⟨rfl, hB, ⟨pw, hp⟩, hP⟩
    dsimp only
    refine wpS_bind (wpS_mono (wpS_forRange (I := fun x c st2 => c = (none, ()) ∧ ((x = 0 ∧ st2 = st') ∨ (1 ≤ x ∧ Dn a₀ st2 ∧ pendingOf st2 = #[(0, 64, pw)]))) (Q := fun c st2 => c = (none, ()) ∧ Dn a₀ st2) ?cstep ?cfin ⟨rfl, .inl ⟨rfl, rfl⟩⟩) ?cpost)
    case cfin =>
      rintro c st2 ⟨rfl, ⟨h1, _⟩ | ⟨h1, h2, _⟩⟩
      · omega
      · exact ⟨rfl, h2⟩
    case cpost =>
      rintro c st2 ⟨rfl, hD⟩
      exact wpS_pure (h _ hD.1 hD.2.1 hD.2.2)
    case cstep =>
      rintro x c st2 _ _ ⟨rfl, ⟨rfl, rfl⟩ | ⟨h1, hD, hpd⟩⟩
      · refine wpS_bind (wpS_get ?_)
        have hs2 : (pendingOf st2).size = 2 := by rw [hp]; rfl
        rw [if_neg (by rw [hs2]; omega)]
        rw [hs2]
        refine wpS_bind (mrgAt H hB hp hP fun st3 hD3 hp3 => ?_)
        exact wpS_pure ⟨rfl, .inr ⟨by omega, hD3, hp3⟩⟩
      · refine wpS_bind (wpS_get ?_)
        rw [if_pos (by rw [hpd]; exact Nat.le_refl 1)]
        exact wpS_pure ⟨rfl, hD⟩
end
end Mine
end
noncomputable section
open PySem PyProof.Rows
set_option maxRecDepth 100000
namespace Mine
section
variable {prog : Program} {w : World} {A : Around} {E : Value → Shared → Prop} {s : Shared}
theorem sortItems64 {a : Addr} {vs : List Value} {ns : List Int} {n : Nat} {P : Fin → Shared → Prop} (ho : s.heap.get? a = some (seqObj "list" vs.toArray n))
    (hI : IntsAre vs ns) (H : Good64 (pairsOf vs))
    (h : ∀ (out : Array Value) (ns' : List Int), IntsAre out.toList ns' → ns'.Perm ns → ns'.Pairwise (· ≤ ·) → P (.done (.ret .none)) { s with heap := sortedHeap s.heap a vs out }) :
    wpAny (model prog w) A (Builtin.«list.sort» ⟨[.ref a], []⟩) P E s := by
  have hlen : vs.length = 64 := by rw [← pairsOf_size]; exact H.size
  have hlt : a < s.heap.objs.size := Heap.lt_size ho
  rw [list_sort_plain]
  refine wpAny_bind (listItems_at ho rfl (wpAny_bind (listUpdate_at ho rfl ?_ (by rw [sizeLine_eq]; simp; omega))))
  obtain ⟨e1, ho1⟩ : ∃ e1, (s.heap.update a (Obj.mapSeq fun _ => #[])).get? a = some (seqObj "list" #[] e1) := ⟨_, get?_update_seq ho (fun _ => #[])⟩
  refine wpAny_bind (seqEpoch_at ho1 rfl (wpAny_bind (wpAny_newTuple (wpAny_bind (wpAny_newList (wpAny_holding ?_))))))
  have ho6 : (((s.heap.update a (Obj.mapSeq fun _ => #[])).push (seqObj "tuple" vs.toArray 0)).push (seqObj "list" #[] 0)).get? a = some (seqObj "list" #[] e1) := by
    rw [Heap.get?_push_ne _ _ _ (by rw [size_push', Heap.size_update]; exact Nat.ne_of_lt (Nat.lt_succ_of_lt hlt)), Heap.get?_push_ne _ _ _ (by rw [Heap.size_update]; exact Nat.ne_of_lt hlt)]
    exact ho1
  show wpAny (model prog w) A _ P E { s with heap := ((s.heap.update a (Obj.mapSeq fun _ => #[])).push (seqObj "tuple" vs.toArray 0)).push (seqObj "list" #[] 0) }
  dsimp only
  have hn2 : ¬ vs.toArray.size < 2 := by simp; omega
  rw [if_neg hn2, if_neg hn2]
  match vs, hlen, hI, H, ho6, h with
  | [], hl, _, _, _, _ => simp at hl
  | [_], hl, _, _, _, _ => simp at hl
  | v₁ :: v₂ :: rest, hl, hI, H, ho6, h =>
    rw [keyKind_ints hI]
    refine wpAny_bind (wpAny_pure (wpAny_bind (wpAny_mono (sort64 (a₀ := pairsOf (v₁ :: v₂ :: rest))
      (Q := fun _ st' => (arrOf st').Perm (pairsOf (v₁ :: v₂ :: rest)) ∧ failedOf st' = none ∧ SortedTo (arrOf st') (pairsOf (v₁ :: v₂ :: rest)).size) H fun st' a1 a2 a3 => ⟨a1, a2, a3⟩) ?_ fun _ _ e => e)))
    rintro ⟨⟨⟩, st'⟩ s' ⟨rfl, hp, hf, hs⟩
    obtain ⟨ns', b1, b2, b3⟩ := sorted_out hI hp hs
    dsimp only
    refine wpAny_bind (seqEpoch_at ho6 rfl (wpAny_bind (listUpdate_at ho6 rfl ?_ (hsz2 := ?_))))
    · rw [hf]
      simp only [bne_self_eq_false, Bool.false_eq_true, if_false]
      exact wpAny_pure (h _ ns' b1 b2 b3)
    · refine Nat.le_trans (Nat.le_of_eq ((Array.size_map ..).trans (hp.size_eq.trans (pairsOf_size _)))) ?_
      rw [sizeLine_eq, hl]; omega
theorem sorted64 {h₀ : Heap} {L : Addr} {m : Str → Option Value} {news : List (Addr × Obj)} {l : Addr} {vs : List Value} {ns : List Int} {Q : Value → Shared → Prop}
    (F : Fr h₀ L s.heap m) (N : News h₀ L s.heap news) (hl : s.heap.IsList l vs.toArray) (hI : IntsAre vs ns) (H : Good64 (pairsOf vs))
    (h : ∀ (h' : Heap) (vs' : List Value) (ns' : List Int) (e : Nat), Fr h₀ L h' m → News h₀ L h' ((s.heap.objs.size + 1, seqObj "list" vs'.toArray e) :: news) →
      IntsAre vs' ns' → ns'.Perm ns → ns'.Pairwise (· ≤ ·) → Q (.ref (s.heap.objs.size + 1)) { s with heap := h' }) :
    wpAny (model prog w) A (call (.builtin "sorted") [.ref l]) Q E s := by
  have hlen : vs.length = 64 := by rw [← pairsOf_size]; exact H.size
  refine Calls.call_function_entry kind_sorted plain_sorted entry_sorted (args_sorted1 _) ?_
  unfold Builtin.«sorted»
  refine wpAny_bind (m := checkCount "sorted" 1 1 _) (wpAny_pure (wpAny_bind (collect_list hl (wpAny_bind (wpAny_newList ?_)) (by rw [sizeLine_eq]; omega))))
  have hsz : ((s.heap.push (seqObj "list" #[] 0)).update s.heap.objs.size (Obj.mapSeq (· ++ vs.toArray))).objs.size = s.heap.objs.size + 1 := by
    rw [Heap.size_update, size_push']
  have hoL : (((s.heap.push (seqObj "list" #[] 0)).update s.heap.objs.size (Obj.mapSeq (· ++ vs.toArray))).push (seqObj "list" vs.toArray 0)).get? (s.heap.objs.size + 1) = some (seqObj "list" vs.toArray 0) := by
    rw [← hsz]; exact Heap.get?_push_size _ rfl
  show wpAny _ _ _ _ _ { s with heap := ((s.heap.push (seqObj "list" #[] 0)).update s.heap.objs.size (Obj.mapSeq (· ++ vs.toArray))).push (seqObj "list" vs.toArray 0) }
  rw [hsz]
  refine wpAny_bind (wpAny_holding (wpAny_call_entry slot_list_sort ⟨_, hoL, rfl⟩ entry_list_sort (sortItems64 hoL hI H fun out ns' a1 a2 a3 => ⟨_, rfl, ?_⟩) (args_list_sort _)))
  obtain ⟨e, he⟩ := sortedAll_at s.heap vs out
  exact wpAny_pure ⟨_, rfl, h _ out.toList ns' e (F.kept fun _ _ => sortedAll_old) (N.kept_cons F (fun _ _ => sortedAll_old) (Nat.le_succ _) he) a1 a2 a3⟩
end
end Mine
end
noncomputable section
open PySem PyProof.Rows PySem.W
set_option maxRecDepth 100000
namespace Mine
theorem rev_inj {n : Int} {w : Nat} (hw : w < 7) {i j : Nat} (hi : i < 2 ^ w) (hj : j < 2 ^ w) (e : rev (n + (i : Int)) w = rev (n + (j : Int)) w) : i = j := by
  have h : (n + (i : Int)) % 2 ^ w = (n + (j : Int)) % 2 ^ w := by rw [← rev_rev, ← rev_rev, e]
  have hc : w = 0 ∨ w = 1 ∨ w = 2 ∨ w = 3 ∨ w = 4 ∨ w = 5 ∨ w = 6 := by omega
  rcases hc with rfl | rfl | rfl | rfl | rfl | rfl | rfl <;> simp only [Nat.reducePow, Int.reducePow] at hi hj h <;> omega
theorem asc_up {g : Nat → Int} {N : Nat} (hm : ∀ i j, i < j → j < N → g i < g j) (hlo : ∀ i, i < N → 0 ≤ g i) : ∀ i : Nat, i < N → (i : Int) ≤ g i
  | 0, h => hlo 0 h
  | i + 1, h => by
    have := asc_up hm hlo i (by omega)
    have := hm i (i + 1) (by omega) h
    omega
theorem asc_dn {g : Nat → Int} {N : Nat} (hm : ∀ i j, i < j → j < N → g i < g j) (hhi : ∀ i, i < N → g i < N) : ∀ d i : Nat, i + d + 1 = N → g i ≤ (i : Int)
  | 0, i, h => by have := hhi i (by omega); omega
  | d + 1, i, h => by
    have := asc_dn hm hhi d (i + 1) (by omega)
    have := hm i (i + 1) (by omega) (by omega)
    omega
theorem all_rev {w : Nat} (hw : w < 7) (n : Int) {ns : List Int} (hp : ns.Perm ((rangeKs 0 (2 ^ w)).map (fun j => rev (n + j) w))) (ho : ns.Pairwise (· ≤ ·)) : ns = rangeKs 0 (2 ^ w) := by
  have hnd : ((rangeKs 0 (2 ^ w)).map (fun j => rev (n + j) w)).Nodup := by
    unfold rangeKs
    rw [List.map_map, List.nodup_iff_pairwise_ne, List.pairwise_map]
    refine List.Pairwise.imp_of_mem ?_ List.pairwise_lt_range
    intro i j hi hj hlt e
    have hi' := List.mem_range.mp hi
    have hj' := List.mem_range.mp hj
    have e' : rev (n + (0 + (i : Int))) w = rev (n + (0 + (j : Int))) w := e
    rw [Int.zero_add, Int.zero_add] at e'
    have := rev_inj hw hi' hj' e'
    omega
  have hnd2 : ns.Nodup := hp.nodup_iff.mpr hnd
  have hl : ns.length = 2 ^ w := by rw [hp.length_eq]; simp [rangeKs]
  have hin : ∀ i (h : i < ns.length), 0 ≤ ns[i] ∧ ns[i] < 2 ^ w := by
    intro i h
    have hm := hp.mem_iff.mp (List.getElem_mem h)
    obtain ⟨j, _, e⟩ := List.mem_map.mp hm
    rw [← e]
    exact ⟨rev_nonneg _ _, rev_lt _ _⟩
  have hlt : ∀ i j (hi : i < ns.length) (hj : j < ns.length), i < j → ns[i] < ns[j] := by
    intro i j hi hj hij
    have h1 := (List.pairwise_iff_getElem.mp ho) i j hi hj hij
    have h2 : ns[i] ≠ ns[j] := fun e => by have := (List.getElem_inj hnd2).mp e; omega
    omega
  have h2w : ((2 ^ w : Nat) : Int) = (2 : Int) ^ w := by simp
  have key : ∀ i (h : i < ns.length), ns[i] = (i : Int) := by
    intro i h
    have hg : ∀ k (hk : k < ns.length), ns.getD k 0 = ns[k] := fun k hk => by simp [hk]
    have hm : ∀ a b, a < b → b < 2 ^ w → ns.getD a 0 < ns.getD b 0 := fun a b h1 h2 => by rw [hg a (by omega), hg b (by omega)]; exact hlt a b _ _ h1
    have u := asc_up (g := fun k => ns.getD k 0) (N := 2 ^ w) hm (fun k hk => by rw [hg k (by omega)]; exact (hin k _).1) i (by omega)
    have d := asc_dn (g := fun k => ns.getD k 0) (N := 2 ^ w) hm (fun k hk => by rw [hg k (by omega), h2w]; exact (hin k _).2) (2 ^ w - 1 - i) i (by omega)
    rw [hg i h] at u d
    omega
  refine List.ext_getElem (by rw [hl]; simp [rangeKs]) fun i h1 h2 => ?_
  rw [key i h1]
  simp [rangeKs]
theorem good64 {vs : List Value} {n : Int} (hI : IntsAre vs ((rangeKs 0 (2 ^ 6)).map (fun j => rev (n + j) 6))) : Good64 (pairsOf vs) := by
  have hl : vs.length = 64 := by rw [hI.length]; simp [rangeKs]
  have hK : ∀ i : Nat, i < 64 → K (pairsOf vs) i = rev (n + (i : Int)) 6 := by
    intro i hi
    rw [K_eq (by rw [pairsOf_size, hl]; exact hi)]
    have e1 := hI.nums
    have e2 : (vs.map numOf)[i]? = ((rangeKs 0 (2 ^ 6)).map (fun j => rev (n + j) 6))[i]? := by rw [e1]
    simp [rangeKs, hl, hi] at e2
    simpa [pairsOf] using e2
  have hf : ∀ i : Int, rev i 6 = (i % 2) * 32 + rev (i / 2) 5 := fun i => rev_front i 5
  have hb : ∀ i : Int, rev i 6 = 2 * rev i 5 + i / 32 % 2 := fun i => rfl
  have hr5 : ∀ i : Int, 0 ≤ rev i 5 ∧ rev i 5 < 32 := fun i => ⟨rev_nonneg _ _, rev_lt _ 5⟩
  refine ⟨by rw [pairsOf_size, hl], hI.intKeys, fun i hi => by rw [hK i hi]; exact ⟨rev_nonneg _ _, rev_lt _ 6⟩, fun i j hi hj e => ?_, fun i j hi hj hc e => ?_, fun i hi => ?_⟩
  · rw [hK i hi, hK j hj] at e
    exact rev_inj (w := 6) (by decide) hi hj e
  · rw [hK i hi, hK j hj, hb, hb] at e
    have e2 : rev (n + (i : Int)) 5 = rev (n + (j : Int)) 5 := by omega
    have e3 : (n + (i : Int)) % 2 ^ 5 = (n + (j : Int)) % 2 ^ 5 := by rw [← rev_rev, ← rev_rev, e2]
    simp only [Int.reducePow] at e3
    omega
  · rw [hK i (by omega), hK (i + 1) (by omega), hf, hf]
    have a1 := hr5 ((n + (i : Int)) / 2)
    have a2 := hr5 ((n + ((i + 1 : Nat) : Int)) / 2)
    omega
section
variable {prog : Program} {wd : World} {A : Around} {E : Value → Shared → Prop} {s : Shared}
theorem sortedRev {h₀ : Heap} {L l : Addr} {m : Str → Option Value} {news : List (Addr × Obj)} {vs : List Value} {n : Int} {w : Nat} {Q : Value → Shared → Prop} (hw : w < 7)
    (F : Fr h₀ L s.heap m) (N : News h₀ L s.heap news) (hl : s.heap.IsList l vs.toArray) (hI : IntsAre vs ((rangeKs 0 (2 ^ w)).map (fun j => rev (n + j) w)))
    (h : ∀ D vs' c h', Fr h₀ L h' m → News h₀ L h' ((D, PySem.W.listOf vs'.toArray c) :: news) → (∀ q ∈ news, q.1 < D) → IntsAre vs' (rangeKs 0 (2 ^ w)) → Q (.ref D) { s with heap := h' }) :
    wpAny (model prog wd) A (call (.builtin "sorted") [.ref l]) Q E s := by
  by_cases h6 : w = 6
  · subst h6
    refine sorted64 F N hl hI (good64 hI) fun h' vs' ns' e F' N' a1 a2 a3 => ?_
    have e2 := all_rev (w := 6) (by decide) n a2 a3
    subst e2
    exact h _ vs' e h' F' N' (fun p hp => Nat.lt_succ_of_lt (Heap.lt_size (N p hp).1)) a1
  · have hlen : ((rangeKs 0 (2 ^ w)).map (fun j => rev (n + j) w)).length < 64 := by
      rw [List.length_map, rangeKs_length]
      have hc : w = 0 ∨ w = 1 ∨ w = 2 ∨ w = 3 ∨ w = 4 ∨ w = 5 := by omega
      rcases hc with rfl | rfl | rfl | rfl | rfl | rfl <;> decide
    refine kso_sorted F N hl hI hlen fun D vs' ns' c h' F' N' hlt a1 _ a2 a3 _ => ?_
    have e2 := all_rev hw n a2 a3
    subst e2
    exact h D vs' c h' F' N' hlt a1
end
theorem pow_small : ∀ w : Nat, w < 7 → Builtin.Range.small 0 (2 ^ w) 1 = true ∧ Builtin.Range.rangeSize 0 (2 ^ w) 1 = (((2 ^ w : Nat) : Int)) ∧ Nat.ble (2 ^ w) 64 = true := by decide +kernel
end Mine
end
noncomputable section
open PySem PySem.W PyProof.Rows PySem.Spec PySem.Calls
set_option Elab.async false
set_option maxRecDepth 100000
set_option maxHeartbeats 4000000
local macro_rules | `(tactic| k_room) => `(tactic| ktr_room)
local macro_rules | `(tactic| k_enter) => `(tactic| first
  | (refine' code_def ?k1 ?k2 ?k3 ?k4 ?k5 ?kA ?kF ?kK ?k6 ?k7 ?k8 ?k9 ?kB ?_ ?c2 ?c3 ?c4 ?c5; (case kA => exact rfl); (case kF => exact rfl); (case kK => first | exact rfl | assumption); (case k1 => k_asm); (case k2 => k_asm); (case k3 => k_asm); (case k4 => k_asm); (case k5 => k_asm); (case k6 => k_is); (case k7 => k_is); (case k8 => ktr_room); (case k9 => first | exact BindsTo.of_eq rfl | exact binds_K (by k_in) rfl (by k_is) rfl rfl rfl | fail "k_enter: no rule for these arguments"); (case c5 => decide); (case kB => exact locs rfl); (case c2 => exact rfl); (case c3 => exact rfl); (case c4 => exact rfl); k_whole; intro g' L' h' FG' F' N' B' X' T'; (try dsimp only); (try k_lift B'); (try k_fold))
  | (refine' code_defC ?k1 ?k2 ?k3 ?k4 ?k5 ?kA ?kF ?kK ?k6 ?k7 ?k8 ?k9 ?kB ?kD ?_ ?c2 ?c3 ?c4; (case kA => exact rfl); (case kF => exact rfl); (case kK => first | exact rfl | assumption); (case k1 => k_asm); (case k2 => k_asm); (case k3 => k_asm); (case k4 => k_asm); (case k5 => k_asm); (case k6 => k_is); (case k7 => k_is); (case k8 => ktr_room); (case k9 => first | exact BindsTo.of_eq rfl | exact binds_K (by k_in) rfl (by k_is) rfl rfl rfl | fail "k_enter: no rule for these arguments"); (case kB => exact rfl); (case kD => decide +kernel); (case c2 => exact rfl); (case c3 => exact rfl); (case c4 => exact rfl); k_whole; intro g' L' h' tk' cells' FG' F' N' Y' B' X' T' l1; (try k_lt l1); k_cells Y'; (try simp only [List.cons_append, List.nil_append] at N'); (try dsimp only); (try k_lift B'); (try k_fold)))
local macro_rules | `(tactic| walk_at "getMethod ref") => `(tactic| (k_here; (with_reducible show wpAny _ _ (getMethod (Value.ref _) (PySem.Str.ofString "br") _) _ _ _); k_dflt (
  refine' kmu_sm ?k1 ?k2 ?k4 ?k5 ?k6 ?k7 ?k8 ?k9 ?k10 ?k11 ?k12 ?k13 ?k14 ?_; (case k1 => k_asm); (case k2 => k_asm); (case k4 => k_inst); (case k5 => k_is); (case k6 => k_is); (case k7 => k_is); (case k8 => k_is); (case k9 => k_is); (case k10 => k_is); (case k11 => decide +kernel); (case k12 => k_get); (case k13 => k_is); (case k14 => k_handed); k_whole)))
local macro_rules | `(tactic| walk_at "call ref") => `(tactic| (k_here; k_dflt (refine' Mine.br_call ?k1 ?k2 ?k3 ?k4 ?k5 ?kK ?k6 ?k7 ?kd ?_; (case k1 => k_asm); (case k2 => k_asm); (case k3 => k_asm); (case k4 => k_asm); (case k5 => k_asm); (case kK => first | exact rfl | assumption); (case k6 => first | decide | omega | l_fact); (case k7 => first | decide | omega | l_fact); (case kd => ktr_room)); intro t9 h9 tk9 F9 N9; (try dsimp only)))
local macro_rules | `(tactic| walk_at "call builtin:pow") => `(tactic| (k_dflt (refine Mine.call_pw (by first | decide | exact Mine.rev_nonneg _ _ | omega) ?_); (try dsimp only)))
local macro_rules | `(tactic| walk_at "call builtin:pow") => `(tactic| (k_dflt (refine Mine.call_inv256 ?_); (try dsimp only)))
local macro_rules | `(tactic| k_steps) => `(tactic| repeat' (first | (k_unfold; (try dsimp only)) | walk1 | (dsimp only; walk1) | fail "no step"))
local macro_rules | `(tactic| walk_at "MidL") => `(tactic| (k_dflt (refine' Mine.MidL.done ?k1 ?k2 ?k3 ?k4 ?k5 ?k6; (case k1 => assumption); (case k2 => assumption); (case k3 => kcj_all); (case k4 => l_ints); (case k5 => ((try simp only [List.length_take, List.length_append, List.length_cons, List.length_nil, List.length_map]); first | omega | assumption)); (case k6 => ((simp only [Mine.AllNe, and_true]); omega)))))
local macro_rules | `(tactic| walk_at "subscriptTail BinOp") => `(tactic| (k_here; (with_reducible show wpAny _ _ (subscriptTail _ (PySem.Expr.Slice _ _ none _) (Value.ref _) (Value.ref _)) _ _ _); k_dflt (refine' Mine.cut_temp ?F ?N ?l ?p ?q ?m ?_ ?s ?z; (case F => k_asm); (case N => k_asm); (case l => kmk_list); (case p => kmk_part); (case q => kmk_part); (case m => kmk_nums); (case s => with_unfolding_all rfl); (case z => kmk_size)); intro D' ws' h' F' N' l1 hI'; (try simp only [Int.reduceNeg, Int.neg_neg, Int.reduceToNat] at hI'); (try k_lt l1); (try k_sweep)))
local macro_rules | `(tactic| walk_at "call ref") => `(tactic| (k_here; k_dflt (refine' Mine.turned_call ?k1 ?k2 ?k3 ?k4 ?k5 ?kK ?k6 ?k7 ?kd ?_; (case k1 => k_asm); (case k2 => k_asm); (case k3 => k_asm); (case k4 => k_asm); (case k5 => k_asm); (case kK => first | exact rfl | assumption); (case k6 => first | decide | omega | l_fact); (case k7 => first | decide | omega | l_fact); (case kd => ktr_room)); intro t9 h9 tk9 F9 N9; (try dsimp only)))
local macro_rules | `(tactic| walk) => `(tactic| ((try dsimp only); repeat (first | (k_unfold; (try dsimp only)) | ((fail_if_success (with_reducible refine ite_neg ?_ ?_)); (fail_if_success (with_reducible show UnrPost _ _ _ _ _ _ _ _ _)); walk1) | ((fail_if_success (with_reducible refine ite_neg ?_ ?_)); (fail_if_success (with_reducible show UnrPost _ _ _ _ _ _ _ _ _)); dsimp only; walk1))))
local macro_rules | `(tactic| k_units) => `(tactic| ktr_units)
namespace Mine
theorem stmt5 {pv : Program} {w : World} {loose : List Str} {mean : ExcName → Option Value} {mg mb : Str → Option Value} {h₀ : Heap} {L fa : Addr} {cd : Value} {s : Shared} {Q : Flow → Shared → Prop} {u : Str → Option Value}
    {l P D x d a b : Addr} {tp t1 t2 t3 t4 t5 t6 t7 t8 t9 tw tn : Tok} {ys : List Value} {n0 w0 : Int} {o1 o2 o3 : Obj}
    (K0 : Below callerA h₀ [] h₀) (F : Fr h₀ L s.heap (mC L fa cd l tp P u)) (X : (hd.heap_39 w.params).In h₀) (T : Top pv loose mean mg mb h₀)
    (N : News h₀ L s.heap (ringLed w.params D x d a b t1 t2 t3 t4 t5 t6 t7 t8 t9 ys [(L + 1 + 1 + 1, o3), (L + 1 + 1, o2), (L + 1, o1)]))
    (d1 : o1.data = .cell (some (.ref x))) (d2 : o2.data = .cell (some (.int n0 tn))) (d3 : o3.data = .cell (some (.int w0 tw))) (hw0 : 0 ≤ w0) (hw7 : w0 < 7)
    (n2 : @LT.lt Nat _ d x) (n3 : @Ne Nat D x) (n4 : @Ne Nat D d) (n5 : @Ne Nat (L + 1 + 1 + 1) D ∧ @Ne Nat (L + 1 + 1) D ∧ @Ne Nat (L + 1) D) (n6 : @LT.lt Nat _ (L + 1 + 1 + 1) d ∧ @LT.lt Nat _ (L + 1 + 1) d ∧ @LT.lt Nat _ (L + 1) d)
    (ret : ∀ (h' : Heap) (tk' : Nat), Fr h₀ L h' (mC L fa cd l tp P u) →
      News h₀ L h' (ringLed w.params D x d a b t1 t2 t3 t4 t5 t6 t7 t8 t9 ys [(L + 1 + 1 + 1, o3), (L + 1 + 1, o2), (L + 1, o1)]) → Q .next { s with heap := h', toks := tk' }) :
    wpAny (model PySem.Challenge.rw_ix0026_02.row.prog w) (callerA.deeper (lawEnv L fa cd)) (exec (stmtAt PySem.Challenge.rw_ix0026_02.row.prog 15 5) (lawEnv L fa cd)) Q (fun _ _ => False) s := by
  obtain ⟨W, rfl⟩ : ∃ W : Nat, w0 = (W : Int) := ⟨w0.toNat, by omega⟩
  have hW : W < 7 := by omega
  obtain ⟨r1, r2, r3⟩ := pow_small W hW
  have r4 := Nat.le_of_ble_eq_true r3
  (conv => enter [3, 1]; whnf)
  dsimp only [ringLed] at N
  w_strict (iterate 17 (first | (k_unfold; (try dsimp only)) | walk1 | (dsimp only; walk1) | (leave1; (try dsimp only))))
  rename IsRange _ _ _ _ _ _ _ _ => R1
  refine LCg.CompSrc.range (n := 2 ^ W) (by rfl) (by k_asm) (by k_asm) R1 ?k5 ?k6 ?k7 ?_
  case k5 => exact r1
  case k6 => exact r2
  case k7 => rw [sizeLine_eq]; omega
  intro g'
  refine' kcf_range (n := 2 ^ W) (fun j => rev (n0 + j) W) (fun k' t' I' oI' C' oC' D' m' ys' h' tk' E' hlo' hhi' hC' hx' F' N' off' ne' hMark' => ?_) ?_
  · (try (simp only [LCg.Off3, and_true] at off'))
    (try k_fold)
    w_strict (iterate 17 (first | (k_unfold; (try dsimp only)) | walk1 | (dsimp only; walk1) | (leave1; (try dsimp only))))
    exact kcf_el rfl rfl rfl
  · w_strict (iterate 3 (first | (k_unfold; (try dsimp only)) | walk1 | (dsimp only; walk1) | (leave1; (try dsimp only))))
    rename IntsAre _ _ => I1
    refine sortedRev hW (by assumption) (by assumption) (by kso_list) I1 ?_
    intro D2 v2 c2 h2 F2 N2 lt2 I2
    k_lt lt2
    (try k_sweep)
    w_strict (iterate 15 (first | (k_unfold; (try dsimp only)) | walk1 | (dsimp only; walk1) | (leave1; (try dsimp only))))
    clear R1
    rename IsRange _ _ _ _ _ _ _ _ => R2
    refine kll_range (n := 2 ^ W) rfl (by assumption) (by assumption) R2 r1 r2 (by omega) ?_
    intro D3 v3 c3 h3 tk3 F3 N3 lt3 I3
    k_lt lt3
    (try k_sweep)
    w_strict (iterate 4 (first | (k_unfold; (try dsimp only)) | walk1 | (dsimp only; walk1) | (leave1; (try dsimp only))))
    (try dsimp only)
    rename Fr _ _ _ _ => Fe
    rename News _ _ _ _ => Ne
    exact ret _ _ Fe (cb_drop Ne (by kcj_all))
end Mine
end
noncomputable section
open PySem PySem.W PyProof.Rows PySem.Spec PySem.Calls
set_option Elab.async false
set_option maxRecDepth 100000
namespace Mine
section
variable {prog : Program} {w : World} {A : Around} {E : Value → Shared → Prop} {s : Shared} {h₀ : Heap} {c P L : Addr} {m : Str → Option Value}
/-- what is left to show where a generator expression's source list stands ready: the function's table of codes is the ledger's first entry -/
def GLP (prog : Program) (w : World) (A : Around) (h₀ : Heap) (L P : Addr) (m : Str → Option Value) (env : Env) (scope : Scope) (cl : List (Str × Addr)) (x : Str) (elt : PySem.Expr) (Q : Value → Shared → Prop) (xv : Value) (s₁ : Shared) : Prop :=
  ∃ (l : Addr) (items : Array Value) (news : List (Addr × Obj)) (ps : Array Value) (F : Nat → Value → Prop), xv = .ref l ∧ s₁.heap.IsList l items ∧ Fr h₀ L s₁.heap m ∧ News h₀ L s₁.heap ((P, tabObj ps) :: news) ∧ TriplesOk ps.toList ∧ AllBare s₁.gens ∧ (∀ p ∈ news, p.1 ≠ P) ∧
    (∀ (code : Value) (C : Addr) (A' : Around) E' i v (t : Shared) m₂, A'.handled = none → A'.depth ≤ A.depth + 1 → A'.units ≤ A.units + 8 → items[i]? = some v → Fr h₀ C t.heap m₂ → m₂ x = some v → L < C → News h₀ C t.heap news →
      wpAny (model prog w) A' (eval elt (genEnv scope cl C code builtinsNs env)) (fun y s₃ => F i y ∧ Keeps t s₃) E' t) ∧
    (∀ a K s₅ ps', Fr h₀ L s₅.heap m → News h₀ L s₅.heap ((P, tabObj ps') :: news) → TriplesOk ps'.toList → AllBare s₅.gens → s₅.os = s₁.os → L ≤ K → (∀ p ∈ ((P, tabObj ps') :: news), p.1 ≤ K) →
      Gen prog w A K a (List.range items.size).length (fun j y => ∃ i, (List.range items.size)[j]? = some i ∧ F i y) s₅ → Q (.ref a) s₅)
theorem triples_snoc {ps : Array Value} {pos : Pos} {c' : Addr} (h : TriplesOk ps.toList) : TriplesOk (ps ++ #[rawInt pos.line, rawInt pos.col, .ref c']).toList := by
  rw [show (ps ++ #[rawInt pos.line, rawInt pos.col, Value.ref c']).toList = ps.toList ++ [rawInt pos.line, rawInt pos.col, .ref c'] by simp]
  exact TriplesOk_snoc _ _ _ _ h
theorem gen_led {p : Program} {loose : List Str} {mean : ExcName → Option Value} {mg mb : Str → Option Value} {env : Env} {elt iter : PySem.Expr} {x : Str} {px : Pos} {scope : Scope} {cl : List (Str × Addr)} {pos : Pos} {Q : Value → Shared → Prop}
    (_F : Fr h₀ L s.heap m) (T : Top p loose mean mg mb h₀) (C : CodeHd h₀ c P) (hcode : env.code = .ref c) (hglob : env.globals = mainGlobals)
    (hh : A.handled = none) (hco : scope.isCoroutine = false) (hclos : closureFor scope env = pure cl) (hcell : ∀ y ∈ scope.names, y.2 ≠ .cell) (h0 : scope.names.lookup (".0" : Str) = some NameKind.local)
    (hx : scope.names.lookup x = some .local) (hkind : scope.kind = .function) (hroom : A.depth < recursionLimit)
    (h : wpAny (model prog w) A (eval iter env) (GLP prog w A h₀ L P m env scope cl x elt Q) E s)
    (hs : ∀ x, genFold iter env x = pure x) :
    wpAny (model prog w) A (eval (.GeneratorExp elt [⟨.Name x px, iter, [], 0⟩] scope pos) env) Q E s := by
  refine wpAny_GeneratorExp_walksQD hh hco hclos hcell h0 hx hkind hroom (wpAny_mono h (fun xv s₁ h₁' => ?_) fun _ _ e => e) hs
  obtain ⟨l, items, news, ps, F, rfl, hl, F₁, N₁, ht, G₁, hnP, hel, hQ⟩ := h₁'
  have hlt : l < s₁.heap.objs.size := by obtain ⟨_, e, _⟩ := hl; exact Heap.lt_size e
  have hP := N₁ (P, tabObj ps) (List.mem_cons_self ..)
  have hPlt : P < s₁.heap.objs.size := Heap.lt_size hP.1
  have hlP : l ≠ P := fun e => by
    obtain ⟨o, ho, hc, _⟩ := hl
    rw [e, hP.1] at ho; cases ho; exact absurd hc (by simp)
  refine wpAny_pyIter_list hl ?_
  have hpush : ∀ b o, s₁.heap.get? b = some o → (s₁.heap.push { cls := .type "list_iterator", data := .fields #[.ref l, .int 0 0] }).get? b = some o := fun b o e => Heap.get?_push_of_some _ e
  generalize hs2 : ({ s₁ with heap := s₁.heap.push { cls := .type "list_iterator", data := .fields #[.ref l, .int 0 0] } } : Shared) = s₂
  have e2 : s₂.heap = s₁.heap.push { cls := .type "list_iterator", data := .fields #[.ref l, .int 0 0] } := by rw [← hs2]
  have g2 : s₂.gens = s₁.gens := by rw [← hs2]
  have o2 : s₂.os = s₁.os := by rw [← hs2]
  rw [← e2] at hpush
  have sz2 : s₂.heap.objs.size = s₁.heap.objs.size + 1 := by rw [e2, Heap.size_push]
  have F₂ : Fr h₀ L s₂.heap m := F₁.keeps hpush
  have hP₂ : s₂.heap.get? P = some (tabObj ps) := hpush _ _ hP.1
  have hlim : s₂.heap.NoLimit := T.nolimit.keeps F₂.keep
  have hLs : L < s₁.heap.objs.size := F₁.ns.lt
  refine ⟨hlim, ?_⟩
  -- the code object, made or found
  have main : ∀ (code : Value) (h₃ : Heap) (tk₃ : Nat) (ps' : Array Value), Heap.ExtBut P s₂.heap h₃ → s₂.heap.objs.size ≤ h₃.objs.size → h₃.get? P = some (tabObj ps') → TriplesOk ps'.toList →
      wpAny (model prog w) A (builtinsFor env.globals env.builtins) (fun bi s₄ =>
        ∃ I fp wr n₀ Pi St₀ pz F, (Value.ref s₁.heap.objs.size) = .ref I ∧ (∀ A' : Around, A'.handled = none → Walks prog w A' I fp wr n₀ Pi St₀) ∧ St₀ 0 s₄.heap ∧ (∀ b ∈ fp, b < s₄.heap.objs.size) ∧ s₄.heap.NoLimit ∧ cStatics ∉ wr ∧
          (∀ href : Heap, (∀ b o, s₄.heap.get? b = some o → href.get? b = some o) →
            QuietGenD prog w (genEnv scope cl s₄.heap.objs.size code bi env) x [] elt (List.range s₄.heap.objs.size) wr Pi pz F href (A.depth + 1) (A.units + 8)) ∧
          (∀ a h₅ tk gs, gs.bare = true → s₄.heap.objs.size < a → h₅.objs.size = a + 1 → (∀ b o, s₄.heap.get? b = some o → h₅.get? b = some o) →
            WalksS prog w A.in4 a (a :: s₄.heap.objs.size :: List.range s₄.heap.objs.size) (s₄.heap.objs.size :: wr) (GenOnlyQ s₄.gens.size) (passing pz n₀ 0).length
              (fun j y => ∃ i, (passing pz n₀ 0)[j]? = some i ∧ F i y) (GenAt prog w A.in4 a s₄.gens.size s₄.heap.objs.size (List.range s₄.heap.objs.size) wr pz n₀ F) →
            GenAt prog w A.in4 a s₄.gens.size s₄.heap.objs.size (List.range s₄.heap.objs.size) wr pz n₀ F 0 { s₄ with gens := s₄.gens.push gs, toks := tk, heap := h₅ } →
            Q (.ref a) { s₄ with gens := s₄.gens.push gs, toks := tk, heap := h₅ })) E { s₂ with heap := h₃, toks := tk₃ } := by
    intro code h₃ tk₃ ps' hx₃ hsz hP₃ ht'
    have hPL : P ≠ L := hP.2.1
    have hne₀ : ∀ b o, h₀.get? b = some o → b ≠ P := fun b o e q => by rw [q, hP.2.2] at e; cases e
    have F₃ : Fr h₀ L h₃ m := ⟨F₂.ns.extBut hx₃ (fun q => hPL q.symm), fun b o e => hx₃ b o (hne₀ b o e) (F₂.keep b o e), F₂.above⟩
    have N₃ : News h₀ L h₃ ((P, tabObj ps') :: news) := fun q hq => by
      rcases List.mem_cons.mp hq with rfl | hq
      · exact ⟨hP₃, hP.2⟩
      · have n := N₁ q (List.mem_cons_of_mem _ hq)
        exact ⟨hx₃ _ _ (hnP q hq) (hpush _ _ n.1), n.2⟩
    have hgs := T.g.keeps F₃.keep
    obtain ⟨bm, ob, b1, b2, b3, b4, b5, b6⟩ := T.bmain
    have hbG : bm ≠ mainGlobals := fun q => by
      obtain ⟨o, es, ep, e, hd, _⟩ := T.g
      rw [q, e] at b3; cases b3; rw [hd] at b6; cases b6
    rw [hglob]
    refine wpAny_builtinsFor hgs b1 b2 (F₃.keep _ _ b3) b4 b5 b6 ?_
    have hl₃ : h₃.NoLimit := T.nolimit.keeps F₃.keep
    have hcs : cStatics < s₁.heap.objs.size := by
      obtain ⟨_, hn, _⟩ := T.nolimit.keeps F₁.keep
      exact hn.lt
    have hwlt : ∀ b ∈ [s₁.heap.objs.size, l], b < s₂.heap.objs.size := by
      intro b hb
      rw [sz2]
      rcases List.mem_cons.mp hb with rfl | hb
      · exact Nat.lt_succ_self _
      · rcases List.mem_cons.mp hb with rfl | hb
        · exact Nat.lt_succ_of_lt hlt
        · cases hb
    have hPf : P ∉ [s₁.heap.objs.size, l] := fun hb => by
      rcases List.mem_cons.mp hb with e | hb
      · exact absurd (e ▸ hPlt) (Nat.lt_irrefl _)
      · rcases List.mem_cons.mp hb with e | hb
        · exact hlP e.symm
        · cases hb
    have W₀ : ∀ A' : Around, A'.handled = none → Walks prog w A' s₁.heap.objs.size [s₁.heap.objs.size, l] [s₁.heap.objs.size] items.size _ _ := fun A' hA => Walks.list hA _ _ (Nat.ne_of_lt hlt) items
    have hst : _ := (W₀ A hh).frame 0 s₂.heap h₃ (by rw [e2]; exact ⟨⟨_, Heap.get?_push_size _ rfl, rfl, rfl⟩, hl.push _⟩) (fun b hb o e => hx₃ b o (fun e' => hPf (e' ▸ hb)) e)
    have hpass : passing (fun _ => true) items.size 0 = List.range items.size := by unfold passing; simp
    refine ⟨_, _, _, items.size, _, _, fun _ => true, F, rfl, W₀, hst, (fun b hb => Nat.lt_of_lt_of_le (hwlt b hb) hsz), hl₃, ?_, (fun href hhref => ?_), fun a h₅ tk gs hgb hag hsz₅ hk₅ W hat => ?_⟩
    · intro hm
      rcases List.mem_cons.mp hm with e | hb
      · exact absurd (e ▸ hcs) (Nat.lt_irrefl _)
      · cases hb
    · have hLC : L < h₃.objs.size := Nat.lt_of_lt_of_le (Nat.lt_of_lt_of_le hLs (by rw [sz2]; exact Nat.le_succ _)) hsz
      have inB : ∀ (t : Shared) m₂, t.heap.Ns h₃.objs.size m₂ → (∀ b ∈ List.range h₃.objs.size, b ∉ [s₁.heap.objs.size] → ∀ o, href.get? b = some o → t.heap.get? b = some o) →
          Fr h₀ h₃.objs.size t.heap m₂ ∧ News h₀ h₃.objs.size t.heap news := fun t m₂ hn hkp =>
        ⟨⟨hn, fun b o e => hkp b (List.mem_range.mpr (Heap.lt_size (F₃.keep b o e))) (fun hm => by
            have e3 := List.mem_singleton.mp hm
            exact absurd (e3 ▸ Heap.lt_size e) (Nat.not_lt.mpr (Nat.le_trans F₁.above (Nat.le_of_lt hLs)))) o (hhref b o (F₃.keep b o e)), Nat.le_trans F₃.above (Nat.le_of_lt hLC)⟩, fun q hq => by
          have n := N₃ q (List.mem_cons_of_mem _ hq)
          have n1 := N₁ q (List.mem_cons_of_mem _ hq)
          have l1 := Heap.lt_size n1.1
          refine ⟨hkp q.1 (List.mem_range.mpr (Heap.lt_size n.1)) (fun hm => ?_) _ (hhref _ _ n.1), Nat.ne_of_lt (Heap.lt_size n.1), n.2.2⟩
          exact absurd ((List.mem_singleton.mp hm) ▸ l1) (Nat.lt_irrefl _)⟩
      refine ⟨fun A' E' i v t m₂ hA hD hU hP' hn hm hkp => ?_, fun A' E' i v t m₂ hA hD hU hP' hp hn hm hkp => ?_⟩
      · show wpAny _ _ (forIn [] true _) _ _ _
        rw [List.forIn_nil]
        exact wpAny_pure ⟨rfl, t.heap, t.toks, rfl, fun _ _ e => e⟩
      · exact hel code _ A' E' i v t m₂ hA hD hU hP' (inB t m₂ hn hkp).1 hm hLC (inB t m₂ hn hkp).2
    · rw [hpass] at W
      have WF : Gen prog w A (s₁.heap.objs.size - 1) a (List.range items.size).length (fun j y => ∃ i, (List.range items.size)[j]? = some i ∧ F i y) { s₂ with heap := h₅, toks := tk, gens := s₂.gens.push gs } := by
        refine ⟨_, _, _, _, W, hat, (fun i s' st => st.1.typeIs), List.mem_cons_self, ?_, ?_⟩
        · intro b hb
          show b < h₅.objs.size
          rw [hsz₅]
          rcases List.mem_cons.mp hb with rfl | hb
          · exact Nat.lt_succ_self _
          · rcases List.mem_cons.mp hb with rfl | hb
            · exact Nat.lt_succ_of_lt hag
            · exact Nat.lt_succ_of_lt (Nat.lt_trans (List.mem_range.mp hb) hag)
        · intro b hb
          have hle : s₁.heap.objs.size ≤ h₃.objs.size := Nat.le_trans (by rw [sz2]; exact Nat.le_succ _) hsz
          rcases List.mem_cons.mp hb with rfl | hb
          · exact Nat.lt_of_lt_of_le (Nat.sub_one_lt_of_lt hPlt) hle
          · rw [List.mem_singleton.mp hb]
            exact Nat.sub_one_lt_of_lt hPlt
      have hag : h₃.objs.size < a := hag
      refine hQ a (s₁.heap.objs.size - 1) _ ps' (F₃.keeps hk₅) (fun q hq => ⟨hk₅ _ _ (N₃ q hq).1, (N₃ q hq).2⟩) ht' ?_ o2 (Nat.le_sub_one_of_lt hLs) (fun q hq => ?_) WF
      · show AllBare (s₂.gens.push gs)
        rw [g2]; exact G₁.push hgb
      · have : q.1 < s₁.heap.objs.size := by
          rcases List.mem_cons.mp hq with rfl | hq
          · exact hPlt
          · exact Heap.lt_size (N₁ q (List.mem_cons_of_mem _ hq)).1
        exact Nat.le_sub_one_of_lt this
  have C₂ := C.keeps F₂.keep
  cases hf : codeAmong pos ps.toList with
  | none =>
    refine wpAny_genexprCodeX hcode (C₂.code hP₂ ht) (C₂.tab hP₂) hf fun c' h₃ tk₃ hx₃ hge hlt' _ _ htab₃ _ => ?_
    exact main (.ref c') h₃ tk₃ _ hx₃ (Nat.le_trans hge (Nat.le_of_lt hlt')) htab₃.2 (triples_snoc ht)
  | some cv =>
    refine wpAny_genexprCode_hit hcode (C₂.code hP₂ ht) hf ?_
    exact main cv s₂.heap s₂.toks ps (fun _ _ _ e => e) (Nat.le_refl _) hP₂ ht
/-- an object that is no table of codes lies elsewhere -/
def NotTabs : List (Addr × Obj) → Prop
  | [] => True
  | p :: r => (∀ ps, p.2 ≠ tabObj ps) ∧ NotTabs r
theorem ne_tabs {h : Heap} {ps : Array Value} {big : List (Addr × Obj)} (N : News h₀ L h big) (hP : (P, tabObj ps) ∈ big) : ∀ news : List (Addr × Obj), (∀ p ∈ news, p ∈ big) → NotTabs news → ∀ p ∈ news, p.1 ≠ P
  | [], _, _, p, hp => nomatch hp
  | q :: r, hb, hn, p, hp => by
    rcases List.mem_cons.mp hp with rfl | hp
    · intro e
      have h1 := (N _ (hb p (List.mem_cons_self ..))).1
      rw [e, (N _ hP).1] at h1
      exact hn.1 ps (Option.some.inj h1).symm
    · exact ne_tabs N hP r (fun x hx => hb x (List.mem_cons_of_mem _ hx)) hn.2 p hp
/-- what all, any tell of such a generator -/
theorem all_led {Q : Value → Shared → Prop} {a K n : Nat} {q : Nat → Bool} {news : List (Addr × Obj)} {Fv : Nat → Value → Prop} (F : Fr h₀ L s.heap m) (N : News h₀ L s.heap news) (G : AllBare s.gens)
    (X : Gen prog w A K a (List.range n).length (fun j y => ∃ i, (List.range n)[j]? = some i ∧ Fv i y) s) (hLK : L ≤ K) (hK : ∀ p ∈ news, p.1 ≤ K) (hv : ∀ i v, i < n → Fv i v → v = .bool (q i))
    (hQ : ∀ s' : Shared, Fr h₀ L s'.heap m → News h₀ L s'.heap news → AllBare s'.gens → s'.os = s.os → Q (.bool ((List.range n).all q)) s') :
    wpAny (model prog w) A (call (.builtin "all") [.ref a]) Q E s := by
  refine all_rowsK F G X hLK q (fun j v s Q E hj hQ => ?_) fun s' F' G' ho hk => ?_
  · obtain ⟨i, hi, hc⟩ := hj
    obtain ⟨hlt, rfl⟩ := List.getElem?_eq_some_iff.mp hi
    rw [List.getElem_range] at hc
    rw [hv _ v (by simpa using hlt) hc]
    exact wpAny_truthy_bool hQ
  · rw [List.length_range]
    exact hQ s' F' (fun p hp => ⟨hk _ _ (hK p hp) (N p hp).1, (N p hp).2⟩) G' ho
theorem any_led {Q : Value → Shared → Prop} {a K n : Nat} {q : Nat → Bool} {news : List (Addr × Obj)} {Fv : Nat → Value → Prop} (F : Fr h₀ L s.heap m) (N : News h₀ L s.heap news) (G : AllBare s.gens)
    (X : Gen prog w A K a (List.range n).length (fun j y => ∃ i, (List.range n)[j]? = some i ∧ Fv i y) s) (hLK : L ≤ K) (hK : ∀ p ∈ news, p.1 ≤ K) (hv : ∀ i v, i < n → Fv i v → v = .bool (q i))
    (hQ : ∀ s' : Shared, Fr h₀ L s'.heap m → News h₀ L s'.heap news → AllBare s'.gens → s'.os = s.os → Q (.bool ((List.range n).any q)) s') :
    wpAny (model prog w) A (call (.builtin "any") [.ref a]) Q E s := by
  refine any_rowsK F G X hLK q (fun j v s Q E hj hQ => ?_) fun s' F' G' ho hk => ?_
  · obtain ⟨i, hi, hc⟩ := hj
    obtain ⟨hlt, rfl⟩ := List.getElem?_eq_some_iff.mp hi
    rw [List.getElem_range] at hc
    rw [hv _ v (by simpa using hlt) hc]
    exact wpAny_truthy_bool hQ
  · rw [List.length_range]
    exact hQ s' F' (fun p hp => ⟨hk _ _ (hK p hp) (N p hp).1, (N p hp).2⟩) G' ho
end
end Mine
end
noncomputable section
open PySem PySem.W PyProof.Rows PySem.Spec PySem.Calls
set_option Elab.async false
set_option maxRecDepth 100000
namespace Mine
section
variable {prog : Program} {w : World} {A₀ A : Around} {s : Shared} {base h₀ : Heap} {L : Addr} {m : Str → Option Value} {env : Env} {news : List (Addr × Obj)} {K : Frag} {p : Program} {loose : List Str} {mean : ExcName → Option Value} {mg mb : Str → Option Value}
    {R : Result → Shared → Prop} {name qual : Str} {params : Arguments} {body : List Stmt} {scope : Scope} {dV kV doc pm cdv ct oc : Value} {an od : Option Addr} {osl : Array (Option Value)} {f : Addr} {args : Args} {binds : List (Str × Value)}
theorem only_frame (hf : env.frame = some L) {b : Addr} : b ∈ [env].filterMap (·.frame) ↔ b = L := by
  simp [hf]
/-- a call, from the outermost frame, of a function below which exceptions are caught; the frame may hold cells -/
theorem deep0 (B : Below A₀ base [] h₀) (F : Fr h₀ L s.heap m) (X₀ : K.In h₀) (N : News h₀ L s.heap news) (T : Top p loose mean mg mb h₀) (hA : A.frames = some [env]) (hf : env.frame = some L) (hke : env.scope.kind = .function)
    (ho : K.lookup f = some ⟨oc, od, .func (fnOf name qual params body scope dV kV doc pm an cdv ct), osl⟩) (hcd : codeIn K cdv qual = true) (hroom : A.depth < recursionLimit)
    (hbind : BindsTo s (fnOf name qual params body scope dV kV doc pm an cdv ct) args binds) (hloc : ∀ y ∈ binds, scope.names.lookup y.1 = some .local)
    (h : ∀ g L' h₁, Fr h₀ L g m → Fr g L' h₁ (fun y => binds.reverse.lookup y) → News g L' h₁ news → Below A base [env] g → K.In g → Top p loose mean mg mb g → KtsDicts ([env].filterMap (·.frame)) g → (∀ p ∈ news, p.1 < L') →
      wpAny (model prog w) (A.deeper (envOf qual scope L' f cdv)) (execs body (envOf qual scope L' f cdv))
        (fun fl s' => LeaveS0 ([env].filterMap (·.frame)) h₀ L m g R (match fl with | .ret v => v | _ => .none) s')
        (fun e s' => wpAny (model prog w) (A.deeper (envOf qual scope L' f cdv)) (leaving (envOf qual scope L' f cdv) e) (fun _ s'' => R (.error e) s'') (fun e' s'' => R (.error e') s'') s')
        { s with heap := h₁, toks := s.toks + binds.length })
    (hco : scope.isCoroutine = false) (hgen : scope.isGenerator = false) (hk : scope.kind = .function)
    (hcell : ∀ x ∈ scope.names, x.2 ≠ .cell) : codeAny (model prog w) A (.call (.ref f) args) R s := by
  have X := X₀.keeps F.keep
  obtain ⟨FG, BG, st, _⟩ := groundX (R := R) B F N hA hf hke
  obtain ⟨oL, es, ep, hLg, hLd, hLk, hLf⟩ := FG.ns
  have nL₀ : h₀.get? L = none := kts_self F
  refine codeAny_call_def (fd := fnOf name qual params body scope dV kV doc pm an cdv ct) (body := body) (binds := binds) hroom (X _ _ ho) rfl (T.nolimit.keeps F.keep) (codeRec_of X hcd) rfl hbind hcell hloc (fun h₁ hns hk₁ => ?_) hco hgen hk
  refine wpAny_mono (h _ s.heap.objs.size h₁ FG ⟨hns, fun b o e => hk₁ b o (of_hideAll _ e), Nat.le_of_eq (hideAll_size _ _)⟩
    (fun p hp => ⟨hk₁ _ _ (N p hp).1, Nat.ne_of_lt (Heap.lt_size (N p hp).1), hideAll_none _ (List.mem_map_of_mem hp)⟩) BG (X₀.keeps st) (T.keeps st) (fun b hb => by
      rw [(only_frame hf).mp hb]
      exact ⟨oL, es, ep, hLg, hLd⟩) (fun p hp => Heap.lt_size (N p hp).1)) (fun fl s' hl => ?_) fun _ _ y => y
  obtain ⟨g', L', m', news', T', F', N', k⟩ := hl
  obtain ⟨sl, hs⟩ := T'.up hLg
  refine k ⟨⟨_, es, ep, F'.keep _ _ hs, hLd, hLk, hLf⟩, fun b o e => F'.keep b o (T'.other b o (st b o e) (fun q => ?_)), F.above⟩ fun p hp => ⟨(N' p hp).1, fun q => ?_, ?_⟩
  · rw [(only_frame hf).mp q, nL₀] at e
    cases e
  · have := (N' p hp).2.2
    rw [q, hs] at this
    cases this
  · cases q : h₀.get? p.1 with
    | none => rfl
    | some o =>
      obtain ⟨sl', hs'⟩ := T'.up (st _ _ q)
      have := (N' p hp).2.2
      rw [hs'] at this
      cases this
end
end Mine
end
noncomputable section
open PySem PySem.W PyProof.Rows PySem.Spec PySem.Calls
set_option Elab.async false
set_option maxRecDepth 100000
set_option maxHeartbeats 4000000
local macro_rules | `(tactic| k_room) => `(tactic| ktr_room)
local macro_rules | `(tactic| k_enter) => `(tactic| first
  | (refine' code_def ?k1 ?k2 ?k3 ?k4 ?k5 ?kA ?kF ?kK ?k6 ?k7 ?k8 ?k9 ?kB ?_ ?c2 ?c3 ?c4 ?c5; (case kA => exact rfl); (case kF => exact rfl); (case kK => first | exact rfl | assumption); (case k1 => k_asm); (case k2 => k_asm); (case k3 => k_asm); (case k4 => k_asm); (case k5 => k_asm); (case k6 => k_is); (case k7 => k_is); (case k8 => ktr_room); (case k9 => first | exact BindsTo.of_eq rfl | exact binds_K (by k_in) rfl (by k_is) rfl rfl rfl | fail "k_enter: no rule for these arguments"); (case c5 => decide); (case kB => exact locs rfl); (case c2 => exact rfl); (case c3 => exact rfl); (case c4 => exact rfl); k_whole; intro g' L' h' FG' F' N' B' X' T'; (try dsimp only); (try k_lift B'); (try k_fold))
  | (refine' code_defC ?k1 ?k2 ?k3 ?k4 ?k5 ?kA ?kF ?kK ?k6 ?k7 ?k8 ?k9 ?kB ?kD ?_ ?c2 ?c3 ?c4; (case kA => exact rfl); (case kF => exact rfl); (case kK => first | exact rfl | assumption); (case k1 => k_asm); (case k2 => k_asm); (case k3 => k_asm); (case k4 => k_asm); (case k5 => k_asm); (case k6 => k_is); (case k7 => k_is); (case k8 => ktr_room); (case k9 => first | exact BindsTo.of_eq rfl | exact binds_K (by k_in) rfl (by k_is) rfl rfl rfl | fail "k_enter: no rule for these arguments"); (case kB => exact rfl); (case kD => decide +kernel); (case c2 => exact rfl); (case c3 => exact rfl); (case c4 => exact rfl); k_whole; intro g' L' h' tk' cells' FG' F' N' Y' B' X' T' l1; (try k_lt l1); k_cells Y'; (try simp only [List.cons_append, List.nil_append] at N'); (try dsimp only); (try k_lift B'); (try k_fold)))
local macro_rules | `(tactic| walk_at "getMethod ref") => `(tactic| (k_here; (with_reducible show wpAny _ _ (getMethod (Value.ref _) (PySem.Str.ofString "br") _) _ _ _); k_dflt (
  refine' kmu_sm ?k1 ?k2 ?k4 ?k5 ?k6 ?k7 ?k8 ?k9 ?k10 ?k11 ?k12 ?k13 ?k14 ?_; (case k1 => k_asm); (case k2 => k_asm); (case k4 => k_inst); (case k5 => k_is); (case k6 => k_is); (case k7 => k_is); (case k8 => k_is); (case k9 => k_is); (case k10 => k_is); (case k11 => decide +kernel); (case k12 => k_get); (case k13 => k_is); (case k14 => k_handed); k_whole)))
local macro_rules | `(tactic| walk_at "call ref") => `(tactic| (k_here; k_dflt (refine' Mine.br_call ?k1 ?k2 ?k3 ?k4 ?k5 ?kK ?k6 ?k7 ?kd ?_; (case k1 => k_asm); (case k2 => k_asm); (case k3 => k_asm); (case k4 => k_asm); (case k5 => k_asm); (case kK => first | exact rfl | assumption); (case k6 => first | decide | omega | l_fact); (case k7 => first | decide | omega | l_fact); (case kd => ktr_room)); intro t9 h9 tk9 F9 N9; (try dsimp only)))
local macro_rules | `(tactic| walk_at "call builtin:pow") => `(tactic| (k_dflt (refine Mine.call_pw (by first | decide | exact Mine.rev_nonneg _ _ | omega) ?_); (try dsimp only)))
local macro_rules | `(tactic| walk_at "call builtin:pow") => `(tactic| (k_dflt (refine Mine.call_inv256 ?_); (try dsimp only)))
local macro_rules | `(tactic| k_steps) => `(tactic| repeat' (first | (k_unfold; (try dsimp only)) | walk1 | (dsimp only; walk1) | fail "no step"))
local macro_rules | `(tactic| walk_at "MidL") => `(tactic| (k_dflt (refine' Mine.MidL.done ?k1 ?k2 ?k3 ?k4 ?k5 ?k6; (case k1 => assumption); (case k2 => assumption); (case k3 => kcj_all); (case k4 => l_ints); (case k5 => ((try simp only [List.length_take, List.length_append, List.length_cons, List.length_nil, List.length_map]); first | omega | assumption)); (case k6 => ((simp only [Mine.AllNe, and_true]); omega)))))
local macro_rules | `(tactic| walk_at "subscriptTail BinOp") => `(tactic| (k_here; (with_reducible show wpAny _ _ (subscriptTail _ (PySem.Expr.Slice _ _ none _) (Value.ref _) (Value.ref _)) _ _ _); k_dflt (refine' Mine.cut_temp ?F ?N ?l ?p ?q ?m ?_ ?s ?z; (case F => k_asm); (case N => k_asm); (case l => kmk_list); (case p => kmk_part); (case q => kmk_part); (case m => kmk_nums); (case s => with_unfolding_all rfl); (case z => kmk_size)); intro D' ws' h' F' N' l1 hI'; (try simp only [Int.reduceNeg, Int.neg_neg, Int.reduceToNat] at hI'); (try k_lt l1); (try k_sweep)))
local macro_rules | `(tactic| walk_at "call ref") => `(tactic| (k_here; k_dflt (refine' Mine.turned_call ?k1 ?k2 ?k3 ?k4 ?k5 ?kK ?k6 ?k7 ?kd ?_; (case k1 => k_asm); (case k2 => k_asm); (case k3 => k_asm); (case k4 => k_asm); (case k5 => k_asm); (case kK => first | exact rfl | assumption); (case k6 => first | decide | omega | l_fact); (case k7 => first | decide | omega | l_fact); (case kd => ktr_room)); intro t9 h9 tk9 F9 N9; (try dsimp only)))
local macro_rules | `(tactic| walk) => `(tactic| ((try dsimp only); repeat (first | (k_unfold; (try dsimp only)) | ((fail_if_success (with_reducible refine ite_neg ?_ ?_)); (fail_if_success (with_reducible show UnrPost _ _ _ _ _ _ _ _ _)); walk1) | ((fail_if_success (with_reducible refine ite_neg ?_ ?_)); (fail_if_success (with_reducible show UnrPost _ _ _ _ _ _ _ _ _)); dsimp only; walk1))))
local macro_rules | `(tactic| k_units) => `(tactic| ktr_units)
namespace Mine
theorem zeros_eq (k : Nat) : List.map (fun _ => (0 : Int)) (rangeKs 0 k) = List.replicate k 0 := by
  rw [List.map_const']
  simp [rangeKs]
theorem poly_new {pv : Program} {w : World} {loose : List Str} {mean : ExcName → Option Value} {mg mb : Str → Option Value} {dp un : Nat} {gd : Option (List Code)} {cn : Str} {cs : Scope} {a0 : Addr} {ccd : Value} {cl : List (Str × Addr)} {outer : List Env} {A₀ : Around} {base h₀ : Heap} {L : Addr} {m : Str → Option Value} {s : Shared}
    {Q E : Value → Shared → Prop} {l D x d a b c1 c2 c3 q1 q2 : Addr} {t1 t2 t3 t4 t5 t6 t7 t8 t9 : Tok} {ys vs : List Value} {ns : List Int} {nn : Nat} {o1 o2 o3 o4 o5 : Obj}
    (B : Below A₀ base outer h₀) (F : Fr h₀ L s.heap m) (X : (hd.heap_39 w.params).In h₀) (T : Top pv loose mean mg mb h₀) (hk : cs.kind = .function)
    (N : News h₀ L s.heap ((l, { cls := .type "list", data := .seq vs.toArray nn }) :: ringLed w.params D x d a b t1 t2 t3 t4 t5 t6 t7 t8 t9 ys [(c3, o3), (c2, o2), (c1, o1), (q1, o4), (q2, o5)])) (I : IntsAre vs ns) (hlen : ns.length < 256) (hd : dp + 5 < recursionLimit)
    (hl1 : @Ne Nat l d ∧ @Ne Nat l x ∧ @Ne Nat l D ∧ @Ne Nat l c1 ∧ @Ne Nat l c2 ∧ @Ne Nat l c3)
    (n2 : @LT.lt Nat _ d x) (n3 : @Ne Nat D x) (n4 : @Ne Nat D d) (n5 : @Ne Nat c3 D ∧ @Ne Nat c2 D ∧ @Ne Nat c1 D) (n6 : @LT.lt Nat _ c3 d ∧ @LT.lt Nat _ c2 d ∧ @LT.lt Nat _ c1 d)
    (ret : ∀ (y d' C : Addr) (ta tb : Tok) (ws : List Value) (nc : Nat) (h' : Heap) (tk' : Nat), Fr h₀ L h' m → News h₀ L h' ((C, { cls := .type "list", data := .seq ws.toArray nc }) :: (y, instObj 528 d') :: (d', dictOf [⟨PyData.keyHash w.params (Str.ofString "parent"), .str (Str.ofString "parent") ta, .ref x⟩, ⟨PyData.keyHash w.params (Str.ofString "coeffs"), .str (Str.ofString "coeffs") tb, .ref C⟩] 2) :: ringLed w.params D x d a b t1 t2 t3 t4 t5 t6 t7 t8 t9 ys [(c3, o3), (c2, o2), (c1, o1), (q1, o4), (q2, o5)]) →
      IntsAre ws (ns ++ List.replicate (256 - ns.length) 0) → @LT.lt Nat _ d' y → @Ne Nat C y → @Ne Nat C d' → Q (.ref y) { s with heap := h', toks := tk' }) :
    wpAny (model PySem.Challenge.rw_ix0026_02.row.prog w) (ktrTop dp un gd cn cs L a0 ccd cl outer) (call (.ref 528) [.ref x, .ref l]) Q E s := by
  dsimp only [ringLed] at N
  w_strict (iterate 30 (first | (k_unfold; (try dsimp only)) | walk1 | (dsimp only; walk1) | (leave1; (try dsimp only))))
  (try dsimp only)
  w_strict walk
  refine ite_neg (by simp; omega) ?_
  (try dsimp only)
  w_strict walk
  refine ite_pos (by simp; omega) ?_
  (try dsimp only)
  w_strict walk
  rename Fr _ _ _ _ => Fe
  rename News _ _ _ _ => Ne
  rename IntsAre _ (ns ++ List.map _ _) => Ie
  rw [zeros_eq, show (256 - (ns.length : Int) - 0).toNat = 256 - ns.length by omega] at Ie
  refine' ret _ _ _ _ _ _ _ _ _ (by assumption) (cb_drop Ne ?k1) Ie ?k2 ?k3 ?k4
  case k1 => kcj_all
  case k2 => omega
  case k3 => exact neN (by omega)
  case k4 => exact neN (by omega)
end Mine
end
noncomputable section
open PySem PySem.W PyProof.Rows PySem.Spec PySem.Calls
set_option Elab.async false
set_option maxRecDepth 100000
set_option maxHeartbeats 4000000
local macro_rules | `(tactic| k_room) => `(tactic| ktr_room)
local macro_rules | `(tactic| k_enter) => `(tactic| first
  | (refine' code_def ?k1 ?k2 ?k3 ?k4 ?k5 ?kA ?kF ?kK ?k6 ?k7 ?k8 ?k9 ?kB ?_ ?c2 ?c3 ?c4 ?c5; (case kA => exact rfl); (case kF => exact rfl); (case kK => first | exact rfl | assumption); (case k1 => k_asm); (case k2 => k_asm); (case k3 => k_asm); (case k4 => k_asm); (case k5 => k_asm); (case k6 => k_is); (case k7 => k_is); (case k8 => ktr_room); (case k9 => first | exact BindsTo.of_eq rfl | exact binds_K (by k_in) rfl (by k_is) rfl rfl rfl | fail "k_enter: no rule for these arguments"); (case c5 => decide); (case kB => exact locs rfl); (case c2 => exact rfl); (case c3 => exact rfl); (case c4 => exact rfl); k_whole; intro g' L' h' FG' F' N' B' X' T'; (try dsimp only); (try k_lift B'); (try k_fold))
  | (refine' code_defC ?k1 ?k2 ?k3 ?k4 ?k5 ?kA ?kF ?kK ?k6 ?k7 ?k8 ?k9 ?kB ?kD ?_ ?c2 ?c3 ?c4; (case kA => exact rfl); (case kF => exact rfl); (case kK => first | exact rfl | assumption); (case k1 => k_asm); (case k2 => k_asm); (case k3 => k_asm); (case k4 => k_asm); (case k5 => k_asm); (case k6 => k_is); (case k7 => k_is); (case k8 => ktr_room); (case k9 => first | exact BindsTo.of_eq rfl | exact binds_K (by k_in) rfl (by k_is) rfl rfl rfl | fail "k_enter: no rule for these arguments"); (case kB => exact rfl); (case kD => decide +kernel); (case c2 => exact rfl); (case c3 => exact rfl); (case c4 => exact rfl); k_whole; intro g' L' h' tk' cells' FG' F' N' Y' B' X' T' l1; (try k_lt l1); k_cells Y'; (try simp only [List.cons_append, List.nil_append] at N'); (try dsimp only); (try k_lift B'); (try k_fold)))
local macro_rules | `(tactic| walk_at "getMethod ref") => `(tactic| (k_here; (with_reducible show wpAny _ _ (getMethod (Value.ref _) (PySem.Str.ofString "br") _) _ _ _); k_dflt (
  refine' kmu_sm ?k1 ?k2 ?k4 ?k5 ?k6 ?k7 ?k8 ?k9 ?k10 ?k11 ?k12 ?k13 ?k14 ?_; (case k1 => k_asm); (case k2 => k_asm); (case k4 => k_inst); (case k5 => k_is); (case k6 => k_is); (case k7 => k_is); (case k8 => k_is); (case k9 => k_is); (case k10 => k_is); (case k11 => decide +kernel); (case k12 => k_get); (case k13 => k_is); (case k14 => k_handed); k_whole)))
local macro_rules | `(tactic| walk_at "call ref") => `(tactic| (k_here; k_dflt (refine' Mine.br_call ?k1 ?k2 ?k3 ?k4 ?k5 ?kK ?k6 ?k7 ?kd ?_; (case k1 => k_asm); (case k2 => k_asm); (case k3 => k_asm); (case k4 => k_asm); (case k5 => k_asm); (case kK => first | exact rfl | assumption); (case k6 => first | decide | omega | l_fact); (case k7 => first | decide | omega | l_fact); (case kd => ktr_room)); intro t9 h9 tk9 F9 N9; (try dsimp only)))
local macro_rules | `(tactic| walk_at "call builtin:pow") => `(tactic| (k_dflt (refine Mine.call_pw (by first | decide | exact Mine.rev_nonneg _ _ | omega) ?_); (try dsimp only)))
local macro_rules | `(tactic| walk_at "call builtin:pow") => `(tactic| (k_dflt (refine Mine.call_inv256 ?_); (try dsimp only)))
local macro_rules | `(tactic| k_steps) => `(tactic| repeat' (first | (k_unfold; (try dsimp only)) | walk1 | (dsimp only; walk1) | fail "no step"))
local macro_rules | `(tactic| walk_at "MidL") => `(tactic| (k_dflt (refine' Mine.MidL.done ?k1 ?k2 ?k3 ?k4 ?k5 ?k6; (case k1 => assumption); (case k2 => assumption); (case k3 => kcj_all); (case k4 => l_ints); (case k5 => ((try simp only [List.length_take, List.length_append, List.length_cons, List.length_nil, List.length_map]); first | omega | assumption)); (case k6 => ((simp only [Mine.AllNe, and_true]); omega)))))
local macro_rules | `(tactic| walk_at "subscriptTail BinOp") => `(tactic| (k_here; (with_reducible show wpAny _ _ (subscriptTail _ (PySem.Expr.Slice _ _ none _) (Value.ref _) (Value.ref _)) _ _ _); k_dflt (refine' Mine.cut_temp ?F ?N ?l ?p ?q ?m ?_ ?s ?z; (case F => k_asm); (case N => k_asm); (case l => kmk_list); (case p => kmk_part); (case q => kmk_part); (case m => kmk_nums); (case s => with_unfolding_all rfl); (case z => kmk_size)); intro D' ws' h' F' N' l1 hI'; (try simp only [Int.reduceNeg, Int.neg_neg, Int.reduceToNat] at hI'); (try k_lt l1); (try k_sweep)))
local macro_rules | `(tactic| walk_at "call ref") => `(tactic| (k_here; k_dflt (refine' Mine.turned_call ?k1 ?k2 ?k3 ?k4 ?k5 ?kK ?k6 ?k7 ?kd ?_; (case k1 => k_asm); (case k2 => k_asm); (case k3 => k_asm); (case k4 => k_asm); (case k5 => k_asm); (case kK => first | exact rfl | assumption); (case k6 => first | decide | omega | l_fact); (case k7 => first | decide | omega | l_fact); (case kd => ktr_room)); intro t9 h9 tk9 F9 N9; (try dsimp only)))
local macro_rules | `(tactic| walk) => `(tactic| ((try dsimp only); repeat (first | (k_unfold; (try dsimp only)) | ((fail_if_success (with_reducible refine ite_neg ?_ ?_)); (fail_if_success (with_reducible show UnrPost _ _ _ _ _ _ _ _ _)); walk1) | ((fail_if_success (with_reducible refine ite_neg ?_ ?_)); (fail_if_success (with_reducible show UnrPost _ _ _ _ _ _ _ _ _)); dsimp only; walk1))))
local macro_rules | `(tactic| k_units) => `(tactic| ktr_units)
local macro_rules | `(tactic| walk_at "call ref") => `(tactic| (k_here; k_dflt (refine' Mine.poly_new ?k1 ?k2 ?k3 ?k5 ?kK ?k4 ?kI ?kl ?kd ?h1 ?h2 ?h3 ?h4 ?h5 ?h6 ?_; (case k1 => k_asm); (case k2 => k_asm); (case k3 => k_asm); (case k4 => k_asm); (case k5 => k_asm); (case kK => first | exact rfl | assumption); (case kI => l_ints); (case kl => (first | assumption | (simp only [List.length_cons, List.length_nil]; omega))); (case kd => ktr_room); (case h1 => (first | assumption | omega | (refine ⟨?_, ?_, ?_, ?_, ?_, ?_⟩ <;> first | exact neN (by omega) | assumption) | exact neN (by omega))); (case h2 => (first | assumption | omega | (refine ⟨?_, ?_, ?_, ?_, ?_, ?_⟩ <;> first | exact neN (by omega) | assumption) | exact neN (by omega))); (case h3 => (first | assumption | omega | (refine ⟨?_, ?_, ?_, ?_, ?_, ?_⟩ <;> first | exact neN (by omega) | assumption) | exact neN (by omega))); (case h4 => (first | assumption | omega | (refine ⟨?_, ?_, ?_, ?_, ?_, ?_⟩ <;> first | exact neN (by omega) | assumption) | exact neN (by omega))); (case h5 => (first | assumption | omega | (refine ⟨?_, ?_, ?_, ?_, ?_, ?_⟩ <;> first | exact neN (by omega) | assumption) | exact neN (by omega))); (case h6 => (first | assumption | omega | (refine ⟨?_, ?_, ?_, ?_, ?_, ?_⟩ <;> first | exact neN (by omega) | assumption) | exact neN (by omega)))); intro y9 d9 C9 ta9 tb9 ws9 nc9 h9 tk9 F9 N9 I9 o1 o2 o3; (try dsimp only)))
namespace Mine
theorem ring_list {pv : Program} {w : World} {loose : List Str} {mean : ExcName → Option Value} {mg mb : Str → Option Value} {dp un : Nat} {gd : Option (List Code)} {cn : Str} {cs : Scope} {a0 : Addr} {ccd : Value} {cl : List (Str × Addr)} {outer : List Env} {A₀ : Around} {base h₀ : Heap} {L : Addr} {m : Str → Option Value} {s : Shared}
    {Q E : Value → Shared → Prop} {l D x d a b c1 c2 c3 q1 q2 : Addr} {t1 t2 t3 t4 t5 t6 t7 t8 t9 : Tok} {ys vs : List Value} {ns : List Int} {nn : Nat} {o1 o2 o3 o4 o5 : Obj}
    (B : Below A₀ base outer h₀) (F : Fr h₀ L s.heap m) (X : (hd.heap_39 w.params).In h₀) (T : Top pv loose mean mg mb h₀) (hk : cs.kind = .function)
    (N : News h₀ L s.heap ((l, { cls := .type "list", data := .seq vs.toArray nn }) :: ringLed w.params D x d a b t1 t2 t3 t4 t5 t6 t7 t8 t9 ys [(c3, o3), (c2, o2), (c1, o1), (q1, o4), (q2, o5)])) (I : IntsAre vs ns) (hlen : ns.length < 256) (hd : dp + 8 < recursionLimit)
    (hl1 : @Ne Nat l d ∧ @Ne Nat l x ∧ @Ne Nat l D ∧ @Ne Nat l c1 ∧ @Ne Nat l c2 ∧ @Ne Nat l c3)
    (n2 : @LT.lt Nat _ d x) (n3 : @Ne Nat D x) (n4 : @Ne Nat D d) (n5 : @Ne Nat c3 D ∧ @Ne Nat c2 D ∧ @Ne Nat c1 D) (n6 : @LT.lt Nat _ c3 d ∧ @LT.lt Nat _ c2 d ∧ @LT.lt Nat _ c1 d)
    (ret : ∀ (y d' C : Addr) (ta tb : Tok) (ws : List Value) (nc : Nat) (h' : Heap) (tk' : Nat), Fr h₀ L h' m → News h₀ L h' ((C, { cls := .type "list", data := .seq ws.toArray nc }) :: (y, instObj 528 d') :: (d', dictOf [⟨PyData.keyHash w.params (Str.ofString "parent"), .str (Str.ofString "parent") ta, .ref x⟩, ⟨PyData.keyHash w.params (Str.ofString "coeffs"), .str (Str.ofString "coeffs") tb, .ref C⟩] 2) :: ringLed w.params D x d a b t1 t2 t3 t4 t5 t6 t7 t8 t9 ys [(c3, o3), (c2, o2), (c1, o1), (q1, o4), (q2, o5)]) →
      IntsAre ws (ns ++ List.replicate (256 - ns.length) 0) → @LT.lt Nat _ d' y → @Ne Nat C y → @Ne Nat C d' → Q (.ref y) { s with heap := h', toks := tk' }) :
    wpAny (model PySem.Challenge.rw_ix0026_02.row.prog w) (ktrTop dp un gd cn cs L a0 ccd cl outer) (call (.ref x) [.ref l]) Q E s := by
  dsimp only [ringLed] at N
  w_strict ((walk; repeat ((first | refine ite_neg (by decide) ?_ | refine ite_pos (by decide) ?_); (try dsimp only); walk)))
  rename Fr _ _ _ _ => Fe
  rename News _ _ _ _ => Ne
  refine' ret _ _ _ _ _ _ _ _ _ (by assumption) (cb_drop Ne ?k1) (by assumption) ?k2 ?k3 ?k4
  case k1 => kcj_all
  case k2 => omega
  case k3 => exact neN (by omega)
  case k4 => exact neN (by omega)
end Mine
end
noncomputable section
open PySem PySem.W PyProof.Rows PySem.Spec PySem.Calls
set_option Elab.async false
set_option maxRecDepth 100000
set_option maxHeartbeats 4000000
local macro_rules | `(tactic| k_room) => `(tactic| ktr_room)
local macro_rules | `(tactic| k_enter) => `(tactic| first
  | (refine' code_def ?k1 ?k2 ?k3 ?k4 ?k5 ?kA ?kF ?kK ?k6 ?k7 ?k8 ?k9 ?kB ?_ ?c2 ?c3 ?c4 ?c5; (case kA => exact rfl); (case kF => exact rfl); (case kK => first | exact rfl | assumption); (case k1 => k_asm); (case k2 => k_asm); (case k3 => k_asm); (case k4 => k_asm); (case k5 => k_asm); (case k6 => k_is); (case k7 => k_is); (case k8 => ktr_room); (case k9 => first | exact BindsTo.of_eq rfl | exact binds_K (by k_in) rfl (by k_is) rfl rfl rfl | fail "k_enter: no rule for these arguments"); (case c5 => decide); (case kB => exact locs rfl); (case c2 => exact rfl); (case c3 => exact rfl); (case c4 => exact rfl); k_whole; intro g' L' h' FG' F' N' B' X' T'; (try dsimp only); (try k_lift B'); (try k_fold))
  | (refine' code_defC ?k1 ?k2 ?k3 ?k4 ?k5 ?kA ?kF ?kK ?k6 ?k7 ?k8 ?k9 ?kB ?kD ?_ ?c2 ?c3 ?c4; (case kA => exact rfl); (case kF => exact rfl); (case kK => first | exact rfl | assumption); (case k1 => k_asm); (case k2 => k_asm); (case k3 => k_asm); (case k4 => k_asm); (case k5 => k_asm); (case k6 => k_is); (case k7 => k_is); (case k8 => ktr_room); (case k9 => first | exact BindsTo.of_eq rfl | exact binds_K (by k_in) rfl (by k_is) rfl rfl rfl | fail "k_enter: no rule for these arguments"); (case kB => exact rfl); (case kD => decide +kernel); (case c2 => exact rfl); (case c3 => exact rfl); (case c4 => exact rfl); k_whole; intro g' L' h' tk' cells' FG' F' N' Y' B' X' T' l1; (try k_lt l1); k_cells Y'; (try simp only [List.cons_append, List.nil_append] at N'); (try dsimp only); (try k_lift B'); (try k_fold)))
local macro_rules | `(tactic| walk_at "getMethod ref") => `(tactic| (k_here; (with_reducible show wpAny _ _ (getMethod (Value.ref _) (PySem.Str.ofString "br") _) _ _ _); k_dflt (
  refine' kmu_sm ?k1 ?k2 ?k4 ?k5 ?k6 ?k7 ?k8 ?k9 ?k10 ?k11 ?k12 ?k13 ?k14 ?_; (case k1 => k_asm); (case k2 => k_asm); (case k4 => k_inst); (case k5 => k_is); (case k6 => k_is); (case k7 => k_is); (case k8 => k_is); (case k9 => k_is); (case k10 => k_is); (case k11 => decide +kernel); (case k12 => k_get); (case k13 => k_is); (case k14 => k_handed); k_whole)))
local macro_rules | `(tactic| walk_at "call ref") => `(tactic| (k_here; k_dflt (refine' Mine.br_call ?k1 ?k2 ?k3 ?k4 ?k5 ?kK ?k6 ?k7 ?kd ?_; (case k1 => k_asm); (case k2 => k_asm); (case k3 => k_asm); (case k4 => k_asm); (case k5 => k_asm); (case kK => first | exact rfl | assumption); (case k6 => first | decide | omega | l_fact); (case k7 => first | decide | omega | l_fact); (case kd => ktr_room)); intro t9 h9 tk9 F9 N9; (try dsimp only)))
local macro_rules | `(tactic| walk_at "call builtin:pow") => `(tactic| (k_dflt (refine Mine.call_pw (by first | decide | exact Mine.rev_nonneg _ _ | omega) ?_); (try dsimp only)))
local macro_rules | `(tactic| walk_at "call builtin:pow") => `(tactic| (k_dflt (refine Mine.call_inv256 ?_); (try dsimp only)))
local macro_rules | `(tactic| k_steps) => `(tactic| repeat' (first | (k_unfold; (try dsimp only)) | walk1 | (dsimp only; walk1) | fail "no step"))
local macro_rules | `(tactic| walk_at "MidL") => `(tactic| (k_dflt (refine' Mine.MidL.done ?k1 ?k2 ?k3 ?k4 ?k5 ?k6; (case k1 => assumption); (case k2 => assumption); (case k3 => kcj_all); (case k4 => l_ints); (case k5 => ((try simp only [List.length_take, List.length_append, List.length_cons, List.length_nil, List.length_map]); first | omega | assumption)); (case k6 => ((simp only [Mine.AllNe, and_true]); omega)))))
local macro_rules | `(tactic| walk_at "subscriptTail BinOp") => `(tactic| (k_here; (with_reducible show wpAny _ _ (subscriptTail _ (PySem.Expr.Slice _ _ none _) (Value.ref _) (Value.ref _)) _ _ _); k_dflt (refine' Mine.cut_temp ?F ?N ?l ?p ?q ?m ?_ ?s ?z; (case F => k_asm); (case N => k_asm); (case l => kmk_list); (case p => kmk_part); (case q => kmk_part); (case m => kmk_nums); (case s => with_unfolding_all rfl); (case z => kmk_size)); intro D' ws' h' F' N' l1 hI'; (try simp only [Int.reduceNeg, Int.neg_neg, Int.reduceToNat] at hI'); (try k_lt l1); (try k_sweep)))
local macro_rules | `(tactic| walk_at "call ref") => `(tactic| (k_here; k_dflt (refine' Mine.turned_call ?k1 ?k2 ?k3 ?k4 ?k5 ?kK ?k6 ?k7 ?kd ?_; (case k1 => k_asm); (case k2 => k_asm); (case k3 => k_asm); (case k4 => k_asm); (case k5 => k_asm); (case kK => first | exact rfl | assumption); (case k6 => first | decide | omega | l_fact); (case k7 => first | decide | omega | l_fact); (case kd => ktr_room)); intro t9 h9 tk9 F9 N9; (try dsimp only)))
local macro_rules | `(tactic| walk) => `(tactic| ((try dsimp only); repeat (first | (k_unfold; (try dsimp only)) | ((fail_if_success (with_reducible refine ite_neg ?_ ?_)); (fail_if_success (with_reducible show UnrPost _ _ _ _ _ _ _ _ _)); walk1) | ((fail_if_success (with_reducible refine ite_neg ?_ ?_)); (fail_if_success (with_reducible show UnrPost _ _ _ _ _ _ _ _ _)); dsimp only; walk1))))
local macro_rules | `(tactic| k_units) => `(tactic| ktr_units)
local macro_rules | `(tactic| walk_at "call ref") => `(tactic| (k_here; k_dflt (refine' Mine.poly_new ?k1 ?k2 ?k3 ?k5 ?kK ?k4 ?kI ?kl ?kd ?h1 ?h2 ?h3 ?h4 ?h5 ?h6 ?_; (case k1 => k_asm); (case k2 => k_asm); (case k3 => k_asm); (case k4 => k_asm); (case k5 => k_asm); (case kK => first | exact rfl | assumption); (case kI => l_ints); (case kl => (first | assumption | (simp only [List.length_cons, List.length_nil]; omega))); (case kd => ktr_room); (case h1 => (first | assumption | omega | (refine ⟨?_, ?_, ?_, ?_, ?_, ?_⟩ <;> first | exact neN (by omega) | assumption) | exact neN (by omega))); (case h2 => (first | assumption | omega | (refine ⟨?_, ?_, ?_, ?_, ?_, ?_⟩ <;> first | exact neN (by omega) | assumption) | exact neN (by omega))); (case h3 => (first | assumption | omega | (refine ⟨?_, ?_, ?_, ?_, ?_, ?_⟩ <;> first | exact neN (by omega) | assumption) | exact neN (by omega))); (case h4 => (first | assumption | omega | (refine ⟨?_, ?_, ?_, ?_, ?_, ?_⟩ <;> first | exact neN (by omega) | assumption) | exact neN (by omega))); (case h5 => (first | assumption | omega | (refine ⟨?_, ?_, ?_, ?_, ?_, ?_⟩ <;> first | exact neN (by omega) | assumption) | exact neN (by omega))); (case h6 => (first | assumption | omega | (refine ⟨?_, ?_, ?_, ?_, ?_, ?_⟩ <;> first | exact neN (by omega) | assumption) | exact neN (by omega)))); intro y9 d9 C9 ta9 tb9 ws9 nc9 h9 tk9 F9 N9 I9 o1 o2 o3; (try dsimp only)))
namespace Mine
theorem ring_int {pv : Program} {w : World} {loose : List Str} {mean : ExcName → Option Value} {mg mb : Str → Option Value} {dp un : Nat} {gd : Option (List Code)} {cn : Str} {cs : Scope} {a0 : Addr} {ccd : Value} {cl : List (Str × Addr)} {outer : List Env} {A₀ : Around} {base h₀ : Heap} {L : Addr} {m : Str → Option Value} {s : Shared}
    {Q E : Value → Shared → Prop} {l D x d a b c1 c2 c3 q1 q2 : Addr} {t1 t2 t3 t4 t5 t6 t7 t8 t9 : Tok} {ys vs : List Value} {ns : List Int} {nn : Nat} {o1 o2 o3 o4 o5 : Obj}
    (B : Below A₀ base outer h₀) (F : Fr h₀ L s.heap m) (X : (hd.heap_39 w.params).In h₀) (T : Top pv loose mean mg mb h₀) (hk : cs.kind = .function)
    {n : Int} {tn : Tok} (N : News h₀ L s.heap (ringLed w.params D x d a b t1 t2 t3 t4 t5 t6 t7 t8 t9 ys [(c3, o3), (c2, o2), (c1, o1), (q1, o4), (q2, o5)])) (hd : dp + 8 < recursionLimit)
    (n2 : @LT.lt Nat _ d x) (n3 : @Ne Nat D x) (n4 : @Ne Nat D d) (n5 : @Ne Nat c3 D ∧ @Ne Nat c2 D ∧ @Ne Nat c1 D) (n6 : @LT.lt Nat _ c3 d ∧ @LT.lt Nat _ c2 d ∧ @LT.lt Nat _ c1 d)
    (ret : ∀ (y d' C : Addr) (ta tb : Tok) (ws : List Value) (nc : Nat) (h' : Heap) (tk' : Nat), Fr h₀ L h' m → News h₀ L h' ((C, { cls := .type "list", data := .seq ws.toArray nc }) :: (y, instObj 528 d') :: (d', dictOf [⟨PyData.keyHash w.params (Str.ofString "parent"), .str (Str.ofString "parent") ta, .ref x⟩, ⟨PyData.keyHash w.params (Str.ofString "coeffs"), .str (Str.ofString "coeffs") tb, .ref C⟩] 2) :: ringLed w.params D x d a b t1 t2 t3 t4 t5 t6 t7 t8 t9 ys [(c3, o3), (c2, o2), (c1, o1), (q1, o4), (q2, o5)]) →
      IntsAre ws ([n] ++ List.replicate 255 0) → @LT.lt Nat _ d' y → @Ne Nat C y → @Ne Nat C d' → Q (.ref y) { s with heap := h', toks := tk' }) :
    wpAny (model PySem.Challenge.rw_ix0026_02.row.prog w) (ktrTop dp un gd cn cs L a0 ccd cl outer) (call (.ref x) [.int n tn]) Q E s := by
  dsimp only [ringLed] at N
  w_strict ((walk; repeat ((first | refine ite_neg (by decide) ?_ | refine ite_pos (by decide) ?_); (try dsimp only); walk)))
  rename Fr _ _ _ _ => Fe
  rename News _ _ _ _ => Ne
  refine' ret _ _ _ _ _ _ _ _ _ (by assumption) (cb_drop Ne ?k1) (by assumption) ?k2 ?k3 ?k4
  case k1 => kcj_all
  case k2 => omega
  case k3 => exact neN (by omega)
  case k4 => exact neN (by omega)
end Mine
end
noncomputable section
open PySem PySem.W PyProof.Rows PySem.Spec PySem.Calls
set_option Elab.async false
set_option maxRecDepth 100000
set_option maxHeartbeats 4000000
local macro_rules | `(tactic| k_room) => `(tactic| ktr_room)
local macro_rules | `(tactic| k_enter) => `(tactic| first
  | (refine' code_def ?k1 ?k2 ?k3 ?k4 ?k5 ?kA ?kF ?kK ?k6 ?k7 ?k8 ?k9 ?kB ?_ ?c2 ?c3 ?c4 ?c5; (case kA => exact rfl); (case kF => exact rfl); (case kK => first | exact rfl | assumption); (case k1 => k_asm); (case k2 => k_asm); (case k3 => k_asm); (case k4 => k_asm); (case k5 => k_asm); (case k6 => k_is); (case k7 => k_is); (case k8 => ktr_room); (case k9 => first | exact BindsTo.of_eq rfl | exact binds_K (by k_in) rfl (by k_is) rfl rfl rfl | fail "k_enter: no rule for these arguments"); (case c5 => decide); (case kB => exact locs rfl); (case c2 => exact rfl); (case c3 => exact rfl); (case c4 => exact rfl); k_whole; intro g' L' h' FG' F' N' B' X' T'; (try dsimp only); (try k_lift B'); (try k_fold))
  | (refine' code_defC ?k1 ?k2 ?k3 ?k4 ?k5 ?kA ?kF ?kK ?k6 ?k7 ?k8 ?k9 ?kB ?kD ?_ ?c2 ?c3 ?c4; (case kA => exact rfl); (case kF => exact rfl); (case kK => first | exact rfl | assumption); (case k1 => k_asm); (case k2 => k_asm); (case k3 => k_asm); (case k4 => k_asm); (case k5 => k_asm); (case k6 => k_is); (case k7 => k_is); (case k8 => ktr_room); (case k9 => first | exact BindsTo.of_eq rfl | exact binds_K (by k_in) rfl (by k_is) rfl rfl rfl | fail "k_enter: no rule for these arguments"); (case kB => exact rfl); (case kD => decide +kernel); (case c2 => exact rfl); (case c3 => exact rfl); (case c4 => exact rfl); k_whole; intro g' L' h' tk' cells' FG' F' N' Y' B' X' T' l1; (try k_lt l1); k_cells Y'; (try simp only [List.cons_append, List.nil_append] at N'); (try dsimp only); (try k_lift B'); (try k_fold)))
local macro_rules | `(tactic| walk_at "getMethod ref") => `(tactic| (k_here; (with_reducible show wpAny _ _ (getMethod (Value.ref _) (PySem.Str.ofString "br") _) _ _ _); k_dflt (
  refine' kmu_sm ?k1 ?k2 ?k4 ?k5 ?k6 ?k7 ?k8 ?k9 ?k10 ?k11 ?k12 ?k13 ?k14 ?_; (case k1 => k_asm); (case k2 => k_asm); (case k4 => k_inst); (case k5 => k_is); (case k6 => k_is); (case k7 => k_is); (case k8 => k_is); (case k9 => k_is); (case k10 => k_is); (case k11 => decide +kernel); (case k12 => k_get); (case k13 => k_is); (case k14 => k_handed); k_whole)))
local macro_rules | `(tactic| walk_at "call ref") => `(tactic| (k_here; k_dflt (refine' Mine.br_call ?k1 ?k2 ?k3 ?k4 ?k5 ?kK ?k6 ?k7 ?kd ?_; (case k1 => k_asm); (case k2 => k_asm); (case k3 => k_asm); (case k4 => k_asm); (case k5 => k_asm); (case kK => first | exact rfl | assumption); (case k6 => first | decide | omega | l_fact); (case k7 => first | decide | omega | l_fact); (case kd => ktr_room)); intro t9 h9 tk9 F9 N9; (try dsimp only)))
local macro_rules | `(tactic| walk_at "call builtin:pow") => `(tactic| (k_dflt (refine Mine.call_pw (by first | decide | exact Mine.rev_nonneg _ _ | omega) ?_); (try dsimp only)))
local macro_rules | `(tactic| walk_at "call builtin:pow") => `(tactic| (k_dflt (refine Mine.call_inv256 ?_); (try dsimp only)))
local macro_rules | `(tactic| k_steps) => `(tactic| repeat' (first | (k_unfold; (try dsimp only)) | walk1 | (dsimp only; walk1) | fail "no step"))
local macro_rules | `(tactic| walk_at "MidL") => `(tactic| (k_dflt (refine' Mine.MidL.done ?k1 ?k2 ?k3 ?k4 ?k5 ?k6; (case k1 => assumption); (case k2 => assumption); (case k3 => kcj_all); (case k4 => l_ints); (case k5 => ((try simp only [List.length_take, List.length_append, List.length_cons, List.length_nil, List.length_map]); first | omega | assumption)); (case k6 => ((simp only [Mine.AllNe, and_true]); omega)))))
local macro_rules | `(tactic| walk_at "subscriptTail BinOp") => `(tactic| (k_here; (with_reducible show wpAny _ _ (subscriptTail _ (PySem.Expr.Slice _ _ none _) (Value.ref _) (Value.ref _)) _ _ _); k_dflt (refine' Mine.cut_temp ?F ?N ?l ?p ?q ?m ?_ ?s ?z; (case F => k_asm); (case N => k_asm); (case l => kmk_list); (case p => kmk_part); (case q => kmk_part); (case m => kmk_nums); (case s => with_unfolding_all rfl); (case z => kmk_size)); intro D' ws' h' F' N' l1 hI'; (try simp only [Int.reduceNeg, Int.neg_neg, Int.reduceToNat] at hI'); (try k_lt l1); (try k_sweep)))
local macro_rules | `(tactic| walk_at "call ref") => `(tactic| (k_here; k_dflt (refine' Mine.turned_call ?k1 ?k2 ?k3 ?k4 ?k5 ?kK ?k6 ?k7 ?kd ?_; (case k1 => k_asm); (case k2 => k_asm); (case k3 => k_asm); (case k4 => k_asm); (case k5 => k_asm); (case kK => first | exact rfl | assumption); (case k6 => first | decide | omega | l_fact); (case k7 => first | decide | omega | l_fact); (case kd => ktr_room)); intro t9 h9 tk9 F9 N9; (try dsimp only)))
local macro_rules | `(tactic| walk) => `(tactic| ((try dsimp only); repeat (first | (k_unfold; (try dsimp only)) | ((fail_if_success (with_reducible refine ite_neg ?_ ?_)); (fail_if_success (with_reducible show UnrPost _ _ _ _ _ _ _ _ _)); walk1) | ((fail_if_success (with_reducible refine ite_neg ?_ ?_)); (fail_if_success (with_reducible show UnrPost _ _ _ _ _ _ _ _ _)); dsimp only; walk1))))
local macro_rules | `(tactic| k_units) => `(tactic| ktr_units)
local macro_rules | `(tactic| walk_at "call ref") => `(tactic| (k_here; k_dflt (refine' Mine.poly_new ?k1 ?k2 ?k3 ?k5 ?kK ?k4 ?kI ?kl ?kd ?h1 ?h2 ?h3 ?h4 ?h5 ?h6 ?_; (case k1 => k_asm); (case k2 => k_asm); (case k3 => k_asm); (case k4 => k_asm); (case k5 => k_asm); (case kK => first | exact rfl | assumption); (case kI => l_ints); (case kl => (first | assumption | (simp only [List.length_cons, List.length_nil]; omega))); (case kd => ktr_room); (case h1 => (first | assumption | omega | (refine ⟨?_, ?_, ?_, ?_, ?_, ?_⟩ <;> first | exact neN (by omega) | assumption) | exact neN (by omega))); (case h2 => (first | assumption | omega | (refine ⟨?_, ?_, ?_, ?_, ?_, ?_⟩ <;> first | exact neN (by omega) | assumption) | exact neN (by omega))); (case h3 => (first | assumption | omega | (refine ⟨?_, ?_, ?_, ?_, ?_, ?_⟩ <;> first | exact neN (by omega) | assumption) | exact neN (by omega))); (case h4 => (first | assumption | omega | (refine ⟨?_, ?_, ?_, ?_, ?_, ?_⟩ <;> first | exact neN (by omega) | assumption) | exact neN (by omega))); (case h5 => (first | assumption | omega | (refine ⟨?_, ?_, ?_, ?_, ?_, ?_⟩ <;> first | exact neN (by omega) | assumption) | exact neN (by omega))); (case h6 => (first | assumption | omega | (refine ⟨?_, ?_, ?_, ?_, ?_, ?_⟩ <;> first | exact neN (by omega) | assumption) | exact neN (by omega)))); intro y9 d9 C9 ta9 tb9 ws9 nc9 h9 tk9 F9 N9 I9 o1 o2 o3; (try dsimp only)))
namespace Mine
theorem all_getD (ns : List Int) (q : Int → Bool) : (List.range ns.length).all (fun i => q (ns.getD i 0)) = ns.all q := by
  have e : (List.range ns.length).map (fun i => ns.getD i 0) = ns := by
    apply List.ext_getElem
    · simp
    · intro i h1 h2
      simp only [List.getElem_map, List.getElem_range, List.getD_eq_getElem?_getD, List.getElem?_eq_getElem h2, Option.getD_some]
  conv => rhs; rw [← e, List.all_map]
  rfl
theorem is_zero {pv : Program} {w : World} {loose : List Str} {mean : ExcName → Option Value} {mg mb : Str → Option Value} {dp un : Nat} {gd : Option (List Code)} {cn : Str} {cs : Scope} {a0 : Addr} {ccd : Value} {cl : List (Str × Addr)} {outer : List Env} {A₀ : Around} {base h₀ : Heap} {L : Addr} {m : Str → Option Value} {s : Shared}
    {Q E : Value → Shared → Prop} {D x d a b c1 c2 c3 : Addr} {t1 t2 t3 t4 t5 t6 t7 t8 t9 : Tok} {y e C : Addr} {ta tb : Tok} {pa pb : Array Value} {ys vs : List Value} {ns : List Int} {nn : Nat} {o1 o2 o3 : Obj}
    (B : Below A₀ base outer h₀) (F : Fr h₀ L s.heap m) (X : (hd.heap_39 w.params).In h₀) (T : Top pv loose mean mg mb h₀) (hk : cs.kind = .function)
    (N : News h₀ L s.heap ((C, { cls := .type "list", data := .seq vs.toArray nn }) :: (y, instObj 528 e) :: (e, dictOf [⟨PyData.keyHash w.params (Str.ofString "parent"), .str (Str.ofString "parent") ta, .ref x⟩, ⟨PyData.keyHash w.params (Str.ofString "coeffs"), .str (Str.ofString "coeffs") tb, .ref C⟩] 2) :: ringLed w.params D x d a b t1 t2 t3 t4 t5 t6 t7 t8 t9 ys [(c3, o3), (c2, o2), (c1, o1), (86, tabObj pa), (93, tabObj pb)])) (I : IntsAre vs ns) (hlen : ns.length = 256) (hd : dp + 5 < recursionLimit)
    (hc3 : ∀ ps, o3 ≠ tabObj ps) (hc2 : ∀ ps, o2 ≠ tabObj ps) (hc1 : ∀ ps, o1 ≠ tabObj ps)
    (CD : CodeHd h₀ 90 86) (hG : AllBare s.gens) (ht : TriplesOk pa.toList)
    (p1 : @LT.lt Nat _ e y) (p2 : @Ne Nat C y) (p3 : @Ne Nat C e)
    (n2 : @LT.lt Nat _ d x) (n3 : @Ne Nat D x) (n4 : @Ne Nat D d) (n5 : @Ne Nat c3 D ∧ @Ne Nat c2 D ∧ @Ne Nat c1 D) (n6 : @LT.lt Nat _ c3 d ∧ @LT.lt Nat _ c2 d ∧ @LT.lt Nat _ c1 d)
    (ret : ∀ (s' : Shared) (pc : Array Value), Fr h₀ L s'.heap m → News h₀ L s'.heap ((C, { cls := .type "list", data := .seq vs.toArray nn }) :: (y, instObj 528 e) :: (e, dictOf [⟨PyData.keyHash w.params (Str.ofString "parent"), .str (Str.ofString "parent") ta, .ref x⟩, ⟨PyData.keyHash w.params (Str.ofString "coeffs"), .str (Str.ofString "coeffs") tb, .ref C⟩] 2) :: ringLed w.params D x d a b t1 t2 t3 t4 t5 t6 t7 t8 t9 ys [(c3, o3), (c2, o2), (c1, o1), (86, tabObj pc), (93, tabObj pb)]) → TriplesOk pc.toList → AllBare s'.gens → s'.os = s.os → Q (.bool (ns.all (· == 0))) s') :
    wpAny (model PySem.Challenge.rw_ix0026_02.row.prog w) (ktrTop dp un gd cn cs L a0 ccd cl outer) (call (.ref 91) [.ref y]) Q E s := by
  dsimp only [ringLed] at N
  w_strict walk
  (try dsimp only)
  rename Fr h₀ _ _ _ => FG
  rename Top _ _ _ _ _ _ => T1
  rename Fr _ _ _ _ => Fi
  refine gen_led Fi T1 (CD.keeps FG.keep) rfl rfl rfl rfl (cl := []) (by rfl) (by decide) (by decide) (by decide) rfl ?room ?src (fun _ => rfl)
  case room => ktr_room
  w_strict walk
  rename Fr _ _ _ _ => Fi
  rename News _ _ _ _ => Ni
  have hnt : NotTabs ((C, { cls := .type "list", data := .seq vs.toArray nn }) :: (y, instObj 528 e) :: (e, dictOf [⟨PyData.keyHash w.params (Str.ofString "parent"), .str (Str.ofString "parent") ta, .ref x⟩, ⟨PyData.keyHash w.params (Str.ofString "coeffs"), .str (Str.ofString "coeffs") tb, .ref C⟩] 2) :: ringLed w.params D x d a b t1 t2 t3 t4 t5 t6 t7 t8 t9 ys [(c3, o3), (c2, o2), (c1, o1)]) := by
    refine ⟨?_, ?_, ?_, ?_, ?_, ?_, hc3, hc2, hc1, trivial⟩ <;> (intro ps h; cases h)
  have hn1 := ne_tabs Ni (P := 86) (ps := pa) (by k_mem) _ (by kcj_all) hnt
  refine ⟨C, vs.toArray, ((C, { cls := .type "list", data := .seq vs.toArray nn }) :: (y, instObj 528 e) :: (e, dictOf [⟨PyData.keyHash w.params (Str.ofString "parent"), .str (Str.ofString "parent") ta, .ref x⟩, ⟨PyData.keyHash w.params (Str.ofString "coeffs"), .str (Str.ofString "coeffs") tb, .ref C⟩] 2) :: ringLed w.params D x d a b t1 t2 t3 t4 t5 t6 t7 t8 t9 ys [(c3, o3), (c2, o2), (c1, o1)]) ++ [(93, tabObj pb)], pa, fun i v => v = .bool ((ns).getD i 0 == 0), rfl, (by is_list), Fi, cb_drop Ni (by kcj_all), ht, (by assumption), ?hnP, ?elt, ?fin⟩
  case hnP =>
    intro p hp
    rcases List.mem_append.mp hp with hp | hp
    · exact hn1 p hp
    · rw [List.mem_singleton.mp hp]; show (93 : Nat) ≠ 86; decide
  case elt =>
    intro code Cc A' E' i v t m₂ hh hdp hun hi F2 hm hLC N2
    obtain ⟨tv, rfl⟩ := IntsAre.int_at (by first | exact Is | exact I) i v (by simpa using hi)
    w_strict (iterate 1 (first | (k_unfold; (try dsimp only)) | walk1 | (dsimp only; walk1) | (leave1; (try dsimp only))))
    refine ldG F2.ns hm ?_
    w_strict (iterate 2 (first | (k_unfold; (try dsimp only)) | walk1 | (dsimp only; walk1) | (leave1; (try dsimp only))))
    exact ⟨rfl, t.heap, _, rfl, fun _ _ e => e⟩
  case fin =>
    intro ag K s5 ps5 F5 N5 ht5 G5 ho5 hLK hK5 X5
    w_strict (iterate 1 (first | (k_unfold; (try dsimp only)) | walk1 | (dsimp only; walk1) | (leave1; (try dsimp only))))
    refine all_led F5 N5 G5 X5 hLK hK5 (fun i v _ h => h) fun s6 F6 N6 G6 ho6 => ?_
    w_strict walk
    rename Fr _ _ _ _ => Fe
    rename News _ _ _ _ => Ne
    have e1 : vs.toArray.size = (ns).length := by rw [List.size_toArray]; exact IntsAre.length (by first | exact Is | exact I)
    rw [e1, show (List.range (ns).length).all (fun i => (ns).getD i 0 == 0) = (ns).all (· == 0) from all_getD (ns) (· == 0)]
    exact ret s6 ps5 Fe (cb_drop Ne (by kcj_all)) ht5 G6 (ho6.trans ho5)
theorem is_const {pv : Program} {w : World} {loose : List Str} {mean : ExcName → Option Value} {mg mb : Str → Option Value} {dp un : Nat} {gd : Option (List Code)} {cn : Str} {cs : Scope} {a0 : Addr} {ccd : Value} {cl : List (Str × Addr)} {outer : List Env} {A₀ : Around} {base h₀ : Heap} {L : Addr} {m : Str → Option Value} {s : Shared}
    {Q E : Value → Shared → Prop} {D x d a b c1 c2 c3 : Addr} {t1 t2 t3 t4 t5 t6 t7 t8 t9 : Tok} {y e C : Addr} {ta tb : Tok} {pa pb : Array Value} {ys vs : List Value} {ns : List Int} {nn : Nat} {o1 o2 o3 : Obj}
    (B : Below A₀ base outer h₀) (F : Fr h₀ L s.heap m) (X : (hd.heap_39 w.params).In h₀) (T : Top pv loose mean mg mb h₀) (hk : cs.kind = .function)
    (N : News h₀ L s.heap ((C, { cls := .type "list", data := .seq vs.toArray nn }) :: (y, instObj 528 e) :: (e, dictOf [⟨PyData.keyHash w.params (Str.ofString "parent"), .str (Str.ofString "parent") ta, .ref x⟩, ⟨PyData.keyHash w.params (Str.ofString "coeffs"), .str (Str.ofString "coeffs") tb, .ref C⟩] 2) :: ringLed w.params D x d a b t1 t2 t3 t4 t5 t6 t7 t8 t9 ys [(c3, o3), (c2, o2), (c1, o1), (86, tabObj pa), (93, tabObj pb)])) (I : IntsAre vs ns) (hlen : ns.length = 256) (hd : dp + 5 < recursionLimit)
    (hc3 : ∀ ps, o3 ≠ tabObj ps) (hc2 : ∀ ps, o2 ≠ tabObj ps) (hc1 : ∀ ps, o1 ≠ tabObj ps)
    (CD : CodeHd h₀ 97 93) (hG : AllBare s.gens) (ht : TriplesOk pb.toList)
    (p1 : @LT.lt Nat _ e y) (p2 : @Ne Nat C y) (p3 : @Ne Nat C e)
    (n2 : @LT.lt Nat _ d x) (n3 : @Ne Nat D x) (n4 : @Ne Nat D d) (n5 : @Ne Nat c3 D ∧ @Ne Nat c2 D ∧ @Ne Nat c1 D) (n6 : @LT.lt Nat _ c3 d ∧ @LT.lt Nat _ c2 d ∧ @LT.lt Nat _ c1 d)
    (ret : ∀ (s' : Shared) (pc : Array Value), Fr h₀ L s'.heap m → News h₀ L s'.heap ((C, { cls := .type "list", data := .seq vs.toArray nn }) :: (y, instObj 528 e) :: (e, dictOf [⟨PyData.keyHash w.params (Str.ofString "parent"), .str (Str.ofString "parent") ta, .ref x⟩, ⟨PyData.keyHash w.params (Str.ofString "coeffs"), .str (Str.ofString "coeffs") tb, .ref C⟩] 2) :: ringLed w.params D x d a b t1 t2 t3 t4 t5 t6 t7 t8 t9 ys [(c3, o3), (c2, o2), (c1, o1), (86, tabObj pa), (93, tabObj pc)]) → TriplesOk pc.toList → AllBare s'.gens → s'.os = s.os → Q (.bool ((ns.drop 1).all (· == 0))) s') :
    wpAny (model PySem.Challenge.rw_ix0026_02.row.prog w) (ktrTop dp un gd cn cs L a0 ccd cl outer) (call (.ref 98) [.ref y]) Q E s := by
  dsimp only [ringLed] at N
  w_strict walk
  (try dsimp only)
  rename Fr h₀ _ _ _ => FG
  rename Top _ _ _ _ _ _ => T1
  rename Fr _ _ _ _ => Fi
  refine gen_led Fi T1 (CD.keeps FG.keep) rfl rfl rfl rfl (cl := []) (by rfl) (by decide) (by decide) (by decide) rfl ?room ?src (fun _ => rfl)
  case room => ktr_room
  w_strict walk
  rename Fr _ _ _ _ => Fi
  rename News _ _ _ _ => Ni
  rename IntsAre _ (List.drop 1 ns) => Is
  rename List Value => wsx
  have hnt : NotTabs ((C, { cls := .type "list", data := .seq vs.toArray nn }) :: (y, instObj 528 e) :: (e, dictOf [⟨PyData.keyHash w.params (Str.ofString "parent"), .str (Str.ofString "parent") ta, .ref x⟩, ⟨PyData.keyHash w.params (Str.ofString "coeffs"), .str (Str.ofString "coeffs") tb, .ref C⟩] 2) :: ringLed w.params D x d a b t1 t2 t3 t4 t5 t6 t7 t8 t9 ys [(c3, o3), (c2, o2), (c1, o1)]) := by
    refine ⟨?_, ?_, ?_, ?_, ?_, ?_, hc3, hc2, hc1, trivial⟩ <;> (intro ps h; cases h)
  have hn1 := ne_tabs Ni (P := 93) (ps := pb) (by k_mem) _ (by kcj_all) hnt
  refine ⟨_, wsx.toArray, ((C, { cls := .type "list", data := .seq vs.toArray nn }) :: (y, instObj 528 e) :: (e, dictOf [⟨PyData.keyHash w.params (Str.ofString "parent"), .str (Str.ofString "parent") ta, .ref x⟩, ⟨PyData.keyHash w.params (Str.ofString "coeffs"), .str (Str.ofString "coeffs") tb, .ref C⟩] 2) :: ringLed w.params D x d a b t1 t2 t3 t4 t5 t6 t7 t8 t9 ys [(c3, o3), (c2, o2), (c1, o1)]) ++ [(86, tabObj pa)], pb, fun i v => v = .bool (((ns.drop 1)).getD i 0 == 0), rfl, (by is_list), Fi, cb_drop Ni (by kcj_all), ht, (by assumption), ?hnP, ?elt, ?fin⟩
  case hnP =>
    intro p hp
    rcases List.mem_append.mp hp with hp | hp
    · exact hn1 p hp
    · rw [List.mem_singleton.mp hp]; show (86 : Nat) ≠ 93; decide
  case elt =>
    intro code Cc A' E' i v t m₂ hh hdp hun hi F2 hm hLC N2
    obtain ⟨tv, rfl⟩ := IntsAre.int_at (by first | exact Is | exact I) i v (by simpa using hi)
    w_strict (iterate 1 (first | (k_unfold; (try dsimp only)) | walk1 | (dsimp only; walk1) | (leave1; (try dsimp only))))
    refine ldG F2.ns hm ?_
    w_strict (iterate 2 (first | (k_unfold; (try dsimp only)) | walk1 | (dsimp only; walk1) | (leave1; (try dsimp only))))
    exact ⟨rfl, t.heap, _, rfl, fun _ _ e => e⟩
  case fin =>
    intro ag K s5 ps5 F5 N5 ht5 G5 ho5 hLK hK5 X5
    w_strict (iterate 1 (first | (k_unfold; (try dsimp only)) | walk1 | (dsimp only; walk1) | (leave1; (try dsimp only))))
    refine all_led F5 N5 G5 X5 hLK hK5 (fun i v _ h => h) fun s6 F6 N6 G6 ho6 => ?_
    w_strict walk
    rename Fr _ _ _ _ => Fe
    rename News _ _ _ _ => Ne
    have e1 : wsx.toArray.size = ((ns.drop 1)).length := by rw [List.size_toArray]; exact IntsAre.length (by first | exact Is | exact I)
    rw [e1, show (List.range ((ns.drop 1)).length).all (fun i => ((ns.drop 1)).getD i 0 == 0) = ((ns.drop 1)).all (· == 0) from all_getD ((ns.drop 1)) (· == 0)]
    exact ret s6 ps5 Fe (cb_drop Ne (by kcj_all)) ht5 G6 (ho6.trans ho5)
end Mine
end
noncomputable section
open PySem PySem.W PyProof.Rows PySem.Spec PySem.Calls
set_option Elab.async false
set_option maxRecDepth 100000
set_option maxHeartbeats 4000000
local macro_rules | `(tactic| k_room) => `(tactic| ktr_room)
local macro_rules | `(tactic| k_enter) => `(tactic| first
  | (refine' code_def ?k1 ?k2 ?k3 ?k4 ?k5 ?kA ?kF ?kK ?k6 ?k7 ?k8 ?k9 ?kB ?_ ?c2 ?c3 ?c4 ?c5; (case kA => exact rfl); (case kF => exact rfl); (case kK => first | exact rfl | assumption); (case k1 => k_asm); (case k2 => k_asm); (case k3 => k_asm); (case k4 => k_asm); (case k5 => k_asm); (case k6 => k_is); (case k7 => k_is); (case k8 => ktr_room); (case k9 => first | exact BindsTo.of_eq rfl | exact binds_K (by k_in) rfl (by k_is) rfl rfl rfl | fail "k_enter: no rule for these arguments"); (case c5 => decide); (case kB => exact locs rfl); (case c2 => exact rfl); (case c3 => exact rfl); (case c4 => exact rfl); k_whole; intro g' L' h' FG' F' N' B' X' T'; (try dsimp only); (try k_lift B'); (try k_fold))
  | (refine' code_defC ?k1 ?k2 ?k3 ?k4 ?k5 ?kA ?kF ?kK ?k6 ?k7 ?k8 ?k9 ?kB ?kD ?_ ?c2 ?c3 ?c4; (case kA => exact rfl); (case kF => exact rfl); (case kK => first | exact rfl | assumption); (case k1 => k_asm); (case k2 => k_asm); (case k3 => k_asm); (case k4 => k_asm); (case k5 => k_asm); (case k6 => k_is); (case k7 => k_is); (case k8 => ktr_room); (case k9 => first | exact BindsTo.of_eq rfl | exact binds_K (by k_in) rfl (by k_is) rfl rfl rfl | fail "k_enter: no rule for these arguments"); (case kB => exact rfl); (case kD => decide +kernel); (case c2 => exact rfl); (case c3 => exact rfl); (case c4 => exact rfl); k_whole; intro g' L' h' tk' cells' FG' F' N' Y' B' X' T' l1; (try k_lt l1); k_cells Y'; (try simp only [List.cons_append, List.nil_append] at N'); (try dsimp only); (try k_lift B'); (try k_fold)))
local macro_rules | `(tactic| walk_at "getMethod ref") => `(tactic| (k_here; (with_reducible show wpAny _ _ (getMethod (Value.ref _) (PySem.Str.ofString "br") _) _ _ _); k_dflt (
  refine' kmu_sm ?k1 ?k2 ?k4 ?k5 ?k6 ?k7 ?k8 ?k9 ?k10 ?k11 ?k12 ?k13 ?k14 ?_; (case k1 => k_asm); (case k2 => k_asm); (case k4 => k_inst); (case k5 => k_is); (case k6 => k_is); (case k7 => k_is); (case k8 => k_is); (case k9 => k_is); (case k10 => k_is); (case k11 => decide +kernel); (case k12 => k_get); (case k13 => k_is); (case k14 => k_handed); k_whole)))
local macro_rules | `(tactic| walk_at "call ref") => `(tactic| (k_here; k_dflt (refine' Mine.br_call ?k1 ?k2 ?k3 ?k4 ?k5 ?kK ?k6 ?k7 ?kd ?_; (case k1 => k_asm); (case k2 => k_asm); (case k3 => k_asm); (case k4 => k_asm); (case k5 => k_asm); (case kK => first | exact rfl | assumption); (case k6 => first | decide | omega | l_fact); (case k7 => first | decide | omega | l_fact); (case kd => ktr_room)); intro t9 h9 tk9 F9 N9; (try dsimp only)))
local macro_rules | `(tactic| walk_at "call builtin:pow") => `(tactic| (k_dflt (refine Mine.call_pw (by first | decide | exact Mine.rev_nonneg _ _ | omega) ?_); (try dsimp only)))
local macro_rules | `(tactic| walk_at "call builtin:pow") => `(tactic| (k_dflt (refine Mine.call_inv256 ?_); (try dsimp only)))
local macro_rules | `(tactic| k_steps) => `(tactic| repeat' (first | (k_unfold; (try dsimp only)) | walk1 | (dsimp only; walk1) | fail "no step"))
local macro_rules | `(tactic| walk_at "MidL") => `(tactic| (k_dflt (refine' Mine.MidL.done ?k1 ?k2 ?k3 ?k4 ?k5 ?k6; (case k1 => assumption); (case k2 => assumption); (case k3 => kcj_all); (case k4 => l_ints); (case k5 => ((try simp only [List.length_take, List.length_append, List.length_cons, List.length_nil, List.length_map]); first | omega | assumption)); (case k6 => ((simp only [Mine.AllNe, and_true]); omega)))))
local macro_rules | `(tactic| walk_at "subscriptTail BinOp") => `(tactic| (k_here; (with_reducible show wpAny _ _ (subscriptTail _ (PySem.Expr.Slice _ _ none _) (Value.ref _) (Value.ref _)) _ _ _); k_dflt (refine' Mine.cut_temp ?F ?N ?l ?p ?q ?m ?_ ?s ?z; (case F => k_asm); (case N => k_asm); (case l => kmk_list); (case p => kmk_part); (case q => kmk_part); (case m => kmk_nums); (case s => with_unfolding_all rfl); (case z => kmk_size)); intro D' ws' h' F' N' l1 hI'; (try simp only [Int.reduceNeg, Int.neg_neg, Int.reduceToNat] at hI'); (try k_lt l1); (try k_sweep)))
local macro_rules | `(tactic| walk_at "call ref") => `(tactic| (k_here; k_dflt (refine' Mine.turned_call ?k1 ?k2 ?k3 ?k4 ?k5 ?kK ?k6 ?k7 ?kd ?_; (case k1 => k_asm); (case k2 => k_asm); (case k3 => k_asm); (case k4 => k_asm); (case k5 => k_asm); (case kK => first | exact rfl | assumption); (case k6 => first | decide | omega | l_fact); (case k7 => first | decide | omega | l_fact); (case kd => ktr_room)); intro t9 h9 tk9 F9 N9; (try dsimp only)))
local macro_rules | `(tactic| walk) => `(tactic| ((try dsimp only); repeat (first | (k_unfold; (try dsimp only)) | ((fail_if_success (with_reducible refine ite_neg ?_ ?_)); (fail_if_success (with_reducible show UnrPost _ _ _ _ _ _ _ _ _)); walk1) | ((fail_if_success (with_reducible refine ite_neg ?_ ?_)); (fail_if_success (with_reducible show UnrPost _ _ _ _ _ _ _ _ _)); dsimp only; walk1))))
local macro_rules | `(tactic| k_units) => `(tactic| ktr_units)
local macro_rules | `(tactic| walk_at "call ref") => `(tactic| (k_here; k_dflt (refine' Mine.poly_new ?k1 ?k2 ?k3 ?k5 ?kK ?k4 ?kI ?kl ?kd ?h1 ?h2 ?h3 ?h4 ?h5 ?h6 ?_; (case k1 => k_asm); (case k2 => k_asm); (case k3 => k_asm); (case k4 => k_asm); (case k5 => k_asm); (case kK => first | exact rfl | assumption); (case kI => l_ints); (case kl => (first | assumption | (simp only [List.length_cons, List.length_nil]; omega))); (case kd => ktr_room); (case h1 => (first | assumption | omega | (refine ⟨?_, ?_, ?_, ?_, ?_, ?_⟩ <;> first | exact neN (by omega) | assumption) | exact neN (by omega))); (case h2 => (first | assumption | omega | (refine ⟨?_, ?_, ?_, ?_, ?_, ?_⟩ <;> first | exact neN (by omega) | assumption) | exact neN (by omega))); (case h3 => (first | assumption | omega | (refine ⟨?_, ?_, ?_, ?_, ?_, ?_⟩ <;> first | exact neN (by omega) | assumption) | exact neN (by omega))); (case h4 => (first | assumption | omega | (refine ⟨?_, ?_, ?_, ?_, ?_, ?_⟩ <;> first | exact neN (by omega) | assumption) | exact neN (by omega))); (case h5 => (first | assumption | omega | (refine ⟨?_, ?_, ?_, ?_, ?_, ?_⟩ <;> first | exact neN (by omega) | assumption) | exact neN (by omega))); (case h6 => (first | assumption | omega | (refine ⟨?_, ?_, ?_, ?_, ?_, ?_⟩ <;> first | exact neN (by omega) | assumption) | exact neN (by omega)))); intro y9 d9 C9 ta9 tb9 ws9 nc9 h9 tk9 F9 N9 I9 o1 o2 o3; (try dsimp only)))
local macro_rules | `(tactic| walk_at "call ref") => `(tactic| ((try dsimp only); k_here; (with_reducible show wpAny _ _ (call (Value.ref 98) _) _ _ _); k_dflt (refine' Mine.is_const ?k1 ?k2 ?k3 ?k5 ?kK ?k4 ?kI ?kl ?kd ?hc3 ?hc2 ?hc1 ?cd ?g ?t ?h1 ?h2 ?h3 ?h5 ?h6 ?h7 ?h8 ?h9 ?_; (case k1 => k_asm); (case k2 => k_asm); (case k3 => k_asm); (case k4 => k_asm); (case k5 => k_asm); (case kK => first | exact rfl | assumption); (case kI => l_ints); (case kl => assumption); (case kd => ktr_room); (case hc3 => assumption); (case hc2 => assumption); (case hc1 => assumption); (case cd => (first | assumption | (refine CodeHd.keeps (by assumption) (Fr.keep (by assumption))))); (case g => assumption); (case t => assumption); (case h1 => (first | assumption | omega | (refine ⟨?_, ?_, ?_, ?_, ?_, ?_⟩ <;> first | exact neN (by omega) | assumption) | exact neN (by omega))); (case h2 => (first | assumption | omega | (refine ⟨?_, ?_, ?_, ?_, ?_, ?_⟩ <;> first | exact neN (by omega) | assumption) | exact neN (by omega))); (case h3 => (first | assumption | omega | (refine ⟨?_, ?_, ?_, ?_, ?_, ?_⟩ <;> first | exact neN (by omega) | assumption) | exact neN (by omega))); (case h5 => (first | assumption | omega | (refine ⟨?_, ?_, ?_, ?_, ?_, ?_⟩ <;> first | exact neN (by omega) | assumption) | exact neN (by omega))); (case h6 => (first | assumption | omega | (refine ⟨?_, ?_, ?_, ?_, ?_, ?_⟩ <;> first | exact neN (by omega) | assumption) | exact neN (by omega))); (case h7 => (first | assumption | omega | (refine ⟨?_, ?_, ?_, ?_, ?_, ?_⟩ <;> first | exact neN (by omega) | assumption) | exact neN (by omega))); (case h8 => (first | assumption | omega | (refine ⟨?_, ?_, ?_, ?_, ?_, ?_⟩ <;> first | exact neN (by omega) | assumption) | exact neN (by omega))); (case h9 => (first | assumption | omega | (refine ⟨?_, ?_, ?_, ?_, ?_, ?_⟩ <;> first | exact neN (by omega) | assumption) | exact neN (by omega)))); intro s9 pc9 F9 N9 ht9 G9 ho9; (try dsimp only)))
namespace Mine
theorem poly_eq {pv : Program} {w : World} {loose : List Str} {mean : ExcName → Option Value} {mg mb : Str → Option Value} {dp un : Nat} {gd : Option (List Code)} {cn : Str} {cs : Scope} {a0 : Addr} {ccd : Value} {cl : List (Str × Addr)} {outer : List Env} {A₀ : Around} {base h₀ : Heap} {L : Addr} {m : Str → Option Value} {s : Shared}
    {Q E : Value → Shared → Prop} {D x d a b c1 c2 c3 : Addr} {t1 t2 t3 t4 t5 t6 t7 t8 t9 : Tok} {y e C : Addr} {ta tb : Tok} {pa pb : Array Value} {ys vs : List Value} {ns : List Int} {nn : Nat} {o1 o2 o3 : Obj}
    (B : Below A₀ base outer h₀) (F : Fr h₀ L s.heap m) (X : (hd.heap_39 w.params).In h₀) (T : Top pv loose mean mg mb h₀) (hk : cs.kind = .function)
    (N : News h₀ L s.heap ((C, { cls := .type "list", data := .seq vs.toArray nn }) :: (y, instObj 528 e) :: (e, dictOf [⟨PyData.keyHash w.params (Str.ofString "parent"), .str (Str.ofString "parent") ta, .ref x⟩, ⟨PyData.keyHash w.params (Str.ofString "coeffs"), .str (Str.ofString "coeffs") tb, .ref C⟩] 2) :: ringLed w.params D x d a b t1 t2 t3 t4 t5 t6 t7 t8 t9 ys [(c3, o3), (c2, o2), (c1, o1), (86, tabObj pa), (93, tabObj pb)])) (I : IntsAre vs ns) (hlen : ns.length = 256) (hd : dp + 5 < recursionLimit)
    (hc3 : ∀ ps, o3 ≠ tabObj ps) (hc2 : ∀ ps, o2 ≠ tabObj ps) (hc1 : ∀ ps, o1 ≠ tabObj ps)
    (hun : un + 10 < cLine) (hd2 : dp + 10 < recursionLimit) (CD : CodeHd h₀ 97 93) (hG : AllBare s.gens) (ht : TriplesOk pb.toList) {n : Int} {tn : Tok}
    (p1 : @LT.lt Nat _ e y) (p2 : @Ne Nat C y) (p3 : @Ne Nat C e)
    (n2 : @LT.lt Nat _ d x) (n3 : @Ne Nat D x) (n4 : @Ne Nat D d) (n5 : @Ne Nat c3 D ∧ @Ne Nat c2 D ∧ @Ne Nat c1 D) (n6 : @LT.lt Nat _ c3 d ∧ @LT.lt Nat _ c2 d ∧ @LT.lt Nat _ c1 d)
    (ret : ∀ (s' : Shared) (pc : Array Value), Fr h₀ L s'.heap m → News h₀ L s'.heap ((C, { cls := .type "list", data := .seq vs.toArray nn }) :: (y, instObj 528 e) :: (e, dictOf [⟨PyData.keyHash w.params (Str.ofString "parent"), .str (Str.ofString "parent") ta, .ref x⟩, ⟨PyData.keyHash w.params (Str.ofString "coeffs"), .str (Str.ofString "coeffs") tb, .ref C⟩] 2) :: ringLed w.params D x d a b t1 t2 t3 t4 t5 t6 t7 t8 t9 ys [(c3, o3), (c2, o2), (c1, o1), (86, tabObj pa), (93, tabObj pc)]) → TriplesOk pc.toList → AllBare s'.gens → s'.os = s.os → Q (.bool ((ns.drop 1).all (· == 0) && (n.fmod 8380417 == ns.getD 0 0))) s') :
    wpAny (model PySem.Challenge.rw_ix0026_02.row.prog w) (ktrTop dp un gd cn cs L a0 ccd cl outer) (compareOp .Eq (.ref y) (.int n tn)) Q E s := by
  dsimp only [ringLed] at N
  w_strict walk
  refine ite_neg (by decide) ?_
  (try dsimp only)
  w_strict walk
  refine ite_pos (by decide) ?_
  w_strict walk
  by_cases hb : ((List.drop 1 ns).all (· == 0)) = true
  · refine ite_pos hb ?_
    w_strict walk
    by_cases hc : (n.fmod 8380417 == ns.getD 0 0) = true
    · refine ite_pos hc ?_
      w_strict ((walk; repeat ((first | refine ite_neg (by decide) ?_ | refine ite_pos (by decide) ?_); (try dsimp only); walk)))
      rename Fr _ _ _ _ => Fe
      rename News _ _ _ _ => Ne
      have hr := ret _ _ Fe (cb_drop Ne (by kcj_all)) (by assumption) (by assumption) (by assumption)
      rw [hb, hc] at hr
      exact hr
    · refine ite_neg hc ?_
      w_strict ((walk; repeat ((first | refine ite_neg (by decide) ?_ | refine ite_pos (by decide) ?_); (try dsimp only); walk)))
      rename Fr _ _ _ _ => Fe
      rename News _ _ _ _ => Ne
      have hr := ret _ _ Fe (cb_drop Ne (by kcj_all)) (by assumption) (by assumption) (by assumption)
      rw [Bool.eq_false_iff.mpr hc, Bool.and_false] at hr
      exact hr
  · refine ite_neg hb ?_
    w_strict ((walk; repeat ((first | refine ite_neg (by decide) ?_ | refine ite_pos (by decide) ?_); (try dsimp only); walk)))
    rename Fr _ _ _ _ => Fe
    rename News _ _ _ _ => Ne
    have hr := ret _ _ Fe (cb_drop Ne (by kcj_all)) (by assumption) (by assumption) (by assumption)
    rw [Bool.eq_false_iff.mpr hb, Bool.false_and] at hr
    exact hr
end Mine
end
noncomputable section
open PySem PySem.W PyProof.Rows PySem.Spec PySem.Calls
set_option Elab.async false
set_option maxRecDepth 100000
set_option maxHeartbeats 4000000
local macro_rules | `(tactic| k_room) => `(tactic| ktr_room)
local macro_rules | `(tactic| k_enter) => `(tactic| first
  | (refine' code_def ?k1 ?k2 ?k3 ?k4 ?k5 ?kA ?kF ?kK ?k6 ?k7 ?k8 ?k9 ?kB ?_ ?c2 ?c3 ?c4 ?c5; (case kA => exact rfl); (case kF => exact rfl); (case kK => first | exact rfl | assumption); (case k1 => k_asm); (case k2 => k_asm); (case k3 => k_asm); (case k4 => k_asm); (case k5 => k_asm); (case k6 => k_is); (case k7 => k_is); (case k8 => ktr_room); (case k9 => first | exact BindsTo.of_eq rfl | exact binds_K (by k_in) rfl (by k_is) rfl rfl rfl | fail "k_enter: no rule for these arguments"); (case c5 => decide); (case kB => exact locs rfl); (case c2 => exact rfl); (case c3 => exact rfl); (case c4 => exact rfl); k_whole; intro g' L' h' FG' F' N' B' X' T'; (try dsimp only); (try k_lift B'); (try k_fold))
  | (refine' code_defC ?k1 ?k2 ?k3 ?k4 ?k5 ?kA ?kF ?kK ?k6 ?k7 ?k8 ?k9 ?kB ?kD ?_ ?c2 ?c3 ?c4; (case kA => exact rfl); (case kF => exact rfl); (case kK => first | exact rfl | assumption); (case k1 => k_asm); (case k2 => k_asm); (case k3 => k_asm); (case k4 => k_asm); (case k5 => k_asm); (case k6 => k_is); (case k7 => k_is); (case k8 => ktr_room); (case k9 => first | exact BindsTo.of_eq rfl | exact binds_K (by k_in) rfl (by k_is) rfl rfl rfl | fail "k_enter: no rule for these arguments"); (case kB => exact rfl); (case kD => decide +kernel); (case c2 => exact rfl); (case c3 => exact rfl); (case c4 => exact rfl); k_whole; intro g' L' h' tk' cells' FG' F' N' Y' B' X' T' l1; (try k_lt l1); k_cells Y'; (try simp only [List.cons_append, List.nil_append] at N'); (try dsimp only); (try k_lift B'); (try k_fold)))
local macro_rules | `(tactic| walk_at "getMethod ref") => `(tactic| (k_here; (with_reducible show wpAny _ _ (getMethod (Value.ref _) (PySem.Str.ofString "br") _) _ _ _); k_dflt (
  refine' kmu_sm ?k1 ?k2 ?k4 ?k5 ?k6 ?k7 ?k8 ?k9 ?k10 ?k11 ?k12 ?k13 ?k14 ?_; (case k1 => k_asm); (case k2 => k_asm); (case k4 => k_inst); (case k5 => k_is); (case k6 => k_is); (case k7 => k_is); (case k8 => k_is); (case k9 => k_is); (case k10 => k_is); (case k11 => decide +kernel); (case k12 => k_get); (case k13 => k_is); (case k14 => k_handed); k_whole)))
local macro_rules | `(tactic| walk_at "call ref") => `(tactic| (k_here; k_dflt (refine' Mine.br_call ?k1 ?k2 ?k3 ?k4 ?k5 ?kK ?k6 ?k7 ?kd ?_; (case k1 => k_asm); (case k2 => k_asm); (case k3 => k_asm); (case k4 => k_asm); (case k5 => k_asm); (case kK => first | exact rfl | assumption); (case k6 => first | decide | omega | l_fact); (case k7 => first | decide | omega | l_fact); (case kd => ktr_room)); intro t9 h9 tk9 F9 N9; (try dsimp only)))
local macro_rules | `(tactic| walk_at "call builtin:pow") => `(tactic| (k_dflt (refine Mine.call_pw (by first | decide | exact Mine.rev_nonneg _ _ | omega) ?_); (try dsimp only)))
local macro_rules | `(tactic| walk_at "call builtin:pow") => `(tactic| (k_dflt (refine Mine.call_inv256 ?_); (try dsimp only)))
local macro_rules | `(tactic| k_steps) => `(tactic| repeat' (first | (k_unfold; (try dsimp only)) | walk1 | (dsimp only; walk1) | fail "no step"))
local macro_rules | `(tactic| walk_at "MidL") => `(tactic| (k_dflt (refine' Mine.MidL.done ?k1 ?k2 ?k3 ?k4 ?k5 ?k6; (case k1 => assumption); (case k2 => assumption); (case k3 => kcj_all); (case k4 => l_ints); (case k5 => ((try simp only [List.length_take, List.length_append, List.length_cons, List.length_nil, List.length_map]); first | omega | assumption)); (case k6 => ((simp only [Mine.AllNe, and_true]); omega)))))
local macro_rules | `(tactic| walk_at "subscriptTail BinOp") => `(tactic| (k_here; (with_reducible show wpAny _ _ (subscriptTail _ (PySem.Expr.Slice _ _ none _) (Value.ref _) (Value.ref _)) _ _ _); k_dflt (refine' Mine.cut_temp ?F ?N ?l ?p ?q ?m ?_ ?s ?z; (case F => k_asm); (case N => k_asm); (case l => kmk_list); (case p => kmk_part); (case q => kmk_part); (case m => kmk_nums); (case s => with_unfolding_all rfl); (case z => kmk_size)); intro D' ws' h' F' N' l1 hI'; (try simp only [Int.reduceNeg, Int.neg_neg, Int.reduceToNat] at hI'); (try k_lt l1); (try k_sweep)))
local macro_rules | `(tactic| walk_at "call ref") => `(tactic| (k_here; k_dflt (refine' Mine.turned_call ?k1 ?k2 ?k3 ?k4 ?k5 ?kK ?k6 ?k7 ?kd ?_; (case k1 => k_asm); (case k2 => k_asm); (case k3 => k_asm); (case k4 => k_asm); (case k5 => k_asm); (case kK => first | exact rfl | assumption); (case k6 => first | decide | omega | l_fact); (case k7 => first | decide | omega | l_fact); (case kd => ktr_room)); intro t9 h9 tk9 F9 N9; (try dsimp only)))
local macro_rules | `(tactic| walk) => `(tactic| ((try dsimp only); repeat (first | (k_unfold; (try dsimp only)) | ((fail_if_success (with_reducible refine ite_neg ?_ ?_)); (fail_if_success (with_reducible show UnrPost _ _ _ _ _ _ _ _ _)); walk1) | ((fail_if_success (with_reducible refine ite_neg ?_ ?_)); (fail_if_success (with_reducible show UnrPost _ _ _ _ _ _ _ _ _)); dsimp only; walk1))))
local macro_rules | `(tactic| k_units) => `(tactic| ktr_units)
local macro_rules | `(tactic| walk_at "call ref") => `(tactic| (k_here; k_dflt (refine' Mine.poly_new ?k1 ?k2 ?k3 ?k5 ?kK ?k4 ?kI ?kl ?kd ?h1 ?h2 ?h3 ?h4 ?h5 ?h6 ?_; (case k1 => k_asm); (case k2 => k_asm); (case k3 => k_asm); (case k4 => k_asm); (case k5 => k_asm); (case kK => first | exact rfl | assumption); (case kI => l_ints); (case kl => (first | assumption | (simp only [List.length_cons, List.length_nil]; omega))); (case kd => ktr_room); (case h1 => (first | assumption | omega | (refine ⟨?_, ?_, ?_, ?_, ?_, ?_⟩ <;> first | exact neN (by omega) | assumption) | exact neN (by omega))); (case h2 => (first | assumption | omega | (refine ⟨?_, ?_, ?_, ?_, ?_, ?_⟩ <;> first | exact neN (by omega) | assumption) | exact neN (by omega))); (case h3 => (first | assumption | omega | (refine ⟨?_, ?_, ?_, ?_, ?_, ?_⟩ <;> first | exact neN (by omega) | assumption) | exact neN (by omega))); (case h4 => (first | assumption | omega | (refine ⟨?_, ?_, ?_, ?_, ?_, ?_⟩ <;> first | exact neN (by omega) | assumption) | exact neN (by omega))); (case h5 => (first | assumption | omega | (refine ⟨?_, ?_, ?_, ?_, ?_, ?_⟩ <;> first | exact neN (by omega) | assumption) | exact neN (by omega))); (case h6 => (first | assumption | omega | (refine ⟨?_, ?_, ?_, ?_, ?_, ?_⟩ <;> first | exact neN (by omega) | assumption) | exact neN (by omega)))); intro y9 d9 C9 ta9 tb9 ws9 nc9 h9 tk9 F9 N9 I9 o1 o2 o3; (try dsimp only)))
namespace Mine
theorem err_str {pv : Program} {w : World} {loose : List Str} {mean : ExcName → Option Value} {mg mb : Str → Option Value} {dp un : Nat} {gd : Option (List Code)} {cn : Str} {nm : List (Str × NameKind)} {ig ic : Bool} {a0 : Addr} {ccd : Value} {outer : List Env} {A₀ : Around} {base h₀ : Heap} {L : Addr} {m : Str → Option Value} {s : Shared}
    {Q E : Value → Shared → Prop} {l D x d a b c1 c2 c3 q1 q2 : Addr} {t1 t2 t3 t4 t5 t6 t7 t8 t9 : Tok} {ys vs : List Value} {ns : List Int} {nn : Nat} {o1 o2 o3 o4 o5 : Obj}
    (B : Below A₀ base outer h₀) (F : Fr h₀ L s.heap m) (X : (hd.heap_39 w.params).In h₀) (T : Top pv loose mean mg mb h₀)
    {tn : Tok}
    (N : News h₀ L s.heap (ringLed w.params D x d a b t1 t2 t3 t4 t5 t6 t7 t8 t9 ys [(c3, o3), (c2, o2), (c1, o1), (q1, o4), (q2, o5)])) (hdp : dp + 12 < recursionLimit) (hun : un + 12 < cLine) (XB : (hd.heap_39 w.params).In base) (TB : Top pv loose mean mg mb base) (D0 : KtsDicts (outer.filterMap (·.frame)) h₀)
    (n2 : @LT.lt Nat _ d x) (n3 : @Ne Nat D x) (n4 : @Ne Nat D d) (n5 : @Ne Nat c3 D ∧ @Ne Nat c2 D ∧ @Ne Nat c1 D) (n6 : @LT.lt Nat _ c3 d ∧ @LT.lt Nat _ c2 d ∧ @LT.lt Nat _ c1 d)
    (ret : ∀ (g' : Heap) (t : Tok) (h' : Heap) (tk' : Nat), Below A₀ base outer g' → (hd.heap_39 w.params).In g' → Top pv loose mean mg mb g' → KtsDicts (outer.filterMap (·.frame)) g' → KtsTurn (outer.filterMap (·.frame)) h₀ g' → Fr g' L h' m → News g' L h' (ringLed w.params D x d a b t1 t2 t3 t4 t5 t6 t7 t8 t9 ys [(c3, o3), (c2, o2), (c1, o1), (q1, o4), (q2, o5)]) → Q (.str (Str.ofString "type") t) { s with heap := h', toks := tk' }) :
    wpAny (model PySem.Challenge.rw_ix0026_02.row.prog w) (ktrTop dp un gd cn ({ kind := .function, names := nm, isGenerator := ig, isCoroutine := ic } : Scope) L a0 ccd [] outer) (call (.ref 615) [.ref x, .str (Str.ofString "1") tn]) Q E s := by
  dsimp only [ringLed] at N
  refine wpAny_call ?_
  kts_go
  w_strict ((walk; repeat ((first | refine ite_neg (by decide) ?_ | refine ite_pos (by decide) ?_); (try dsimp only); walk)))
  rename News _ _ _ _ => Ne
  exact ret _ _ _ _ (by assumption) (by assumption) (by assumption) (by assumption) (by assumption) (by assumption) (cb_drop Ne (by kcj_all))
theorem err_257 {pv : Program} {w : World} {loose : List Str} {mean : ExcName → Option Value} {mg mb : Str → Option Value} {dp un : Nat} {gd : Option (List Code)} {cn : Str} {nm : List (Str × NameKind)} {ig ic : Bool} {a0 : Addr} {ccd : Value} {outer : List Env} {A₀ : Around} {base h₀ : Heap} {L : Addr} {m : Str → Option Value} {s : Shared}
    {Q E : Value → Shared → Prop} {l D x d a b c1 c2 c3 q1 q2 : Addr} {t1 t2 t3 t4 t5 t6 t7 t8 t9 : Tok} {ys vs : List Value} {ns : List Int} {nn : Nat} {o1 o2 o3 o4 o5 : Obj}
    (B : Below A₀ base outer h₀) (F : Fr h₀ L s.heap m) (X : (hd.heap_39 w.params).In h₀) (T : Top pv loose mean mg mb h₀)
    (I : IntsAre vs ns) (hlen : ns.length = 257) (hl1 : @Ne Nat l d ∧ @Ne Nat l x ∧ @Ne Nat l D ∧ @Ne Nat l c1 ∧ @Ne Nat l c2 ∧ @Ne Nat l c3)
    (N : News h₀ L s.heap ((l, { cls := .type "list", data := .seq vs.toArray nn }) :: ringLed w.params D x d a b t1 t2 t3 t4 t5 t6 t7 t8 t9 ys [(c3, o3), (c2, o2), (c1, o1), (q1, o4), (q2, o5)])) (hdp : dp + 12 < recursionLimit) (hun : un + 12 < cLine) (XB : (hd.heap_39 w.params).In base) (TB : Top pv loose mean mg mb base) (D0 : KtsDicts (outer.filterMap (·.frame)) h₀)
    (n2 : @LT.lt Nat _ d x) (n3 : @Ne Nat D x) (n4 : @Ne Nat D d) (n5 : @Ne Nat c3 D ∧ @Ne Nat c2 D ∧ @Ne Nat c1 D) (n6 : @LT.lt Nat _ c3 d ∧ @LT.lt Nat _ c2 d ∧ @LT.lt Nat _ c1 d)
    (ret : ∀ (g' : Heap) (t : Tok) (h' : Heap) (tk' : Nat), Below A₀ base outer g' → (hd.heap_39 w.params).In g' → Top pv loose mean mg mb g' → KtsDicts (outer.filterMap (·.frame)) g' → KtsTurn (outer.filterMap (·.frame)) h₀ g' → Fr g' L h' m → News g' L h' (ringLed w.params D x d a b t1 t2 t3 t4 t5 t6 t7 t8 t9 ys [(c3, o3), (c2, o2), (c1, o1), (q1, o4), (q2, o5)]) → Q (.str (Str.ofString "value") t) { s with heap := h', toks := tk' }) :
    wpAny (model PySem.Challenge.rw_ix0026_02.row.prog w) (ktrTop dp un gd cn ({ kind := .function, names := nm, isGenerator := ig, isCoroutine := ic } : Scope) L a0 ccd [] outer) (call (.ref 615) [.ref x, .ref l]) Q E s := by
  dsimp only [ringLed] at N
  refine wpAny_call ?_
  kts_go
  w_strict ((walk; repeat ((first | refine ite_neg (by decide) ?_ | refine ite_pos (by decide) ?_); (try dsimp only); walk)))
  refine ite_pos (by simp [hlen]) ?_
  (try dsimp only)
  w_strict ((walk; repeat ((first | refine ite_neg (by decide) ?_ | refine ite_pos (by decide) ?_); (try dsimp only); walk)))
  dsimp only [InitBack]
  w_strict ((walk; repeat ((first | refine ite_neg (by decide) ?_ | refine ite_pos (by decide) ?_); (try dsimp only); walk)))
  rename News _ _ _ _ => Ne
  exact ret _ _ _ _ (by assumption) (by assumption) (by assumption) (by assumption) (by assumption) (by assumption) (cb_drop Ne (by kcj_all))
theorem err_256 {pv : Program} {w : World} {loose : List Str} {mean : ExcName → Option Value} {mg mb : Str → Option Value} {dp un : Nat} {gd : Option (List Code)} {cn : Str} {nm : List (Str × NameKind)} {ig ic : Bool} {a0 : Addr} {ccd : Value} {outer : List Env} {A₀ : Around} {base h₀ : Heap} {L : Addr} {m : Str → Option Value} {s : Shared}
    {Q E : Value → Shared → Prop} {l D x d a b c1 c2 c3 q1 q2 : Addr} {t1 t2 t3 t4 t5 t6 t7 t8 t9 : Tok} {ys vs : List Value} {ns : List Int} {nn : Nat} {o1 o2 o3 o4 o5 : Obj}
    (B : Below A₀ base outer h₀) (F : Fr h₀ L s.heap m) (X : (hd.heap_39 w.params).In h₀) (T : Top pv loose mean mg mb h₀)
    (I : IntsAre vs ns) (hlen : ns.length = 256) (hl1 : @Ne Nat l d ∧ @Ne Nat l x ∧ @Ne Nat l D ∧ @Ne Nat l c1 ∧ @Ne Nat l c2 ∧ @Ne Nat l c3)
    (N : News h₀ L s.heap ((l, { cls := .type "list", data := .seq vs.toArray nn }) :: ringLed w.params D x d a b t1 t2 t3 t4 t5 t6 t7 t8 t9 ys [(c3, o3), (c2, o2), (c1, o1), (q1, o4), (q2, o5)])) (hdp : dp + 12 < recursionLimit) (hun : un + 12 < cLine) (XB : (hd.heap_39 w.params).In base) (TB : Top pv loose mean mg mb base) (D0 : KtsDicts (outer.filterMap (·.frame)) h₀)
    (n2 : @LT.lt Nat _ d x) (n3 : @Ne Nat D x) (n4 : @Ne Nat D d) (n5 : @Ne Nat c3 D ∧ @Ne Nat c2 D ∧ @Ne Nat c1 D) (n6 : @LT.lt Nat _ c3 d ∧ @LT.lt Nat _ c2 d ∧ @LT.lt Nat _ c1 d)
    (ret : ∀ (g' : Heap) (t : Tok) (h' : Heap) (tk' : Nat), Below A₀ base outer g' → (hd.heap_39 w.params).In g' → Top pv loose mean mg mb g' → KtsDicts (outer.filterMap (·.frame)) g' → KtsTurn (outer.filterMap (·.frame)) h₀ g' → Fr g' L h' m → News g' L h' (ringLed w.params D x d a b t1 t2 t3 t4 t5 t6 t7 t8 t9 ys [(c3, o3), (c2, o2), (c1, o1), (q1, o4), (q2, o5)]) → Q (.str (Str.ofString "none") t) { s with heap := h', toks := tk' }) :
    wpAny (model PySem.Challenge.rw_ix0026_02.row.prog w) (ktrTop dp un gd cn ({ kind := .function, names := nm, isGenerator := ig, isCoroutine := ic } : Scope) L a0 ccd [] outer) (call (.ref 615) [.ref x, .ref l]) Q E s := by
  dsimp only [ringLed] at N
  refine wpAny_call ?_
  kts_go
  w_strict ((walk; repeat ((first | refine ite_neg (by decide) ?_ | refine ite_pos (by decide) ?_); (try dsimp only); walk)))
  refine ite_neg (by simp [hlen]) ?_
  (try dsimp only)
  w_strict ((walk; repeat ((first | refine ite_neg (by decide) ?_ | refine ite_pos (by decide) ?_); (try dsimp only); walk)))
  refine ite_neg (by simp [hlen]) ?_
  (try dsimp only)
  w_strict ((walk; repeat ((first | refine ite_neg (by decide) ?_ | refine ite_pos (by decide) ?_); (try dsimp only); walk)))
  rename News _ _ _ _ => Ne
  exact ret h₀ _ _ _ B X T D0 KtsTurn.refl (by assumption) (cb_drop Ne (by kcj_all))
end Mine
end
noncomputable section
open PySem PySem.W PyProof.Rows PySem.Spec PySem.Calls
set_option Elab.async false
set_option maxRecDepth 100000
set_option maxHeartbeats 4000000
local macro_rules | `(tactic| k_room) => `(tactic| ktr_room)
local macro_rules | `(tactic| k_enter) => `(tactic| first
  | (refine' code_def ?k1 ?k2 ?k3 ?k4 ?k5 ?kA ?kF ?kK ?k6 ?k7 ?k8 ?k9 ?kB ?_ ?c2 ?c3 ?c4 ?c5; (case kA => exact rfl); (case kF => exact rfl); (case kK => first | exact rfl | assumption); (case k1 => k_asm); (case k2 => k_asm); (case k3 => k_asm); (case k4 => k_asm); (case k5 => k_asm); (case k6 => k_is); (case k7 => k_is); (case k8 => ktr_room); (case k9 => first | exact BindsTo.of_eq rfl | exact binds_K (by k_in) rfl (by k_is) rfl rfl rfl | fail "k_enter: no rule for these arguments"); (case c5 => decide); (case kB => exact locs rfl); (case c2 => exact rfl); (case c3 => exact rfl); (case c4 => exact rfl); k_whole; intro g' L' h' FG' F' N' B' X' T'; (try dsimp only); (try k_lift B'); (try k_fold))
  | (refine' code_defC ?k1 ?k2 ?k3 ?k4 ?k5 ?kA ?kF ?kK ?k6 ?k7 ?k8 ?k9 ?kB ?kD ?_ ?c2 ?c3 ?c4; (case kA => exact rfl); (case kF => exact rfl); (case kK => first | exact rfl | assumption); (case k1 => k_asm); (case k2 => k_asm); (case k3 => k_asm); (case k4 => k_asm); (case k5 => k_asm); (case k6 => k_is); (case k7 => k_is); (case k8 => ktr_room); (case k9 => first | exact BindsTo.of_eq rfl | exact binds_K (by k_in) rfl (by k_is) rfl rfl rfl | fail "k_enter: no rule for these arguments"); (case kB => exact rfl); (case kD => decide +kernel); (case c2 => exact rfl); (case c3 => exact rfl); (case c4 => exact rfl); k_whole; intro g' L' h' tk' cells' FG' F' N' Y' B' X' T' l1; (try k_lt l1); k_cells Y'; (try simp only [List.cons_append, List.nil_append] at N'); (try dsimp only); (try k_lift B'); (try k_fold)))
local macro_rules | `(tactic| walk_at "getMethod ref") => `(tactic| (k_here; (with_reducible show wpAny _ _ (getMethod (Value.ref _) (PySem.Str.ofString "br") _) _ _ _); k_dflt (
  refine' kmu_sm ?k1 ?k2 ?k4 ?k5 ?k6 ?k7 ?k8 ?k9 ?k10 ?k11 ?k12 ?k13 ?k14 ?_; (case k1 => k_asm); (case k2 => k_asm); (case k4 => k_inst); (case k5 => k_is); (case k6 => k_is); (case k7 => k_is); (case k8 => k_is); (case k9 => k_is); (case k10 => k_is); (case k11 => decide +kernel); (case k12 => k_get); (case k13 => k_is); (case k14 => k_handed); k_whole)))
local macro_rules | `(tactic| walk_at "call ref") => `(tactic| (k_here; k_dflt (refine' Mine.br_call ?k1 ?k2 ?k3 ?k4 ?k5 ?kK ?k6 ?k7 ?kd ?_; (case k1 => k_asm); (case k2 => k_asm); (case k3 => k_asm); (case k4 => k_asm); (case k5 => k_asm); (case kK => first | exact rfl | assumption); (case k6 => first | decide | omega | l_fact); (case k7 => first | decide | omega | l_fact); (case kd => ktr_room)); intro t9 h9 tk9 F9 N9; (try dsimp only)))
local macro_rules | `(tactic| walk_at "call builtin:pow") => `(tactic| (k_dflt (refine Mine.call_pw (by first | decide | exact Mine.rev_nonneg _ _ | omega) ?_); (try dsimp only)))
local macro_rules | `(tactic| walk_at "call builtin:pow") => `(tactic| (k_dflt (refine Mine.call_inv256 ?_); (try dsimp only)))
local macro_rules | `(tactic| k_steps) => `(tactic| repeat' (first | (k_unfold; (try dsimp only)) | walk1 | (dsimp only; walk1) | fail "no step"))
local macro_rules | `(tactic| walk_at "MidL") => `(tactic| (k_dflt (refine' Mine.MidL.done ?k1 ?k2 ?k3 ?k4 ?k5 ?k6; (case k1 => assumption); (case k2 => assumption); (case k3 => kcj_all); (case k4 => l_ints); (case k5 => ((try simp only [List.length_take, List.length_append, List.length_cons, List.length_nil, List.length_map]); first | omega | assumption)); (case k6 => ((simp only [Mine.AllNe, and_true]); omega)))))
local macro_rules | `(tactic| walk_at "subscriptTail BinOp") => `(tactic| (k_here; (with_reducible show wpAny _ _ (subscriptTail _ (PySem.Expr.Slice _ _ none _) (Value.ref _) (Value.ref _)) _ _ _); k_dflt (refine' Mine.cut_temp ?F ?N ?l ?p ?q ?m ?_ ?s ?z; (case F => k_asm); (case N => k_asm); (case l => kmk_list); (case p => kmk_part); (case q => kmk_part); (case m => kmk_nums); (case s => with_unfolding_all rfl); (case z => kmk_size)); intro D' ws' h' F' N' l1 hI'; (try simp only [Int.reduceNeg, Int.neg_neg, Int.reduceToNat] at hI'); (try k_lt l1); (try k_sweep)))
local macro_rules | `(tactic| walk_at "call ref") => `(tactic| (k_here; k_dflt (refine' Mine.turned_call ?k1 ?k2 ?k3 ?k4 ?k5 ?kK ?k6 ?k7 ?kd ?_; (case k1 => k_asm); (case k2 => k_asm); (case k3 => k_asm); (case k4 => k_asm); (case k5 => k_asm); (case kK => first | exact rfl | assumption); (case k6 => first | decide | omega | l_fact); (case k7 => first | decide | omega | l_fact); (case kd => ktr_room)); intro t9 h9 tk9 F9 N9; (try dsimp only)))
local macro_rules | `(tactic| walk) => `(tactic| ((try dsimp only); repeat (first | (k_unfold; (try dsimp only)) | ((fail_if_success (with_reducible refine ite_neg ?_ ?_)); (fail_if_success (with_reducible show UnrPost _ _ _ _ _ _ _ _ _)); walk1) | ((fail_if_success (with_reducible refine ite_neg ?_ ?_)); (fail_if_success (with_reducible show UnrPost _ _ _ _ _ _ _ _ _)); dsimp only; walk1))))
local macro_rules | `(tactic| k_units) => `(tactic| ktr_units)
local macro_rules | `(tactic| walk_at "call ref") => `(tactic| (k_here; k_dflt (refine' Mine.poly_new ?k1 ?k2 ?k3 ?k5 ?kK ?k4 ?kI ?kl ?kd ?h1 ?h2 ?h3 ?h4 ?h5 ?h6 ?_; (case k1 => k_asm); (case k2 => k_asm); (case k3 => k_asm); (case k4 => k_asm); (case k5 => k_asm); (case kK => first | exact rfl | assumption); (case kI => l_ints); (case kl => (first | assumption | (simp only [List.length_cons, List.length_nil]; omega))); (case kd => ktr_room); (case h1 => (first | assumption | omega | (refine ⟨?_, ?_, ?_, ?_, ?_, ?_⟩ <;> first | exact neN (by omega) | assumption) | exact neN (by omega))); (case h2 => (first | assumption | omega | (refine ⟨?_, ?_, ?_, ?_, ?_, ?_⟩ <;> first | exact neN (by omega) | assumption) | exact neN (by omega))); (case h3 => (first | assumption | omega | (refine ⟨?_, ?_, ?_, ?_, ?_, ?_⟩ <;> first | exact neN (by omega) | assumption) | exact neN (by omega))); (case h4 => (first | assumption | omega | (refine ⟨?_, ?_, ?_, ?_, ?_, ?_⟩ <;> first | exact neN (by omega) | assumption) | exact neN (by omega))); (case h5 => (first | assumption | omega | (refine ⟨?_, ?_, ?_, ?_, ?_, ?_⟩ <;> first | exact neN (by omega) | assumption) | exact neN (by omega))); (case h6 => (first | assumption | omega | (refine ⟨?_, ?_, ?_, ?_, ?_, ?_⟩ <;> first | exact neN (by omega) | assumption) | exact neN (by omega)))); intro y9 d9 C9 ta9 tb9 ws9 nc9 h9 tk9 F9 N9 I9 o1 o2 o3; (try dsimp only)))
local macro_rules | `(tactic| walk_at "call ref") => `(tactic| ((try dsimp only); k_here; (with_reducible show wpAny _ _ (call (Value.ref 98) _) _ _ _); k_dflt (refine' Mine.is_const ?k1 ?k2 ?k3 ?k5 ?kK ?k4 ?kI ?kl ?kd ?hc3 ?hc2 ?hc1 ?cd ?g ?t ?h1 ?h2 ?h3 ?h5 ?h6 ?h7 ?h8 ?h9 ?_; (case k1 => k_asm); (case k2 => k_asm); (case k3 => k_asm); (case k4 => k_asm); (case k5 => k_asm); (case kK => first | exact rfl | assumption); (case kI => l_ints); (case kl => assumption); (case kd => ktr_room); (case hc3 => assumption); (case hc2 => assumption); (case hc1 => assumption); (case cd => (first | assumption | (refine CodeHd.keeps (by assumption) (Fr.keep (by assumption))))); (case g => assumption); (case t => assumption); (case h1 => (first | assumption | omega | (refine ⟨?_, ?_, ?_, ?_, ?_, ?_⟩ <;> first | exact neN (by omega) | assumption) | exact neN (by omega))); (case h2 => (first | assumption | omega | (refine ⟨?_, ?_, ?_, ?_, ?_, ?_⟩ <;> first | exact neN (by omega) | assumption) | exact neN (by omega))); (case h3 => (first | assumption | omega | (refine ⟨?_, ?_, ?_, ?_, ?_, ?_⟩ <;> first | exact neN (by omega) | assumption) | exact neN (by omega))); (case h5 => (first | assumption | omega | (refine ⟨?_, ?_, ?_, ?_, ?_, ?_⟩ <;> first | exact neN (by omega) | assumption) | exact neN (by omega))); (case h6 => (first | assumption | omega | (refine ⟨?_, ?_, ?_, ?_, ?_, ?_⟩ <;> first | exact neN (by omega) | assumption) | exact neN (by omega))); (case h7 => (first | assumption | omega | (refine ⟨?_, ?_, ?_, ?_, ?_, ?_⟩ <;> first | exact neN (by omega) | assumption) | exact neN (by omega))); (case h8 => (first | assumption | omega | (refine ⟨?_, ?_, ?_, ?_, ?_, ?_⟩ <;> first | exact neN (by omega) | assumption) | exact neN (by omega))); (case h9 => (first | assumption | omega | (refine ⟨?_, ?_, ?_, ?_, ?_, ?_⟩ <;> first | exact neN (by omega) | assumption) | exact neN (by omega)))); intro s9 pc9 F9 N9 ht9 G9 ho9; (try dsimp only)))
local macro_rules | `(tactic| walk_at "compareOp Eq ref") => `(tactic| ((try dsimp only); k_here;  k_dflt (refine' Mine.poly_eq ?k1 ?k2 ?k3 ?k5 ?kK ?k4 ?kI ?kl ?kd ?hc3 ?hc2 ?hc1 ?un ?d2 ?cd ?g ?t ?h1 ?h2 ?h3 ?h5 ?h6 ?h7 ?h8 ?h9 ?_; (case k1 => k_asm); (case k2 => k_asm); (case k3 => k_asm); (case k5 => k_asm); (case kK => first | exact rfl | assumption); (case k4 => k_asm); (case kI => l_ints); (case kl => assumption); (case kd => ktr_room); (case hc3 => assumption); (case hc2 => assumption); (case hc1 => assumption); (case un => ktr_units); (case d2 => ktr_room); (case cd => (first | assumption | (refine CodeHd.keeps (by assumption) (Fr.keep (by assumption))))); (case g => assumption); (case t => assumption); (case h1 => (first | assumption | omega | (refine ⟨?_, ?_, ?_, ?_, ?_, ?_⟩ <;> first | exact neN (by omega) | assumption) | exact neN (by omega))); (case h2 => (first | assumption | omega | (refine ⟨?_, ?_, ?_, ?_, ?_, ?_⟩ <;> first | exact neN (by omega) | assumption) | exact neN (by omega))); (case h3 => (first | assumption | omega | (refine ⟨?_, ?_, ?_, ?_, ?_, ?_⟩ <;> first | exact neN (by omega) | assumption) | exact neN (by omega))); (case h5 => (first | assumption | omega | (refine ⟨?_, ?_, ?_, ?_, ?_, ?_⟩ <;> first | exact neN (by omega) | assumption) | exact neN (by omega))); (case h6 => (first | assumption | omega | (refine ⟨?_, ?_, ?_, ?_, ?_, ?_⟩ <;> first | exact neN (by omega) | assumption) | exact neN (by omega))); (case h7 => (first | assumption | omega | (refine ⟨?_, ?_, ?_, ?_, ?_, ?_⟩ <;> first | exact neN (by omega) | assumption) | exact neN (by omega))); (case h8 => (first | assumption | omega | (refine ⟨?_, ?_, ?_, ?_, ?_, ?_⟩ <;> first | exact neN (by omega) | assumption) | exact neN (by omega))); (case h9 => (first | assumption | omega | (refine ⟨?_, ?_, ?_, ?_, ?_, ?_⟩ <;> first | exact neN (by omega) | assumption) | exact neN (by omega))); intro s9 pc9 F9 N9 ht9 G9 ho9; (try dsimp only))))
local macro_rules | `(tactic| walk_at "call ref") => `(tactic| ((try dsimp only); k_here; (with_reducible show wpAny _ _ (call (Value.ref 91) _) _ _ _); k_dflt (refine' Mine.is_zero ?k1 ?k2 ?k3 ?k5 ?kK ?k4 ?kI ?kl ?kd ?hc3 ?hc2 ?hc1 ?cd ?g ?t ?h1 ?h2 ?h3 ?h5 ?h6 ?h7 ?h8 ?h9 ?_; (case k1 => k_asm); (case k2 => k_asm); (case k3 => k_asm); (case k5 => k_asm); (case kK => first | exact rfl | assumption); (case k4 => k_asm); (case kI => l_ints); (case kl => assumption); (case kd => ktr_room); (case hc3 => assumption); (case hc2 => assumption); (case hc1 => assumption); (case cd => (first | assumption | (refine CodeHd.keeps (by assumption) (Fr.keep (by assumption))))); (case g => assumption); (case t => assumption); (case h1 => (first | assumption | omega | (refine ⟨?_, ?_, ?_, ?_, ?_, ?_⟩ <;> first | exact neN (by omega) | assumption) | exact neN (by omega))); (case h2 => (first | assumption | omega | (refine ⟨?_, ?_, ?_, ?_, ?_, ?_⟩ <;> first | exact neN (by omega) | assumption) | exact neN (by omega))); (case h3 => (first | assumption | omega | (refine ⟨?_, ?_, ?_, ?_, ?_, ?_⟩ <;> first | exact neN (by omega) | assumption) | exact neN (by omega))); (case h5 => (first | assumption | omega | (refine ⟨?_, ?_, ?_, ?_, ?_, ?_⟩ <;> first | exact neN (by omega) | assumption) | exact neN (by omega))); (case h6 => (first | assumption | omega | (refine ⟨?_, ?_, ?_, ?_, ?_, ?_⟩ <;> first | exact neN (by omega) | assumption) | exact neN (by omega))); (case h7 => (first | assumption | omega | (refine ⟨?_, ?_, ?_, ?_, ?_, ?_⟩ <;> first | exact neN (by omega) | assumption) | exact neN (by omega))); (case h8 => (first | assumption | omega | (refine ⟨?_, ?_, ?_, ?_, ?_, ?_⟩ <;> first | exact neN (by omega) | assumption) | exact neN (by omega))); (case h9 => (first | assumption | omega | (refine ⟨?_, ?_, ?_, ?_, ?_, ?_⟩ <;> first | exact neN (by omega) | assumption) | exact neN (by omega))); intro s9 pc9 F9 N9 ht9 G9 ho9; (try dsimp only))))
namespace Mine
def PolyPost (P : Params) (h₀ : Heap) (L : Addr) (m : Str → Option Value) (x : Addr) (tail : List (Addr × Obj)) (ms : List Int) (s : Shared) (v : Value) (s' : Shared) : Prop :=
  ∃ (y e C : Addr) (ta tb : Tok) (ws : List Value) (nc : Nat) (h' : Heap) (tk' : Nat), v = .ref y ∧ s' = { s with heap := h', toks := tk' } ∧ Fr h₀ L h' m ∧
    News h₀ L h' ((C, { cls := .type "list", data := .seq ws.toArray nc }) :: (y, instObj 528 e) :: (e, dictOf [⟨PyData.keyHash P (Str.ofString "parent"), .str (Str.ofString "parent") ta, .ref x⟩, ⟨PyData.keyHash P (Str.ofString "coeffs"), .str (Str.ofString "coeffs") tb, .ref C⟩] 2) :: tail) ∧ IntsAre ws ms ∧ @LT.lt Nat _ e y ∧ @Ne Nat C y ∧ @Ne Nat C e
theorem ite_cut {c : Prop} [Decidable c] {M : Model} {A : Around} {E : Value → Shared → Prop} {t1 t2 : Sem Value} {s : Shared} {Q : Value → Shared → Prop} (P : Value → Shared → Prop) (h1 : c → wpAny M A t1 P E s) (h2 : ¬c → wpAny M A t2 P E s)
    (h : ∀ v s', P v s' → Q v s') : if c then wpAny M A t1 Q E s else wpAny M A t2 Q E s := by
  by_cases hc : c
  · rw [if_pos hc]; exact wpAny_mono (h1 hc) h fun _ _ e => e
  · rw [if_neg hc]; exact wpAny_mono (h2 hc) h fun _ _ e => e
theorem ite_poly {c : Prop} [Decidable c] {M : Model} {A : Around} {E : Value → Shared → Prop} {t1 t2 : Sem Value} {s : Shared} {Q : Value → Shared → Prop} {P : Params} {g : Heap} {L x : Addr} {m : Str → Option Value} (tail : List (Addr × Obj)) (ms : List Int)
    (_F : Fr g L s.heap m) (h1 : c → wpAny M A t1 (PolyPost P g L m x tail ms s) E s) (h2 : ¬c → wpAny M A t2 (PolyPost P g L m x tail ms s) E s)
    (h : ∀ v s', PolyPost P g L m x tail ms s v s' → Q v s') : if c then wpAny M A t1 Q E s else wpAny M A t2 Q E s := ite_cut _ h1 h2 h
theorem const_one (k : Int) : ((List.drop 1 ([k] ++ List.replicate 255 (0 : Int))).all fun x => x == 0) = true := by
  show (List.replicate 255 (0 : Int)).all _ = true
  decide
theorem const_all (k : Int) : (([k] ++ List.replicate 255 (0 : Int)).all fun x => x == 0) = (k == 0) := by
  show (k == 0 && (List.replicate 255 (0 : Int)).all fun x => x == 0) = _
  rw [show ((List.replicate 255 (0 : Int)).all fun x => x == 0) = true by decide, Bool.and_true]
theorem next_rest (n : Int) : ((n + 1).fmod 8380417 == ([n.fmod 8380417] ++ List.replicate 255 (0 : Int)).getD 0 0) = false := by
  show ((n + 1).fmod 8380417 == n.fmod 8380417) = false
  rw [Int.fmod_eq_emod_of_nonneg _ (by decide), Int.fmod_eq_emod_of_nonneg _ (by decide)]
  apply beq_false_of_ne
  omega
theorem not_dec {p : Prop} [Decidable p] (h : p) : ¬ ((!decide p) = true) := by simp [h]
theorem plain_call {pv : Program} {w : World} {loose : List Str} {mean : ExcName → Option Value} {mg mb : Str → Option Value} {h₀ : Heap} {L fa : Addr} {cd : Value} {m : Str → Option Value} {s : Shared} {Q E : Value → Shared → Prop}
    {D x d a b : Addr} {t1 t2 t3 t4 t5 t6 t7 t8 t9 tn tq : Tok} {ys : List Value} {pa pb : Array Value} {n : Int} {o1 o2 o3 : Obj}
    (K0 : Below callerA h₀ [] h₀) (F : Fr h₀ L s.heap m) (X : (hd.heap_39 w.params).In h₀) (T : Top pv loose mean mg mb h₀)
    (N : News h₀ L s.heap (ringLed w.params D x d a b t1 t2 t3 t4 t5 t6 t7 t8 t9 ys [(L + 1 + 1 + 1, o3), (L + 1 + 1, o2), (L + 1, o1), (86, tabObj pa), (93, tabObj pb)])) (hG : AllBare s.gens) (CZ : CodeHd h₀ 90 86) (CC : CodeHd h₀ 97 93) (hpa : TriplesOk pa.toList) (hpb : TriplesOk pb.toList)
    (hc3 : ∀ ps, o3 ≠ tabObj ps) (hc2 : ∀ ps, o2 ≠ tabObj ps) (hc1 : ∀ ps, o1 ≠ tabObj ps)
    (n2 : @LT.lt Nat _ d x) (n3 : @Ne Nat D x) (n4 : @Ne Nat D d) (n5 : @Ne Nat (L + 1 + 1 + 1) D ∧ @Ne Nat (L + 1 + 1) D ∧ @Ne Nat (L + 1) D) (n6 : @LT.lt Nat _ (L + 1 + 1 + 1) d ∧ @LT.lt Nat _ (L + 1 + 1) d ∧ @LT.lt Nat _ (L + 1) d)
    (ret : ∀ (s' : Shared) (pa pb : Array Value), Fr h₀ L s'.heap m → News h₀ L s'.heap (ringLed w.params D x d a b t1 t2 t3 t4 t5 t6 t7 t8 t9 ys [(L + 1 + 1 + 1, o3), (L + 1 + 1, o2), (L + 1, o1), (86, tabObj pa), (93, tabObj pb)]) → AllBare s'.gens → s'.os = s.os → Q (.bool true) s') :
    wpAny (model PySem.Challenge.rw_ix0026_02.row.prog w) (callerA.deeper (lawEnv L fa cd)) (call (.ref 622) [.ref x, .int n tn, .int 8380417 tq]) Q E s := by
  dsimp only [ringLed] at N
  refine wpAny_call ?_
  refine' deep0 (env := lawEnv L fa cd) K0 F X N T ?kA ?kF ?kE ?k6 ?k7 ?k8 ?k9 ?kB ?_ ?c2 ?c3 ?c4 ?c5
  case kA => exact rfl
  case kF => exact rfl
  case kE => exact rfl
  case k6 => k_is
  case k7 => k_is
  case k8 => k_room
  case k9 => first | exact binds_K (by k_in) rfl (by k_is) rfl rfl rfl | exact BindsTo.of_eq rfl
  case kB => exact locs rfl
  case c2 => exact rfl
  case c3 => exact rfl
  case c4 => exact rfl
  case c5 => decide
  intro g2 L2 h2 FG F2 N2 B2 X2 T2 D2 l2
  (try dsimp only)
  k_lt l2
  (try k_fold)
  w_strict walk
  rename Fr g2 L2 _ _ => F3
  rename News g2 L2 _ _ => N3
  refine ite_poly (P := w.params) (x := x) (ringLed w.params D x d a b t1 t2 t3 t4 t5 t6 t7 t8 t9 ys [(L + 1 + 1 + 1, o3), (L + 1 + 1, o2), (L + 1, o1), (86, tabObj pa), (93, tabObj pb)]) ([n.fmod 8380417] ++ List.replicate 255 0) F3 ?one ?two ?more
  case one =>
    intro _
    w_strict ((try dsimp only); repeat (first | (k_unfold; (try dsimp only)) | ((fail_if_success (with_reducible refine ite_neg ?_ ?_)); (fail_if_success (with_reducible show wpAny _ _ (call (Value.ref x) _) _ _ _)); walk1) | ((fail_if_success (with_reducible refine ite_neg ?_ ?_)); (fail_if_success (with_reducible show wpAny _ _ (call (Value.ref x) _) _ _ _)); dsimp only; walk1)))
    w_strict walk1
    refine ring_int (l := x) (vs := []) (ns := []) (nn := 0) B2 (by k_asm) X2 T2 (by rfl) (by k_asm) (by ktr_room) n2 n3 n4 n5 n6 ?_
    intro y e C ta tb ws nc h' tk' Fa Na Ia q1 q2 q3
    exact ⟨y, e, C, ta, tb, ws, nc, h', tk', rfl, rfl, Fa, Na, Ia, q1, q2, q3⟩
  case two =>
    intro _
    w_strict ((try dsimp only); repeat (first | (k_unfold; (try dsimp only)) | ((fail_if_success (with_reducible refine ite_neg ?_ ?_)); (fail_if_success (with_reducible show wpAny _ _ (call (Value.ref x) _) _ _ _)); walk1) | ((fail_if_success (with_reducible refine ite_neg ?_ ?_)); (fail_if_success (with_reducible show wpAny _ _ (call (Value.ref x) _) _ _ _)); dsimp only; walk1)))
    w_strict walk1
    refine ring_list (ns := [n.fmod 8380417]) B2 (by k_asm) X2 T2 (by rfl) (by k_asm) (by l_ints) (by show (1 : Nat) < 256; decide) (by ktr_room) (by (first | assumption | omega | (refine ⟨?_, ?_, ?_, ?_, ?_, ?_⟩ <;> first | exact neN (by omega) | assumption) | exact neN (by omega))) n2 n3 n4 n5 n6 ?_
    intro y e C ta tb ws nc h' tk' Fa Na Ia q1 q2 q3
    exact ⟨y, e, C, ta, tb, ws, nc, h', tk', rfl, rfl, Fa, Na, Ia, q1, q2, q3⟩
  case more =>
    rintro v s3 ⟨y, e, C, ta, tb, ws, nc, h3, tk3, rfl, rfl, Fa, Na, Ia, q1, q2, q3⟩
    clear F3 N3
    have hlS : ([n.fmod 8380417] ++ List.replicate 255 (0 : Int)).length = 256 := by simp
    have e0 := const_one (n.fmod 8380417)
    have e1 := const_all (n.fmod 8380417)
    have e2 := next_rest n
    have e3 : (n.fmod 8380417 == ([n.fmod 8380417] ++ List.replicate 255 (0 : Int)).getD 0 0) = true := by simp
    (try dsimp only)
    w_strict ((try dsimp only); repeat (first | (k_unfold; (try dsimp only)) | ((fail_if_success (with_reducible refine ite_neg ?_ ?_)); (fail_if_success (with_reducible show wpAny _ _ (call (Value.ref x) _) _ _ _)); walk1) | ((fail_if_success (with_reducible refine ite_neg ?_ ?_)); (fail_if_success (with_reducible show wpAny _ _ (call (Value.ref x) _) _ _ _)); dsimp only; walk1)))
    refine ite_neg (by rw [e0, e3]; decide) ?_
    w_strict ((try dsimp only); repeat (first | (k_unfold; (try dsimp only)) | ((fail_if_success (with_reducible refine ite_neg ?_ ?_)); (fail_if_success (with_reducible show wpAny _ _ (call (Value.ref x) _) _ _ _)); walk1) | ((fail_if_success (with_reducible refine ite_neg ?_ ?_)); (fail_if_success (with_reducible show wpAny _ _ (call (Value.ref x) _) _ _ _)); dsimp only; walk1)))
    refine ite_neg (by rw [e2]; simp) ?_
    w_strict ((try dsimp only); repeat (first | (k_unfold; (try dsimp only)) | ((fail_if_success (with_reducible refine ite_neg ?_ ?_)); (fail_if_success (with_reducible show wpAny _ _ (call (Value.ref x) _) _ _ _)); walk1) | ((fail_if_success (with_reducible refine ite_neg ?_ ?_)); (fail_if_success (with_reducible show wpAny _ _ (call (Value.ref x) _) _ _ _)); dsimp only; walk1)))
    refine ite_neg (by rw [e0]; decide) ?_
    w_strict ((try dsimp only); repeat (first | (k_unfold; (try dsimp only)) | ((fail_if_success (with_reducible refine ite_neg ?_ ?_)); (fail_if_success (with_reducible show wpAny _ _ (call (Value.ref x) _) _ _ _)); walk1) | ((fail_if_success (with_reducible refine ite_neg ?_ ?_)); (fail_if_success (with_reducible show wpAny _ _ (call (Value.ref x) _) _ _ _)); dsimp only; walk1)))
    refine ite_neg (by rw [e1]; simp) ?_
    w_strict ((try dsimp only); repeat (first | (k_unfold; (try dsimp only)) | ((fail_if_success (with_reducible refine ite_neg ?_ ?_)); (fail_if_success (with_reducible show wpAny _ _ (call (Value.ref x) _) _ _ _)); walk1) | ((fail_if_success (with_reducible refine ite_neg ?_ ?_)); (fail_if_success (with_reducible show wpAny _ _ (call (Value.ref x) _) _ _ _)); dsimp only; walk1)))
    refine ite_neg (by decide) ?_
    w_strict ((try dsimp only); repeat (first | (k_unfold; (try dsimp only)) | ((fail_if_success (with_reducible refine ite_neg ?_ ?_)); (fail_if_success (with_reducible show wpAny _ _ (call (Value.ref x) _) _ _ _)); walk1) | ((fail_if_success (with_reducible refine ite_neg ?_ ?_)); (fail_if_success (with_reducible show wpAny _ _ (call (Value.ref x) _) _ _ _)); dsimp only; walk1)))
    refine ite_neg (not_dec rfl) ?_
    rename News _ _ _ _ => Nx
    have Ny : News g2 L2 _ (ringLed w.params D x d a b t1 t2 t3 t4 t5 t6 t7 t8 t9 ys [(L + 1 + 1 + 1, o3), (L + 1 + 1, o2), (L + 1, o1), (86, tabObj _), (93, tabObj _)]) := cb_drop Nx (by kcj_all)
    clear Nx
    (try dsimp only)
    w_strict ((try dsimp only); repeat (first | (k_unfold; (try dsimp only)) | ((fail_if_success (with_reducible refine ite_neg ?_ ?_)); (fail_if_success (with_reducible show wpAny _ _ (call (Value.ref x) _) _ _ _)); walk1) | ((fail_if_success (with_reducible refine ite_neg ?_ ?_)); (fail_if_success (with_reducible show wpAny _ _ (call (Value.ref x) _) _ _ _)); dsimp only; walk1)))
    (try w_strict walk1)
    rename Below _ _ [_, _] _ => Bz
    rename Fr _ _ _ _ => Fz
    refine ring_list (ns := [0]) Bz Fz (by k_asm) (by k_asm) (by rfl) (by k_asm) (by l_ints) (by show (1 : Nat) < 256; decide) (by ktr_room) (by (first | assumption | omega | (refine ⟨?_, ?_, ?_, ?_, ?_, ?_⟩ <;> first | exact neN (by omega) | assumption) | exact neN (by omega))) n2 n3 n4 n5 n6 ?_
    intro y2 e2 C2 ta2 tb2 ws2 nc2 h5 tk5 F5 N5 I5 q4 q5 q6
    w_strict ((try dsimp only); repeat (first | (k_unfold; (try dsimp only)) | ((fail_if_success (with_reducible refine ite_neg ?_ ?_)); (fail_if_success (with_reducible show wpAny _ _ (call (Value.ref x) _) _ _ _)); walk1) | ((fail_if_success (with_reducible refine ite_neg ?_ ?_)); (fail_if_success (with_reducible show wpAny _ _ (call (Value.ref x) _) _ _ _)); dsimp only; walk1)))
    refine ite_neg (not_dec rfl) ?_
    rename News _ _ _ _ => Nx
    have Ny : News g2 L2 _ (ringLed w.params D x d a b t1 t2 t3 t4 t5 t6 t7 t8 t9 ys [(L + 1 + 1 + 1, o3), (L + 1 + 1, o2), (L + 1, o1), (86, tabObj _), (93, tabObj _)]) := cb_drop Nx (by kcj_all)
    clear Nx
    (try dsimp only)
    w_strict ((try dsimp only); repeat (first | (k_unfold; (try dsimp only)) | ((fail_if_success (with_reducible refine ite_neg ?_ ?_)); (fail_if_success (with_reducible show wpAny _ _ (call (Value.ref x) _) _ _ _)); walk1) | ((fail_if_success (with_reducible refine ite_neg ?_ ?_)); (fail_if_success (with_reducible show wpAny _ _ (call (Value.ref x) _) _ _ _)); dsimp only; walk1)))
    refine ite_neg (by decide) ?_
    w_strict ((try dsimp only); repeat (first | (k_unfold; (try dsimp only)) | ((fail_if_success (with_reducible refine ite_neg ?_ ?_)); (fail_if_success (with_reducible show wpAny _ _ (call (Value.ref x) _) _ _ _)); walk1) | ((fail_if_success (with_reducible refine ite_neg ?_ ?_)); (fail_if_success (with_reducible show wpAny _ _ (call (Value.ref x) _) _ _ _)); dsimp only; walk1)))
    (try w_strict walk1)
    rename Below _ _ [_, _] _ => Bz
    rename Fr _ _ _ _ => Fz
    refine ring_list (ns := [0, 1]) Bz Fz (by k_asm) (by k_asm) (by rfl) (by k_asm) (by l_ints) (by show (2 : Nat) < 256; decide) (by ktr_room) (by (first | assumption | omega | (refine ⟨?_, ?_, ?_, ?_, ?_, ?_⟩ <;> first | exact neN (by omega) | assumption) | exact neN (by omega))) n2 n3 n4 n5 n6 ?_
    intro y7 e7 C7 ta7 tb7 ws7 nc7 h7 tk7 F7 N7 I7 q7 q8 q9
    have hl7 : ([0, 1] ++ List.replicate (256 - ([0, 1] : List Int).length) (0 : Int)).length = 256 := rfl
    have f1 : ((List.drop 1 ([0, 1] ++ List.replicate (256 - ([0, 1] : List Int).length) (0 : Int))).all fun x => x == 0) = false := rfl
    w_strict ((try dsimp only); repeat (first | (k_unfold; (try dsimp only)) | ((fail_if_success (with_reducible refine ite_neg ?_ ?_)); (fail_if_success (with_reducible show wpAny _ _ (call (Value.ref x) _) _ _ _)); walk1) | ((fail_if_success (with_reducible refine ite_neg ?_ ?_)); (fail_if_success (with_reducible show wpAny _ _ (call (Value.ref x) _) _ _ _)); dsimp only; walk1)))
    refine ite_neg (not_dec rfl) ?_
    rename News _ _ _ _ => Nx
    have Ny : News g2 L2 _ ((C7, { cls := .type "list", data := .seq ws7.toArray nc7 }) :: (y7, instObj 528 e7) :: (e7, dictOf [⟨PyData.keyHash w.params (Str.ofString "parent"), .str (Str.ofString "parent") ta7, .ref x⟩, ⟨PyData.keyHash w.params (Str.ofString "coeffs"), .str (Str.ofString "coeffs") tb7, .ref C7⟩] 2) :: ringLed w.params D x d a b t1 t2 t3 t4 t5 t6 t7 t8 t9 ys [(L + 1 + 1 + 1, o3), (L + 1 + 1, o2), (L + 1, o1), (86, tabObj _), (93, tabObj _)]) := cb_drop Nx (by kcj_all)
    clear Nx
    (try dsimp only)
    w_strict ((try dsimp only); repeat (first | (k_unfold; (try dsimp only)) | ((fail_if_success (with_reducible refine ite_neg ?_ ?_)); (fail_if_success (with_reducible show wpAny _ _ (call (Value.ref x) _) _ _ _)); walk1) | ((fail_if_success (with_reducible refine ite_neg ?_ ?_)); (fail_if_success (with_reducible show wpAny _ _ (call (Value.ref x) _) _ _ _)); dsimp only; walk1)))
    refine ite_neg (by rw [f1]; decide) ?_
    w_strict ((try dsimp only); repeat (first | (k_unfold; (try dsimp only)) | ((fail_if_success (with_reducible refine ite_neg ?_ ?_)); (fail_if_success (with_reducible show wpAny _ _ (call (Value.ref x) _) _ _ _)); walk1) | ((fail_if_success (with_reducible refine ite_neg ?_ ?_)); (fail_if_success (with_reducible show wpAny _ _ (call (Value.ref x) _) _ _ _)); dsimp only; walk1)))
    refine ite_neg (by rw [f1]; decide) ?_
    w_strict ((try dsimp only); repeat (first | (k_unfold; (try dsimp only)) | ((fail_if_success (with_reducible refine ite_neg ?_ ?_)); (fail_if_success (with_reducible show wpAny _ _ (call (Value.ref x) _) _ _ _)); walk1) | ((fail_if_success (with_reducible refine ite_neg ?_ ?_)); (fail_if_success (with_reducible show wpAny _ _ (call (Value.ref x) _) _ _ _)); dsimp only; walk1)))
    refine ite_neg (by rw [f1]; decide) ?_
    w_strict ((try dsimp only); repeat (first | (k_unfold; (try dsimp only)) | ((fail_if_success (with_reducible refine ite_neg ?_ ?_)); (fail_if_success (with_reducible show wpAny _ _ (call (Value.ref x) _) _ _ _)); walk1) | ((fail_if_success (with_reducible refine ite_neg ?_ ?_)); (fail_if_success (with_reducible show wpAny _ _ (call (Value.ref x) _) _ _ _)); dsimp only; walk1)))
    refine ite_neg (by decide) ?_
    w_strict ((try dsimp only); repeat (first | (k_unfold; (try dsimp only)) | ((fail_if_success (with_reducible refine ite_neg ?_ ?_)); (fail_if_success (first | (with_reducible show wpAny _ _ (call (Value.ref x) _) _ _ _) | (with_reducible show wpAny _ _ (call (Value.ref 615) _) _ _ _))); walk1) | ((fail_if_success (with_reducible refine ite_neg ?_ ?_)); (fail_if_success (first | (with_reducible show wpAny _ _ (call (Value.ref x) _) _ _ _) | (with_reducible show wpAny _ _ (call (Value.ref 615) _) _ _ _))); dsimp only; walk1)))
    rename News _ _ _ _ => Nx
    have Ny : News g2 L2 _ ((_, _) :: ringLed w.params D x d a b t1 t2 t3 t4 t5 t6 t7 t8 t9 ys [(L + 1 + 1 + 1, o3), (L + 1 + 1, o2), (L + 1, o1), (86, tabObj _), (93, tabObj _)]) := cb_drop Nx (by kcj_all)
    clear Nx
    (try dsimp only)
    refine err_257 B2 (by k_asm) X2 T2 (by l_ints) (by rfl) (by (first | assumption | omega | (refine ⟨?_, ?_, ?_, ?_, ?_, ?_⟩ <;> first | exact neN (by omega) | assumption) | exact neN (by omega))) Ny (by ktr_room) (by ktr_units) X T D2 n2 n3 n4 n5 n6 ?_
    intro g3 tt3 hh3 tk3' B3 X3 T3 D3 K3 F3 N3
    (try dsimp only)
    w_strict ((try dsimp only); repeat (first | (k_unfold; (try dsimp only)) | ((fail_if_success (with_reducible refine ite_neg ?_ ?_)); (fail_if_success (first | (with_reducible show wpAny _ _ (call (Value.ref x) _) _ _ _) | (with_reducible show wpAny _ _ (call (Value.ref 615) _) _ _ _))); walk1) | ((fail_if_success (with_reducible refine ite_neg ?_ ?_)); (fail_if_success (first | (with_reducible show wpAny _ _ (call (Value.ref x) _) _ _ _) | (with_reducible show wpAny _ _ (call (Value.ref 615) _) _ _ _))); dsimp only; walk1)))
    refine ite_pos (by decide) ?_
    w_strict ((try dsimp only); repeat (first | (k_unfold; (try dsimp only)) | ((fail_if_success (with_reducible refine ite_neg ?_ ?_)); (fail_if_success (first | (with_reducible show wpAny _ _ (call (Value.ref x) _) _ _ _) | (with_reducible show wpAny _ _ (call (Value.ref 615) _) _ _ _))); walk1) | ((fail_if_success (with_reducible refine ite_neg ?_ ?_)); (fail_if_success (first | (with_reducible show wpAny _ _ (call (Value.ref x) _) _ _ _) | (with_reducible show wpAny _ _ (call (Value.ref 615) _) _ _ _))); dsimp only; walk1)))
    refine err_str (l := x) (vs := []) (ns := []) (nn := 0) B3 (by k_asm) X3 T3 N3 (by ktr_room) (by ktr_units) X T D3 n2 n3 n4 n5 n6 ?_
    intro g4 tt4 hh4 tk4' B4 X4 T4 D4 K4 F4 N4
    (try dsimp only)
    w_strict ((try dsimp only); repeat (first | (k_unfold; (try dsimp only)) | ((fail_if_success (with_reducible refine ite_neg ?_ ?_)); (fail_if_success (first | (with_reducible show wpAny _ _ (call (Value.ref x) _) _ _ _) | (with_reducible show wpAny _ _ (call (Value.ref 615) _) _ _ _))); walk1) | ((fail_if_success (with_reducible refine ite_neg ?_ ?_)); (fail_if_success (first | (with_reducible show wpAny _ _ (call (Value.ref x) _) _ _ _) | (with_reducible show wpAny _ _ (call (Value.ref 615) _) _ _ _))); dsimp only; walk1)))
    refine ite_pos (by decide) ?_
    w_strict ((try dsimp only); repeat (first | (k_unfold; (try dsimp only)) | ((fail_if_success (with_reducible refine ite_neg ?_ ?_)); (fail_if_success (first | (with_reducible show wpAny _ _ (call (Value.ref x) _) _ _ _) | (with_reducible show wpAny _ _ (call (Value.ref 615) _) _ _ _))); walk1) | ((fail_if_success (with_reducible refine ite_neg ?_ ?_)); (fail_if_success (first | (with_reducible show wpAny _ _ (call (Value.ref x) _) _ _ _) | (with_reducible show wpAny _ _ (call (Value.ref 615) _) _ _ _))); dsimp only; walk1)))
    rename News _ _ _ _ => Nx
    have Ny : News g4 L2 _ ((_, _) :: ringLed w.params D x d a b t1 t2 t3 t4 t5 t6 t7 t8 t9 ys [(L + 1 + 1 + 1, o3), (L + 1 + 1, o2), (L + 1, o1), (86, tabObj _), (93, tabObj _)]) := cb_drop Nx (by kcj_all)
    clear Nx
    (try dsimp only)
    refine err_256 B4 (by k_asm) X4 T4 (by l_ints) (by rfl) (by (first | assumption | omega | (refine ⟨?_, ?_, ?_, ?_, ?_, ?_⟩ <;> first | exact neN (by omega) | assumption) | exact neN (by omega))) Ny (by ktr_room) (by ktr_units) X T D4 n2 n3 n4 n5 n6 ?_
    intro g5 tt5 hh5 tk5' B5 X5 T5 D5 K5 F5 N5
    have Kt := (K3.trans K4).trans K5
    (try dsimp only)
    w_strict ((try dsimp only); repeat (first | (k_unfold; (try dsimp only)) | ((fail_if_success (with_reducible refine ite_neg ?_ ?_)); (fail_if_success (first | (with_reducible show wpAny _ _ (call (Value.ref x) _) _ _ _) | (with_reducible show wpAny _ _ (call (Value.ref 615) _) _ _ _))); walk1) | ((fail_if_success (with_reducible refine ite_neg ?_ ?_)); (fail_if_success (first | (with_reducible show wpAny _ _ (call (Value.ref x) _) _ _ _) | (with_reducible show wpAny _ _ (call (Value.ref 615) _) _ _ _))); dsimp only; walk1)))
    rename News _ _ _ _ => Ne
    rw [show (Str.ofString "none" == Str.ofString "none") = true by decide]
    exact ret _ _ _ (by assumption) Ne (by assumption) (by repeat (first | rfl | (refine Eq.trans (by assumption) ?_)))
end Mine
end
noncomputable section
open PySem PySem.W PyProof.Rows
set_option maxRecDepth 100000
set_option Elab.async false
namespace Mine
def rootsK : List Int := [1, 4808194, 3765607, 3761513, 5178923, 5496691, 5234739, 5178987, 7778734, 3542485, 2682288, 2129892, 3764867, 7375178, 557458, 7159240, 5010068, 4317364, 2663378, 6705802, 4855975, 7946292, 676590, 7044481, 5152541, 1714295, 2453983, 1460718, 7737789, 4795319, 2815639, 2283733, 3602218, 3182878, 2740543, 4793971, 5269599, 2101410, 3704823, 1159875, 394148, 928749, 1095468, 4874037, 2071829, 4361428, 3241972, 2156050, 3415069, 1759347, 7562881, 4805951, 3756790, 6444618, 6663429, 4430364, 5483103, 3192354, 556856, 3870317, 2917338, 1853806, 3345963, 1858416, 3073009, 1277625, 5744944, 3852015, 4183372, 5157610, 5258977, 8106357, 2508980, 2028118, 1937570, 4564692, 2811291, 5396636, 7270901, 4158088, 1528066, 482649, 1148858, 5418153, 7814814, 169688, 2462444, 5046034, 4213992, 4892034, 1987814, 5183169, 1736313, 235407, 5130263, 3258457, 5801164, 1787943, 5989328, 6125690, 3482206, 4197502, 7080401, 6018354, 7062739, 2461387, 3035980, 621164, 3901472, 7153756, 2925816, 3374250, 1356448, 5604662, 2683270, 5601629, 4912752, 2312838, 7727142, 7921254, 348812, 8052569, 1011223, 6026202, 4561790, 6458164, 6143691, 1744507, 1753, 6444997, 5720892, 6924527, 2660408, 6600190, 8321269, 2772600, 1182243, 87208, 636927, 4415111, 4423672, 6084020, 5095502, 4663471, 8352605, 822541, 1009365, 5926272, 6400920, 1596822, 4423473, 4620952, 6695264, 4969849, 2678278, 4611469, 4829411, 635956, 8129971, 5925040, 4234153, 6607829, 2192938, 6653329, 2387513, 4768667, 8111961, 5199961, 3747250, 2296099, 1239911, 4541938, 3195676, 2642980, 1254190, 8368000, 2998219, 141835, 8291116, 2513018, 7025525, 613238, 7070156, 6161950, 7921677, 6458423, 4040196, 4908348, 2039144, 6500539, 7561656, 6201452, 6757063, 2105286, 6006015, 6346610, 586241, 7200804, 527981, 5637006, 6903432, 1994046, 2491325, 6987258, 507927, 7192532, 7655613, 6545891, 5346675, 8041997, 2647994, 3009748, 5767564, 4148469, 749577, 4357667, 3980599, 2569011, 6764887, 1723229, 1665318, 2028038, 1163598, 5011144, 3994671, 8368538, 7009900, 3020393, 3363542, 214880, 545376, 7609976, 3105558, 7277073, 508145, 7826699, 860144, 3430436, 140244, 6866265, 6195333, 3123762, 2358373, 6187330, 5365997, 6663603, 2926054, 7987710, 8077412, 3531229, 4405932, 4606686, 1900052, 7598542, 1054478, 7648983]
theorem roots_lit : rootsL = rootsK := by decide +kernel
theorem rootsK_1 : (rootsK.getD 1 0 * rootsK.getD 1 0).fmod 8380417 = 8380416 := by decide +kernel
theorem rootsK_bdm : ∀ v ∈ rootsK, 1 ≤ v ∧ v < 8380417 := by decide +kernel
def apart : List Nat → Bool
  | [] => true
  | a :: r => r.all (fun b => !(Nat.beq a b)) && apart r
theorem apart_nodup : ∀ {l : List Nat}, apart l = true → l.Nodup
  | [], _ => List.nodup_nil
  | a :: r, h => by
    have h2 := Bool.and_eq_true_iff.mp h
    refine List.nodup_cons.mpr ⟨fun hm => ?_, apart_nodup h2.2⟩
    have h3 := (List.all_eq_true.mp h2.1) a hm
    rw [Nat.beq_refl] at h3
    cases h3
theorem rootsK_ap : apart (rootsK.map Int.toNat) = true := by decide +kernel
theorem rootsK_nd : rootsK.Nodup := by
  have h := apart_nodup rootsK_ap
  rw [List.nodup_iff_pairwise_ne, List.pairwise_map] at h
  rw [List.nodup_iff_pairwise_ne]
  exact h.imp fun hn e => hn (by rw [e])
theorem rootsK_sq : ∀ k : Nat, k < 128 → 1 ≤ k → (rootsK.getD (2 * k) 0 * rootsK.getD (2 * k) 0).fmod 8380417 = rootsK.getD k 0 ∧ (rootsK.getD (2 * k) 0 * rootsK.getD 1 0).fmod 8380417 = rootsK.getD (2 * k + 1) 0 := by decide +kernel
theorem rootsK_pw : ∀ v ∈ rootsK, pw v 512 = 1 := by decide +kernel
theorem roots_len : rootsL.length = 256 := by simp [rootsL, rangeKs]
theorem roots_0 : rootsL.getD 0 0 = 1 := by rw [roots_lit]; rfl
theorem roots_1 : (rootsL.getD 1 0 * rootsL.getD 1 0).fmod 8380417 = 8380416 := by rw [roots_lit]; exact rootsK_1
theorem roots_bdm : ∀ v ∈ rootsL, 1 ≤ v ∧ v < 8380417 := by rw [roots_lit]; exact rootsK_bdm
theorem roots_mem {i : Nat} (h : i < 256) : rootsL.getD i 0 ∈ rootsL := by
  have hl := roots_len
  rw [List.getD_eq_getElem?_getD, List.getElem?_eq_getElem (by omega)]
  exact List.getElem_mem _
theorem roots_bd : ∀ i, i < 256 → 1 ≤ rootsL.getD i 0 ∧ rootsL.getD i 0 < 8380417 := fun i h => roots_bdm _ (roots_mem h)
theorem roots_nd : rootsL.Nodup := by rw [roots_lit]; exact rootsK_nd
theorem roots_sq : ∀ k : Nat, 1 ≤ k → k < 128 → (rootsL.getD (2 * k) 0 * rootsL.getD (2 * k) 0).fmod 8380417 = rootsL.getD k 0 ∧ (rootsL.getD (2 * k) 0 * rootsL.getD 1 0).fmod 8380417 = rootsL.getD (2 * k + 1) 0 := by
  rw [roots_lit]; exact fun k h1 h2 => rootsK_sq k h2 h1
theorem roots_pw : ∀ k : Nat, k < 256 → rootsL.getD k 0 = pw 1753 (rev (k : Int) 8) ∧ pw (rootsL.getD k 0) 512 = 1 := by
  intro k hk
  refine ⟨?_, ?_⟩
  · simp [rootsL, rangeKs, hk]
  · have := roots_mem hk
    rw [roots_lit] at this ⊢
    exact rootsK_pw _ this
end Mine
end
noncomputable section
open PySem PySem.W PyProof.Rows PySem.Spec PySem.Calls
namespace Mine
theorem endWG {c : ClaimW} {cl : Str → Option Addr} {mean : ExcName → Option Value} {args : List WData} {s₁ s' : Shared} {L : Addr} {m : Str → Option Value} {tabs : List (Addr × Addr)} {b : Bool}
    (hT : TabsAt tabs s₁.heap) (F : Fr (ghostOf s₁.heap tabs) L s'.heap m) (hG : AllBare s'.gens) (hgr : GrownAll tabs s'.heap)
    (hn : ∀ cls, c.raises args cls = false) (hp : c.post args (.bool b) args = true) (hos : s'.os = s₁.os) : GoodWG c cl mean args s₁ (.ok (.ret (.bool b))) s' := by
  have keep : ∀ b o, b ∉ tabs.map (·.2) → s₁.heap.get? b = some o → s'.heap.get? b = some o := fun b o hb e => F.keep b o (ghost_ne e hb)
  have grown : ∀ b o, b ∈ tabs.map (·.2) → s₁.heap.get? b = some o → isCodeTable s₁.heap b ∧ o = tabObj #[] ∧ ∃ ps, s'.heap.get? b = some (tabObj ps) := fun b o hb e => by
    obtain ⟨q, hq, rfl⟩ := List.mem_map.mp hb
    have e2 := (hT q hq).2
    rw [e] at e2
    exact ⟨((hT q hq).1.tab (hT q hq).2).isCodeTable, Option.some.inj e2, hgr.get q hq⟩
  refine ⟨.inl ⟨_, .bool b, [], rfl, hn, .bool b, hp, unshared_nil⟩, ⟨fun a o e => ?_, fun a o e => ?_⟩, hos, hG⟩
  · by_cases hb : a ∈ tabs.map (·.2)
    · obtain ⟨ht, rfl, ps, hP⟩ := grown a o hb e
      exact .inr (.inl ⟨ht, rfl, #[], ps, rfl, by rw [Array.empty_append]; exact hP⟩)
    · exact .inl (keep a o hb e)
  · by_cases hb : a ∈ tabs.map (·.2)
    · obtain ⟨_, _, ps, hP⟩ := grown a o hb e
      exact ⟨_, hP⟩
    · exact ⟨o, keep a o hb e⟩
end Mine
end
noncomputable section
open PySem PySem.W PyProof.Rows PySem.Spec PySem.Calls
set_option Elab.async false
set_option maxRecDepth 100000
set_option maxHeartbeats 4000000
local macro_rules | `(tactic| k_room) => `(tactic| ktr_room)
local macro_rules | `(tactic| k_enter) => `(tactic| first
  | (refine' code_def ?k1 ?k2 ?k3 ?k4 ?k5 ?kA ?kF ?kK ?k6 ?k7 ?k8 ?k9 ?kB ?_ ?c2 ?c3 ?c4 ?c5; (case kA => exact rfl); (case kF => exact rfl); (case kK => first | exact rfl | assumption); (case k1 => k_asm); (case k2 => k_asm); (case k3 => k_asm); (case k4 => k_asm); (case k5 => k_asm); (case k6 => k_is); (case k7 => k_is); (case k8 => ktr_room); (case k9 => first | exact BindsTo.of_eq rfl | exact binds_K (by k_in) rfl (by k_is) rfl rfl rfl | fail "k_enter: no rule for these arguments"); (case c5 => decide); (case kB => exact locs rfl); (case c2 => exact rfl); (case c3 => exact rfl); (case c4 => exact rfl); k_whole; intro g' L' h' FG' F' N' B' X' T'; (try dsimp only); (try k_lift B'); (try k_fold))
  | (refine' code_defC ?k1 ?k2 ?k3 ?k4 ?k5 ?kA ?kF ?kK ?k6 ?k7 ?k8 ?k9 ?kB ?kD ?_ ?c2 ?c3 ?c4; (case kA => exact rfl); (case kF => exact rfl); (case kK => first | exact rfl | assumption); (case k1 => k_asm); (case k2 => k_asm); (case k3 => k_asm); (case k4 => k_asm); (case k5 => k_asm); (case k6 => k_is); (case k7 => k_is); (case k8 => ktr_room); (case k9 => first | exact BindsTo.of_eq rfl | exact binds_K (by k_in) rfl (by k_is) rfl rfl rfl | fail "k_enter: no rule for these arguments"); (case kB => exact rfl); (case kD => decide +kernel); (case c2 => exact rfl); (case c3 => exact rfl); (case c4 => exact rfl); k_whole; intro g' L' h' tk' cells' FG' F' N' Y' B' X' T' l1; (try k_lt l1); k_cells Y'; (try simp only [List.cons_append, List.nil_append] at N'); (try dsimp only); (try k_lift B'); (try k_fold)))
local macro_rules | `(tactic| walk_at "getMethod ref") => `(tactic| (k_here; (with_reducible show wpAny _ _ (getMethod (Value.ref _) (PySem.Str.ofString "br") _) _ _ _); k_dflt (
  refine' kmu_sm ?k1 ?k2 ?k4 ?k5 ?k6 ?k7 ?k8 ?k9 ?k10 ?k11 ?k12 ?k13 ?k14 ?_; (case k1 => k_asm); (case k2 => k_asm); (case k4 => k_inst); (case k5 => k_is); (case k6 => k_is); (case k7 => k_is); (case k8 => k_is); (case k9 => k_is); (case k10 => k_is); (case k11 => decide +kernel); (case k12 => k_get); (case k13 => k_is); (case k14 => k_handed); k_whole)))
local macro_rules | `(tactic| walk_at "call ref") => `(tactic| (k_here; k_dflt (refine' Mine.br_call ?k1 ?k2 ?k3 ?k4 ?k5 ?kK ?k6 ?k7 ?kd ?_; (case k1 => k_asm); (case k2 => k_asm); (case k3 => k_asm); (case k4 => k_asm); (case k5 => k_asm); (case kK => first | exact rfl | assumption); (case k6 => first | decide | omega | l_fact); (case k7 => first | decide | omega | l_fact); (case kd => ktr_room)); intro t9 h9 tk9 F9 N9; (try dsimp only)))
local macro_rules | `(tactic| walk_at "call builtin:pow") => `(tactic| (k_dflt (refine Mine.call_pw (by first | decide | exact Mine.rev_nonneg _ _ | omega) ?_); (try dsimp only)))
local macro_rules | `(tactic| walk_at "call builtin:pow") => `(tactic| (k_dflt (refine Mine.call_inv256 ?_); (try dsimp only)))
local macro_rules | `(tactic| k_steps) => `(tactic| repeat' (first | (k_unfold; (try dsimp only)) | walk1 | (dsimp only; walk1) | fail "no step"))
local macro_rules | `(tactic| walk_at "MidL") => `(tactic| (k_dflt (refine' Mine.MidL.done ?k1 ?k2 ?k3 ?k4 ?k5 ?k6; (case k1 => assumption); (case k2 => assumption); (case k3 => kcj_all); (case k4 => l_ints); (case k5 => ((try simp only [List.length_take, List.length_append, List.length_cons, List.length_nil, List.length_map]); first | omega | assumption)); (case k6 => ((simp only [Mine.AllNe, and_true]); omega)))))
local macro_rules | `(tactic| walk_at "subscriptTail BinOp") => `(tactic| (k_here; (with_reducible show wpAny _ _ (subscriptTail _ (PySem.Expr.Slice _ _ none _) (Value.ref _) (Value.ref _)) _ _ _); k_dflt (refine' Mine.cut_temp ?F ?N ?l ?p ?q ?m ?_ ?s ?z; (case F => k_asm); (case N => k_asm); (case l => kmk_list); (case p => kmk_part); (case q => kmk_part); (case m => kmk_nums); (case s => with_unfolding_all rfl); (case z => kmk_size)); intro D' ws' h' F' N' l1 hI'; (try simp only [Int.reduceNeg, Int.neg_neg, Int.reduceToNat] at hI'); (try k_lt l1); (try k_sweep)))
local macro_rules | `(tactic| walk_at "call ref") => `(tactic| (k_here; k_dflt (refine' Mine.turned_call ?k1 ?k2 ?k3 ?k4 ?k5 ?kK ?k6 ?k7 ?kd ?_; (case k1 => k_asm); (case k2 => k_asm); (case k3 => k_asm); (case k4 => k_asm); (case k5 => k_asm); (case kK => first | exact rfl | assumption); (case k6 => first | decide | omega | l_fact); (case k7 => first | decide | omega | l_fact); (case kd => ktr_room)); intro t9 h9 tk9 F9 N9; (try dsimp only)))
local macro_rules | `(tactic| walk) => `(tactic| ((try dsimp only); repeat (first | (k_unfold; (try dsimp only)) | ((fail_if_success (with_reducible refine ite_neg ?_ ?_)); (fail_if_success (with_reducible show UnrPost _ _ _ _ _ _ _ _ _)); walk1) | ((fail_if_success (with_reducible refine ite_neg ?_ ?_)); (fail_if_success (with_reducible show UnrPost _ _ _ _ _ _ _ _ _)); dsimp only; walk1))))
local macro_rules | `(tactic| k_units) => `(tactic| ktr_units)
namespace Mine
theorem ne_cell {o : Obj} {v : Option Value} (e : o.data = .cell v) : ∀ ps, o ≠ tabObj ps := fun ps h => by rw [h] at e; cases e
end Mine
theorem PySem.Challenge.cw_ix0026_02_holds : PySem.Challenge.rw_ix0026_02.Holds := by
  w_on
  refine holds_law Mine.said02 fun said => ?_
  refine holds_open (q := Mine.hd.view_39) (loose := [Str.ofString "PolynomialRing", Str.ofString "Polynomial"]) (Xt := fun s => xlAt Mine.hd.view_39 [] s && recOk PySem.Challenge.rw_ix0026_02.row.records s) (XP := XL Mine.hd.view_39 []) (Yf := Hook.obs Mine.hkT) (Ya := Hook.val Mine.hkT) (YP := Hook.says Mine.hkT) (N := 8172) Mine.left_top (Hook.of Mine.hkT) (Hook.keeps Mine.hkT) (fun s e => xl_of s (Bool.and_eq_true_iff.mp e).1) XL.keeps (by rfl) (by rfl) (by rfl) (fun s e => recFacts_of (Bool.and_eq_true_iff.mp e).2) (by rfl) (by first | assumption | decide +kernel) (by decide +kernel) ⟨rfl, rfl, rfl, rfl, rfl, by decide +kernel⟩ ?hw ?hc
  case hw => w_witness2
  w_strict (
    k_fill
    intro w s₀ s₁ mg mb G Y fa o pm cd doc dV kV ho hd hcd hD hmg hg args vals as hpre hlay hrd hwl hlo
    have KX := km_in_of Y
    have hT8 := km_tabs_of Y
    have X := (Ground.X G).1
    have V := (Ground.X G).2
    refine Ground.open G ?_
    intro T B D TE TW
    try (refine guard_noD D (by decide +kernel) ?_; clear D)
    have hT9 : TabsAt [(90, 86), (97, 93)] s₁.heap := List.forall_mem_cons.mpr ⟨⟨codeHd_of_K (c := 90) (P := 86) KX (by kernel_rfl), hT8 86 (by k_mem)⟩, List.forall_mem_cons.mpr ⟨⟨codeHd_of_K (c := 97) (P := 93) KX (by kernel_rfl), hT8 93 (by k_mem)⟩, fun _ h => nomatch h⟩⟩
    clear hmg
    wrow_args hpre hlay hrd hwl hlo)
  all_goals w_strict (
    first | refine callC_kw (enter_call ?_) | refine enter_call ?_
    w_top on
    w_call any ho hd hcd hD T F
    clear hd
    have K0 := below_caller s₁.heap)
  w_strict ((all_goals try k_fold))
  w_strict (iterate 15 (first | (k_unfold; (try dsimp only)) | walk1 | (dsimp only; walk1) | (leave1; (try dsimp only))))
  refine' Mine.ring_make ?k1 ?k2 ?k3 ?k4 ?k5 ?kK ?kd ?_
  case k1 => k_asm
  case k2 => k_asm
  case k3 => k_asm
  case k4 => k_asm
  case k5 => k_asm
  case kK => exact rfl
  case kd => ktr_room
  intro xR dR DR aR bR q1 q2 q3 q4 q5 q6 q7 q8 q9 ys hR tkR FR NR IR l1 l2 l3 l4 l5
  dsimp only
  k_sweep
  w_strict (iterate 3 (first | (k_unfold; (try dsimp only)) | walk1 | (dsimp only; walk1) | (leave1; (try dsimp only))))
  refine Mine.mid_list (Str.ofString "pairs") (fun ps => 2 ≤ ps.length ∧ ps.length ≤ 16) (by k_asm) (by k_asm) ?stmt2 ?rest2
  case stmt2 =>
    w_strict k_steps
  intro P vs ps nP hP tkP FP NP IP cP nP
  simp only [Mine.AllNe, and_true] at nP
  w_strict (iterate 1 (first | (k_unfold; (try dsimp only)) | walk1 | (dsimp only; walk1) | (leave1; (try dsimp only))))
  with_unfolding_all refine wpAny_mono (Mine.stmt3 (w := w) (D := DR) (x := xR) (d := dR) (fa := fa) (cd := cd) (P := P) K0 FP KX T NP IP cP (by assumption) (by assumption) (by assumption) nP l1 l2 l3 l4 l5 ?_) (fun _ _ h => h) (fun _ _ z => False.elim z)
  intro u3 o2 o3 v2 v3 h3 tk3 F3 N3 e2 e3
  (try dsimp only)
  w_strict (iterate 1 (first | (k_unfold; (try dsimp only)) | walk1 | (dsimp only; walk1) | (leave1; (try dsimp only))))
  with_unfolding_all refine wpAny_mono (Mine.stmt4 (w := w) (D := DR) (x := xR) (d := dR) (fa := fa) (cd := cd) (P := P) (u' := fun _ => none) (R := []) K0 F3 KX T N3 IP cP (by assumption) e2 e3 nP l1 l2 l3 l4 l5 ?_) (fun _ _ h => h) (fun _ _ z => False.elim z)
  intro o2' o3' n0 w0 ta tb h4 tk4 F4 N4 e2' e3' w00 w07
  (try dsimp only)
  w_strict (iterate 1 (first | (k_unfold; (try dsimp only)) | walk1 | (dsimp only; walk1) | (leave1; (try dsimp only))))
  with_unfolding_all refine wpAny_mono (Mine.stmt5 (w := w) (D := DR) (x := xR) (d := dR) (fa := fa) (cd := cd)  K0 F4 KX T N4 (by assumption) e2' e3' w00 w07 l1 l2 l3 l4 l5 ?_) (fun _ _ h => h) (fun _ _ z => False.elim z)
  intro h5 tk5 F5 N5
  (try dsimp only)
  w_strict (iterate 1 (first | (k_unfold; (try dsimp only)) | walk1 | (dsimp only; walk1) | (leave1; (try dsimp only))))
  with_unfolding_all refine wpAny_mono (Mine.stmt6 (w := w) (D := DR) (x := xR) (d := dR) (fa := fa) (cd := cd) (u' := fun _ => none) (R := []) (vs := []) (ps := []) (np := 0) (v2 := none) (v3 := none) K0 F5 KX T N5 (by assumption) l1 l2 l3 l4 l5 ?_) (fun _ _ h => h) (fun _ _ z => False.elim z)
  intro h6 tk6 F6 N6
  (try dsimp only)
  w_strict (iterate 1 (first | (k_unfold; (try dsimp only)) | walk1 | (dsimp only; walk1) | (leave1; (try dsimp only))))
  with_unfolding_all refine wpAny_mono (Mine.stmt7 (w := w) (D := DR) (x := xR) (d := dR) (fa := fa) (cd := cd)  K0 F6 KX T N6 IR Mine.roots_len Mine.roots_0 Mine.roots_1 Mine.roots_bd Mine.roots_nd (by assumption) l1 l2 l3 l4 l5 ?_) (fun _ _ h => h) (fun _ _ z => False.elim z)
  intro h7 tk7 F7 N7
  (try dsimp only)
  w_strict (iterate 1 (first | (k_unfold; (try dsimp only)) | walk1 | (dsimp only; walk1) | (leave1; (try dsimp only))))
  with_unfolding_all refine wpAny_mono (Mine.stmt8 (w := w) (D := DR) (x := xR) (d := dR) (fa := fa) (cd := cd)  K0 F7 KX T N7 IR Mine.roots_len Mine.roots_bdm (by assumption) l1 l2 l3 l4 l5 ?_) (fun _ _ h => h) (fun _ _ z => False.elim z)
  intro h8 tk8 F8 N8
  (try dsimp only)
  w_strict (iterate 1 (first | (k_unfold; (try dsimp only)) | walk1 | (dsimp only; walk1) | (leave1; (try dsimp only))))
  with_unfolding_all refine wpAny_mono (Mine.stmt9 (w := w) (D := DR) (x := xR) (d := dR) (fa := fa) (cd := cd)  K0 F8 KX T N8 IR Mine.roots_len Mine.roots_bd Mine.roots_sq l1 l2 l3 l4 l5 ?_) (fun _ _ h => h) (fun _ _ z => False.elim z)
  intro u9 h9 tk9 F9 N9
  (try dsimp only)
  w_strict (iterate 1 (first | (k_unfold; (try dsimp only)) | walk1 | (dsimp only; walk1) | (leave1; (try dsimp only))))
  with_unfolding_all refine wpAny_mono (Mine.stmt10 (w := w) (D := DR) (x := xR) (d := dR) (fa := fa) (cd := cd) (u' := u9) K0 F9 KX T (by assumption) (by assumption) (by omega) N9 IR Mine.roots_len Mine.roots_pw l1 l2 l3 l4 l5 ?_) (fun _ _ h => h) (fun _ _ z => False.elim z)
  intro u10 h10 tk10 F10 N10
  (try dsimp only)
  w_strict (iterate 1 (first | (k_unfold; (try dsimp only)) | walk1 | (dsimp only; walk1) | (leave1; (try dsimp only))))
  with_unfolding_all refine wpAny_mono (Mine.stmt11 (w := w) (D := DR) (x := xR) (d := dR) (fa := fa) (cd := cd) (u' := u9) (u'' := u10) (R := []) (vs := []) (ps := []) (np := 0) (v2 := none) (v3 := none) K0 F10 KX T N10 (by assumption) l1 l2 l3 l4 l5 ?_) (fun _ _ h => h) (fun _ _ z => False.elim z)
  intro h11 tk11 F11 N11
  (try dsimp only)
  w_strict (iterate 1 (first | (k_unfold; (try dsimp only)) | walk1 | (dsimp only; walk1) | (leave1; (try dsimp only))))
  w_strict (iterate 11 (first | (k_unfold; (try dsimp only)) | walk1 | (dsimp only; walk1) | (leave1; (try dsimp only))))
  split
  · rename_i hne
    replace hne := of_decide_eq_true hne
    w_strict (iterate 10 (first | (k_unfold; (try dsimp only)) | walk1 | (dsimp only; walk1) | (leave1; (try dsimp only))))
    have C8 := ghost_code hT9
    have X8 := ghost_K hT9 KX (by kernel_rfl)
    have T8 := ghost_top hT9 T
    have N8 := ghost_news hT9 F11 N11
    have F8 := ghost_fr hT9 F11
    simp only [tabNews, List.map_cons, List.map_nil, List.nil_append, List.cons_append, Mine.ringLed] at N8
    with_unfolding_all refine' Mine.plain_call (w := w) (fa := fa) (cd := cd) (D := DR) (x := xR) (d := dR) (pa := #[]) (pb := #[]) (s := { heap := h11, gens := s₁.gens, drawn := s₁.drawn, toks := _, os := s₁.os }) (ghost_below hT9) F8 X8 T8 N8 ?hG C8.1 C8.2.1 True.intro True.intro ?hc3 ?hc2 ?hc1 l1 l2 l3 l4 l5 ?_
    case hG => exact .of_eq hg
    case hc3 => exact Mine.ne_cell e3'
    case hc2 => exact Mine.ne_cell e2'
    case hc1 => exact Mine.ne_cell (by assumption)
    intro s12 pa pb F12 N12 G12 O12
    exact Mine.endWG hT9 F12 G12 ⟨GrownAt.of N12 (by k_mem), GrownAt.of N12 (by k_mem), trivial⟩ (raisesW_false (by wrow_none_raised)) (postW_of (by wrow_shape) (by wtm_val) (by str_meet; first | done | w_fin)) O12
  · w_strict (iterate 5 (first | (k_unfold; (try dsimp only)) | walk1 | (dsimp only; walk1) | (leave1; (try dsimp only))))
    have C8 := ghost_code hT9
    have X8 := ghost_K hT9 KX (by kernel_rfl)
    have T8 := ghost_top hT9 T
    have N8 := ghost_news hT9 F11 N11
    have F8 := ghost_fr hT9 F11
    simp only [tabNews, List.map_cons, List.map_nil, List.nil_append, List.cons_append, Mine.ringLed] at N8
    with_unfolding_all refine' Mine.plain_call (w := w) (fa := fa) (cd := cd) (D := DR) (x := xR) (d := dR) (pa := #[]) (pb := #[]) (s := { heap := h11, gens := s₁.gens, drawn := s₁.drawn, toks := _, os := s₁.os }) (ghost_below hT9) F8 X8 T8 N8 ?hG2 C8.1 C8.2.1 True.intro True.intro ?hd3 ?hd2 ?hd1 l1 l2 l3 l4 l5 ?_
    case hG2 => exact .of_eq hg
    case hd3 => exact Mine.ne_cell e3'
    case hd2 => exact Mine.ne_cell e2'
    case hd1 => exact Mine.ne_cell (by assumption)
    intro s12 pa pb F12 N12 G12 O12
    exact Mine.endWG hT9 F12 G12 ⟨GrownAt.of N12 (by k_mem), GrownAt.of N12 (by k_mem), trivial⟩ (raisesW_false (by wrow_none_raised)) (postW_of (by wrow_shape) (by wtm_val) (by str_meet; first | done | w_fin)) O12
end
