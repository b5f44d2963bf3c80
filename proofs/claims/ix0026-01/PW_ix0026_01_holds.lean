import PyProof.Rows.All
import Wide.All
import OpenK.AllK
import Wide.FinOn
import KE.KNestM
import Wide.Ends
import KE.KTreeO
import KE.BitLaws
import Lean
import PySem.Challenge.RW_ix0026_01
open PySem PySem.W PyProof.Rows
set_option Elab.async false
set_option linter.unusedVariables false
noncomputable section
open PySem PySem.W PyProof.Rows
set_option Elab.async false
set_option maxRecDepth 1000000
set_option maxHeartbeats 0
namespace Mine
/-- the text's statements, its classes' defs, their parts: read off the row's program -/
def fnAt (i : Nat) : Stmt := (PySem.Challenge.rw_ix0026_01.row.prog.main.body[i]?).getD (.Pass default)
def mtAt (i j : Nat) : Stmt := match fnAt i with
  | .ClassDef _ _ _ b .. => (b[j]?).getD (.Pass default)
  | _ => .Pass default
def psOf : Stmt → Arguments
  | .FunctionDef _ p .. => p
  | _ => default
def bdOf : Stmt → List Stmt
  | .FunctionDef _ _ b .. => b
  | _ => []
def scOf : Stmt → Scope
  | .FunctionDef _ _ _ _ _ _ sc .. => sc
  | _ => default
/-- the part of the heap that the top leaves behind: written by PrK, the defs' parts read off the program -/
noncomputable def hd.heap_39 (P : Params) : Frag := (nat_lit 2, (@PySem.Obj.mk @PySem.Value.none (@Option.none @Nat) (@PySem.Data.dict (@List.toArray @PySem.DictEntry []) 0) (@List.toArray (@Option @PySem.Value) []))) ::
  (nat_lit 3, (@PySem.Obj.mk (@PySem.Value.type "dict") (@Option.none @Nat) (@PySem.Data.dict (@List.toArray @PySem.DictEntry [(@PySem.DictEntry.mk (@PySem.PyData.keyHash P (PySem.Str.ofString "__name__")) (@PySem.Value.str (PySem.Str.ofString "__name__") 165) (@PySem.Value.str (PySem.Str.ofString "law_ix0026_01") 1004)), (@PySem.DictEntry.mk (@PySem.PyData.keyHash P (PySem.Str.ofString "__doc__")) (@PySem.Value.str (PySem.Str.ofString "__doc__") 166) @PySem.Value.none), (@PySem.DictEntry.mk (@PySem.PyData.keyHash P (PySem.Str.ofString "__package__")) (@PySem.Value.str (PySem.Str.ofString "__package__") 167) @PySem.Value.none), (@PySem.DictEntry.mk (@PySem.PyData.keyHash P (PySem.Str.ofString "__loader__")) (@PySem.Value.str (PySem.Str.ofString "__loader__") 168) (@PySem.Value.builtin "__main__.__loader__#opaque")), (@PySem.DictEntry.mk (@PySem.PyData.keyHash P (PySem.Str.ofString "__spec__")) (@PySem.Value.str (PySem.Str.ofString "__spec__") 169) @PySem.Value.none), (@PySem.DictEntry.mk (@PySem.PyData.keyHash P (PySem.Str.ofString "__annotations__")) (@PySem.Value.str (PySem.Str.ofString "__annotations__") 170) (@PySem.Value.ref 6)), (@PySem.DictEntry.mk (@PySem.PyData.keyHash P (PySem.Str.ofString "__builtins__")) (@PySem.Value.str (PySem.Str.ofString "__builtins__") 171) (@PySem.Value.ref 4)), (@PySem.DictEntry.mk (@PySem.PyData.keyHash P (PySem.Str.ofString "__file__")) (@PySem.Value.str (PySem.Str.ofString "__file__") 173) (@PySem.Value.str (PySem.Str.ofString "/claim/cut.py") 172)), (@PySem.DictEntry.mk (@PySem.PyData.keyHash P (PySem.Str.ofString "__cached__")) (@PySem.Value.str (PySem.Str.ofString "__cached__") 174) @PySem.Value.none), (@PySem.DictEntry.mk (@PySem.PyData.keyHash P (PySem.Str.ofString "_wall")) (@PySem.Value.str (PySem.Str.ofString "_wall") 193) (@PySem.Value.ref 21)), (@PySem.DictEntry.mk (@PySem.PyData.keyHash P (PySem.Str.ofString "reduce_mod_pm")) (@PySem.Value.str (PySem.Str.ofString "reduce_mod_pm") 203) (@PySem.Value.ref 28)), (@PySem.DictEntry.mk (@PySem.PyData.keyHash P (PySem.Str.ofString "decompose")) (@PySem.Value.str (PySem.Str.ofString "decompose") 215) (@PySem.Value.ref 35)), (@PySem.DictEntry.mk (@PySem.PyData.keyHash P (PySem.Str.ofString "decompose_utils")) (@PySem.Value.str (PySem.Str.ofString "decompose_utils") 216) (@PySem.Value.ref 35)), (@PySem.DictEntry.mk (@PySem.PyData.keyHash P (PySem.Str.ofString "high_bits")) (@PySem.Value.str (PySem.Str.ofString "high_bits") 227) (@PySem.Value.ref 42)), (@PySem.DictEntry.mk (@PySem.PyData.keyHash P (PySem.Str.ofString "high_bits_utils")) (@PySem.Value.str (PySem.Str.ofString "high_bits_utils") 228) (@PySem.Value.ref 42)), (@PySem.DictEntry.mk (@PySem.PyData.keyHash P (PySem.Str.ofString "low_bits")) (@PySem.Value.str (PySem.Str.ofString "low_bits") 239) (@PySem.Value.ref 49)), (@PySem.DictEntry.mk (@PySem.PyData.keyHash P (PySem.Str.ofString "low_bits_utils")) (@PySem.Value.str (PySem.Str.ofString "low_bits_utils") 240) (@PySem.Value.ref 49)), (@PySem.DictEntry.mk (@PySem.PyData.keyHash P (PySem.Str.ofString "check_norm_bound")) (@PySem.Value.str (PySem.Str.ofString "check_norm_bound") 250) (@PySem.Value.ref 56)), (@PySem.DictEntry.mk (@PySem.PyData.keyHash P (PySem.Str.ofString "check_norm_bound_utils")) (@PySem.Value.str (PySem.Str.ofString "check_norm_bound_utils") 251) (@PySem.Value.ref 56)), (@PySem.DictEntry.mk (@PySem.PyData.keyHash P (PySem.Str.ofString "PolynomialRingGeneric")) (@PySem.Value.str (PySem.Str.ofString "PolynomialRingGeneric") 314) (@PySem.Value.ref 101)), (@PySem.DictEntry.mk (@PySem.PyData.keyHash P (PySem.Str.ofString "PolynomialGeneric")) (@PySem.Value.str (PySem.Str.ofString "PolynomialGeneric") 513) (@PySem.Value.ref 264)), (@PySem.DictEntry.mk (@PySem.PyData.keyHash P (PySem.Str.ofString "Shake")) (@PySem.Value.str (PySem.Str.ofString "Shake") 583) (@PySem.Value.ref 313)), (@PySem.DictEntry.mk (@PySem.PyData.keyHash P (PySem.Str.ofString "PolynomialRing")) (@PySem.Value.str (PySem.Str.ofString "PolynomialRing") 743) (@PySem.Value.ref 427)), (@PySem.DictEntry.mk (@PySem.PyData.keyHash P (PySem.Str.ofString "Polynomial")) (@PySem.Value.str (PySem.Str.ofString "Polynomial") 923) (@PySem.Value.ref 559)), (@PySem.DictEntry.mk (@PySem.PyData.keyHash P (PySem.Str.ofString "PolynomialNTT")) (@PySem.Value.str (PySem.Str.ofString "PolynomialNTT") 1003) (@PySem.Value.ref 623)), (@PySem.DictEntry.mk (@PySem.PyData.keyHash P (PySem.Str.ofString "_law_prime")) (@PySem.Value.str (PySem.Str.ofString "_law_prime") 1007) (@PySem.Value.int (8380417 : Int) 1006)), (@PySem.DictEntry.mk (@PySem.PyData.keyHash P (PySem.Str.ofString "_law_stream")) (@PySem.Value.str (PySem.Str.ofString "_law_stream") 1015) (@PySem.Value.ref 632)), (@PySem.DictEntry.mk (@PySem.PyData.keyHash P (PySem.Str.ofString "_law_halved")) (@PySem.Value.str (PySem.Str.ofString "_law_halved") 1025) (@PySem.Value.ref 639)), (@PySem.DictEntry.mk (@PySem.PyData.keyHash P (PySem.Str.ofString "_law_parts")) (@PySem.Value.str (PySem.Str.ofString "_law_parts") 1035) (@PySem.Value.ref 646)), (@PySem.DictEntry.mk (@PySem.PyData.keyHash P (PySem.Str.ofString "law")) (@PySem.Value.str (PySem.Str.ofString "law") 1041) (@PySem.Value.ref 651))]) 30) (@List.toArray (@Option @PySem.Value) []))) ::
  (nat_lit 15, (@PySem.Obj.mk (@PySem.Value.type "tuple") (@Option.none @Nat) (@PySem.Data.seq (@List.toArray @PySem.Value []) 0) (@List.toArray (@Option @PySem.Value) []))) ::
  (nat_lit 17, (@PySem.Obj.mk (@PySem.Value.type "tuple") (@Option.none @Nat) (@PySem.Data.seq (@List.toArray @PySem.Value [(@PySem.Value.str (PySem.Str.ofString "k") 190)]) 0) (@List.toArray (@Option @PySem.Value) []))) ::
  (nat_lit 18, (@PySem.Obj.mk (@PySem.Value.type "tuple") (@Option.none @Nat) (@PySem.Data.seq (@List.toArray @PySem.Value []) 0) (@List.toArray (@Option @PySem.Value) []))) ::
  (nat_lit 27, (@PySem.Obj.mk (@PySem.Value.type "code") (@Option.none @Nat) (@PySem.Data.fields (@List.toArray @PySem.Value [(@PySem.Value.str (PySem.Str.ofString "reduce_mod_pm") 196), (@PySem.Value.str (PySem.Str.ofString "reduce_mod_pm") 197), (@PySem.Value.str (PySem.Str.ofString "/claim/cut.py") 198), (@PySem.Value.int (5 : Int) 0), (@PySem.Value.int (2 : Int) 0), (@PySem.Value.int (0 : Int) 0), (@PySem.Value.int (0 : Int) 0), (@PySem.Value.int (3 : Int) 0), (@PySem.Value.ref 22), (@PySem.Value.bool @Bool.true), (@PySem.Value.int (181 : Int) 0), (@PySem.Value.ref 23), @PySem.Value.none, (@PySem.Value.ref 24), (@PySem.Value.ref 25), (@PySem.Value.ref 26), (@PySem.Value.int (201 : Int) 0), (@PySem.Value.int (5 : Int) 0), (@PySem.Value.str (PySem.Str.ofString "/claim/cut.py") 202)])) (@List.toArray (@Option @PySem.Value) []))) ::
  (nat_lit 28, (@PySem.Obj.mk (@PySem.Value.type "function") (@Option.none @Nat) (@PySem.Data.func (@PySem.FuncData.mk (PySem.Str.ofString "reduce_mod_pm") (PySem.Str.ofString "reduce_mod_pm") (by refine' (fun (x : PSigma fun b : PySem.Arguments => b = psOf (fnAt 2)) => x.1) ⟨_, ?h⟩; case h => (conv => rhs; whnf)) (PySem.FuncBody.stmts (by refine' (fun (x : PSigma fun b : (List PySem.Stmt) => b = bdOf (fnAt 2)) => x.1) ⟨_, ?h⟩; case h => (conv => rhs; whnf))) (by refine' (fun (x : PSigma fun b : PySem.Scope => b = scOf (fnAt 2)) => x.1) ⟨_, ?h⟩; case h => (conv => rhs; whnf)) 3 [] @PySem.Value.none @PySem.Value.none @PySem.Value.none (@PySem.Value.str (PySem.Str.ofString "dilithium_py.utilities.utils") 194) (@Option.none @Nat) (@PySem.Value.ref 27) @PySem.Value.none 0)) (@List.toArray (@Option @PySem.Value) []))) ::
  (nat_lit 34, (@PySem.Obj.mk (@PySem.Value.type "code") (@Option.none @Nat) (@PySem.Data.fields (@List.toArray @PySem.Value [(@PySem.Value.str (PySem.Str.ofString "decompose") 204), (@PySem.Value.str (PySem.Str.ofString "decompose") 205), (@PySem.Value.str (PySem.Str.ofString "/claim/cut.py") 206), (@PySem.Value.int (10 : Int) 0), (@PySem.Value.int (3 : Int) 0), (@PySem.Value.int (0 : Int) 0), (@PySem.Value.int (0 : Int) 0), (@PySem.Value.int (3 : Int) 0), (@PySem.Value.ref 29), (@PySem.Value.bool @Bool.true), (@PySem.Value.int (181 : Int) 0), (@PySem.Value.ref 30), @PySem.Value.none, (@PySem.Value.ref 31), (@PySem.Value.ref 32), (@PySem.Value.ref 33), (@PySem.Value.int (213 : Int) 0), (@PySem.Value.int (10 : Int) 0), (@PySem.Value.str (PySem.Str.ofString "/claim/cut.py") 214)])) (@List.toArray (@Option @PySem.Value) []))) ::
  (nat_lit 35, (@PySem.Obj.mk (@PySem.Value.type "function") (@Option.none @Nat) (@PySem.Data.func (@PySem.FuncData.mk (PySem.Str.ofString "decompose") (PySem.Str.ofString "decompose") (by refine' (fun (x : PSigma fun b : PySem.Arguments => b = psOf (fnAt 3)) => x.1) ⟨_, ?h⟩; case h => (conv => rhs; whnf)) (PySem.FuncBody.stmts (by refine' (fun (x : PSigma fun b : (List PySem.Stmt) => b = bdOf (fnAt 3)) => x.1) ⟨_, ?h⟩; case h => (conv => rhs; whnf))) (by refine' (fun (x : PSigma fun b : PySem.Scope => b = scOf (fnAt 3)) => x.1) ⟨_, ?h⟩; case h => (conv => rhs; whnf)) 3 [] @PySem.Value.none @PySem.Value.none @PySem.Value.none (@PySem.Value.str (PySem.Str.ofString "dilithium_py.utilities.utils") 194) (@Option.none @Nat) (@PySem.Value.ref 34) @PySem.Value.none 0)) (@List.toArray (@Option @PySem.Value) []))) ::
  (nat_lit 41, (@PySem.Obj.mk (@PySem.Value.type "code") (@Option.none @Nat) (@PySem.Data.fields (@List.toArray @PySem.Value [(@PySem.Value.str (PySem.Str.ofString "high_bits") 217), (@PySem.Value.str (PySem.Str.ofString "high_bits") 218), (@PySem.Value.str (PySem.Str.ofString "/claim/cut.py") 219), (@PySem.Value.int (21 : Int) 0), (@PySem.Value.int (3 : Int) 0), (@PySem.Value.int (0 : Int) 0), (@PySem.Value.int (0 : Int) 0), (@PySem.Value.int (3 : Int) 0), (@PySem.Value.ref 36), (@PySem.Value.bool @Bool.true), (@PySem.Value.int (181 : Int) 0), (@PySem.Value.ref 37), @PySem.Value.none, (@PySem.Value.ref 38), (@PySem.Value.ref 39), (@PySem.Value.ref 40), (@PySem.Value.int (225 : Int) 0), (@PySem.Value.int (21 : Int) 0), (@PySem.Value.str (PySem.Str.ofString "/claim/cut.py") 226)])) (@List.toArray (@Option @PySem.Value) []))) ::
  (nat_lit 42, (@PySem.Obj.mk (@PySem.Value.type "function") (@Option.none @Nat) (@PySem.Data.func (@PySem.FuncData.mk (PySem.Str.ofString "high_bits") (PySem.Str.ofString "high_bits") (by refine' (fun (x : PSigma fun b : PySem.Arguments => b = psOf (fnAt 5)) => x.1) ⟨_, ?h⟩; case h => (conv => rhs; whnf)) (PySem.FuncBody.stmts (by refine' (fun (x : PSigma fun b : (List PySem.Stmt) => b = bdOf (fnAt 5)) => x.1) ⟨_, ?h⟩; case h => (conv => rhs; whnf))) (by refine' (fun (x : PSigma fun b : PySem.Scope => b = scOf (fnAt 5)) => x.1) ⟨_, ?h⟩; case h => (conv => rhs; whnf)) 3 [] @PySem.Value.none @PySem.Value.none @PySem.Value.none (@PySem.Value.str (PySem.Str.ofString "dilithium_py.utilities.utils") 194) (@Option.none @Nat) (@PySem.Value.ref 41) @PySem.Value.none 0)) (@List.toArray (@Option @PySem.Value) []))) ::
  (nat_lit 48, (@PySem.Obj.mk (@PySem.Value.type "code") (@Option.none @Nat) (@PySem.Data.fields (@List.toArray @PySem.Value [(@PySem.Value.str (PySem.Str.ofString "low_bits") 229), (@PySem.Value.str (PySem.Str.ofString "low_bits") 230), (@PySem.Value.str (PySem.Str.ofString "/claim/cut.py") 231), (@PySem.Value.int (25 : Int) 0), (@PySem.Value.int (3 : Int) 0), (@PySem.Value.int (0 : Int) 0), (@PySem.Value.int (0 : Int) 0), (@PySem.Value.int (3 : Int) 0), (@PySem.Value.ref 43), (@PySem.Value.bool @Bool.true), (@PySem.Value.int (181 : Int) 0), (@PySem.Value.ref 44), @PySem.Value.none, (@PySem.Value.ref 45), (@PySem.Value.ref 46), (@PySem.Value.ref 47), (@PySem.Value.int (237 : Int) 0), (@PySem.Value.int (25 : Int) 0), (@PySem.Value.str (PySem.Str.ofString "/claim/cut.py") 238)])) (@List.toArray (@Option @PySem.Value) []))) ::
  (nat_lit 49, (@PySem.Obj.mk (@PySem.Value.type "function") (@Option.none @Nat) (@PySem.Data.func (@PySem.FuncData.mk (PySem.Str.ofString "low_bits") (PySem.Str.ofString "low_bits") (by refine' (fun (x : PSigma fun b : PySem.Arguments => b = psOf (fnAt 7)) => x.1) ⟨_, ?h⟩; case h => (conv => rhs; whnf)) (PySem.FuncBody.stmts (by refine' (fun (x : PSigma fun b : (List PySem.Stmt) => b = bdOf (fnAt 7)) => x.1) ⟨_, ?h⟩; case h => (conv => rhs; whnf))) (by refine' (fun (x : PSigma fun b : PySem.Scope => b = scOf (fnAt 7)) => x.1) ⟨_, ?h⟩; case h => (conv => rhs; whnf)) 3 [] @PySem.Value.none @PySem.Value.none @PySem.Value.none (@PySem.Value.str (PySem.Str.ofString "dilithium_py.utilities.utils") 194) (@Option.none @Nat) (@PySem.Value.ref 48) @PySem.Value.none 0)) (@List.toArray (@Option @PySem.Value) []))) ::
  (nat_lit 55, (@PySem.Obj.mk (@PySem.Value.type "code") (@Option.none @Nat) (@PySem.Data.fields (@List.toArray @PySem.Value [(@PySem.Value.str (PySem.Str.ofString "check_norm_bound") 241), (@PySem.Value.str (PySem.Str.ofString "check_norm_bound") 242), (@PySem.Value.str (PySem.Str.ofString "/claim/cut.py") 243), (@PySem.Value.int (29 : Int) 0), (@PySem.Value.int (3 : Int) 0), (@PySem.Value.int (0 : Int) 0), (@PySem.Value.int (0 : Int) 0), (@PySem.Value.int (3 : Int) 0), (@PySem.Value.ref 50), (@PySem.Value.bool @Bool.true), (@PySem.Value.int (181 : Int) 0), (@PySem.Value.ref 51), @PySem.Value.none, (@PySem.Value.ref 52), (@PySem.Value.ref 53), (@PySem.Value.ref 54), (@PySem.Value.int (248 : Int) 0), (@PySem.Value.int (29 : Int) 0), (@PySem.Value.str (PySem.Str.ofString "/claim/cut.py") 249)])) (@List.toArray (@Option @PySem.Value) []))) ::
  (nat_lit 56, (@PySem.Obj.mk (@PySem.Value.type "function") (@Option.none @Nat) (@PySem.Data.func (@PySem.FuncData.mk (PySem.Str.ofString "check_norm_bound") (PySem.Str.ofString "check_norm_bound") (by refine' (fun (x : PSigma fun b : PySem.Arguments => b = psOf (fnAt 9)) => x.1) ⟨_, ?h⟩; case h => (conv => rhs; whnf)) (PySem.FuncBody.stmts (by refine' (fun (x : PSigma fun b : (List PySem.Stmt) => b = bdOf (fnAt 9)) => x.1) ⟨_, ?h⟩; case h => (conv => rhs; whnf))) (by refine' (fun (x : PSigma fun b : PySem.Scope => b = scOf (fnAt 9)) => x.1) ⟨_, ?h⟩; case h => (conv => rhs; whnf)) 3 [] @PySem.Value.none @PySem.Value.none @PySem.Value.none (@PySem.Value.str (PySem.Str.ofString "dilithium_py.utilities.utils") 194) (@Option.none @Nat) (@PySem.Value.ref 55) @PySem.Value.none 0)) (@List.toArray (@Option @PySem.Value) []))) ::
  (nat_lit 100, (@PySem.Obj.mk (@PySem.Value.type "dict") (@Option.none @Nat) (@PySem.Data.dict (@List.toArray @PySem.DictEntry [(@PySem.DictEntry.mk (@PySem.PyData.keyHash P (PySem.Str.ofString "__module__")) (@PySem.Value.str (PySem.Str.ofString "__module__") 261) (@PySem.Value.str (PySem.Str.ofString "dilithium_py.polynomials.polynomials_generic") 252)), (@PySem.DictEntry.mk (@PySem.PyData.keyHash P (PySem.Str.ofString "__firstlineno__")) (@PySem.Value.str (PySem.Str.ofString "__firstlineno__") 265) (@PySem.Value.int (37 : Int) 264)), (@PySem.DictEntry.mk (@PySem.PyData.keyHash P (PySem.Str.ofString "__init__")) (@PySem.Value.str (PySem.Str.ofString "__init__") 274) (@PySem.Value.ref 70)), (@PySem.DictEntry.mk (@PySem.PyData.keyHash P (PySem.Str.ofString "zero")) (@PySem.Value.str (PySem.Str.ofString "zero") 281) (@PySem.Value.ref 77)), (@PySem.DictEntry.mk (@PySem.PyData.keyHash P (PySem.Str.ofString "gen")) (@PySem.Value.str (PySem.Str.ofString "gen") 288) (@PySem.Value.ref 84)), (@PySem.DictEntry.mk (@PySem.PyData.keyHash P (PySem.Str.ofString "__call__")) (@PySem.Value.str (PySem.Str.ofString "__call__") 296) (@PySem.Value.ref 91)), (@PySem.DictEntry.mk (@PySem.PyData.keyHash P (PySem.Str.ofString "is_element")) (@PySem.Value.str (PySem.Str.ofString "is_element") 304) (@PySem.Value.ref 98)), (@PySem.DictEntry.mk (@PySem.PyData.keyHash P (PySem.Str.ofString "__static_attributes__")) (@PySem.Value.str (PySem.Str.ofString "__static_attributes__") 307) (@PySem.Value.ref 99)), (@PySem.DictEntry.mk (@PySem.PyData.keyHash P (PySem.Str.ofString "__dict__")) (@PySem.Value.str (PySem.Str.ofString "__dict__") 309) (@PySem.Value.ref 102)), (@PySem.DictEntry.mk (@PySem.PyData.keyHash P (PySem.Str.ofString "__weakref__")) (@PySem.Value.str (PySem.Str.ofString "__weakref__") 311) (@PySem.Value.ref 103)), (@PySem.DictEntry.mk (@PySem.PyData.keyHash P (PySem.Str.ofString "__doc__")) (@PySem.Value.str (PySem.Str.ofString "__doc__") 312) @PySem.Value.none)]) 4) (@List.toArray (@Option @PySem.Value) []))) ::
  (nat_lit 101, (@PySem.Obj.mk (@PySem.Value.type "type") (@Option.none @Nat) (@PySem.Data.cls (@PySem.ClassData.mk (PySem.Str.ofString "PolynomialRingGeneric") [(@PySem.Value.type "object")] [(@PySem.Value.ref 101), (@PySem.Value.type "object")] 100 (PySem.Str.ofString "PolynomialRingGeneric") @Bool.true [] [(@PySem.Value.ref 427)] @Bool.false (@Option.none @Bool) @Bool.false)) (@List.toArray (@Option @PySem.Value) [(@Option.none @PySem.Value), (@Option.none @PySem.Value), (@Option.some @PySem.Value (@PySem.Value.str (PySem.Str.ofString "PolynomialRingGeneric") 254)), (@Option.some @PySem.Value (@PySem.Value.str (PySem.Str.ofString "PolynomialRingGeneric") 262)), (@Option.some @PySem.Value (@PySem.Value.builtin "object.__new__")), (@Option.some @PySem.Value (@PySem.Value.bool @Bool.true))]))) ::
  (nat_lit 102, (@PySem.Obj.mk (@PySem.Value.type "getset_descriptor") (@Option.none @Nat) (@PySem.Data.fields (@List.toArray @PySem.Value [(@PySem.Value.str (PySem.Str.ofString "__dict__") 308), (@PySem.Value.ref 101), (@PySem.Value.builtin "function.__dict__"), (@PySem.Value.builtin "function.__dict__#set")])) (@List.toArray (@Option @PySem.Value) []))) ::
  (nat_lit 103, (@PySem.Obj.mk (@PySem.Value.type "getset_descriptor") (@Option.none @Nat) (@PySem.Data.fields (@List.toArray @PySem.Value [(@PySem.Value.str (PySem.Str.ofString "__weakref__") 310), (@PySem.Value.ref 101), (@PySem.Value.builtin "ExceptionGroup.__weakref__"), @PySem.Value.none])) (@List.toArray (@Option @PySem.Value) []))) ::
  (nat_lit 137, (@PySem.Obj.mk (@PySem.Value.type "code") (@Option.none @Nat) (@PySem.Data.fields (@List.toArray @PySem.Value [(@PySem.Value.str (PySem.Str.ofString "_parse_coefficients") 350), (@PySem.Value.str (PySem.Str.ofString "PolynomialGeneric._parse_coefficients") 351), (@PySem.Value.str (PySem.Str.ofString "/claim/cut.py") 352), (@PySem.Value.int (70 : Int) 0), (@PySem.Value.int (2 : Int) 0), (@PySem.Value.int (0 : Int) 0), (@PySem.Value.int (0 : Int) 0), (@PySem.Value.int (3 : Int) 0), (@PySem.Value.ref 134), (@PySem.Value.bool @Bool.true), (@PySem.Value.int (181 : Int) 0), (@PySem.Value.ref 135), @PySem.Value.none, @PySem.Value.none, @PySem.Value.none, (@PySem.Value.ref 136), (@PySem.Value.int (353 : Int) 0), (@PySem.Value.int (70 : Int) 0), (@PySem.Value.str (PySem.Str.ofString "/claim/cut.py") 354)])) (@List.toArray (@Option @PySem.Value) []))) ::
  (nat_lit 138, (@PySem.Obj.mk (@PySem.Value.type "function") (@Option.none @Nat) (@PySem.Data.func (@PySem.FuncData.mk (PySem.Str.ofString "_parse_coefficients") (PySem.Str.ofString "PolynomialGeneric._parse_coefficients") (by refine' (fun (x : PSigma fun b : PySem.Arguments => b = psOf (mtAt 13 3)) => x.1) ⟨_, ?h⟩; case h => (conv => rhs; whnf)) (PySem.FuncBody.stmts (by refine' (fun (x : PSigma fun b : (List PySem.Stmt) => b = bdOf (mtAt 13 3)) => x.1) ⟨_, ?h⟩; case h => (conv => rhs; whnf))) (by refine' (fun (x : PSigma fun b : PySem.Scope => b = scOf (mtAt 13 3)) => x.1) ⟨_, ?h⟩; case h => (conv => rhs; whnf)) 3 [] @PySem.Value.none @PySem.Value.none @PySem.Value.none (@PySem.Value.str (PySem.Str.ofString "dilithium_py.polynomials.polynomials_generic") 252) (@Option.none @Nat) (@PySem.Value.ref 137) @PySem.Value.none 0)) (@List.toArray (@Option @PySem.Value) []))) ::
  (nat_lit 263, (@PySem.Obj.mk (@PySem.Value.type "dict") (@Option.none @Nat) (@PySem.Data.dict (@List.toArray @PySem.DictEntry [(@PySem.DictEntry.mk (@PySem.PyData.keyHash P (PySem.Str.ofString "__module__")) (@PySem.Value.str (PySem.Str.ofString "__module__") 322) (@PySem.Value.str (PySem.Str.ofString "dilithium_py.polynomials.polynomials_generic") 252)), (@PySem.DictEntry.mk (@PySem.PyData.keyHash P (PySem.Str.ofString "__firstlineno__")) (@PySem.Value.str (PySem.Str.ofString "__firstlineno__") 326) (@PySem.Value.int (58 : Int) 325)), (@PySem.DictEntry.mk (@PySem.PyData.keyHash P (PySem.Str.ofString "__init__")) (@PySem.Value.str (PySem.Str.ofString "__init__") 335) (@PySem.Value.ref 119)), (@PySem.DictEntry.mk (@PySem.PyData.keyHash P (PySem.Str.ofString "is_zero")) (@PySem.Value.str (PySem.Str.ofString "is_zero") 342) (@PySem.Value.ref 126)), (@PySem.DictEntry.mk (@PySem.PyData.keyHash P (PySem.Str.ofString "is_constant")) (@PySem.Value.str (PySem.Str.ofString "is_constant") 349) (@PySem.Value.ref 133)), (@PySem.DictEntry.mk (@PySem.PyData.keyHash P (PySem.Str.ofString "_parse_coefficients")) (@PySem.Value.str (PySem.Str.ofString "_parse_coefficients") 355) (@PySem.Value.ref 138)), (@PySem.DictEntry.mk (@PySem.PyData.keyHash P (PySem.Str.ofString "reduce_coefficients")) (@PySem.Value.str (PySem.Str.ofString "reduce_coefficients") 362) (@PySem.Value.ref 145)), (@PySem.DictEntry.mk (@PySem.PyData.keyHash P (PySem.Str.ofString "_add_mod_q")) (@PySem.Value.str (PySem.Str.ofString "_add_mod_q") 371) (@PySem.Value.ref 152)), (@PySem.DictEntry.mk (@PySem.PyData.keyHash P (PySem.Str.ofString "_sub_mod_q")) (@PySem.Value.str (PySem.Str.ofString "_sub_mod_q") 380) (@PySem.Value.ref 159)), (@PySem.DictEntry.mk (@PySem.PyData.keyHash P (PySem.Str.ofString "_schoolbook_multiplication")) (@PySem.Value.str (PySem.Str.ofString "_schoolbook_multiplication") 386) (@PySem.Value.ref 164)), (@PySem.DictEntry.mk (@PySem.PyData.keyHash P (PySem.Str.ofString "__neg__")) (@PySem.Value.str (PySem.Str.ofString "__neg__") 392) (@PySem.Value.ref 169)), (@PySem.DictEntry.mk (@PySem.PyData.keyHash P (PySem.Str.ofString "_add_")) (@PySem.Value.str (PySem.Str.ofString "_add_") 398) (@PySem.Value.ref 174)), (@PySem.DictEntry.mk (@PySem.PyData.keyHash P (PySem.Str.ofString "__add__")) (@PySem.Value.str (PySem.Str.ofString "__add__") 407) (@PySem.Value.ref 181)), (@PySem.DictEntry.mk (@PySem.PyData.keyHash P (PySem.Str.ofString "__radd__")) (@PySem.Value.str (PySem.Str.ofString "__radd__") 415) (@PySem.Value.ref 188)), (@PySem.DictEntry.mk (@PySem.PyData.keyHash P (PySem.Str.ofString "__iadd__")) (@PySem.Value.str (PySem.Str.ofString "__iadd__") 423) (@PySem.Value.ref 195)), (@PySem.DictEntry.mk (@PySem.PyData.keyHash P (PySem.Str.ofString "_sub_")) (@PySem.Value.str (PySem.Str.ofString "_sub_") 429) (@PySem.Value.ref 200)), (@PySem.DictEntry.mk (@PySem.PyData.keyHash P (PySem.Str.ofString "__sub__")) (@PySem.Value.str (PySem.Str.ofString "__sub__") 438) (@PySem.Value.ref 207)), (@PySem.DictEntry.mk (@PySem.PyData.keyHash P (PySem.Str.ofString "__rsub__")) (@PySem.Value.str (PySem.Str.ofString "__rsub__") 446) (@PySem.Value.ref 214)), (@PySem.DictEntry.mk (@PySem.PyData.keyHash P (PySem.Str.ofString "__isub__")) (@PySem.Value.str (PySem.Str.ofString "__isub__") 454) (@PySem.Value.ref 221)), (@PySem.DictEntry.mk (@PySem.PyData.keyHash P (PySem.Str.ofString "__mul__")) (@PySem.Value.str (PySem.Str.ofString "__mul__") 460) (@PySem.Value.ref 226)), (@PySem.DictEntry.mk (@PySem.PyData.keyHash P (PySem.Str.ofString "__rmul__")) (@PySem.Value.str (PySem.Str.ofString "__rmul__") 468) (@PySem.Value.ref 233)), (@PySem.DictEntry.mk (@PySem.PyData.keyHash P (PySem.Str.ofString "__imul__")) (@PySem.Value.str (PySem.Str.ofString "__imul__") 476) (@PySem.Value.ref 240)), (@PySem.DictEntry.mk (@PySem.PyData.keyHash P (PySem.Str.ofString "__pow__")) (@PySem.Value.str (PySem.Str.ofString "__pow__") 486) (@PySem.Value.ref 247)), (@PySem.DictEntry.mk (@PySem.PyData.keyHash P (PySem.Str.ofString "__eq__")) (@PySem.Value.str (PySem.Str.ofString "__eq__") 494) (@PySem.Value.ref 254)), (@PySem.DictEntry.mk (@PySem.PyData.keyHash P (PySem.Str.ofString "__getitem__")) (@PySem.Value.str (PySem.Str.ofString "__getitem__") 502) (@PySem.Value.ref 261)), (@PySem.DictEntry.mk (@PySem.PyData.keyHash P (PySem.Str.ofString "__static_attributes__")) (@PySem.Value.str (PySem.Str.ofString "__static_attributes__") 505) (@PySem.Value.ref 262)), (@PySem.DictEntry.mk (@PySem.PyData.keyHash P (PySem.Str.ofString "__dict__")) (@PySem.Value.str (PySem.Str.ofString "__dict__") 507) (@PySem.Value.ref 265)), (@PySem.DictEntry.mk (@PySem.PyData.keyHash P (PySem.Str.ofString "__weakref__")) (@PySem.Value.str (PySem.Str.ofString "__weakref__") 509) (@PySem.Value.ref 266)), (@PySem.DictEntry.mk (@PySem.PyData.keyHash P (PySem.Str.ofString "__doc__")) (@PySem.Value.str (PySem.Str.ofString "__doc__") 510) @PySem.Value.none), (@PySem.DictEntry.mk (@PySem.PyData.keyHash P (PySem.Str.ofString "__hash__")) (@PySem.Value.str (PySem.Str.ofString "__hash__") 511) @PySem.Value.none)]) 5) (@List.toArray (@Option @PySem.Value) []))) ::
  (nat_lit 264, (@PySem.Obj.mk (@PySem.Value.type "type") (@Option.none @Nat) (@PySem.Data.cls (@PySem.ClassData.mk (PySem.Str.ofString "PolynomialGeneric") [(@PySem.Value.type "object")] [(@PySem.Value.ref 264), (@PySem.Value.type "object")] 263 (PySem.Str.ofString "PolynomialGeneric") @Bool.true [] [(@PySem.Value.ref 559)] @Bool.false (@Option.none @Bool) @Bool.false)) (@List.toArray (@Option @PySem.Value) [(@Option.none @PySem.Value), (@Option.none @PySem.Value), (@Option.some @PySem.Value (@PySem.Value.str (PySem.Str.ofString "PolynomialGeneric") 315)), (@Option.some @PySem.Value (@PySem.Value.str (PySem.Str.ofString "PolynomialGeneric") 323)), (@Option.some @PySem.Value (@PySem.Value.builtin "object.__new__")), (@Option.some @PySem.Value (@PySem.Value.bool @Bool.true))]))) ::
  (nat_lit 265, (@PySem.Obj.mk (@PySem.Value.type "getset_descriptor") (@Option.none @Nat) (@PySem.Data.fields (@List.toArray @PySem.Value [(@PySem.Value.str (PySem.Str.ofString "__dict__") 506), (@PySem.Value.ref 264), (@PySem.Value.builtin "function.__dict__"), (@PySem.Value.builtin "function.__dict__#set")])) (@List.toArray (@Option @PySem.Value) []))) ::
  (nat_lit 266, (@PySem.Obj.mk (@PySem.Value.type "getset_descriptor") (@Option.none @Nat) (@PySem.Data.fields (@List.toArray @PySem.Value [(@PySem.Value.str (PySem.Str.ofString "__weakref__") 508), (@PySem.Value.ref 264), (@PySem.Value.builtin "ExceptionGroup.__weakref__"), @PySem.Value.none])) (@List.toArray (@Option @PySem.Value) []))) ::
  (nat_lit 281, (@PySem.Obj.mk (@PySem.Value.type "code") (@Option.none @Nat) (@PySem.Data.fields (@List.toArray @PySem.Value [(@PySem.Value.str (PySem.Str.ofString "__init__") 528), (@PySem.Value.str (PySem.Str.ofString "Shake.__init__") 529), (@PySem.Value.str (PySem.Str.ofString "/claim/cut.py") 530), (@PySem.Value.int (185 : Int) 0), (@PySem.Value.int (3 : Int) 0), (@PySem.Value.int (0 : Int) 0), (@PySem.Value.int (0 : Int) 0), (@PySem.Value.int (3 : Int) 0), (@PySem.Value.ref 276), (@PySem.Value.bool @Bool.true), (@PySem.Value.int (181 : Int) 0), (@PySem.Value.ref 277), @PySem.Value.none, (@PySem.Value.ref 278), (@PySem.Value.ref 279), (@PySem.Value.ref 280), (@PySem.Value.int (534 : Int) 0), (@PySem.Value.int (185 : Int) 0), (@PySem.Value.str (PySem.Str.ofString "/claim/cut.py") 535)])) (@List.toArray (@Option @PySem.Value) []))) ::
  (nat_lit 282, (@PySem.Obj.mk (@PySem.Value.type "function") (@Option.none @Nat) (@PySem.Data.func (@PySem.FuncData.mk (PySem.Str.ofString "__init__") (PySem.Str.ofString "Shake.__init__") (by refine' (fun (x : PSigma fun b : PySem.Arguments => b = psOf (mtAt 15 0)) => x.1) ⟨_, ?h⟩; case h => (conv => rhs; whnf)) (PySem.FuncBody.stmts (by refine' (fun (x : PSigma fun b : (List PySem.Stmt) => b = bdOf (mtAt 15 0)) => x.1) ⟨_, ?h⟩; case h => (conv => rhs; whnf))) (by refine' (fun (x : PSigma fun b : PySem.Scope => b = scOf (mtAt 15 0)) => x.1) ⟨_, ?h⟩; case h => (conv => rhs; whnf)) 3 [] @PySem.Value.none @PySem.Value.none @PySem.Value.none (@PySem.Value.str (PySem.Str.ofString "dilithium_py.shake.shake_wrapper") 514) (@Option.none @Nat) (@PySem.Value.ref 281) @PySem.Value.none 0)) (@List.toArray (@Option @PySem.Value) []))) ::
  (nat_lit 312, (@PySem.Obj.mk (@PySem.Value.type "dict") (@Option.none @Nat) (@PySem.Data.dict (@List.toArray @PySem.DictEntry [(@PySem.DictEntry.mk (@PySem.PyData.keyHash P (PySem.Str.ofString "__module__")) (@PySem.Value.str (PySem.Str.ofString "__module__") 523) (@PySem.Value.str (PySem.Str.ofString "dilithium_py.shake.shake_wrapper") 514)), (@PySem.DictEntry.mk (@PySem.PyData.keyHash P (PySem.Str.ofString "__firstlineno__")) (@PySem.Value.str (PySem.Str.ofString "__firstlineno__") 527) (@PySem.Value.int (183 : Int) 526)), (@PySem.DictEntry.mk (@PySem.PyData.keyHash P (PySem.Str.ofString "__init__")) (@PySem.Value.str (PySem.Str.ofString "__init__") 536) (@PySem.Value.ref 282)), (@PySem.DictEntry.mk (@PySem.PyData.keyHash P (PySem.Str.ofString "absorb")) (@PySem.Value.str (PySem.Str.ofString "absorb") 544) (@PySem.Value.ref 289)), (@PySem.DictEntry.mk (@PySem.PyData.keyHash P (PySem.Str.ofString "xof_read")) (@PySem.Value.str (PySem.Str.ofString "xof_read") 552) (@PySem.Value.ref 296)), (@PySem.DictEntry.mk (@PySem.PyData.keyHash P (PySem.Str.ofString "read")) (@PySem.Value.str (PySem.Str.ofString "read") 561) (@PySem.Value.ref 303)), (@PySem.DictEntry.mk (@PySem.PyData.keyHash P (PySem.Str.ofString "__call__")) (@PySem.Value.str (PySem.Str.ofString "__call__") 569) (@PySem.Value.ref 310)), (@PySem.DictEntry.mk (@PySem.PyData.keyHash P (PySem.Str.ofString "__static_attributes__")) (@PySem.Value.str (PySem.Str.ofString "__static_attributes__") 576) (@PySem.Value.ref 311)), (@PySem.DictEntry.mk (@PySem.PyData.keyHash P (PySem.Str.ofString "__dict__")) (@PySem.Value.str (PySem.Str.ofString "__dict__") 578) (@PySem.Value.ref 314)), (@PySem.DictEntry.mk (@PySem.PyData.keyHash P (PySem.Str.ofString "__weakref__")) (@PySem.Value.str (PySem.Str.ofString "__weakref__") 580) (@PySem.Value.ref 315)), (@PySem.DictEntry.mk (@PySem.PyData.keyHash P (PySem.Str.ofString "__doc__")) (@PySem.Value.str (PySem.Str.ofString "__doc__") 581) @PySem.Value.none)]) 4) (@List.toArray (@Option @PySem.Value) []))) ::
  (nat_lit 313, (@PySem.Obj.mk (@PySem.Value.type "type") (@Option.none @Nat) (@PySem.Data.cls (@PySem.ClassData.mk (PySem.Str.ofString "Shake") [(@PySem.Value.type "object")] [(@PySem.Value.ref 313), (@PySem.Value.type "object")] 312 (PySem.Str.ofString "Shake") @Bool.true [] [] @Bool.false (@Option.none @Bool) @Bool.false)) (@List.toArray (@Option @PySem.Value) [(@Option.none @PySem.Value), (@Option.none @PySem.Value), (@Option.some @PySem.Value (@PySem.Value.str (PySem.Str.ofString "Shake") 516)), (@Option.some @PySem.Value (@PySem.Value.str (PySem.Str.ofString "Shake") 524)), (@Option.some @PySem.Value (@PySem.Value.builtin "object.__new__")), (@Option.some @PySem.Value (@PySem.Value.bool @Bool.true))]))) ::
  (nat_lit 314, (@PySem.Obj.mk (@PySem.Value.type "getset_descriptor") (@Option.none @Nat) (@PySem.Data.fields (@List.toArray @PySem.Value [(@PySem.Value.str (PySem.Str.ofString "__dict__") 577), (@PySem.Value.ref 313), (@PySem.Value.builtin "function.__dict__"), (@PySem.Value.builtin "function.__dict__#set")])) (@List.toArray (@Option @PySem.Value) []))) ::
  (nat_lit 315, (@PySem.Obj.mk (@PySem.Value.type "getset_descriptor") (@Option.none @Nat) (@PySem.Data.fields (@List.toArray @PySem.Value [(@PySem.Value.str (PySem.Str.ofString "__weakref__") 579), (@PySem.Value.ref 313), (@PySem.Value.builtin "ExceptionGroup.__weakref__"), @PySem.Value.none])) (@List.toArray (@Option @PySem.Value) []))) ::
  (nat_lit 328, (@PySem.Obj.mk (@PySem.Value.type "code") (@Option.none @Nat) (@PySem.Data.fields (@List.toArray @PySem.Value [(@PySem.Value.str (PySem.Str.ofString "__init__") 598), (@PySem.Value.str (PySem.Str.ofString "PolynomialRing.__init__") 599), (@PySem.Value.str (PySem.Str.ofString "/claim/cut.py") 600), (@PySem.Value.int (214 : Int) 0), (@PySem.Value.int (3 : Int) 0), (@PySem.Value.int (0 : Int) 0), (@PySem.Value.int (0 : Int) 0), (@PySem.Value.int (3 : Int) 0), (@PySem.Value.ref 325), (@PySem.Value.bool @Bool.true), (@PySem.Value.int (181 : Int) 0), (@PySem.Value.ref 326), @PySem.Value.none, @PySem.Value.none, @PySem.Value.none, (@PySem.Value.ref 327), (@PySem.Value.int (601 : Int) 0), (@PySem.Value.int (214 : Int) 0), (@PySem.Value.str (PySem.Str.ofString "/claim/cut.py") 602)])) (@List.toArray (@Option @PySem.Value) []))) ::
  (nat_lit 329, (@PySem.Obj.mk (@PySem.Value.type "function") (@Option.none @Nat) (@PySem.Data.func (@PySem.FuncData.mk (PySem.Str.ofString "__init__") (PySem.Str.ofString "PolynomialRing.__init__") (by refine' (fun (x : PSigma fun b : PySem.Arguments => b = psOf (mtAt 17 0)) => x.1) ⟨_, ?h⟩; case h => (conv => rhs; whnf)) (PySem.FuncBody.stmts (by refine' (fun (x : PSigma fun b : (List PySem.Stmt) => b = bdOf (mtAt 17 0)) => x.1) ⟨_, ?h⟩; case h => (conv => rhs; whnf))) (by refine' (fun (x : PSigma fun b : PySem.Scope => b = scOf (mtAt 17 0)) => x.1) ⟨_, ?h⟩; case h => (conv => rhs; whnf)) 3 [] @PySem.Value.none @PySem.Value.none @PySem.Value.none (@PySem.Value.str (PySem.Str.ofString "dilithium_py.polynomials.polynomials") 584) (@Option.none @Nat) (@PySem.Value.ref 328) @PySem.Value.none 0)) (@List.toArray (@Option @PySem.Value) []))) ::
  (nat_lit 335, (@PySem.Obj.mk (@PySem.Value.type "code") (@Option.none @Nat) (@PySem.Data.fields (@List.toArray @PySem.Value [(@PySem.Value.str (PySem.Str.ofString "br") 604), (@PySem.Value.str (PySem.Str.ofString "PolynomialRing.br") 605), (@PySem.Value.str (PySem.Str.ofString "/claim/cut.py") 606), (@PySem.Value.int (223 : Int) 0), (@PySem.Value.int (2 : Int) 0), (@PySem.Value.int (0 : Int) 0), (@PySem.Value.int (0 : Int) 0), (@PySem.Value.int (3 : Int) 0), (@PySem.Value.ref 330), (@PySem.Value.bool @Bool.true), (@PySem.Value.int (181 : Int) 0), (@PySem.Value.ref 331), @PySem.Value.none, (@PySem.Value.ref 332), (@PySem.Value.ref 333), (@PySem.Value.ref 334), (@PySem.Value.int (610 : Int) 0), (@PySem.Value.int (223 : Int) 0), (@PySem.Value.str (PySem.Str.ofString "/claim/cut.py") 611)])) (@List.toArray (@Option @PySem.Value) []))) ::
  (nat_lit 336, (@PySem.Obj.mk (@PySem.Value.type "function") (@Option.none @Nat) (@PySem.Data.func (@PySem.FuncData.mk (PySem.Str.ofString "br") (PySem.Str.ofString "PolynomialRing.br") (by refine' (fun (x : PSigma fun b : PySem.Arguments => b = psOf (mtAt 17 1)) => x.1) ⟨_, ?h⟩; case h => (conv => rhs; whnf)) (PySem.FuncBody.stmts (by refine' (fun (x : PSigma fun b : (List PySem.Stmt) => b = bdOf (mtAt 17 1)) => x.1) ⟨_, ?h⟩; case h => (conv => rhs; whnf))) (by refine' (fun (x : PSigma fun b : PySem.Scope => b = scOf (mtAt 17 1)) => x.1) ⟨_, ?h⟩; case h => (conv => rhs; whnf)) 3 [] @PySem.Value.none @PySem.Value.none @PySem.Value.none (@PySem.Value.str (PySem.Str.ofString "dilithium_py.polynomials.polynomials") 584) (@Option.some @Nat 339) (@PySem.Value.ref 335) @PySem.Value.none 0)) (@List.toArray (@Option @PySem.Value) []))) ::
  (nat_lit 337, (@PySem.Obj.mk (@PySem.Value.type "dict") (@Option.none @Nat) (@PySem.Data.dict (@List.toArray @PySem.DictEntry [(@PySem.DictEntry.mk (@PySem.PyData.keyHash P (PySem.Str.ofString "__module__")) (@PySem.Value.str (PySem.Str.ofString "__module__") 613) (@PySem.Value.str (PySem.Str.ofString "dilithium_py.polynomials.polynomials") 584)), (@PySem.DictEntry.mk (@PySem.PyData.keyHash P (PySem.Str.ofString "__name__")) (@PySem.Value.str (PySem.Str.ofString "__name__") 616) (@PySem.Value.str (PySem.Str.ofString "br") 615)), (@PySem.DictEntry.mk (@PySem.PyData.keyHash P (PySem.Str.ofString "__qualname__")) (@PySem.Value.str (PySem.Str.ofString "__qualname__") 619) (@PySem.Value.str (PySem.Str.ofString "PolynomialRing.br") 618)), (@PySem.DictEntry.mk (@PySem.PyData.keyHash P (PySem.Str.ofString "__doc__")) (@PySem.Value.str (PySem.Str.ofString "__doc__") 621) @PySem.Value.none), (@PySem.DictEntry.mk (@PySem.PyData.keyHash P (PySem.Str.ofString "__annotations__")) (@PySem.Value.str (PySem.Str.ofString "__annotations__") 623) (@PySem.Value.ref 339))]) 5) (@List.toArray (@Option @PySem.Value) []))) ::
  (nat_lit 338, (@PySem.Obj.mk (@PySem.Value.type "staticmethod") (@Option.some @Nat 337) (@PySem.Data.fields (@List.toArray @PySem.Value [(@PySem.Value.ref 336), (@PySem.Value.bool @Bool.false)])) (@List.toArray (@Option @PySem.Value) []))) ::
  (nat_lit 339, (@PySem.Obj.mk (@PySem.Value.type "dict") (@Option.none @Nat) (@PySem.Data.dict (@List.toArray @PySem.DictEntry []) 0) (@List.toArray (@Option @PySem.Value) []))) ::
  (nat_lit 410, (@PySem.Obj.mk (@PySem.Value.type "tuple") (@Option.none @Nat) (@PySem.Data.seq (@List.toArray @PySem.Value [(@PySem.Value.bool @Bool.false)]) 0) (@List.toArray (@Option @PySem.Value) []))) ::
  (nat_lit 416, (@PySem.Obj.mk (@PySem.Value.type "code") (@Option.none @Nat) (@PySem.Data.fields (@List.toArray @PySem.Value [(@PySem.Value.str (PySem.Str.ofString "__call__") 717), (@PySem.Value.str (PySem.Str.ofString "PolynomialRing.__call__") 718), (@PySem.Value.str (PySem.Str.ofString "/claim/cut.py") 719), (@PySem.Value.int (258 : Int) 0), (@PySem.Value.int (3 : Int) 0), (@PySem.Value.int (0 : Int) 0), (@PySem.Value.int (0 : Int) 0), (@PySem.Value.int (3 : Int) 0), (@PySem.Value.ref 411), (@PySem.Value.bool @Bool.true), (@PySem.Value.int (181 : Int) 0), (@PySem.Value.ref 412), @PySem.Value.none, (@PySem.Value.ref 413), (@PySem.Value.ref 414), (@PySem.Value.ref 415), (@PySem.Value.int (723 : Int) 0), (@PySem.Value.int (258 : Int) 0), (@PySem.Value.str (PySem.Str.ofString "/claim/cut.py") 724)])) (@List.toArray (@Option @PySem.Value) []))) ::
  (nat_lit 417, (@PySem.Obj.mk (@PySem.Value.type "function") (@Option.none @Nat) (@PySem.Data.func (@PySem.FuncData.mk (PySem.Str.ofString "__call__") (PySem.Str.ofString "PolynomialRing.__call__") (by refine' (fun (x : PSigma fun b : PySem.Arguments => b = psOf (mtAt 17 12)) => x.1) ⟨_, ?h⟩; case h => (conv => rhs; whnf)) (PySem.FuncBody.stmts (by refine' (fun (x : PSigma fun b : (List PySem.Stmt) => b = bdOf (mtAt 17 12)) => x.1) ⟨_, ?h⟩; case h => (conv => rhs; whnf))) (by refine' (fun (x : PSigma fun b : PySem.Scope => b = scOf (mtAt 17 12)) => x.1) ⟨_, ?h⟩; case h => (conv => rhs; whnf)) 3 [] (@PySem.Value.ref 410) @PySem.Value.none @PySem.Value.none (@PySem.Value.str (PySem.Str.ofString "dilithium_py.polynomials.polynomials") 584) (@Option.none @Nat) (@PySem.Value.ref 416) @PySem.Value.none 0)) (@List.toArray (@Option @PySem.Value) []))) ::
  (nat_lit 426, (@PySem.Obj.mk (@PySem.Value.type "dict") (@Option.none @Nat) (@PySem.Data.dict (@List.toArray @PySem.DictEntry [(@PySem.DictEntry.mk (@PySem.PyData.keyHash P (PySem.Str.ofString "__module__")) (@PySem.Value.str (PySem.Str.ofString "__module__") 593) (@PySem.Value.str (PySem.Str.ofString "dilithium_py.polynomials.polynomials") 584)), (@PySem.DictEntry.mk (@PySem.PyData.keyHash P (PySem.Str.ofString "__firstlineno__")) (@PySem.Value.str (PySem.Str.ofString "__firstlineno__") 597) (@PySem.Value.int (212 : Int) 596)), (@PySem.DictEntry.mk (@PySem.PyData.keyHash P (PySem.Str.ofString "__init__")) (@PySem.Value.str (PySem.Str.ofString "__init__") 603) (@PySem.Value.ref 329)), (@PySem.DictEntry.mk (@PySem.PyData.keyHash P (PySem.Str.ofString "br")) (@PySem.Value.str (PySem.Str.ofString "br") 624) (@PySem.Value.ref 338)), (@PySem.DictEntry.mk (@PySem.PyData.keyHash P (PySem.Str.ofString "sample_in_ball")) (@PySem.Value.str (PySem.Str.ofString "sample_in_ball") 633) (@PySem.Value.ref 346)), (@PySem.DictEntry.mk (@PySem.PyData.keyHash P (PySem.Str.ofString "rejection_sample_ntt_poly")) (@PySem.Value.str (PySem.Str.ofString "rejection_sample_ntt_poly") 643) (@PySem.Value.ref 353)), (@PySem.DictEntry.mk (@PySem.PyData.keyHash P (PySem.Str.ofString "rejection_bounded_poly")) (@PySem.Value.str (PySem.Str.ofString "rejection_bounded_poly") 653) (@PySem.Value.ref 360)), (@PySem.DictEntry.mk (@PySem.PyData.keyHash P (PySem.Str.ofString "sample_mask_polynomial")) (@PySem.Value.str (PySem.Str.ofString "sample_mask_polynomial") 664) (@PySem.Value.ref 367)), (@PySem.DictEntry.mk (@PySem.PyData.keyHash P (PySem.Str.ofString "_bit_unpack")) (@PySem.Value.str (PySem.Str.ofString "_bit_unpack") 673) (@PySem.Value.ref 374)), (@PySem.DictEntry.mk (@PySem.PyData.keyHash P (PySem.Str.ofString "bit_unpack_t0")) (@PySem.Value.str (PySem.Str.ofString "bit_unpack_t0") 681) (@PySem.Value.ref 381)), (@PySem.DictEntry.mk (@PySem.PyData.keyHash P (PySem.Str.ofString "bit_unpack_t1")) (@PySem.Value.str (PySem.Str.ofString "bit_unpack_t1") 689) (@PySem.Value.ref 388)), (@PySem.DictEntry.mk (@PySem.PyData.keyHash P (PySem.Str.ofString "bit_unpack_s")) (@PySem.Value.str (PySem.Str.ofString "bit_unpack_s") 698) (@PySem.Value.ref 395)), (@PySem.DictEntry.mk (@PySem.PyData.keyHash P (PySem.Str.ofString "bit_unpack_w")) (@PySem.Value.str (PySem.Str.ofString "bit_unpack_w") 707) (@PySem.Value.ref 402)), (@PySem.DictEntry.mk (@PySem.PyData.keyHash P (PySem.Str.ofString "bit_unpack_z")) (@PySem.Value.str (PySem.Str.ofString "bit_unpack_z") 716) (@PySem.Value.ref 409)), (@PySem.DictEntry.mk (@PySem.PyData.keyHash P (PySem.Str.ofString "__call__")) (@PySem.Value.str (PySem.Str.ofString "__call__") 725) (@PySem.Value.ref 417)), (@PySem.DictEntry.mk (@PySem.PyData.keyHash P (PySem.Str.ofString "is_element")) (@PySem.Value.str (PySem.Str.ofString "is_element") 733) (@PySem.Value.ref 424)), (@PySem.DictEntry.mk (@PySem.PyData.keyHash P (PySem.Str.ofString "__static_attributes__")) (@PySem.Value.str (PySem.Str.ofString "__static_attributes__") 740) (@PySem.Value.ref 425)), (@PySem.DictEntry.mk (@PySem.PyData.keyHash P (PySem.Str.ofString "__doc__")) (@PySem.Value.str (PySem.Str.ofString "__doc__") 741) @PySem.Value.none)]) 2) (@List.toArray (@Option @PySem.Value) []))) ::
  (nat_lit 427, (@PySem.Obj.mk (@PySem.Value.type "type") (@Option.none @Nat) (@PySem.Data.cls (@PySem.ClassData.mk (PySem.Str.ofString "PolynomialRing") [(@PySem.Value.ref 101)] [(@PySem.Value.ref 427), (@PySem.Value.ref 101), (@PySem.Value.type "object")] 426 (PySem.Str.ofString "PolynomialRing") @Bool.true [] [] @Bool.false (@Option.none @Bool) @Bool.false)) (@List.toArray (@Option @PySem.Value) [(@Option.some @PySem.Value (@PySem.Value.ref 318)), (@Option.none @PySem.Value), (@Option.some @PySem.Value (@PySem.Value.str (PySem.Str.ofString "PolynomialRing") 586)), (@Option.some @PySem.Value (@PySem.Value.str (PySem.Str.ofString "PolynomialRing") 594)), (@Option.some @PySem.Value (@PySem.Value.builtin "object.__new__")), (@Option.some @PySem.Value (@PySem.Value.bool @Bool.true))]))) ::
  (nat_lit 442, (@PySem.Obj.mk (@PySem.Value.type "code") (@Option.none @Nat) (@PySem.Data.fields (@List.toArray @PySem.Value [(@PySem.Value.str (PySem.Str.ofString "__init__") 756), (@PySem.Value.str (PySem.Str.ofString "Polynomial.__init__") 757), (@PySem.Value.str (PySem.Str.ofString "/claim/cut.py") 758), (@PySem.Value.int (271 : Int) 0), (@PySem.Value.int (3 : Int) 0), (@PySem.Value.int (0 : Int) 0), (@PySem.Value.int (0 : Int) 0), (@PySem.Value.int (3 : Int) 0), (@PySem.Value.ref 437), (@PySem.Value.bool @Bool.true), (@PySem.Value.int (181 : Int) 0), (@PySem.Value.ref 438), @PySem.Value.none, (@PySem.Value.ref 439), (@PySem.Value.ref 440), (@PySem.Value.ref 441), (@PySem.Value.int (762 : Int) 0), (@PySem.Value.int (271 : Int) 0), (@PySem.Value.str (PySem.Str.ofString "/claim/cut.py") 763)])) (@List.toArray (@Option @PySem.Value) []))) ::
  (nat_lit 443, (@PySem.Obj.mk (@PySem.Value.type "function") (@Option.none @Nat) (@PySem.Data.func (@PySem.FuncData.mk (PySem.Str.ofString "__init__") (PySem.Str.ofString "Polynomial.__init__") (by refine' (fun (x : PSigma fun b : PySem.Arguments => b = psOf (mtAt 18 0)) => x.1) ⟨_, ?h⟩; case h => (conv => rhs; whnf)) (PySem.FuncBody.stmts (by refine' (fun (x : PSigma fun b : (List PySem.Stmt) => b = bdOf (mtAt 18 0)) => x.1) ⟨_, ?h⟩; case h => (conv => rhs; whnf))) (by refine' (fun (x : PSigma fun b : PySem.Scope => b = scOf (mtAt 18 0)) => x.1) ⟨_, ?h⟩; case h => (conv => rhs; whnf)) 3 [] @PySem.Value.none @PySem.Value.none @PySem.Value.none (@PySem.Value.str (PySem.Str.ofString "dilithium_py.polynomials.polynomials") 584) (@Option.none @Nat) (@PySem.Value.ref 442) @PySem.Value.none 0)) (@List.toArray (@Option @PySem.Value) []))) ::
  (nat_lit 463, (@PySem.Obj.mk (@PySem.Value.type "code") (@Option.none @Nat) (@PySem.Data.fields (@List.toArray @PySem.Value [(@PySem.Value.str (PySem.Str.ofString "power_2_round") 779), (@PySem.Value.str (PySem.Str.ofString "Polynomial.power_2_round") 780), (@PySem.Value.str (PySem.Str.ofString "/claim/cut.py") 781), (@PySem.Value.int (281 : Int) 0), (@PySem.Value.int (2 : Int) 0), (@PySem.Value.int (0 : Int) 0), (@PySem.Value.int (0 : Int) 0), (@PySem.Value.int (3 : Int) 0), (@PySem.Value.ref 458), (@PySem.Value.bool @Bool.true), (@PySem.Value.int (181 : Int) 0), (@PySem.Value.ref 459), @PySem.Value.none, (@PySem.Value.ref 460), (@PySem.Value.ref 461), (@PySem.Value.ref 462), (@PySem.Value.int (792 : Int) 0), (@PySem.Value.int (281 : Int) 0), (@PySem.Value.str (PySem.Str.ofString "/claim/cut.py") 793)])) (@List.toArray (@Option @PySem.Value) []))) ::
  (nat_lit 464, (@PySem.Obj.mk (@PySem.Value.type "function") (@Option.none @Nat) (@PySem.Data.func (@PySem.FuncData.mk (PySem.Str.ofString "power_2_round") (PySem.Str.ofString "Polynomial.power_2_round") (by refine' (fun (x : PSigma fun b : PySem.Arguments => b = psOf (mtAt 18 3)) => x.1) ⟨_, ?h⟩; case h => (conv => rhs; whnf)) (PySem.FuncBody.stmts (by refine' (fun (x : PSigma fun b : (List PySem.Stmt) => b = bdOf (mtAt 18 3)) => x.1) ⟨_, ?h⟩; case h => (conv => rhs; whnf))) (by refine' (fun (x : PSigma fun b : PySem.Scope => b = scOf (mtAt 18 3)) => x.1) ⟨_, ?h⟩; case h => (conv => rhs; whnf)) 3 [] @PySem.Value.none @PySem.Value.none @PySem.Value.none (@PySem.Value.str (PySem.Str.ofString "dilithium_py.polynomials.polynomials") 584) (@Option.none @Nat) (@PySem.Value.ref 463) @PySem.Value.none 0)) (@List.toArray (@Option @PySem.Value) []))) ::
  (nat_lit 465, (@PySem.Obj.mk (@PySem.Value.type "tuple") (@Option.none @Nat) (@PySem.Data.seq (@List.toArray @PySem.Value [(@PySem.Value.bool @Bool.false)]) 0) (@List.toArray (@Option @PySem.Value) []))) ::
  (nat_lit 469, (@PySem.Obj.mk (@PySem.Value.type "code") (@Option.none @Nat) (@PySem.Data.fields (@List.toArray @PySem.Value [(@PySem.Value.str (PySem.Str.ofString "high_bits") 795), (@PySem.Value.str (PySem.Str.ofString "Polynomial.high_bits") 796), (@PySem.Value.str (PySem.Str.ofString "/claim/cut.py") 797), (@PySem.Value.int (294 : Int) 0), (@PySem.Value.int (3 : Int) 0), (@PySem.Value.int (0 : Int) 0), (@PySem.Value.int (0 : Int) 0), (@PySem.Value.int (3 : Int) 0), (@PySem.Value.ref 466), (@PySem.Value.bool @Bool.true), (@PySem.Value.int (181 : Int) 0), (@PySem.Value.ref 467), @PySem.Value.none, @PySem.Value.none, @PySem.Value.none, (@PySem.Value.ref 468), (@PySem.Value.int (798 : Int) 0), (@PySem.Value.int (294 : Int) 0), (@PySem.Value.str (PySem.Str.ofString "/claim/cut.py") 799)])) (@List.toArray (@Option @PySem.Value) []))) ::
  (nat_lit 470, (@PySem.Obj.mk (@PySem.Value.type "function") (@Option.none @Nat) (@PySem.Data.func (@PySem.FuncData.mk (PySem.Str.ofString "high_bits") (PySem.Str.ofString "Polynomial.high_bits") (by refine' (fun (x : PSigma fun b : PySem.Arguments => b = psOf (mtAt 18 4)) => x.1) ⟨_, ?h⟩; case h => (conv => rhs; whnf)) (PySem.FuncBody.stmts (by refine' (fun (x : PSigma fun b : (List PySem.Stmt) => b = bdOf (mtAt 18 4)) => x.1) ⟨_, ?h⟩; case h => (conv => rhs; whnf))) (by refine' (fun (x : PSigma fun b : PySem.Scope => b = scOf (mtAt 18 4)) => x.1) ⟨_, ?h⟩; case h => (conv => rhs; whnf)) 3 [] (@PySem.Value.ref 465) @PySem.Value.none @PySem.Value.none (@PySem.Value.str (PySem.Str.ofString "dilithium_py.polynomials.polynomials") 584) (@Option.none @Nat) (@PySem.Value.ref 469) @PySem.Value.none 0)) (@List.toArray (@Option @PySem.Value) []))) ::
  (nat_lit 471, (@PySem.Obj.mk (@PySem.Value.type "tuple") (@Option.none @Nat) (@PySem.Data.seq (@List.toArray @PySem.Value [(@PySem.Value.bool @Bool.false)]) 0) (@List.toArray (@Option @PySem.Value) []))) ::
  (nat_lit 475, (@PySem.Obj.mk (@PySem.Value.type "code") (@Option.none @Nat) (@PySem.Data.fields (@List.toArray @PySem.Value [(@PySem.Value.str (PySem.Str.ofString "low_bits") 801), (@PySem.Value.str (PySem.Str.ofString "Polynomial.low_bits") 802), (@PySem.Value.str (PySem.Str.ofString "/claim/cut.py") 803), (@PySem.Value.int (298 : Int) 0), (@PySem.Value.int (3 : Int) 0), (@PySem.Value.int (0 : Int) 0), (@PySem.Value.int (0 : Int) 0), (@PySem.Value.int (3 : Int) 0), (@PySem.Value.ref 472), (@PySem.Value.bool @Bool.true), (@PySem.Value.int (181 : Int) 0), (@PySem.Value.ref 473), @PySem.Value.none, @PySem.Value.none, @PySem.Value.none, (@PySem.Value.ref 474), (@PySem.Value.int (804 : Int) 0), (@PySem.Value.int (298 : Int) 0), (@PySem.Value.str (PySem.Str.ofString "/claim/cut.py") 805)])) (@List.toArray (@Option @PySem.Value) []))) ::
  (nat_lit 476, (@PySem.Obj.mk (@PySem.Value.type "function") (@Option.none @Nat) (@PySem.Data.func (@PySem.FuncData.mk (PySem.Str.ofString "low_bits") (PySem.Str.ofString "Polynomial.low_bits") (by refine' (fun (x : PSigma fun b : PySem.Arguments => b = psOf (mtAt 18 5)) => x.1) ⟨_, ?h⟩; case h => (conv => rhs; whnf)) (PySem.FuncBody.stmts (by refine' (fun (x : PSigma fun b : (List PySem.Stmt) => b = bdOf (mtAt 18 5)) => x.1) ⟨_, ?h⟩; case h => (conv => rhs; whnf))) (by refine' (fun (x : PSigma fun b : PySem.Scope => b = scOf (mtAt 18 5)) => x.1) ⟨_, ?h⟩; case h => (conv => rhs; whnf)) 3 [] (@PySem.Value.ref 471) @PySem.Value.none @PySem.Value.none (@PySem.Value.str (PySem.Str.ofString "dilithium_py.polynomials.polynomials") 584) (@Option.none @Nat) (@PySem.Value.ref 475) @PySem.Value.none 0)) (@List.toArray (@Option @PySem.Value) []))) ::
  (nat_lit 482, (@PySem.Obj.mk (@PySem.Value.type "code") (@Option.none @Nat) (@PySem.Data.fields (@List.toArray @PySem.Value [(@PySem.Value.str (PySem.Str.ofString "decompose") 808), (@PySem.Value.str (PySem.Str.ofString "Polynomial.decompose") 809), (@PySem.Value.str (PySem.Str.ofString "/claim/cut.py") 810), (@PySem.Value.int (303 : Int) 0), (@PySem.Value.int (2 : Int) 0), (@PySem.Value.int (0 : Int) 0), (@PySem.Value.int (0 : Int) 0), (@PySem.Value.int (3 : Int) 0), (@PySem.Value.ref 477), (@PySem.Value.bool @Bool.true), (@PySem.Value.int (181 : Int) 0), (@PySem.Value.ref 478), @PySem.Value.none, (@PySem.Value.ref 479), (@PySem.Value.ref 480), (@PySem.Value.ref 481), (@PySem.Value.int (818 : Int) 0), (@PySem.Value.int (303 : Int) 0), (@PySem.Value.str (PySem.Str.ofString "/claim/cut.py") 819)])) (@List.toArray (@Option @PySem.Value) []))) ::
  (nat_lit 483, (@PySem.Obj.mk (@PySem.Value.type "function") (@Option.none @Nat) (@PySem.Data.func (@PySem.FuncData.mk (PySem.Str.ofString "decompose") (PySem.Str.ofString "Polynomial.decompose") (by refine' (fun (x : PSigma fun b : PySem.Arguments => b = psOf (mtAt 18 7)) => x.1) ⟨_, ?h⟩; case h => (conv => rhs; whnf)) (PySem.FuncBody.stmts (by refine' (fun (x : PSigma fun b : (List PySem.Stmt) => b = bdOf (mtAt 18 7)) => x.1) ⟨_, ?h⟩; case h => (conv => rhs; whnf))) (by refine' (fun (x : PSigma fun b : PySem.Scope => b = scOf (mtAt 18 7)) => x.1) ⟨_, ?h⟩; case h => (conv => rhs; whnf)) 3 [] @PySem.Value.none @PySem.Value.none @PySem.Value.none (@PySem.Value.str (PySem.Str.ofString "dilithium_py.polynomials.polynomials") 584) (@Option.none @Nat) (@PySem.Value.ref 482) @PySem.Value.none 0)) (@List.toArray (@Option @PySem.Value) []))) ::
  (nat_lit 489, (@PySem.Obj.mk (@PySem.Value.type "code") (@Option.none @Nat) (@PySem.Data.fields (@List.toArray @PySem.Value [(@PySem.Value.str (PySem.Str.ofString "check_norm_bound") 821), (@PySem.Value.str (PySem.Str.ofString "Polynomial.check_norm_bound") 822), (@PySem.Value.str (PySem.Str.ofString "/claim/cut.py") 823), (@PySem.Value.int (312 : Int) 0), (@PySem.Value.int (2 : Int) 0), (@PySem.Value.int (0 : Int) 0), (@PySem.Value.int (0 : Int) 0), (@PySem.Value.int (3 : Int) 0), (@PySem.Value.ref 484), (@PySem.Value.bool @Bool.true), (@PySem.Value.int (181 : Int) 0), (@PySem.Value.ref 485), @PySem.Value.none, (@PySem.Value.ref 486), (@PySem.Value.ref 487), (@PySem.Value.ref 488), (@PySem.Value.int (828 : Int) 0), (@PySem.Value.int (312 : Int) 0), (@PySem.Value.str (PySem.Str.ofString "/claim/cut.py") 829)])) (@List.toArray (@Option @PySem.Value) []))) ::
  (nat_lit 490, (@PySem.Obj.mk (@PySem.Value.type "function") (@Option.none @Nat) (@PySem.Data.func (@PySem.FuncData.mk (PySem.Str.ofString "check_norm_bound") (PySem.Str.ofString "Polynomial.check_norm_bound") (by refine' (fun (x : PSigma fun b : PySem.Arguments => b = psOf (mtAt 18 8)) => x.1) ⟨_, ?h⟩; case h => (conv => rhs; whnf)) (PySem.FuncBody.stmts (by refine' (fun (x : PSigma fun b : (List PySem.Stmt) => b = bdOf (mtAt 18 8)) => x.1) ⟨_, ?h⟩; case h => (conv => rhs; whnf))) (by refine' (fun (x : PSigma fun b : PySem.Scope => b = scOf (mtAt 18 8)) => x.1) ⟨_, ?h⟩; case h => (conv => rhs; whnf)) 3 [] @PySem.Value.none @PySem.Value.none @PySem.Value.none (@PySem.Value.str (PySem.Str.ofString "dilithium_py.polynomials.polynomials") 584) (@Option.none @Nat) (@PySem.Value.ref 489) @PySem.Value.none 0)) (@List.toArray (@Option @PySem.Value) []))) ::
  (nat_lit 498, (@PySem.Obj.mk (@PySem.Value.type "dict") (@Option.none @Nat) (@PySem.Data.dict (@List.toArray @PySem.DictEntry [(@PySem.DictEntry.mk (@PySem.PyData.keyHash P (PySem.Str.ofString "__module__")) (@PySem.Value.str (PySem.Str.ofString "__module__") 841) (@PySem.Value.str (PySem.Str.ofString "dilithium_py.polynomials.polynomials") 584)), (@PySem.DictEntry.mk (@PySem.PyData.keyHash P (PySem.Str.ofString "__name__")) (@PySem.Value.str (PySem.Str.ofString "__name__") 844) (@PySem.Value.str (PySem.Str.ofString "_bit_pack") 843)), (@PySem.DictEntry.mk (@PySem.PyData.keyHash P (PySem.Str.ofString "__qualname__")) (@PySem.Value.str (PySem.Str.ofString "__qualname__") 847) (@PySem.Value.str (PySem.Str.ofString "Polynomial._bit_pack") 846)), (@PySem.DictEntry.mk (@PySem.PyData.keyHash P (PySem.Str.ofString "__doc__")) (@PySem.Value.str (PySem.Str.ofString "__doc__") 849) @PySem.Value.none), (@PySem.DictEntry.mk (@PySem.PyData.keyHash P (PySem.Str.ofString "__annotations__")) (@PySem.Value.str (PySem.Str.ofString "__annotations__") 851) (@PySem.Value.ref 500))]) 5) (@List.toArray (@Option @PySem.Value) []))) ::
  (nat_lit 499, (@PySem.Obj.mk (@PySem.Value.type "staticmethod") (@Option.some @Nat 498) (@PySem.Data.fields (@List.toArray @PySem.Value [(@PySem.Value.ref 497), (@PySem.Value.bool @Bool.false)])) (@List.toArray (@Option @PySem.Value) []))) ::
  (nat_lit 500, (@PySem.Obj.mk (@PySem.Value.type "dict") (@Option.none @Nat) (@PySem.Data.dict (@List.toArray @PySem.DictEntry []) 0) (@List.toArray (@Option @PySem.Value) []))) ::
  (nat_lit 558, (@PySem.Obj.mk (@PySem.Value.type "dict") (@Option.none @Nat) (@PySem.Data.dict (@List.toArray @PySem.DictEntry [(@PySem.DictEntry.mk (@PySem.PyData.keyHash P (PySem.Str.ofString "__module__")) (@PySem.Value.str (PySem.Str.ofString "__module__") 751) (@PySem.Value.str (PySem.Str.ofString "dilithium_py.polynomials.polynomials") 584)), (@PySem.DictEntry.mk (@PySem.PyData.keyHash P (PySem.Str.ofString "__firstlineno__")) (@PySem.Value.str (PySem.Str.ofString "__firstlineno__") 755) (@PySem.Value.int (269 : Int) 754)), (@PySem.DictEntry.mk (@PySem.PyData.keyHash P (PySem.Str.ofString "__init__")) (@PySem.Value.str (PySem.Str.ofString "__init__") 764) (@PySem.Value.ref 443)), (@PySem.DictEntry.mk (@PySem.PyData.keyHash P (PySem.Str.ofString "to_ntt")) (@PySem.Value.str (PySem.Str.ofString "to_ntt") 771) (@PySem.Value.ref 450)), (@PySem.DictEntry.mk (@PySem.PyData.keyHash P (PySem.Str.ofString "from_ntt")) (@PySem.Value.str (PySem.Str.ofString "from_ntt") 778) (@PySem.Value.ref 457)), (@PySem.DictEntry.mk (@PySem.PyData.keyHash P (PySem.Str.ofString "power_2_round")) (@PySem.Value.str (PySem.Str.ofString "power_2_round") 794) (@PySem.Value.ref 464)), (@PySem.DictEntry.mk (@PySem.PyData.keyHash P (PySem.Str.ofString "high_bits")) (@PySem.Value.str (PySem.Str.ofString "high_bits") 800) (@PySem.Value.ref 470)), (@PySem.DictEntry.mk (@PySem.PyData.keyHash P (PySem.Str.ofString "low_bits")) (@PySem.Value.str (PySem.Str.ofString "low_bits") 806) (@PySem.Value.ref 476)), (@PySem.DictEntry.mk (@PySem.PyData.keyHash P (PySem.Str.ofString "decompose")) (@PySem.Value.str (PySem.Str.ofString "decompose") 820) (@PySem.Value.ref 483)), (@PySem.DictEntry.mk (@PySem.PyData.keyHash P (PySem.Str.ofString "check_norm_bound")) (@PySem.Value.str (PySem.Str.ofString "check_norm_bound") 830) (@PySem.Value.ref 490)), (@PySem.DictEntry.mk (@PySem.PyData.keyHash P (PySem.Str.ofString "_bit_pack")) (@PySem.Value.str (PySem.Str.ofString "_bit_pack") 852) (@PySem.Value.ref 499)), (@PySem.DictEntry.mk (@PySem.PyData.keyHash P (PySem.Str.ofString "bit_pack_t0")) (@PySem.Value.str (PySem.Str.ofString "bit_pack_t0") 859) (@PySem.Value.ref 507)), (@PySem.DictEntry.mk (@PySem.PyData.keyHash P (PySem.Str.ofString "bit_pack_t1")) (@PySem.Value.str (PySem.Str.ofString "bit_pack_t1") 866) (@PySem.Value.ref 514)), (@PySem.DictEntry.mk (@PySem.PyData.keyHash P (PySem.Str.ofString "bit_pack_s")) (@PySem.Value.str (PySem.Str.ofString "bit_pack_s") 874) (@PySem.Value.ref 521)), (@PySem.DictEntry.mk (@PySem.PyData.keyHash P (PySem.Str.ofString "bit_pack_w")) (@PySem.Value.str (PySem.Str.ofString "bit_pack_w") 882) (@PySem.Value.ref 528)), (@PySem.DictEntry.mk (@PySem.PyData.keyHash P (PySem.Str.ofString "bit_pack_z")) (@PySem.Value.str (PySem.Str.ofString "bit_pack_z") 890) (@PySem.Value.ref 535)), (@PySem.DictEntry.mk (@PySem.PyData.keyHash P (PySem.Str.ofString "make_hint")) (@PySem.Value.str (PySem.Str.ofString "make_hint") 899) (@PySem.Value.ref 542)), (@PySem.DictEntry.mk (@PySem.PyData.keyHash P (PySem.Str.ofString "make_hint_optimised")) (@PySem.Value.str (PySem.Str.ofString "make_hint_optimised") 908) (@PySem.Value.ref 549)), (@PySem.DictEntry.mk (@PySem.PyData.keyHash P (PySem.Str.ofString "use_hint")) (@PySem.Value.str (PySem.Str.ofString "use_hint") 917) (@PySem.Value.ref 556)), (@PySem.DictEntry.mk (@PySem.PyData.keyHash P (PySem.Str.ofString "__static_attributes__")) (@PySem.Value.str (PySem.Str.ofString "__static_attributes__") 920) (@PySem.Value.ref 557)), (@PySem.DictEntry.mk (@PySem.PyData.keyHash P (PySem.Str.ofString "__doc__")) (@PySem.Value.str (PySem.Str.ofString "__doc__") 921) @PySem.Value.none)]) 2) (@List.toArray (@Option @PySem.Value) []))) ::
  (nat_lit 559, (@PySem.Obj.mk (@PySem.Value.type "type") (@Option.none @Nat) (@PySem.Data.cls (@PySem.ClassData.mk (PySem.Str.ofString "Polynomial") [(@PySem.Value.ref 264)] [(@PySem.Value.ref 559), (@PySem.Value.ref 264), (@PySem.Value.type "object")] 558 (PySem.Str.ofString "Polynomial") @Bool.true [] [(@PySem.Value.ref 623)] @Bool.false (@Option.none @Bool) @Bool.false)) (@List.toArray (@Option @PySem.Value) [(@Option.some @PySem.Value (@PySem.Value.ref 430)), (@Option.none @PySem.Value), (@Option.some @PySem.Value (@PySem.Value.str (PySem.Str.ofString "Polynomial") 744)), (@Option.some @PySem.Value (@PySem.Value.str (PySem.Str.ofString "Polynomial") 752)), (@Option.some @PySem.Value (@PySem.Value.builtin "object.__new__")), (@Option.some @PySem.Value (@PySem.Value.bool @Bool.true))]))) ::
  (nat_lit 622, (@PySem.Obj.mk (@PySem.Value.type "dict") (@Option.none @Nat) (@PySem.Data.dict (@List.toArray @PySem.DictEntry [(@PySem.DictEntry.mk (@PySem.PyData.keyHash P (PySem.Str.ofString "__module__")) (@PySem.Value.str (PySem.Str.ofString "__module__") 931) (@PySem.Value.str (PySem.Str.ofString "dilithium_py.polynomials.polynomials") 584)), (@PySem.DictEntry.mk (@PySem.PyData.keyHash P (PySem.Str.ofString "__firstlineno__")) (@PySem.Value.str (PySem.Str.ofString "__firstlineno__") 935) (@PySem.Value.int (343 : Int) 934)), (@PySem.DictEntry.mk (@PySem.PyData.keyHash P (PySem.Str.ofString "__init__")) (@PySem.Value.str (PySem.Str.ofString "__init__") 944) (@PySem.Value.ref 575)), (@PySem.DictEntry.mk (@PySem.PyData.keyHash P (PySem.Str.ofString "to_ntt")) (@PySem.Value.str (PySem.Str.ofString "to_ntt") 951) (@PySem.Value.ref 582)), (@PySem.DictEntry.mk (@PySem.PyData.keyHash P (PySem.Str.ofString "from_ntt")) (@PySem.Value.str (PySem.Str.ofString "from_ntt") 958) (@PySem.Value.ref 589)), (@PySem.DictEntry.mk (@PySem.PyData.keyHash P (PySem.Str.ofString "ntt_coefficient_multiplication")) (@PySem.Value.str (PySem.Str.ofString "ntt_coefficient_multiplication") 964) (@PySem.Value.ref 594)), (@PySem.DictEntry.mk (@PySem.PyData.keyHash P (PySem.Str.ofString "ntt_multiplication")) (@PySem.Value.str (PySem.Str.ofString "ntt_multiplication") 973) (@PySem.Value.ref 601)), (@PySem.DictEntry.mk (@PySem.PyData.keyHash P (PySem.Str.ofString "__add__")) (@PySem.Value.str (PySem.Str.ofString "__add__") 982) (@PySem.Value.ref 608)), (@PySem.DictEntry.mk (@PySem.PyData.keyHash P (PySem.Str.ofString "__sub__")) (@PySem.Value.str (PySem.Str.ofString "__sub__") 991) (@PySem.Value.ref 615)), (@PySem.DictEntry.mk (@PySem.PyData.keyHash P (PySem.Str.ofString "__mul__")) (@PySem.Value.str (PySem.Str.ofString "__mul__") 997) (@PySem.Value.ref 620)), (@PySem.DictEntry.mk (@PySem.PyData.keyHash P (PySem.Str.ofString "__static_attributes__")) (@PySem.Value.str (PySem.Str.ofString "__static_attributes__") 1000) (@PySem.Value.ref 621)), (@PySem.DictEntry.mk (@PySem.PyData.keyHash P (PySem.Str.ofString "__doc__")) (@PySem.Value.str (PySem.Str.ofString "__doc__") 1001) @PySem.Value.none)]) 2) (@List.toArray (@Option @PySem.Value) []))) ::
  (nat_lit 623, (@PySem.Obj.mk (@PySem.Value.type "type") (@Option.none @Nat) (@PySem.Data.cls (@PySem.ClassData.mk (PySem.Str.ofString "PolynomialNTT") [(@PySem.Value.ref 559)] [(@PySem.Value.ref 623), (@PySem.Value.ref 559), (@PySem.Value.ref 264), (@PySem.Value.type "object")] 622 (PySem.Str.ofString "PolynomialNTT") @Bool.true [] [] @Bool.false (@Option.none @Bool) @Bool.false)) (@List.toArray (@Option @PySem.Value) [(@Option.some @PySem.Value (@PySem.Value.ref 562)), (@Option.none @PySem.Value), (@Option.some @PySem.Value (@PySem.Value.str (PySem.Str.ofString "PolynomialNTT") 924)), (@Option.some @PySem.Value (@PySem.Value.str (PySem.Str.ofString "PolynomialNTT") 932)), (@Option.some @PySem.Value (@PySem.Value.builtin "object.__new__")), (@Option.some @PySem.Value (@PySem.Value.bool @Bool.true))]))) ::
  (nat_lit 631, (@PySem.Obj.mk (@PySem.Value.type "code") (@Option.none @Nat) (@PySem.Data.fields (@List.toArray @PySem.Value [(@PySem.Value.str (PySem.Str.ofString "_law_stream") 1008), (@PySem.Value.str (PySem.Str.ofString "_law_stream") 1009), (@PySem.Value.str (PySem.Str.ofString "/claim/cut.py") 1010), (@PySem.Value.int (382 : Int) 0), (@PySem.Value.int (2 : Int) 0), (@PySem.Value.int (0 : Int) 0), (@PySem.Value.int (0 : Int) 0), (@PySem.Value.int (3 : Int) 0), (@PySem.Value.ref 626), (@PySem.Value.bool @Bool.true), (@PySem.Value.int (181 : Int) 0), (@PySem.Value.ref 627), @PySem.Value.none, (@PySem.Value.ref 628), (@PySem.Value.ref 629), (@PySem.Value.ref 630), (@PySem.Value.int (1013 : Int) 0), (@PySem.Value.int (382 : Int) 0), (@PySem.Value.str (PySem.Str.ofString "/claim/cut.py") 1014)])) (@List.toArray (@Option @PySem.Value) []))) ::
  (nat_lit 632, (@PySem.Obj.mk (@PySem.Value.type "function") (@Option.none @Nat) (@PySem.Data.func (@PySem.FuncData.mk (PySem.Str.ofString "_law_stream") (PySem.Str.ofString "_law_stream") (by refine' (fun (x : PSigma fun b : PySem.Arguments => b = psOf (fnAt 22)) => x.1) ⟨_, ?h⟩; case h => (conv => rhs; whnf)) (PySem.FuncBody.stmts (by refine' (fun (x : PSigma fun b : (List PySem.Stmt) => b = bdOf (fnAt 22)) => x.1) ⟨_, ?h⟩; case h => (conv => rhs; whnf))) (by refine' (fun (x : PSigma fun b : PySem.Scope => b = scOf (fnAt 22)) => x.1) ⟨_, ?h⟩; case h => (conv => rhs; whnf)) 3 [] @PySem.Value.none @PySem.Value.none @PySem.Value.none (@PySem.Value.str (PySem.Str.ofString "law_ix0026_01") 1004) (@Option.none @Nat) (@PySem.Value.ref 631) @PySem.Value.none 0)) (@List.toArray (@Option @PySem.Value) []))) ::
  (nat_lit 638, (@PySem.Obj.mk (@PySem.Value.type "code") (@Option.none @Nat) (@PySem.Data.fields (@List.toArray @PySem.Value [(@PySem.Value.str (PySem.Str.ofString "_law_halved") 1016), (@PySem.Value.str (PySem.Str.ofString "_law_halved") 1017), (@PySem.Value.str (PySem.Str.ofString "/claim/cut.py") 1018), (@PySem.Value.int (384 : Int) 0), (@PySem.Value.int (2 : Int) 0), (@PySem.Value.int (0 : Int) 0), (@PySem.Value.int (0 : Int) 0), (@PySem.Value.int (3 : Int) 0), (@PySem.Value.ref 633), (@PySem.Value.bool @Bool.true), (@PySem.Value.int (181 : Int) 0), (@PySem.Value.ref 634), @PySem.Value.none, (@PySem.Value.ref 635), (@PySem.Value.ref 636), (@PySem.Value.ref 637), (@PySem.Value.int (1023 : Int) 0), (@PySem.Value.int (384 : Int) 0), (@PySem.Value.str (PySem.Str.ofString "/claim/cut.py") 1024)])) (@List.toArray (@Option @PySem.Value) []))) ::
  (nat_lit 639, (@PySem.Obj.mk (@PySem.Value.type "function") (@Option.none @Nat) (@PySem.Data.func (@PySem.FuncData.mk (PySem.Str.ofString "_law_halved") (PySem.Str.ofString "_law_halved") (by refine' (fun (x : PSigma fun b : PySem.Arguments => b = psOf (fnAt 23)) => x.1) ⟨_, ?h⟩; case h => (conv => rhs; whnf)) (PySem.FuncBody.stmts (by refine' (fun (x : PSigma fun b : (List PySem.Stmt) => b = bdOf (fnAt 23)) => x.1) ⟨_, ?h⟩; case h => (conv => rhs; whnf))) (by refine' (fun (x : PSigma fun b : PySem.Scope => b = scOf (fnAt 23)) => x.1) ⟨_, ?h⟩; case h => (conv => rhs; whnf)) 3 [] @PySem.Value.none @PySem.Value.none @PySem.Value.none (@PySem.Value.str (PySem.Str.ofString "law_ix0026_01") 1004) (@Option.none @Nat) (@PySem.Value.ref 638) @PySem.Value.none 0)) (@List.toArray (@Option @PySem.Value) []))) ::
  (nat_lit 645, (@PySem.Obj.mk (@PySem.Value.type "code") (@Option.none @Nat) (@PySem.Data.fields (@List.toArray @PySem.Value [(@PySem.Value.str (PySem.Str.ofString "_law_parts") 1026), (@PySem.Value.str (PySem.Str.ofString "_law_parts") 1027), (@PySem.Value.str (PySem.Str.ofString "/claim/cut.py") 1028), (@PySem.Value.int (390 : Int) 0), (@PySem.Value.int (2 : Int) 0), (@PySem.Value.int (0 : Int) 0), (@PySem.Value.int (0 : Int) 0), (@PySem.Value.int (3 : Int) 0), (@PySem.Value.ref 640), (@PySem.Value.bool @Bool.true), (@PySem.Value.int (181 : Int) 0), (@PySem.Value.ref 641), @PySem.Value.none, (@PySem.Value.ref 642), (@PySem.Value.ref 643), (@PySem.Value.ref 644), (@PySem.Value.int (1033 : Int) 0), (@PySem.Value.int (390 : Int) 0), (@PySem.Value.str (PySem.Str.ofString "/claim/cut.py") 1034)])) (@List.toArray (@Option @PySem.Value) []))) ::
  (nat_lit 646, (@PySem.Obj.mk (@PySem.Value.type "function") (@Option.none @Nat) (@PySem.Data.func (@PySem.FuncData.mk (PySem.Str.ofString "_law_parts") (PySem.Str.ofString "_law_parts") (by refine' (fun (x : PSigma fun b : PySem.Arguments => b = psOf (fnAt 24)) => x.1) ⟨_, ?h⟩; case h => (conv => rhs; whnf)) (PySem.FuncBody.stmts (by refine' (fun (x : PSigma fun b : (List PySem.Stmt) => b = bdOf (fnAt 24)) => x.1) ⟨_, ?h⟩; case h => (conv => rhs; whnf))) (by refine' (fun (x : PSigma fun b : PySem.Scope => b = scOf (fnAt 24)) => x.1) ⟨_, ?h⟩; case h => (conv => rhs; whnf)) 3 [] @PySem.Value.none @PySem.Value.none @PySem.Value.none (@PySem.Value.str (PySem.Str.ofString "law_ix0026_01") 1004) (@Option.none @Nat) (@PySem.Value.ref 645) @PySem.Value.none 0)) (@List.toArray (@Option @PySem.Value) []))) ::
  (nat_lit 650, (@PySem.Obj.mk (@PySem.Value.type "code") (@Option.none @Nat) (@PySem.Data.fields (@List.toArray @PySem.Value [(@PySem.Value.str (PySem.Str.ofString "law") 1036), (@PySem.Value.str (PySem.Str.ofString "law") 1037), (@PySem.Value.str (PySem.Str.ofString "/claim/cut.py") 1038), (@PySem.Value.int (396 : Int) 0), (@PySem.Value.int (1 : Int) 0), (@PySem.Value.int (0 : Int) 0), (@PySem.Value.int (0 : Int) 0), (@PySem.Value.int (3 : Int) 0), (@PySem.Value.ref 647), (@PySem.Value.bool @Bool.true), (@PySem.Value.int (181 : Int) 0), (@PySem.Value.ref 648), @PySem.Value.none, @PySem.Value.none, @PySem.Value.none, (@PySem.Value.ref 649), (@PySem.Value.int (1039 : Int) 0), (@PySem.Value.int (396 : Int) 0), (@PySem.Value.str (PySem.Str.ofString "/claim/cut.py") 1040)])) (@List.toArray (@Option @PySem.Value) []))) ::
  (nat_lit 651, (@PySem.Obj.mk (@PySem.Value.type "function") (@Option.none @Nat) (@PySem.Data.func (@PySem.FuncData.mk (PySem.Str.ofString "law") (PySem.Str.ofString "law") (by refine' (fun (x : PSigma fun b : PySem.Arguments => b = psOf (fnAt 25)) => x.1) ⟨_, ?h⟩; case h => (conv => rhs; whnf)) (PySem.FuncBody.stmts (by refine' (fun (x : PSigma fun b : (List PySem.Stmt) => b = bdOf (fnAt 25)) => x.1) ⟨_, ?h⟩; case h => (conv => rhs; whnf))) (by refine' (fun (x : PSigma fun b : PySem.Scope => b = scOf (fnAt 25)) => x.1) ⟨_, ?h⟩; case h => (conv => rhs; whnf)) 3 [] @PySem.Value.none @PySem.Value.none @PySem.Value.none (@PySem.Value.str (PySem.Str.ofString "law_ix0026_01") 1004) (@Option.none @Nat) (@PySem.Value.ref 650) @PySem.Value.none 0)) (@List.toArray (@Option @PySem.Value) []))) :: []
/-- the statements of the top that the names are held to -/
noncomputable def hd.view_39 : Program := view PySem.Challenge.rw_ix0026_01.row.prog [0, 2, 3, 4, 5, 6, 7, 8, 9, 10, 12, 13, 15, 17, 18, 19, 21, 22, 23, 24, 25]
end Mine
end
noncomputable section
open PySem PySem.W PyProof.Rows
set_option Elab.async false
set_option maxRecDepth 100000
local macro_rules | `(tactic| walk_at "no such key") => `(tactic| fail "none")
namespace Mine
/-- the run of the top over a tree of objects, told as far as it is through -/
def runT (tb : String → Option Builtin) (p : Program) (w : World) (n₀ : Nat) (ann : Option Value) : Nat → SharedT → Thread → Option SharedT
  | 0, _, _ => none
  | n + 1, s, t => match through t with
    | true => some s
    | false => match stepOk n₀ ann t with
      | false => none
      | true => match stepT (denote tb) p w s t with
        | some (s', t') => runT tb p w n₀ ann n s' t'
        | none => none
theorem runT_abs {tb : String → Option Builtin} {p : Program} {w : World} {n₀ : Nat} {ann : Option Value} : ∀ {n : Nat} {s s' : SharedT} {t : Thread}, runT tb p w n₀ ann n s t = some s' → topRun tb p w n₀ ann n s.abs t = some s'.abs
  | 0, _, _, _, h => by cases h
  | n + 1, s, s', t, h => by
    unfold runT at h
    unfold topRun
    cases he : through t with
    | true => rw [he] at h; cases h; rfl
    | false =>
      rw [he] at h
      cases hk : stepOk n₀ ann t with
      | false => rw [hk] at h; cases h
      | true =>
        rw [hk] at h
        cases hs : stepT (denote tb) p w s t with
        | none => rw [hs] at h; cases h
        | some r => obtain ⟨s₂, t₂⟩ := r; rw [hs] at h; rw [stepT_spec hs]; exact runT_abs h
def treeOf (l : List Obj) : BT := (l.foldl (fun (q : BT × Nat) o => (q.1.ins q.2 o, q.2 + 1)) (BT.nil, 0)).1
theorem left_tree {p q : Program} {loose : List Str} {Xt : Shared → Bool} {α : Type} {Yf : Shared → α} {Ya : World → α} {N : Nat} {g0 : Bool} {m₀ : Nat} {ann : Option Value} {T0 : Params → BT} {n0 : Nat} {life0 : Params → Life}
    (hT : ∀ P, absHeap (T0 P) n0 (life0 P) = boot_heap P)
    (open_ : ∀ w : World, (fencedOpening treeTable p w N).map (fun s => (s.heap, s.gens, s.drawn, s.toks)) = some (boot_heap w.params, Array.mk [], boot_drawn, boot_toks))
    (size : ∀ w : World, ((boot_heap w.params).isNs mainGlobals && (Array.mk [] : Array GenState).size == 0, (boot_heap w.params).objs.size, (boot_heap w.params).nsMap mainGlobals "__annotations__") = (true, m₀, ann))
    (run : ∀ (w : World) (os : OsState), (runT treeTable p w m₀ ann N ⟨T0 w.params, n0, life0 w.params, Array.mk [], boot_drawn, boot_toks, os⟩ (topStub p)).map (fun s =>
      ((staticsOk (importedModules p.main.body) (boot_heap w.params) s.abs.heap && namesBound p s.abs.heap && gensDone s.abs && laidKept (boot_heap w.params) s.abs.heap),
        openSeen q loose (importedModules p.main.body) Xt g0 s.abs, Yf s.abs)) = some (true, openGood q loose, Ya w)) : LeftO p q loose Xt Yf Ya N g0 := fun w => by
  obtain ⟨⟨h, gs, d, k, os⟩, e, e'⟩ := Option.map_eq_some_iff.mp (open_ w)
  obtain ⟨rfl, rfl, rfl, rfl⟩ : h = boot_heap w.params ∧ gs = Array.mk [] ∧ d = boot_drawn ∧ k = boot_toks := by simpa using e'
  obtain ⟨z1, z2, z3⟩ : _ ∧ _ ∧ _ := by simpa only [Prod.mk.injEq] using size w
  obtain ⟨s, hs, hl⟩ := Option.map_eq_some_iff.mp (run w os)
  obtain ⟨l1, l2, l3⟩ : _ ∧ _ ∧ _ := by simpa only [Prod.mk.injEq] using hl
  have r := runT_abs hs
  unfold SharedT.abs at r
  dsimp only at r
  rw [hT] at r
  have t : topFrom treeTable p w N ⟨boot_heap w.params, Array.mk [], boot_drawn, boot_toks, os⟩ = some s.abs := by
    unfold topFrom
    dsimp only
    rw [z1, z2, z3, r]
    show (match staticsOk (importedModules p.main.body) (boot_heap w.params) s.abs.heap && namesBound p s.abs.heap && gensDone s.abs && laidKept (boot_heap w.params) s.abs.heap with | true => _ | false => _) = _
    rw [l1]
    rfl
  unfold openEnds
  rw [e]
  show (topFrom treeTable p w N _).map _ = _
  rw [t]
  exact congrArg some (Prod.ext l2 l3)
/-- the boot's objects as a tree -/
noncomputable def bootT (P : Params) : BT := treeOf (boot_heap P).objs.toList
end Mine
end
noncomputable section
open PySem PySem.W PyProof.Rows
set_option Elab.async false
set_option maxRecDepth 1000000
set_option maxHeartbeats 0
local macro_rules | `(tactic| walk_at "no such key") => `(tactic| fail "none")
local macro_rules | `(tactic| walk_at "no such key") => `(tactic| fail "none")
namespace Mine
theorem boot_tree (P : Params) : absHeap (bootT P) 11 (boot_heap P).life = boot_heap P := by kernel_rfl
noncomputable abbrev hkT : Hook := kmHook hd.heap_39 [2, 3, 15, 17, 18, 27, 28, 34, 35, 41, 42, 48, 49, 55, 56, 100, 101, 102, 103, 137, 138, 263, 264, 265, 266, 281, 282, 312, 313, 314, 315, 328, 329, 335, 336, 337, 338, 339, 410, 416, 417, 426, 427, 442, 443, 463, 464, 465, 469, 470, 471, 475, 476, 482, 483, 489, 490, 498, 499, 500, 558, 559, 622, 623, 631, 632, 638, 639, 645, 646, 650, 651] (fun _ => by kernel_rfl) [485]
/-- the whole run of the top: one reckoning by the kernel -/
theorem left_run (w : World) (os : OsState) : (runT treeTable PySem.Challenge.rw_ix0026_01.row.prog w 11 (some (.ref 6)) 8558 ⟨bootT w.params, 11, (boot_heap w.params).life, Array.mk [], boot_drawn, boot_toks, os⟩ (topStub PySem.Challenge.rw_ix0026_01.row.prog)).map (fun s => ((staticsOk (importedModules PySem.Challenge.rw_ix0026_01.row.prog.main.body) (boot_heap w.params) s.abs.heap && namesBound PySem.Challenge.rw_ix0026_01.row.prog s.abs.heap && gensDone s.abs && laidKept (boot_heap w.params) s.abs.heap),
      openSeen hd.view_39 [Str.ofString "decompose_utils", Str.ofString "high_bits_utils", Str.ofString "low_bits_utils", Str.ofString "check_norm_bound_utils", Str.ofString "PolynomialRing", Str.ofString "Polynomial"] (importedModules PySem.Challenge.rw_ix0026_01.row.prog.main.body) (fun s => xlAt hd.view_39 [] s && recOk PySem.Challenge.rw_ix0026_01.row.records s) true s.abs, Hook.obs hkT s.abs)) = some (true, openGood hd.view_39 [Str.ofString "decompose_utils", Str.ofString "high_bits_utils", Str.ofString "low_bits_utils", Str.ofString "check_norm_bound_utils", Str.ofString "PolynomialRing", Str.ofString "Polynomial"], Hook.val hkT w) := by
  kernel_rfl
theorem left_top : LeftO PySem.Challenge.rw_ix0026_01.row.prog hd.view_39 [Str.ofString "decompose_utils", Str.ofString "high_bits_utils", Str.ofString "low_bits_utils", Str.ofString "check_norm_bound_utils", Str.ofString "PolynomialRing", Str.ofString "Polynomial"] (fun s => xlAt hd.view_39 [] s && recOk PySem.Challenge.rw_ix0026_01.row.records s) (Hook.obs hkT) (Hook.val hkT) 8558 :=
  left_tree (life0 := fun P => (boot_heap P).life) boot_tree (boot_open (by rfl) (by rfl) (fun _ => rfl)) (fun w => by kernel_rfl) left_run
end Mine
end
noncomputable section
open PySem PySem.W PyProof.Rows
set_option Elab.async false
set_option maxRecDepth 1000000
set_option maxHeartbeats 0
local macro_rules | `(tactic| walk_at "no such key") => `(tactic| fail "none")
local macro_rules | `(tactic| walk_at "no such key") => `(tactic| fail "none")
local macro_rules | `(tactic| walk_at "no such key") => `(tactic| fail "none")
namespace Mine
theorem said01 : OpenLaw.wellSaid PySem.Challenge.rw_ix0026_01 = true := by kernel_rfl
end Mine
end
noncomputable section
open PySem PySem.W PyProof.Rows PySem.Spec PySem.Calls PySem.NumText
set_option Elab.async false
set_option maxRecDepth 100000
set_option maxHeartbeats 4000000
local macro_rules | `(tactic| walk_at "no such key") => `(tactic| fail "none")
local macro_rules | `(tactic| walk_at "no such key") => `(tactic| fail "none")
local macro_rules | `(tactic| walk_at "no such key") => `(tactic| fail "none")
local macro_rules | `(tactic| walk_at "no such key") => `(tactic| fail "none")
namespace Mine
theorem typeCall_int_2 (a b : Value) : checkTypeCall "int" ⟨[a, b], []⟩ = pure () := by kernel_rfl
theorem newCall_int_2 (a b : Value) : checkBuiltinCall "int.__new__" ⟨[.type "int", a, b], []⟩ = pure () := by kernel_rfl
theorem args_object_init_3 (o a b : Value) : argsOk "object.__init__" ⟨[o, a, b], []⟩ := by
  unfold argsOk; rw [signature?_of (id := "object.__init__") (n := ['_', '_', 't', 'i', 'n', 'i', '_', '_']) (o := ['t', 'c', 'e', 'j', 'b', 'o']) (by kernel_rfl) F.owner_object]; kernel_rfl
section
variable {prog : Program} {w : World} {A : Around} {E : Value → Shared → Prop} {s : Shared}
theorem call_int_2 {x y : Value} {S : PySem.Spec} {Q : Value → Shared → Prop} (g : Meets (Builtin.«int.__new__» ⟨[.type "int", x, y], []⟩) S) (h : S A.in1 (wants (fun obj s₁ => s₁.TypeIs obj "int" ∧ Q obj s₁) E) s) :
    wpAny (model prog w) A (call (.type "int") [x, y]) Q E s :=
  callType_new F.called_int F.newNe_int (typeCall_int_2 x y) (newCall_int_2 x y) (fun obj => args_object_init_3 obj x y) F.entry_int_new g h
end
theorem wp_text2 {M : Model} {A : Around} {E : Value → Shared → Prop} {s : Shared} {Q : Value → Shared → Prop} {v : Value} {text : List Nat} {n : Int}
    (hs : (text.takeWhile (· != 0)).length ≤ 640) (hr : (int_private% "readNumeral") 0 2 (text.takeWhile (· != 0)) = (int_private% "Numeral.value") n)
    (ha : ((text.takeWhile (· != 0)).length == text.length) = true) (h : Q (.int n s.toks) { s with toks := s.toks + 1 }) :
    wpAny M A ((int_private% "intFromText") v text 2) Q E s := by
  obtain ⟨hp, g, d, tk, os⟩ := s
  repeat (any_goals (first
    | assumption
    | (with_reducible refine wpAny_ite_true (decide_eq_true hs) ?_)
    | (with_reducible refine wpAny_ite_true (decide_eq_true ha) ?_)
    | wp_step))
  all_goals (try rw [hr])
  all_goals (try dsimp only)
  repeat (any_goals (first
    | assumption
    | (with_reducible refine wpAny_ite_true (decide_eq_true hs) ?_)
    | (with_reducible refine wpAny_ite_true (decide_eq_true ha) ?_)
    | wp_step))
theorem gives_text2 {x : PySem.Str} {u u2 : Tok} {n : Int} (hs : (numSeenOf x).length ≤ 640) (hr : (int_private% "readNumeral") 0 2 (numSeenOf x) = (int_private% "Numeral.value") n)
    (ha : ((numSeenOf x).length == (numTextOf x).length) = true) : Gives (Builtin.«int.__new__» ⟨[.type "int", .str x u, .int 2 u2], []⟩) (.int n) :=
  .of_wp fun M A E s Q h => by
    obtain ⟨hp, g, d, tk, os⟩ := s
    have f1 := F.conv_sub_int
    have f2 := F.madeHere_int
    have f3 := KIN.str_int
    have f4 := KIN.str_idx
    have f5 := KIN.str_trunc
    have f6 : typeOf (.str x u) = pure (.type "str") := rfl
    have hk := KIN.Hid.mk (And.intro hs (And.intro hr ha))
    clear hs hr ha
    repeat (any_goals (first
      | assumption
      | ((with_reducible show wpAny _ _ ((int_private% "intFromText") _ _ _) _ _ _); refine wp_text2 hk.out.1 hk.out.2.1 hk.out.2.2 ?_)
      | wp_step))
    all_goals first | exact ⟨_, rfl, h⟩ | skip
    all_goals trace_state
end Mine
end
noncomputable section
open PySem PySem.W PyProof.Rows PySem.Spec PySem.Calls PySem.NumText
set_option Elab.async false
set_option maxRecDepth 100000
set_option maxHeartbeats 1000000
namespace Mine
def Bit (c : Nat) : Prop := c = 48 ∨ c = 49
/-- the number of a row of bits, the highest first -/
def bitsNum (cs : List Nat) : Nat := cs.foldl (fun a c => a * 2 + (c - 48)) 0

theorem bit_step {ds : Array Nat} {b : Bool} {c : Nat} (h : Bit c) : NumText.step 2 (ds, b) c = some (ds.push (c - 48), true) := by
  rcases h with rfl | rfl <;> rfl
theorem bit_fold : ∀ (cs : List Nat) (ds : Array Nat), (∀ c ∈ cs, Bit c) → cs.foldlM (NumText.step 2) (ds, true) = some (cs.foldl (fun acc c => acc.push (c - 48)) ds, true)
  | [], _, _ => rfl
  | c :: cs, ds, h => by
    rw [List.foldlM_cons, bit_step (h c (List.mem_cons_self ..))]
    exact bit_fold cs (ds.push (c - 48)) fun d hd => h d (List.mem_cons_of_mem _ hd)
theorem bit_digits {cs : List Nat} (h : ∀ c ∈ cs, Bit c) (hne : cs ≠ []) : digits? 2 cs = some (cs.foldl (fun acc c => acc.push (c - 48)) #[]) := by
  cases cs with
  | nil => exact absurd rfl hne
  | cons c cs =>
    unfold digits?
    rw [List.foldlM_cons, bit_step (h c (List.mem_cons_self ..))]
    show (cs.foldlM (NumText.step 2) ((#[] : Array Nat).push (c - 48), true)).bind _ = _
    rw [bit_fold cs _ fun d hd => h d (List.mem_cons_of_mem _ hd)]
    rfl
theorem bit_push : ∀ (cs : List Nat) (ds : Array Nat), (cs.foldl (fun acc c => acc.push (c - 48)) ds).foldl (fun acc d => acc * 2 + d) 0 = cs.foldl (fun acc c => acc * 2 + (c - 48)) (ds.foldl (fun acc d => acc * 2 + d) 0)
  | [], _ => rfl
  | c :: cs, ds => by
    rw [List.foldl_cons, bit_push cs (ds.push (c - 48)), List.foldl_cons]
    congr 1
    simp
theorem bit_blank {cs : List Nat} (h : ∀ c ∈ cs, Bit c) : cs.dropWhile blank = cs := by
  cases cs with
  | nil => rfl
  | cons c cs =>
    rw [List.dropWhile_cons]
    rcases h c (List.mem_cons_self ..) with rfl | rfl <;> rfl
theorem bit_sign {cs : List Nat} (h : ∀ c ∈ cs, Bit c) : sign cs = (false, cs) := by
  cases cs with
  | nil => rfl
  | cons c cs => rcases h c (List.mem_cons_self ..) with rfl | rfl <;> rfl
theorem bit_prefix {cs : List Nat} (h : ∀ c ∈ cs, Bit c) : prefix? cs = none := by
  match cs, h with
  | [], _ => rfl
  | [c], h => rcases h c (by simp) with rfl | rfl <;> rfl
  | c :: d :: r, h =>
    rcases h c (by simp) with rfl | rfl
    · rcases h d (by simp) with rfl | rfl <;> rfl
    · rfl
theorem bit_based {cs : List Nat} (h : ∀ c ∈ cs, Bit c) : based 2 cs = (2, false, cs) := by
  unfold based
  rw [bit_prefix h]
  rfl
theorem read_bits {cs : List Nat} (h : ∀ c ∈ cs, Bit c) (hne : cs ≠ []) : (int_private% "readNumeral") 0 2 cs = (int_private% "Numeral.value") ((bitsNum cs : Nat) : Int) := by
  refine (readNumeral_eq 0 2 cs).trans ?_
  rw [bit_blank h, bit_sign h]
  show judge 0 false (based 2 cs).1 (based 2 cs).2.1 (digits? (based 2 cs).1 (((based 2 cs).2.2.reverse.dropWhile blank).reverse)) = _
  rw [bit_based h]
  show judge 0 false 2 false (digits? 2 ((cs.reverse.dropWhile blank).reverse)) = _
  rw [bit_blank fun c hc => h c (List.mem_reverse.mp hc), List.reverse_reverse, bit_digits h hne]
  have e := bit_push cs #[]
  show (int_private% "Numeral.value") (((cs.foldl (fun acc c => acc.push (c - 48)) #[]).foldl (fun acc d => acc * 2 + d) 0 : Nat) : Int) = _
  rw [e]
  rfl
theorem bit_texts {x : Str} (h : ∀ c ∈ x.cps.toList, Bit c) : numTextOf x = x.cps.toList ∧ numSeenOf x = x.cps.toList :=
  numText_signs fun c hc => Or.inr (by rcases h c hc with rfl | rfl <;> decide)
theorem gives_bits {x : Str} {u u2 : Tok} (h : ∀ c ∈ x.cps.toList, Bit c) (hne : x.cps.toList ≠ []) (hl : x.length ≤ 640) :
    Gives (Builtin.«int.__new__» ⟨[.type "int", .str x u, .int 2 u2], []⟩) (.int ((bitsNum x.cps.toList : Nat) : Int)) := by
  obtain ⟨e1, e2⟩ := bit_texts h
  refine gives_text2 ?_ ?_ ?_
  · rw [e2]; exact Nat.le_trans (Nat.le_of_eq Array.length_toList) hl
  · rw [e2]; exact read_bits h hne
  · rw [e1, e2]; exact beq_self_eq_true _
section
variable {prog : Program} {w : World} {A : Around} {E : Value → Shared → Prop} {s : Shared} {Q : Value → Shared → Prop}
theorem call_bits {x : Str} {t t2 : Tok} (hb : ∀ c ∈ x.cps.toList, Bit c) (hne : x.cps.toList ≠ []) (hl : x.length ≤ 640) (h : Q (.int ((bitsNum x.cps.toList : Nat) : Int) s.toks) { s with toks := s.toks + 1 }) :
    wpAny (model prog w) A (call (.type "int") [.str x t, .int 2 t2]) Q E s :=
  call_int_2 (gives_bits hb hne hl).meets (show (Made.int _).post _ s from ⟨rfl, h⟩)
end

/-- the lowest k bits of i turned round -/
def rev (i : Int) : Nat → Int
  | 0 => 0
  | k + 1 => 2 * rev i k + i / 2 ^ k % 2
/-- the bits of n, the lowest first -/
def lows (n : Nat) : Nat → List Nat
  | 0 => []
  | k + 1 => (48 + n % 2) :: lows (n / 2) k
theorem lows_bit : ∀ (k n : Nat), ∀ c ∈ lows n k, Bit c
  | k + 1, n, c, hc => by
    rcases List.mem_cons.mp hc with rfl | hc
    · have := Nat.mod_lt n (by decide : 2 > 0)
      unfold Bit; omega
    · exact lows_bit k (n / 2) c hc
theorem lows_len : ∀ (k n : Nat), (lows n k).length = k
  | 0, _ => rfl
  | k + 1, n => by show (lows (n / 2) k).length + 1 = k + 1; rw [lows_len k]
theorem lows_snoc : ∀ (k n : Nat), lows n (k + 1) = lows n k ++ [48 + n / 2 ^ k % 2]
  | 0, n => by simp [lows]
  | k + 1, n => by
    show (48 + n % 2) :: lows (n / 2) (k + 1) = ((48 + n % 2) :: lows (n / 2) k) ++ _
    rw [lows_snoc k (n / 2), Nat.div_div_eq_div_mul, List.cons_append, Nat.pow_succ, Nat.mul_comm (2 ^ k) 2]
theorem bitsNum_snoc (cs : List Nat) (c : Nat) : bitsNum (cs ++ [c]) = bitsNum cs * 2 + (c - 48) := by
  unfold bitsNum; rw [List.foldl_append]; rfl
theorem lows_num (n : Nat) : ∀ k, ((bitsNum (lows n k) : Nat) : Int) = rev (n : Int) k
  | 0 => rfl
  | k + 1 => by
    rw [lows_snoc, bitsNum_snoc]
    show _ = 2 * rev (n : Int) k + (n : Int) / 2 ^ k % 2
    rw [← lows_num n k]
    have e : (n : Int) / 2 ^ k % 2 = ((n / 2 ^ k % 2 : Nat) : Int) := by simp
    rw [e]
    omega
theorem rev_mod (i : Int) : ∀ (k j : Nat), j ≤ k → rev (i % 2 ^ k) j = rev i j
  | k, 0, _ => rfl
  | k, j + 1, h => by
    show 2 * rev (i % 2 ^ k) j + i % 2 ^ k / 2 ^ j % 2 = 2 * rev i j + i / 2 ^ j % 2
    rw [rev_mod i k j (by omega)]
    have e : (2 : Int) ^ k = 2 ^ j * 2 ^ (k - j) := by rw [← Int.pow_add]; congr 1; omega
    have e2 : (2 : Int) ^ (k - j) = 2 * 2 ^ (k - j - 1) := by
      rw [show k - j = (k - j - 1) + 1 by omega, Int.pow_succ, Int.mul_comm]; rfl
    have hp : (0 : Int) < 2 ^ j := Int.pow_pos (by decide)
    have h1 : i % 2 ^ k / 2 ^ j = i / 2 ^ j % 2 ^ (k - j) := by
      rw [e, Int.emod_def, Int.emod_def]
      have h3 : i / (2 ^ j * 2 ^ (k - j)) = i / 2 ^ j / 2 ^ (k - j) := by rw [Int.ediv_ediv_of_nonneg (Int.le_of_lt hp)]
      rw [h3, show i - 2 ^ j * 2 ^ (k - j) * (i / 2 ^ j / 2 ^ (k - j)) = i + (-(2 ^ (k - j) * (i / 2 ^ j / 2 ^ (k - j)))) * 2 ^ j by
        rw [Int.neg_mul, Int.mul_comm (2 ^ (k - j) * _) (2 ^ j), ← Int.mul_assoc]; omega]
      rw [Int.add_mul_ediv_right _ _ (by omega)]
      omega
    rw [h1, e2]
    have h4 : i / 2 ^ j % (2 * 2 ^ (k - j - 1)) % 2 = i / 2 ^ j % 2 := Int.emod_emod_of_dvd _ ⟨_, rfl⟩
    rw [h4]

/-- the digits of n in base two, as code points -/
def digs (n : Nat) : List Nat := (Nat.toDigits 2 n).map Char.toNat
theorem digs_small {n : Nat} (h : n < 2) : digs n = [48 + n] := by
  unfold digs
  rw [Nat.toDigits_of_lt_base h]
  rcases (by omega : n = 0 ∨ n = 1) with rfl | rfl <;> rfl
theorem digs_big {n : Nat} (h : 2 ≤ n) : digs n = digs (n / 2) ++ [48 + n % 2] := by
  have hm : n % 2 < 2 := Nat.mod_lt n (by decide)
  have t : Nat.toDigits 2 (n / 2) ++ Nat.toDigits 2 (n % 2) = Nat.toDigits 2 (2 * (n / 2) + n % 2) := Nat.toDigits_append_toDigits (by decide) (by omega) hm
  rw [Nat.div_add_mod] at t
  show (Nat.toDigits 2 n).map Char.toNat = _
  rw [← t, List.map_append]
  show digs (n / 2) ++ digs (n % 2) = _
  rw [digs_small hm]
theorem lows_zero : ∀ k, lows 0 k = List.replicate k 48
  | 0 => rfl
  | k + 1 => by show (48 + 0 % 2) :: lows (0 / 2) k = _; rw [List.replicate_succ]; simp [lows_zero k]
/-- the digits turned round and filled up -/
theorem digs_rev : ∀ (k n : Nat), n < 2 ^ (k + 1) → (digs n).length ≤ k + 1 ∧ (digs n).reverse ++ List.replicate (k + 1 - (digs n).length) 48 = lows n (k + 1)
  | k, n, h => by
    by_cases h2 : n < 2
    · rw [digs_small h2]
      refine ⟨by simp, ?_⟩
      show [48 + n] ++ List.replicate (k + 1 - 1) 48 = (48 + n % 2) :: lows (n / 2) k
      rw [Nat.mod_eq_of_lt h2, Nat.div_eq_of_lt h2, lows_zero]
      simp
    · have hk : k ≠ 0 := by rintro rfl; simp at h; omega
      obtain ⟨j, rfl⟩ := Nat.exists_eq_succ_of_ne_zero hk
      have hn : n / 2 < 2 ^ (j + 1) := by
        rw [Nat.pow_succ] at h
        exact Nat.div_lt_of_lt_mul (by rw [Nat.mul_comm]; exact h)
      obtain ⟨h3, h4⟩ := digs_rev j (n / 2) hn
      rw [digs_big (by omega)]
      refine ⟨by simp; omega, ?_⟩
      rw [List.reverse_append, List.length_append, List.length_singleton]
      show [48 + n % 2] ++ (digs (n / 2)).reverse ++ _ = (48 + n % 2) :: lows (n / 2) (j + 1)
      rw [← h4, show j.succ + 1 - ((digs (n / 2)).length + 1) = j + 1 - (digs (n / 2)).length by omega]
      simp
theorem digs_bit (n : Nat) : ∀ c ∈ digs n, Bit c := by
  induction n using Nat.strongRecOn with
  | _ n ih =>
    by_cases h : n < 2
    · rw [digs_small h]; intro c hc; rw [List.mem_singleton.mp hc]; unfold Bit; omega
    · rw [digs_big (by omega)]
      intro c hc
      rcases List.mem_append.mp hc with hc | hc
      · exact ih _ (by omega) c hc
      · rw [List.mem_singleton.mp hc]; unfold Bit; omega
theorem digs_ne (n : Nat) : digs n ≠ [] := by
  by_cases h : n < 2
  · rw [digs_small h]; simp
  · rw [digs_big (by omega)]; simp

theorem base_signs {v : Nat} : (baseText "0b" 2 (v : Int)).cps.toList = [48, 98] ++ digs v := by
  rw [baseText_nonneg (by omega), Str.cps_append, Str.cps_append, Array.toList_append, Array.toList_append]
  have e1 : (Str.ofString "").cps.toList = [] := by decide
  have e2 : (Str.ofString "0b").cps.toList = [48, 98] := by decide
  rw [e1, e2, Str.ofString_eq_toList]
  simp [digs]
theorem cut_signs {v : Nat} : (Txt.slice (baseText "0b" 2 (v : Int)) (some 2) none).cps.toList = digs v := by
  have hl : (baseText "0b" 2 (v : Int)).cps.toList.length = (baseText "0b" 2 (v : Int)).length := Array.length_toList
  rw [base_signs] at hl
  have hl' : ([48, 98] ++ digs v).length = (digs v).length + 2 := by simp
  rw [slice_from_eq (b := (baseText "0b" 2 (v : Int)).length) (by decide) (by omega) rfl]
  show List.take _ (List.drop 2 (baseText "0b" 2 (v : Int)).cps.toList) = _
  rw [base_signs]
  show List.take _ (digs v) = _
  exact List.take_of_length_le (by omega)
theorem fill_signs {x : Str} {k : Nat} (h : ∀ c ∈ x.cps.toList, Bit c) : (Txt.zfill x (k : Int)).cps.toList = List.replicate (k - x.length) 48 ++ x.cps.toList := by
  unfold Txt.zfill
  split
  · rename_i hle
    rw [show k - x.length = 0 by omega]; rfl
  · unfold zfilled
    have hp : (match x.cps[0]? with
      | some 43 | some 45 => Builtin.Str.strSub x 0 1 ++ Builtin.Str.padded (Builtin.Str.strSub x 1 x.length) ((k : Int).toNat - x.length) 0 48
      | _ => Builtin.Str.padded x ((k : Int).toNat - x.length) 0 48) = Builtin.Str.padded x (k - x.length) 0 48 := by
      split
      · rename_i e
        rcases h 43 (by rw [← Array.getElem?_toList] at e; exact List.mem_of_getElem? e) with q | q <;> cases q
      · rename_i e
        rcases h 45 (by rw [← Array.getElem?_toList] at e; exact List.mem_of_getElem? e) with q | q <;> cases q
      · rfl
    refine (congrArg (fun y : Str => y.cps.toList) hp).trans ?_
    show (Array.replicate (k - x.length) 48 ++ x.cps ++ Array.replicate 0 48).toList = _
    simp
theorem turn_signs (x : Str) (u : Tok) : (Txt.sliceBy x none none (-1, u)).cps.toList = x.cps.toList.reverse := by
  rw [step_rev_list]
  apply List.ext_getElem
  · simp [Str.length]
  · intro i h1 h2
    have h3 : i < x.cps.size := by simpa [Str.length] using h1
    simp only [List.getElem_map, List.getElem_range, List.getElem_reverse, Array.length_toList, Array.getElem_toList]
    show x.cps.getD (x.cps.size - 1 - i) 0 = _
    rw [Array.getD, dif_pos (by omega)]
    rfl

/-- what br hands to int: its signs -/
theorem br_signs (i : Int) (k : Nat) (u : Tok) :
    let x := Txt.sliceBy (Txt.zfill (Txt.slice (baseText "0b" 2 (i % 2 ^ k)) (some 2) none) (k : Int)) none none (-1, u)
    (∀ c ∈ x.cps.toList, Bit c) ∧ x.cps.toList ≠ [] ∧ x.length ≤ k + 1 ∧ ((bitsNum x.cps.toList : Nat) : Int) = rev i k := by
  intro x
  have hp : (0 : Int) < 2 ^ k := Int.pow_pos (by decide)
  have h0 : 0 ≤ i % 2 ^ k := Int.emod_nonneg _ (by omega)
  have h1 : i % 2 ^ k < 2 ^ k := Int.emod_lt_of_pos _ hp
  obtain ⟨v, hv⟩ := Int.eq_ofNat_of_zero_le h0
  have hvk : v < 2 ^ k := by
    have e : ((2 ^ k : Nat) : Int) = (2 : Int) ^ k := by simp
    rw [hv, ← e] at h1
    exact Int.ofNat_lt.mp h1
  have hc := cut_signs (v := v)
  have hcl : (Txt.slice (baseText "0b" 2 (v : Int)) (some 2) none).length = (digs v).length := by
    rw [← hc]; exact Array.length_toList.symm
  have hf := fill_signs (x := Txt.slice (baseText "0b" 2 (v : Int)) (some 2) none) (k := k) (by rw [hc]; exact digs_bit v)
  have hx : x.cps.toList = (digs v).reverse ++ List.replicate (k - (digs v).length) 48 := by
    show (Txt.sliceBy (Txt.zfill (Txt.slice (baseText "0b" 2 (i % 2 ^ k)) (some 2) none) (k : Int)) none none (-1, u)).cps.toList = _
    rw [turn_signs, hv, hf, hcl, hc, List.reverse_append, List.reverse_replicate]
  have hlen : x.length = x.cps.toList.length := Array.length_toList.symm
  have key : (∀ c ∈ x.cps.toList, Bit c) ∧ x.cps.toList ≠ [] := by
    rw [hx]
    refine ⟨fun c hc => ?_, ?_⟩
    · rcases List.mem_append.mp hc with hc | hc
      · exact digs_bit v c (List.mem_reverse.mp hc)
      · rw [List.eq_of_mem_replicate hc]; exact .inl rfl
    · have := digs_ne v
      simp [this]
  refine ⟨key.1, key.2, ?_, ?_⟩
  · cases k with
    | zero =>
      have : v = 0 := by simp at hvk; omega
      subst this
      rw [hlen, hx, digs_small (by decide)]; simp
    | succ k =>
      have := digs_rev k v hvk
      rw [hlen, hx]; simp; omega
  · cases k with
    | zero =>
      have : v = 0 := by simp at hvk; omega
      subst this
      rw [hx, digs_small (by decide)]; rfl
    | succ k =>
      have := digs_rev k v hvk
      rw [hx, this.2, lows_num, ← hv, rev_mod i (k + 1) (k + 1) (Nat.le_refl _)]
end Mine
end
noncomputable section
open PySem PySem.W PyProof.Rows PySem.Spec PySem.Calls
set_option Elab.async false
set_option maxRecDepth 100000
set_option maxHeartbeats 4000000
local macro_rules | `(tactic| walk_at "no such key") => `(tactic| fail "none")
namespace Mine
theorem pow_kind : builtinKind "pow" = none := by decide +kernel
theorem pow_plain : plainId "pow" = true := by decide +kernel
theorem pow_entry : entryFor table "pow" = some Builtin.«pow» := entryFor_of_fast (by kernel_rfl)
theorem pow_args (a b c : Value) : argsOk "pow" ⟨[a, b, c], []⟩ := by unfold argsOk; kernel_rfl

theorem gives_pow3 (a b c : Int) (t u v : Tok) (hc0 : ¬(c == 0) = true) (hc1 : ¬(c.natAbs == 1) = true) (hb : ¬ b < 0) (hc2 : ¬ c < 0) :
    Gives (Builtin.«int.__pow__» ⟨[.int a t, .int b u, .int c v], []⟩) (.int ((Builtin.powMod (a % (c.natAbs : Int)).toNat b.natAbs c.natAbs : Nat) : Int)) :=
  .of_wp fun M A E s Q h => by
    obtain ⟨hp, g, d, tk, os⟩ := s
    have hz : (decide (c < 0) && (((Builtin.powMod (a % (c.natAbs : Int)).toNat b.natAbs c.natAbs : Nat) : Int) != 0)) = false := by
      rw [decide_eq_false hc2]; rfl
    wp_walk
    refine ⟨_, rfl, ?_⟩
    rw [if_neg (by rw [hz]; exact Bool.false_ne_true)]
    exact h
theorem gives_inv256 (t u v : Tok) : Gives (Builtin.«int.__pow__» ⟨[.int 256 t, .int (-1) u, .int 8380417 v], []⟩) (.int 8347681) :=
  .of_wp fun M A E s Q h => by
    obtain ⟨hp, g, d, tk, os⟩ := s
    wp_walk
    refine ⟨_, rfl, ?_⟩
    exact h
section
variable {prog : Program} {w : World} {A : Around} {E : Value → Shared → Prop} {s : Shared} {Q : Value → Shared → Prop}
theorem call_pow_of {a b c r : Int} {t u v : Tok} (G : Gives (Builtin.«int.__pow__» ⟨[.int a t, .int b u, .int c v], []⟩) (.int r)) (h : Q (.int r s.toks) { s with toks := s.toks + 1 }) :
    wpAny (model prog w) A (call (.builtin "pow") [.int a t, .int b u, .int c v]) Q E s := by
  refine call_function_entry pow_kind pow_plain pow_entry (pow_args _ _ _) ?_
  obtain ⟨hp, g, d, tk, os⟩ := s
  have hT : (⟨hp, g, d, tk, os⟩ : Shared).TypeIs (.int a t) "int" := rfl
  have e : PySem.dunder "pow" = Str.ofString "__pow__" := by decide +kernel
  have f3 : typeLookup (.type "int") (Str.ofString "__pow__") = pure (some (.builtin "int.__pow__")) := e ▸ F.slot_int_pow.lookup
  have f4 := F.slot_int_pow.bind (.int a t)
  repeat (any_goals (first | assumption | ((with_reducible show wpAny _ _ (call (Value.builtin "int.__pow__") _ _) _ _ _); refine call_gives F.slot_int_pow hT F.entry_int_pow (F.args_int_pow_3 _ _ _) G ?_; dsimp only [Made.post]) | wp_step))

  all_goals first | exact ⟨_, rfl, h⟩ | exact h | skip
end
end Mine
namespace Mine
theorem rev_nonneg (i : Int) : ∀ k, 0 ≤ rev i k
  | 0 => Int.le_refl 0
  | k + 1 => by
    have h1 := rev_nonneg i k
    have h2 := Int.emod_nonneg (i / 2 ^ k) (by decide : (2 : Int) ≠ 0)
    show 0 ≤ 2 * rev i k + i / 2 ^ k % 2
    omega
theorem rev_front (i : Int) : ∀ k, rev i (k + 1) = (i % 2) * 2 ^ k + rev (i / 2) k
  | 0 => by
    show 2 * 0 + i / 2 ^ 0 % 2 = (i % 2) * 2 ^ 0 + 0
    simp
  | k + 1 => by
    have e : i / 2 ^ (k + 1) = i / 2 / 2 ^ k := by
      rw [Int.ediv_ediv_of_nonneg (by decide : (0 : Int) ≤ 2), Int.pow_succ, Int.mul_comm]
    show 2 * rev i (k + 1) + i / 2 ^ (k + 1) % 2 = (i % 2) * 2 ^ (k + 1) + (2 * rev (i / 2) k + i / 2 / 2 ^ k % 2)
    rw [rev_front i k, e, Int.pow_succ, Int.mul_add, ← Int.mul_assoc (i % 2), Int.mul_comm 2 (i % 2 * 2 ^ k)]
    omega
theorem rev_rev (i : Int) : ∀ k, rev (rev i k) k = i % 2 ^ k
  | 0 => by show (0 : Int) = i % 2 ^ 0; simp [Int.emod_one]
  | k + 1 => by
    have hb := Int.emod_nonneg (i / 2 ^ k) (by decide : (2 : Int) ≠ 0)
    have hb2 := Int.emod_lt_of_pos (i / 2 ^ k) (by decide : (0 : Int) < 2)
    rw [rev_front (rev i (k + 1)) k]
    have e1 : rev i (k + 1) % 2 = i / 2 ^ k % 2 := by show (2 * rev i k + i / 2 ^ k % 2) % 2 = _; omega
    have e2 : rev i (k + 1) / 2 = rev i k := by show (2 * rev i k + i / 2 ^ k % 2) / 2 = _; omega
    rw [e1, e2, rev_rev i k]
    have h1 := Int.mul_ediv_add_emod i (2 ^ k)
    have h2 := Int.mul_ediv_add_emod (i / 2 ^ k) 2
    have hp : (0 : Int) < 2 ^ k := Int.pow_pos (by decide)
    have h3 := Int.emod_nonneg i (Int.ne_of_gt hp)
    have h4 := Int.emod_lt_of_pos i hp
    have e3 : i = (i / 2 ^ k % 2 * 2 ^ k + i % 2 ^ k) + 2 ^ (k + 1) * (i / 2 ^ k / 2) := by
      rw [Int.pow_succ, Int.mul_assoc]
      have q : 2 ^ k * (2 * (i / 2 ^ k / 2)) = 2 ^ k * (i / 2 ^ k) - 2 ^ k * (i / 2 ^ k % 2) := by
        rw [← Int.mul_sub]; congr 1; omega
      rw [q, Int.mul_comm (i / 2 ^ k % 2)]
      omega
    have e4 : i % 2 ^ (k + 1) = (i / 2 ^ k % 2 * 2 ^ k + i % 2 ^ k) % 2 ^ (k + 1) := by
      conv => lhs; rw [e3]
      rw [Int.add_mul_emod_self_left]
    rw [e4]
    have hle : i / 2 ^ k % 2 * 2 ^ k ≤ 2 ^ k := by
      rcases (by omega : i / 2 ^ k % 2 = 0 ∨ i / 2 ^ k % 2 = 1) with e | e <;> rw [e] <;> omega
    have hge : 0 ≤ i / 2 ^ k % 2 * 2 ^ k := Int.mul_nonneg hb (Int.le_of_lt hp)
    have h5 : (2 : Int) ^ (k + 1) = 2 ^ k * 2 := Int.pow_succ ..
    exact (Int.emod_eq_of_lt (by omega) (by omega)).symm
theorem rev_back (i k : Int) : rev (rev i k.toNat) k.toNat = i.fmod (2 ^ k.toNat) := by
  rw [rev_rev, Int.fmod_eq_emod_of_nonneg _ (Int.le_of_lt (Int.pow_pos (by decide)))]
theorem rev_lt (i : Int) : ∀ k, rev i k < 2 ^ k
  | 0 => by show (0 : Int) < 2 ^ 0; decide
  | k + 1 => by
    have h1 := rev_lt i k
    have h2 := Int.emod_lt_of_pos (i / 2 ^ k) (by decide : (0 : Int) < 2)
    have h5 : (2 : Int) ^ (k + 1) = 2 ^ k * 2 := Int.pow_succ ..
    show 2 * rev i k + i / 2 ^ k % 2 < _
    omega
/-- a power modulo the prime, as the model reckons it -/
def pw (a e : Int) : Int := ((Builtin.powMod (a % 8380417).toNat e.toNat 8380417 : Nat) : Int)
section
variable {prog : Program} {w : World} {A : Around} {E : Value → Shared → Prop} {s : Shared} {Q : Value → Shared → Prop}
theorem call_pw {a e : Int} {t u v : Tok} (he : 0 ≤ e) (h : Q (.int (pw a e) s.toks) { s with toks := s.toks + 1 }) :
    wpAny (model prog w) A (call (.builtin "pow") [.int a t, .int e u, .int 8380417 v]) Q E s := by
  refine call_pow_of (gives_pow3 a e 8380417 t u v (by decide) (by decide) (by omega) (by decide)) ?_
  have e1 : e.natAbs = e.toNat := by omega
  rw [e1]
  exact h
theorem call_inv256 {t u v : Tok} (h : Q (.int 8347681 s.toks) { s with toks := s.toks + 1 }) :
    wpAny (model prog w) A (call (.builtin "pow") [.int 256 t, .int (-1) u, .int 8380417 v]) Q E s := call_pow_of (gives_inv256 t u v) h
end
end Mine
end
noncomputable section
open PySem PySem.W PyProof.Rows PySem.Spec PySem.Calls
set_option Elab.async false
set_option maxRecDepth 100000
set_option maxHeartbeats 4000000
local macro_rules | `(tactic| walk_at "no such key") => `(tactic| fail "none")
local macro_rules | `(tactic| walk_at "no such key") => `(tactic| fail "none")
namespace Mine
theorem bin_fits (i : Int) {n : Nat} (hn : n ≤ 70) : (baseText "0b" 2 (i % 2 ^ n)).length ≤ sizeLine := by
  have hp : (0 : Int) < 2 ^ n := Int.pow_pos (by decide)
  have q0 : 0 ≤ i % 2 ^ n := Int.emod_nonneg _ (by omega)
  have q1 : i % 2 ^ n < 2 ^ n := Int.emod_lt_of_pos _ hp
  have e1 : ((2 ^ n : Nat) : Int) = (2 : Int) ^ n := by simp
  have e : (2 : Nat) ^ n ≤ 2 ^ 70 := Nat.pow_le_pow_right (by decide) hn
  have hd := toDigits_len_pow (b := 2) (k := 70) (n := (i % 2 ^ n).natAbs) (by decide) (by decide) (by omega)
  have e3 : (Str.ofString "").length = 0 := by decide
  have e4 : (Str.ofString "0b").length = 2 := by decide
  rw [baseText_nonneg q0, Str.length_append, Str.length_append, ofString_ofList_length (Nat.toDigits 2 (i % 2 ^ n).natAbs), sizeLine_eq, e3, e4]
  omega
theorem fill_fits (i : Int) {n : Nat} (hn : n ≤ 70) : (Txt.zfill (Txt.slice (baseText "0b" 2 (i % 2 ^ n)) (some 2) none) (n : Int)).length ≤ sizeLine := by
  have h := (br_signs i n 0).2.2.1
  rw [step_rev_len] at h
  rw [sizeLine_eq]
  omega
theorem br_call {pv : Program} {w : World} {loose : List Str} {mean : ExcName → Option Value} {mg mb : Str → Option Value} {dp un : Nat} {gd : Option (List Code)} {cn : Str} {cs : Scope} {a : Addr} {ccd : Value} {cl : List (Str × Addr)} {outer : List Env} {A₀ : Around} {base h₀ : Heap} {L : Addr} {m : Str → Option Value} {news : List (Addr × Obj)} {s : Shared}
    {Q E : Value → Shared → Prop} {i k : Int} {ti tk : Tok}
    (B : Below A₀ base outer h₀) (F : Fr h₀ L s.heap m) (X : (hd.heap_39 w.params).In h₀) (N : News h₀ L s.heap news) (T : Top pv loose mean mg mb h₀) (hk : cs.kind = .function)
    (h0 : 0 ≤ k) (h1 : k ≤ 70) (hd : dp + 1 < recursionLimit)
    (ret : ∀ t h' tk', Fr h₀ L h' m → News h₀ L h' news → Q (.int (rev i k.toNat) t) { s with heap := h', toks := tk' }) :
    wpAny (model PySem.Challenge.rw_ix0026_01.row.prog w) (ktrTop dp un gd cn cs L a ccd cl outer) (call (.ref 336) [.int i ti, .int k tk]) Q E s := by
  revert X
  k_fill
  intro X
  refine wpAny_call ?_
  k_dflt cell_enter
  iterate 20 walk1
  obtain ⟨n, rfl⟩ := Int.eq_ofNat_of_zero_le h0
  have hv : Builtin.bitAnd i (2 ^ (n : Int).toNat - 1) = i % 2 ^ n := kbt_mask i n
  rw [hv]
  have hx := br_signs i n
  have hsz : (baseText "0b" 2 (i % 2 ^ n)).length ≤ sizeLine := bin_fits i (by omega)
  refine P.bin_of_int ?_ (hsz := hsz)
  dsimp only
  iterate 29 (first | walk1 | (dsimp only; walk1))
  dsimp only
  rename Fr _ _ _ _ => Fx
  rename News _ _ _ _ => Nx
  refine slice_strK_nn (hsz := fill_fits i (by omega)) (s := ⟨_, _, _, _, _⟩) Fx Nx (by decide) ?_
  clear Fx Nx
  intro h1 t1 c1 F1 N1
  dsimp only
  iterate 3 (first | walk1 | (dsimp only; walk1))
  have hx := br_signs i n (tk + 1)
  refine call_bits hx.1 hx.2.1 (Nat.le_trans hx.2.2.1 (by omega)) ?_
  rw [hx.2.2.2]
  dsimp only
  repeat (first | (k_unfold; (try dsimp only)) | walk1)
  exact ret _ _ _ (by assumption) (by assumption)
end Mine
end
noncomputable section
open PySem PySem.W PyProof.Rows PySem.Spec PySem.Calls
set_option Elab.async false
set_option maxRecDepth 100000
set_option maxHeartbeats 4000000
local macro_rules | `(tactic| k_room) => `(tactic| ktr_room)
local macro_rules | `(tactic| k_enter) => `(tactic| first
  | (refine' code_def ?k1 ?k2 ?k3 ?k4 ?k5 ?kA ?kF ?kK ?k6 ?k7 ?k8 ?k9 ?kB ?_ ?c2 ?c3 ?c4 ?c5; (case kA => exact rfl); (case kF => exact rfl); (case kK => first | exact rfl | assumption); (case k1 => k_asm); (case k2 => k_asm); (case k3 => k_asm); (case k4 => k_asm); (case k5 => k_asm); (case k6 => k_is); (case k7 => k_is); (case k8 => ktr_room); (case k9 => first | exact BindsTo.of_eq rfl | exact binds_K (by k_in) rfl (by k_is) rfl rfl rfl | fail "k_enter: no rule for these arguments"); (case c5 => decide); (case kB => exact locs rfl); (case c2 => exact rfl); (case c3 => exact rfl); (case c4 => exact rfl); k_whole; intro g' L' h' FG' F' N' B' X' T'; (try dsimp only); (try k_lift B'); (try k_fold))
  | (refine' code_defC ?k1 ?k2 ?k3 ?k4 ?k5 ?kA ?kF ?kK ?k6 ?k7 ?k8 ?k9 ?kB ?kD ?_ ?c2 ?c3 ?c4; (case kA => exact rfl); (case kF => exact rfl); (case kK => first | exact rfl | assumption); (case k1 => k_asm); (case k2 => k_asm); (case k3 => k_asm); (case k4 => k_asm); (case k5 => k_asm); (case k6 => k_is); (case k7 => k_is); (case k8 => ktr_room); (case k9 => first | exact BindsTo.of_eq rfl | exact binds_K (by k_in) rfl (by k_is) rfl rfl rfl | fail "k_enter: no rule for these arguments"); (case kB => exact rfl); (case kD => decide +kernel); (case c2 => exact rfl); (case c3 => exact rfl); (case c4 => exact rfl); k_whole; intro g' L' h' tk' cells' FG' F' N' Y' B' X' T' l1; (try k_lt l1); k_cells Y'; (try simp only [List.cons_append, List.nil_append] at N'); (try dsimp only); (try k_lift B'); (try k_fold)))
local macro_rules | `(tactic| walk_at "getMethod ref") => `(tactic| (k_here; (with_reducible show wpAny _ _ (getMethod (Value.ref _) (PySem.Str.ofString "br") _) _ _ _); k_dflt (
  refine' kmu_sm ?k1 ?k2 ?k4 ?k5 ?k6 ?k7 ?k8 ?k9 ?k10 ?k11 ?k12 ?k13 ?k14 ?_; (case k1 => k_asm); (case k2 => k_asm); (case k4 => k_inst); (case k5 => k_is); (case k6 => k_is); (case k7 => k_is); (case k8 => k_is); (case k9 => k_is); (case k10 => k_is); (case k11 => decide +kernel); (case k12 => k_get); (case k13 => k_is); (case k14 => k_handed); k_whole)))
local macro_rules | `(tactic| walk_at "call ref") => `(tactic| (k_here; k_dflt (refine' Mine.br_call ?k1 ?k2 ?k3 ?k4 ?k5 ?kK ?k6 ?k7 ?kd ?_; (case k1 => k_asm); (case k2 => k_asm); (case k3 => k_asm); (case k4 => k_asm); (case k5 => k_asm); (case kK => first | exact rfl | assumption); (case k6 => first | decide | omega | l_fact); (case k7 => first | decide | omega | l_fact); (case kd => ktr_room)); intro t9 h9 tk9 F9 N9; (try dsimp only)))
local macro_rules | `(tactic| walk_at "call builtin:pow") => `(tactic| (k_dflt (refine Mine.call_pw (by first | decide | exact Mine.rev_nonneg _ _ | omega) ?_); (try dsimp only)))
local macro_rules | `(tactic| walk_at "call builtin:pow") => `(tactic| (k_dflt (refine Mine.call_inv256 ?_); (try dsimp only)))
local macro_rules | `(tactic| walk_at "no such key") => `(tactic| fail "none")
namespace Mine
def rootsL : List Int := (rangeKs 0 256).map fun i => pw 1753 (rev i 8)
theorem ring_make {pv : Program} {w : World} {loose : List Str} {mean : ExcName → Option Value} {mg mb : Str → Option Value} {dp un : Nat} {gd : Option (List Code)} {cn : Str} {cs : Scope} {a : Addr} {ccd : Value} {cl : List (Str × Addr)} {outer : List Env} {A₀ : Around} {base h₀ : Heap} {L : Addr} {m : Str → Option Value} {s : Shared} {c1 c2 c3 : Addr} {o1 o2 o3 : Obj}
    {Q E : Value → Shared → Prop}
    (B : Below A₀ base outer h₀) (F : Fr h₀ L s.heap m) (X : (hd.heap_39 w.params).In h₀) (N : News h₀ L s.heap [(c1, o1), (c2, o2), (c3, o3)]) (T : Top pv loose mean mg mb h₀) (hk : cs.kind = .function)
    (hd : dp + 5 < recursionLimit)
    (ret : ∀ (x d D a b : Addr) (t1 t2 t3 t4 t5 t6 t7 t8 t9 : Tok) (ys : List Value) (h' : Heap) (tk' : Nat), Fr h₀ L h' m →
      News h₀ L h' [(D, LCg.lst ys), (x, instObj 427 d), (d, dictOf [⟨PyData.keyHash w.params (Str.ofString "q"), .str (Str.ofString "q") t1, .int 8380417 t2⟩, ⟨PyData.keyHash w.params (Str.ofString "n"), .str (Str.ofString "n") t3, .int 256 t4⟩,
        ⟨PyData.keyHash w.params (Str.ofString "shake128"), .str (Str.ofString "shake128") t5, .ref a⟩, ⟨PyData.keyHash w.params (Str.ofString "shake256"), .str (Str.ofString "shake256") t6, .ref b⟩,
        ⟨PyData.keyHash w.params (Str.ofString "ntt_zetas"), .str (Str.ofString "ntt_zetas") t7, .ref D⟩, ⟨PyData.keyHash w.params (Str.ofString "ntt_f"), .str (Str.ofString "ntt_f") t8, .int 8347681 t9⟩] 6), (c1, o1), (c2, o2), (c3, o3)] →
      IntsAre ys rootsL → @LT.lt Nat _ d x → @Ne Nat D x → @Ne Nat D d → (@Ne Nat c1 D ∧ @Ne Nat c2 D ∧ @Ne Nat c3 D) → (@LT.lt Nat _ c1 d ∧ @LT.lt Nat _ c2 d ∧ @LT.lt Nat _ c3 d) → Q (.ref x) { s with heap := h', toks := tk' }) :
    wpAny (model PySem.Challenge.rw_ix0026_01.row.prog w) (ktrTop dp un gd cn cs L a ccd cl outer) (call (.ref 427) [.ref 632, .ref 632]) Q E s := by
  w_strict (iterate 94 (first | (k_unfold; (try dsimp only)) | walk1 | (dsimp only; walk1) | (leave1; (try dsimp only))))
  w_strict ((with_reducible refine plainObj_wpAny_Assign_Attribute ?_ ?_); rotate_left; with_unfolding_all rfl)
  w_strict (iterate 8 (first | (k_unfold; (try dsimp only)) | walk1 | (dsimp only; walk1) | (leave1; (try dsimp only))))
  (refine LCg.CompSrc.range (by rfl) (by k_asm) (by k_asm) (by assumption) (by decide) (by rfl) (by exact Nat.le_of_ble_eq_true rfl) ?_; intro g')
  refine' kcf_range (fun i => pw 1753 (rev i 8)) (fun k' t' I' oI' C' oC' D' m' ys' h' tk' E' hlo' hhi' hC' hx' F' N' off' ne' hMark' => ?_) ?_
  · (try (simp only [LCg.Off3, and_true] at off'))
    (try k_fold)
    w_strict (iterate 24 (first | (k_unfold; (try dsimp only)) | walk1 | (dsimp only; walk1) | (leave1; (try dsimp only))))
    exact kcf_el rfl rfl rfl
  · w_strict (iterate 25 (first | (k_unfold; (try dsimp only)) | walk1 | (dsimp only; walk1) | (leave1; (try dsimp only))))
    rename News _ _ _ _ => kN
    refine' ret _ _ _ _ _ _ _ _ _ _ _ _ _ _ _ _ _ (by assumption) (cb_drop kN ?k1) (by assumption) ?k2 ?k3 ?k4 ?k5 ?k6
    case k1 =>
      refine List.forall_mem_cons.mpr ⟨by k_mem, ?_⟩
      refine List.forall_mem_cons.mpr ⟨by k_mem, ?_⟩
      refine List.forall_mem_cons.mpr ⟨by k_mem, ?_⟩
      refine List.forall_mem_cons.mpr ⟨by k_mem, ?_⟩
      refine List.forall_mem_cons.mpr ⟨by k_mem, ?_⟩
      refine List.forall_mem_cons.mpr ⟨by k_mem, ?_⟩
      exact List.forall_mem_nil _
    case k2 => omega
    case k3 => exact neN (by omega)
    case k4 => exact neN (by omega)
    case k5 => exact ⟨neN (by omega), neN (by omega), neN (by omega)⟩
    case k6 => omega
end Mine
end
noncomputable section
open PySem PySem.W PyProof.Rows PySem.Spec PySem.Calls
set_option Elab.async false
set_option maxRecDepth 100000
set_option maxHeartbeats 4000000
local macro_rules | `(tactic| k_room) => `(tactic| ktr_room)
local macro_rules | `(tactic| k_enter) => `(tactic| first
  | (refine' code_def ?k1 ?k2 ?k3 ?k4 ?k5 ?kA ?kF ?kK ?k6 ?k7 ?k8 ?k9 ?kB ?_ ?c2 ?c3 ?c4 ?c5; (case kA => exact rfl); (case kF => exact rfl); (case kK => first | exact rfl | assumption); (case k1 => k_asm); (case k2 => k_asm); (case k3 => k_asm); (case k4 => k_asm); (case k5 => k_asm); (case k6 => k_is); (case k7 => k_is); (case k8 => ktr_room); (case k9 => first | exact BindsTo.of_eq rfl | exact binds_K (by k_in) rfl (by k_is) rfl rfl rfl | fail "k_enter: no rule for these arguments"); (case c5 => decide); (case kB => exact locs rfl); (case c2 => exact rfl); (case c3 => exact rfl); (case c4 => exact rfl); k_whole; intro g' L' h' FG' F' N' B' X' T'; (try dsimp only); (try k_lift B'); (try k_fold))
  | (refine' code_defC ?k1 ?k2 ?k3 ?k4 ?k5 ?kA ?kF ?kK ?k6 ?k7 ?k8 ?k9 ?kB ?kD ?_ ?c2 ?c3 ?c4; (case kA => exact rfl); (case kF => exact rfl); (case kK => first | exact rfl | assumption); (case k1 => k_asm); (case k2 => k_asm); (case k3 => k_asm); (case k4 => k_asm); (case k5 => k_asm); (case k6 => k_is); (case k7 => k_is); (case k8 => ktr_room); (case k9 => first | exact BindsTo.of_eq rfl | exact binds_K (by k_in) rfl (by k_is) rfl rfl rfl | fail "k_enter: no rule for these arguments"); (case kB => exact rfl); (case kD => decide +kernel); (case c2 => exact rfl); (case c3 => exact rfl); (case c4 => exact rfl); k_whole; intro g' L' h' tk' cells' FG' F' N' Y' B' X' T' l1; (try k_lt l1); k_cells Y'; (try simp only [List.cons_append, List.nil_append] at N'); (try dsimp only); (try k_lift B'); (try k_fold)))
local macro_rules | `(tactic| walk) => `(tactic| ((try dsimp only); repeat (first | (k_unfold; (try dsimp only)) | ((fail_if_success (with_reducible refine ite_neg ?_ ?_)); (fail_if_success (with_reducible show UnrPost _ _ _ _ _ _ _ _ _)); walk1) | ((fail_if_success (with_reducible refine ite_neg ?_ ?_)); (fail_if_success (with_reducible show UnrPost _ _ _ _ _ _ _ _ _)); dsimp only; walk1))))
local macro_rules | `(tactic| k_units) => `(tactic| ktr_units)
local macro_rules | `(tactic| walk_at "no such key") => `(tactic| fail "none")
local macro_rules | `(tactic| walk_at "no such key") => `(tactic| fail "none")
local macro_rules | `(tactic| walk_at "no such key") => `(tactic| fail "none")
namespace Mine
/-- r modulo n, the rest above the half of n less n -/
def redpm (r n : Int) : Int := if n / 2 < r.fmod n then r.fmod n - n else r.fmod n
theorem red_call {pv : Program} {w : World} {loose : List Str} {mean : ExcName → Option Value} {mg mb : Str → Option Value} {dp un : Nat} {gd : Option (List Code)} {cn : Str} {cs : Scope} {a : Addr} {ccd : Value} {cl : List (Str × Addr)} {outer : List Env} {A₀ : Around} {base h₀ : Heap} {L : Addr} {m : Str → Option Value} {news : List (Addr × Obj)} {s : Shared}
    {Q E : Value → Shared → Prop} {i k : Int} {ti tk : Tok}
    (B : Below A₀ base outer h₀) (F : Fr h₀ L s.heap m) (X : (hd.heap_39 w.params).In h₀) (N : News h₀ L s.heap news) (T : Top pv loose mean mg mb h₀) (hk : cs.kind = .function)
    (hn : 0 < k) (hd : dp + 1 < recursionLimit)
    (ret : ∀ t h' tk', Fr h₀ L h' m → News h₀ L h' news → Q (.int (redpm i k) t) { s with heap := h', toks := tk' }) :
    wpAny (model PySem.Challenge.rw_ix0026_01.row.prog w) (ktrTop dp un gd cn cs L a ccd cl outer) (call (.ref 28) [.int i ti, .int k tk]) Q E s := by
  w_strict walk
  have e : k.fdiv (2 ^ Int.toNat 1) = k / 2 := Int.fdiv_eq_ediv_of_nonneg k (by decide)
  rw [e]
  by_cases hb : k / 2 < i.fmod k
  · refine ite_pos (decide_eq_true hb) ?_
    w_strict walk
    rename Fr _ _ _ _ => Fe
    rename News _ _ _ _ => Ne
    rw [show i.fmod k - k = redpm i k by unfold redpm; rw [if_pos hb]]
    exact ret _ _ _ (by assumption) (by assumption)
  · refine ite_neg (by rw [decide_eq_true_eq]; exact hb) ?_
    w_strict walk
    rename Fr _ _ _ _ => Fe
    rename News _ _ _ _ => Ne
    rw [show i.fmod k = redpm i k by unfold redpm; rw [if_neg hb]]
    exact ret _ _ _ (by assumption) (by assumption)
end Mine
end
noncomputable section
open PySem PySem.W PyProof.Rows PySem.Spec PySem.Calls
set_option Elab.async false
set_option maxRecDepth 100000
set_option maxHeartbeats 4000000
local macro_rules | `(tactic| k_room) => `(tactic| ktr_room)
local macro_rules | `(tactic| k_enter) => `(tactic| first
  | (refine' code_def ?k1 ?k2 ?k3 ?k4 ?k5 ?kA ?kF ?kK ?k6 ?k7 ?k8 ?k9 ?kB ?_ ?c2 ?c3 ?c4 ?c5; (case kA => exact rfl); (case kF => exact rfl); (case kK => first | exact rfl | assumption); (case k1 => k_asm); (case k2 => k_asm); (case k3 => k_asm); (case k4 => k_asm); (case k5 => k_asm); (case k6 => k_is); (case k7 => k_is); (case k8 => ktr_room); (case k9 => first | exact BindsTo.of_eq rfl | exact binds_K (by k_in) rfl (by k_is) rfl rfl rfl | fail "k_enter: no rule for these arguments"); (case c5 => decide); (case kB => exact locs rfl); (case c2 => exact rfl); (case c3 => exact rfl); (case c4 => exact rfl); k_whole; intro g' L' h' FG' F' N' B' X' T'; (try dsimp only); (try k_lift B'); (try k_fold))
  | (refine' code_defC ?k1 ?k2 ?k3 ?k4 ?k5 ?kA ?kF ?kK ?k6 ?k7 ?k8 ?k9 ?kB ?kD ?_ ?c2 ?c3 ?c4; (case kA => exact rfl); (case kF => exact rfl); (case kK => first | exact rfl | assumption); (case k1 => k_asm); (case k2 => k_asm); (case k3 => k_asm); (case k4 => k_asm); (case k5 => k_asm); (case k6 => k_is); (case k7 => k_is); (case k8 => ktr_room); (case k9 => first | exact BindsTo.of_eq rfl | exact binds_K (by k_in) rfl (by k_is) rfl rfl rfl | fail "k_enter: no rule for these arguments"); (case kB => exact rfl); (case kD => decide +kernel); (case c2 => exact rfl); (case c3 => exact rfl); (case c4 => exact rfl); k_whole; intro g' L' h' tk' cells' FG' F' N' Y' B' X' T' l1; (try k_lt l1); k_cells Y'; (try simp only [List.cons_append, List.nil_append] at N'); (try dsimp only); (try k_lift B'); (try k_fold)))
local macro_rules | `(tactic| walk) => `(tactic| ((try dsimp only); repeat (first | (k_unfold; (try dsimp only)) | ((fail_if_success (with_reducible refine ite_neg ?_ ?_)); (fail_if_success (with_reducible show UnrPost _ _ _ _ _ _ _ _ _)); walk1) | ((fail_if_success (with_reducible refine ite_neg ?_ ?_)); (fail_if_success (with_reducible show UnrPost _ _ _ _ _ _ _ _ _)); dsimp only; walk1))))
local macro_rules | `(tactic| k_units) => `(tactic| ktr_units)
local macro_rules | `(tactic| walk_at "call ref") => `(tactic| (k_here; k_dflt (refine' Mine.red_call ?k1 ?k2 ?k3 ?k4 ?k5 ?kK ?k6 ?kd ?_; (case k1 => k_asm); (case k2 => k_asm); (case k3 => k_asm); (case k4 => k_asm); (case k5 => k_asm); (case kK => first | exact rfl | assumption); (case k6 => first | assumption | decide | omega); (case kd => ktr_room)); intro t9 h9 tk9 F9 N9; (try dsimp only)))
local macro_rules | `(tactic| walk_at "no such key") => `(tactic| fail "none")
local macro_rules | `(tactic| walk_at "no such key") => `(tactic| fail "none")
local macro_rules | `(tactic| walk_at "no such key") => `(tactic| fail "none")
namespace Mine
def decomp (r a q : Int) : Int × Int := if r.fmod q - redpm (r.fmod q) a = q - 1 then (0, redpm (r.fmod q) a - 1) else ((r.fmod q - redpm (r.fmod q) a).fdiv a, redpm (r.fmod q) a)
theorem dec_call {pv : Program} {w : World} {loose : List Str} {mean : ExcName → Option Value} {mg mb : Str → Option Value} {dp un : Nat} {gd : Option (List Code)} {cn : Str} {cs : Scope} {a : Addr} {ccd : Value} {cl : List (Str × Addr)} {outer : List Env} {A₀ : Around} {base h₀ : Heap} {L : Addr} {m : Str → Option Value} {news : List (Addr × Obj)} {s : Shared}
    {Q E : Value → Shared → Prop} {i k q : Int} {ti tk tq : Tok}
    (B : Below A₀ base outer h₀) (F : Fr h₀ L s.heap m) (X : (hd.heap_39 w.params).In h₀) (N : News h₀ L s.heap news) (T : Top pv loose mean mg mb h₀) (hk : cs.kind = .function)
    (hn : 0 < k) (hk24 : k < 16777216) (hq : 0 < q) (hd : dp + 3 < recursionLimit)
    (ret : ∀ (D : Addr) (t1 t2 : Tok) (h' : Heap) (tk' : Nat), Fr h₀ L h' m → News h₀ L h' ((D, { cls := .type "tuple", data := .seq #[.int (decomp i k q).1 t1, .int (decomp i k q).2 t2] }) :: news) → (∀ p ∈ news, p.1 < D) → Q (.ref D) { s with heap := h', toks := tk' }) :
    wpAny (model PySem.Challenge.rw_ix0026_01.row.prog w) (ktrTop dp un gd cn cs L a ccd cl outer) (call (.ref 35) [.int i ti, .int k tk, .int q tq]) Q E s := by
  have hk0 : k ≠ 0 := by omega
  w_strict walk
  by_cases hb : i.fmod q - redpm (i.fmod q) k = q - 1
  · refine ite_pos (by simp [hb]) ?_
    w_strict walk
    rename News h₀ _ _ _ => Ne
    have e1 : (decomp i k q).1 = 0 := by unfold decomp; rw [if_pos hb]
    have e2 : (decomp i k q).2 = redpm (i.fmod q) k - 1 := by unfold decomp; rw [if_pos hb]
    rw [← e1, ← e2] at Ne
    exact ret _ _ _ _ _ (by assumption) Ne (by assumption)
  · refine ite_neg (by simp [hb]) ?_
    w_strict walk
    rename News h₀ _ _ _ => Ne
    have e1 : (decomp i k q).1 = (i.fmod q - redpm (i.fmod q) k).fdiv k := by unfold decomp; rw [if_neg hb]
    have e2 : (decomp i k q).2 = redpm (i.fmod q) k := by unfold decomp; rw [if_neg hb]
    rw [← e1, ← e2] at Ne
    exact ret _ _ _ _ _ (by assumption) Ne (by assumption)
end Mine
end
noncomputable section
open PySem PySem.W PyProof.Rows
namespace Mine
theorem bitAnd_full (y : Int) : Builtin.bitAnd y (-1) = y := by
  unfold Builtin.bitAnd Builtin.bitNot
  by_cases h : 0 ≤ y
  · simp [h]
  · simp [h]; omega
/-- the lesser of the two rests -/
def cen (n : Int) : Int := min (n.fmod 8380417) ((-n).fmod 8380417)
theorem cen_eq (n : Int) : (8380417 - 1 : Int).fdiv (2 ^ Int.toNat 1) -
    Builtin.bitXor ((8380417 - 1 : Int).fdiv (2 ^ Int.toNat 1) - n.fmod 8380417) (((8380417 - 1 : Int).fdiv (2 ^ Int.toNat 1) - n.fmod 8380417).fdiv (2 ^ Int.toNat 31)) = cen n := by
  have e1 : (8380417 - 1 : Int).fdiv (2 ^ Int.toNat 1) = 4190208 := by decide
  have e2 : (2 : Int) ^ Int.toNat 31 = 2147483648 := by decide
  rw [e1, e2]
  unfold cen
  have f1 : n.fmod 8380417 = n % 8380417 := Int.fmod_eq_emod_of_nonneg _ (by decide)
  have f2 : (-n).fmod 8380417 = (-n) % 8380417 := Int.fmod_eq_emod_of_nonneg _ (by decide)
  rw [f1, f2]
  have h0 := Int.emod_nonneg n (show (8380417 : Int) ≠ 0 by decide)
  have h1 := Int.emod_lt_of_pos n (show (0 : Int) < 8380417 by decide)
  have f3 : (4190208 - n % 8380417).fdiv 2147483648 = (4190208 - n % 8380417) / 2147483648 := Int.fdiv_eq_ediv_of_nonneg _ (by decide)
  rw [f3]
  by_cases hy : n % 8380417 ≤ 4190208
  · rw [show (4190208 - n % 8380417) / 2147483648 = 0 by omega, bitXor_zero]
    omega
  · rw [show (4190208 - n % 8380417) / 2147483648 = -1 by omega, bitXor_and, bitAnd_full]
    omega
end Mine
end
noncomputable section
open PySem PySem.W PyProof.Rows PySem.Spec PySem.Calls
set_option Elab.async false
set_option maxRecDepth 100000
set_option maxHeartbeats 4000000
local macro_rules | `(tactic| k_room) => `(tactic| ktr_room)
local macro_rules | `(tactic| k_enter) => `(tactic| first
  | (refine' code_def ?k1 ?k2 ?k3 ?k4 ?k5 ?kA ?kF ?kK ?k6 ?k7 ?k8 ?k9 ?kB ?_ ?c2 ?c3 ?c4 ?c5; (case kA => exact rfl); (case kF => exact rfl); (case kK => first | exact rfl | assumption); (case k1 => k_asm); (case k2 => k_asm); (case k3 => k_asm); (case k4 => k_asm); (case k5 => k_asm); (case k6 => k_is); (case k7 => k_is); (case k8 => ktr_room); (case k9 => first | exact BindsTo.of_eq rfl | exact binds_K (by k_in) rfl (by k_is) rfl rfl rfl | fail "k_enter: no rule for these arguments"); (case c5 => decide); (case kB => exact locs rfl); (case c2 => exact rfl); (case c3 => exact rfl); (case c4 => exact rfl); k_whole; intro g' L' h' FG' F' N' B' X' T'; (try dsimp only); (try k_lift B'); (try k_fold))
  | (refine' code_defC ?k1 ?k2 ?k3 ?k4 ?k5 ?kA ?kF ?kK ?k6 ?k7 ?k8 ?k9 ?kB ?kD ?_ ?c2 ?c3 ?c4; (case kA => exact rfl); (case kF => exact rfl); (case kK => first | exact rfl | assumption); (case k1 => k_asm); (case k2 => k_asm); (case k3 => k_asm); (case k4 => k_asm); (case k5 => k_asm); (case k6 => k_is); (case k7 => k_is); (case k8 => ktr_room); (case k9 => first | exact BindsTo.of_eq rfl | exact binds_K (by k_in) rfl (by k_is) rfl rfl rfl | fail "k_enter: no rule for these arguments"); (case kB => exact rfl); (case kD => decide +kernel); (case c2 => exact rfl); (case c3 => exact rfl); (case c4 => exact rfl); k_whole; intro g' L' h' tk' cells' FG' F' N' Y' B' X' T' l1; (try k_lt l1); k_cells Y'; (try simp only [List.cons_append, List.nil_append] at N'); (try dsimp only); (try k_lift B'); (try k_fold)))
local macro_rules | `(tactic| walk) => `(tactic| ((try dsimp only); repeat (first | (k_unfold; (try dsimp only)) | ((fail_if_success (with_reducible refine ite_neg ?_ ?_)); (fail_if_success (with_reducible show UnrPost _ _ _ _ _ _ _ _ _)); walk1) | ((fail_if_success (with_reducible refine ite_neg ?_ ?_)); (fail_if_success (with_reducible show UnrPost _ _ _ _ _ _ _ _ _)); dsimp only; walk1))))
local macro_rules | `(tactic| k_units) => `(tactic| ktr_units)
local macro_rules | `(tactic| walk_at "call ref") => `(tactic| (k_here; k_dflt (refine' Mine.dec_call ?k1 ?k2 ?k3 ?k4 ?k5 ?kK ?k6 ?k7 ?k8 ?kd ?_; (case k1 => k_asm); (case k2 => k_asm); (case k3 => k_asm); (case k4 => k_asm); (case k5 => k_asm); (case kK => first | exact rfl | assumption); (case k6 => first | assumption | decide | omega); (case k7 => first | assumption | decide | omega); (case k8 => first | assumption | decide | omega); (case kd => ktr_room)); intro D9 v9 u9 h9 tk9 F9 N9 l9; (try dsimp only); (try k_lt l9)))
namespace Mine
theorem hig_call {pv : Program} {w : World} {loose : List Str} {mean : ExcName → Option Value} {mg mb : Str → Option Value} {dp un : Nat} {gd : Option (List Code)} {cn : Str} {cs : Scope} {a : Addr} {ccd : Value} {cl : List (Str × Addr)} {outer : List Env} {A₀ : Around} {base h₀ : Heap} {L : Addr} {m : Str → Option Value} {news : List (Addr × Obj)} {s : Shared}
    {Q E : Value → Shared → Prop} {i k q : Int} {ti tk tq : Tok}
    (B : Below A₀ base outer h₀) (F : Fr h₀ L s.heap m) (X : (hd.heap_39 w.params).In h₀) (N : News h₀ L s.heap news) (T : Top pv loose mean mg mb h₀) (hk : cs.kind = .function)
    (hn : 0 < k) (hk24 : k < 16777216) (hq : 0 < q) (hd : dp + 5 < recursionLimit)
    (ret : ∀ t h' tk', Fr h₀ L h' m → News h₀ L h' news → Q (.int (decomp i k q).1 t) { s with heap := h', toks := tk' }) :
    wpAny (model PySem.Challenge.rw_ix0026_01.row.prog w) (ktrTop dp un gd cn cs L a ccd cl outer) (call (.ref 42) [.int i ti, .int k tk, .int q tq]) Q E s := by
  w_strict walk
  rename News h₀ _ _ _ => Ne
  exact ret _ _ _ (by assumption) (cb_drop Ne (fun p hp => List.mem_cons_of_mem _ hp))
theorem low_call {pv : Program} {w : World} {loose : List Str} {mean : ExcName → Option Value} {mg mb : Str → Option Value} {dp un : Nat} {gd : Option (List Code)} {cn : Str} {cs : Scope} {a : Addr} {ccd : Value} {cl : List (Str × Addr)} {outer : List Env} {A₀ : Around} {base h₀ : Heap} {L : Addr} {m : Str → Option Value} {news : List (Addr × Obj)} {s : Shared}
    {Q E : Value → Shared → Prop} {i k q : Int} {ti tk tq : Tok}
    (B : Below A₀ base outer h₀) (F : Fr h₀ L s.heap m) (X : (hd.heap_39 w.params).In h₀) (N : News h₀ L s.heap news) (T : Top pv loose mean mg mb h₀) (hk : cs.kind = .function)
    (hn : 0 < k) (hk24 : k < 16777216) (hq : 0 < q) (hd : dp + 5 < recursionLimit)
    (ret : ∀ t h' tk', Fr h₀ L h' m → News h₀ L h' news → Q (.int (decomp i k q).2 t) { s with heap := h', toks := tk' }) :
    wpAny (model PySem.Challenge.rw_ix0026_01.row.prog w) (ktrTop dp un gd cn cs L a ccd cl outer) (call (.ref 49) [.int i ti, .int k tk, .int q tq]) Q E s := by
  w_strict walk
  rename News h₀ _ _ _ => Ne
  exact ret _ _ _ (by assumption) (cb_drop Ne (fun p hp => List.mem_cons_of_mem _ hp))
theorem cnb_call {pv : Program} {w : World} {loose : List Str} {mean : ExcName → Option Value} {mg mb : Str → Option Value} {dp un : Nat} {gd : Option (List Code)} {cn : Str} {cs : Scope} {a : Addr} {ccd : Value} {cl : List (Str × Addr)} {outer : List Env} {A₀ : Around} {base h₀ : Heap} {L : Addr} {m : Str → Option Value} {news : List (Addr × Obj)} {s : Shared}
    {Q E : Value → Shared → Prop} {i k : Int} {ti tk tq : Tok}
    (B : Below A₀ base outer h₀) (F : Fr h₀ L s.heap m) (X : (hd.heap_39 w.params).In h₀) (N : News h₀ L s.heap news) (T : Top pv loose mean mg mb h₀) (hk : cs.kind = .function)
    (hd : dp + 1 < recursionLimit)
    (ret : ∀ h' tk', Fr h₀ L h' m → News h₀ L h' news → Q (.bool (decide (k ≤ cen i))) { s with heap := h', toks := tk' }) :
    wpAny (model PySem.Challenge.rw_ix0026_01.row.prog w) (ktrTop dp un gd cn cs L a ccd cl outer) (call (.ref 56) [.int i ti, .int k tk, .int 8380417 tq]) Q E s := by
  w_strict walk
  rw [cen_eq]
  exact ret _ _ (by assumption) (by assumption)
end Mine
end
noncomputable section
open PySem PySem.W PyProof.Rows PySem.Spec PySem.Calls
set_option Elab.async false
set_option maxRecDepth 100000
set_option maxHeartbeats 4000000
local macro_rules | `(tactic| k_room) => `(tactic| ktr_room)
local macro_rules | `(tactic| k_enter) => `(tactic| first
  | (refine' code_def ?k1 ?k2 ?k3 ?k4 ?k5 ?kA ?kF ?kK ?k6 ?k7 ?k8 ?k9 ?kB ?_ ?c2 ?c3 ?c4 ?c5; (case kA => exact rfl); (case kF => exact rfl); (case kK => first | exact rfl | assumption); (case k1 => k_asm); (case k2 => k_asm); (case k3 => k_asm); (case k4 => k_asm); (case k5 => k_asm); (case k6 => k_is); (case k7 => k_is); (case k8 => ktr_room); (case k9 => first | exact BindsTo.of_eq rfl | exact binds_K (by k_in) rfl (by k_is) rfl rfl rfl | fail "k_enter: no rule for these arguments"); (case c5 => decide); (case kB => exact locs rfl); (case c2 => exact rfl); (case c3 => exact rfl); (case c4 => exact rfl); k_whole; intro g' L' h' FG' F' N' B' X' T'; (try dsimp only); (try k_lift B'); (try k_fold))
  | (refine' code_defC ?k1 ?k2 ?k3 ?k4 ?k5 ?kA ?kF ?kK ?k6 ?k7 ?k8 ?k9 ?kB ?kD ?_ ?c2 ?c3 ?c4; (case kA => exact rfl); (case kF => exact rfl); (case kK => first | exact rfl | assumption); (case k1 => k_asm); (case k2 => k_asm); (case k3 => k_asm); (case k4 => k_asm); (case k5 => k_asm); (case k6 => k_is); (case k7 => k_is); (case k8 => ktr_room); (case k9 => first | exact BindsTo.of_eq rfl | exact binds_K (by k_in) rfl (by k_is) rfl rfl rfl | fail "k_enter: no rule for these arguments"); (case kB => exact rfl); (case kD => decide +kernel); (case c2 => exact rfl); (case c3 => exact rfl); (case c4 => exact rfl); k_whole; intro g' L' h' tk' cells' FG' F' N' Y' B' X' T' l1; (try k_lt l1); k_cells Y'; (try simp only [List.cons_append, List.nil_append] at N'); (try dsimp only); (try k_lift B'); (try k_fold)))
local macro_rules | `(tactic| walk) => `(tactic| ((try dsimp only); repeat (first | (k_unfold; (try dsimp only)) | ((fail_if_success (with_reducible refine ite_neg ?_ ?_)); (fail_if_success (with_reducible show UnrPost _ _ _ _ _ _ _ _ _)); walk1) | ((fail_if_success (with_reducible refine ite_neg ?_ ?_)); (fail_if_success (with_reducible show UnrPost _ _ _ _ _ _ _ _ _)); dsimp only; walk1))))
local macro_rules | `(tactic| k_units) => `(tactic| ktr_units)
local macro_rules | `(tactic| walk_at "getMethod ref") => `(tactic| (k_here; (with_reducible show wpAny _ _ (getMethod (Value.ref _) (PySem.Str.ofString "br") _) _ _ _); k_dflt (
  refine' kmu_sm ?k1 ?k2 ?k4 ?k5 ?k6 ?k7 ?k8 ?k9 ?k10 ?k11 ?k12 ?k13 ?k14 ?_; (case k1 => k_asm); (case k2 => k_asm); (case k4 => k_inst); (case k5 => k_is); (case k6 => k_is); (case k7 => k_is); (case k8 => k_is); (case k9 => k_is); (case k10 => k_is); (case k11 => decide +kernel); (case k12 => k_get); (case k13 => k_is); (case k14 => k_handed); k_whole)))
local macro_rules | `(tactic| walk_at "no such key") => `(tactic| fail "none")
namespace Mine
theorem lt_of_all {d : Addr} : ∀ {l : List (Addr × Obj)}, AllLt d l → ∀ p ∈ l, p.1 < d
  | [], _, _, h => nomatch h
  | _ :: _, x, p, h => by
    rcases List.mem_cons.mp h with rfl | h
    · exact x.1
    · exact lt_of_all x.2 p h
abbrev ringLed (P : Params) (D x d a b : Addr) (t1 t2 t3 t4 t5 t6 t7 t8 t9 : Tok) (r : List (Addr × Obj)) : List (Addr × Obj) :=
  (x, instObj 427 d) :: (d, dictOf [⟨PyData.keyHash P (Str.ofString "q"), .str (Str.ofString "q") t1, .int 8380417 t2⟩, ⟨PyData.keyHash P (Str.ofString "n"), .str (Str.ofString "n") t3, .int 256 t4⟩,
        ⟨PyData.keyHash P (Str.ofString "shake128"), .str (Str.ofString "shake128") t5, .ref a⟩, ⟨PyData.keyHash P (Str.ofString "shake256"), .str (Str.ofString "shake256") t6, .ref b⟩,
        ⟨PyData.keyHash P (Str.ofString "ntt_zetas"), .str (Str.ofString "ntt_zetas") t7, .ref D⟩, ⟨PyData.keyHash P (Str.ofString "ntt_f"), .str (Str.ofString "ntt_f") t8, .int 8347681 t9⟩] 6) :: r
theorem poly_new {pv : Program} {w : World} {loose : List Str} {mean : ExcName → Option Value} {mg mb : Str → Option Value} {dp un : Nat} {gd : Option (List Code)} {cn : Str} {cs : Scope} {a0 : Addr} {ccd : Value} {cl : List (Str × Addr)} {outer : List Env} {A₀ : Around} {base h₀ : Heap} {L : Addr} {m : Str → Option Value} {s : Shared}
    {Q E : Value → Shared → Prop} {l D x d a b : Addr} {t1 t2 t3 t4 t5 t6 t7 t8 t9 : Tok} {vs : List Value} {ns : List Int} {nn : Nat} {rest : List (Addr × Obj)}
    (B : Below A₀ base outer h₀) (F : Fr h₀ L s.heap m) (X : (hd.heap_39 w.params).In h₀) (T : Top pv loose mean mg mb h₀) (hk : cs.kind = .function)
    (N : News h₀ L s.heap ((l, { cls := .type "list", data := .seq vs.toArray nn }) :: ringLed w.params D x d a b t1 t2 t3 t4 t5 t6 t7 t8 t9 rest)) (I : IntsAre vs ns) (hlen : ns.length = 256) (hd : dp + 5 < recursionLimit)
    (ret : ∀ (y e : Addr) (ta tb : Tok) (h' : Heap) (tk' : Nat), Fr h₀ L h' m → News h₀ L h' ((y, instObj 559 e) :: (e, dictOf [⟨PyData.keyHash w.params (Str.ofString "parent"), .str (Str.ofString "parent") ta, .ref x⟩, ⟨PyData.keyHash w.params (Str.ofString "coeffs"), .str (Str.ofString "coeffs") tb, .ref l⟩] 2) :: (l, { cls := .type "list", data := .seq vs.toArray nn }) :: ringLed w.params D x d a b t1 t2 t3 t4 t5 t6 t7 t8 t9 rest) →
      (∀ p ∈ (l, { cls := .type "list", data := .seq vs.toArray nn }) :: ringLed w.params D x d a b t1 t2 t3 t4 t5 t6 t7 t8 t9 rest, p.1 < e) → @LT.lt Nat _ e y → Q (.ref y) { s with heap := h', toks := tk' }) :
    wpAny (model PySem.Challenge.rw_ix0026_01.row.prog w) (ktrTop dp un gd cn cs L a0 ccd cl outer) (call (.ref 559) [.ref x, .ref l]) Q E s := by
  dsimp only [ringLed] at N
  w_strict (iterate 30 (first | (k_unfold; (try dsimp only)) | walk1 | (dsimp only; walk1) | (leave1; (try dsimp only))))
  (try dsimp only)
  w_strict walk
  refine ite_neg (by simp; omega) ?_
  (try dsimp only)
  w_strict walk
  refine ite_neg (by simp; omega) ?_
  (try dsimp only)
  w_strict walk
  rename Fr h₀ _ _ _ => Fe
  rename News h₀ _ _ _ => Ne
  refine' ret _ _ _ _ _ _ Fe (cb_drop Ne ?k1) ?k2 ?k3
  case k1 => (repeat (first | exact List.forall_mem_nil _ | (refine List.forall_mem_cons.mpr ⟨by k_mem, ?_⟩) | (intro p hp; repeat (first | exact hp | refine List.mem_cons_of_mem _ ?_))))
  case k2 =>
    dsimp only [ringLed]
    iterate 3 (refine List.forall_mem_cons.mpr ⟨by (show @LT.lt Nat _ _ _); omega, ?_⟩)
    refine lt_of_all ?_
    tbn_find
  case k3 => omega
end Mine
end
noncomputable section
open PySem PySem.W PyProof.Rows PySem.Spec PySem.Calls
set_option Elab.async false
set_option maxRecDepth 100000
set_option maxHeartbeats 4000000
local macro_rules | `(tactic| k_room) => `(tactic| ktr_room)
local macro_rules | `(tactic| k_enter) => `(tactic| first
  | (refine' code_def ?k1 ?k2 ?k3 ?k4 ?k5 ?kA ?kF ?kK ?k6 ?k7 ?k8 ?k9 ?kB ?_ ?c2 ?c3 ?c4 ?c5; (case kA => exact rfl); (case kF => exact rfl); (case kK => first | exact rfl | assumption); (case k1 => k_asm); (case k2 => k_asm); (case k3 => k_asm); (case k4 => k_asm); (case k5 => k_asm); (case k6 => k_is); (case k7 => k_is); (case k8 => ktr_room); (case k9 => first | exact BindsTo.of_eq rfl | exact binds_K (by k_in) rfl (by k_is) rfl rfl rfl | fail "k_enter: no rule for these arguments"); (case c5 => decide); (case kB => exact locs rfl); (case c2 => exact rfl); (case c3 => exact rfl); (case c4 => exact rfl); k_whole; intro g' L' h' FG' F' N' B' X' T'; (try dsimp only); (try k_lift B'); (try k_fold))
  | (refine' code_defC ?k1 ?k2 ?k3 ?k4 ?k5 ?kA ?kF ?kK ?k6 ?k7 ?k8 ?k9 ?kB ?kD ?_ ?c2 ?c3 ?c4; (case kA => exact rfl); (case kF => exact rfl); (case kK => first | exact rfl | assumption); (case k1 => k_asm); (case k2 => k_asm); (case k3 => k_asm); (case k4 => k_asm); (case k5 => k_asm); (case k6 => k_is); (case k7 => k_is); (case k8 => ktr_room); (case k9 => first | exact BindsTo.of_eq rfl | exact binds_K (by k_in) rfl (by k_is) rfl rfl rfl | fail "k_enter: no rule for these arguments"); (case kB => exact rfl); (case kD => decide +kernel); (case c2 => exact rfl); (case c3 => exact rfl); (case c4 => exact rfl); k_whole; intro g' L' h' tk' cells' FG' F' N' Y' B' X' T' l1; (try k_lt l1); k_cells Y'; (try simp only [List.cons_append, List.nil_append] at N'); (try dsimp only); (try k_lift B'); (try k_fold)))
local macro_rules | `(tactic| walk) => `(tactic| ((try dsimp only); repeat (first | (k_unfold; (try dsimp only)) | ((fail_if_success (with_reducible refine ite_neg ?_ ?_)); (fail_if_success (with_reducible show UnrPost _ _ _ _ _ _ _ _ _)); walk1) | ((fail_if_success (with_reducible refine ite_neg ?_ ?_)); (fail_if_success (with_reducible show UnrPost _ _ _ _ _ _ _ _ _)); dsimp only; walk1))))
local macro_rules | `(tactic| k_units) => `(tactic| ktr_units)
local macro_rules | `(tactic| walk_at "call ref") => `(tactic| (k_here; k_dflt (refine' Mine.poly_new ?k1 ?k2 ?k3 ?k4 ?kK ?k5 ?kI ?kl ?kd ?_; (case k1 => k_asm); (case k2 => k_asm); (case k3 => k_asm); (case k4 => k_asm); (case kK => first | exact rfl | assumption); (case k5 => k_asm); (case kI => assumption); (case kl => assumption); (case kd => ktr_room)); intro y9 e9 ta9 tb9 h9 tk9 F9 N9 l9 l8; (try dsimp only [Mine.ringLed] at N9); (try dsimp only [Mine.ringLed] at l9); (try dsimp only); (try k_lt l9)))
local macro_rules | `(tactic| walk_at "no such key") => `(tactic| fail "none")
local macro_rules | `(tactic| walk_at "no such key") => `(tactic| fail "none")
namespace Mine
theorem ring_list {pv : Program} {w : World} {loose : List Str} {mean : ExcName → Option Value} {mg mb : Str → Option Value} {dp un : Nat} {gd : Option (List Code)} {cn : Str} {cs : Scope} {a0 : Addr} {ccd : Value} {cl : List (Str × Addr)} {outer : List Env} {A₀ : Around} {base h₀ : Heap} {L : Addr} {m : Str → Option Value} {s : Shared}
    {Q E : Value → Shared → Prop} {l D x d a b : Addr} {t1 t2 t3 t4 t5 t6 t7 t8 t9 : Tok} {vs : List Value} {ns : List Int} {nn : Nat} {rest : List (Addr × Obj)}
    (B : Below A₀ base outer h₀) (F : Fr h₀ L s.heap m) (X : (hd.heap_39 w.params).In h₀) (T : Top pv loose mean mg mb h₀) (hk : cs.kind = .function)
    (N : News h₀ L s.heap ((l, { cls := .type "list", data := .seq vs.toArray nn }) :: ringLed w.params D x d a b t1 t2 t3 t4 t5 t6 t7 t8 t9 rest)) (I : IntsAre vs ns) (hlen : ns.length = 256) (hd : dp + 8 < recursionLimit)
    (ret : ∀ (y e : Addr) (ta tb : Tok) (h' : Heap) (tk' : Nat), Fr h₀ L h' m → News h₀ L h' ((y, instObj 559 e) :: (e, dictOf [⟨PyData.keyHash w.params (Str.ofString "parent"), .str (Str.ofString "parent") ta, .ref x⟩, ⟨PyData.keyHash w.params (Str.ofString "coeffs"), .str (Str.ofString "coeffs") tb, .ref l⟩] 2) :: (l, { cls := .type "list", data := .seq vs.toArray nn }) :: ringLed w.params D x d a b t1 t2 t3 t4 t5 t6 t7 t8 t9 rest) →
      (∀ p ∈ (l, { cls := .type "list", data := .seq vs.toArray nn }) :: ringLed w.params D x d a b t1 t2 t3 t4 t5 t6 t7 t8 t9 rest, p.1 < e) → @LT.lt Nat _ e y → Q (.ref y) { s with heap := h', toks := tk' }) :
    wpAny (model PySem.Challenge.rw_ix0026_01.row.prog w) (ktrTop dp un gd cn cs L a0 ccd cl outer) (call (.ref x) [.ref l]) Q E s := by
  dsimp only [ringLed] at N
  w_strict ((walk; repeat ((first | refine ite_neg (by decide) ?_ | refine ite_pos (by decide) ?_); (try dsimp only); walk)))
  rename Fr h₀ _ _ _ => Fe
  rename News h₀ _ _ _ => Ne
  refine' ret _ _ _ _ _ _ Fe (cb_drop Ne ?k1) ?k2 ?k3
  case k1 => (repeat (first | exact List.forall_mem_nil _ | (refine List.forall_mem_cons.mpr ⟨by k_mem, ?_⟩) | (intro p hp; repeat (first | exact hp | refine List.mem_cons_of_mem _ ?_))))
  case k2 =>
    dsimp only [ringLed]
    iterate 3 (refine List.forall_mem_cons.mpr ⟨by (show @LT.lt Nat _ _ _); omega, ?_⟩)
    refine lt_of_all ?_
    first | tbn_find | exact allLt_of (by assumption)
  case k3 => omega
theorem ring_listM {pv : Program} {w : World} {loose : List Str} {mean : ExcName → Option Value} {mg mb : Str → Option Value} {dp un : Nat} {gd : Option (List Code)} {cn : Str} {cs : Scope} {a0 : Addr} {ccd : Value} {cl : List (Str × Addr)} {outer : List Env} {A₀ : Around} {base h₀ : Heap} {L : Addr} {m : Str → Option Value} {s : Shared}
    {Q E : Value → Shared → Prop} {l D x d a b : Addr} {t1 t2 t3 t4 t5 t6 t7 t8 t9 : Tok} {vs : List Value} {ns : List Int} {nn : Nat} {news : List (Addr × Obj)}
    (B : Below A₀ base outer h₀) (F : Fr h₀ L s.heap m) (X : (hd.heap_39 w.params).In h₀) (T : Top pv loose mean mg mb h₀) (hk : cs.kind = .function)
    (N : News h₀ L s.heap news) (ml : (l, ({ cls := .type "list", data := .seq vs.toArray nn } : Obj)) ∈ news) (mx : (x, instObj 427 d) ∈ news) (md : (d, dictOf [⟨PyData.keyHash w.params (Str.ofString "q"), .str (Str.ofString "q") t1, .int 8380417 t2⟩, ⟨PyData.keyHash w.params (Str.ofString "n"), .str (Str.ofString "n") t3, .int 256 t4⟩, ⟨PyData.keyHash w.params (Str.ofString "shake128"), .str (Str.ofString "shake128") t5, .ref a⟩, ⟨PyData.keyHash w.params (Str.ofString "shake256"), .str (Str.ofString "shake256") t6, .ref b⟩, ⟨PyData.keyHash w.params (Str.ofString "ntt_zetas"), .str (Str.ofString "ntt_zetas") t7, .ref D⟩, ⟨PyData.keyHash w.params (Str.ofString "ntt_f"), .str (Str.ofString "ntt_f") t8, .int 8347681 t9⟩] 6) ∈ news) (I : IntsAre vs ns) (hlen : ns.length = 256) (hd : dp + 8 < recursionLimit)
    (ret : ∀ (y e : Addr) (ta tb : Tok) (h' : Heap) (tk' : Nat), Fr h₀ L h' m → News h₀ L h' ((y, instObj 559 e) :: (e, dictOf [⟨PyData.keyHash w.params (Str.ofString "parent"), .str (Str.ofString "parent") ta, .ref x⟩, ⟨PyData.keyHash w.params (Str.ofString "coeffs"), .str (Str.ofString "coeffs") tb, .ref l⟩] 2) :: news) → (∀ p ∈ news, p.1 < e) → @LT.lt Nat _ e y → Q (.ref y) { s with heap := h', toks := tk' }) :
    wpAny (model PySem.Challenge.rw_ix0026_01.row.prog w) (ktrTop dp un gd cn cs L a0 ccd cl outer) (call (.ref x) [.ref l]) Q E s :=
  ring_list (D := D) (a := a) (b := b) (rest := news) B F X T hk (cb_drop N (List.forall_mem_cons.mpr ⟨ml, List.forall_mem_cons.mpr ⟨mx, List.forall_mem_cons.mpr ⟨md, fun _ h => h⟩⟩⟩)) I hlen hd fun y e ta tb h' tk' F' N' l1 l2 => ret y e ta tb h' tk' F' (cb_drop N' (List.forall_mem_cons.mpr ⟨.head _, List.forall_mem_cons.mpr ⟨.tail _ (.head _), fun _ h => .tail _ (.tail _ (.tail _ (.tail _ (.tail _ h))))⟩⟩)) (fun p hp => l1 p (.tail _ (.tail _ (.tail _ hp)))) l2
theorem ring_listK {pv : Program} {w : World} {loose : List Str} {mean : ExcName → Option Value} {mg mb : Str → Option Value} {dp un : Nat} {gd : Option (List Code)} {cn : Str} {cs : Scope} {a0 : Addr} {ccd : Value} {cl : List (Str × Addr)} {outer : List Env} {A₀ : Around} {base h₀ : Heap} {L : Addr} {m : Str → Option Value} {s : Shared}
    {Q E : Value → Shared → Prop} {l D x d a b : Addr} {t1 t2 t3 t4 t5 t6 t7 t8 t9 : Tok} {vs : List Value} {ns : List Int} {nn : Nat} {rest : List (Addr × Obj)}
    (B : Below A₀ base outer h₀) (F : Fr h₀ L s.heap m) (X : (hd.heap_39 w.params).In h₀) (T : Top pv loose mean mg mb h₀) (hk : cs.kind = .function)
    (N : News h₀ L s.heap ((l, { cls := .type "list", data := .seq vs.toArray nn }) :: ringLed w.params D x d a b t1 t2 t3 t4 t5 t6 t7 t8 t9 rest)) (I : IntsAre vs ns) (hlen : ns.length = 256) (hd : dp + 8 < recursionLimit)
    (ret : ∀ (y e : Addr) (ta tb : Tok) (h' : Heap) (tk' : Nat), Fr h₀ L h' m → News h₀ L h' ((y, instObj 559 e) :: (e, dictOf [⟨PyData.keyHash w.params (Str.ofString "parent"), .str (Str.ofString "parent") ta, .ref x⟩, ⟨PyData.keyHash w.params (Str.ofString "coeffs"), .str (Str.ofString "coeffs") tb, .ref l⟩] 2) :: (l, { cls := .type "list", data := .seq vs.toArray nn }) :: ringLed w.params D x d a b t1 t2 t3 t4 t5 t6 t7 t8 t9 rest) →
      (∀ p ∈ (l, { cls := .type "list", data := .seq vs.toArray nn }) :: ringLed w.params D x d a b t1 t2 t3 t4 t5 t6 t7 t8 t9 rest, p.1 < e) → @LT.lt Nat _ e y → Q (.ref y) { s with heap := h', toks := tk' }) :
    wpAny (model PySem.Challenge.rw_ix0026_01.row.prog w) (ktrTop dp un gd cn cs L a0 ccd cl outer) (call (.ref x) [.ref l] [(Str.ofString "is_ntt", .bool false)]) Q E s := by
  dsimp only [ringLed] at N
  w_strict ((walk; repeat ((first | refine ite_neg (by decide) ?_ | refine ite_pos (by decide) ?_); (try dsimp only); walk)))
  rename Fr h₀ _ _ _ => Fe
  rename News h₀ _ _ _ => Ne
  refine' ret _ _ _ _ _ _ Fe (cb_drop Ne ?k1) ?k2 ?k3
  case k1 => (repeat (first | exact List.forall_mem_nil _ | (refine List.forall_mem_cons.mpr ⟨by k_mem, ?_⟩) | (intro p hp; repeat (first | exact hp | refine List.mem_cons_of_mem _ ?_))))
  case k2 =>
    dsimp only [ringLed]
    iterate 3 (refine List.forall_mem_cons.mpr ⟨by (show @LT.lt Nat _ _ _); omega, ?_⟩)
    refine lt_of_all ?_
    first | tbn_find | exact allLt_of (by assumption)
  case k3 => omega
theorem ring_listKM {pv : Program} {w : World} {loose : List Str} {mean : ExcName → Option Value} {mg mb : Str → Option Value} {dp un : Nat} {gd : Option (List Code)} {cn : Str} {cs : Scope} {a0 : Addr} {ccd : Value} {cl : List (Str × Addr)} {outer : List Env} {A₀ : Around} {base h₀ : Heap} {L : Addr} {m : Str → Option Value} {s : Shared}
    {Q E : Value → Shared → Prop} {l D x d a b : Addr} {t1 t2 t3 t4 t5 t6 t7 t8 t9 : Tok} {vs : List Value} {ns : List Int} {nn : Nat} {news : List (Addr × Obj)}
    (B : Below A₀ base outer h₀) (F : Fr h₀ L s.heap m) (X : (hd.heap_39 w.params).In h₀) (T : Top pv loose mean mg mb h₀) (hk : cs.kind = .function)
    (N : News h₀ L s.heap news) (ml : (l, ({ cls := .type "list", data := .seq vs.toArray nn } : Obj)) ∈ news) (mx : (x, instObj 427 d) ∈ news) (md : (d, dictOf [⟨PyData.keyHash w.params (Str.ofString "q"), .str (Str.ofString "q") t1, .int 8380417 t2⟩, ⟨PyData.keyHash w.params (Str.ofString "n"), .str (Str.ofString "n") t3, .int 256 t4⟩, ⟨PyData.keyHash w.params (Str.ofString "shake128"), .str (Str.ofString "shake128") t5, .ref a⟩, ⟨PyData.keyHash w.params (Str.ofString "shake256"), .str (Str.ofString "shake256") t6, .ref b⟩, ⟨PyData.keyHash w.params (Str.ofString "ntt_zetas"), .str (Str.ofString "ntt_zetas") t7, .ref D⟩, ⟨PyData.keyHash w.params (Str.ofString "ntt_f"), .str (Str.ofString "ntt_f") t8, .int 8347681 t9⟩] 6) ∈ news) (I : IntsAre vs ns) (hlen : ns.length = 256) (hd : dp + 8 < recursionLimit)
    (ret : ∀ (y e : Addr) (ta tb : Tok) (h' : Heap) (tk' : Nat), Fr h₀ L h' m → News h₀ L h' ((y, instObj 559 e) :: (e, dictOf [⟨PyData.keyHash w.params (Str.ofString "parent"), .str (Str.ofString "parent") ta, .ref x⟩, ⟨PyData.keyHash w.params (Str.ofString "coeffs"), .str (Str.ofString "coeffs") tb, .ref l⟩] 2) :: news) → (∀ p ∈ news, p.1 < e) → @LT.lt Nat _ e y → Q (.ref y) { s with heap := h', toks := tk' }) :
    wpAny (model PySem.Challenge.rw_ix0026_01.row.prog w) (ktrTop dp un gd cn cs L a0 ccd cl outer) (call (.ref x) [.ref l] [(Str.ofString "is_ntt", .bool false)]) Q E s :=
  ring_listK (D := D) (a := a) (b := b) (rest := news) B F X T hk (cb_drop N (List.forall_mem_cons.mpr ⟨ml, List.forall_mem_cons.mpr ⟨mx, List.forall_mem_cons.mpr ⟨md, fun _ h => h⟩⟩⟩)) I hlen hd fun y e ta tb h' tk' F' N' l1 l2 => ret y e ta tb h' tk' F' (cb_drop N' (List.forall_mem_cons.mpr ⟨.head _, List.forall_mem_cons.mpr ⟨.tail _ (.head _), fun _ h => .tail _ (.tail _ (.tail _ (.tail _ (.tail _ h))))⟩⟩)) (fun p hp => l1 p (.tail _ (.tail _ (.tail _ hp)))) l2
end Mine
end
noncomputable section
open PySem PySem.W PyProof.Rows PySem.Spec PySem.Calls
set_option Elab.async false
set_option maxRecDepth 100000
local macro_rules | `(tactic| walk_at "no such key") => `(tactic| fail "none")
local macro_rules | `(tactic| walk_at "no such key") => `(tactic| fail "none")
local macro_rules | `(tactic| walk_at "no such key") => `(tactic| fail "none")
local macro_rules | `(tactic| walk_at "no such key") => `(tactic| fail "none")
namespace Mine
def AllNe (d : Addr) : List (Addr × Obj) → Prop
  | [] => True
  | p :: r => @Ne Nat p.1 d ∧ AllNe d r
/-- a list of ints stored under a name, new -/
def MidL (h₀ : Heap) (L : Addr) (m : Str → Option Value) (news : List (Addr × Obj)) (s : Shared) (x : Str) (C : List Int → Prop) (fl : Flow) (s1 : Shared) : Prop :=
  fl = Flow.next ∧ ∃ (P : Addr) (vs : List Value) (ps : List Int) (n : Nat) (h' : Heap) (tk' : Nat), s1 = { s with heap := h', toks := tk' } ∧
    Fr h₀ L h' (fun y => if y = x then some (.ref P) else m y) ∧ News h₀ L h' ((P, { cls := .type "list", data := .seq vs.toArray n }) :: news) ∧ IntsAre vs ps ∧ C ps ∧ AllNe P news
theorem mid_list {M : Model} {A : Around} {E : Value → Shared → Prop} {s : Shared} {h₀ : Heap} {L : Addr} {m : Str → Option Value} {news : List (Addr × Obj)} {t : Sem Flow} {Q : Flow → Shared → Prop} (x : Str) (C : List Int → Prop)
    (F : Fr h₀ L s.heap m) (N : News h₀ L s.heap news) (hs : wpAny M A t (MidL h₀ L m news s x C) E s)
    (hr : ∀ (P : Addr) (vs : List Value) (ps : List Int) (n : Nat) (h' : Heap) (tk' : Nat), Fr h₀ L h' (fun y => if y = x then some (.ref P) else m y) →
      News h₀ L h' ((P, { cls := .type "list", data := .seq vs.toArray n }) :: news) → IntsAre vs ps → C ps → AllNe P news → Q Flow.next { s with heap := h', toks := tk' }) : wpAny M A t Q E s :=
  wpAny_mono hs (fun fl s1 ⟨e, P, vs, ps, n, h', tk', e1, F', N', I, c, l⟩ => by subst e; subst e1; exact hr P vs ps n h' tk' F' N' I c l) fun _ _ z => z
theorem MidL.done {s : Shared} {h₀ : Heap} {L : Addr} {m : Str → Option Value} {news news' : List (Addr × Obj)} {x : Str} {C : List Int → Prop} {P : Addr} {vs : List Value} {ps : List Int} {n : Nat} {h' : Heap} {tk' : Nat}
    (F : Fr h₀ L h' (fun y => if y = x then some (.ref P) else m y)) (N : News h₀ L h' news') (hm : ∀ p ∈ ((P, ({ cls := .type "list", data := .seq vs.toArray n } : Obj)) :: news), p ∈ news')
    (I : IntsAre vs ps) (c : C ps) (l : AllNe P news) : MidL h₀ L m news s x C .next { s with heap := h', toks := tk' } :=
  ⟨rfl, P, vs, ps, n, h', tk', rfl, F, cb_drop N hm, I, c, l⟩
section
variable {prog : Program} {w : World} {A : Around} {E : Value → Shared → Prop} {s : Shared} {h₀ : Heap} {L l : Addr} {m : Str → Option Value} {news : List (Addr × Obj)} {value slice : PySem.Expr} {vs : List Value} {ns ms : List Int} {vl vu : Value} {lo hi : Option Int} {Q : Value → Shared → Prop}
/-- a cut of a list that no name holds -/
theorem cut_temp (F : Fr h₀ L s.heap m) (N : News h₀ L s.heap news) (hl : s.heap.IsList l vs.toArray) (pl : IsPart vl lo) (pu : IsPart vu hi) (hm : IntsAre (slicePick vs.toArray lo hi none).toList ms)
    (h : ∀ D ws h', Fr h₀ L h' m → News h₀ L h' ((D, listOf (List.toArray ws) 0) :: news) → (∀ p ∈ news, p.1 < D) → IntsAre ws ms → Q (.ref D) { s with heap := h' })
    (hs : subscripted slice false (.ref l) (.ref s.heap.objs.size) = operate [.ref s.heap.objs.size, .ref l] (getItem (.ref l) (.ref s.heap.objs.size))) (hz : vs.toArray.size ≤ sizeLine) :
    wpAny (model prog w) A (subscriptTail value slice (.ref l) (.ref s.heap.objs.size)) Q E { s with heap := s.heap.push { cls := .type "slice", data := .fields #[vl, vu, .none] } } := by
  refine tail_any (Heap.IsList.typeIs (s := { s with heap := s.heap.push { cls := .type "slice", data := .fields #[vl, vu, .none] } }) (hl.push _)) list_getitem_lookup
    (wpAny_getItem_list_slice (hl.push _) (Heap.IsSliceOf.new ..) pl pu .none (by simp) ?_ hz) hs
  have N1 := News.push (F.push { cls := .type "slice", data := .fields #[vl, vu, .none] }) (N.grown fun _ _ e => Heap.get?_push_of_some _ e) { cls := .type "list", data := .seq (slicePick vs.toArray lo hi none) }
  rw [Heap.size_push] at N1
  show Q (.ref (s.heap.push _).objs.size) _
  rw [Heap.size_push]
  refine h _ (slicePick vs.toArray lo hi none).toList _ ((F.push _).push _) ?_ (fun p hp => Nat.lt_succ_of_lt (Heap.lt_size (N p hp).1)) hm
  rw [Array.toArray_toList]
  exact N1
end
theorem dedup_nodup : ∀ (ns acc : List Int), (acc ++ ns).Nodup → ns.foldl step_dedup acc = acc ++ ns
  | [], acc, _ => by simp
  | n :: r, acc, h => by
    rw [List.foldl_cons]
    have hn : acc.any (· == n) = false := by
      rw [List.any_eq_false]
      intro x hx
      have hd := (List.nodup_append.mp h).2.2 x hx n (List.mem_cons_self ..)
      simpa using hd
    have e : step_dedup acc n = acc ++ [n] := by
      unfold step_dedup
      rw [hn]
      rfl
    rw [e, dedup_nodup r (acc ++ [n]) (by simpa using h)]
    simp
theorem firstMet_nodup {ns : List Int} (h : ns.Nodup) : firstMet (fun i => ns.getD i 0) ns.length = ns := by
  unfold firstMet
  have e : (List.range ns.length).map (fun i => ns.getD i 0) = ns := by
    apply List.ext_getElem
    · simp
    · intro i h1 h2
      simp only [List.getElem_map, List.getElem_range, List.getD_eq_getElem?_getD, List.getElem?_eq_getElem h2, Option.getD_some]
  rw [e]
  simpa using dedup_nodup ns [] (by simpa using h)
section
variable {prog : Program} {w : World} {A : Around} {E : Value → Shared → Prop} {s : Shared} {h₀ : Heap} {L l : Addr} {m : Str → Option Value} {news : List (Addr × Obj)} {vs : List Value} {ns : List Int} {Q : Value → Shared → Prop}
/-- set(a list of unlike ints), and its length -/
theorem set_nodup (F : Fr h₀ L s.heap m) (N : News h₀ L s.heap news) (hh : A.handled = none) (hl : s.heap.IsList l vs.toArray) (hi : IntsAre vs ns) (hnd : ns.Nodup) (hb : ns.length < 4000)
    (h : ∀ (S : Addr) (h' : Heap) (tk : Nat) (o : Obj) (k : Int → Bool), Fr h₀ L h' m → News h₀ L h' ((S, o) :: news) → o.SetObjOf (intKind prog w) k ns.length → Q (.ref S) { s with heap := h', toks := tk }) :
    wpAny (model prog w) A (call (.type "set") [.ref l]) Q E s := by
  have hvn : vs.length = ns.length := IntsAre.length hi
  have hsz : vs.toArray.size = ns.length := by rw [List.size_toArray, hvn]
  refine PySem.call_set_list (items := vs.toArray) (ns := ns) hh hl (by simpa using hi) (by rw [hsz]; unfold scanBound; omega) fun h' tk hS hk => ?_
  rw [hsz, firstMet_nodup hnd] at hS
  obtain ⟨o, ho, hso⟩ := hS.objOf
  obtain ⟨oL, _, _, hL, _⟩ := F.ns
  have hLlt : L < s.heap.objs.size := Heap.lt_size hL
  refine h _ h' tk o _ ⟨F.ns.at' fun o' e => hk L o' hLlt e, fun b o' e => hk b o' (Heap.lt_size (F.keep b o' e)) (F.keep b o' e), F.above⟩ (fun p hp => ?_) hso
  rcases List.mem_cons.mp hp with rfl | hp
  · refine ⟨ho, Nat.ne_of_gt hLlt, ?_⟩
    cases hq : h₀.get? s.heap.objs.size with
    | none => rfl
    | some o' => exact absurd (Heap.lt_size (F.keep _ _ hq)) (Nat.lt_irrefl _)
  · exact ⟨hk _ _ (Heap.lt_size (N p hp).1) (N p hp).1, (N p hp).2.1, (N p hp).2.2⟩
end
end Mine
end
noncomputable section
open PySem PySem.W PyProof.Rows PySem.Spec PySem.Calls
set_option Elab.async false
set_option maxRecDepth 100000
namespace Mine
/-- the names that a loop may have turned -/
def over (stored : List Str) (u m₀ : Str → Option Value) : Str → Option Value := fun z => if stored.contains z then u z else m₀ z
theorem over_of {stored : List Str} {u m₀ : Str → Option Value} (h : ∀ z, stored.contains z = false → u z = m₀ z) : u = over stored u m₀ := by
  funext z
  unfold over
  cases e : stored.contains z with
  | true => simp
  | false => simpa using h z e
section
variable {prog : Program} {w : World} {A : Around} {E : Value → Shared → Prop} {s : Shared} {env : Env} {h₀ : Heap} {x : Str} {body : List Stmt} {Q : Flow → Shared → Prop}
/-- a loop over a range of any step, by what holds of its ledger -/
theorem range_loop (stored : List Str) (J : Nat → List (Addr × Obj) → Prop) {r : Addr} {a₀ b₀ c : Int} {t₀ u₀ v₀ : Tok} (n : Nat) {m₀ : Str → Option Value} {news : List (Addr × Obj)}
    (hh : A.handled = none) (hr : IsRange s.heap r a₀ b₀ c t₀ u₀ v₀) (hsmall : Builtin.Range.small a₀ b₀ c = true) (hn : Builtin.Range.rangeSize a₀ b₀ c = (n : Int)) (F : Fr h₀ env.locals s.heap m₀) (N : News h₀ env.locals s.heap news)
    (h0 : J 0 news) (hx : stored.contains x = true)
    (turn : ∀ (i : Nat) (u : Str → Option Value) (news₁ : List (Addr × Obj)) (I : Addr) (h : Heap) (tk : Nat) (t : Tok), i < n → J i news₁ → AllNe I news₁ →
      Fr h₀ env.locals h (fun z => if z = x then some (.int (a₀ + (i : Int) * c) t) else over stored u m₀ z) → News h₀ env.locals h ((I, krsIt (a₀ + ((i + 1 : Nat) : Int) * c) ((n : Int) - ((i + 1 : Nat) : Int)) c) :: news₁) →
      wpAny (model prog w) A (execs body env) (UnrPost h₀ env.locals { s with heap := h, toks := tk } I (krsIt (a₀ + ((i + 1 : Nat) : Int) * c) ((n : Int) - ((i + 1 : Nat) : Int)) c) (fun m' news' => (∀ z, stored.contains z = false → m' z = m₀ z) ∧ J (i + 1) news') Q) E { s with heap := h, toks := tk })
    (done : ∀ (u : Str → Option Value) (news₁ : List (Addr × Obj)) (h : Heap) (tk : Nat), J n news₁ → Fr h₀ env.locals h (over stored u m₀) → News h₀ env.locals h news₁ → Q .next { s with heap := h, toks := tk }) :
    wpAny (model prog w) A (pyIter (.ref r)) (fun it s₂ => LoopAtV prog w A h₀ env x body Q E it s₂) E s := by
  refine krs_iter hh hr hsmall hn F N fun I hI => ?_
  have ne_of : ∀ l : List (Addr × Obj), (∀ p ∈ l, p.1 ≠ I) → AllNe I l := by
    intro l
    induction l with
    | nil => intro _; exact trivial
    | cons p l ih => intro h; exact ⟨h p (List.mem_cons_self ..), ih fun q hq => h q (List.mem_cons_of_mem _ hq)⟩
  have key : ∀ (k i : Nat) (m : Str → Option Value) (news₁ : List (Addr × Obj)), i + k = n → (∀ p ∈ news₁, p.1 ≠ I) → (∀ z, stored.contains z = false → m z = m₀ z) → J i news₁ →
      KrsRest prog w A E h₀ env x body Q s I a₀ c n k i m news₁ := by
    intro k
    induction k with
    | zero =>
      intro i m news₁ hi _ hm hJ
      have e : i = n := by omega
      subst e
      refine KrsRest.zero fun h tk F₁ N₁ => done m news₁ h tk hJ ?_ N₁
      rw [← over_of hm]; exact F₁
    | succ k ih =>
      intro i m news₁ hi off hm hJ
      refine KrsRest.succ rfl fun t h tk F₁ N₁ => ?_
      have e := over_of hm
      rw [e] at F₁
      refine wpAny_mono (turn i m news₁ I h tk t (by omega) hJ (ne_of _ off) F₁ N₁) (fun f s₂ p => ?_) fun _ _ z => z
      have fin : UnrEnd h₀ env.locals { s with heap := h, toks := tk } I (krsIt (a₀ + ((i + 1 : Nat) : Int) * c) ((n : Int) - ((i + 1 : Nat) : Int)) c) (fun m' news' => (∀ z, stored.contains z = false → m' z = m₀ z) ∧ J (i + 1) news') s₂ →
          UnrEnd h₀ env.locals { s with heap := h, toks := tk } I (krsIt (a₀ + ((i + 1 : Nat) : Int) * c) ((n : Int) - ((i + 1 : Nat) : Int)) c) (KrsRest prog w A E h₀ env x body Q s I a₀ c n k (i + 1)) s₂ := by
        rintro ⟨h', tk', m', news', e', F', N', off', hm', hJ'⟩
        exact ⟨h', tk', m', news', e', F', N', off', ih (i + 1) m' news' (by omega) off' hm' hJ'⟩
      cases f with
      | ret v => exact p
      | brk => exact p
      | next => exact fin p
      | cont => exact fin p
  exact key n 0 m₀ news (by omega) (fun p hp => Nat.ne_of_lt (hI p hp)) (fun _ _ => rfl) h0
end
end Mine
namespace Mine
section
variable {prog : Program} {w : World} {A : Around} {E : Value → Shared → Prop} {s : Shared} {env : Env} {h₀ : Heap} {x : Str} {body : List Stmt} {Q : Flow → Shared → Prop}
/-- a loop over a list of the ledger that turns names alone -/
theorem list_loop (stored : List Str) {l : Addr} {vs : List Value} {ns : List Int} {nn : Nat} {m₀ : Str → Option Value} {news : List (Addr × Obj)}
    (hh : A.handled = none) (hl : (l, listOf vs.toArray nn) ∈ news) (hi : IntsAre vs ns) (F : Fr h₀ env.locals s.heap m₀) (N : News h₀ env.locals s.heap news)
    (turn : ∀ (i : Nat) (n : Int) (t : Tok) (u : Str → Option Value) (h : Heap) (tk : Nat) (own : List (Addr × Obj)), ns[i]? = some n → OwnOff own (news.map (·.1)) →
      Fr h₀ env.locals h (fun z => if z = x then some (.int n t) else over stored u m₀ z) → News h₀ env.locals h (news ++ own) →
      wpAny (model prog w) A (execs body env) (InvPostN h₀ env.locals (fun m' nx => nx = news ∧ ∀ z, stored.contains z = false → m' z = m₀ z) own (news.map (·.1)) { s with heap := h, toks := tk } Q) E { s with heap := h, toks := tk })
    (done : ∀ (u : Str → Option Value) (h : Heap) (tk : Nat), Fr h₀ env.locals h (over stored u m₀) → News h₀ env.locals h news → Q .next { s with heap := h, toks := tk }) :
    wpAny (model prog w) A (pyIter (.ref l)) (fun it s₂ => LoopAtV prog w A h₀ env x body Q E it s₂) E s := by
  refine iter_invNL (fun _ m nx => nx = news ∧ ∀ z, stored.contains z = false → m z = m₀ z) hh hl hi F N ⟨rfl, fun _ _ => rfl⟩ ?_ ?_
  · rintro i n t m₁ nx h tk own hn _ hoff _ ⟨rfl, hm⟩ F₁ N₁
    have e := over_of hm
    rw [e] at F₁
    refine wpAny_mono (turn i n t m₁ h tk own hn hoff F₁ N₁) (fun f s₂ p => ?_) fun _ _ x => x
    have up : InvEndN h₀ env.locals (fun m' nx' => nx' = nx ∧ ∀ z, stored.contains z = false → m' z = m₀ z) own (nx.map (·.1)) { s with heap := h, toks := tk } s₂ →
        InvEndN h₀ env.locals (fun m' nx' => (l, listOf vs.toArray nn) ∈ nx' ∧ nx' = nx ∧ ∀ z, stored.contains z = false → m' z = m₀ z) own (nx.map (·.1)) { s with heap := h, toks := tk } s₂ := by
      rintro ⟨h', tk', m', news', nx', e', F', N', hn', ho', ha, rfl, hm'⟩
      exact ⟨h', tk', m', news', nx', e', F', N', hn', ho', ha, hl, rfl, hm'⟩
    cases f with
    | ret v => exact p
    | brk => exact p
    | next => exact up p
    | cont => exact up p
  · rintro m₁ nx h tk _ ⟨rfl, hm⟩ F₁ N₁
    rw [over_of hm] at F₁
    exact done m₁ h tk F₁ N₁
end
end Mine
end
noncomputable section
open PySem PySem.W PyProof.Rows PySem.Spec PySem.Calls
set_option Elab.async false
set_option maxRecDepth 100000
local macro_rules | `(tactic| walk_at "no such key") => `(tactic| fail "none")
namespace Mine
section
variable {prog : Program} {w : World} {A : Around} {E : Value → Shared → Prop} {s : Shared} {env : Env} {h₀ : Heap} {x : Str} {body : List Stmt} {Q : Flow → Shared → Prop}
/-- a loop over a list of the ledger, by what holds of the ledger at each turn -/
theorem list_loopJ (stored : List Str) (J : Nat → List (Addr × Obj) → Prop) {l : Addr} {vs : List Value} {ns : List Int} {nn : Nat} {m₀ : Str → Option Value} {news : List (Addr × Obj)}
    (hh : A.handled = none) (hl : (l, listOf vs.toArray nn) ∈ news) (hi : IntsAre vs ns) (F : Fr h₀ env.locals s.heap m₀) (N : News h₀ env.locals s.heap news) (h0 : J 0 news)
    (turn : ∀ (i : Nat) (n : Int) (t : Tok) (u : Str → Option Value) (nx : List (Addr × Obj)) (h : Heap) (tk : Nat) (own : List (Addr × Obj)), ns[i]? = some n → J i nx → OwnOff own (news.map (·.1)) →
      Fr h₀ env.locals h (fun z => if z = x then some (.int n t) else over stored u m₀ z) → News h₀ env.locals h (nx ++ own) →
      wpAny (model prog w) A (execs body env) (InvPostN h₀ env.locals (fun m' nx' => ((l, listOf vs.toArray nn) ∈ nx' ∧ J (i + 1) nx') ∧ ∀ z, stored.contains z = false → m' z = m₀ z) own (news.map (·.1)) { s with heap := h, toks := tk } Q) E { s with heap := h, toks := tk })
    (done : ∀ (u : Str → Option Value) (nx : List (Addr × Obj)) (h : Heap) (tk : Nat), J ns.length nx → Fr h₀ env.locals h (over stored u m₀) → News h₀ env.locals h nx → Q .next { s with heap := h, toks := tk }) :
    wpAny (model prog w) A (pyIter (.ref l)) (fun it s₂ => LoopAtV prog w A h₀ env x body Q E it s₂) E s := by
  refine iter_invNL (fun i m nx => J i nx ∧ ∀ z, stored.contains z = false → m z = m₀ z) hh hl hi F N ⟨h0, fun _ _ => rfl⟩ ?_ ?_
  · rintro i n t m₁ nx h tk own hn _ hoff _ ⟨hJ, hm⟩ F₁ N₁
    have e := over_of hm
    rw [e] at F₁
    refine wpAny_mono (turn i n t m₁ nx h tk own hn hJ hoff F₁ N₁) (fun f s₂ p => ?_) fun _ _ x => x
    have up : InvEndN h₀ env.locals (fun m' nx' => ((l, listOf vs.toArray nn) ∈ nx' ∧ J (i + 1) nx') ∧ ∀ z, stored.contains z = false → m' z = m₀ z) own (news.map (·.1)) { s with heap := h, toks := tk } s₂ →
        InvEndN h₀ env.locals (fun m' nx' => (l, listOf vs.toArray nn) ∈ nx' ∧ J (i + 1) nx' ∧ ∀ z, stored.contains z = false → m' z = m₀ z) own (news.map (·.1)) { s with heap := h, toks := tk } s₂ := by
      rintro ⟨h', tk', m', news', nx', e', F', N', hn', ho', ha, ⟨hl', hJ'⟩, hm'⟩
      exact ⟨h', tk', m', news', nx', e', F', N', hn', ho', ha, hl', hJ', hm'⟩
    cases f with
    | ret v => exact p
    | brk => exact p
    | next => exact up p
    | cont => exact up p
  · rintro m₁ nx h tk _ ⟨hJ, hm⟩ F₁ N₁
    rw [over_of hm] at F₁
    exact done m₁ nx h tk hJ F₁ N₁
end
end Mine
end
noncomputable section
open PySem PySem.W PyProof.Rows PySem.Spec PySem.Calls
set_option Elab.async false
set_option maxRecDepth 100000
set_option maxHeartbeats 4000000
local macro_rules | `(tactic| k_room) => `(tactic| ktr_room)
local macro_rules | `(tactic| k_enter) => `(tactic| first
  | (refine' code_def ?k1 ?k2 ?k3 ?k4 ?k5 ?kA ?kF ?kK ?k6 ?k7 ?k8 ?k9 ?kB ?_ ?c2 ?c3 ?c4 ?c5; (case kA => exact rfl); (case kF => exact rfl); (case kK => first | exact rfl | assumption); (case k1 => k_asm); (case k2 => k_asm); (case k3 => k_asm); (case k4 => k_asm); (case k5 => k_asm); (case k6 => k_is); (case k7 => k_is); (case k8 => ktr_room); (case k9 => first | exact BindsTo.of_eq rfl | exact binds_K (by k_in) rfl (by k_is) rfl rfl rfl | fail "k_enter: no rule for these arguments"); (case c5 => decide); (case kB => exact locs rfl); (case c2 => exact rfl); (case c3 => exact rfl); (case c4 => exact rfl); k_whole; intro g' L' h' FG' F' N' B' X' T'; (try dsimp only); (try k_lift B'); (try k_fold))
  | (refine' code_defC ?k1 ?k2 ?k3 ?k4 ?k5 ?kA ?kF ?kK ?k6 ?k7 ?k8 ?k9 ?kB ?kD ?_ ?c2 ?c3 ?c4; (case kA => exact rfl); (case kF => exact rfl); (case kK => first | exact rfl | assumption); (case k1 => k_asm); (case k2 => k_asm); (case k3 => k_asm); (case k4 => k_asm); (case k5 => k_asm); (case k6 => k_is); (case k7 => k_is); (case k8 => ktr_room); (case k9 => first | exact BindsTo.of_eq rfl | exact binds_K (by k_in) rfl (by k_is) rfl rfl rfl | fail "k_enter: no rule for these arguments"); (case kB => exact rfl); (case kD => decide +kernel); (case c2 => exact rfl); (case c3 => exact rfl); (case c4 => exact rfl); k_whole; intro g' L' h' tk' cells' FG' F' N' Y' B' X' T' l1; (try k_lt l1); k_cells Y'; (try simp only [List.cons_append, List.nil_append] at N'); (try dsimp only); (try k_lift B'); (try k_fold)))
local macro_rules | `(tactic| walk) => `(tactic| ((try dsimp only); repeat (first | (k_unfold; (try dsimp only)) | ((fail_if_success (with_reducible refine ite_neg ?_ ?_)); (fail_if_success (with_reducible show UnrPost _ _ _ _ _ _ _ _ _)); walk1) | ((fail_if_success (with_reducible refine ite_neg ?_ ?_)); (fail_if_success (with_reducible show UnrPost _ _ _ _ _ _ _ _ _)); dsimp only; walk1))))
local macro_rules | `(tactic| k_units) => `(tactic| ktr_units)
local macro_rules | `(tactic| walk_at "call ref") => `(tactic| (k_here; k_dflt (refine' Mine.red_call ?k1 ?k2 ?k3 ?k4 ?k5 ?kK ?k6 ?kd ?_; (case k1 => k_asm); (case k2 => k_asm); (case k3 => k_asm); (case k4 => k_asm); (case k5 => k_asm); (case kK => first | exact rfl | assumption); (case k6 => first | assumption | decide | omega); (case kd => ktr_room)); intro t9 h9 tk9 F9 N9; (try dsimp only)))
local macro_rules | `(tactic| walk_at "call ref") => `(tactic| (k_here; k_dflt (refine' Mine.ring_listM (D := ?D) (a := ?a) (b := ?b) ?k1 ?k2 ?k3 ?k4 ?kK ?k5 ?ml ?mx ?md ?kI ?kl ?kd ?_; (case k1 => k_asm); (case k2 => k_asm); (case k3 => k_asm); (case k4 => k_asm); (case kK => first | exact rfl | assumption); (case k5 => k_asm); (case ml => k_mem); (case mx => k_mem); (case md => k_mem); (case kI => assumption); (case kl => ((try simp only [List.length_map, List.length_take]); omega)); (case kd => ktr_room)); intro y9 e9 ta9 tb9 h9 tk9 F9 N9 l9 l8; (try dsimp only); (try k_lt l9)))
local macro_rules | `(tactic| k_all) => `(tactic| ((refine' List.forall_mem_append.mpr ⟨?a9, ?b9⟩); (case a9 => k_all); (case b9 => k_all)))
namespace Mine
/-- the low part of a number modulo the prime, and the rest over 2 to the bits -/
def low2 (k : Nat) (c : Int) : Int := redpm (c.fmod 8380417) (1 * 2 ^ (k : Int).toNat)
def high2 (k : Nat) (c : Int) : Int := (c.fmod 8380417 - redpm (c.fmod 8380417) (1 * 2 ^ (k : Int).toNat)).fdiv (2 ^ (k : Int).toNat)
theorem p2r_call {pv : Program} {w : World} {loose : List Str} {mean : ExcName → Option Value} {mg mb : Str → Option Value} {dp un : Nat} {gd : Option (List Code)} {cn : Str} {cs : Scope} {a0 : Addr} {ccd : Value} {cl : List (Str × Addr)} {outer : List Env} {A₀ : Around} {base h₀ : Heap} {L : Addr} {m : Str → Option Value} {s : Shared}
    {Q E : Value → Shared → Prop} {C y e D x d a b : Addr} {t1 t2 t3 t4 t5 t6 t7 t8 t9 ta tb : Tok} {vs : List Value} {ns : List Int} {nn : Nat} {rest : List (Addr × Obj)}
    (B : Below A₀ base outer h₀) (F : Fr h₀ L s.heap m) (X : (hd.heap_39 w.params).In h₀) (T : Top pv loose mean mg mb h₀) (hk : cs.kind = .function)
    {k : Nat} {tn : Tok} (N : News h₀ L s.heap ((C, { cls := .type "list", data := .seq vs.toArray nn }) :: (y, instObj 559 e) :: (e, dictOf [⟨PyData.keyHash w.params (Str.ofString "parent"), .str (Str.ofString "parent") ta, .ref x⟩, ⟨PyData.keyHash w.params (Str.ofString "coeffs"), .str (Str.ofString "coeffs") tb, .ref C⟩] 2) :: ringLed w.params D x d a b t1 t2 t3 t4 t5 t6 t7 t8 t9 rest)) (I : IntsAre vs ns) (hlen : ns.length = 256) (hk1 : 1 ≤ k) (hk20 : k ≤ 20) (hd : dp + 15 < recursionLimit)
    (ret : ∀ (T y1 e1 R1 y0 e0 R0 : Addr) (ta1 tb1 ta0 tb0 : Tok) (v1 v0 : List Value) (c1 c0 : Nat) (h' : Heap) (tk' : Nat), Fr h₀ L h' m → News h₀ L h' ((T, { cls := .type "tuple", data := .seq #[.ref y1, .ref y0] }) :: (y1, instObj 559 e1) :: (e1, dictOf [⟨PyData.keyHash w.params (Str.ofString "parent"), .str (Str.ofString "parent") ta1, .ref x⟩, ⟨PyData.keyHash w.params (Str.ofString "coeffs"), .str (Str.ofString "coeffs") tb1, .ref R1⟩] 2) :: (R1, PySem.W.listOf v1.toArray c1) :: (y0, instObj 559 e0) :: (e0, dictOf [⟨PyData.keyHash w.params (Str.ofString "parent"), .str (Str.ofString "parent") ta0, .ref x⟩, ⟨PyData.keyHash w.params (Str.ofString "coeffs"), .str (Str.ofString "coeffs") tb0, .ref R0⟩] 2) :: (R0, PySem.W.listOf v0.toArray c0) :: (C, { cls := .type "list", data := .seq vs.toArray nn }) :: (y, instObj 559 e) :: (e, dictOf [⟨PyData.keyHash w.params (Str.ofString "parent"), .str (Str.ofString "parent") ta, .ref x⟩, ⟨PyData.keyHash w.params (Str.ofString "coeffs"), .str (Str.ofString "coeffs") tb, .ref C⟩] 2) :: ringLed w.params D x d a b t1 t2 t3 t4 t5 t6 t7 t8 t9 rest) →
      IntsAre v1 (ns.map (high2 k)) → IntsAre v0 (ns.map (low2 k)) → Q (.ref T) { s with heap := h', toks := tk' }) :
    wpAny (model PySem.Challenge.rw_ix0026_01.row.prog w) (ktrTop dp un gd cn cs L a0 ccd cl outer) (call (.ref 464) [.ref y, .int (k : Int) tn]) Q E s := by
  dsimp only [ringLed] at N
  have hpow : (0 : Int) < 1 * 2 ^ (k : Int).toNat := by rw [Int.one_mul]; exact Int.pow_pos (by decide)
  w_strict (iterate 14 (first | (k_unfold; (try dsimp only)) | walk1 | (dsimp only; walk1) | (leave1; (try dsimp only))))
  rename Addr => R1
  w_strict (iterate 7 (first | (k_unfold; (try dsimp only)) | walk1 | (dsimp only; walk1) | (leave1; (try dsimp only))))
  rename Addr => R0
  w_strict (iterate 3 (first | (k_unfold; (try dsimp only)) | walk1 | (dsimp only; walk1) | (leave1; (try dsimp only))))
  rename Fr _ _ _ _ => F1
  (with_unfolding_all refine' For_invVF F1 ?k1 ?k2 ?_)
  case k1 => exact rfl
  case k2 => exact rfl
  w_strict (iterate 3 (first | (k_unfold; (try dsimp only)) | walk1 | (dsimp only; walk1) | (leave1; (try dsimp only))))
  (try dsimp only)
  rename News _ _ _ _ => N1
  refine' list_loopJ [Str.ofString "c", Str.ofString "r", Str.ofString "r0"] (fun i nx => ∃ (v1 v0 : List Value) (c1 c0 : Nat), nx = (R0, PySem.W.listOf v0.toArray c0) :: (R1, PySem.W.listOf v1.toArray c1) :: (C, { cls := .type "list", data := .seq vs.toArray nn }) :: (y, instObj 559 e) :: (e, dictOf [⟨PyData.keyHash w.params (Str.ofString "parent"), .str (Str.ofString "parent") ta, .ref x⟩, ⟨PyData.keyHash w.params (Str.ofString "coeffs"), .str (Str.ofString "coeffs") tb, .ref C⟩] 2) :: (x, instObj 427 d) :: (d, dictOf [⟨PyData.keyHash w.params (Str.ofString "q"), .str (Str.ofString "q") t1, .int 8380417 t2⟩, ⟨PyData.keyHash w.params (Str.ofString "n"), .str (Str.ofString "n") t3, .int 256 t4⟩, ⟨PyData.keyHash w.params (Str.ofString "shake128"), .str (Str.ofString "shake128") t5, .ref a⟩, ⟨PyData.keyHash w.params (Str.ofString "shake256"), .str (Str.ofString "shake256") t6, .ref b⟩, ⟨PyData.keyHash w.params (Str.ofString "ntt_zetas"), .str (Str.ofString "ntt_zetas") t7, .ref D⟩, ⟨PyData.keyHash w.params (Str.ofString "ntt_f"), .str (Str.ofString "ntt_f") t8, .int 8347681 t9⟩] 6) :: rest ∧ IntsAre v1 ((ns.take i).map (high2 k)) ∧ IntsAre v0 ((ns.take i).map (low2 k)))
    rfl ?mem I F1 N1 ?j0 ?turn ?done
  case mem => k_mem
  case j0 => exact ⟨[], [], 0, 0, rfl, .nil, .nil⟩
  case done =>
    intro u nx hD tkD hJ F2 N2
    obtain ⟨v1, v0, c1, c0, rfl, I1, I0⟩ := hJ
    clear F1 N1
    w_strict walk
    rename Fr h₀ _ _ _ => Fe
    rename News h₀ _ _ _ => Ne
    rw [List.take_length] at I1 I0
    exact ret _ _ _ _ _ _ _ _ _ _ _ _ _ _ _ _ _ Fe (cb_drop Ne (by (repeat (first | exact List.forall_mem_nil _ | (refine List.forall_mem_cons.mpr ⟨by k_mem, ?_⟩) | (intro p hp; repeat (first | exact hp | exact List.mem_append_left _ hp | refine List.mem_cons_of_mem _ ?_)))))) I1 I0
  case turn =>
    intro i n t u nx hD tkD own hn hJ hoff F2 N2
    obtain ⟨v1, v0, c1, c0, rfl, I1, I0⟩ := hJ
    clear F1 N1
    simp only [List.cons_append, List.nil_append] at N2
    w_strict walk
    rename Fr _ _ _ _ => Fe
    rename News _ _ _ _ => Ne
    simp only [List.push_toArray] at Ne
    refine' InvEndN.intro (nx := (R0, PySem.W.listOf (v0 ++ [Value.int (low2 k n) _]).toArray (c0 + 1)) :: (R1, PySem.W.listOf (v1 ++ [Value.int (high2 k n) _]).toArray (c1 + 1)) :: (C, { cls := .type "list", data := .seq vs.toArray nn }) :: (y, instObj 559 e) :: (e, dictOf [⟨PyData.keyHash w.params (Str.ofString "parent"), .str (Str.ofString "parent") ta, .ref x⟩, ⟨PyData.keyHash w.params (Str.ofString "coeffs"), .str (Str.ofString "coeffs") tb, .ref C⟩] 2) :: (x, instObj 427 d) :: (d, dictOf [⟨PyData.keyHash w.params (Str.ofString "q"), .str (Str.ofString "q") t1, .int 8380417 t2⟩, ⟨PyData.keyHash w.params (Str.ofString "n"), .str (Str.ofString "n") t3, .int 256 t4⟩, ⟨PyData.keyHash w.params (Str.ofString "shake128"), .str (Str.ofString "shake128") t5, .ref a⟩, ⟨PyData.keyHash w.params (Str.ofString "shake256"), .str (Str.ofString "shake256") t6, .ref b⟩, ⟨PyData.keyHash w.params (Str.ofString "ntt_zetas"), .str (Str.ofString "ntt_zetas") t7, .ref D⟩, ⟨PyData.keyHash w.params (Str.ofString "ntt_f"), .str (Str.ofString "ntt_f") t8, .int 8347681 t9⟩] 6) :: rest) Fe Ne ?j ?ha ?sub ?own
    case sub => ((try simp only [List.nil_append, List.cons_append]); (repeat (first | exact List.forall_mem_nil _ | (refine List.forall_mem_cons.mpr ⟨by k_mem, ?_⟩) | (intro p hp; repeat (first | exact hp | exact List.mem_append_left _ hp | refine List.mem_cons_of_mem _ ?_)))))
    case j =>
      refine ⟨⟨?mm, _, _, _, _, rfl, ?i1, ?i0⟩, ?same⟩
      case i1 => rw [List.take_add_one, hn]; simpa using IntsAre.append I1 (.cons (high2 k n) _ .nil)
      case i0 => rw [List.take_add_one, hn]; simpa using IntsAre.append I0 (.cons (low2 k n) _ .nil)
      case mm => k_mem
      case same =>
        intro z hz
        have hz1 : z ≠ Str.ofString "c" := by rintro rfl; simp at hz
        have hz2 : z ≠ Str.ofString "r" := by rintro rfl; simp at hz
        have hz3 : z ≠ Str.ofString "r0" := by rintro rfl; simp at hz
        simp only [if_neg hz1, if_neg hz2, if_neg hz3]
        unfold over
        rw [hz]; rfl
    case ha => rfl
    case own =>
      intro p hp
      repeat (first | exact hp | exact List.mem_append_right _ hp | refine List.mem_cons_of_mem _ ?_)
end Mine
end
noncomputable section
open PySem PySem.W PyProof.Rows PySem.Spec PySem.Calls
set_option Elab.async false
set_option maxRecDepth 100000
set_option maxHeartbeats 4000000
local macro_rules | `(tactic| k_room) => `(tactic| ktr_room)
local macro_rules | `(tactic| k_enter) => `(tactic| first
  | (refine' code_def ?k1 ?k2 ?k3 ?k4 ?k5 ?kA ?kF ?kK ?k6 ?k7 ?k8 ?k9 ?kB ?_ ?c2 ?c3 ?c4 ?c5; (case kA => exact rfl); (case kF => exact rfl); (case kK => first | exact rfl | assumption); (case k1 => k_asm); (case k2 => k_asm); (case k3 => k_asm); (case k4 => k_asm); (case k5 => k_asm); (case k6 => k_is); (case k7 => k_is); (case k8 => ktr_room); (case k9 => first | exact BindsTo.of_eq rfl | exact binds_K (by k_in) rfl (by k_is) rfl rfl rfl | fail "k_enter: no rule for these arguments"); (case c5 => decide); (case kB => exact locs rfl); (case c2 => exact rfl); (case c3 => exact rfl); (case c4 => exact rfl); k_whole; intro g' L' h' FG' F' N' B' X' T'; (try dsimp only); (try k_lift B'); (try k_fold))
  | (refine' code_defC ?k1 ?k2 ?k3 ?k4 ?k5 ?kA ?kF ?kK ?k6 ?k7 ?k8 ?k9 ?kB ?kD ?_ ?c2 ?c3 ?c4; (case kA => exact rfl); (case kF => exact rfl); (case kK => first | exact rfl | assumption); (case k1 => k_asm); (case k2 => k_asm); (case k3 => k_asm); (case k4 => k_asm); (case k5 => k_asm); (case k6 => k_is); (case k7 => k_is); (case k8 => ktr_room); (case k9 => first | exact BindsTo.of_eq rfl | exact binds_K (by k_in) rfl (by k_is) rfl rfl rfl | fail "k_enter: no rule for these arguments"); (case kB => exact rfl); (case kD => decide +kernel); (case c2 => exact rfl); (case c3 => exact rfl); (case c4 => exact rfl); k_whole; intro g' L' h' tk' cells' FG' F' N' Y' B' X' T' l1; (try k_lt l1); k_cells Y'; (try simp only [List.cons_append, List.nil_append] at N'); (try dsimp only); (try k_lift B'); (try k_fold)))
local macro_rules | `(tactic| walk) => `(tactic| ((try dsimp only); repeat (first | (k_unfold; (try dsimp only)) | ((fail_if_success (with_reducible refine ite_neg ?_ ?_)); (fail_if_success (with_reducible show UnrPost _ _ _ _ _ _ _ _ _)); walk1) | ((fail_if_success (with_reducible refine ite_neg ?_ ?_)); (fail_if_success (with_reducible show UnrPost _ _ _ _ _ _ _ _ _)); dsimp only; walk1))))
local macro_rules | `(tactic| k_units) => `(tactic| ktr_units)
local macro_rules | `(tactic| walk_at "call ref") => `(tactic| (k_here; k_dflt (refine' Mine.dec_call ?k1 ?k2 ?k3 ?k4 ?k5 ?kK ?k6 ?k7 ?k8 ?kd ?_; (case k1 => k_asm); (case k2 => k_asm); (case k3 => k_asm); (case k4 => k_asm); (case k5 => k_asm); (case kK => first | exact rfl | assumption); (case k6 => first | assumption | decide | omega); (case k7 => first | assumption | decide | omega); (case k8 => first | assumption | decide | omega); (case kd => ktr_room)); intro D9 v9 u9 h9 tk9 F9 N9 l9; (try dsimp only); (try k_lt l9)))
local macro_rules | `(tactic| walk_at "call ref") => `(tactic| (k_here; k_dflt (refine' Mine.ring_listM (D := ?D) (a := ?a) (b := ?b) ?k1 ?k2 ?k3 ?k4 ?kK ?k5 ?ml ?mx ?md ?kI ?kl ?kd ?_; (case k1 => k_asm); (case k2 => k_asm); (case k3 => k_asm); (case k4 => k_asm); (case kK => first | exact rfl | assumption); (case k5 => k_asm); (case ml => k_mem); (case mx => k_mem); (case md => k_mem); (case kI => assumption); (case kl => ((try simp only [List.length_map, List.length_take]); omega)); (case kd => ktr_room)); intro y9 e9 ta9 tb9 h9 tk9 F9 N9 l9 l8; (try dsimp only); (try k_lt l9)))
local macro_rules | `(tactic| k_all) => `(tactic| ((refine' List.forall_mem_append.mpr ⟨?a9, ?b9⟩); (case a9 => k_all); (case b9 => k_all)))
local macro_rules | `(tactic| walk_at "no such key") => `(tactic| fail "none")
namespace Mine
theorem decm_call {pv : Program} {w : World} {loose : List Str} {mean : ExcName → Option Value} {mg mb : Str → Option Value} {dp un : Nat} {gd : Option (List Code)} {cn : Str} {cs : Scope} {a0 : Addr} {ccd : Value} {cl : List (Str × Addr)} {outer : List Env} {A₀ : Around} {base h₀ : Heap} {L : Addr} {m : Str → Option Value} {s : Shared}
    {Q E : Value → Shared → Prop} {C y e D x d a b : Addr} {t1 t2 t3 t4 t5 t6 t7 t8 t9 ta tb : Tok} {vs : List Value} {ns : List Int} {nn : Nat} {rest : List (Addr × Obj)}
    (B : Below A₀ base outer h₀) (F : Fr h₀ L s.heap m) (X : (hd.heap_39 w.params).In h₀) (T : Top pv loose mean mg mb h₀) (hk : cs.kind = .function)
    {k : Int} {tn : Tok} (N : News h₀ L s.heap ((C, { cls := .type "list", data := .seq vs.toArray nn }) :: (y, instObj 559 e) :: (e, dictOf [⟨PyData.keyHash w.params (Str.ofString "parent"), .str (Str.ofString "parent") ta, .ref x⟩, ⟨PyData.keyHash w.params (Str.ofString "coeffs"), .str (Str.ofString "coeffs") tb, .ref C⟩] 2) :: ringLed w.params D x d a b t1 t2 t3 t4 t5 t6 t7 t8 t9 rest)) (I : IntsAre vs ns) (hlen : ns.length = 256) (hk1 : 0 < k) (hk20 : k < 16777216) (hd : dp + 15 < recursionLimit)
    (ret : ∀ (T y1 e1 R1 y0 e0 R0 : Addr) (ta1 tb1 ta0 tb0 : Tok) (v1 v0 : List Value) (c1 c0 : Nat) (h' : Heap) (tk' : Nat), Fr h₀ L h' m → News h₀ L h' ((T, { cls := .type "tuple", data := .seq #[.ref y1, .ref y0] }) :: (y1, instObj 559 e1) :: (e1, dictOf [⟨PyData.keyHash w.params (Str.ofString "parent"), .str (Str.ofString "parent") ta1, .ref x⟩, ⟨PyData.keyHash w.params (Str.ofString "coeffs"), .str (Str.ofString "coeffs") tb1, .ref R1⟩] 2) :: (R1, PySem.W.listOf v1.toArray c1) :: (y0, instObj 559 e0) :: (e0, dictOf [⟨PyData.keyHash w.params (Str.ofString "parent"), .str (Str.ofString "parent") ta0, .ref x⟩, ⟨PyData.keyHash w.params (Str.ofString "coeffs"), .str (Str.ofString "coeffs") tb0, .ref R0⟩] 2) :: (R0, PySem.W.listOf v0.toArray c0) :: (C, { cls := .type "list", data := .seq vs.toArray nn }) :: (y, instObj 559 e) :: (e, dictOf [⟨PyData.keyHash w.params (Str.ofString "parent"), .str (Str.ofString "parent") ta, .ref x⟩, ⟨PyData.keyHash w.params (Str.ofString "coeffs"), .str (Str.ofString "coeffs") tb, .ref C⟩] 2) :: ringLed w.params D x d a b t1 t2 t3 t4 t5 t6 t7 t8 t9 rest) →
      IntsAre v1 (ns.map fun c => (decomp c k 8380417).1) → IntsAre v0 (ns.map fun c => (decomp c k 8380417).2) → Q (.ref T) { s with heap := h', toks := tk' }) :
    wpAny (model PySem.Challenge.rw_ix0026_01.row.prog w) (ktrTop dp un gd cn cs L a0 ccd cl outer) (call (.ref 483) [.ref y, .int k tn]) Q E s := by
  dsimp only [ringLed] at N
  w_strict (iterate 7 (first | (k_unfold; (try dsimp only)) | walk1 | (dsimp only; walk1) | (leave1; (try dsimp only))))
  rename Addr => R1
  w_strict (iterate 7 (first | (k_unfold; (try dsimp only)) | walk1 | (dsimp only; walk1) | (leave1; (try dsimp only))))
  rename Addr => R0
  w_strict (iterate 3 (first | (k_unfold; (try dsimp only)) | walk1 | (dsimp only; walk1) | (leave1; (try dsimp only))))
  rename Fr _ _ _ _ => F1
  (with_unfolding_all refine' For_invVF F1 ?k1 ?k2 ?_)
  case k1 => exact rfl
  case k2 => exact rfl
  w_strict (iterate 3 (first | (k_unfold; (try dsimp only)) | walk1 | (dsimp only; walk1) | (leave1; (try dsimp only))))
  (try dsimp only)
  rename News _ _ _ _ => N1
  refine' list_loopJ [Str.ofString "c", Str.ofString "r1", Str.ofString "r0"] (fun i nx => ∃ (v1 v0 : List Value) (c1 c0 : Nat), nx = (R0, PySem.W.listOf v0.toArray c0) :: (R1, PySem.W.listOf v1.toArray c1) :: (C, { cls := .type "list", data := .seq vs.toArray nn }) :: (y, instObj 559 e) :: (e, dictOf [⟨PyData.keyHash w.params (Str.ofString "parent"), .str (Str.ofString "parent") ta, .ref x⟩, ⟨PyData.keyHash w.params (Str.ofString "coeffs"), .str (Str.ofString "coeffs") tb, .ref C⟩] 2) :: (x, instObj 427 d) :: (d, dictOf [⟨PyData.keyHash w.params (Str.ofString "q"), .str (Str.ofString "q") t1, .int 8380417 t2⟩, ⟨PyData.keyHash w.params (Str.ofString "n"), .str (Str.ofString "n") t3, .int 256 t4⟩, ⟨PyData.keyHash w.params (Str.ofString "shake128"), .str (Str.ofString "shake128") t5, .ref a⟩, ⟨PyData.keyHash w.params (Str.ofString "shake256"), .str (Str.ofString "shake256") t6, .ref b⟩, ⟨PyData.keyHash w.params (Str.ofString "ntt_zetas"), .str (Str.ofString "ntt_zetas") t7, .ref D⟩, ⟨PyData.keyHash w.params (Str.ofString "ntt_f"), .str (Str.ofString "ntt_f") t8, .int 8347681 t9⟩] 6) :: rest ∧ IntsAre v1 ((ns.take i).map fun c => (decomp c k 8380417).1) ∧ IntsAre v0 ((ns.take i).map fun c => (decomp c k 8380417).2))
    rfl ?mem I F1 N1 ?j0 ?turn ?done
  case mem => k_mem
  case j0 => exact ⟨[], [], 0, 0, rfl, .nil, .nil⟩
  case done =>
    intro u nx hD tkD hJ F2 N2
    obtain ⟨v1, v0, c1, c0, rfl, I1, I0⟩ := hJ
    clear F1 N1
    w_strict walk
    rename Fr h₀ _ _ _ => Fe
    rename News h₀ _ _ _ => Ne
    rw [List.take_length] at I1 I0
    exact ret _ _ _ _ _ _ _ _ _ _ _ _ _ _ _ _ _ Fe (cb_drop Ne (by (repeat (first | exact List.forall_mem_nil _ | (refine List.forall_mem_cons.mpr ⟨by k_mem, ?_⟩) | (intro p hp; repeat (first | exact hp | exact List.mem_append_left _ hp | refine List.mem_cons_of_mem _ ?_)))))) I1 I0
  case turn =>
    intro i n t u nx hD tkD own hn hJ hoff F2 N2
    obtain ⟨v1, v0, c1, c0, rfl, I1, I0⟩ := hJ
    clear F1 N1
    simp only [List.cons_append, List.nil_append] at N2
    w_strict walk
    rename Fr _ _ _ _ => Fe
    rename News _ _ _ _ => Ne
    simp only [List.push_toArray] at Ne
    refine' InvEndN.intro (nx := (R0, PySem.W.listOf (v0 ++ [Value.int (decomp n k 8380417).2 _]).toArray (c0 + 1)) :: (R1, PySem.W.listOf (v1 ++ [Value.int (decomp n k 8380417).1 _]).toArray (c1 + 1)) :: (C, { cls := .type "list", data := .seq vs.toArray nn }) :: (y, instObj 559 e) :: (e, dictOf [⟨PyData.keyHash w.params (Str.ofString "parent"), .str (Str.ofString "parent") ta, .ref x⟩, ⟨PyData.keyHash w.params (Str.ofString "coeffs"), .str (Str.ofString "coeffs") tb, .ref C⟩] 2) :: (x, instObj 427 d) :: (d, dictOf [⟨PyData.keyHash w.params (Str.ofString "q"), .str (Str.ofString "q") t1, .int 8380417 t2⟩, ⟨PyData.keyHash w.params (Str.ofString "n"), .str (Str.ofString "n") t3, .int 256 t4⟩, ⟨PyData.keyHash w.params (Str.ofString "shake128"), .str (Str.ofString "shake128") t5, .ref a⟩, ⟨PyData.keyHash w.params (Str.ofString "shake256"), .str (Str.ofString "shake256") t6, .ref b⟩, ⟨PyData.keyHash w.params (Str.ofString "ntt_zetas"), .str (Str.ofString "ntt_zetas") t7, .ref D⟩, ⟨PyData.keyHash w.params (Str.ofString "ntt_f"), .str (Str.ofString "ntt_f") t8, .int 8347681 t9⟩] 6) :: rest) Fe Ne ?j ?ha ?sub ?own
    case sub => ((try simp only [List.nil_append, List.cons_append]); (repeat (first | exact List.forall_mem_nil _ | (refine List.forall_mem_cons.mpr ⟨by k_mem, ?_⟩) | (intro p hp; repeat (first | exact hp | exact List.mem_append_left _ hp | refine List.mem_cons_of_mem _ ?_)))))
    case j =>
      refine ⟨⟨?mm, _, _, _, _, rfl, ?i1, ?i0⟩, ?same⟩
      case i1 => rw [List.take_add_one, hn]; simpa using IntsAre.append I1 (.cons (decomp n k 8380417).1 _ .nil)
      case i0 => rw [List.take_add_one, hn]; simpa using IntsAre.append I0 (.cons (decomp n k 8380417).2 _ .nil)
      case mm => k_mem
      case same =>
        intro z hz
        have hz1 : z ≠ Str.ofString "c" := by rintro rfl; simp at hz
        have hz2 : z ≠ Str.ofString "r1" := by rintro rfl; simp at hz
        have hz3 : z ≠ Str.ofString "r0" := by rintro rfl; simp at hz
        simp only [if_neg hz1, if_neg hz2, if_neg hz3]
        unfold over
        rw [hz]; rfl
    case ha => rfl
    case own =>
      intro p hp
      repeat (first | exact hp | exact List.mem_append_right _ hp | refine List.mem_cons_of_mem _ ?_)
end Mine
end
noncomputable section
open PySem PySem.W PyProof.Rows PySem.Spec PySem.Calls
set_option Elab.async false
set_option maxRecDepth 100000
local macro_rules | `(tactic| walk_at "no such key") => `(tactic| fail "none")
local macro_rules | `(tactic| walk_at "no such key") => `(tactic| fail "none")
local macro_rules | `(tactic| walk_at "no such key") => `(tactic| fail "none")
local macro_rules | `(tactic| walk_at "no such key") => `(tactic| fail "none")
namespace Mine
/-- an own object called with keywords -/
theorem kco_callWithKW {M : Model} {A : Around} {E : Value → Shared → Prop} {s : Shared} {K : Frag} {env : Env} {pos : Pos} {x C f : Addr} {ox : Obj} {od : Option Obj} {first : List Value} {Q : Value → Shared → Prop} {e : PySem.Expr} {rest : List PySem.Expr} {kws : List Keyword}
    (_X : K.In s.heap) (_I : InstAt s.heap x ox C od) (hd : ox.data = .plain) (_hs : findIn K (.ref C) "__call__" = some (some (.ref f)))
    (hall : (backToKw pos (keywordEach kws env)).all (·.1.isSome) = true)
    (h : wpAny M A (spliced (backTo pos (starEach (e :: rest) env))) (fun vs s₁ => wpAny M A (evalAll ((backToKw pos (keywordEach kws env)).map (·.2)))
      (fun ks s₂ => kco_P K x C ox od s₂.heap ∧ wpAny M A (call (.ref x) (first ++ vs) (((backToKw pos (keywordEach kws env)).filterMap (·.1)).zip ks)) Q E s₂) E s₁) E s)
    (hplain : ((backTo pos (starEach (e :: rest) env)).any (·.1) || (backToKw pos (keywordEach kws env)).any (·.1.isNone)) = false := by rfl) (he : starEach (e :: rest) env = (false, eval e env) :: starEach rest env := by rfl) :
    wpAny M A (callWith pos (.ref x) first (backTo pos (starEach (e :: rest) env)) (backToKw pos (keywordEach kws env))) Q E s :=
  kco_callWith_of hplain hd (evalArgs_kw2 hall h he)
end Mine
end
noncomputable section
open PySem PySem.W PyProof.Rows PySem.Spec PySem.Calls
set_option Elab.async false
set_option maxRecDepth 100000
set_option maxHeartbeats 4000000
local macro_rules | `(tactic| k_room) => `(tactic| ktr_room)
local macro_rules | `(tactic| k_enter) => `(tactic| first
  | (refine' code_def ?k1 ?k2 ?k3 ?k4 ?k5 ?kA ?kF ?kK ?k6 ?k7 ?k8 ?k9 ?kB ?_ ?c2 ?c3 ?c4 ?c5; (case kA => exact rfl); (case kF => exact rfl); (case kK => first | exact rfl | assumption); (case k1 => k_asm); (case k2 => k_asm); (case k3 => k_asm); (case k4 => k_asm); (case k5 => k_asm); (case k6 => k_is); (case k7 => k_is); (case k8 => ktr_room); (case k9 => first | exact BindsTo.of_eq rfl | exact binds_K (by k_in) rfl (by k_is) rfl rfl rfl | fail "k_enter: no rule for these arguments"); (case c5 => decide); (case kB => exact locs rfl); (case c2 => exact rfl); (case c3 => exact rfl); (case c4 => exact rfl); k_whole; intro g' L' h' FG' F' N' B' X' T'; (try dsimp only); (try k_lift B'); (try k_fold))
  | (refine' code_defC ?k1 ?k2 ?k3 ?k4 ?k5 ?kA ?kF ?kK ?k6 ?k7 ?k8 ?k9 ?kB ?kD ?_ ?c2 ?c3 ?c4; (case kA => exact rfl); (case kF => exact rfl); (case kK => first | exact rfl | assumption); (case k1 => k_asm); (case k2 => k_asm); (case k3 => k_asm); (case k4 => k_asm); (case k5 => k_asm); (case k6 => k_is); (case k7 => k_is); (case k8 => ktr_room); (case k9 => first | exact BindsTo.of_eq rfl | exact binds_K (by k_in) rfl (by k_is) rfl rfl rfl | fail "k_enter: no rule for these arguments"); (case kB => exact rfl); (case kD => decide +kernel); (case c2 => exact rfl); (case c3 => exact rfl); (case c4 => exact rfl); k_whole; intro g' L' h' tk' cells' FG' F' N' Y' B' X' T' l1; (try k_lt l1); k_cells Y'; (try simp only [List.cons_append, List.nil_append] at N'); (try dsimp only); (try k_lift B'); (try k_fold)))
local macro_rules | `(tactic| walk) => `(tactic| ((try dsimp only); repeat (first | (k_unfold; (try dsimp only)) | ((fail_if_success (with_reducible refine ite_neg ?_ ?_)); (fail_if_success (with_reducible show UnrPost _ _ _ _ _ _ _ _ _)); walk1) | ((fail_if_success (with_reducible refine ite_neg ?_ ?_)); (fail_if_success (with_reducible show UnrPost _ _ _ _ _ _ _ _ _)); dsimp only; walk1))))
local macro_rules | `(tactic| k_units) => `(tactic| ktr_units)
local macro_rules | `(tactic| walk_at "call ref") => `(tactic| (k_here; k_dflt (refine' Mine.hig_call ?k1 ?k2 ?k3 ?k4 ?k5 ?kK ?k6 ?k7 ?k8 ?kd ?_; (case k1 => k_asm); (case k2 => k_asm); (case k3 => k_asm); (case k4 => k_asm); (case k5 => k_asm); (case kK => first | exact rfl | assumption); (case k6 => first | assumption | decide | omega); (case k7 => first | assumption | decide | omega); (case k8 => first | assumption | decide | omega); (case kd => ktr_room)); intro t9 h9 tk9 F9 N9; (try dsimp only)))
local macro_rules | `(tactic| walk_at "call ref") => `(tactic| (k_here; k_dflt (refine' Mine.low_call ?k1 ?k2 ?k3 ?k4 ?k5 ?kK ?k6 ?k7 ?k8 ?kd ?_; (case k1 => k_asm); (case k2 => k_asm); (case k3 => k_asm); (case k4 => k_asm); (case k5 => k_asm); (case kK => first | exact rfl | assumption); (case k6 => first | assumption | decide | omega); (case k7 => first | assumption | decide | omega); (case k8 => first | assumption | decide | omega); (case kd => ktr_room)); intro t9 h9 tk9 F9 N9; (try dsimp only)))
local macro_rules | `(tactic| walk_at "call ref") => `(tactic| (k_here; k_dflt (refine' Mine.ring_listKM (D := ?D) (a := ?a) (b := ?b) ?k1 ?k2 ?k3 ?k4 ?kK ?k5 ?ml ?mx ?md ?kI ?kl ?kd ?_; (case k1 => k_asm); (case k2 => k_asm); (case k3 => k_asm); (case k4 => k_asm); (case kK => first | exact rfl | assumption); (case k5 => k_asm); (case ml => k_mem); (case mx => k_mem); (case md => k_mem); (case kI => assumption); (case kl => ((try simp only [List.length_map, List.length_take]); omega)); (case kd => ktr_room)); intro y9 e9 ta9 tb9 h9 tk9 F9 N9 l9 l8; (try dsimp only); (try k_lt l9)))
local macro_rules | `(tactic| k_all) => `(tactic| ((refine' List.forall_mem_append.mpr ⟨?a9, ?b9⟩); (case a9 => k_all); (case b9 => k_all)))
local macro_rules | `(tactic| walk_at "callWith ref") => `(tactic| (k_here; k_dflt (refine' Mine.kco_callWithKW ?k1 ?k2 ?k3 ?k4 ?k5 ?_; (case k1 => k_in); (case k2 => k_inst); (case k3 => rfl); (case k4 => k_is); (case k5 => exact rfl); k_whole)))
local macro_rules | `(tactic| walk_at "no such key") => `(tactic| fail "none")
namespace Mine
theorem hb_call {pv : Program} {w : World} {loose : List Str} {mean : ExcName → Option Value} {mg mb : Str → Option Value} {dp un : Nat} {gd : Option (List Code)} {cn : Str} {cs : Scope} {a0 : Addr} {ccd : Value} {cl : List (Str × Addr)} {outer : List Env} {A₀ : Around} {base h₀ : Heap} {L : Addr} {m : Str → Option Value} {s : Shared}
    {Q E : Value → Shared → Prop} {C y e D x d a b : Addr} {t1 t2 t3 t4 t5 t6 t7 t8 t9 ta tb : Tok} {vs : List Value} {ns : List Int} {nn : Nat} {rest : List (Addr × Obj)}
    (B : Below A₀ base outer h₀) (F : Fr h₀ L s.heap m) (X : (hd.heap_39 w.params).In h₀) (T : Top pv loose mean mg mb h₀) (hk : cs.kind = .function)
    {k : Int} {tn : Tok} (N : News h₀ L s.heap ((C, { cls := .type "list", data := .seq vs.toArray nn }) :: (y, instObj 559 e) :: (e, dictOf [⟨PyData.keyHash w.params (Str.ofString "parent"), .str (Str.ofString "parent") ta, .ref x⟩, ⟨PyData.keyHash w.params (Str.ofString "coeffs"), .str (Str.ofString "coeffs") tb, .ref C⟩] 2) :: ringLed w.params D x d a b t1 t2 t3 t4 t5 t6 t7 t8 t9 rest)) (I : IntsAre vs ns) (hlen : ns.length = 256) (hk1 : 0 < k) (hk20 : k < 16777216) (hd : dp + 15 < recursionLimit)
    (ret : ∀ (y1 e1 R1 : Addr) (ta1 tb1 : Tok) (v1 : List Value) (h' : Heap) (tk' : Nat), Fr h₀ L h' m → News h₀ L h' ((y1, instObj 559 e1) :: (e1, dictOf [⟨PyData.keyHash w.params (Str.ofString "parent"), .str (Str.ofString "parent") ta1, .ref x⟩, ⟨PyData.keyHash w.params (Str.ofString "coeffs"), .str (Str.ofString "coeffs") tb1, .ref R1⟩] 2) :: (R1, LCg.lst v1) :: (C, { cls := .type "list", data := .seq vs.toArray nn }) :: (y, instObj 559 e) :: (e, dictOf [⟨PyData.keyHash w.params (Str.ofString "parent"), .str (Str.ofString "parent") ta, .ref x⟩, ⟨PyData.keyHash w.params (Str.ofString "coeffs"), .str (Str.ofString "coeffs") tb, .ref C⟩] 2) :: ringLed w.params D x d a b t1 t2 t3 t4 t5 t6 t7 t8 t9 rest) →
      IntsAre v1 (ns.map fun c => (decomp c k 8380417).1) → Q (.ref y1) { s with heap := h', toks := tk' }) :
    wpAny (model PySem.Challenge.rw_ix0026_01.row.prog w) (ktrTop dp un gd cn cs L a0 ccd cl outer) (call (.ref 470) [.ref y, .int k tn]) Q E s := by
  dsimp only [ringLed] at N
  w_strict (iterate 3 (first | (k_unfold; (try dsimp only)) | walk1 | (dsimp only; walk1) | (leave1; (try dsimp only))))
  all_goals w_strict walk
  rename Fr h₀ _ _ _ => Fe
  rename News h₀ _ _ _ => Ne
  rename IntsAre _ (List.map _ ns) => I9
  exact ret _ _ _ _ _ _ _ _ Fe (cb_drop Ne (by (repeat (first | exact List.forall_mem_nil _ | (refine List.forall_mem_cons.mpr ⟨by k_mem, ?_⟩) | (intro p hp; repeat (first | exact hp | exact List.mem_append_left _ hp | refine List.mem_cons_of_mem _ ?_)))))) I9
theorem lb_call {pv : Program} {w : World} {loose : List Str} {mean : ExcName → Option Value} {mg mb : Str → Option Value} {dp un : Nat} {gd : Option (List Code)} {cn : Str} {cs : Scope} {a0 : Addr} {ccd : Value} {cl : List (Str × Addr)} {outer : List Env} {A₀ : Around} {base h₀ : Heap} {L : Addr} {m : Str → Option Value} {s : Shared}
    {Q E : Value → Shared → Prop} {C y e D x d a b : Addr} {t1 t2 t3 t4 t5 t6 t7 t8 t9 ta tb : Tok} {vs : List Value} {ns : List Int} {nn : Nat} {rest : List (Addr × Obj)}
    (B : Below A₀ base outer h₀) (F : Fr h₀ L s.heap m) (X : (hd.heap_39 w.params).In h₀) (T : Top pv loose mean mg mb h₀) (hk : cs.kind = .function)
    {k : Int} {tn : Tok} (N : News h₀ L s.heap ((C, { cls := .type "list", data := .seq vs.toArray nn }) :: (y, instObj 559 e) :: (e, dictOf [⟨PyData.keyHash w.params (Str.ofString "parent"), .str (Str.ofString "parent") ta, .ref x⟩, ⟨PyData.keyHash w.params (Str.ofString "coeffs"), .str (Str.ofString "coeffs") tb, .ref C⟩] 2) :: ringLed w.params D x d a b t1 t2 t3 t4 t5 t6 t7 t8 t9 rest)) (I : IntsAre vs ns) (hlen : ns.length = 256) (hk1 : 0 < k) (hk20 : k < 16777216) (hd : dp + 15 < recursionLimit)
    (ret : ∀ (y1 e1 R1 : Addr) (ta1 tb1 : Tok) (v1 : List Value) (h' : Heap) (tk' : Nat), Fr h₀ L h' m → News h₀ L h' ((y1, instObj 559 e1) :: (e1, dictOf [⟨PyData.keyHash w.params (Str.ofString "parent"), .str (Str.ofString "parent") ta1, .ref x⟩, ⟨PyData.keyHash w.params (Str.ofString "coeffs"), .str (Str.ofString "coeffs") tb1, .ref R1⟩] 2) :: (R1, LCg.lst v1) :: (C, { cls := .type "list", data := .seq vs.toArray nn }) :: (y, instObj 559 e) :: (e, dictOf [⟨PyData.keyHash w.params (Str.ofString "parent"), .str (Str.ofString "parent") ta, .ref x⟩, ⟨PyData.keyHash w.params (Str.ofString "coeffs"), .str (Str.ofString "coeffs") tb, .ref C⟩] 2) :: ringLed w.params D x d a b t1 t2 t3 t4 t5 t6 t7 t8 t9 rest) →
      IntsAre v1 (ns.map fun c => (decomp c k 8380417).2) → Q (.ref y1) { s with heap := h', toks := tk' }) :
    wpAny (model PySem.Challenge.rw_ix0026_01.row.prog w) (ktrTop dp un gd cn cs L a0 ccd cl outer) (call (.ref 476) [.ref y, .int k tn]) Q E s := by
  dsimp only [ringLed] at N
  w_strict (iterate 3 (first | (k_unfold; (try dsimp only)) | walk1 | (dsimp only; walk1) | (leave1; (try dsimp only))))
  all_goals w_strict walk
  rename Fr h₀ _ _ _ => Fe
  rename News h₀ _ _ _ => Ne
  rename IntsAre _ (List.map _ ns) => I9
  exact ret _ _ _ _ _ _ _ _ Fe (cb_drop Ne (by (repeat (first | exact List.forall_mem_nil _ | (refine List.forall_mem_cons.mpr ⟨by k_mem, ?_⟩) | (intro p hp; repeat (first | exact hp | exact List.mem_append_left _ hp | refine List.mem_cons_of_mem _ ?_)))))) I9
end Mine
end
noncomputable section
open PySem PySem.W PyProof.Rows PySem.Spec PySem.Calls
set_option Elab.async false
set_option maxRecDepth 100000
namespace Mine
section
variable {prog : Program} {w : World} {A : Around} {E : Value → Shared → Prop} {s : Shared} {h₀ : Heap} {c P L : Addr} {m : Str → Option Value}
/-- what is left to show where a generator expression's source list stands ready: the function's table of codes is the ledger's first entry -/
def GLP (prog : Program) (w : World) (A : Around) (h₀ : Heap) (L P : Addr) (m : Str → Option Value) (env : Env) (scope : Scope) (cl : List (Str × Addr)) (x : Str) (elt : PySem.Expr) (Q : Value → Shared → Prop) (xv : Value) (s₁ : Shared) : Prop :=
  ∃ (l : Addr) (items : Array Value) (news : List (Addr × Obj)) (ps : Array Value) (F : Nat → Value → Prop), xv = .ref l ∧ s₁.heap.IsList l items ∧ Fr h₀ L s₁.heap m ∧ News h₀ L s₁.heap ((P, tabObj ps) :: news) ∧ TriplesOk ps.toList ∧ AllBare s₁.gens ∧ (∀ p ∈ news, p.1 ≠ P) ∧
    (∀ (code : Value) (C : Addr) (A' : Around) E' i v (t : Shared) m₂, A'.handled = none → A'.depth ≤ A.depth + 1 → A'.units ≤ A.units + 8 → items[i]? = some v → Fr h₀ C t.heap m₂ → m₂ x = some v → L < C → News h₀ C t.heap news →
      wpAny (model prog w) A' (eval elt (genEnv scope cl C code builtinsNs env)) (fun y s₃ => F i y ∧ Keeps t s₃) E' t) ∧
    (∀ a K s₅ ps', Fr h₀ L s₅.heap m → News h₀ L s₅.heap ((P, tabObj ps') :: news) → TriplesOk ps'.toList → AllBare s₅.gens → s₅.os = s₁.os → L ≤ K → (∀ p ∈ ((P, tabObj ps') :: news), p.1 ≤ K) →
      Gen prog w A K a (List.range items.size).length (fun j y => ∃ i, (List.range items.size)[j]? = some i ∧ F i y) s₅ → Q (.ref a) s₅)
theorem triples_snoc {ps : Array Value} {pos : Pos} {c' : Addr} (h : TriplesOk ps.toList) : TriplesOk (ps ++ #[rawInt pos.line, rawInt pos.col, .ref c']).toList := by
  rw [show (ps ++ #[rawInt pos.line, rawInt pos.col, Value.ref c']).toList = ps.toList ++ [rawInt pos.line, rawInt pos.col, .ref c'] by simp]
  exact TriplesOk_snoc _ _ _ _ h
theorem gen_led {p : Program} {loose : List Str} {mean : ExcName → Option Value} {mg mb : Str → Option Value} {env : Env} {elt iter : PySem.Expr} {x : Str} {px : Pos} {scope : Scope} {cl : List (Str × Addr)} {pos : Pos} {Q : Value → Shared → Prop}
    (_F : Fr h₀ L s.heap m) (T : Top p loose mean mg mb h₀) (C : CodeHd h₀ c P) (hcode : env.code = .ref c) (hglob : env.globals = mainGlobals)
    (hh : A.handled = none) (hco : scope.isCoroutine = false) (hclos : closureFor scope env = pure cl) (hcell : ∀ y ∈ scope.names, y.2 ≠ .cell) (h0 : scope.names.lookup (".0" : Str) = some NameKind.local)
    (hx : scope.names.lookup x = some .local) (hkind : scope.kind = .function) (hroom : A.depth < recursionLimit)
    (h : wpAny (model prog w) A (eval iter env) (GLP prog w A h₀ L P m env scope cl x elt Q) E s)
    (hs : ∀ x, genFold iter env x = pure x) :
    wpAny (model prog w) A (eval (.GeneratorExp elt [⟨.Name x px, iter, [], 0⟩] scope pos) env) Q E s := by
  refine wpAny_GeneratorExp_walksQD hh hco hclos hcell h0 hx hkind hroom (wpAny_mono h (fun xv s₁ h₁' => ?_) fun _ _ e => e) hs
  obtain ⟨l, items, news, ps, F, rfl, hl, F₁, N₁, ht, G₁, hnP, hel, hQ⟩ := h₁'
  have hlt : l < s₁.heap.objs.size := by obtain ⟨_, e, _⟩ := hl; exact Heap.lt_size e
  have hP := N₁ (P, tabObj ps) (List.mem_cons_self ..)
  have hPlt : P < s₁.heap.objs.size := Heap.lt_size hP.1
  have hlP : l ≠ P := fun e => by
    obtain ⟨o, ho, hc, _⟩ := hl
    rw [e, hP.1] at ho; cases ho; exact absurd hc (by simp)
  refine wpAny_pyIter_list hl ?_
  have hpush : ∀ b o, s₁.heap.get? b = some o → (s₁.heap.push { cls := .type "list_iterator", data := .fields #[.ref l, .int 0 0] }).get? b = some o := fun b o e => Heap.get?_push_of_some _ e
  generalize hs2 : ({ s₁ with heap := s₁.heap.push { cls := .type "list_iterator", data := .fields #[.ref l, .int 0 0] } } : Shared) = s₂
  have e2 : s₂.heap = s₁.heap.push { cls := .type "list_iterator", data := .fields #[.ref l, .int 0 0] } := by rw [← hs2]
  have g2 : s₂.gens = s₁.gens := by rw [← hs2]
  have o2 : s₂.os = s₁.os := by rw [← hs2]
  rw [← e2] at hpush
  have sz2 : s₂.heap.objs.size = s₁.heap.objs.size + 1 := by rw [e2, Heap.size_push]
  have F₂ : Fr h₀ L s₂.heap m := F₁.keeps hpush
  have hP₂ : s₂.heap.get? P = some (tabObj ps) := hpush _ _ hP.1
  have hlim : s₂.heap.NoLimit := T.nolimit.keeps F₂.keep
  have hLs : L < s₁.heap.objs.size := F₁.ns.lt
  refine ⟨hlim, ?_⟩
  -- the code object, made or found
  have main : ∀ (code : Value) (h₃ : Heap) (tk₃ : Nat) (ps' : Array Value), Heap.ExtBut P s₂.heap h₃ → s₂.heap.objs.size ≤ h₃.objs.size → h₃.get? P = some (tabObj ps') → TriplesOk ps'.toList →
      wpAny (model prog w) A (builtinsFor env.globals env.builtins) (fun bi s₄ =>
        ∃ I fp wr n₀ Pi St₀ pz F, (Value.ref s₁.heap.objs.size) = .ref I ∧ (∀ A' : Around, A'.handled = none → Walks prog w A' I fp wr n₀ Pi St₀) ∧ St₀ 0 s₄.heap ∧ (∀ b ∈ fp, b < s₄.heap.objs.size) ∧ s₄.heap.NoLimit ∧ cStatics ∉ wr ∧
          (∀ href : Heap, (∀ b o, s₄.heap.get? b = some o → href.get? b = some o) →
            QuietGenD prog w (genEnv scope cl s₄.heap.objs.size code bi env) x [] elt (List.range s₄.heap.objs.size) wr Pi pz F href (A.depth + 1) (A.units + 8)) ∧
          (∀ a h₅ tk gs, gs.bare = true → s₄.heap.objs.size < a → h₅.objs.size = a + 1 → (∀ b o, s₄.heap.get? b = some o → h₅.get? b = some o) →
            WalksS prog w A.in4 a (a :: s₄.heap.objs.size :: List.range s₄.heap.objs.size) (s₄.heap.objs.size :: wr) (GenOnlyQ s₄.gens.size) (passing pz n₀ 0).length
              (fun j y => ∃ i, (passing pz n₀ 0)[j]? = some i ∧ F i y) (GenAt prog w A.in4 a s₄.gens.size s₄.heap.objs.size (List.range s₄.heap.objs.size) wr pz n₀ F) →
            GenAt prog w A.in4 a s₄.gens.size s₄.heap.objs.size (List.range s₄.heap.objs.size) wr pz n₀ F 0 { s₄ with gens := s₄.gens.push gs, toks := tk, heap := h₅ } →
            Q (.ref a) { s₄ with gens := s₄.gens.push gs, toks := tk, heap := h₅ })) E { s₂ with heap := h₃, toks := tk₃ } := by
    intro code h₃ tk₃ ps' hx₃ hsz hP₃ ht'
    have hPL : P ≠ L := hP.2.1
    have hne₀ : ∀ b o, h₀.get? b = some o → b ≠ P := fun b o e q => by rw [q, hP.2.2] at e; cases e
    have F₃ : Fr h₀ L h₃ m := ⟨F₂.ns.extBut hx₃ (fun q => hPL q.symm), fun b o e => hx₃ b o (hne₀ b o e) (F₂.keep b o e), F₂.above⟩
    have N₃ : News h₀ L h₃ ((P, tabObj ps') :: news) := fun q hq => by
      rcases List.mem_cons.mp hq with rfl | hq
      · exact ⟨hP₃, hP.2⟩
      · have n := N₁ q (List.mem_cons_of_mem _ hq)
        exact ⟨hx₃ _ _ (hnP q hq) (hpush _ _ n.1), n.2⟩
    have hgs := T.g.keeps F₃.keep
    obtain ⟨bm, ob, b1, b2, b3, b4, b5, b6⟩ := T.bmain
    have hbG : bm ≠ mainGlobals := fun q => by
      obtain ⟨o, es, ep, e, hd, _⟩ := T.g
      rw [q, e] at b3; cases b3; rw [hd] at b6; cases b6
    rw [hglob]
    refine wpAny_builtinsFor hgs b1 b2 (F₃.keep _ _ b3) b4 b5 b6 ?_
    have hl₃ : h₃.NoLimit := T.nolimit.keeps F₃.keep
    have hcs : cStatics < s₁.heap.objs.size := by
      obtain ⟨_, hn, _⟩ := T.nolimit.keeps F₁.keep
      exact hn.lt
    have hwlt : ∀ b ∈ [s₁.heap.objs.size, l], b < s₂.heap.objs.size := by
      intro b hb
      rw [sz2]
      rcases List.mem_cons.mp hb with rfl | hb
      · exact Nat.lt_succ_self _
      · rcases List.mem_cons.mp hb with rfl | hb
        · exact Nat.lt_succ_of_lt hlt
        · cases hb
    have hPf : P ∉ [s₁.heap.objs.size, l] := fun hb => by
      rcases List.mem_cons.mp hb with e | hb
      · exact absurd (e ▸ hPlt) (Nat.lt_irrefl _)
      · rcases List.mem_cons.mp hb with e | hb
        · exact hlP e.symm
        · cases hb
    have W₀ : ∀ A' : Around, A'.handled = none → Walks prog w A' s₁.heap.objs.size [s₁.heap.objs.size, l] [s₁.heap.objs.size] items.size _ _ := fun A' hA => Walks.list hA _ _ (Nat.ne_of_lt hlt) items
    have hst : _ := (W₀ A hh).frame 0 s₂.heap h₃ (by rw [e2]; exact ⟨⟨_, Heap.get?_push_size _ rfl, rfl, rfl⟩, hl.push _⟩) (fun b hb o e => hx₃ b o (fun e' => hPf (e' ▸ hb)) e)
    have hpass : passing (fun _ => true) items.size 0 = List.range items.size := by unfold passing; simp
    refine ⟨_, _, _, items.size, _, _, fun _ => true, F, rfl, W₀, hst, (fun b hb => Nat.lt_of_lt_of_le (hwlt b hb) hsz), hl₃, ?_, (fun href hhref => ?_), fun a h₅ tk gs hgb hag hsz₅ hk₅ W hat => ?_⟩
    · intro hm
      rcases List.mem_cons.mp hm with e | hb
      · exact absurd (e ▸ hcs) (Nat.lt_irrefl _)
      · cases hb
    · have hLC : L < h₃.objs.size := Nat.lt_of_lt_of_le (Nat.lt_of_lt_of_le hLs (by rw [sz2]; exact Nat.le_succ _)) hsz
      have inB : ∀ (t : Shared) m₂, t.heap.Ns h₃.objs.size m₂ → (∀ b ∈ List.range h₃.objs.size, b ∉ [s₁.heap.objs.size] → ∀ o, href.get? b = some o → t.heap.get? b = some o) →
          Fr h₀ h₃.objs.size t.heap m₂ ∧ News h₀ h₃.objs.size t.heap news := fun t m₂ hn hkp =>
        ⟨⟨hn, fun b o e => hkp b (List.mem_range.mpr (Heap.lt_size (F₃.keep b o e))) (fun hm => by
            have e3 := List.mem_singleton.mp hm
            exact absurd (e3 ▸ Heap.lt_size e) (Nat.not_lt.mpr (Nat.le_trans F₁.above (Nat.le_of_lt hLs)))) o (hhref b o (F₃.keep b o e)), Nat.le_trans F₃.above (Nat.le_of_lt hLC)⟩, fun q hq => by
          have n := N₃ q (List.mem_cons_of_mem _ hq)
          have n1 := N₁ q (List.mem_cons_of_mem _ hq)
          have l1 := Heap.lt_size n1.1
          refine ⟨hkp q.1 (List.mem_range.mpr (Heap.lt_size n.1)) (fun hm => ?_) _ (hhref _ _ n.1), Nat.ne_of_lt (Heap.lt_size n.1), n.2.2⟩
          exact absurd ((List.mem_singleton.mp hm) ▸ l1) (Nat.lt_irrefl _)⟩
      refine ⟨fun A' E' i v t m₂ hA hD hU hP' hn hm hkp => ?_, fun A' E' i v t m₂ hA hD hU hP' hp hn hm hkp => ?_⟩
      · show wpAny _ _ (forIn [] true _) _ _ _
        rw [List.forIn_nil]
        exact wpAny_pure ⟨rfl, t.heap, t.toks, rfl, fun _ _ e => e⟩
      · exact hel code _ A' E' i v t m₂ hA hD hU hP' (inB t m₂ hn hkp).1 hm hLC (inB t m₂ hn hkp).2
    · rw [hpass] at W
      have WF : Gen prog w A (s₁.heap.objs.size - 1) a (List.range items.size).length (fun j y => ∃ i, (List.range items.size)[j]? = some i ∧ F i y) { s₂ with heap := h₅, toks := tk, gens := s₂.gens.push gs } := by
        refine ⟨_, _, _, _, W, hat, (fun i s' st => st.1.typeIs), List.mem_cons_self, ?_, ?_⟩
        · intro b hb
          show b < h₅.objs.size
          rw [hsz₅]
          rcases List.mem_cons.mp hb with rfl | hb
          · exact Nat.lt_succ_self _
          · rcases List.mem_cons.mp hb with rfl | hb
            · exact Nat.lt_succ_of_lt hag
            · exact Nat.lt_succ_of_lt (Nat.lt_trans (List.mem_range.mp hb) hag)
        · intro b hb
          have hle : s₁.heap.objs.size ≤ h₃.objs.size := Nat.le_trans (by rw [sz2]; exact Nat.le_succ _) hsz
          rcases List.mem_cons.mp hb with rfl | hb
          · exact Nat.lt_of_lt_of_le (Nat.sub_one_lt_of_lt hPlt) hle
          · rw [List.mem_singleton.mp hb]
            exact Nat.sub_one_lt_of_lt hPlt
      have hag : h₃.objs.size < a := hag
      refine hQ a (s₁.heap.objs.size - 1) _ ps' (F₃.keeps hk₅) (fun q hq => ⟨hk₅ _ _ (N₃ q hq).1, (N₃ q hq).2⟩) ht' ?_ o2 (Nat.le_sub_one_of_lt hLs) (fun q hq => ?_) WF
      · show AllBare (s₂.gens.push gs)
        rw [g2]; exact G₁.push hgb
      · have : q.1 < s₁.heap.objs.size := by
          rcases List.mem_cons.mp hq with rfl | hq
          · exact hPlt
          · exact Heap.lt_size (N₁ q (List.mem_cons_of_mem _ hq)).1
        exact Nat.le_sub_one_of_lt this
  have C₂ := C.keeps F₂.keep
  cases hf : codeAmong pos ps.toList with
  | none =>
    refine wpAny_genexprCodeX hcode (C₂.code hP₂ ht) (C₂.tab hP₂) hf fun c' h₃ tk₃ hx₃ hge hlt' _ _ htab₃ _ => ?_
    exact main (.ref c') h₃ tk₃ _ hx₃ (Nat.le_trans hge (Nat.le_of_lt hlt')) htab₃.2 (triples_snoc ht)
  | some cv =>
    refine wpAny_genexprCode_hit hcode (C₂.code hP₂ ht) hf ?_
    exact main cv s₂.heap s₂.toks ps (fun _ _ _ e => e) (Nat.le_refl _) hP₂ ht
/-- an object that is no table of codes lies elsewhere -/
def NotTabs : List (Addr × Obj) → Prop
  | [] => True
  | p :: r => (∀ ps, p.2 ≠ tabObj ps) ∧ NotTabs r
theorem ne_tabs {h : Heap} {ps : Array Value} {big : List (Addr × Obj)} (N : News h₀ L h big) (hP : (P, tabObj ps) ∈ big) : ∀ news : List (Addr × Obj), (∀ p ∈ news, p ∈ big) → NotTabs news → ∀ p ∈ news, p.1 ≠ P
  | [], _, _, p, hp => nomatch hp
  | q :: r, hb, hn, p, hp => by
    rcases List.mem_cons.mp hp with rfl | hp
    · intro e
      have h1 := (N _ (hb p (List.mem_cons_self ..))).1
      rw [e, (N _ hP).1] at h1
      exact hn.1 ps (Option.some.inj h1).symm
    · exact ne_tabs N hP r (fun x hx => hb x (List.mem_cons_of_mem _ hx)) hn.2 p hp
/-- what all, any tell of such a generator -/
theorem all_led {Q : Value → Shared → Prop} {a K n : Nat} {q : Nat → Bool} {news : List (Addr × Obj)} {Fv : Nat → Value → Prop} (F : Fr h₀ L s.heap m) (N : News h₀ L s.heap news) (G : AllBare s.gens)
    (X : Gen prog w A K a (List.range n).length (fun j y => ∃ i, (List.range n)[j]? = some i ∧ Fv i y) s) (hLK : L ≤ K) (hK : ∀ p ∈ news, p.1 ≤ K) (hv : ∀ i v, i < n → Fv i v → v = .bool (q i))
    (hQ : ∀ s' : Shared, Fr h₀ L s'.heap m → News h₀ L s'.heap news → AllBare s'.gens → s'.os = s.os → Q (.bool ((List.range n).all q)) s') :
    wpAny (model prog w) A (call (.builtin "all") [.ref a]) Q E s := by
  refine all_rowsK F G X hLK q (fun j v s Q E hj hQ => ?_) fun s' F' G' ho hk => ?_
  · obtain ⟨i, hi, hc⟩ := hj
    obtain ⟨hlt, rfl⟩ := List.getElem?_eq_some_iff.mp hi
    rw [List.getElem_range] at hc
    rw [hv _ v (by simpa using hlt) hc]
    exact wpAny_truthy_bool hQ
  · rw [List.length_range]
    exact hQ s' F' (fun p hp => ⟨hk _ _ (hK p hp) (N p hp).1, (N p hp).2⟩) G' ho
theorem any_led {Q : Value → Shared → Prop} {a K n : Nat} {q : Nat → Bool} {news : List (Addr × Obj)} {Fv : Nat → Value → Prop} (F : Fr h₀ L s.heap m) (N : News h₀ L s.heap news) (G : AllBare s.gens)
    (X : Gen prog w A K a (List.range n).length (fun j y => ∃ i, (List.range n)[j]? = some i ∧ Fv i y) s) (hLK : L ≤ K) (hK : ∀ p ∈ news, p.1 ≤ K) (hv : ∀ i v, i < n → Fv i v → v = .bool (q i))
    (hQ : ∀ s' : Shared, Fr h₀ L s'.heap m → News h₀ L s'.heap news → AllBare s'.gens → s'.os = s.os → Q (.bool ((List.range n).any q)) s') :
    wpAny (model prog w) A (call (.builtin "any") [.ref a]) Q E s := by
  refine any_rowsK F G X hLK q (fun j v s Q E hj hQ => ?_) fun s' F' G' ho hk => ?_
  · obtain ⟨i, hi, hc⟩ := hj
    obtain ⟨hlt, rfl⟩ := List.getElem?_eq_some_iff.mp hi
    rw [List.getElem_range] at hc
    rw [hv _ v (by simpa using hlt) hc]
    exact wpAny_truthy_bool hQ
  · rw [List.length_range]
    exact hQ s' F' (fun p hp => ⟨hk _ _ (hK p hp) (N p hp).1, (N p hp).2⟩) G' ho
end
end Mine
end
noncomputable section
open PySem PySem.W PyProof.Rows PySem.Spec PySem.Calls
set_option Elab.async false
set_option maxRecDepth 100000
set_option maxHeartbeats 4000000
local macro_rules | `(tactic| k_room) => `(tactic| ktr_room)
local macro_rules | `(tactic| k_enter) => `(tactic| first
  | (refine' code_def ?k1 ?k2 ?k3 ?k4 ?k5 ?kA ?kF ?kK ?k6 ?k7 ?k8 ?k9 ?kB ?_ ?c2 ?c3 ?c4 ?c5; (case kA => exact rfl); (case kF => exact rfl); (case kK => first | exact rfl | assumption); (case k1 => k_asm); (case k2 => k_asm); (case k3 => k_asm); (case k4 => k_asm); (case k5 => k_asm); (case k6 => k_is); (case k7 => k_is); (case k8 => ktr_room); (case k9 => first | exact BindsTo.of_eq rfl | exact binds_K (by k_in) rfl (by k_is) rfl rfl rfl | fail "k_enter: no rule for these arguments"); (case c5 => decide); (case kB => exact locs rfl); (case c2 => exact rfl); (case c3 => exact rfl); (case c4 => exact rfl); k_whole; intro g' L' h' FG' F' N' B' X' T'; (try dsimp only); (try k_lift B'); (try k_fold))
  | (refine' code_defC ?k1 ?k2 ?k3 ?k4 ?k5 ?kA ?kF ?kK ?k6 ?k7 ?k8 ?k9 ?kB ?kD ?_ ?c2 ?c3 ?c4; (case kA => exact rfl); (case kF => exact rfl); (case kK => first | exact rfl | assumption); (case k1 => k_asm); (case k2 => k_asm); (case k3 => k_asm); (case k4 => k_asm); (case k5 => k_asm); (case k6 => k_is); (case k7 => k_is); (case k8 => ktr_room); (case k9 => first | exact BindsTo.of_eq rfl | exact binds_K (by k_in) rfl (by k_is) rfl rfl rfl | fail "k_enter: no rule for these arguments"); (case kB => exact rfl); (case kD => decide +kernel); (case c2 => exact rfl); (case c3 => exact rfl); (case c4 => exact rfl); k_whole; intro g' L' h' tk' cells' FG' F' N' Y' B' X' T' l1; (try k_lt l1); k_cells Y'; (try simp only [List.cons_append, List.nil_append] at N'); (try dsimp only); (try k_lift B'); (try k_fold)))
local macro_rules | `(tactic| walk) => `(tactic| ((try dsimp only); repeat (first | (k_unfold; (try dsimp only)) | ((fail_if_success (with_reducible refine ite_neg ?_ ?_)); (fail_if_success (with_reducible show UnrPost _ _ _ _ _ _ _ _ _)); walk1) | ((fail_if_success (with_reducible refine ite_neg ?_ ?_)); (fail_if_success (with_reducible show UnrPost _ _ _ _ _ _ _ _ _)); dsimp only; walk1))))
local macro_rules | `(tactic| k_units) => `(tactic| ktr_units)
local macro_rules | `(tactic| k_all) => `(tactic| ((refine' List.forall_mem_append.mpr ⟨?a9, ?b9⟩); (case a9 => k_all); (case b9 => k_all)))
local macro_rules | `(tactic| walk_at "no such key") => `(tactic| fail "none")
namespace Mine
section
variable {prog : Program} {w : World} {A : Around} {s : Shared} {K : Frag}
/-- a call of a plain def from any place: what stood stays -/
theorem code_quiet {R : Result → Shared → Prop} {name qual : Str} {params : Arguments} {body : List Stmt} {scope : Scope} {dV kV doc pm cdv ct oc : Value} {an od : Option Addr} {osl : Array (Option Value)} {f : Addr} {args : Args} {binds : List (Str × Value)}
    (X : K.In s.heap) (hlim : s.heap.NoLimit)
    (ho : K.lookup f = some ⟨oc, od, .func (fnOf name qual params body scope dV kV doc pm an cdv ct), osl⟩) (hcd : codeIn K cdv qual = true) (hroom : A.depth < recursionLimit)
    (hbind : BindsTo s (fnOf name qual params body scope dV kV doc pm an cdv ct) args binds) (hloc : ∀ y ∈ binds, scope.names.lookup y.1 = some .local)
    (h : ∀ L' h₁, Fr s.heap L' h₁ (fun y => binds.reverse.lookup y) → News s.heap L' h₁ [] →
      wpAny (model prog w) (A.deeper (envOf qual scope L' f cdv)) (execs body (envOf qual scope L' f cdv)) (fun fl s' => R (.ok (.ret (match fl with | .ret v => v | _ => .none))) s')
        (fun e s' => wpAny (model prog w) (A.deeper (envOf qual scope L' f cdv)) (leaving (envOf qual scope L' f cdv) e) (fun _ s'' => R (.error e) s'') (fun e' s'' => R (.error e') s'') s')
        { s with heap := h₁, toks := s.toks + binds.length })
    (hco : scope.isCoroutine = false) (hgen : scope.isGenerator = false) (hk : scope.kind = .function)
    (hcell : ∀ x ∈ scope.names, x.2 ≠ .cell) : codeAny (model prog w) A (.call (.ref f) args) R s :=
  codeAny_call_def (fd := fnOf name qual params body scope dV kV doc pm an cdv ct) (body := body) (binds := binds) hroom (X _ _ ho) rfl hlim (codeRec_of X hcd) rfl hbind hcell hloc
    (fun h₁ hns hk₁ => h _ h₁ ⟨hns, hk₁, Nat.le_refl _⟩ .nil) hco hgen hk
end
theorem cnb_quiet {w : World} {A : Around} {s : Shared} {Q E : Value → Shared → Prop} {i k : Int} {ti tk tq : Tok} (hroom : A.depth < recursionLimit) (X : (hd.heap_39 w.params).In s.heap) (hlim : s.heap.NoLimit)
    (ret : ∀ h' tk', (∀ b o, s.heap.get? b = some o → h'.get? b = some o) → Q (.bool (decide (k ≤ cen i))) { s with heap := h', toks := tk' }) :
    wpAny (model PySem.Challenge.rw_ix0026_01.row.prog w) A (call (.ref 56) [.int i ti, .int k tk, .int 8380417 tq]) Q E s := by
  refine wpAny_call ?_
  refine' code_quiet X hlim ?k6 ?k7 hroom ?k9 ?kB ?_ ?c2 ?c3 ?c4 ?c5
  case k6 => k_is
  case k7 => k_is
  case k9 => exact BindsTo.of_eq rfl
  case kB => exact locs rfl
  case c2 => exact rfl
  case c3 => exact rfl
  case c4 => exact rfl
  case c5 => decide
  intro L' h' F' N'
  w_strict walk
  show Q (.bool _) _
  rw [cen_eq]
  exact ret _ _ (Fr.keep (by assumption))
theorem nameG {M : Model} {A : Around} {E : Value → Shared → Prop} {s : Shared} {K : Frag} {h₀ : Heap} {mg mb : Str → Option Value} {p : Program} {loose : List Str} {cenv : Env}
    {x : Str} {pos : Pos} {v : Value} {Q : Value → Shared → Prop} (hk : ∀ b o, h₀.get? b = some o → s.heap.get? b = some o) (X : K.In h₀) (T : TopRead p loose mg mb h₀) (e : nsIn K mainGlobals x = some (some v)) (h : Q v s)
    (hg : cenv.globals = mainGlobals) (hf : cenv.scope.kind = .function) (hx : cenv.kindOf x = some .globalImplicit) (hd : (x == ("__debug__" : Str)) = false := by decide) :
    wpAny M A (eval (.Name x pos) cenv) Q E s := Calls.Name_function_global hf hx (Calls.loadGlobal_global (env := cenv) (by rw [hg]; exact T.g.keeps hk) (mg_of X T.g e) h) hd
theorem nameF {M : Model} {A : Around} {E : Value → Shared → Prop} {s : Shared} {h₀ : Heap} {L c : Addr} {news : List (Addr × Obj)} {o : Obj} {cenv : Env}
    {x : Str} {pos : Pos} {v : Value} {Q : Value → Shared → Prop} (N : News h₀ L s.heap news) (hm : (c, o) ∈ news) (hd : o.data = .cell (some v)) (h : Q v s)
    (hf : cenv.scope.kind = .function) (hx : cenv.kindOf x = some .free) (hc : cenv.cells.lookup x = some c) (hb : (x == ("__debug__" : Str)) = false := by decide) (hn : (x == ("__classdict__" : Str)) = false := by decide) :
    wpAny M A (eval (.Name x pos) cenv) Q E s := wpAny_Name (wpAny_loadName_free hf hx hc ⟨o, N.get hm, hd⟩ h hn) hb
theorem any_getD (ns : List Int) (q : Int → Bool) : (List.range ns.length).any (fun i => q (ns.getD i 0)) = ns.any q := by
  have e : (List.range ns.length).map (fun i => ns.getD i 0) = ns := by
    apply List.ext_getElem
    · simp
    · intro i h1 h2
      simp only [List.getElem_map, List.getElem_range, List.getD_eq_getElem?_getD, List.getElem?_eq_getElem h2, Option.getD_some]
  conv => rhs; rw [← e, List.any_map]
  rfl
theorem chk_call {pv : Program} {w : World} {loose : List Str} {mean : ExcName → Option Value} {mg mb : Str → Option Value} {dp un : Nat} {gd : Option (List Code)} {cn : Str} {cs : Scope} {a0 : Addr} {ccd : Value} {cl : List (Str × Addr)} {outer : List Env} {A₀ : Around} {base h₀ : Heap} {L : Addr} {m : Str → Option Value} {s : Shared}
    {Q E : Value → Shared → Prop} {C y e D x d a b : Addr} {t1 t2 t3 t4 t5 t6 t7 t8 t9 ta tb : Tok} {vs : List Value} {ns : List Int} {nn : Nat} {rest : List (Addr × Obj)}
    (B : Below A₀ base outer h₀) (F : Fr h₀ L s.heap m) (X : (hd.heap_39 w.params).In h₀) (T : Top pv loose mean mg mb h₀) (hk : cs.kind = .function)
    {k : Int} {tn : Tok} {pa : Array Value} (N : News h₀ L s.heap ((485, tabObj pa) :: (C, { cls := .type "list", data := .seq vs.toArray nn }) :: (y, instObj 559 e) :: (e, dictOf [⟨PyData.keyHash w.params (Str.ofString "parent"), .str (Str.ofString "parent") ta, .ref x⟩, ⟨PyData.keyHash w.params (Str.ofString "coeffs"), .str (Str.ofString "coeffs") tb, .ref C⟩] 2) :: ringLed w.params D x d a b t1 t2 t3 t4 t5 t6 t7 t8 t9 rest)) (I : IntsAre vs ns) (hlen : ns.length = 256) (hd : dp + 15 < recursionLimit)
    (hnt : NotTabs rest) (CD : CodeHd h₀ 489 485) (hG : AllBare s.gens) (ht : TriplesOk pa.toList)
    (ret : ∀ (s' : Shared) (pc : Array Value), Fr h₀ L s'.heap m → News h₀ L s'.heap ((485, tabObj pc) :: (C, { cls := .type "list", data := .seq vs.toArray nn }) :: (y, instObj 559 e) :: (e, dictOf [⟨PyData.keyHash w.params (Str.ofString "parent"), .str (Str.ofString "parent") ta, .ref x⟩, ⟨PyData.keyHash w.params (Str.ofString "coeffs"), .str (Str.ofString "coeffs") tb, .ref C⟩] 2) :: ringLed w.params D x d a b t1 t2 t3 t4 t5 t6 t7 t8 t9 rest) → TriplesOk pc.toList → AllBare s'.gens → s'.os = s.os → Q (.bool (ns.any fun c => decide (k ≤ cen c))) s') :
    wpAny (model PySem.Challenge.rw_ix0026_01.row.prog w) (ktrTop dp un gd cn cs L a0 ccd cl outer) (call (.ref 490) [.ref y, .int k tn]) Q E s := by
  dsimp only [ringLed] at N
  w_strict walk
  (try dsimp only)
  rename Fr h₀ _ _ _ => FG
  rename Top _ _ _ _ _ _ => T1
  rename Fr _ _ _ _ => Fi
  rename Frag.In _ _ => X1
  refine gen_led Fi T1 (CD.keeps FG.keep) rfl rfl rfl rfl (by rfl) (by decide) (by decide) (by decide) rfl ?room ?src (fun _ => rfl)
  case room => ktr_room
  w_strict walk
  rename Fr _ _ _ _ => Fi
  rename News _ _ _ _ => Ni
  rename_i g9 L9 h9 tk9 B9 l9 oB oA dB dA
  have hnt2 : NotTabs ((L9 + 1 + 1, oB) :: (L9 + 1, oA) :: (C, { cls := .type "list", data := .seq vs.toArray nn }) :: (y, instObj 559 e) :: (e, dictOf [⟨PyData.keyHash w.params (Str.ofString "parent"), .str (Str.ofString "parent") ta, .ref x⟩, ⟨PyData.keyHash w.params (Str.ofString "coeffs"), .str (Str.ofString "coeffs") tb, .ref C⟩] 2) :: (x, instObj 427 d) :: (d, dictOf [⟨PyData.keyHash w.params (Str.ofString "q"), .str (Str.ofString "q") t1, .int 8380417 t2⟩, ⟨PyData.keyHash w.params (Str.ofString "n"), .str (Str.ofString "n") t3, .int 256 t4⟩, ⟨PyData.keyHash w.params (Str.ofString "shake128"), .str (Str.ofString "shake128") t5, .ref a⟩, ⟨PyData.keyHash w.params (Str.ofString "shake256"), .str (Str.ofString "shake256") t6, .ref b⟩, ⟨PyData.keyHash w.params (Str.ofString "ntt_zetas"), .str (Str.ofString "ntt_zetas") t7, .ref D⟩, ⟨PyData.keyHash w.params (Str.ofString "ntt_f"), .str (Str.ofString "ntt_f") t8, .int 8347681 t9⟩] 6) :: rest) := by
    refine ⟨?_, ?_, ?_, ?_, ?_, ?_, ?_, hnt⟩
    · intro ps h; have h1 : oB = tabObj ps := h; rw [h1] at dB; cases dB
    · intro ps h; have h1 : oA = tabObj ps := h; rw [h1] at dA; cases dA
    all_goals (intro ps h; cases h)
  have hn1 := ne_tabs Ni (P := 485) (ps := pa) (by k_mem) _ (by (repeat (first | exact List.forall_mem_nil _ | (refine List.forall_mem_cons.mpr ⟨by k_mem, ?_⟩) | (intro p hp; repeat (first | exact hp | exact List.mem_append_left _ hp | refine List.mem_cons_of_mem _ ?_))))) hnt2
  refine ⟨C, vs.toArray, (L9 + 1 + 1, oB) :: (L9 + 1, oA) :: (C, { cls := .type "list", data := .seq vs.toArray nn }) :: (y, instObj 559 e) :: (e, dictOf [⟨PyData.keyHash w.params (Str.ofString "parent"), .str (Str.ofString "parent") ta, .ref x⟩, ⟨PyData.keyHash w.params (Str.ofString "coeffs"), .str (Str.ofString "coeffs") tb, .ref C⟩] 2) :: (x, instObj 427 d) :: (d, dictOf [⟨PyData.keyHash w.params (Str.ofString "q"), .str (Str.ofString "q") t1, .int 8380417 t2⟩, ⟨PyData.keyHash w.params (Str.ofString "n"), .str (Str.ofString "n") t3, .int 256 t4⟩, ⟨PyData.keyHash w.params (Str.ofString "shake128"), .str (Str.ofString "shake128") t5, .ref a⟩, ⟨PyData.keyHash w.params (Str.ofString "shake256"), .str (Str.ofString "shake256") t6, .ref b⟩, ⟨PyData.keyHash w.params (Str.ofString "ntt_zetas"), .str (Str.ofString "ntt_zetas") t7, .ref D⟩, ⟨PyData.keyHash w.params (Str.ofString "ntt_f"), .str (Str.ofString "ntt_f") t8, .int 8347681 t9⟩] 6) :: rest, pa, fun i v => v = .bool (decide (k ≤ cen (ns.getD i 0))), rfl, (by is_list), Fi, cb_drop Ni (by (repeat (first | exact List.forall_mem_nil _ | (refine List.forall_mem_cons.mpr ⟨by k_mem, ?_⟩) | (intro p hp; repeat (first | exact hp | exact List.mem_append_left _ hp | refine List.mem_cons_of_mem _ ?_))))), ht, (by assumption), hn1, ?elt, ?fin⟩
  case elt =>
    intro code Cc A' E' i v t m₂ hh hdp hun hi F2 hm hLC N2
    obtain ⟨tv, rfl⟩ := IntsAre.int_at I i v (by simpa using hi)
    clear Ni
    w_strict (iterate 1 (first | (k_unfold; (try dsimp only)) | walk1 | (dsimp only; walk1) | (leave1; (try dsimp only))))
    refine nameG F2.keep X1 (topRead_of T1) (by k_is) ?_ rfl rfl rfl
    w_strict (iterate 2 (first | (k_unfold; (try dsimp only)) | walk1 | (dsimp only; walk1) | (leave1; (try dsimp only))))
    refine ldG F2.ns hm ?_
    w_strict (iterate 1 (first | (k_unfold; (try dsimp only)) | walk1 | (dsimp only; walk1) | (leave1; (try dsimp only))))
    refine nameF (c := L9 + 1 + 1) N2 (by k_mem) dB ?_ rfl rfl rfl
    w_strict (iterate 3 (first | (k_unfold; (try dsimp only)) | walk1 | (dsimp only; walk1) | (leave1; (try dsimp only))))
    refine nameF (c := L9 + 1) N2 (by k_mem) dA ?_ rfl rfl rfl
    w_strict (iterate 4 (first | (k_unfold; (try dsimp only)) | walk1 | (dsimp only; walk1) | (leave1; (try dsimp only))))
    refine cnb_quiet ?hroom (X1.keeps F2.keep) (T1.nolimit.keeps F2.keep) (fun h' tk' hk' => ⟨rfl, h', tk', rfl, hk'⟩)
    case hroom =>
      clear dA dB hm hi F2 N2 Fi ret N l9
      ktr_room
  case fin =>
    intro ag K s5 ps5 F5 N5 ht5 G5 ho5 hLK hK5 X5
    w_strict (iterate 1 (first | (k_unfold; (try dsimp only)) | walk1 | (dsimp only; walk1) | (leave1; (try dsimp only))))
    refine any_led F5 N5 G5 X5 hLK hK5 (fun i v _ h => h) fun s6 F6 N6 G6 ho6 => ?_
    w_strict walk
    rename Fr h₀ _ _ _ => Fe
    rename News h₀ _ _ _ => Ne
    have e1 : vs.toArray.size = ns.length := by rw [List.size_toArray]; exact IntsAre.length I
    rw [e1, show (List.range ns.length).any (fun i => decide (k ≤ cen (ns.getD i 0))) = ns.any (fun c => decide (k ≤ cen c)) from any_getD ns (fun c => decide (k ≤ cen c))]
    exact ret s6 ps5 Fe (cb_drop Ne (by (repeat (first | exact List.forall_mem_nil _ | (refine List.forall_mem_cons.mpr ⟨by k_mem, ?_⟩) | (intro p hp; repeat (first | exact hp | exact List.mem_append_left _ hp | refine List.mem_cons_of_mem _ ?_)))))) ht5 G6 (ho6.trans ho5)
end Mine
end
noncomputable section
open PySem PySem.W PyProof.Rows PySem.Spec PySem.Calls
set_option Elab.async false
set_option maxRecDepth 100000
set_option maxHeartbeats 4000000
local macro_rules | `(tactic| k_room) => `(tactic| ktr_room)
local macro_rules | `(tactic| k_enter) => `(tactic| first
  | (refine' code_def ?k1 ?k2 ?k3 ?k4 ?k5 ?kA ?kF ?kK ?k6 ?k7 ?k8 ?k9 ?kB ?_ ?c2 ?c3 ?c4 ?c5; (case kA => exact rfl); (case kF => exact rfl); (case kK => first | exact rfl | assumption); (case k1 => k_asm); (case k2 => k_asm); (case k3 => k_asm); (case k4 => k_asm); (case k5 => k_asm); (case k6 => k_is); (case k7 => k_is); (case k8 => ktr_room); (case k9 => first | exact BindsTo.of_eq rfl | exact binds_K (by k_in) rfl (by k_is) rfl rfl rfl | fail "k_enter: no rule for these arguments"); (case c5 => decide); (case kB => exact locs rfl); (case c2 => exact rfl); (case c3 => exact rfl); (case c4 => exact rfl); k_whole; intro g' L' h' FG' F' N' B' X' T'; (try dsimp only); (try k_lift B'); (try k_fold))
  | (refine' code_defC ?k1 ?k2 ?k3 ?k4 ?k5 ?kA ?kF ?kK ?k6 ?k7 ?k8 ?k9 ?kB ?kD ?_ ?c2 ?c3 ?c4; (case kA => exact rfl); (case kF => exact rfl); (case kK => first | exact rfl | assumption); (case k1 => k_asm); (case k2 => k_asm); (case k3 => k_asm); (case k4 => k_asm); (case k5 => k_asm); (case k6 => k_is); (case k7 => k_is); (case k8 => ktr_room); (case k9 => first | exact BindsTo.of_eq rfl | exact binds_K (by k_in) rfl (by k_is) rfl rfl rfl | fail "k_enter: no rule for these arguments"); (case kB => exact rfl); (case kD => decide +kernel); (case c2 => exact rfl); (case c3 => exact rfl); (case c4 => exact rfl); k_whole; intro g' L' h' tk' cells' FG' F' N' Y' B' X' T' l1; (try k_lt l1); k_cells Y'; (try simp only [List.cons_append, List.nil_append] at N'); (try dsimp only); (try k_lift B'); (try k_fold)))
local macro_rules | `(tactic| walk) => `(tactic| ((try dsimp only); repeat (first | (k_unfold; (try dsimp only)) | ((fail_if_success (with_reducible refine ite_neg ?_ ?_)); (fail_if_success (with_reducible show UnrPost _ _ _ _ _ _ _ _ _)); walk1) | ((fail_if_success (with_reducible refine ite_neg ?_ ?_)); (fail_if_success (with_reducible show UnrPost _ _ _ _ _ _ _ _ _)); dsimp only; walk1))))
local macro_rules | `(tactic| k_units) => `(tactic| ktr_units)
local macro_rules | `(tactic| walk_at "no such key") => `(tactic| fail "none")
local macro_rules | `(tactic| walk_at "no such key") => `(tactic| fail "none")
namespace Mine
theorem fm (x : Int) {n : Int} (h : 0 < n) : x.fmod n = x % n := Int.fmod_eq_emod_of_nonneg _ (by omega)
theorem fd (x : Int) {n : Int} (h : 0 < n) : x.fdiv n = x / n := Int.fdiv_eq_ediv_of_nonneg _ (by omega)
theorem parts_hi {i k : Int} (hk : k = 190464 ∨ k = 523776) (hb : (8380417 - 1 : Int) - k.fdiv 2 < i.fmod 8380417) :
    (decomp i k 8380417).1 = 0 ∧ (decomp i k 8380417).2 = i.fmod 8380417 - 8380417 := by
  have f1 := fm i (n := 8380417) (by decide)
  have b0 := Int.emod_nonneg i (show (8380417 : Int) ≠ 0 by decide)
  have b1 := Int.emod_lt_of_pos i (show (0 : Int) < 8380417 by decide)
  rw [f1] at hb
  unfold decomp redpm
  rw [f1]
  generalize i % 8380417 = r at *
  rcases hk with rfl | rfl
  · rw [fd _ (by decide)] at hb
    have g : r.fmod 190464 = r - 43 * 190464 ∨ r = 8380416 := by rw [fm _ (by decide)]; omega
    rcases g with g | rfl
    · rw [g, if_pos (by omega)]
      constructor
      · rw [if_pos (by omega)]
      · rw [if_pos (by omega)]; omega
    · decide
  · rw [fd _ (by decide)] at hb
    have g : r.fmod 523776 = r - 15 * 523776 ∨ r = 8380416 := by rw [fm _ (by decide)]; omega
    rcases g with g | rfl
    · rw [g, if_pos (by omega)]
      constructor
      · rw [if_pos (by omega)]
      · rw [if_pos (by omega)]; omega
    · decide
theorem parts_lo {i k : Int} (hk : k = 190464 ∨ k = 523776) (hb : ¬ (8380417 - 1 : Int) - k.fdiv 2 < i.fmod 8380417) :
    (decomp i k 8380417).1 = (i.fmod 8380417 + k.fdiv 2 - 1).fdiv k ∧ (decomp i k 8380417).2 = i.fmod 8380417 - (i.fmod 8380417 + k.fdiv 2 - 1).fdiv k * k := by
  have f1 := fm i (n := 8380417) (by decide)
  have b0 := Int.emod_nonneg i (show (8380417 : Int) ≠ 0 by decide)
  have b1 := Int.emod_lt_of_pos i (show (0 : Int) < 8380417 by decide)
  rw [f1] at hb
  unfold decomp redpm
  rw [f1]
  generalize i % 8380417 = r at *
  rcases hk with rfl | rfl
  · rw [fd 190464 (by decide)] at hb ⊢
    rw [fm r (by decide), fd (r + 190464 / 2 - 1) (by decide)]
    by_cases hc : (190464 : Int) / 2 < r % 190464
    · rw [if_pos hc, if_neg (by omega), fd _ (by decide)]
      constructor <;> dsimp only <;> omega
    · rw [if_neg hc, if_neg (by omega), fd _ (by decide)]
      constructor <;> dsimp only <;> omega
  · rw [fd 523776 (by decide)] at hb ⊢
    rw [fm r (by decide), fd (r + 523776 / 2 - 1) (by decide)]
    by_cases hc : (523776 : Int) / 2 < r % 523776
    · rw [if_pos hc, if_neg (by omega), fd _ (by decide)]
      constructor <;> dsimp only <;> omega
    · rw [if_neg hc, if_neg (by omega), fd _ (by decide)]
      constructor <;> dsimp only <;> omega
theorem hal_call {pv : Program} {w : World} {loose : List Str} {mean : ExcName → Option Value} {mg mb : Str → Option Value} {dp un : Nat} {gd : Option (List Code)} {cn : Str} {cs : Scope} {a : Addr} {ccd : Value} {cl : List (Str × Addr)} {outer : List Env} {A₀ : Around} {base h₀ : Heap} {L : Addr} {m : Str → Option Value} {news : List (Addr × Obj)} {s : Shared}
    {Q E : Value → Shared → Prop} {i : Int} {ti tk : Tok}
    (B : Below A₀ base outer h₀) (F : Fr h₀ L s.heap m) (X : (hd.heap_39 w.params).In h₀) (N : News h₀ L s.heap news) (T : Top pv loose mean mg mb h₀) (hk : cs.kind = .function)
    {k : Nat} (hk1 : 1 ≤ k) (hk20 : k ≤ 20) (hd : dp + 3 < recursionLimit)
    (ret : ∀ (D : Addr) (t1 t2 : Tok) (h' : Heap) (tk' : Nat), Fr h₀ L h' m → News h₀ L h' ((D, { cls := .type "tuple", data := .seq #[.int (high2 k i) t1, .int (low2 k i) t2] }) :: news) → (∀ p ∈ news, p.1 < D) → Q (.ref D) { s with heap := h', toks := tk' }) :
    wpAny (model PySem.Challenge.rw_ix0026_01.row.prog w) (ktrTop dp un gd cn cs L a ccd cl outer) (call (.ref 639) [.int i ti, .int (k : Int) tk]) Q E s := by
  w_strict walk
  have hp : (0 : Int) < 2 ^ (k : Int).toNat := Int.pow_pos (by decide)
  obtain ⟨h, eh⟩ : ∃ h : Int, (2 : Int) ^ (k : Int).toNat = 2 * h := ⟨2 ^ (k - 1), by
    rw [Int.toNat_natCast, show k = (k - 1) + 1 by omega, Int.pow_succ, Int.mul_comm]; rfl⟩
  by_cases hb : (2 : Int) ^ (k : Int).toNat < 2 * (i.fmod 8380417).fmod (2 ^ (k : Int).toNat)
  · refine ite_pos (decide_eq_true hb) ?_
    w_strict walk
    rename Fr h₀ _ _ _ => Fe
    rename News h₀ _ _ _ => Ne
    have e2 : low2 k i = (i.fmod 8380417).fmod (2 ^ (k : Int).toNat) - 2 ^ (k : Int).toNat := by
      unfold low2 redpm
      rw [Int.one_mul, if_pos (by omega)]
    have e1 : high2 k i = (i.fmod 8380417 - ((i.fmod 8380417).fmod (2 ^ (k : Int).toNat) - 2 ^ (k : Int).toNat)).fdiv (2 ^ (k : Int).toNat) := by
      rw [← e2]; rfl
    rw [← e1, ← e2] at Ne
    exact ret _ _ _ _ _ Fe Ne (by assumption)
  · refine ite_neg (by simpa using hb) ?_
    w_strict walk
    rename Fr h₀ _ _ _ => Fe
    rename News h₀ _ _ _ => Ne
    have e2 : low2 k i = (i.fmod 8380417).fmod (2 ^ (k : Int).toNat) := by
      unfold low2 redpm
      rw [Int.one_mul, if_neg (by omega)]
    have e1 : high2 k i = (i.fmod 8380417 - (i.fmod 8380417).fmod (2 ^ (k : Int).toNat)).fdiv (2 ^ (k : Int).toNat) := by
      rw [← e2]; rfl
    rw [← e1, ← e2] at Ne
    exact ret _ _ _ _ _ Fe Ne (by assumption)
theorem par_call {pv : Program} {w : World} {loose : List Str} {mean : ExcName → Option Value} {mg mb : Str → Option Value} {dp un : Nat} {gd : Option (List Code)} {cn : Str} {cs : Scope} {a : Addr} {ccd : Value} {cl : List (Str × Addr)} {outer : List Env} {A₀ : Around} {base h₀ : Heap} {L : Addr} {m : Str → Option Value} {news : List (Addr × Obj)} {s : Shared}
    {Q E : Value → Shared → Prop} {i k : Int} {ti tk : Tok}
    (B : Below A₀ base outer h₀) (F : Fr h₀ L s.heap m) (X : (hd.heap_39 w.params).In h₀) (N : News h₀ L s.heap news) (T : Top pv loose mean mg mb h₀) (hk : cs.kind = .function)
    (hkk : k = 190464 ∨ k = 523776) (hd : dp + 3 < recursionLimit)
    (ret : ∀ (D : Addr) (t1 t2 : Tok) (h' : Heap) (tk' : Nat), Fr h₀ L h' m → News h₀ L h' ((D, { cls := .type "tuple", data := .seq #[.int (decomp i k 8380417).1 t1, .int (decomp i k 8380417).2 t2] }) :: news) → (∀ p ∈ news, p.1 < D) → Q (.ref D) { s with heap := h', toks := tk' }) :
    wpAny (model PySem.Challenge.rw_ix0026_01.row.prog w) (ktrTop dp un gd cn cs L a ccd cl outer) (call (.ref 646) [.int i ti, .int k tk]) Q E s := by
  have hk0 : 0 < k := by omega
  have hk1 : k < 16777216 := by omega
  have hkn : k ≠ 0 := by omega
  w_strict walk
  by_cases hb : (8380417 - 1 : Int) - k.fdiv 2 < i.fmod 8380417
  · refine ite_pos (decide_eq_true hb) ?_
    w_strict walk
    rename Fr h₀ _ _ _ => Fe
    rename News h₀ _ _ _ => Ne
    obtain ⟨e1, e2⟩ := parts_hi hkk hb
    rw [← e2] at Ne
    rw [show (0 : Int) = (decomp i k 8380417).1 from e1.symm] at Ne
    exact ret _ _ _ _ _ Fe Ne (by assumption)
  · refine ite_neg (by simpa using hb) ?_
    w_strict walk
    rename Fr h₀ _ _ _ => Fe
    rename News h₀ _ _ _ => Ne
    obtain ⟨e1, e2⟩ := parts_lo hkk hb
    rw [← e2, ← e1] at Ne
    exact ret _ _ _ _ _ Fe Ne (by assumption)
end Mine
end
noncomputable section
open PySem PySem.W PyProof.Rows PySem.Spec PySem.Calls
set_option Elab.async false
set_option maxRecDepth 100000
local macro_rules | `(tactic| walk_at "no such key") => `(tactic| fail "none")
local macro_rules | `(tactic| walk_at "no such key") => `(tactic| fail "none")
local macro_rules | `(tactic| walk_at "no such key") => `(tactic| fail "none")
namespace Mine
abbrev tup2 (p : Int × Int) (t1 t2 : Tok) : Obj := { cls := .type "tuple", data := .seq #[.int p.1 t1, .int p.2 t2] }
/-- the items of a list are pairs of ints that lie on a ledger -/
def TupsAre (T : List (Addr × Obj)) (ys : List Value) (ps : List (Int × Int)) : Prop :=
  ys.length = ps.length ∧ (∀ (i : Nat) (p : Int × Int), ps[i]? = some p → ∃ a t1 t2, ys[i]? = some (Value.ref a) ∧ (a, tup2 p t1 t2) ∈ T) ∧ ∀ q ∈ T, ∃ p t1 t2, q.2 = tup2 p t1 t2
theorem TupsAre.nil : TupsAre [] [] [] := ⟨rfl, fun i p h => by simp at h, fun q h => nomatch h⟩
theorem TupsAre.snoc {T : List (Addr × Obj)} {ys : List Value} {ps : List (Int × Int)} (h : TupsAre T ys ps) (a : Addr) (p : Int × Int) (t1 t2 : Tok) : TupsAre ((a, tup2 p t1 t2) :: T) (ys ++ [.ref a]) (ps ++ [p]) := by
  refine ⟨by simp [h.1], fun i q hq => ?_, fun q hq => ?_⟩
  · rcases Nat.lt_or_ge i ps.length with hi | hi
    · rw [List.getElem?_append_left hi] at hq
      obtain ⟨b, u1, u2, e, m⟩ := h.2.1 i q hq
      exact ⟨b, u1, u2, by rw [List.getElem?_append_left (by rw [h.1]; exact hi)]; exact e, List.mem_cons_of_mem _ m⟩
    · have hl : i < (ps ++ [p]).length := (List.getElem?_eq_some_iff.mp hq).1
      have e : i = ps.length := by simp at hl; omega
      subst e
      have : q = p := by simpa using hq.symm
      subst this
      exact ⟨a, t1, t2, by rw [← h.1]; simp, List.mem_cons_self ..⟩
  · rcases List.mem_cons.mp hq with rfl | hq
    · exact ⟨p, t1, t2, rfl⟩
    · exact h.2.2 q hq
section
variable {prog : Program} {w : World} {A : Around} {h₀ : Heap} {L : Addr} {m : Str → Option Value} {env : Env} {elt : PySem.Expr} {x : Str} {scope : Scope} {cl : List (Str × Addr)} {s : Shared} {S : List (Addr × Obj) → Prop} {Fin : List Value → List (Addr × Obj) → Prop} {news : List (Addr × Obj)}
/-- a comprehension over a list of ints, its element a new pair of ints -/
theorem comp_tups {vs : List Value} {ns : List Int} (g : Int → Int × Int) (hi : IntsAre vs ns)
    (turn : ∀ k t I oI C oC D m₂ ys tl h tk (E' : Value → Shared → Prop), k ∈ ns → LCg.NsObj oC m₂ → m₂ x = some (.int k t) → Fr h₀ L h m → News h₀ L h ((I, oI) :: (C, oC) :: (D, LCg.lst ys) :: (news ++ tl)) → LCg.Off3 I C D (news ++ tl) → ((@Ne Nat I C) ∧ (@Ne Nat I D) ∧ (@Ne Nat C D)) →
      wpAny (model prog w) A (eval elt (compEnvC scope cl C env)) (LCg.CompEnd h₀ L m { s with heap := h, toks := tk } I oI C oC D (LCg.lst ys) S (fun y news' => ∃ T t1 t2, y = .ref T ∧ news' = news ++ ((T, tup2 (g k) t1 t2) :: tl))) E' { s with heap := h, toks := tk })
    (fin : ∀ ys tl, TupsAre tl ys (ns.map g) → Fin ys (news ++ tl)) : LCg.CompRest prog w A h₀ L m env elt x scope cl s S (fun i v => vs.toArray[i]? = some v) Fin vs.toArray.size 0 [] news := by
  have hn : vs.toArray.size = ns.length := by rw [List.size_toArray]; exact hi.length
  rw [hn]
  have key : ∀ (j i : Nat) (ys : List Value) (tl : List (Addr × Obj)), i + j = ns.length → TupsAre tl ys ((ns.take i).map g) → LCg.CompRest prog w A h₀ L m env elt x scope cl s S (fun i v => vs.toArray[i]? = some v) Fin j i ys (news ++ tl) := by
    intro j
    induction j with
    | zero =>
      intro i ys tl hi' hy
      have e : i = ns.length := by omega
      subst e
      rw [List.take_length] at hy
      exact LCg.CompRest.zero (fin ys tl hy)
    | succ j ih =>
      intro i ys tl hi' hy
      refine LCg.CompRest.succ ?_
      intro v I oI C oC D m₂ h tk E' hv hC hx F N off ne
      obtain ⟨k, t, hv', hk⟩ := IntsAre.at hi i v (by simpa using hv)
      rw [hv'] at hx
      refine wpAny_mono (turn k t I oI C oC D m₂ ys tl h tk E' (List.mem_of_getElem? hk) hC hx F N off ne) (fun y s₂ hq => ?_) fun _ _ e => e
      obtain ⟨h', tk', nw, e, F', N', off', hS, T, t1, t2, hy', hn'⟩ := hq
      subst hn'
      refine ⟨h', tk', _, e, F', N', off', hS, ?_⟩
      rw [hy']
      refine ih (i + 1) _ _ (by omega) ?_
      rw [List.take_add_one, hk]
      simpa using hy.snoc T (g k) t1 t2
  have := key ns.length 0 [] [] (by omega) (by simpa using TupsAre.nil)
  simpa using this
/-- a comprehension over such a list, its element an int of the pair -/
theorem comp_ints {T : List (Addr × Obj)} {ys : List Value} {ps : List (Int × Int)} (g : Int × Int → Int) (hT : TupsAre T ys ps)
    (turn : ∀ p a u1 u2 I oI C oC D m₂ zs h tk (E' : Value → Shared → Prop), (a, tup2 p u1 u2) ∈ T → LCg.NsObj oC m₂ → m₂ x = some (.ref a) → Fr h₀ L h m → News h₀ L h ((I, oI) :: (C, oC) :: (D, LCg.lst zs) :: news) → LCg.Off3 I C D news → ((@Ne Nat I C) ∧ (@Ne Nat I D) ∧ (@Ne Nat C D)) →
      wpAny (model prog w) A (eval elt (compEnvC scope cl C env)) (LCg.CompEnd h₀ L m { s with heap := h, toks := tk } I oI C oC D (LCg.lst zs) S (fun y news' => KCfEl news (g p) y news')) E' { s with heap := h, toks := tk })
    (fin : ∀ zs, IntsAre zs (ps.map g) → Fin zs news) : LCg.CompRest prog w A h₀ L m env elt x scope cl s S (fun i v => ys.toArray[i]? = some v) Fin ys.toArray.size 0 [] news := by
  have hn : ys.toArray.size = ps.length := by rw [List.size_toArray]; exact hT.1
  rw [hn]
  have key : ∀ (j i : Nat) (zs : List Value), i + j = ps.length → IntsAre zs ((ps.take i).map g) → LCg.CompRest prog w A h₀ L m env elt x scope cl s S (fun i v => ys.toArray[i]? = some v) Fin j i zs news := by
    intro j
    induction j with
    | zero =>
      intro i zs hi' hy
      have e : i = ps.length := by omega
      subst e
      rw [List.take_length] at hy
      exact LCg.CompRest.zero (fin zs hy)
    | succ j ih =>
      intro i zs hi' hy
      refine LCg.CompRest.succ ?_
      intro v I oI C oC D m₂ h tk E' hv hC hx F N off ne
      have hp : ps[i]? = some (ps[i]'(by omega)) := List.getElem?_eq_getElem (by omega)
      obtain ⟨a, u1, u2, ha, hm⟩ := hT.2.1 i _ hp
      have hv' : v = .ref a := by
        have h1 : ys[i]? = some v := by simpa using hv
        rw [ha] at h1; exact (Option.some.inj h1).symm
      rw [hv'] at hx
      refine wpAny_mono (turn _ a u1 u2 I oI C oC D m₂ zs h tk E' hm hC hx F N off ne) (fun y s₂ hq => ?_) fun _ _ e => e
      obtain ⟨h', tk', nw, e, F', N', off', hS, hn', t', hy'⟩ := hq
      rw [hn'] at N' off' hS
      refine ⟨h', tk', news, e, F', N', off', hS, ?_⟩
      rw [hy']
      refine ih (i + 1) _ (by omega) ?_
      rw [List.take_add_one, hp, List.map_append]
      exact IntsAre.append hy (.cons (g _) t' .nil)
  exact key ps.length 0 [] (by omega) (by simp only [List.take_zero, List.map_nil]; exact .nil)
end
end Mine
end
noncomputable section
open PySem PySem.W PyProof.Rows PySem.Spec PySem.Calls
set_option Elab.async false
set_option maxRecDepth 100000
set_option maxHeartbeats 4000000
local macro_rules | `(tactic| k_room) => `(tactic| ktr_room)
local macro_rules | `(tactic| k_enter) => `(tactic| first
  | (refine' code_def ?k1 ?k2 ?k3 ?k4 ?k5 ?kA ?kF ?kK ?k6 ?k7 ?k8 ?k9 ?kB ?_ ?c2 ?c3 ?c4 ?c5; (case kA => exact rfl); (case kF => exact rfl); (case kK => first | exact rfl | assumption); (case k1 => k_asm); (case k2 => k_asm); (case k3 => k_asm); (case k4 => k_asm); (case k5 => k_asm); (case k6 => k_is); (case k7 => k_is); (case k8 => ktr_room); (case k9 => first | exact BindsTo.of_eq rfl | exact binds_K (by k_in) rfl (by k_is) rfl rfl rfl | fail "k_enter: no rule for these arguments"); (case c5 => decide); (case kB => exact locs rfl); (case c2 => exact rfl); (case c3 => exact rfl); (case c4 => exact rfl); k_whole; intro g' L' h' FG' F' N' B' X' T'; (try dsimp only); (try k_lift B'); (try k_fold))
  | (refine' code_defC ?k1 ?k2 ?k3 ?k4 ?k5 ?kA ?kF ?kK ?k6 ?k7 ?k8 ?k9 ?kB ?kD ?_ ?c2 ?c3 ?c4; (case kA => exact rfl); (case kF => exact rfl); (case kK => first | exact rfl | assumption); (case k1 => k_asm); (case k2 => k_asm); (case k3 => k_asm); (case k4 => k_asm); (case k5 => k_asm); (case k6 => k_is); (case k7 => k_is); (case k8 => ktr_room); (case k9 => first | exact BindsTo.of_eq rfl | exact binds_K (by k_in) rfl (by k_is) rfl rfl rfl | fail "k_enter: no rule for these arguments"); (case kB => exact rfl); (case kD => decide +kernel); (case c2 => exact rfl); (case c3 => exact rfl); (case c4 => exact rfl); k_whole; intro g' L' h' tk' cells' FG' F' N' Y' B' X' T' l1; (try k_lt l1); k_cells Y'; (try simp only [List.cons_append, List.nil_append] at N'); (try dsimp only); (try k_lift B'); (try k_fold)))
local macro_rules | `(tactic| walk) => `(tactic| ((try dsimp only); repeat (first | (k_unfold; (try dsimp only)) | ((fail_if_success (with_reducible refine ite_neg ?_ ?_)); (fail_if_success (with_reducible show UnrPost _ _ _ _ _ _ _ _ _)); walk1) | ((fail_if_success (with_reducible refine ite_neg ?_ ?_)); (fail_if_success (with_reducible show UnrPost _ _ _ _ _ _ _ _ _)); dsimp only; walk1))))
local macro_rules | `(tactic| k_units) => `(tactic| ktr_units)
local macro_rules | `(tactic| walk_at "call ref") => `(tactic| (k_here; k_dflt (refine' Mine.hal_call ?k1 ?k2 ?k3 ?k4 ?k5 ?kK ?k6 ?k7 ?kd ?_; (case k1 => k_asm); (case k2 => k_asm); (case k3 => k_asm); (case k4 => k_asm); (case k5 => k_asm); (case kK => first | exact rfl | assumption); (case k6 => first | assumption | omega); (case k7 => first | assumption | omega); (case kd => ktr_room)); intro T9 u9 v9 h9 tk9 F9 N9 l9; (try dsimp only); (try k_lt l9)))
local macro_rules | `(tactic| k_all) => `(tactic| ((refine' List.forall_mem_append.mpr ⟨?a9, ?b9⟩); (case a9 => k_all); (case b9 => k_all)))
local macro_rules | `(tactic| walk_at "no such key") => `(tactic| fail "none")
local macro_rules | `(tactic| walk_at "no such key") => `(tactic| fail "none")
local macro_rules | `(tactic| walk_at "no such key") => `(tactic| fail "none")
namespace Mine
/-- the law's statements, its names: read off the row -/
def stmtAt (p : Program) (k i : Nat) : Stmt := match p.main.body[k]? with
  | some (.FunctionDef _ _ b _ _ _ _ _ _ _) => (b[i]?).getD (.Pass default)
  | _ => .Pass default
def bodyFrom (p : Program) (k i : Nat) : List Stmt := match p.main.body[k]? with
  | some (.FunctionDef _ _ b _ _ _ _ _ _ _) => b.drop i
  | _ => []
def scopeAt (p : Program) (k : Nat) : Scope := match p.main.body[k]? with
  | some (.FunctionDef _ _ _ _ _ _ sc _ _ _) => sc
  | _ => default
def thenOf : Stmt → List Stmt
  | .If _ b _ _ => b
  | _ => []
abbrev lawEnv (L fa : Addr) (cd : Value) : Env := envOfC (Str.ofString "law") (scopeAt PySem.Challenge.rw_ix0026_01.row.prog 25) L fa cd
def m5 (L fa : Addr) (cd : Value) (l D0 C0 x y : Addr) (W S : Nat) (tW tS : Tok) : Str → Option Value := fun z => if z = Str.ofString "element" then some (.ref y) else if z = Str.ofString "ring" then some (.ref x) else
  if z = Str.ofString "coefficients" then some (.ref C0) else if z = Str.ofString "drawn" then some (.ref D0) else if z = Str.ofString "size" then some (.int (S : Int) tS) else if z = Str.ofString "which" then some (.int (W : Int) tW) else
  bindL (lawEnv L fa cd).kindOf [(Str.ofString "script", .ref l)] (fun _ => none) z
theorem even1 {pv : Program} {w : World} {loose : List Str} {mean : ExcName → Option Value} {mg mb : Str → Option Value} {h₀ : Heap} {L fa : Addr} {cd : Value} {s : Shared} {Q : Flow → Shared → Prop} {E : Value → Shared → Prop}
    {l C y e C0 D0 D x d a b : Addr} {tW tS t1 t2 t3 t4 t5 t6 t7 t8 t9 ta tb : Tok} {W S : Nat} {vs vs0 : List Value} {ns : List Int} {nn n0 : Nat} {o1 o2 : Obj} {pa : Array Value}
    (K0 : Below callerA h₀ [] h₀) (X : (hd.heap_39 w.params).In h₀) (T : Top pv loose mean mg mb h₀) (I : IntsAre vs ns) (I0 : IntsAre vs0 ns) (hlen : ns.length = 256)
    (F : Fr h₀ L s.heap (m5 L fa cd l D0 C0 x y W S tW tS)) (N : News h₀ L s.heap ((485, tabObj pa) :: (C, { cls := .type "list", data := .seq vs.toArray nn }) :: (y, instObj 559 e) :: (e, dictOf [⟨PyData.keyHash w.params (Str.ofString "parent"), .str (Str.ofString "parent") ta, .ref x⟩, ⟨PyData.keyHash w.params (Str.ofString "coeffs"), .str (Str.ofString "coeffs") tb, .ref C⟩] 2) :: (x, instObj 427 d) :: (d, dictOf [⟨PyData.keyHash w.params (Str.ofString "q"), .str (Str.ofString "q") t1, .int 8380417 t2⟩, ⟨PyData.keyHash w.params (Str.ofString "n"), .str (Str.ofString "n") t3, .int 256 t4⟩, ⟨PyData.keyHash w.params (Str.ofString "shake128"), .str (Str.ofString "shake128") t5, .ref a⟩, ⟨PyData.keyHash w.params (Str.ofString "shake256"), .str (Str.ofString "shake256") t6, .ref b⟩, ⟨PyData.keyHash w.params (Str.ofString "ntt_zetas"), .str (Str.ofString "ntt_zetas") t7, .ref D⟩, ⟨PyData.keyHash w.params (Str.ofString "ntt_f"), .str (Str.ofString "ntt_f") t8, .int 8347681 t9⟩] 6) :: (C0, { cls := .type "list", data := .seq vs0.toArray n0 }) :: (L + 1 + 1, o2) :: (L + 1, o1) :: [])) (d1 : o1.data = .cell none)
    (p1 : @Ne Nat 485 (L + 1) ∧ @Ne Nat C (L + 1) ∧ @Ne Nat y (L + 1) ∧ @Ne Nat e (L + 1) ∧ @Ne Nat x (L + 1) ∧ @Ne Nat d (L + 1) ∧ @Ne Nat C0 (L + 1)) (p2 : @Ne Nat 485 (L + 1 + 1) ∧ @Ne Nat C (L + 1 + 1) ∧ @Ne Nat y (L + 1 + 1) ∧ @Ne Nat e (L + 1 + 1) ∧ @Ne Nat x (L + 1 + 1) ∧ @Ne Nat d (L + 1 + 1) ∧ @Ne Nat C0 (L + 1 + 1))
    (ret : ∀ (k : Nat) (tk : Tok) (o1 : Obj) (Dd : Addr) (ysd : List Value) (tl : List (Addr × Obj)) (h' : Heap) (tk' : Nat), 1 ≤ k → k ≤ 20 → o1.data = .cell (some (.int (k : Int) tk)) → TupsAre tl ysd (ns.map fun c => (high2 k c, low2 k c)) →
      Fr h₀ L h' (fun z => if z = Str.ofString "due" then some (.ref Dd) else (m5 L fa cd l D0 C0 x y W S tW tS) z) → News h₀ L h' ((Dd, LCg.lst ysd) :: (485, tabObj pa) :: (C, { cls := .type "list", data := .seq vs.toArray nn }) :: (y, instObj 559 e) :: (e, dictOf [⟨PyData.keyHash w.params (Str.ofString "parent"), .str (Str.ofString "parent") ta, .ref x⟩, ⟨PyData.keyHash w.params (Str.ofString "coeffs"), .str (Str.ofString "coeffs") tb, .ref C⟩] 2) :: (x, instObj 427 d) :: (d, dictOf [⟨PyData.keyHash w.params (Str.ofString "q"), .str (Str.ofString "q") t1, .int 8380417 t2⟩, ⟨PyData.keyHash w.params (Str.ofString "n"), .str (Str.ofString "n") t3, .int 256 t4⟩, ⟨PyData.keyHash w.params (Str.ofString "shake128"), .str (Str.ofString "shake128") t5, .ref a⟩, ⟨PyData.keyHash w.params (Str.ofString "shake256"), .str (Str.ofString "shake256") t6, .ref b⟩, ⟨PyData.keyHash w.params (Str.ofString "ntt_zetas"), .str (Str.ofString "ntt_zetas") t7, .ref D⟩, ⟨PyData.keyHash w.params (Str.ofString "ntt_f"), .str (Str.ofString "ntt_f") t8, .int 8347681 t9⟩] 6) :: (C0, { cls := .type "list", data := .seq vs0.toArray n0 }) :: (L + 1 + 1, o2) :: (L + 1, o1) :: tl) → wpAny (model PySem.Challenge.rw_ix0026_01.row.prog w) (callerA.deeper (lawEnv L fa cd)) (execs ((thenOf (stmtAt PySem.Challenge.rw_ix0026_01.row.prog 25 6)).drop 2) (lawEnv L fa cd)) Q E { s with heap := h', toks := tk' }) :
    wpAny (model PySem.Challenge.rw_ix0026_01.row.prog w) (callerA.deeper (lawEnv L fa cd)) (execs (thenOf (stmtAt PySem.Challenge.rw_ix0026_01.row.prog 25 6)) (lawEnv L fa cd)) Q E s := by
  (conv => enter [3, 1]; whnf)
  obtain ⟨k, ek⟩ : ∃ k : Nat, 1 + (S : Int).fmod 20 = (k : Int) := ⟨1 + S % 20, by rw [fm _ (by decide)]; omega⟩
  have hk1 : 1 ≤ k := by rw [fm _ (by decide)] at ek; omega
  have hk20 : k ≤ 20 := by rw [fm _ (by decide)] at ek; omega
  w_strict (iterate 9 (first | (k_unfold; (try dsimp only)) | walk1 | (dsimp only; walk1) | (leave1; (try dsimp only))))
  rw [ek]
  w_strict (iterate 2 (first | (k_unfold; (try dsimp only)) | walk1 | (dsimp only; walk1) | (leave1; (try dsimp only))))
  rename Obj => oB
  rename oB.data = _ => dB
  refine LCg.Assign_ListComp_U (F₀ := by k_asm) (by rfl) (by with_unfolding_all rfl) (by with_unfolding_all rfl) (by decide) (by rfl) (by decide) (by rfl) (by rfl) (by rfl) ?_
  w_strict (iterate 1 (first | (k_unfold; (try dsimp only)) | walk1 | (dsimp only; walk1) | (leave1; (try dsimp only))))
  refine LCg.CompSrc.ledger (by rfl) (by k_asm) (by k_asm) (by k_mem) (show vs0.toArray.size ≤ sizeLine by rw [List.size_toArray, IntsAre.length I0, hlen]; exact Nat.le_of_ble_eq_true rfl) ?_
  intro g'
  refine comp_tups (fun c => (high2 k c, low2 k c)) I0 (fun k' t' I' oI' C' oC' D' m' ys' tl' h' tk' E' hk' hC' hx' F' N' off' ne' => ?_) (fun ysd tl hT => ?_)
  · have offA := off'
    simp only [LCg.Off3, List.cons_append, List.nil_append] at off'
    simp only [List.cons_append, List.nil_append] at N'
    w_strict walk
    rename Fr h₀ _ _ _ => Fe
    rename News h₀ _ _ _ => Ne
    rename_i T9 u9 v9 h9 tk9 l9
    refine' LCg.CompEnd.intro Fe Ne (((485, tabObj pa) :: (C, { cls := .type "list", data := .seq vs.toArray nn }) :: (y, instObj 559 e) :: (e, dictOf [⟨PyData.keyHash w.params (Str.ofString "parent"), .str (Str.ofString "parent") ta, .ref x⟩, ⟨PyData.keyHash w.params (Str.ofString "coeffs"), .str (Str.ofString "coeffs") tb, .ref C⟩] 2) :: (x, instObj 427 d) :: (d, dictOf [⟨PyData.keyHash w.params (Str.ofString "q"), .str (Str.ofString "q") t1, .int 8380417 t2⟩, ⟨PyData.keyHash w.params (Str.ofString "n"), .str (Str.ofString "n") t3, .int 256 t4⟩, ⟨PyData.keyHash w.params (Str.ofString "shake128"), .str (Str.ofString "shake128") t5, .ref a⟩, ⟨PyData.keyHash w.params (Str.ofString "shake256"), .str (Str.ofString "shake256") t6, .ref b⟩, ⟨PyData.keyHash w.params (Str.ofString "ntt_zetas"), .str (Str.ofString "ntt_zetas") t7, .ref D⟩, ⟨PyData.keyHash w.params (Str.ofString "ntt_f"), .str (Str.ofString "ntt_f") t8, .int 8347681 t9⟩] 6) :: (C0, { cls := .type "list", data := .seq vs0.toArray n0 }) :: (L + 1 + 1, o2) :: (L + 1, oB) :: []) ++ ((T9, tup2 (high2 k k', low2 k k') u9 v9) :: tl')) ?sub ?off ?src ?r
    case r => exact ⟨_, _, _, rfl, rfl⟩
    case sub =>
      simp only [List.cons_append, List.nil_append]
      (repeat (first | exact List.forall_mem_nil _ | (refine List.forall_mem_cons.mpr ⟨by k_mem, ?_⟩) | (intro p hp; repeat (first | exact hp | exact List.mem_append_left _ hp | refine List.mem_cons_of_mem _ ?_))))
    case off =>
      refine LCg.Off3.of (fun p hp => ?_)
      rcases List.mem_append.mp hp with hp | hp
      · exact offA.mem p (List.mem_append_left _ hp)
      · rcases List.mem_cons.mp hp with rfl | hp
        · exact ⟨neN (by dsimp only; omega), neN (by dsimp only; omega), neN (by dsimp only; omega)⟩
        · exact offA.mem p (List.mem_append_right _ hp)
    case src => exact Or.inr ⟨_, by k_mem, rfl, _, rfl⟩
  · unfold LCg.FinA
    intro Dd h' tk' F' N' o1'
    simp only [List.nil_append, List.cons_append] at N'
    with_unfolding_all exact ret k _ oB Dd ysd tl h' _ hk1 hk20 dB hT F' N'
end Mine
end
noncomputable section
open PySem PySem.W PyProof.Rows PySem.Spec PySem.Calls
set_option Elab.async false
set_option maxRecDepth 100000
set_option maxHeartbeats 4000000
local macro_rules | `(tactic| k_room) => `(tactic| ktr_room)
local macro_rules | `(tactic| k_enter) => `(tactic| first
  | (refine' code_def ?k1 ?k2 ?k3 ?k4 ?k5 ?kA ?kF ?kK ?k6 ?k7 ?k8 ?k9 ?kB ?_ ?c2 ?c3 ?c4 ?c5; (case kA => exact rfl); (case kF => exact rfl); (case kK => first | exact rfl | assumption); (case k1 => k_asm); (case k2 => k_asm); (case k3 => k_asm); (case k4 => k_asm); (case k5 => k_asm); (case k6 => k_is); (case k7 => k_is); (case k8 => ktr_room); (case k9 => first | exact BindsTo.of_eq rfl | exact binds_K (by k_in) rfl (by k_is) rfl rfl rfl | fail "k_enter: no rule for these arguments"); (case c5 => decide); (case kB => exact locs rfl); (case c2 => exact rfl); (case c3 => exact rfl); (case c4 => exact rfl); k_whole; intro g' L' h' FG' F' N' B' X' T'; (try dsimp only); (try k_lift B'); (try k_fold))
  | (refine' code_defC ?k1 ?k2 ?k3 ?k4 ?k5 ?kA ?kF ?kK ?k6 ?k7 ?k8 ?k9 ?kB ?kD ?_ ?c2 ?c3 ?c4; (case kA => exact rfl); (case kF => exact rfl); (case kK => first | exact rfl | assumption); (case k1 => k_asm); (case k2 => k_asm); (case k3 => k_asm); (case k4 => k_asm); (case k5 => k_asm); (case k6 => k_is); (case k7 => k_is); (case k8 => ktr_room); (case k9 => first | exact BindsTo.of_eq rfl | exact binds_K (by k_in) rfl (by k_is) rfl rfl rfl | fail "k_enter: no rule for these arguments"); (case kB => exact rfl); (case kD => decide +kernel); (case c2 => exact rfl); (case c3 => exact rfl); (case c4 => exact rfl); k_whole; intro g' L' h' tk' cells' FG' F' N' Y' B' X' T' l1; (try k_lt l1); k_cells Y'; (try simp only [List.cons_append, List.nil_append] at N'); (try dsimp only); (try k_lift B'); (try k_fold)))
local macro_rules | `(tactic| walk) => `(tactic| ((try dsimp only); repeat (first | (k_unfold; (try dsimp only)) | ((fail_if_success (with_reducible refine ite_neg ?_ ?_)); (fail_if_success (with_reducible show UnrPost _ _ _ _ _ _ _ _ _)); walk1) | ((fail_if_success (with_reducible refine ite_neg ?_ ?_)); (fail_if_success (with_reducible show UnrPost _ _ _ _ _ _ _ _ _)); dsimp only; walk1))))
local macro_rules | `(tactic| k_units) => `(tactic| ktr_units)
namespace Mine
theorem sub_mid {α : Type} {A B C : List α} : ∀ p ∈ A ++ C, p ∈ A ++ (B ++ C) := fun p hp => by
  rcases List.mem_append.mp hp with h | h
  · exact List.mem_append_left _ h
  · exact List.mem_append_right _ (List.mem_append_right _ h)
theorem p2r_callM {pv : Program} {w : World} {loose : List Str} {mean : ExcName → Option Value} {mg mb : Str → Option Value} {dp un : Nat} {gd : Option (List Code)} {cn : Str} {cs : Scope} {a0 : Addr} {ccd : Value} {cl : List (Str × Addr)} {outer : List Env} {A₀ : Around} {base h₀ : Heap} {L : Addr} {m : Str → Option Value} {s : Shared}
    {Q E : Value → Shared → Prop} {C y e D x d a b : Addr} {t1 t2 t3 t4 t5 t6 t7 t8 t9 ta tb : Tok} {vs : List Value} {ns : List Int} {nn : Nat} {news : List (Addr × Obj)}
    (B : Below A₀ base outer h₀) (F : Fr h₀ L s.heap m) (X : (hd.heap_39 w.params).In h₀) (T : Top pv loose mean mg mb h₀) (hk : cs.kind = .function)
    {k : Nat} {tn : Tok} (N : News h₀ L s.heap news) (mC : (C, ({ cls := .type "list", data := .seq vs.toArray nn } : Obj)) ∈ news) (my : (y, instObj 559 e) ∈ news) (me : (e, dictOf [⟨PyData.keyHash w.params (Str.ofString "parent"), .str (Str.ofString "parent") ta, .ref x⟩, ⟨PyData.keyHash w.params (Str.ofString "coeffs"), .str (Str.ofString "coeffs") tb, .ref C⟩] 2) ∈ news) (mx : (x, instObj 427 d) ∈ news) (md : (d, dictOf [⟨PyData.keyHash w.params (Str.ofString "q"), .str (Str.ofString "q") t1, .int 8380417 t2⟩, ⟨PyData.keyHash w.params (Str.ofString "n"), .str (Str.ofString "n") t3, .int 256 t4⟩, ⟨PyData.keyHash w.params (Str.ofString "shake128"), .str (Str.ofString "shake128") t5, .ref a⟩, ⟨PyData.keyHash w.params (Str.ofString "shake256"), .str (Str.ofString "shake256") t6, .ref b⟩, ⟨PyData.keyHash w.params (Str.ofString "ntt_zetas"), .str (Str.ofString "ntt_zetas") t7, .ref D⟩, ⟨PyData.keyHash w.params (Str.ofString "ntt_f"), .str (Str.ofString "ntt_f") t8, .int 8347681 t9⟩] 6) ∈ news) (I : IntsAre vs ns) (hlen : ns.length = 256) (hk1 : 1 ≤ k) (hk20 : k ≤ 20) (hd : dp + 15 < recursionLimit)
    (ret : ∀ (T y1 e1 R1 y0 e0 R0 : Addr) (ta1 tb1 ta0 tb0 : Tok) (v1 v0 : List Value) (c1 c0 : Nat) (h' : Heap) (tk' : Nat), Fr h₀ L h' m → News h₀ L h' ((T, { cls := .type "tuple", data := .seq #[.ref y1, .ref y0] }) :: (y1, instObj 559 e1) :: (e1, dictOf [⟨PyData.keyHash w.params (Str.ofString "parent"), .str (Str.ofString "parent") ta1, .ref x⟩, ⟨PyData.keyHash w.params (Str.ofString "coeffs"), .str (Str.ofString "coeffs") tb1, .ref R1⟩] 2) :: (R1, PySem.W.listOf v1.toArray c1) :: (y0, instObj 559 e0) :: (e0, dictOf [⟨PyData.keyHash w.params (Str.ofString "parent"), .str (Str.ofString "parent") ta0, .ref x⟩, ⟨PyData.keyHash w.params (Str.ofString "coeffs"), .str (Str.ofString "coeffs") tb0, .ref R0⟩] 2) :: (R0, PySem.W.listOf v0.toArray c0) :: news) →
      IntsAre v1 (ns.map (high2 k)) → IntsAre v0 (ns.map (low2 k)) → Q (.ref T) { s with heap := h', toks := tk' }) :
    wpAny (model PySem.Challenge.rw_ix0026_01.row.prog w) (ktrTop dp un gd cn cs L a0 ccd cl outer) (call (.ref 464) [.ref y, .int (k : Int) tn]) Q E s :=
  p2r_call (D := D) (a := a) (b := b) (rest := news) B F X T hk (cb_drop N (List.forall_mem_cons.mpr ⟨mC, List.forall_mem_cons.mpr ⟨my, List.forall_mem_cons.mpr ⟨me, List.forall_mem_cons.mpr ⟨mx, List.forall_mem_cons.mpr ⟨md, fun _ h => h⟩⟩⟩⟩⟩)) I hlen hk1 hk20 hd fun T y1 e1 R1 y0 e0 R0 ta1 tb1 ta0 tb0 v1 v0 c1 c0 h' tk' F' N' I1 I0 => ret T y1 e1 R1 y0 e0 R0 ta1 tb1 ta0 tb0 v1 v0 c1 c0 h' tk' F' (cb_drop N' (sub_mid (A := [_, _, _, _, _, _, _]) (B := [_, _, _, _, _]))) I1 I0
theorem decm_callM {pv : Program} {w : World} {loose : List Str} {mean : ExcName → Option Value} {mg mb : Str → Option Value} {dp un : Nat} {gd : Option (List Code)} {cn : Str} {cs : Scope} {a0 : Addr} {ccd : Value} {cl : List (Str × Addr)} {outer : List Env} {A₀ : Around} {base h₀ : Heap} {L : Addr} {m : Str → Option Value} {s : Shared}
    {Q E : Value → Shared → Prop} {C y e D x d a b : Addr} {t1 t2 t3 t4 t5 t6 t7 t8 t9 ta tb : Tok} {vs : List Value} {ns : List Int} {nn : Nat} {news : List (Addr × Obj)}
    (B : Below A₀ base outer h₀) (F : Fr h₀ L s.heap m) (X : (hd.heap_39 w.params).In h₀) (T : Top pv loose mean mg mb h₀) (hk : cs.kind = .function)
    {k : Int} {tn : Tok} (N : News h₀ L s.heap news) (mC : (C, ({ cls := .type "list", data := .seq vs.toArray nn } : Obj)) ∈ news) (my : (y, instObj 559 e) ∈ news) (me : (e, dictOf [⟨PyData.keyHash w.params (Str.ofString "parent"), .str (Str.ofString "parent") ta, .ref x⟩, ⟨PyData.keyHash w.params (Str.ofString "coeffs"), .str (Str.ofString "coeffs") tb, .ref C⟩] 2) ∈ news) (mx : (x, instObj 427 d) ∈ news) (md : (d, dictOf [⟨PyData.keyHash w.params (Str.ofString "q"), .str (Str.ofString "q") t1, .int 8380417 t2⟩, ⟨PyData.keyHash w.params (Str.ofString "n"), .str (Str.ofString "n") t3, .int 256 t4⟩, ⟨PyData.keyHash w.params (Str.ofString "shake128"), .str (Str.ofString "shake128") t5, .ref a⟩, ⟨PyData.keyHash w.params (Str.ofString "shake256"), .str (Str.ofString "shake256") t6, .ref b⟩, ⟨PyData.keyHash w.params (Str.ofString "ntt_zetas"), .str (Str.ofString "ntt_zetas") t7, .ref D⟩, ⟨PyData.keyHash w.params (Str.ofString "ntt_f"), .str (Str.ofString "ntt_f") t8, .int 8347681 t9⟩] 6) ∈ news) (I : IntsAre vs ns) (hlen : ns.length = 256) (hk1 : 0 < k) (hk20 : k < 16777216) (hd : dp + 15 < recursionLimit)
    (ret : ∀ (T y1 e1 R1 y0 e0 R0 : Addr) (ta1 tb1 ta0 tb0 : Tok) (v1 v0 : List Value) (c1 c0 : Nat) (h' : Heap) (tk' : Nat), Fr h₀ L h' m → News h₀ L h' ((T, { cls := .type "tuple", data := .seq #[.ref y1, .ref y0] }) :: (y1, instObj 559 e1) :: (e1, dictOf [⟨PyData.keyHash w.params (Str.ofString "parent"), .str (Str.ofString "parent") ta1, .ref x⟩, ⟨PyData.keyHash w.params (Str.ofString "coeffs"), .str (Str.ofString "coeffs") tb1, .ref R1⟩] 2) :: (R1, PySem.W.listOf v1.toArray c1) :: (y0, instObj 559 e0) :: (e0, dictOf [⟨PyData.keyHash w.params (Str.ofString "parent"), .str (Str.ofString "parent") ta0, .ref x⟩, ⟨PyData.keyHash w.params (Str.ofString "coeffs"), .str (Str.ofString "coeffs") tb0, .ref R0⟩] 2) :: (R0, PySem.W.listOf v0.toArray c0) :: news) →
      IntsAre v1 (ns.map fun c => (decomp c k 8380417).1) → IntsAre v0 (ns.map fun c => (decomp c k 8380417).2) → Q (.ref T) { s with heap := h', toks := tk' }) :
    wpAny (model PySem.Challenge.rw_ix0026_01.row.prog w) (ktrTop dp un gd cn cs L a0 ccd cl outer) (call (.ref 483) [.ref y, .int k tn]) Q E s :=
  decm_call (D := D) (a := a) (b := b) (rest := news) B F X T hk (cb_drop N (List.forall_mem_cons.mpr ⟨mC, List.forall_mem_cons.mpr ⟨my, List.forall_mem_cons.mpr ⟨me, List.forall_mem_cons.mpr ⟨mx, List.forall_mem_cons.mpr ⟨md, fun _ h => h⟩⟩⟩⟩⟩)) I hlen hk1 hk20 hd fun T y1 e1 R1 y0 e0 R0 ta1 tb1 ta0 tb0 v1 v0 c1 c0 h' tk' F' N' I1 I0 => ret T y1 e1 R1 y0 e0 R0 ta1 tb1 ta0 tb0 v1 v0 c1 c0 h' tk' F' (cb_drop N' (sub_mid (A := [_, _, _, _, _, _, _]) (B := [_, _, _, _, _]))) I1 I0
theorem hb_callM {pv : Program} {w : World} {loose : List Str} {mean : ExcName → Option Value} {mg mb : Str → Option Value} {dp un : Nat} {gd : Option (List Code)} {cn : Str} {cs : Scope} {a0 : Addr} {ccd : Value} {cl : List (Str × Addr)} {outer : List Env} {A₀ : Around} {base h₀ : Heap} {L : Addr} {m : Str → Option Value} {s : Shared}
    {Q E : Value → Shared → Prop} {C y e D x d a b : Addr} {t1 t2 t3 t4 t5 t6 t7 t8 t9 ta tb : Tok} {vs : List Value} {ns : List Int} {nn : Nat} {news : List (Addr × Obj)}
    (B : Below A₀ base outer h₀) (F : Fr h₀ L s.heap m) (X : (hd.heap_39 w.params).In h₀) (T : Top pv loose mean mg mb h₀) (hk : cs.kind = .function)
    {k : Int} {tn : Tok} (N : News h₀ L s.heap news) (mC : (C, ({ cls := .type "list", data := .seq vs.toArray nn } : Obj)) ∈ news) (my : (y, instObj 559 e) ∈ news) (me : (e, dictOf [⟨PyData.keyHash w.params (Str.ofString "parent"), .str (Str.ofString "parent") ta, .ref x⟩, ⟨PyData.keyHash w.params (Str.ofString "coeffs"), .str (Str.ofString "coeffs") tb, .ref C⟩] 2) ∈ news) (mx : (x, instObj 427 d) ∈ news) (md : (d, dictOf [⟨PyData.keyHash w.params (Str.ofString "q"), .str (Str.ofString "q") t1, .int 8380417 t2⟩, ⟨PyData.keyHash w.params (Str.ofString "n"), .str (Str.ofString "n") t3, .int 256 t4⟩, ⟨PyData.keyHash w.params (Str.ofString "shake128"), .str (Str.ofString "shake128") t5, .ref a⟩, ⟨PyData.keyHash w.params (Str.ofString "shake256"), .str (Str.ofString "shake256") t6, .ref b⟩, ⟨PyData.keyHash w.params (Str.ofString "ntt_zetas"), .str (Str.ofString "ntt_zetas") t7, .ref D⟩, ⟨PyData.keyHash w.params (Str.ofString "ntt_f"), .str (Str.ofString "ntt_f") t8, .int 8347681 t9⟩] 6) ∈ news) (I : IntsAre vs ns) (hlen : ns.length = 256) (hk1 : 0 < k) (hk20 : k < 16777216) (hd : dp + 15 < recursionLimit)
    (ret : ∀ (y1 e1 R1 : Addr) (ta1 tb1 : Tok) (v1 : List Value) (h' : Heap) (tk' : Nat), Fr h₀ L h' m → News h₀ L h' ((y1, instObj 559 e1) :: (e1, dictOf [⟨PyData.keyHash w.params (Str.ofString "parent"), .str (Str.ofString "parent") ta1, .ref x⟩, ⟨PyData.keyHash w.params (Str.ofString "coeffs"), .str (Str.ofString "coeffs") tb1, .ref R1⟩] 2) :: (R1, LCg.lst v1) :: news) →
      IntsAre v1 (ns.map fun c => (decomp c k 8380417).1) → Q (.ref y1) { s with heap := h', toks := tk' }) :
    wpAny (model PySem.Challenge.rw_ix0026_01.row.prog w) (ktrTop dp un gd cn cs L a0 ccd cl outer) (call (.ref 470) [.ref y, .int k tn]) Q E s :=
  hb_call (D := D) (a := a) (b := b) (rest := news) B F X T hk (cb_drop N (List.forall_mem_cons.mpr ⟨mC, List.forall_mem_cons.mpr ⟨my, List.forall_mem_cons.mpr ⟨me, List.forall_mem_cons.mpr ⟨mx, List.forall_mem_cons.mpr ⟨md, fun _ h => h⟩⟩⟩⟩⟩)) I hlen hk1 hk20 hd fun y1 e1 R1 ta1 tb1 v1 h' tk' F' N' I1 => ret y1 e1 R1 ta1 tb1 v1 h' tk' F' (cb_drop N' (sub_mid (A := [_, _, _]) (B := [_, _, _, _, _]))) I1
theorem lb_callM {pv : Program} {w : World} {loose : List Str} {mean : ExcName → Option Value} {mg mb : Str → Option Value} {dp un : Nat} {gd : Option (List Code)} {cn : Str} {cs : Scope} {a0 : Addr} {ccd : Value} {cl : List (Str × Addr)} {outer : List Env} {A₀ : Around} {base h₀ : Heap} {L : Addr} {m : Str → Option Value} {s : Shared}
    {Q E : Value → Shared → Prop} {C y e D x d a b : Addr} {t1 t2 t3 t4 t5 t6 t7 t8 t9 ta tb : Tok} {vs : List Value} {ns : List Int} {nn : Nat} {news : List (Addr × Obj)}
    (B : Below A₀ base outer h₀) (F : Fr h₀ L s.heap m) (X : (hd.heap_39 w.params).In h₀) (T : Top pv loose mean mg mb h₀) (hk : cs.kind = .function)
    {k : Int} {tn : Tok} (N : News h₀ L s.heap news) (mC : (C, ({ cls := .type "list", data := .seq vs.toArray nn } : Obj)) ∈ news) (my : (y, instObj 559 e) ∈ news) (me : (e, dictOf [⟨PyData.keyHash w.params (Str.ofString "parent"), .str (Str.ofString "parent") ta, .ref x⟩, ⟨PyData.keyHash w.params (Str.ofString "coeffs"), .str (Str.ofString "coeffs") tb, .ref C⟩] 2) ∈ news) (mx : (x, instObj 427 d) ∈ news) (md : (d, dictOf [⟨PyData.keyHash w.params (Str.ofString "q"), .str (Str.ofString "q") t1, .int 8380417 t2⟩, ⟨PyData.keyHash w.params (Str.ofString "n"), .str (Str.ofString "n") t3, .int 256 t4⟩, ⟨PyData.keyHash w.params (Str.ofString "shake128"), .str (Str.ofString "shake128") t5, .ref a⟩, ⟨PyData.keyHash w.params (Str.ofString "shake256"), .str (Str.ofString "shake256") t6, .ref b⟩, ⟨PyData.keyHash w.params (Str.ofString "ntt_zetas"), .str (Str.ofString "ntt_zetas") t7, .ref D⟩, ⟨PyData.keyHash w.params (Str.ofString "ntt_f"), .str (Str.ofString "ntt_f") t8, .int 8347681 t9⟩] 6) ∈ news) (I : IntsAre vs ns) (hlen : ns.length = 256) (hk1 : 0 < k) (hk20 : k < 16777216) (hd : dp + 15 < recursionLimit)
    (ret : ∀ (y1 e1 R1 : Addr) (ta1 tb1 : Tok) (v1 : List Value) (h' : Heap) (tk' : Nat), Fr h₀ L h' m → News h₀ L h' ((y1, instObj 559 e1) :: (e1, dictOf [⟨PyData.keyHash w.params (Str.ofString "parent"), .str (Str.ofString "parent") ta1, .ref x⟩, ⟨PyData.keyHash w.params (Str.ofString "coeffs"), .str (Str.ofString "coeffs") tb1, .ref R1⟩] 2) :: (R1, LCg.lst v1) :: news) →
      IntsAre v1 (ns.map fun c => (decomp c k 8380417).2) → Q (.ref y1) { s with heap := h', toks := tk' }) :
    wpAny (model PySem.Challenge.rw_ix0026_01.row.prog w) (ktrTop dp un gd cn cs L a0 ccd cl outer) (call (.ref 476) [.ref y, .int k tn]) Q E s :=
  lb_call (D := D) (a := a) (b := b) (rest := news) B F X T hk (cb_drop N (List.forall_mem_cons.mpr ⟨mC, List.forall_mem_cons.mpr ⟨my, List.forall_mem_cons.mpr ⟨me, List.forall_mem_cons.mpr ⟨mx, List.forall_mem_cons.mpr ⟨md, fun _ h => h⟩⟩⟩⟩⟩)) I hlen hk1 hk20 hd fun y1 e1 R1 ta1 tb1 v1 h' tk' F' N' I1 => ret y1 e1 R1 ta1 tb1 v1 h' tk' F' (cb_drop N' (sub_mid (A := [_, _, _]) (B := [_, _, _, _, _]))) I1
end Mine
end
noncomputable section
open PySem PySem.W PyProof.Rows PySem.Spec PySem.Calls
set_option Elab.async false
set_option maxRecDepth 100000
set_option maxHeartbeats 4000000
local macro_rules | `(tactic| k_room) => `(tactic| ktr_room)
local macro_rules | `(tactic| k_enter) => `(tactic| first
  | (refine' code_def ?k1 ?k2 ?k3 ?k4 ?k5 ?kA ?kF ?kK ?k6 ?k7 ?k8 ?k9 ?kB ?_ ?c2 ?c3 ?c4 ?c5; (case kA => exact rfl); (case kF => exact rfl); (case kK => first | exact rfl | assumption); (case k1 => k_asm); (case k2 => k_asm); (case k3 => k_asm); (case k4 => k_asm); (case k5 => k_asm); (case k6 => k_is); (case k7 => k_is); (case k8 => ktr_room); (case k9 => first | exact BindsTo.of_eq rfl | exact binds_K (by k_in) rfl (by k_is) rfl rfl rfl | fail "k_enter: no rule for these arguments"); (case c5 => decide); (case kB => exact locs rfl); (case c2 => exact rfl); (case c3 => exact rfl); (case c4 => exact rfl); k_whole; intro g' L' h' FG' F' N' B' X' T'; (try dsimp only); (try k_lift B'); (try k_fold))
  | (refine' code_defC ?k1 ?k2 ?k3 ?k4 ?k5 ?kA ?kF ?kK ?k6 ?k7 ?k8 ?k9 ?kB ?kD ?_ ?c2 ?c3 ?c4; (case kA => exact rfl); (case kF => exact rfl); (case kK => first | exact rfl | assumption); (case k1 => k_asm); (case k2 => k_asm); (case k3 => k_asm); (case k4 => k_asm); (case k5 => k_asm); (case k6 => k_is); (case k7 => k_is); (case k8 => ktr_room); (case k9 => first | exact BindsTo.of_eq rfl | exact binds_K (by k_in) rfl (by k_is) rfl rfl rfl | fail "k_enter: no rule for these arguments"); (case kB => exact rfl); (case kD => decide +kernel); (case c2 => exact rfl); (case c3 => exact rfl); (case c4 => exact rfl); k_whole; intro g' L' h' tk' cells' FG' F' N' Y' B' X' T' l1; (try k_lt l1); k_cells Y'; (try simp only [List.cons_append, List.nil_append] at N'); (try dsimp only); (try k_lift B'); (try k_fold)))
local macro_rules | `(tactic| walk) => `(tactic| ((try dsimp only); repeat (first | (k_unfold; (try dsimp only)) | ((fail_if_success (with_reducible refine ite_neg ?_ ?_)); (fail_if_success (with_reducible show UnrPost _ _ _ _ _ _ _ _ _)); walk1) | ((fail_if_success (with_reducible refine ite_neg ?_ ?_)); (fail_if_success (with_reducible show UnrPost _ _ _ _ _ _ _ _ _)); dsimp only; walk1))))
local macro_rules | `(tactic| k_units) => `(tactic| ktr_units)
local macro_rules | `(tactic| walk_at "call ref") => `(tactic| (k_here; k_dflt (refine' Mine.p2r_callM (D := ?D) (a := ?a) (b := ?b) ?k1 ?k2 ?k3 ?k4 ?kK ?k5 ?mC ?my ?me ?mx ?md ?kI ?kl ?h1 ?h2 ?kd ?_; (case k1 => k_asm); (case k2 => k_asm); (case k3 => k_asm); (case k4 => k_asm); (case kK => first | exact rfl | assumption); (case k5 => k_asm); (case my => k_mem); (case me => k_mem); (case mx => k_mem); (case md => k_mem); (case mC => k_mem); (case kI => assumption); (case kl => assumption); (case h1 => first | assumption | omega); (case h2 => first | assumption | omega); (case kd => ktr_room)); intro T9 y19 e19 R19 y09 e09 R09 ta19 tb19 ta09 tb09 v19 v09 c19 c09 h9 tk9 F9 N9 I19 I09; (try dsimp only)))
local macro_rules | `(tactic| k_all) => `(tactic| ((refine' List.forall_mem_append.mpr ⟨?a9, ?b9⟩); (case a9 => k_all); (case b9 => k_all)))
namespace Mine
theorem even2 {pv : Program} {w : World} {loose : List Str} {mean : ExcName → Option Value} {mg mb : Str → Option Value} {h₀ : Heap} {L fa : Addr} {cd : Value} {s : Shared} {Q : Flow → Shared → Prop} {E : Value → Shared → Prop}
    {l C y e C0 D0 D x d a b : Addr} {tW tS t1 t2 t3 t4 t5 t6 t7 t8 t9 ta tb : Tok} {W S : Nat} {vs vs0 : List Value} {ns : List Int} {nn n0 : Nat} {o1 o2 : Obj} {pa : Array Value} {k : Nat} {tk : Tok} {Dd : Addr} {ysd : List Value} {tl : List (Addr × Obj)}
    (K0 : Below callerA h₀ [] h₀) (X : (hd.heap_39 w.params).In h₀) (T : Top pv loose mean mg mb h₀) (I : IntsAre vs ns) (I0 : IntsAre vs0 ns) (hlen : ns.length = 256)
    (F : Fr h₀ L s.heap (fun z => if z = Str.ofString "due" then some (.ref Dd) else (m5 L fa cd l D0 C0 x y W S tW tS) z)) (N : News h₀ L s.heap ((Dd, LCg.lst ysd) :: (485, tabObj pa) :: (C, { cls := .type "list", data := .seq vs.toArray nn }) :: (y, instObj 559 e) :: (e, dictOf [⟨PyData.keyHash w.params (Str.ofString "parent"), .str (Str.ofString "parent") ta, .ref x⟩, ⟨PyData.keyHash w.params (Str.ofString "coeffs"), .str (Str.ofString "coeffs") tb, .ref C⟩] 2) :: (x, instObj 427 d) :: (d, dictOf [⟨PyData.keyHash w.params (Str.ofString "q"), .str (Str.ofString "q") t1, .int 8380417 t2⟩, ⟨PyData.keyHash w.params (Str.ofString "n"), .str (Str.ofString "n") t3, .int 256 t4⟩, ⟨PyData.keyHash w.params (Str.ofString "shake128"), .str (Str.ofString "shake128") t5, .ref a⟩, ⟨PyData.keyHash w.params (Str.ofString "shake256"), .str (Str.ofString "shake256") t6, .ref b⟩, ⟨PyData.keyHash w.params (Str.ofString "ntt_zetas"), .str (Str.ofString "ntt_zetas") t7, .ref D⟩, ⟨PyData.keyHash w.params (Str.ofString "ntt_f"), .str (Str.ofString "ntt_f") t8, .int 8347681 t9⟩] 6) :: (C0, { cls := .type "list", data := .seq vs0.toArray n0 }) :: (L + 1 + 1, o2) :: (L + 1, o1) :: tl)) (d1 : o1.data = .cell (some (.int (k : Int) tk))) (hk1 : 1 ≤ k) (hk20 : k ≤ 20)
    (ret : ∀ (y1 e1 R1 y0 e0 R0 : Addr) (ta1 tb1 ta0 tb0 : Tok) (v1 v0 : List Value) (c1 c0 : Nat) (h' : Heap) (tk' : Nat),
      Fr h₀ L h' (fun z => if z = Str.ofString "second" then some (.ref y0) else if z = Str.ofString "first" then some (.ref y1) else (fun z => if z = Str.ofString "due" then some (.ref Dd) else (m5 L fa cd l D0 C0 x y W S tW tS) z) z) → News h₀ L h' ((y1, instObj 559 e1) :: (e1, dictOf [⟨PyData.keyHash w.params (Str.ofString "parent"), .str (Str.ofString "parent") ta1, .ref x⟩, ⟨PyData.keyHash w.params (Str.ofString "coeffs"), .str (Str.ofString "coeffs") tb1, .ref R1⟩] 2) :: (R1, PySem.W.listOf v1.toArray c1) :: (y0, instObj 559 e0) :: (e0, dictOf [⟨PyData.keyHash w.params (Str.ofString "parent"), .str (Str.ofString "parent") ta0, .ref x⟩, ⟨PyData.keyHash w.params (Str.ofString "coeffs"), .str (Str.ofString "coeffs") tb0, .ref R0⟩] 2) :: (R0, PySem.W.listOf v0.toArray c0) :: (Dd, LCg.lst ysd) :: (485, tabObj pa) :: (C, { cls := .type "list", data := .seq vs.toArray nn }) :: (y, instObj 559 e) :: (e, dictOf [⟨PyData.keyHash w.params (Str.ofString "parent"), .str (Str.ofString "parent") ta, .ref x⟩, ⟨PyData.keyHash w.params (Str.ofString "coeffs"), .str (Str.ofString "coeffs") tb, .ref C⟩] 2) :: (x, instObj 427 d) :: (d, dictOf [⟨PyData.keyHash w.params (Str.ofString "q"), .str (Str.ofString "q") t1, .int 8380417 t2⟩, ⟨PyData.keyHash w.params (Str.ofString "n"), .str (Str.ofString "n") t3, .int 256 t4⟩, ⟨PyData.keyHash w.params (Str.ofString "shake128"), .str (Str.ofString "shake128") t5, .ref a⟩, ⟨PyData.keyHash w.params (Str.ofString "shake256"), .str (Str.ofString "shake256") t6, .ref b⟩, ⟨PyData.keyHash w.params (Str.ofString "ntt_zetas"), .str (Str.ofString "ntt_zetas") t7, .ref D⟩, ⟨PyData.keyHash w.params (Str.ofString "ntt_f"), .str (Str.ofString "ntt_f") t8, .int 8347681 t9⟩] 6) :: (C0, { cls := .type "list", data := .seq vs0.toArray n0 }) :: (L + 1 + 1, o2) :: (L + 1, o1) :: tl) → IntsAre v1 (ns.map (high2 k)) → IntsAre v0 (ns.map (low2 k)) → wpAny (model PySem.Challenge.rw_ix0026_01.row.prog w) (callerA.deeper (lawEnv L fa cd)) (execs ((thenOf (stmtAt PySem.Challenge.rw_ix0026_01.row.prog 25 6)).drop 3) (lawEnv L fa cd)) Q E { s with heap := h', toks := tk' }) :
    wpAny (model PySem.Challenge.rw_ix0026_01.row.prog w) (callerA.deeper (lawEnv L fa cd)) (execs ((thenOf (stmtAt PySem.Challenge.rw_ix0026_01.row.prog 25 6)).drop 2) (lawEnv L fa cd)) Q E s := by
  (conv => enter [3, 1]; whnf)
  w_strict (iterate 19 (first | (k_unfold; (try dsimp only)) | walk1 | (dsimp only; walk1) | (leave1; (try dsimp only))))
  rename Fr h₀ _ _ _ => Fe
  rename News h₀ _ _ _ => Ne
  rename IntsAre _ (ns.map (high2 k)) => I9
  rename IntsAre _ (ns.map (low2 k)) => I8
  first
    | with_unfolding_all exact ret _ _ _ _ _ _ _ _ _ _ _ _ _ _ _ _ Fe Ne I9 I8
    | with_unfolding_all exact ret _ _ _ _ _ _ _ _ _ _ _ _ _ _ _ _ Fe (cb_drop Ne (fun p hp => List.mem_cons_of_mem _ hp)) I9 I8
end Mine
end
noncomputable section
open PySem PySem.W PyProof.Rows PySem.Spec PySem.Calls
set_option Elab.async false
set_option maxRecDepth 100000
set_option maxHeartbeats 4000000
local macro_rules | `(tactic| k_room) => `(tactic| ktr_room)
local macro_rules | `(tactic| k_enter) => `(tactic| first
  | (refine' code_def ?k1 ?k2 ?k3 ?k4 ?k5 ?kA ?kF ?kK ?k6 ?k7 ?k8 ?k9 ?kB ?_ ?c2 ?c3 ?c4 ?c5; (case kA => exact rfl); (case kF => exact rfl); (case kK => first | exact rfl | assumption); (case k1 => k_asm); (case k2 => k_asm); (case k3 => k_asm); (case k4 => k_asm); (case k5 => k_asm); (case k6 => k_is); (case k7 => k_is); (case k8 => ktr_room); (case k9 => first | exact BindsTo.of_eq rfl | exact binds_K (by k_in) rfl (by k_is) rfl rfl rfl | fail "k_enter: no rule for these arguments"); (case c5 => decide); (case kB => exact locs rfl); (case c2 => exact rfl); (case c3 => exact rfl); (case c4 => exact rfl); k_whole; intro g' L' h' FG' F' N' B' X' T'; (try dsimp only); (try k_lift B'); (try k_fold))
  | (refine' code_defC ?k1 ?k2 ?k3 ?k4 ?k5 ?kA ?kF ?kK ?k6 ?k7 ?k8 ?k9 ?kB ?kD ?_ ?c2 ?c3 ?c4; (case kA => exact rfl); (case kF => exact rfl); (case kK => first | exact rfl | assumption); (case k1 => k_asm); (case k2 => k_asm); (case k3 => k_asm); (case k4 => k_asm); (case k5 => k_asm); (case k6 => k_is); (case k7 => k_is); (case k8 => ktr_room); (case k9 => first | exact BindsTo.of_eq rfl | exact binds_K (by k_in) rfl (by k_is) rfl rfl rfl | fail "k_enter: no rule for these arguments"); (case kB => exact rfl); (case kD => decide +kernel); (case c2 => exact rfl); (case c3 => exact rfl); (case c4 => exact rfl); k_whole; intro g' L' h' tk' cells' FG' F' N' Y' B' X' T' l1; (try k_lt l1); k_cells Y'; (try simp only [List.cons_append, List.nil_append] at N'); (try dsimp only); (try k_lift B'); (try k_fold)))
local macro_rules | `(tactic| walk) => `(tactic| ((try dsimp only); repeat (first | (k_unfold; (try dsimp only)) | ((fail_if_success (with_reducible refine ite_neg ?_ ?_)); (fail_if_success (with_reducible show UnrPost _ _ _ _ _ _ _ _ _)); walk1) | ((fail_if_success (with_reducible refine ite_neg ?_ ?_)); (fail_if_success (with_reducible show UnrPost _ _ _ _ _ _ _ _ _)); dsimp only; walk1))))
local macro_rules | `(tactic| k_units) => `(tactic| ktr_units)
local macro_rules | `(tactic| k_all) => `(tactic| ((refine' List.forall_mem_append.mpr ⟨?a9, ?b9⟩); (case a9 => k_all); (case b9 => k_all)))
local macro_rules | `(tactic| walk_at "no such key") => `(tactic| fail "none")
local macro_rules | `(tactic| walk_at "no such key") => `(tactic| fail "none")
namespace Mine
theorem even3 {pv : Program} {w : World} {loose : List Str} {mean : ExcName → Option Value} {mg mb : Str → Option Value} {h₀ : Heap} {L fa y1 e1 R1 y0 e0 R0 : Addr} {cd : Value} {s : Shared} {Q : Flow → Shared → Prop} {E : Value → Shared → Prop}
    {l C y e C0 D0 D x d a b : Addr} {tW tS t1 t2 t3 t4 t5 t6 t7 t8 t9 ta tb : Tok} {W S : Nat} {vs vs0 : List Value} {ns : List Int} {nn n0 : Nat} {o1 o2 : Obj} {pa : Array Value} {ta1 tb1 ta0 tb0 : Tok} {v1 v0 : List Value} {c1 c0 : Nat} {k : Nat} {tk : Tok} {Dd : Addr} {ysd : List Value} {tl : List (Addr × Obj)}
    (K0 : Below callerA h₀ [] h₀) (X : (hd.heap_39 w.params).In h₀) (T : Top pv loose mean mg mb h₀) (I : IntsAre vs ns) (I0 : IntsAre vs0 ns) (hlen : ns.length = 256)
    (F : Fr h₀ L s.heap (fun z => if z = Str.ofString "second" then some (.ref y0) else if z = Str.ofString "first" then some (.ref y1) else (fun z => if z = Str.ofString "due" then some (.ref Dd) else (m5 L fa cd l D0 C0 x y W S tW tS) z) z)) (N : News h₀ L s.heap ((y1, instObj 559 e1) :: (e1, dictOf [⟨PyData.keyHash w.params (Str.ofString "parent"), .str (Str.ofString "parent") ta1, .ref x⟩, ⟨PyData.keyHash w.params (Str.ofString "coeffs"), .str (Str.ofString "coeffs") tb1, .ref R1⟩] 2) :: (R1, PySem.W.listOf v1.toArray c1) :: (y0, instObj 559 e0) :: (e0, dictOf [⟨PyData.keyHash w.params (Str.ofString "parent"), .str (Str.ofString "parent") ta0, .ref x⟩, ⟨PyData.keyHash w.params (Str.ofString "coeffs"), .str (Str.ofString "coeffs") tb0, .ref R0⟩] 2) :: (R0, PySem.W.listOf v0.toArray c0) :: (Dd, LCg.lst ysd) :: (485, tabObj pa) :: (C, { cls := .type "list", data := .seq vs.toArray nn }) :: (y, instObj 559 e) :: (e, dictOf [⟨PyData.keyHash w.params (Str.ofString "parent"), .str (Str.ofString "parent") ta, .ref x⟩, ⟨PyData.keyHash w.params (Str.ofString "coeffs"), .str (Str.ofString "coeffs") tb, .ref C⟩] 2) :: (x, instObj 427 d) :: (d, dictOf [⟨PyData.keyHash w.params (Str.ofString "q"), .str (Str.ofString "q") t1, .int 8380417 t2⟩, ⟨PyData.keyHash w.params (Str.ofString "n"), .str (Str.ofString "n") t3, .int 256 t4⟩, ⟨PyData.keyHash w.params (Str.ofString "shake128"), .str (Str.ofString "shake128") t5, .ref a⟩, ⟨PyData.keyHash w.params (Str.ofString "shake256"), .str (Str.ofString "shake256") t6, .ref b⟩, ⟨PyData.keyHash w.params (Str.ofString "ntt_zetas"), .str (Str.ofString "ntt_zetas") t7, .ref D⟩, ⟨PyData.keyHash w.params (Str.ofString "ntt_f"), .str (Str.ofString "ntt_f") t8, .int 8347681 t9⟩] 6) :: (C0, { cls := .type "list", data := .seq vs0.toArray n0 }) :: (L + 1 + 1, o2) :: (L + 1, o1) :: tl))
    (ret : ∀ (nm : Int) (tm : Tok) (h' : Heap) (tk' : Nat), (∃ c ∈ ns, cen c = nm) → (∀ c ∈ ns, cen c ≤ nm) →
      Fr h₀ L h' (fun z => if z = Str.ofString "norm" then some (.int nm tm) else (fun z => if z = Str.ofString "second" then some (.ref y0) else if z = Str.ofString "first" then some (.ref y1) else (fun z => if z = Str.ofString "due" then some (.ref Dd) else (m5 L fa cd l D0 C0 x y W S tW tS) z) z) z) → News h₀ L h' ((y1, instObj 559 e1) :: (e1, dictOf [⟨PyData.keyHash w.params (Str.ofString "parent"), .str (Str.ofString "parent") ta1, .ref x⟩, ⟨PyData.keyHash w.params (Str.ofString "coeffs"), .str (Str.ofString "coeffs") tb1, .ref R1⟩] 2) :: (R1, PySem.W.listOf v1.toArray c1) :: (y0, instObj 559 e0) :: (e0, dictOf [⟨PyData.keyHash w.params (Str.ofString "parent"), .str (Str.ofString "parent") ta0, .ref x⟩, ⟨PyData.keyHash w.params (Str.ofString "coeffs"), .str (Str.ofString "coeffs") tb0, .ref R0⟩] 2) :: (R0, PySem.W.listOf v0.toArray c0) :: (Dd, LCg.lst ysd) :: (485, tabObj pa) :: (C, { cls := .type "list", data := .seq vs.toArray nn }) :: (y, instObj 559 e) :: (e, dictOf [⟨PyData.keyHash w.params (Str.ofString "parent"), .str (Str.ofString "parent") ta, .ref x⟩, ⟨PyData.keyHash w.params (Str.ofString "coeffs"), .str (Str.ofString "coeffs") tb, .ref C⟩] 2) :: (x, instObj 427 d) :: (d, dictOf [⟨PyData.keyHash w.params (Str.ofString "q"), .str (Str.ofString "q") t1, .int 8380417 t2⟩, ⟨PyData.keyHash w.params (Str.ofString "n"), .str (Str.ofString "n") t3, .int 256 t4⟩, ⟨PyData.keyHash w.params (Str.ofString "shake128"), .str (Str.ofString "shake128") t5, .ref a⟩, ⟨PyData.keyHash w.params (Str.ofString "shake256"), .str (Str.ofString "shake256") t6, .ref b⟩, ⟨PyData.keyHash w.params (Str.ofString "ntt_zetas"), .str (Str.ofString "ntt_zetas") t7, .ref D⟩, ⟨PyData.keyHash w.params (Str.ofString "ntt_f"), .str (Str.ofString "ntt_f") t8, .int 8347681 t9⟩] 6) :: (C0, { cls := .type "list", data := .seq vs0.toArray n0 }) :: (L + 1 + 1, o2) :: (L + 1, o1) :: tl) → wpAny (model PySem.Challenge.rw_ix0026_01.row.prog w) (callerA.deeper (lawEnv L fa cd)) (execs ((thenOf (stmtAt PySem.Challenge.rw_ix0026_01.row.prog 25 6)).drop 4) (lawEnv L fa cd)) Q E { s with heap := h', toks := tk' }) :
    wpAny (model PySem.Challenge.rw_ix0026_01.row.prog w) (callerA.deeper (lawEnv L fa cd)) (execs ((thenOf (stmtAt PySem.Challenge.rw_ix0026_01.row.prog 25 6)).drop 3) (lawEnv L fa cd)) Q E s := by
  (conv => enter [3, 1]; whnf)
  w_strict (iterate 6 (first | (k_unfold; (try dsimp only)) | walk1 | (dsimp only; walk1) | (leave1; (try dsimp only))))
  refine LCg.ListComp_U (F₀ := by k_asm) (by with_unfolding_all rfl) (by decide) (by rfl) (by decide) (by rfl) ?_
  w_strict (iterate 1 (first | (k_unfold; (try dsimp only)) | walk1 | (dsimp only; walk1) | (leave1; (try dsimp only))))
  refine LCg.CompSrc.ledger (by rfl) (by k_asm) (by k_asm) (by k_mem) (show vs0.toArray.size ≤ sizeLine by rw [List.size_toArray, IntsAre.length I0, hlen]; exact Nat.le_of_ble_eq_true rfl) ?_
  intro g'
  refine kcf_list cen I0 (fun k' t' I' oI' C' oC' D' m' ys' h' tk' E' hk' hC' hx' F' N' off' ne' hMark' => ?_) ?_
  · w_strict walk
    refine kcf_el ?_ rfl rfl
    unfold cen
    split <;> omega
  · unfold KPfDone
    intro zs hZ
    unfold LCg.FinE
    intro Dz hz tkz Fz Nz oz
    dsimp only
    w_strict (iterate 3 (first | (k_unfold; (try dsimp only)) | walk1 | (dsimp only; walk1) | (leave1; (try dsimp only))))
    rename Fr h₀ _ _ _ => Fe
    rename News h₀ _ _ _ => Ne
    rename _ ∈ List.map cen ns => hM
    rename ∀ a, a ∈ List.map cen ns → _ => hA
    obtain ⟨cM, hcM, eM⟩ := List.mem_map.mp hM
    have hA' := fun c (hc : c ∈ ns) => hA _ (List.mem_map_of_mem hc)
    with_unfolding_all exact ret _ _ _ _ ⟨cM, hcM, eM⟩ hA' Fe (cb_drop Ne (fun p hp => List.mem_cons_of_mem _ hp))
end Mine
end
noncomputable section
open PySem PySem.W PyProof.Rows PySem.Spec PySem.Calls
set_option Elab.async false
set_option maxRecDepth 100000
local macro_rules | `(tactic| walk_at "no such key") => `(tactic| fail "none")
local macro_rules | `(tactic| walk_at "no such key") => `(tactic| fail "none")
local macro_rules | `(tactic| walk_at "no such key") => `(tactic| fail "none")
namespace Mine
/-- an int of 0 or more stored under a name -/
def MidI (h₀ : Heap) (L : Addr) (m : Str → Option Value) (news : List (Addr × Obj)) (s : Shared) (x : Str) (fl : Flow) (s1 : Shared) : Prop :=
  fl = Flow.next ∧ ∃ (v : Int) (t : Tok) (h' : Heap) (tk' : Nat), s1 = { s with heap := h', toks := tk' } ∧
    Fr h₀ L h' (fun y => if y = x then some (.int v t) else m y) ∧ News h₀ L h' news ∧ 0 ≤ v
theorem mid_int {M : Model} {A : Around} {E : Value → Shared → Prop} {s : Shared} {h₀ : Heap} {L : Addr} {m : Str → Option Value} {news : List (Addr × Obj)} {t : Sem Flow} {Q : Flow → Shared → Prop} (x : Str)
    (F : Fr h₀ L s.heap m) (N : News h₀ L s.heap news) (hs : wpAny M A t (MidI h₀ L m news s x) E s)
    (hr : ∀ (v : Nat) (t : Tok) (h' : Heap) (tk' : Nat), Fr h₀ L h' (fun y => if y = x then some (.int (v : Int) t) else m y) →
      News h₀ L h' news → Q Flow.next { s with heap := h', toks := tk' }) : wpAny M A t Q E s :=
  wpAny_mono hs (fun fl s1 ⟨e, v, t, h', tk', e1, F', N', l⟩ => by
    subst e; subst e1
    obtain ⟨n, rfl⟩ := Int.eq_ofNat_of_zero_le l
    exact hr n t h' tk' F' N') fun _ _ z => z
theorem MidI.done {s : Shared} {h₀ : Heap} {L : Addr} {m : Str → Option Value} {news news' : List (Addr × Obj)} {x : Str} {v : Int} {t : Tok} {h' : Heap} {tk' : Nat}
    (F : Fr h₀ L h' (fun y => if y = x then some (.int v t) else m y)) (N : News h₀ L h' news') (hm : ∀ p ∈ news, p ∈ news') (l : 0 ≤ v) : MidI h₀ L m news s x .next { s with heap := h', toks := tk' } :=
  ⟨rfl, v, t, h', tk', rfl, F, cb_drop N hm, l⟩
end Mine
end
noncomputable section
open PySem PySem.W PyProof.Rows PySem.Spec PySem.Calls
set_option Elab.async false
set_option maxRecDepth 100000
set_option maxHeartbeats 4000000
local macro_rules | `(tactic| k_room) => `(tactic| ktr_room)
local macro_rules | `(tactic| k_enter) => `(tactic| first
  | (refine' code_def ?k1 ?k2 ?k3 ?k4 ?k5 ?kA ?kF ?kK ?k6 ?k7 ?k8 ?k9 ?kB ?_ ?c2 ?c3 ?c4 ?c5; (case kA => exact rfl); (case kF => exact rfl); (case kK => first | exact rfl | assumption); (case k1 => k_asm); (case k2 => k_asm); (case k3 => k_asm); (case k4 => k_asm); (case k5 => k_asm); (case k6 => k_is); (case k7 => k_is); (case k8 => ktr_room); (case k9 => first | exact BindsTo.of_eq rfl | exact binds_K (by k_in) rfl (by k_is) rfl rfl rfl | fail "k_enter: no rule for these arguments"); (case c5 => decide); (case kB => exact locs rfl); (case c2 => exact rfl); (case c3 => exact rfl); (case c4 => exact rfl); k_whole; intro g' L' h' FG' F' N' B' X' T'; (try dsimp only); (try k_lift B'); (try k_fold))
  | (refine' code_defC ?k1 ?k2 ?k3 ?k4 ?k5 ?kA ?kF ?kK ?k6 ?k7 ?k8 ?k9 ?kB ?kD ?_ ?c2 ?c3 ?c4; (case kA => exact rfl); (case kF => exact rfl); (case kK => first | exact rfl | assumption); (case k1 => k_asm); (case k2 => k_asm); (case k3 => k_asm); (case k4 => k_asm); (case k5 => k_asm); (case k6 => k_is); (case k7 => k_is); (case k8 => ktr_room); (case k9 => first | exact BindsTo.of_eq rfl | exact binds_K (by k_in) rfl (by k_is) rfl rfl rfl | fail "k_enter: no rule for these arguments"); (case kB => exact rfl); (case kD => decide +kernel); (case c2 => exact rfl); (case c3 => exact rfl); (case c4 => exact rfl); k_whole; intro g' L' h' tk' cells' FG' F' N' Y' B' X' T' l1; (try k_lt l1); k_cells Y'; (try simp only [List.cons_append, List.nil_append] at N'); (try dsimp only); (try k_lift B'); (try k_fold)))
local macro_rules | `(tactic| walk) => `(tactic| ((try dsimp only); repeat (first | (k_unfold; (try dsimp only)) | ((fail_if_success (with_reducible refine ite_neg ?_ ?_)); (fail_if_success (with_reducible show UnrPost _ _ _ _ _ _ _ _ _)); walk1) | ((fail_if_success (with_reducible refine ite_neg ?_ ?_)); (fail_if_success (with_reducible show UnrPost _ _ _ _ _ _ _ _ _)); dsimp only; walk1))))
local macro_rules | `(tactic| k_units) => `(tactic| ktr_units)
local macro_rules | `(tactic| k_all) => `(tactic| ((refine' List.forall_mem_append.mpr ⟨?a9, ?b9⟩); (case a9 => k_all); (case b9 => k_all)))
local macro_rules | `(tactic| walk_at "no such key") => `(tactic| fail "none")
local macro_rules | `(tactic| walk_at "no such key") => `(tactic| fail "none")
local macro_rules | `(tactic| walk_at "no such key") => `(tactic| fail "none")
local macro_rules | `(tactic| walk_at "no such key") => `(tactic| fail "none")
namespace Mine
/-- an int stored under a name -/
def MidZ (h₀ : Heap) (L : Addr) (m : Str → Option Value) (news : List (Addr × Obj)) (s : Shared) (x : Str) (fl : Flow) (s1 : Shared) : Prop :=
  fl = Flow.next ∧ ∃ (v : Int) (t : Tok) (h' : Heap) (tk' : Nat), s1 = { s with heap := h', toks := tk' } ∧
    Fr h₀ L h' (fun y => if y = x then some (.int v t) else m y) ∧ News h₀ L h' news
theorem mid_z {M : Model} {A : Around} {E : Value → Shared → Prop} {s : Shared} {h₀ : Heap} {L : Addr} {m : Str → Option Value} {news : List (Addr × Obj)} {t : Sem Flow} {Q : Flow → Shared → Prop} (x : Str)
    (F : Fr h₀ L s.heap m) (N : News h₀ L s.heap news) (hs : wpAny M A t (MidZ h₀ L m news s x) E s)
    (hr : ∀ (v : Int) (t : Tok) (h' : Heap) (tk' : Nat), Fr h₀ L h' (fun y => if y = x then some (.int v t) else m y) →
      News h₀ L h' news → Q Flow.next { s with heap := h', toks := tk' }) : wpAny M A t Q E s :=
  wpAny_mono hs (fun fl s1 ⟨e, v, t, h', tk', e1, F', N'⟩ => by
    subst e; subst e1
    exact hr v t h' tk' F' N') fun _ _ z => z
theorem MidZ.done {s : Shared} {h₀ : Heap} {L : Addr} {m : Str → Option Value} {news news' : List (Addr × Obj)} {x : Str} {v : Int} {t : Tok} {h' : Heap} {tk' : Nat}
    (F : Fr h₀ L h' (fun y => if y = x then some (.int v t) else m y)) (N : News h₀ L h' news') (hm : ∀ p ∈ news, p ∈ news') : MidZ h₀ L m news s x .next { s with heap := h', toks := tk' } :=
  ⟨rfl, v, t, h', tk', rfl, F, cb_drop N hm⟩
theorem even4 {pv : Program} {w : World} {loose : List Str} {mean : ExcName → Option Value} {mg mb : Str → Option Value} {h₀ : Heap} {L fa y1 e1 R1 y0 e0 R0 : Addr} {cd : Value} {s : Shared} {Q : Flow → Shared → Prop} {E : Value → Shared → Prop}
    {l C y e C0 D0 D x d a b : Addr} {tW tS t1 t2 t3 t4 t5 t6 t7 t8 t9 ta tb : Tok} {W S : Nat} {vs vs0 : List Value} {ns : List Int} {nn n0 : Nat} {o1 o2 : Obj} {pa : Array Value} {ta1 tb1 ta0 tb0 : Tok} {v1 v0 : List Value} {c1 c0 : Nat} {nm : Int} {tm : Tok} {k : Nat} {tk : Tok} {Dd : Addr} {ysd : List Value} {tl : List (Addr × Obj)}
    (K0 : Below callerA h₀ [] h₀) (X : (hd.heap_39 w.params).In h₀) (T : Top pv loose mean mg mb h₀) (I : IntsAre vs ns) (I0 : IntsAre vs0 ns) (hlen : ns.length = 256)
    (F : Fr h₀ L s.heap (fun z => if z = Str.ofString "norm" then some (.int nm tm) else (fun z => if z = Str.ofString "second" then some (.ref y0) else if z = Str.ofString "first" then some (.ref y1) else (fun z => if z = Str.ofString "due" then some (.ref Dd) else (m5 L fa cd l D0 C0 x y W S tW tS) z) z) z)) (N : News h₀ L s.heap ((y1, instObj 559 e1) :: (e1, dictOf [⟨PyData.keyHash w.params (Str.ofString "parent"), .str (Str.ofString "parent") ta1, .ref x⟩, ⟨PyData.keyHash w.params (Str.ofString "coeffs"), .str (Str.ofString "coeffs") tb1, .ref R1⟩] 2) :: (R1, PySem.W.listOf v1.toArray c1) :: (y0, instObj 559 e0) :: (e0, dictOf [⟨PyData.keyHash w.params (Str.ofString "parent"), .str (Str.ofString "parent") ta0, .ref x⟩, ⟨PyData.keyHash w.params (Str.ofString "coeffs"), .str (Str.ofString "coeffs") tb0, .ref R0⟩] 2) :: (R0, PySem.W.listOf v0.toArray c0) :: (Dd, LCg.lst ysd) :: (485, tabObj pa) :: (C, { cls := .type "list", data := .seq vs.toArray nn }) :: (y, instObj 559 e) :: (e, dictOf [⟨PyData.keyHash w.params (Str.ofString "parent"), .str (Str.ofString "parent") ta, .ref x⟩, ⟨PyData.keyHash w.params (Str.ofString "coeffs"), .str (Str.ofString "coeffs") tb, .ref C⟩] 2) :: (x, instObj 427 d) :: (d, dictOf [⟨PyData.keyHash w.params (Str.ofString "q"), .str (Str.ofString "q") t1, .int 8380417 t2⟩, ⟨PyData.keyHash w.params (Str.ofString "n"), .str (Str.ofString "n") t3, .int 256 t4⟩, ⟨PyData.keyHash w.params (Str.ofString "shake128"), .str (Str.ofString "shake128") t5, .ref a⟩, ⟨PyData.keyHash w.params (Str.ofString "shake256"), .str (Str.ofString "shake256") t6, .ref b⟩, ⟨PyData.keyHash w.params (Str.ofString "ntt_zetas"), .str (Str.ofString "ntt_zetas") t7, .ref D⟩, ⟨PyData.keyHash w.params (Str.ofString "ntt_f"), .str (Str.ofString "ntt_f") t8, .int 8347681 t9⟩] 6) :: (C0, { cls := .type "list", data := .seq vs0.toArray n0 }) :: (L + 1 + 1, o2) :: (L + 1, o1) :: tl))
    (ret : ∀ (bd : Int) (tB : Tok) (h' : Heap) (tk' : Nat), Fr h₀ L h' (fun z => if z = Str.ofString "bound" then some (.int bd tB) else (fun z => if z = Str.ofString "norm" then some (.int nm tm) else (fun z => if z = Str.ofString "second" then some (.ref y0) else if z = Str.ofString "first" then some (.ref y1) else (fun z => if z = Str.ofString "due" then some (.ref Dd) else (m5 L fa cd l D0 C0 x y W S tW tS) z) z) z) z) → News h₀ L h' ((y1, instObj 559 e1) :: (e1, dictOf [⟨PyData.keyHash w.params (Str.ofString "parent"), .str (Str.ofString "parent") ta1, .ref x⟩, ⟨PyData.keyHash w.params (Str.ofString "coeffs"), .str (Str.ofString "coeffs") tb1, .ref R1⟩] 2) :: (R1, PySem.W.listOf v1.toArray c1) :: (y0, instObj 559 e0) :: (e0, dictOf [⟨PyData.keyHash w.params (Str.ofString "parent"), .str (Str.ofString "parent") ta0, .ref x⟩, ⟨PyData.keyHash w.params (Str.ofString "coeffs"), .str (Str.ofString "coeffs") tb0, .ref R0⟩] 2) :: (R0, PySem.W.listOf v0.toArray c0) :: (Dd, LCg.lst ysd) :: (485, tabObj pa) :: (C, { cls := .type "list", data := .seq vs.toArray nn }) :: (y, instObj 559 e) :: (e, dictOf [⟨PyData.keyHash w.params (Str.ofString "parent"), .str (Str.ofString "parent") ta, .ref x⟩, ⟨PyData.keyHash w.params (Str.ofString "coeffs"), .str (Str.ofString "coeffs") tb, .ref C⟩] 2) :: (x, instObj 427 d) :: (d, dictOf [⟨PyData.keyHash w.params (Str.ofString "q"), .str (Str.ofString "q") t1, .int 8380417 t2⟩, ⟨PyData.keyHash w.params (Str.ofString "n"), .str (Str.ofString "n") t3, .int 256 t4⟩, ⟨PyData.keyHash w.params (Str.ofString "shake128"), .str (Str.ofString "shake128") t5, .ref a⟩, ⟨PyData.keyHash w.params (Str.ofString "shake256"), .str (Str.ofString "shake256") t6, .ref b⟩, ⟨PyData.keyHash w.params (Str.ofString "ntt_zetas"), .str (Str.ofString "ntt_zetas") t7, .ref D⟩, ⟨PyData.keyHash w.params (Str.ofString "ntt_f"), .str (Str.ofString "ntt_f") t8, .int 8347681 t9⟩] 6) :: (C0, { cls := .type "list", data := .seq vs0.toArray n0 }) :: (L + 1 + 1, o2) :: (L + 1, o1) :: tl) → wpAny (model PySem.Challenge.rw_ix0026_01.row.prog w) (callerA.deeper (lawEnv L fa cd)) (execs ((thenOf (stmtAt PySem.Challenge.rw_ix0026_01.row.prog 25 6)).drop 5) (lawEnv L fa cd)) Q E { s with heap := h', toks := tk' }) :
    wpAny (model PySem.Challenge.rw_ix0026_01.row.prog w) (callerA.deeper (lawEnv L fa cd)) (execs ((thenOf (stmtAt PySem.Challenge.rw_ix0026_01.row.prog 25 6)).drop 4) (lawEnv L fa cd)) Q E s := by
  (conv => enter [3, 1]; whnf)
  w_strict (iterate 1 (first | (k_unfold; (try dsimp only)) | walk1 | (dsimp only; walk1) | (leave1; (try dsimp only))))
  refine mid_z (Str.ofString "bound") F N ?st ?rest
  case st =>
    w_strict k_steps
    all_goals (refine MidZ.done (by assumption) (by assumption) (by (repeat (first | exact List.forall_mem_nil _ | (refine List.forall_mem_cons.mpr ⟨by k_mem, ?_⟩) | (intro p hp; repeat (first | exact hp | exact List.mem_append_left _ hp | refine List.mem_cons_of_mem _ ?_))))))
  case rest =>
    intro bd tB h' tk' F' N'
    with_unfolding_all exact ret bd tB h' tk' F' N'
end Mine
end
noncomputable section
open PySem PySem.W PyProof.Rows PySem.Spec PySem.Calls
set_option Elab.async false
set_option maxRecDepth 100000
set_option maxHeartbeats 4000000
local macro_rules | `(tactic| k_room) => `(tactic| ktr_room)
local macro_rules | `(tactic| k_enter) => `(tactic| first
  | (refine' code_def ?k1 ?k2 ?k3 ?k4 ?k5 ?kA ?kF ?kK ?k6 ?k7 ?k8 ?k9 ?kB ?_ ?c2 ?c3 ?c4 ?c5; (case kA => exact rfl); (case kF => exact rfl); (case kK => first | exact rfl | assumption); (case k1 => k_asm); (case k2 => k_asm); (case k3 => k_asm); (case k4 => k_asm); (case k5 => k_asm); (case k6 => k_is); (case k7 => k_is); (case k8 => ktr_room); (case k9 => first | exact BindsTo.of_eq rfl | exact binds_K (by k_in) rfl (by k_is) rfl rfl rfl | fail "k_enter: no rule for these arguments"); (case c5 => decide); (case kB => exact locs rfl); (case c2 => exact rfl); (case c3 => exact rfl); (case c4 => exact rfl); k_whole; intro g' L' h' FG' F' N' B' X' T'; (try dsimp only); (try k_lift B'); (try k_fold))
  | (refine' code_defC ?k1 ?k2 ?k3 ?k4 ?k5 ?kA ?kF ?kK ?k6 ?k7 ?k8 ?k9 ?kB ?kD ?_ ?c2 ?c3 ?c4; (case kA => exact rfl); (case kF => exact rfl); (case kK => first | exact rfl | assumption); (case k1 => k_asm); (case k2 => k_asm); (case k3 => k_asm); (case k4 => k_asm); (case k5 => k_asm); (case k6 => k_is); (case k7 => k_is); (case k8 => ktr_room); (case k9 => first | exact BindsTo.of_eq rfl | exact binds_K (by k_in) rfl (by k_is) rfl rfl rfl | fail "k_enter: no rule for these arguments"); (case kB => exact rfl); (case kD => decide +kernel); (case c2 => exact rfl); (case c3 => exact rfl); (case c4 => exact rfl); k_whole; intro g' L' h' tk' cells' FG' F' N' Y' B' X' T' l1; (try k_lt l1); k_cells Y'; (try simp only [List.cons_append, List.nil_append] at N'); (try dsimp only); (try k_lift B'); (try k_fold)))
local macro_rules | `(tactic| walk) => `(tactic| ((try dsimp only); repeat (first | (k_unfold; (try dsimp only)) | ((fail_if_success (with_reducible refine ite_neg ?_ ?_)); (fail_if_success (with_reducible show UnrPost _ _ _ _ _ _ _ _ _)); walk1) | ((fail_if_success (with_reducible refine ite_neg ?_ ?_)); (fail_if_success (with_reducible show UnrPost _ _ _ _ _ _ _ _ _)); dsimp only; walk1))))
local macro_rules | `(tactic| k_units) => `(tactic| ktr_units)
local macro_rules | `(tactic| k_all) => `(tactic| ((refine' List.forall_mem_append.mpr ⟨?a9, ?b9⟩); (case a9 => k_all); (case b9 => k_all)))
namespace Mine
theorem notTabs_tups : ∀ {T : List (Addr × Obj)}, (∀ q ∈ T, ∃ p t1 t2, q.2 = tup2 p t1 t2) → NotTabs T
  | [], _ => trivial
  | q :: r, h => ⟨fun ps e => (by
      obtain ⟨p, t1, t2, e2⟩ := h q (List.mem_cons_self ..)
      rw [e] at e2; cases e2), notTabs_tups fun x hx => h x (List.mem_cons_of_mem _ hx)⟩
theorem any_max {ns : List Int} {nm bd : Int} (hm : ∃ c ∈ ns, cen c = nm) (hM : ∀ c ∈ ns, cen c ≤ nm) : (ns.any fun c => decide (bd ≤ cen c)) = decide (bd ≤ nm) := by
  by_cases h : bd ≤ nm
  · obtain ⟨c, hc, e⟩ := hm
    rw [decide_eq_true h, List.any_eq_true]
    exact ⟨c, hc, by rw [e]; exact decide_eq_true h⟩
  · rw [decide_eq_false h, List.any_eq_false]
    intro c hc
    rw [decide_eq_true_eq]
    exact fun h2 => h (Int.le_trans h2 (hM c hc))
theorem even5 {pv : Program} {w : World} {loose : List Str} {mean : ExcName → Option Value} {mg mb : Str → Option Value} {h₀ : Heap} {L fa y1 e1 R1 y0 e0 R0 : Addr} {cd : Value} {s : Shared} {Q : Flow → Shared → Prop} {E : Value → Shared → Prop}
    {l C y e C0 D0 D x d a b : Addr} {tW tS t1 t2 t3 t4 t5 t6 t7 t8 t9 ta tb : Tok} {W S : Nat} {vs vs0 : List Value} {ns : List Int} {nn n0 : Nat} {o1 o2 : Obj} {pa : Array Value} {ta1 tb1 ta0 tb0 : Tok} {v1 v0 : List Value} {c1 c0 : Nat} {nm bd : Int} {tB : Tok} {tm : Tok} {k : Nat} {tk : Tok} {Dd : Addr} {ysd : List Value} {tl : List (Addr × Obj)}
    (K0 : Below callerA h₀ [] h₀) (X : (hd.heap_39 w.params).In h₀) (T : Top pv loose mean mg mb h₀) (I : IntsAre vs ns) (I0 : IntsAre vs0 ns) (hlen : ns.length = 256)
    (F : Fr h₀ L s.heap (fun z => if z = Str.ofString "bound" then some (.int bd tB) else (fun z => if z = Str.ofString "norm" then some (.int nm tm) else (fun z => if z = Str.ofString "second" then some (.ref y0) else if z = Str.ofString "first" then some (.ref y1) else (fun z => if z = Str.ofString "due" then some (.ref Dd) else (m5 L fa cd l D0 C0 x y W S tW tS) z) z) z) z)) (N : News h₀ L s.heap ((y1, instObj 559 e1) :: (e1, dictOf [⟨PyData.keyHash w.params (Str.ofString "parent"), .str (Str.ofString "parent") ta1, .ref x⟩, ⟨PyData.keyHash w.params (Str.ofString "coeffs"), .str (Str.ofString "coeffs") tb1, .ref R1⟩] 2) :: (R1, PySem.W.listOf v1.toArray c1) :: (y0, instObj 559 e0) :: (e0, dictOf [⟨PyData.keyHash w.params (Str.ofString "parent"), .str (Str.ofString "parent") ta0, .ref x⟩, ⟨PyData.keyHash w.params (Str.ofString "coeffs"), .str (Str.ofString "coeffs") tb0, .ref R0⟩] 2) :: (R0, PySem.W.listOf v0.toArray c0) :: (Dd, LCg.lst ysd) :: (485, tabObj pa) :: (C, { cls := .type "list", data := .seq vs.toArray nn }) :: (y, instObj 559 e) :: (e, dictOf [⟨PyData.keyHash w.params (Str.ofString "parent"), .str (Str.ofString "parent") ta, .ref x⟩, ⟨PyData.keyHash w.params (Str.ofString "coeffs"), .str (Str.ofString "coeffs") tb, .ref C⟩] 2) :: (x, instObj 427 d) :: (d, dictOf [⟨PyData.keyHash w.params (Str.ofString "q"), .str (Str.ofString "q") t1, .int 8380417 t2⟩, ⟨PyData.keyHash w.params (Str.ofString "n"), .str (Str.ofString "n") t3, .int 256 t4⟩, ⟨PyData.keyHash w.params (Str.ofString "shake128"), .str (Str.ofString "shake128") t5, .ref a⟩, ⟨PyData.keyHash w.params (Str.ofString "shake256"), .str (Str.ofString "shake256") t6, .ref b⟩, ⟨PyData.keyHash w.params (Str.ofString "ntt_zetas"), .str (Str.ofString "ntt_zetas") t7, .ref D⟩, ⟨PyData.keyHash w.params (Str.ofString "ntt_f"), .str (Str.ofString "ntt_f") t8, .int 8347681 t9⟩] 6) :: (C0, { cls := .type "list", data := .seq vs0.toArray n0 }) :: (L + 1 + 1, o2) :: (L + 1, o1) :: tl)) (hm : ∃ c ∈ ns, cen c = nm) (hM : ∀ c ∈ ns, cen c ≤ nm) (hTl : ∀ q ∈ tl, ∃ p t1 t2, q.2 = tup2 p t1 t2) (hc1 : ∀ ps, o1 ≠ tabObj ps) (hc2 : ∀ ps, o2 ≠ tabObj ps)
    (CD : CodeHd h₀ 489 485) (hG : AllBare s.gens) (ht : TriplesOk pa.toList)
    (ret : ∀ (s' : Shared) (pc : Array Value), Fr h₀ L s'.heap (fun z => if z = Str.ofString "bound" then some (.int bd tB) else (fun z => if z = Str.ofString "norm" then some (.int nm tm) else (fun z => if z = Str.ofString "second" then some (.ref y0) else if z = Str.ofString "first" then some (.ref y1) else (fun z => if z = Str.ofString "due" then some (.ref Dd) else (m5 L fa cd l D0 C0 x y W S tW tS) z) z) z) z) → News h₀ L s'.heap ((y1, instObj 559 e1) :: (e1, dictOf [⟨PyData.keyHash w.params (Str.ofString "parent"), .str (Str.ofString "parent") ta1, .ref x⟩, ⟨PyData.keyHash w.params (Str.ofString "coeffs"), .str (Str.ofString "coeffs") tb1, .ref R1⟩] 2) :: (R1, PySem.W.listOf v1.toArray c1) :: (y0, instObj 559 e0) :: (e0, dictOf [⟨PyData.keyHash w.params (Str.ofString "parent"), .str (Str.ofString "parent") ta0, .ref x⟩, ⟨PyData.keyHash w.params (Str.ofString "coeffs"), .str (Str.ofString "coeffs") tb0, .ref R0⟩] 2) :: (R0, PySem.W.listOf v0.toArray c0) :: (Dd, LCg.lst ysd) :: (485, tabObj pc) :: (C, { cls := .type "list", data := .seq vs.toArray nn }) :: (y, instObj 559 e) :: (e, dictOf [⟨PyData.keyHash w.params (Str.ofString "parent"), .str (Str.ofString "parent") ta, .ref x⟩, ⟨PyData.keyHash w.params (Str.ofString "coeffs"), .str (Str.ofString "coeffs") tb, .ref C⟩] 2) :: (x, instObj 427 d) :: (d, dictOf [⟨PyData.keyHash w.params (Str.ofString "q"), .str (Str.ofString "q") t1, .int 8380417 t2⟩, ⟨PyData.keyHash w.params (Str.ofString "n"), .str (Str.ofString "n") t3, .int 256 t4⟩, ⟨PyData.keyHash w.params (Str.ofString "shake128"), .str (Str.ofString "shake128") t5, .ref a⟩, ⟨PyData.keyHash w.params (Str.ofString "shake256"), .str (Str.ofString "shake256") t6, .ref b⟩, ⟨PyData.keyHash w.params (Str.ofString "ntt_zetas"), .str (Str.ofString "ntt_zetas") t7, .ref D⟩, ⟨PyData.keyHash w.params (Str.ofString "ntt_f"), .str (Str.ofString "ntt_f") t8, .int 8347681 t9⟩] 6) :: (C0, { cls := .type "list", data := .seq vs0.toArray n0 }) :: (L + 1 + 1, o2) :: (L + 1, o1) :: tl) → AllBare s'.gens → s'.os = s.os → wpAny (model PySem.Challenge.rw_ix0026_01.row.prog w) (callerA.deeper (lawEnv L fa cd)) (execs ((thenOf (stmtAt PySem.Challenge.rw_ix0026_01.row.prog 25 6)).drop 6) (lawEnv L fa cd)) Q E s') :
    wpAny (model PySem.Challenge.rw_ix0026_01.row.prog w) (callerA.deeper (lawEnv L fa cd)) (execs ((thenOf (stmtAt PySem.Challenge.rw_ix0026_01.row.prog 25 6)).drop 5) (lawEnv L fa cd)) Q E s := by
  (conv => enter [3, 1]; whnf)
  w_strict (iterate 11 (first | (k_unfold; (try dsimp only)) | walk1 | (dsimp only; walk1) | (leave1; (try dsimp only))))
  rename Fr h₀ _ _ _ => Fe
  rename News h₀ _ _ _ => Ne
  refine chk_call (C := C) (e := e) (D := D) (x := x) (d := d) (a := a) (b := b) (vs := vs) (ns := ns) (nn := nn) (ta := ta) (tb := tb) (t1 := t1) (t2 := t2) (t3 := t3) (t4 := t4) (t5 := t5) (t6 := t6) (t7 := t7) (t8 := t8) (t9 := t9) (pa := pa) (rest := (y1, instObj 559 e1) :: (e1, dictOf [⟨PyData.keyHash w.params (Str.ofString "parent"), .str (Str.ofString "parent") ta1, .ref x⟩, ⟨PyData.keyHash w.params (Str.ofString "coeffs"), .str (Str.ofString "coeffs") tb1, .ref R1⟩] 2) :: (R1, PySem.W.listOf v1.toArray c1) :: (y0, instObj 559 e0) :: (e0, dictOf [⟨PyData.keyHash w.params (Str.ofString "parent"), .str (Str.ofString "parent") ta0, .ref x⟩, ⟨PyData.keyHash w.params (Str.ofString "coeffs"), .str (Str.ofString "coeffs") tb0, .ref R0⟩] 2) :: (R0, PySem.W.listOf v0.toArray c0) :: (Dd, LCg.lst ysd) :: (C0, { cls := .type "list", data := .seq vs0.toArray n0 }) :: (L + 1 + 1, o2) :: (L + 1, o1) :: tl) K0 Fe X T rfl (cb_drop Ne ?sub) I hlen ?hd ?nt CD hG ht ?_
  case sub => (dsimp only [ringLed]; (repeat (first | exact List.forall_mem_nil _ | (refine List.forall_mem_cons.mpr ⟨by k_mem, ?_⟩) | (intro p hp; repeat (first | exact hp | exact List.mem_append_left _ hp | refine List.mem_cons_of_mem _ ?_)))))
  case hd => ktr_room
  case nt =>
    refine ⟨?_, ?_, ?_, ?_, ?_, ?_, ?_, ?_, hc2, hc1, notTabs_tups hTl⟩
    all_goals (intro ps h; cases h)
  intro s' pc F' N' ht' hG' ho'
  dsimp only [ringLed] at N'
  clear Ne
  w_strict walk
  refine ite_neg (by rw [any_max hm hM]; simp) ?_
  w_strict (iterate 1 (first | (k_unfold; (try dsimp only)) | walk1 | (dsimp only; walk1) | (leave1; (try dsimp only))))
  rename Fr h₀ _ _ _ => Fz
  rename News h₀ _ _ _ => Nz
  with_unfolding_all exact ret _ pc Fz (cb_drop Nz (by (repeat (first | exact List.forall_mem_nil _ | (refine List.forall_mem_cons.mpr ⟨by k_mem, ?_⟩) | (intro p hp; repeat (first | exact hp | exact List.mem_append_left _ hp | refine List.mem_cons_of_mem _ ?_)))))) hG' ho'
end Mine
end
noncomputable section
open PySem PySem.W PyProof.Rows PySem.Spec PySem.Calls
set_option Elab.async false
set_option maxRecDepth 100000
set_option maxHeartbeats 4000000
local macro_rules | `(tactic| k_room) => `(tactic| ktr_room)
local macro_rules | `(tactic| k_enter) => `(tactic| first
  | (refine' code_def ?k1 ?k2 ?k3 ?k4 ?k5 ?kA ?kF ?kK ?k6 ?k7 ?k8 ?k9 ?kB ?_ ?c2 ?c3 ?c4 ?c5; (case kA => exact rfl); (case kF => exact rfl); (case kK => first | exact rfl | assumption); (case k1 => k_asm); (case k2 => k_asm); (case k3 => k_asm); (case k4 => k_asm); (case k5 => k_asm); (case k6 => k_is); (case k7 => k_is); (case k8 => ktr_room); (case k9 => first | exact BindsTo.of_eq rfl | exact binds_K (by k_in) rfl (by k_is) rfl rfl rfl | fail "k_enter: no rule for these arguments"); (case c5 => decide); (case kB => exact locs rfl); (case c2 => exact rfl); (case c3 => exact rfl); (case c4 => exact rfl); k_whole; intro g' L' h' FG' F' N' B' X' T'; (try dsimp only); (try k_lift B'); (try k_fold))
  | (refine' code_defC ?k1 ?k2 ?k3 ?k4 ?k5 ?kA ?kF ?kK ?k6 ?k7 ?k8 ?k9 ?kB ?kD ?_ ?c2 ?c3 ?c4; (case kA => exact rfl); (case kF => exact rfl); (case kK => first | exact rfl | assumption); (case k1 => k_asm); (case k2 => k_asm); (case k3 => k_asm); (case k4 => k_asm); (case k5 => k_asm); (case k6 => k_is); (case k7 => k_is); (case k8 => ktr_room); (case k9 => first | exact BindsTo.of_eq rfl | exact binds_K (by k_in) rfl (by k_is) rfl rfl rfl | fail "k_enter: no rule for these arguments"); (case kB => exact rfl); (case kD => decide +kernel); (case c2 => exact rfl); (case c3 => exact rfl); (case c4 => exact rfl); k_whole; intro g' L' h' tk' cells' FG' F' N' Y' B' X' T' l1; (try k_lt l1); k_cells Y'; (try simp only [List.cons_append, List.nil_append] at N'); (try dsimp only); (try k_lift B'); (try k_fold)))
local macro_rules | `(tactic| walk) => `(tactic| ((try dsimp only); repeat (first | (k_unfold; (try dsimp only)) | ((fail_if_success (with_reducible refine ite_neg ?_ ?_)); (fail_if_success (with_reducible show UnrPost _ _ _ _ _ _ _ _ _)); walk1) | ((fail_if_success (with_reducible refine ite_neg ?_ ?_)); (fail_if_success (with_reducible show UnrPost _ _ _ _ _ _ _ _ _)); dsimp only; walk1))))
local macro_rules | `(tactic| k_units) => `(tactic| ktr_units)
local macro_rules | `(tactic| k_all) => `(tactic| ((refine' List.forall_mem_append.mpr ⟨?a9, ?b9⟩); (case a9 => k_all); (case b9 => k_all)))
local macro_rules | `(tactic| walk_at "no such key") => `(tactic| fail "none")
namespace Mine
theorem even6 {pv : Program} {w : World} {loose : List Str} {mean : ExcName → Option Value} {mg mb : Str → Option Value} {h₀ : Heap} {L fa y1 e1 R1 y0 e0 R0 : Addr} {cd : Value} {s : Shared} {Q : Flow → Shared → Prop} {E : Value → Shared → Prop}
    {l C y e C0 D0 D x d a b : Addr} {tW tS t1 t2 t3 t4 t5 t6 t7 t8 t9 ta tb : Tok} {W S : Nat} {vs vs0 : List Value} {ns : List Int} {nn n0 : Nat} {o1 o2 : Obj} {pa : Array Value} {ta1 tb1 ta0 tb0 : Tok} {v1 v0 : List Value} {c1 c0 : Nat} {nm bd : Int} {tB : Tok} {tm : Tok} {k : Nat} {tk : Tok} {Dd : Addr} {ysd : List Value} {tl : List (Addr × Obj)}
    (K0 : Below callerA h₀ [] h₀) (X : (hd.heap_39 w.params).In h₀) (T : Top pv loose mean mg mb h₀) (I : IntsAre vs ns) (I0 : IntsAre vs0 ns) (hlen : ns.length = 256)
    (F : Fr h₀ L s.heap (fun z => if z = Str.ofString "bound" then some (.int bd tB) else (fun z => if z = Str.ofString "norm" then some (.int nm tm) else (fun z => if z = Str.ofString "second" then some (.ref y0) else if z = Str.ofString "first" then some (.ref y1) else (fun z => if z = Str.ofString "due" then some (.ref Dd) else (m5 L fa cd l D0 C0 x y W S tW tS) z) z) z) z)) (N : News h₀ L s.heap ((y1, instObj 559 e1) :: (e1, dictOf [⟨PyData.keyHash w.params (Str.ofString "parent"), .str (Str.ofString "parent") ta1, .ref x⟩, ⟨PyData.keyHash w.params (Str.ofString "coeffs"), .str (Str.ofString "coeffs") tb1, .ref R1⟩] 2) :: (R1, PySem.W.listOf v1.toArray c1) :: (y0, instObj 559 e0) :: (e0, dictOf [⟨PyData.keyHash w.params (Str.ofString "parent"), .str (Str.ofString "parent") ta0, .ref x⟩, ⟨PyData.keyHash w.params (Str.ofString "coeffs"), .str (Str.ofString "coeffs") tb0, .ref R0⟩] 2) :: (R0, PySem.W.listOf v0.toArray c0) :: (Dd, LCg.lst ysd) :: (485, tabObj pa) :: (C, { cls := .type "list", data := .seq vs.toArray nn }) :: (y, instObj 559 e) :: (e, dictOf [⟨PyData.keyHash w.params (Str.ofString "parent"), .str (Str.ofString "parent") ta, .ref x⟩, ⟨PyData.keyHash w.params (Str.ofString "coeffs"), .str (Str.ofString "coeffs") tb, .ref C⟩] 2) :: (x, instObj 427 d) :: (d, dictOf [⟨PyData.keyHash w.params (Str.ofString "q"), .str (Str.ofString "q") t1, .int 8380417 t2⟩, ⟨PyData.keyHash w.params (Str.ofString "n"), .str (Str.ofString "n") t3, .int 256 t4⟩, ⟨PyData.keyHash w.params (Str.ofString "shake128"), .str (Str.ofString "shake128") t5, .ref a⟩, ⟨PyData.keyHash w.params (Str.ofString "shake256"), .str (Str.ofString "shake256") t6, .ref b⟩, ⟨PyData.keyHash w.params (Str.ofString "ntt_zetas"), .str (Str.ofString "ntt_zetas") t7, .ref D⟩, ⟨PyData.keyHash w.params (Str.ofString "ntt_f"), .str (Str.ofString "ntt_f") t8, .int 8347681 t9⟩] 6) :: (C0, { cls := .type "list", data := .seq vs0.toArray n0 }) :: (L + 1 + 1, o2) :: (L + 1, o1) :: tl)) (hT : TupsAre tl ysd (ns.map fun c => (high2 k c, low2 k c))) (I1 : IntsAre v1 (ns.map (high2 k))) (I2 : IntsAre v0 (ns.map (low2 k)))
    (ret : ∀ (h' : Heap) (tk' : Nat), Fr h₀ L h' (fun z => if z = Str.ofString "bound" then some (.int bd tB) else (fun z => if z = Str.ofString "norm" then some (.int nm tm) else (fun z => if z = Str.ofString "second" then some (.ref y0) else if z = Str.ofString "first" then some (.ref y1) else (fun z => if z = Str.ofString "due" then some (.ref Dd) else (m5 L fa cd l D0 C0 x y W S tW tS) z) z) z) z) → News h₀ L h' ((y1, instObj 559 e1) :: (e1, dictOf [⟨PyData.keyHash w.params (Str.ofString "parent"), .str (Str.ofString "parent") ta1, .ref x⟩, ⟨PyData.keyHash w.params (Str.ofString "coeffs"), .str (Str.ofString "coeffs") tb1, .ref R1⟩] 2) :: (R1, PySem.W.listOf v1.toArray c1) :: (y0, instObj 559 e0) :: (e0, dictOf [⟨PyData.keyHash w.params (Str.ofString "parent"), .str (Str.ofString "parent") ta0, .ref x⟩, ⟨PyData.keyHash w.params (Str.ofString "coeffs"), .str (Str.ofString "coeffs") tb0, .ref R0⟩] 2) :: (R0, PySem.W.listOf v0.toArray c0) :: (Dd, LCg.lst ysd) :: (485, tabObj pa) :: (C, { cls := .type "list", data := .seq vs.toArray nn }) :: (y, instObj 559 e) :: (e, dictOf [⟨PyData.keyHash w.params (Str.ofString "parent"), .str (Str.ofString "parent") ta, .ref x⟩, ⟨PyData.keyHash w.params (Str.ofString "coeffs"), .str (Str.ofString "coeffs") tb, .ref C⟩] 2) :: (x, instObj 427 d) :: (d, dictOf [⟨PyData.keyHash w.params (Str.ofString "q"), .str (Str.ofString "q") t1, .int 8380417 t2⟩, ⟨PyData.keyHash w.params (Str.ofString "n"), .str (Str.ofString "n") t3, .int 256 t4⟩, ⟨PyData.keyHash w.params (Str.ofString "shake128"), .str (Str.ofString "shake128") t5, .ref a⟩, ⟨PyData.keyHash w.params (Str.ofString "shake256"), .str (Str.ofString "shake256") t6, .ref b⟩, ⟨PyData.keyHash w.params (Str.ofString "ntt_zetas"), .str (Str.ofString "ntt_zetas") t7, .ref D⟩, ⟨PyData.keyHash w.params (Str.ofString "ntt_f"), .str (Str.ofString "ntt_f") t8, .int 8347681 t9⟩] 6) :: (C0, { cls := .type "list", data := .seq vs0.toArray n0 }) :: (L + 1 + 1, o2) :: (L + 1, o1) :: tl) → Q (.ret (.bool true)) { s with heap := h', toks := tk' }) :
    wpAny (model PySem.Challenge.rw_ix0026_01.row.prog w) (callerA.deeper (lawEnv L fa cd)) (execs ((thenOf (stmtAt PySem.Challenge.rw_ix0026_01.row.prog 25 6)).drop 6) (lawEnv L fa cd)) Q E s := by
  (conv => enter [3, 1]; whnf)
  have hzl : ysd.toArray.size ≤ sizeLine := by
    rw [List.size_toArray, hT.1, List.length_map, hlen]; exact Nat.le_of_ble_eq_true rfl
  w_strict (iterate 7 (first | (k_unfold; (try dsimp only)) | walk1 | (dsimp only; walk1) | (leave1; (try dsimp only))))
  refine LCg.ListComp_U (F₀ := by k_asm) (by with_unfolding_all rfl) (by decide) (by rfl) (by decide) (by rfl) ?_
  w_strict (iterate 1 (first | (k_unfold; (try dsimp only)) | walk1 | (dsimp only; walk1) | (leave1; (try dsimp only))))
  refine LCg.CompSrc.ledger (by rfl) (by k_asm) (by k_asm) (by k_mem) hzl ?_
  intro g'
  refine comp_ints Prod.fst hT (fun p' a' u1' u2' I' oI' C' oC' D' m' zs' h' tk' E' hm' hC' hx' F' N' off' ne' => ?_) (fun zs hZ => ?_)
  · w_strict (iterate 3 (first | (k_unfold; (try dsimp only)) | walk1 | (dsimp only; walk1) | (leave1; (try dsimp only))))
    refine item_tuple (News.isTup N' (by repeat (first | exact hm' | refine List.mem_cons_of_mem _ ?_))) (by decide) (by decide) (j := 0) rfl rfl ?_
    w_strict (iterate 1 (first | (k_unfold; (try dsimp only)) | walk1 | (dsimp only; walk1) | (leave1; (try dsimp only))))
    exact kcf_el rfl rfl rfl
  unfold LCg.FinE
  intro Dz hz tkz Fz Nz oz
  dsimp only
  replace hZ : IntsAre zs (ns.map (high2 k)) := by rw [List.map_map] at hZ; exact hZ
  w_strict (iterate 8 (first | (k_unfold; (try dsimp only)) | walk1 | (dsimp only; walk1) | (leave1; (try dsimp only))))
  refine LCg.ListComp_U (F₀ := by k_asm) (by with_unfolding_all rfl) (by decide) (by rfl) (by decide) (by rfl) ?_
  w_strict (iterate 1 (first | (k_unfold; (try dsimp only)) | walk1 | (dsimp only; walk1) | (leave1; (try dsimp only))))
  refine LCg.CompSrc.ledger (by rfl) (by k_asm) (by k_asm) (by k_mem) hzl ?_
  intro g'
  refine comp_ints Prod.snd hT (fun p' a' u1' u2' I' oI' C' oC' D' m' zs' h' tk' E' hm' hC' hx' F' N' off' ne' => ?_) (fun zs hZ => ?_)
  · w_strict (iterate 3 (first | (k_unfold; (try dsimp only)) | walk1 | (dsimp only; walk1) | (leave1; (try dsimp only))))
    refine item_tuple (News.isTup N' (by repeat (first | exact hm' | refine List.mem_cons_of_mem _ ?_))) (by decide) (by decide) (j := 1) rfl rfl ?_
    w_strict (iterate 1 (first | (k_unfold; (try dsimp only)) | walk1 | (dsimp only; walk1) | (leave1; (try dsimp only))))
    exact kcf_el rfl rfl rfl
  unfold LCg.FinE
  intro Dy hy tky Fy Ny oy
  dsimp only
  replace hZ : IntsAre zs (ns.map (low2 k)) := by rw [List.map_map] at hZ; exact hZ
  w_strict walk
  refine ite_pos rfl ?_
  w_strict walk
  rename Fr h₀ _ _ _ => Fe
  rename News h₀ _ _ _ => Ne
  exact ret _ _ Fe (cb_drop Ne (by (repeat (first | exact List.forall_mem_nil _ | (refine List.forall_mem_cons.mpr ⟨by k_mem, ?_⟩) | (intro p hp; repeat (first | exact hp | exact List.mem_append_left _ hp | refine List.mem_cons_of_mem _ ?_))))))
end Mine
end
noncomputable section
open PySem PySem.W PyProof.Rows PySem.Spec PySem.Calls
set_option Elab.async false
set_option maxRecDepth 100000
set_option maxHeartbeats 4000000
local macro_rules | `(tactic| k_room) => `(tactic| ktr_room)
local macro_rules | `(tactic| k_enter) => `(tactic| first
  | (refine' code_def ?k1 ?k2 ?k3 ?k4 ?k5 ?kA ?kF ?kK ?k6 ?k7 ?k8 ?k9 ?kB ?_ ?c2 ?c3 ?c4 ?c5; (case kA => exact rfl); (case kF => exact rfl); (case kK => first | exact rfl | assumption); (case k1 => k_asm); (case k2 => k_asm); (case k3 => k_asm); (case k4 => k_asm); (case k5 => k_asm); (case k6 => k_is); (case k7 => k_is); (case k8 => ktr_room); (case k9 => first | exact BindsTo.of_eq rfl | exact binds_K (by k_in) rfl (by k_is) rfl rfl rfl | fail "k_enter: no rule for these arguments"); (case c5 => decide); (case kB => exact locs rfl); (case c2 => exact rfl); (case c3 => exact rfl); (case c4 => exact rfl); k_whole; intro g' L' h' FG' F' N' B' X' T'; (try dsimp only); (try k_lift B'); (try k_fold))
  | (refine' code_defC ?k1 ?k2 ?k3 ?k4 ?k5 ?kA ?kF ?kK ?k6 ?k7 ?k8 ?k9 ?kB ?kD ?_ ?c2 ?c3 ?c4; (case kA => exact rfl); (case kF => exact rfl); (case kK => first | exact rfl | assumption); (case k1 => k_asm); (case k2 => k_asm); (case k3 => k_asm); (case k4 => k_asm); (case k5 => k_asm); (case k6 => k_is); (case k7 => k_is); (case k8 => ktr_room); (case k9 => first | exact BindsTo.of_eq rfl | exact binds_K (by k_in) rfl (by k_is) rfl rfl rfl | fail "k_enter: no rule for these arguments"); (case kB => exact rfl); (case kD => decide +kernel); (case c2 => exact rfl); (case c3 => exact rfl); (case c4 => exact rfl); k_whole; intro g' L' h' tk' cells' FG' F' N' Y' B' X' T' l1; (try k_lt l1); k_cells Y'; (try simp only [List.cons_append, List.nil_append] at N'); (try dsimp only); (try k_lift B'); (try k_fold)))
local macro_rules | `(tactic| walk) => `(tactic| ((try dsimp only); repeat (first | (k_unfold; (try dsimp only)) | ((fail_if_success (with_reducible refine ite_neg ?_ ?_)); (fail_if_success (with_reducible show UnrPost _ _ _ _ _ _ _ _ _)); walk1) | ((fail_if_success (with_reducible refine ite_neg ?_ ?_)); (fail_if_success (with_reducible show UnrPost _ _ _ _ _ _ _ _ _)); dsimp only; walk1))))
local macro_rules | `(tactic| k_units) => `(tactic| ktr_units)
local macro_rules | `(tactic| walk_at "call ref") => `(tactic| (k_here; k_dflt (refine' Mine.par_call ?k1 ?k2 ?k3 ?k4 ?k5 ?kK ?k6 ?kd ?_; (case k1 => k_asm); (case k2 => k_asm); (case k3 => k_asm); (case k4 => k_asm); (case k5 => k_asm); (case kK => first | exact rfl | assumption); (case k6 => assumption); (case kd => ktr_room)); intro T9 u9 v9 h9 tk9 F9 N9 l9; (try dsimp only); (try k_lt l9)))
local macro_rules | `(tactic| k_all) => `(tactic| ((refine' List.forall_mem_append.mpr ⟨?a9, ?b9⟩); (case a9 => k_all); (case b9 => k_all)))
local macro_rules | `(tactic| walk_at "no such key") => `(tactic| fail "none")
namespace Mine
/-- an int stored in a cell of the ledger -/
def MidC (h₀ : Heap) (L : Addr) (m : Str → Option Value) (led : Obj → List (Addr × Obj)) (s : Shared) (C : Int → Prop) (fl : Flow) (s1 : Shared) : Prop :=
  fl = Flow.next ∧ ∃ (k : Int) (t : Tok) (o : Obj) (h' : Heap) (tk' : Nat), s1 = { s with heap := h', toks := tk' } ∧ Fr h₀ L h' m ∧ News h₀ L h' (led o) ∧ o.data = .cell (some (.int k t)) ∧ C k
theorem mid_cell {M : Model} {A : Around} {E : Value → Shared → Prop} {s : Shared} {h₀ : Heap} {L : Addr} {m : Str → Option Value} {t : Sem Flow} {Q : Flow → Shared → Prop} (led : Obj → List (Addr × Obj)) (C : Int → Prop)
    (hs : wpAny M A t (MidC h₀ L m led s C) E s)
    (hr : ∀ (k : Int) (t : Tok) (o : Obj) (h' : Heap) (tk' : Nat), Fr h₀ L h' m → News h₀ L h' (led o) → o.data = .cell (some (.int k t)) → C k → Q Flow.next { s with heap := h', toks := tk' }) : wpAny M A t Q E s :=
  wpAny_mono hs (fun fl s1 ⟨e, k, t, o, h', tk', e1, F', N', d, c⟩ => by
    subst e; subst e1
    exact hr k t o h' tk' F' N' d c) fun _ _ z => z
theorem odd1b {pv : Program} {w : World} {loose : List Str} {mean : ExcName → Option Value} {mg mb : Str → Option Value} {h₀ : Heap} {L fa : Addr} {cd : Value} {s : Shared} {Q : Flow → Shared → Prop} {E : Value → Shared → Prop}
    {l C y e C0 D0 D x d a b : Addr} {tW tS t1 t2 t3 t4 t5 t6 t7 t8 t9 ta tb : Tok} {W S : Nat} {vs vs0 : List Value} {ns : List Int} {nn n0 : Nat} {o1 o2 : Obj} {pa : Array Value} {k : Int} {tk : Tok}
    (K0 : Below callerA h₀ [] h₀) (X : (hd.heap_39 w.params).In h₀) (T : Top pv loose mean mg mb h₀) (I : IntsAre vs ns) (I0 : IntsAre vs0 ns) (hlen : ns.length = 256)
    (F : Fr h₀ L s.heap (m5 L fa cd l D0 C0 x y W S tW tS)) (N : News h₀ L s.heap ((485, tabObj pa) :: (C, { cls := .type "list", data := .seq vs.toArray nn }) :: (y, instObj 559 e) :: (e, dictOf [⟨PyData.keyHash w.params (Str.ofString "parent"), .str (Str.ofString "parent") ta, .ref x⟩, ⟨PyData.keyHash w.params (Str.ofString "coeffs"), .str (Str.ofString "coeffs") tb, .ref C⟩] 2) :: (x, instObj 427 d) :: (d, dictOf [⟨PyData.keyHash w.params (Str.ofString "q"), .str (Str.ofString "q") t1, .int 8380417 t2⟩, ⟨PyData.keyHash w.params (Str.ofString "n"), .str (Str.ofString "n") t3, .int 256 t4⟩, ⟨PyData.keyHash w.params (Str.ofString "shake128"), .str (Str.ofString "shake128") t5, .ref a⟩, ⟨PyData.keyHash w.params (Str.ofString "shake256"), .str (Str.ofString "shake256") t6, .ref b⟩, ⟨PyData.keyHash w.params (Str.ofString "ntt_zetas"), .str (Str.ofString "ntt_zetas") t7, .ref D⟩, ⟨PyData.keyHash w.params (Str.ofString "ntt_f"), .str (Str.ofString "ntt_f") t8, .int 8347681 t9⟩] 6) :: (C0, { cls := .type "list", data := .seq vs0.toArray n0 }) :: (L + 1 + 1, o2) :: (L + 1, o1) :: [])) (d2 : o2.data = .cell (some (.int k tk))) (hk : k = 190464 ∨ k = 523776)
    (ret : ∀ (Dd : Addr) (ysd : List Value) (tl : List (Addr × Obj)) (h' : Heap) (tk' : Nat), TupsAre tl ysd (ns.map (fun c => ((decomp c k 8380417).1, (decomp c k 8380417).2))) →
      Fr h₀ L h' (fun z => if z = Str.ofString "due" then some (.ref Dd) else (m5 L fa cd l D0 C0 x y W S tW tS) z) → News h₀ L h' ((Dd, LCg.lst ysd) :: (485, tabObj pa) :: (C, { cls := .type "list", data := .seq vs.toArray nn }) :: (y, instObj 559 e) :: (e, dictOf [⟨PyData.keyHash w.params (Str.ofString "parent"), .str (Str.ofString "parent") ta, .ref x⟩, ⟨PyData.keyHash w.params (Str.ofString "coeffs"), .str (Str.ofString "coeffs") tb, .ref C⟩] 2) :: (x, instObj 427 d) :: (d, dictOf [⟨PyData.keyHash w.params (Str.ofString "q"), .str (Str.ofString "q") t1, .int 8380417 t2⟩, ⟨PyData.keyHash w.params (Str.ofString "n"), .str (Str.ofString "n") t3, .int 256 t4⟩, ⟨PyData.keyHash w.params (Str.ofString "shake128"), .str (Str.ofString "shake128") t5, .ref a⟩, ⟨PyData.keyHash w.params (Str.ofString "shake256"), .str (Str.ofString "shake256") t6, .ref b⟩, ⟨PyData.keyHash w.params (Str.ofString "ntt_zetas"), .str (Str.ofString "ntt_zetas") t7, .ref D⟩, ⟨PyData.keyHash w.params (Str.ofString "ntt_f"), .str (Str.ofString "ntt_f") t8, .int 8347681 t9⟩] 6) :: (C0, { cls := .type "list", data := .seq vs0.toArray n0 }) :: (L + 1 + 1, o2) :: (L + 1, o1) :: tl) → wpAny (model PySem.Challenge.rw_ix0026_01.row.prog w) (callerA.deeper (lawEnv L fa cd)) (execs (bodyFrom PySem.Challenge.rw_ix0026_01.row.prog 25 9) (lawEnv L fa cd)) Q E { s with heap := h', toks := tk' }) :
    wpAny (model PySem.Challenge.rw_ix0026_01.row.prog w) (callerA.deeper (lawEnv L fa cd)) (execs (bodyFrom PySem.Challenge.rw_ix0026_01.row.prog 25 8) (lawEnv L fa cd)) Q E s := by
  (conv => enter [3, 1]; whnf)
  w_strict (iterate 1 (first | (k_unfold; (try dsimp only)) | walk1 | (dsimp only; walk1) | (leave1; (try dsimp only))))
  refine LCg.Assign_ListComp_U (F₀ := by k_asm) (by rfl) (by with_unfolding_all rfl) (by with_unfolding_all rfl) (by decide) (by rfl) (by decide) (by rfl) (by rfl) (by rfl) ?_
  w_strict (iterate 1 (first | (k_unfold; (try dsimp only)) | walk1 | (dsimp only; walk1) | (leave1; (try dsimp only))))
  refine LCg.CompSrc.ledger (by rfl) (by k_asm) (by k_asm) (by k_mem) (show vs0.toArray.size ≤ sizeLine by rw [List.size_toArray, IntsAre.length I0, hlen]; exact Nat.le_of_ble_eq_true rfl) ?_
  intro g'
  refine comp_tups (fun c => ((decomp c k 8380417).1, (decomp c k 8380417).2)) I0 (fun k' t' I' oI' C' oC' D' m' ys' tl' h' tk' E' hk' hC' hx' F' N' off' ne' => ?_) (fun ysd tl hT => ?_)
  · have offA := off'
    simp only [LCg.Off3, List.cons_append, List.nil_append] at off'
    simp only [List.cons_append, List.nil_append] at N'
    w_strict walk
    rename Fr h₀ _ _ _ => Fe
    rename News h₀ _ _ _ => Ne
    rename_i T9 u9 v9 h9 tk9 l9
    refine' LCg.CompEnd.intro Fe Ne (((485, tabObj pa) :: (C, { cls := .type "list", data := .seq vs.toArray nn }) :: (y, instObj 559 e) :: (e, dictOf [⟨PyData.keyHash w.params (Str.ofString "parent"), .str (Str.ofString "parent") ta, .ref x⟩, ⟨PyData.keyHash w.params (Str.ofString "coeffs"), .str (Str.ofString "coeffs") tb, .ref C⟩] 2) :: (x, instObj 427 d) :: (d, dictOf [⟨PyData.keyHash w.params (Str.ofString "q"), .str (Str.ofString "q") t1, .int 8380417 t2⟩, ⟨PyData.keyHash w.params (Str.ofString "n"), .str (Str.ofString "n") t3, .int 256 t4⟩, ⟨PyData.keyHash w.params (Str.ofString "shake128"), .str (Str.ofString "shake128") t5, .ref a⟩, ⟨PyData.keyHash w.params (Str.ofString "shake256"), .str (Str.ofString "shake256") t6, .ref b⟩, ⟨PyData.keyHash w.params (Str.ofString "ntt_zetas"), .str (Str.ofString "ntt_zetas") t7, .ref D⟩, ⟨PyData.keyHash w.params (Str.ofString "ntt_f"), .str (Str.ofString "ntt_f") t8, .int 8347681 t9⟩] 6) :: (C0, { cls := .type "list", data := .seq vs0.toArray n0 }) :: (L + 1 + 1, o2) :: (L + 1, o1) :: []) ++ ((T9, tup2 ((decomp k' k 8380417).1, (decomp k' k 8380417).2) u9 v9) :: tl')) ?sub ?off ?src ?r
    case r => exact ⟨_, _, _, rfl, rfl⟩
    case sub =>
      simp only [List.cons_append, List.nil_append]
      (repeat (first | exact List.forall_mem_nil _ | (refine List.forall_mem_cons.mpr ⟨by k_mem, ?_⟩) | (intro p hp; repeat (first | exact hp | exact List.mem_append_left _ hp | refine List.mem_cons_of_mem _ ?_))))
    case off =>
      refine LCg.Off3.of (fun p hp => ?_)
      rcases List.mem_append.mp hp with hp | hp
      · exact offA.mem p (List.mem_append_left _ hp)
      · rcases List.mem_cons.mp hp with rfl | hp
        · exact ⟨neN (by dsimp only; omega), neN (by dsimp only; omega), neN (by dsimp only; omega)⟩
        · exact offA.mem p (List.mem_append_right _ hp)
    case src => exact Or.inr ⟨_, by k_mem, rfl, _, rfl⟩
  · unfold LCg.FinA
    intro Dd h' tk' F' N' o1'
    simp only [List.nil_append, List.cons_append] at N'
    with_unfolding_all exact ret Dd ysd tl h' _ hT F' N'
theorem odd1 {pv : Program} {w : World} {loose : List Str} {mean : ExcName → Option Value} {mg mb : Str → Option Value} {h₀ : Heap} {L fa : Addr} {cd : Value} {s : Shared} {Q : Flow → Shared → Prop} {E : Value → Shared → Prop}
    {l C y e C0 D0 D x d a b : Addr} {tW tS t1 t2 t3 t4 t5 t6 t7 t8 t9 ta tb : Tok} {W S : Nat} {vs vs0 : List Value} {ns : List Int} {nn n0 : Nat} {o1 o2 : Obj} {pa : Array Value}
    (K0 : Below callerA h₀ [] h₀) (X : (hd.heap_39 w.params).In h₀) (T : Top pv loose mean mg mb h₀) (I : IntsAre vs ns) (I0 : IntsAre vs0 ns) (hlen : ns.length = 256)
    (F : Fr h₀ L s.heap (m5 L fa cd l D0 C0 x y W S tW tS)) (N : News h₀ L s.heap ((485, tabObj pa) :: (C, { cls := .type "list", data := .seq vs.toArray nn }) :: (y, instObj 559 e) :: (e, dictOf [⟨PyData.keyHash w.params (Str.ofString "parent"), .str (Str.ofString "parent") ta, .ref x⟩, ⟨PyData.keyHash w.params (Str.ofString "coeffs"), .str (Str.ofString "coeffs") tb, .ref C⟩] 2) :: (x, instObj 427 d) :: (d, dictOf [⟨PyData.keyHash w.params (Str.ofString "q"), .str (Str.ofString "q") t1, .int 8380417 t2⟩, ⟨PyData.keyHash w.params (Str.ofString "n"), .str (Str.ofString "n") t3, .int 256 t4⟩, ⟨PyData.keyHash w.params (Str.ofString "shake128"), .str (Str.ofString "shake128") t5, .ref a⟩, ⟨PyData.keyHash w.params (Str.ofString "shake256"), .str (Str.ofString "shake256") t6, .ref b⟩, ⟨PyData.keyHash w.params (Str.ofString "ntt_zetas"), .str (Str.ofString "ntt_zetas") t7, .ref D⟩, ⟨PyData.keyHash w.params (Str.ofString "ntt_f"), .str (Str.ofString "ntt_f") t8, .int 8347681 t9⟩] 6) :: (C0, { cls := .type "list", data := .seq vs0.toArray n0 }) :: (L + 1 + 1, o2) :: (L + 1, o1) :: [])) (d2 : o2.data = .cell none)
    (p1 : @Ne Nat 485 (L + 1) ∧ @Ne Nat C (L + 1) ∧ @Ne Nat y (L + 1) ∧ @Ne Nat e (L + 1) ∧ @Ne Nat x (L + 1) ∧ @Ne Nat d (L + 1) ∧ @Ne Nat C0 (L + 1)) (p2 : @Ne Nat 485 (L + 1 + 1) ∧ @Ne Nat C (L + 1 + 1) ∧ @Ne Nat y (L + 1 + 1) ∧ @Ne Nat e (L + 1 + 1) ∧ @Ne Nat x (L + 1 + 1) ∧ @Ne Nat d (L + 1 + 1) ∧ @Ne Nat C0 (L + 1 + 1))
    (ret : ∀ (k : Int) (tk : Tok) (o2 : Obj) (Dd : Addr) (ysd : List Value) (tl : List (Addr × Obj)) (h' : Heap) (tk' : Nat), (k = 190464 ∨ k = 523776) → o2.data = .cell (some (.int k tk)) → TupsAre tl ysd (ns.map (fun c => ((decomp c k 8380417).1, (decomp c k 8380417).2))) →
      Fr h₀ L h' (fun z => if z = Str.ofString "due" then some (.ref Dd) else (m5 L fa cd l D0 C0 x y W S tW tS) z) → News h₀ L h' ((Dd, LCg.lst ysd) :: (485, tabObj pa) :: (C, { cls := .type "list", data := .seq vs.toArray nn }) :: (y, instObj 559 e) :: (e, dictOf [⟨PyData.keyHash w.params (Str.ofString "parent"), .str (Str.ofString "parent") ta, .ref x⟩, ⟨PyData.keyHash w.params (Str.ofString "coeffs"), .str (Str.ofString "coeffs") tb, .ref C⟩] 2) :: (x, instObj 427 d) :: (d, dictOf [⟨PyData.keyHash w.params (Str.ofString "q"), .str (Str.ofString "q") t1, .int 8380417 t2⟩, ⟨PyData.keyHash w.params (Str.ofString "n"), .str (Str.ofString "n") t3, .int 256 t4⟩, ⟨PyData.keyHash w.params (Str.ofString "shake128"), .str (Str.ofString "shake128") t5, .ref a⟩, ⟨PyData.keyHash w.params (Str.ofString "shake256"), .str (Str.ofString "shake256") t6, .ref b⟩, ⟨PyData.keyHash w.params (Str.ofString "ntt_zetas"), .str (Str.ofString "ntt_zetas") t7, .ref D⟩, ⟨PyData.keyHash w.params (Str.ofString "ntt_f"), .str (Str.ofString "ntt_f") t8, .int 8347681 t9⟩] 6) :: (C0, { cls := .type "list", data := .seq vs0.toArray n0 }) :: (L + 1 + 1, o2) :: (L + 1, o1) :: tl) → wpAny (model PySem.Challenge.rw_ix0026_01.row.prog w) (callerA.deeper (lawEnv L fa cd)) (execs (bodyFrom PySem.Challenge.rw_ix0026_01.row.prog 25 9) (lawEnv L fa cd)) Q E { s with heap := h', toks := tk' }) :
    wpAny (model PySem.Challenge.rw_ix0026_01.row.prog w) (callerA.deeper (lawEnv L fa cd)) (execs (bodyFrom PySem.Challenge.rw_ix0026_01.row.prog 25 7) (lawEnv L fa cd)) Q E s := by
  (conv => enter [3, 1]; whnf)
  w_strict (iterate 1 (first | (k_unfold; (try dsimp only)) | walk1 | (dsimp only; walk1) | (leave1; (try dsimp only))))
  refine mid_cell (h₀ := h₀) (L := L) (m := (m5 L fa cd l D0 C0 x y W S tW tS)) (fun o => (485, tabObj pa) :: (C, { cls := .type "list", data := .seq vs.toArray nn }) :: (y, instObj 559 e) :: (e, dictOf [⟨PyData.keyHash w.params (Str.ofString "parent"), .str (Str.ofString "parent") ta, .ref x⟩, ⟨PyData.keyHash w.params (Str.ofString "coeffs"), .str (Str.ofString "coeffs") tb, .ref C⟩] 2) :: (x, instObj 427 d) :: (d, dictOf [⟨PyData.keyHash w.params (Str.ofString "q"), .str (Str.ofString "q") t1, .int 8380417 t2⟩, ⟨PyData.keyHash w.params (Str.ofString "n"), .str (Str.ofString "n") t3, .int 256 t4⟩, ⟨PyData.keyHash w.params (Str.ofString "shake128"), .str (Str.ofString "shake128") t5, .ref a⟩, ⟨PyData.keyHash w.params (Str.ofString "shake256"), .str (Str.ofString "shake256") t6, .ref b⟩, ⟨PyData.keyHash w.params (Str.ofString "ntt_zetas"), .str (Str.ofString "ntt_zetas") t7, .ref D⟩, ⟨PyData.keyHash w.params (Str.ofString "ntt_f"), .str (Str.ofString "ntt_f") t8, .int 8347681 t9⟩] 6) :: (C0, { cls := .type "list", data := .seq vs0.toArray n0 }) :: (L + 1 + 1, o) :: (L + 1, o1) :: []) (fun k => k = 190464 ∨ k = 523776) ?st (fun k tk oB hB tkB FB NB dB hk => ?_)
  case st =>
    w_strict k_steps
    all_goals
      rename Obj => oB
      rename oB.data = _ => dB
      rename Fr h₀ _ _ _ => Fe
      rename News h₀ _ _ _ => Ne
      first
        | exact ⟨rfl, _, _, oB, _, _, rfl, Fe, cb_drop Ne (by (repeat (first | exact List.forall_mem_nil _ | (refine List.forall_mem_cons.mpr ⟨by k_mem, ?_⟩) | (intro p hp; repeat (first | exact hp | exact List.mem_append_left _ hp | refine List.mem_cons_of_mem _ ?_))))), dB, Or.inl rfl⟩
        | exact ⟨rfl, _, _, oB, _, _, rfl, Fe, cb_drop Ne (by (repeat (first | exact List.forall_mem_nil _ | (refine List.forall_mem_cons.mpr ⟨by k_mem, ?_⟩) | (intro p hp; repeat (first | exact hp | exact List.mem_append_left _ hp | refine List.mem_cons_of_mem _ ?_))))), dB, Or.inr rfl⟩
  clear F N
  with_unfolding_all refine odd1b (k := k) (tk := tk) K0 X T I I0 hlen FB NB dB hk ?_
  intro Dd ysd tl h' tk' hT F' N'
  exact ret k tk oB Dd ysd tl h' tk' hk dB hT F' N'
end Mine
end
noncomputable section
open PySem PySem.W PyProof.Rows PySem.Spec PySem.Calls
set_option Elab.async false
set_option maxRecDepth 100000
set_option maxHeartbeats 4000000
local macro_rules | `(tactic| k_room) => `(tactic| ktr_room)
local macro_rules | `(tactic| k_enter) => `(tactic| first
  | (refine' code_def ?k1 ?k2 ?k3 ?k4 ?k5 ?kA ?kF ?kK ?k6 ?k7 ?k8 ?k9 ?kB ?_ ?c2 ?c3 ?c4 ?c5; (case kA => exact rfl); (case kF => exact rfl); (case kK => first | exact rfl | assumption); (case k1 => k_asm); (case k2 => k_asm); (case k3 => k_asm); (case k4 => k_asm); (case k5 => k_asm); (case k6 => k_is); (case k7 => k_is); (case k8 => ktr_room); (case k9 => first | exact BindsTo.of_eq rfl | exact binds_K (by k_in) rfl (by k_is) rfl rfl rfl | fail "k_enter: no rule for these arguments"); (case c5 => decide); (case kB => exact locs rfl); (case c2 => exact rfl); (case c3 => exact rfl); (case c4 => exact rfl); k_whole; intro g' L' h' FG' F' N' B' X' T'; (try dsimp only); (try k_lift B'); (try k_fold))
  | (refine' code_defC ?k1 ?k2 ?k3 ?k4 ?k5 ?kA ?kF ?kK ?k6 ?k7 ?k8 ?k9 ?kB ?kD ?_ ?c2 ?c3 ?c4; (case kA => exact rfl); (case kF => exact rfl); (case kK => first | exact rfl | assumption); (case k1 => k_asm); (case k2 => k_asm); (case k3 => k_asm); (case k4 => k_asm); (case k5 => k_asm); (case k6 => k_is); (case k7 => k_is); (case k8 => ktr_room); (case k9 => first | exact BindsTo.of_eq rfl | exact binds_K (by k_in) rfl (by k_is) rfl rfl rfl | fail "k_enter: no rule for these arguments"); (case kB => exact rfl); (case kD => decide +kernel); (case c2 => exact rfl); (case c3 => exact rfl); (case c4 => exact rfl); k_whole; intro g' L' h' tk' cells' FG' F' N' Y' B' X' T' l1; (try k_lt l1); k_cells Y'; (try simp only [List.cons_append, List.nil_append] at N'); (try dsimp only); (try k_lift B'); (try k_fold)))
local macro_rules | `(tactic| walk) => `(tactic| ((try dsimp only); repeat (first | (k_unfold; (try dsimp only)) | ((fail_if_success (with_reducible refine ite_neg ?_ ?_)); (fail_if_success (with_reducible show UnrPost _ _ _ _ _ _ _ _ _)); walk1) | ((fail_if_success (with_reducible refine ite_neg ?_ ?_)); (fail_if_success (with_reducible show UnrPost _ _ _ _ _ _ _ _ _)); dsimp only; walk1))))
local macro_rules | `(tactic| k_units) => `(tactic| ktr_units)
local macro_rules | `(tactic| walk_at "call ref") => `(tactic| (k_here; k_dflt (refine' Mine.decm_callM (D := ?D) (a := ?a) (b := ?b) ?k1 ?k2 ?k3 ?k4 ?kK ?k5 ?mC ?my ?me ?mx ?md ?kI ?kl ?h1 ?h2 ?kd ?_; (case k1 => k_asm); (case k2 => k_asm); (case k3 => k_asm); (case k4 => k_asm); (case kK => first | exact rfl | assumption); (case k5 => k_asm); (case my => k_mem); (case me => k_mem); (case mx => k_mem); (case md => k_mem); (case mC => k_mem); (case kI => assumption); (case kl => assumption); (case h1 => first | assumption | omega); (case h2 => first | assumption | omega); (case kd => ktr_room)); intro T9 y19 e19 R19 y09 e09 R09 ta19 tb19 ta09 tb09 v19 v09 c19 c09 h9 tk9 F9 N9 I19 I09; (try dsimp only)))
local macro_rules | `(tactic| k_all) => `(tactic| ((refine' List.forall_mem_append.mpr ⟨?a9, ?b9⟩); (case a9 => k_all); (case b9 => k_all)))
local macro_rules | `(tactic| walk_at "no such key") => `(tactic| fail "none")
local macro_rules | `(tactic| walk_at "no such key") => `(tactic| fail "none")
namespace Mine
theorem odd2 {pv : Program} {w : World} {loose : List Str} {mean : ExcName → Option Value} {mg mb : Str → Option Value} {h₀ : Heap} {L fa : Addr} {cd : Value} {s : Shared} {Q : Flow → Shared → Prop} {E : Value → Shared → Prop}
    {l C y e C0 D0 D x d a b : Addr} {tW tS t1 t2 t3 t4 t5 t6 t7 t8 t9 ta tb : Tok} {W S : Nat} {vs vs0 : List Value} {ns : List Int} {nn n0 : Nat} {o1 o2 : Obj} {pa : Array Value} {k : Int} {tk : Tok} {Dd : Addr} {ysd : List Value} {tl : List (Addr × Obj)}
    (K0 : Below callerA h₀ [] h₀) (X : (hd.heap_39 w.params).In h₀) (T : Top pv loose mean mg mb h₀) (I : IntsAre vs ns) (I0 : IntsAre vs0 ns) (hlen : ns.length = 256)
    (F : Fr h₀ L s.heap (fun z => if z = Str.ofString "due" then some (.ref Dd) else (m5 L fa cd l D0 C0 x y W S tW tS) z)) (N : News h₀ L s.heap ((Dd, LCg.lst ysd) :: (485, tabObj pa) :: (C, { cls := .type "list", data := .seq vs.toArray nn }) :: (y, instObj 559 e) :: (e, dictOf [⟨PyData.keyHash w.params (Str.ofString "parent"), .str (Str.ofString "parent") ta, .ref x⟩, ⟨PyData.keyHash w.params (Str.ofString "coeffs"), .str (Str.ofString "coeffs") tb, .ref C⟩] 2) :: (x, instObj 427 d) :: (d, dictOf [⟨PyData.keyHash w.params (Str.ofString "q"), .str (Str.ofString "q") t1, .int 8380417 t2⟩, ⟨PyData.keyHash w.params (Str.ofString "n"), .str (Str.ofString "n") t3, .int 256 t4⟩, ⟨PyData.keyHash w.params (Str.ofString "shake128"), .str (Str.ofString "shake128") t5, .ref a⟩, ⟨PyData.keyHash w.params (Str.ofString "shake256"), .str (Str.ofString "shake256") t6, .ref b⟩, ⟨PyData.keyHash w.params (Str.ofString "ntt_zetas"), .str (Str.ofString "ntt_zetas") t7, .ref D⟩, ⟨PyData.keyHash w.params (Str.ofString "ntt_f"), .str (Str.ofString "ntt_f") t8, .int 8347681 t9⟩] 6) :: (C0, { cls := .type "list", data := .seq vs0.toArray n0 }) :: (L + 1 + 1, o2) :: (L + 1, o1) :: tl)) (d2 : o2.data = .cell (some (.int k tk))) (hk : k = 190464 ∨ k = 523776)
    (ret : ∀ (y1 e1 R1 y0 e0 R0 : Addr) (ta1 tb1 ta0 tb0 : Tok) (v1 v0 : List Value) (c1 c0 : Nat) (h' : Heap) (tk' : Nat),
      Fr h₀ L h' (fun z => if z = Str.ofString "second" then some (.ref y0) else if z = Str.ofString "first" then some (.ref y1) else (fun z => if z = Str.ofString "due" then some (.ref Dd) else (m5 L fa cd l D0 C0 x y W S tW tS) z) z) → News h₀ L h' ((y1, instObj 559 e1) :: (e1, dictOf [⟨PyData.keyHash w.params (Str.ofString "parent"), .str (Str.ofString "parent") ta1, .ref x⟩, ⟨PyData.keyHash w.params (Str.ofString "coeffs"), .str (Str.ofString "coeffs") tb1, .ref R1⟩] 2) :: (R1, PySem.W.listOf v1.toArray c1) :: (y0, instObj 559 e0) :: (e0, dictOf [⟨PyData.keyHash w.params (Str.ofString "parent"), .str (Str.ofString "parent") ta0, .ref x⟩, ⟨PyData.keyHash w.params (Str.ofString "coeffs"), .str (Str.ofString "coeffs") tb0, .ref R0⟩] 2) :: (R0, PySem.W.listOf v0.toArray c0) :: (Dd, LCg.lst ysd) :: (485, tabObj pa) :: (C, { cls := .type "list", data := .seq vs.toArray nn }) :: (y, instObj 559 e) :: (e, dictOf [⟨PyData.keyHash w.params (Str.ofString "parent"), .str (Str.ofString "parent") ta, .ref x⟩, ⟨PyData.keyHash w.params (Str.ofString "coeffs"), .str (Str.ofString "coeffs") tb, .ref C⟩] 2) :: (x, instObj 427 d) :: (d, dictOf [⟨PyData.keyHash w.params (Str.ofString "q"), .str (Str.ofString "q") t1, .int 8380417 t2⟩, ⟨PyData.keyHash w.params (Str.ofString "n"), .str (Str.ofString "n") t3, .int 256 t4⟩, ⟨PyData.keyHash w.params (Str.ofString "shake128"), .str (Str.ofString "shake128") t5, .ref a⟩, ⟨PyData.keyHash w.params (Str.ofString "shake256"), .str (Str.ofString "shake256") t6, .ref b⟩, ⟨PyData.keyHash w.params (Str.ofString "ntt_zetas"), .str (Str.ofString "ntt_zetas") t7, .ref D⟩, ⟨PyData.keyHash w.params (Str.ofString "ntt_f"), .str (Str.ofString "ntt_f") t8, .int 8347681 t9⟩] 6) :: (C0, { cls := .type "list", data := .seq vs0.toArray n0 }) :: (L + 1 + 1, o2) :: (L + 1, o1) :: tl) → IntsAre v1 (ns.map (fun c => (decomp c k 8380417).1)) → IntsAre v0 (ns.map (fun c => (decomp c k 8380417).2)) → wpAny (model PySem.Challenge.rw_ix0026_01.row.prog w) (callerA.deeper (lawEnv L fa cd)) (execs (bodyFrom PySem.Challenge.rw_ix0026_01.row.prog 25 10) (lawEnv L fa cd)) Q E { s with heap := h', toks := tk' }) :
    wpAny (model PySem.Challenge.rw_ix0026_01.row.prog w) (callerA.deeper (lawEnv L fa cd)) (execs (bodyFrom PySem.Challenge.rw_ix0026_01.row.prog 25 9) (lawEnv L fa cd)) Q E s := by
  (conv => enter [3, 1]; whnf)
  have hk1 : 0 < k := by omega
  have hk20 : k < 16777216 := by omega
  w_strict (iterate 19 (first | (k_unfold; (try dsimp only)) | walk1 | (dsimp only; walk1) | (leave1; (try dsimp only))))
  rename Fr h₀ _ _ _ => Fe
  rename News h₀ _ _ _ => Ne
  rename IntsAre _ (ns.map (fun c => (decomp c k 8380417).1)) => I9
  rename IntsAre _ (ns.map (fun c => (decomp c k 8380417).2)) => I8
  first
    | with_unfolding_all exact ret _ _ _ _ _ _ _ _ _ _ _ _ _ _ _ _ Fe Ne I9 I8
    | with_unfolding_all exact ret _ _ _ _ _ _ _ _ _ _ _ _ _ _ _ _ Fe (cb_drop Ne (fun p hp => List.mem_cons_of_mem _ hp)) I9 I8
end Mine
end
noncomputable section
open PySem PySem.W PyProof.Rows PySem.Spec PySem.Calls
set_option Elab.async false
set_option maxRecDepth 100000
set_option maxHeartbeats 4000000
local macro_rules | `(tactic| k_room) => `(tactic| ktr_room)
local macro_rules | `(tactic| k_enter) => `(tactic| first
  | (refine' code_def ?k1 ?k2 ?k3 ?k4 ?k5 ?kA ?kF ?kK ?k6 ?k7 ?k8 ?k9 ?kB ?_ ?c2 ?c3 ?c4 ?c5; (case kA => exact rfl); (case kF => exact rfl); (case kK => first | exact rfl | assumption); (case k1 => k_asm); (case k2 => k_asm); (case k3 => k_asm); (case k4 => k_asm); (case k5 => k_asm); (case k6 => k_is); (case k7 => k_is); (case k8 => ktr_room); (case k9 => first | exact BindsTo.of_eq rfl | exact binds_K (by k_in) rfl (by k_is) rfl rfl rfl | fail "k_enter: no rule for these arguments"); (case c5 => decide); (case kB => exact locs rfl); (case c2 => exact rfl); (case c3 => exact rfl); (case c4 => exact rfl); k_whole; intro g' L' h' FG' F' N' B' X' T'; (try dsimp only); (try k_lift B'); (try k_fold))
  | (refine' code_defC ?k1 ?k2 ?k3 ?k4 ?k5 ?kA ?kF ?kK ?k6 ?k7 ?k8 ?k9 ?kB ?kD ?_ ?c2 ?c3 ?c4; (case kA => exact rfl); (case kF => exact rfl); (case kK => first | exact rfl | assumption); (case k1 => k_asm); (case k2 => k_asm); (case k3 => k_asm); (case k4 => k_asm); (case k5 => k_asm); (case k6 => k_is); (case k7 => k_is); (case k8 => ktr_room); (case k9 => first | exact BindsTo.of_eq rfl | exact binds_K (by k_in) rfl (by k_is) rfl rfl rfl | fail "k_enter: no rule for these arguments"); (case kB => exact rfl); (case kD => decide +kernel); (case c2 => exact rfl); (case c3 => exact rfl); (case c4 => exact rfl); k_whole; intro g' L' h' tk' cells' FG' F' N' Y' B' X' T' l1; (try k_lt l1); k_cells Y'; (try simp only [List.cons_append, List.nil_append] at N'); (try dsimp only); (try k_lift B'); (try k_fold)))
local macro_rules | `(tactic| walk) => `(tactic| ((try dsimp only); repeat (first | (k_unfold; (try dsimp only)) | ((fail_if_success (with_reducible refine ite_neg ?_ ?_)); (fail_if_success (with_reducible show UnrPost _ _ _ _ _ _ _ _ _)); walk1) | ((fail_if_success (with_reducible refine ite_neg ?_ ?_)); (fail_if_success (with_reducible show UnrPost _ _ _ _ _ _ _ _ _)); dsimp only; walk1))))
local macro_rules | `(tactic| k_units) => `(tactic| ktr_units)
local macro_rules | `(tactic| k_all) => `(tactic| ((refine' List.forall_mem_append.mpr ⟨?a9, ?b9⟩); (case a9 => k_all); (case b9 => k_all)))
local macro_rules | `(tactic| walk_at "no such key") => `(tactic| fail "none")
local macro_rules | `(tactic| walk_at "no such key") => `(tactic| fail "none")
local macro_rules | `(tactic| walk_at "no such key") => `(tactic| fail "none")
local macro_rules | `(tactic| walk_at "no such key") => `(tactic| fail "none")
namespace Mine
theorem odd3 {pv : Program} {w : World} {loose : List Str} {mean : ExcName → Option Value} {mg mb : Str → Option Value} {h₀ : Heap} {L fa y1 e1 R1 y0 e0 R0 : Addr} {cd : Value} {s : Shared} {Q : Flow → Shared → Prop} {E : Value → Shared → Prop}
    {l C y e C0 D0 D x d a b : Addr} {tW tS t1 t2 t3 t4 t5 t6 t7 t8 t9 ta tb : Tok} {W S : Nat} {vs vs0 : List Value} {ns : List Int} {nn n0 : Nat} {o1 o2 : Obj} {pa : Array Value} {ta1 tb1 ta0 tb0 : Tok} {v1 v0 : List Value} {c1 c0 : Nat} {k : Int} {tk : Tok} {Dd : Addr} {ysd : List Value} {tl : List (Addr × Obj)}
    (K0 : Below callerA h₀ [] h₀) (X : (hd.heap_39 w.params).In h₀) (T : Top pv loose mean mg mb h₀) (I : IntsAre vs ns) (I0 : IntsAre vs0 ns) (hlen : ns.length = 256)
    (F : Fr h₀ L s.heap (fun z => if z = Str.ofString "second" then some (.ref y0) else if z = Str.ofString "first" then some (.ref y1) else (fun z => if z = Str.ofString "due" then some (.ref Dd) else (m5 L fa cd l D0 C0 x y W S tW tS) z) z)) (N : News h₀ L s.heap ((y1, instObj 559 e1) :: (e1, dictOf [⟨PyData.keyHash w.params (Str.ofString "parent"), .str (Str.ofString "parent") ta1, .ref x⟩, ⟨PyData.keyHash w.params (Str.ofString "coeffs"), .str (Str.ofString "coeffs") tb1, .ref R1⟩] 2) :: (R1, PySem.W.listOf v1.toArray c1) :: (y0, instObj 559 e0) :: (e0, dictOf [⟨PyData.keyHash w.params (Str.ofString "parent"), .str (Str.ofString "parent") ta0, .ref x⟩, ⟨PyData.keyHash w.params (Str.ofString "coeffs"), .str (Str.ofString "coeffs") tb0, .ref R0⟩] 2) :: (R0, PySem.W.listOf v0.toArray c0) :: (Dd, LCg.lst ysd) :: (485, tabObj pa) :: (C, { cls := .type "list", data := .seq vs.toArray nn }) :: (y, instObj 559 e) :: (e, dictOf [⟨PyData.keyHash w.params (Str.ofString "parent"), .str (Str.ofString "parent") ta, .ref x⟩, ⟨PyData.keyHash w.params (Str.ofString "coeffs"), .str (Str.ofString "coeffs") tb, .ref C⟩] 2) :: (x, instObj 427 d) :: (d, dictOf [⟨PyData.keyHash w.params (Str.ofString "q"), .str (Str.ofString "q") t1, .int 8380417 t2⟩, ⟨PyData.keyHash w.params (Str.ofString "n"), .str (Str.ofString "n") t3, .int 256 t4⟩, ⟨PyData.keyHash w.params (Str.ofString "shake128"), .str (Str.ofString "shake128") t5, .ref a⟩, ⟨PyData.keyHash w.params (Str.ofString "shake256"), .str (Str.ofString "shake256") t6, .ref b⟩, ⟨PyData.keyHash w.params (Str.ofString "ntt_zetas"), .str (Str.ofString "ntt_zetas") t7, .ref D⟩, ⟨PyData.keyHash w.params (Str.ofString "ntt_f"), .str (Str.ofString "ntt_f") t8, .int 8347681 t9⟩] 6) :: (C0, { cls := .type "list", data := .seq vs0.toArray n0 }) :: (L + 1 + 1, o2) :: (L + 1, o1) :: tl)) (hT : TupsAre tl ysd (ns.map (fun c => ((decomp c k 8380417).1, (decomp c k 8380417).2)))) (I1 : IntsAre v1 (ns.map (fun c => (decomp c k 8380417).1))) (I2 : IntsAre v0 (ns.map (fun c => (decomp c k 8380417).2)))
    (ret : ∀ (h' : Heap) (tk' : Nat), Fr h₀ L h' (fun z => if z = Str.ofString "second" then some (.ref y0) else if z = Str.ofString "first" then some (.ref y1) else (fun z => if z = Str.ofString "due" then some (.ref Dd) else (m5 L fa cd l D0 C0 x y W S tW tS) z) z) → News h₀ L h' ((y1, instObj 559 e1) :: (e1, dictOf [⟨PyData.keyHash w.params (Str.ofString "parent"), .str (Str.ofString "parent") ta1, .ref x⟩, ⟨PyData.keyHash w.params (Str.ofString "coeffs"), .str (Str.ofString "coeffs") tb1, .ref R1⟩] 2) :: (R1, PySem.W.listOf v1.toArray c1) :: (y0, instObj 559 e0) :: (e0, dictOf [⟨PyData.keyHash w.params (Str.ofString "parent"), .str (Str.ofString "parent") ta0, .ref x⟩, ⟨PyData.keyHash w.params (Str.ofString "coeffs"), .str (Str.ofString "coeffs") tb0, .ref R0⟩] 2) :: (R0, PySem.W.listOf v0.toArray c0) :: (Dd, LCg.lst ysd) :: (485, tabObj pa) :: (C, { cls := .type "list", data := .seq vs.toArray nn }) :: (y, instObj 559 e) :: (e, dictOf [⟨PyData.keyHash w.params (Str.ofString "parent"), .str (Str.ofString "parent") ta, .ref x⟩, ⟨PyData.keyHash w.params (Str.ofString "coeffs"), .str (Str.ofString "coeffs") tb, .ref C⟩] 2) :: (x, instObj 427 d) :: (d, dictOf [⟨PyData.keyHash w.params (Str.ofString "q"), .str (Str.ofString "q") t1, .int 8380417 t2⟩, ⟨PyData.keyHash w.params (Str.ofString "n"), .str (Str.ofString "n") t3, .int 256 t4⟩, ⟨PyData.keyHash w.params (Str.ofString "shake128"), .str (Str.ofString "shake128") t5, .ref a⟩, ⟨PyData.keyHash w.params (Str.ofString "shake256"), .str (Str.ofString "shake256") t6, .ref b⟩, ⟨PyData.keyHash w.params (Str.ofString "ntt_zetas"), .str (Str.ofString "ntt_zetas") t7, .ref D⟩, ⟨PyData.keyHash w.params (Str.ofString "ntt_f"), .str (Str.ofString "ntt_f") t8, .int 8347681 t9⟩] 6) :: (C0, { cls := .type "list", data := .seq vs0.toArray n0 }) :: (L + 1 + 1, o2) :: (L + 1, o1) :: tl) → wpAny (model PySem.Challenge.rw_ix0026_01.row.prog w) (callerA.deeper (lawEnv L fa cd)) (execs (bodyFrom PySem.Challenge.rw_ix0026_01.row.prog 25 11) (lawEnv L fa cd)) Q E { s with heap := h', toks := tk' }) :
    wpAny (model PySem.Challenge.rw_ix0026_01.row.prog w) (callerA.deeper (lawEnv L fa cd)) (execs (bodyFrom PySem.Challenge.rw_ix0026_01.row.prog 25 10) (lawEnv L fa cd)) Q E s := by
  (conv => enter [3, 1]; whnf)
  have hzl : ysd.toArray.size ≤ sizeLine := by
    rw [List.size_toArray, hT.1, List.length_map, hlen]; exact Nat.le_of_ble_eq_true rfl
  w_strict (iterate 7 (first | (k_unfold; (try dsimp only)) | walk1 | (dsimp only; walk1) | (leave1; (try dsimp only))))
  refine LCg.ListComp_U (F₀ := by k_asm) (by with_unfolding_all rfl) (by decide) (by rfl) (by decide) (by rfl) ?_
  w_strict (iterate 1 (first | (k_unfold; (try dsimp only)) | walk1 | (dsimp only; walk1) | (leave1; (try dsimp only))))
  refine LCg.CompSrc.ledger (by rfl) (by k_asm) (by k_asm) (by k_mem) hzl ?_
  intro g'
  refine comp_ints Prod.fst hT (fun p' a' u1' u2' I' oI' C' oC' D' m' zs' h' tk' E' hm' hC' hx' F' N' off' ne' => ?_) (fun zs hZ => ?_)
  · w_strict (iterate 3 (first | (k_unfold; (try dsimp only)) | walk1 | (dsimp only; walk1) | (leave1; (try dsimp only))))
    refine item_tuple (News.isTup N' (by repeat (first | exact hm' | refine List.mem_cons_of_mem _ ?_))) (by decide) (by decide) (j := 0) rfl rfl ?_
    w_strict (iterate 1 (first | (k_unfold; (try dsimp only)) | walk1 | (dsimp only; walk1) | (leave1; (try dsimp only))))
    exact kcf_el rfl rfl rfl
  unfold LCg.FinE
  intro Dz hz tkz Fz Nz oz
  dsimp only
  replace hZ : IntsAre zs (ns.map (fun c => (decomp c k 8380417).1)) := by rw [List.map_map] at hZ; exact hZ
  w_strict walk
  refine ite_neg (by decide) ?_
  w_strict (iterate 5 (first | (k_unfold; (try dsimp only)) | walk1 | (dsimp only; walk1) | (leave1; (try dsimp only))))
  refine LCg.ListComp_U (F₀ := by k_asm) (by with_unfolding_all rfl) (by decide) (by rfl) (by decide) (by rfl) ?_
  w_strict (iterate 1 (first | (k_unfold; (try dsimp only)) | walk1 | (dsimp only; walk1) | (leave1; (try dsimp only))))
  refine LCg.CompSrc.ledger (by rfl) (by k_asm) (by k_asm) (by k_mem) hzl ?_
  intro g'
  refine comp_ints Prod.snd hT (fun p' a' u1' u2' I' oI' C' oC' D' m' zs' h' tk' E' hm' hC' hx' F' N' off' ne' => ?_) (fun zs hZ => ?_)
  · w_strict (iterate 3 (first | (k_unfold; (try dsimp only)) | walk1 | (dsimp only; walk1) | (leave1; (try dsimp only))))
    refine item_tuple (News.isTup N' (by repeat (first | exact hm' | refine List.mem_cons_of_mem _ ?_))) (by decide) (by decide) (j := 1) rfl rfl ?_
    w_strict (iterate 1 (first | (k_unfold; (try dsimp only)) | walk1 | (dsimp only; walk1) | (leave1; (try dsimp only))))
    exact kcf_el rfl rfl rfl
  unfold LCg.FinE
  intro Dy hy tky Fy Ny oy
  dsimp only
  replace hZ : IntsAre zs (ns.map (fun c => (decomp c k 8380417).2)) := by rw [List.map_map] at hZ; exact hZ
  w_strict walk
  refine ite_neg (by decide) ?_
  w_strict walk
  refine ite_neg (by decide) ?_
  w_strict walk
  refine ite_neg (by decide) ?_
  w_strict (iterate 2 (first | (k_unfold; (try dsimp only)) | walk1 | (dsimp only; walk1) | (leave1; (try dsimp only))))
  rename Fr h₀ _ _ _ => Fe
  rename News h₀ _ _ _ => Ne
  with_unfolding_all exact ret _ _ Fe (cb_drop Ne (by (repeat (first | exact List.forall_mem_nil _ | (refine List.forall_mem_cons.mpr ⟨by k_mem, ?_⟩) | (intro p hp; repeat (first | exact hp | exact List.mem_append_left _ hp | refine List.mem_cons_of_mem _ ?_))))))
end Mine
end
noncomputable section
open PySem PySem.W PyProof.Rows PySem.Spec PySem.Calls
set_option Elab.async false
set_option maxRecDepth 100000
set_option maxHeartbeats 4000000
local macro_rules | `(tactic| k_room) => `(tactic| ktr_room)
local macro_rules | `(tactic| k_enter) => `(tactic| first
  | (refine' code_def ?k1 ?k2 ?k3 ?k4 ?k5 ?kA ?kF ?kK ?k6 ?k7 ?k8 ?k9 ?kB ?_ ?c2 ?c3 ?c4 ?c5; (case kA => exact rfl); (case kF => exact rfl); (case kK => first | exact rfl | assumption); (case k1 => k_asm); (case k2 => k_asm); (case k3 => k_asm); (case k4 => k_asm); (case k5 => k_asm); (case k6 => k_is); (case k7 => k_is); (case k8 => ktr_room); (case k9 => first | exact BindsTo.of_eq rfl | exact binds_K (by k_in) rfl (by k_is) rfl rfl rfl | fail "k_enter: no rule for these arguments"); (case c5 => decide); (case kB => exact locs rfl); (case c2 => exact rfl); (case c3 => exact rfl); (case c4 => exact rfl); k_whole; intro g' L' h' FG' F' N' B' X' T'; (try dsimp only); (try k_lift B'); (try k_fold))
  | (refine' code_defC ?k1 ?k2 ?k3 ?k4 ?k5 ?kA ?kF ?kK ?k6 ?k7 ?k8 ?k9 ?kB ?kD ?_ ?c2 ?c3 ?c4; (case kA => exact rfl); (case kF => exact rfl); (case kK => first | exact rfl | assumption); (case k1 => k_asm); (case k2 => k_asm); (case k3 => k_asm); (case k4 => k_asm); (case k5 => k_asm); (case k6 => k_is); (case k7 => k_is); (case k8 => ktr_room); (case k9 => first | exact BindsTo.of_eq rfl | exact binds_K (by k_in) rfl (by k_is) rfl rfl rfl | fail "k_enter: no rule for these arguments"); (case kB => exact rfl); (case kD => decide +kernel); (case c2 => exact rfl); (case c3 => exact rfl); (case c4 => exact rfl); k_whole; intro g' L' h' tk' cells' FG' F' N' Y' B' X' T' l1; (try k_lt l1); k_cells Y'; (try simp only [List.cons_append, List.nil_append] at N'); (try dsimp only); (try k_lift B'); (try k_fold)))
local macro_rules | `(tactic| walk) => `(tactic| ((try dsimp only); repeat (first | (k_unfold; (try dsimp only)) | ((fail_if_success (with_reducible refine ite_neg ?_ ?_)); (fail_if_success (with_reducible show UnrPost _ _ _ _ _ _ _ _ _)); walk1) | ((fail_if_success (with_reducible refine ite_neg ?_ ?_)); (fail_if_success (with_reducible show UnrPost _ _ _ _ _ _ _ _ _)); dsimp only; walk1))))
local macro_rules | `(tactic| k_units) => `(tactic| ktr_units)
local macro_rules | `(tactic| walk_at "call ref") => `(tactic| (k_here; k_dflt (refine' Mine.hb_callM (D := ?D) (a := ?a) (b := ?b) ?k1 ?k2 ?k3 ?k4 ?kK ?k5 ?mC ?my ?me ?mx ?md ?kI ?kl ?h1 ?h2 ?kd ?_; (case k1 => k_asm); (case k2 => k_asm); (case k3 => k_asm); (case k4 => k_asm); (case kK => first | exact rfl | assumption); (case k5 => k_asm); (case my => k_mem); (case me => k_mem); (case mx => k_mem); (case md => k_mem); (case mC => k_mem); (case kI => assumption); (case kl => assumption); (case h1 => first | assumption | omega); (case h2 => first | assumption | omega); (case kd => ktr_room)); intro y19 e19 R19 ta19 tb19 v19 h9 tk9 F9 N9 I19; (try dsimp only)))
local macro_rules | `(tactic| walk_at "call ref") => `(tactic| (k_here; k_dflt (refine' Mine.lb_callM (D := ?D) (a := ?a) (b := ?b) ?k1 ?k2 ?k3 ?k4 ?kK ?k5 ?mC ?my ?me ?mx ?md ?kI ?kl ?h1 ?h2 ?kd ?_; (case k1 => k_asm); (case k2 => k_asm); (case k3 => k_asm); (case k4 => k_asm); (case kK => first | exact rfl | assumption); (case k5 => k_asm); (case my => k_mem); (case me => k_mem); (case mx => k_mem); (case md => k_mem); (case mC => k_mem); (case kI => assumption); (case kl => assumption); (case h1 => first | assumption | omega); (case h2 => first | assumption | omega); (case kd => ktr_room)); intro y19 e19 R19 ta19 tb19 v19 h9 tk9 F9 N9 I19; (try dsimp only)))
local macro_rules | `(tactic| k_all) => `(tactic| ((refine' List.forall_mem_append.mpr ⟨?a9, ?b9⟩); (case a9 => k_all); (case b9 => k_all)))
local macro_rules | `(tactic| walk_at "no such key") => `(tactic| fail "none")
local macro_rules | `(tactic| walk_at "no such key") => `(tactic| fail "none")
local macro_rules | `(tactic| walk_at "no such key") => `(tactic| fail "none")
namespace Mine
theorem odd4 {pv : Program} {w : World} {loose : List Str} {mean : ExcName → Option Value} {mg mb : Str → Option Value} {h₀ : Heap} {L fa y1 e1 R1 y0 e0 R0 : Addr} {cd : Value} {s : Shared} {Q : Flow → Shared → Prop} {E : Value → Shared → Prop}
    {l C y e C0 D0 D x d a b : Addr} {tW tS t1 t2 t3 t4 t5 t6 t7 t8 t9 ta tb : Tok} {W S : Nat} {vs vs0 : List Value} {ns : List Int} {nn n0 : Nat} {o1 o2 : Obj} {pa : Array Value} {ta1 tb1 ta0 tb0 : Tok} {v1 v0 : List Value} {c1 c0 : Nat} {k : Int} {tk : Tok} {Dd : Addr} {ysd : List Value} {tl : List (Addr × Obj)}
    (K0 : Below callerA h₀ [] h₀) (X : (hd.heap_39 w.params).In h₀) (T : Top pv loose mean mg mb h₀) (I : IntsAre vs ns) (I0 : IntsAre vs0 ns) (hlen : ns.length = 256)
    (F : Fr h₀ L s.heap (fun z => if z = Str.ofString "second" then some (.ref y0) else if z = Str.ofString "first" then some (.ref y1) else (fun z => if z = Str.ofString "due" then some (.ref Dd) else (m5 L fa cd l D0 C0 x y W S tW tS) z) z)) (N : News h₀ L s.heap ((y1, instObj 559 e1) :: (e1, dictOf [⟨PyData.keyHash w.params (Str.ofString "parent"), .str (Str.ofString "parent") ta1, .ref x⟩, ⟨PyData.keyHash w.params (Str.ofString "coeffs"), .str (Str.ofString "coeffs") tb1, .ref R1⟩] 2) :: (R1, PySem.W.listOf v1.toArray c1) :: (y0, instObj 559 e0) :: (e0, dictOf [⟨PyData.keyHash w.params (Str.ofString "parent"), .str (Str.ofString "parent") ta0, .ref x⟩, ⟨PyData.keyHash w.params (Str.ofString "coeffs"), .str (Str.ofString "coeffs") tb0, .ref R0⟩] 2) :: (R0, PySem.W.listOf v0.toArray c0) :: (Dd, LCg.lst ysd) :: (485, tabObj pa) :: (C, { cls := .type "list", data := .seq vs.toArray nn }) :: (y, instObj 559 e) :: (e, dictOf [⟨PyData.keyHash w.params (Str.ofString "parent"), .str (Str.ofString "parent") ta, .ref x⟩, ⟨PyData.keyHash w.params (Str.ofString "coeffs"), .str (Str.ofString "coeffs") tb, .ref C⟩] 2) :: (x, instObj 427 d) :: (d, dictOf [⟨PyData.keyHash w.params (Str.ofString "q"), .str (Str.ofString "q") t1, .int 8380417 t2⟩, ⟨PyData.keyHash w.params (Str.ofString "n"), .str (Str.ofString "n") t3, .int 256 t4⟩, ⟨PyData.keyHash w.params (Str.ofString "shake128"), .str (Str.ofString "shake128") t5, .ref a⟩, ⟨PyData.keyHash w.params (Str.ofString "shake256"), .str (Str.ofString "shake256") t6, .ref b⟩, ⟨PyData.keyHash w.params (Str.ofString "ntt_zetas"), .str (Str.ofString "ntt_zetas") t7, .ref D⟩, ⟨PyData.keyHash w.params (Str.ofString "ntt_f"), .str (Str.ofString "ntt_f") t8, .int 8347681 t9⟩] 6) :: (C0, { cls := .type "list", data := .seq vs0.toArray n0 }) :: (L + 1 + 1, o2) :: (L + 1, o1) :: tl)) (hT : TupsAre tl ysd (ns.map (fun c => ((decomp c k 8380417).1, (decomp c k 8380417).2)))) (d2 : o2.data = .cell (some (.int k tk))) (hk : k = 190464 ∨ k = 523776)
    (ret : ∀ (h' : Heap) (tk' : Nat), Fr h₀ L h' (fun z => if z = Str.ofString "second" then some (.ref y0) else if z = Str.ofString "first" then some (.ref y1) else (fun z => if z = Str.ofString "due" then some (.ref Dd) else (m5 L fa cd l D0 C0 x y W S tW tS) z) z) → News h₀ L h' ((y1, instObj 559 e1) :: (e1, dictOf [⟨PyData.keyHash w.params (Str.ofString "parent"), .str (Str.ofString "parent") ta1, .ref x⟩, ⟨PyData.keyHash w.params (Str.ofString "coeffs"), .str (Str.ofString "coeffs") tb1, .ref R1⟩] 2) :: (R1, PySem.W.listOf v1.toArray c1) :: (y0, instObj 559 e0) :: (e0, dictOf [⟨PyData.keyHash w.params (Str.ofString "parent"), .str (Str.ofString "parent") ta0, .ref x⟩, ⟨PyData.keyHash w.params (Str.ofString "coeffs"), .str (Str.ofString "coeffs") tb0, .ref R0⟩] 2) :: (R0, PySem.W.listOf v0.toArray c0) :: (Dd, LCg.lst ysd) :: (485, tabObj pa) :: (C, { cls := .type "list", data := .seq vs.toArray nn }) :: (y, instObj 559 e) :: (e, dictOf [⟨PyData.keyHash w.params (Str.ofString "parent"), .str (Str.ofString "parent") ta, .ref x⟩, ⟨PyData.keyHash w.params (Str.ofString "coeffs"), .str (Str.ofString "coeffs") tb, .ref C⟩] 2) :: (x, instObj 427 d) :: (d, dictOf [⟨PyData.keyHash w.params (Str.ofString "q"), .str (Str.ofString "q") t1, .int 8380417 t2⟩, ⟨PyData.keyHash w.params (Str.ofString "n"), .str (Str.ofString "n") t3, .int 256 t4⟩, ⟨PyData.keyHash w.params (Str.ofString "shake128"), .str (Str.ofString "shake128") t5, .ref a⟩, ⟨PyData.keyHash w.params (Str.ofString "shake256"), .str (Str.ofString "shake256") t6, .ref b⟩, ⟨PyData.keyHash w.params (Str.ofString "ntt_zetas"), .str (Str.ofString "ntt_zetas") t7, .ref D⟩, ⟨PyData.keyHash w.params (Str.ofString "ntt_f"), .str (Str.ofString "ntt_f") t8, .int 8347681 t9⟩] 6) :: (C0, { cls := .type "list", data := .seq vs0.toArray n0 }) :: (L + 1 + 1, o2) :: (L + 1, o1) :: tl) → Q (.ret (.bool true)) { s with heap := h', toks := tk' }) :
    wpAny (model PySem.Challenge.rw_ix0026_01.row.prog w) (callerA.deeper (lawEnv L fa cd)) (execs (bodyFrom PySem.Challenge.rw_ix0026_01.row.prog 25 11) (lawEnv L fa cd)) Q E s := by
  (conv => enter [3, 1]; whnf)
  have hzl : ysd.toArray.size ≤ sizeLine := by
    rw [List.size_toArray, hT.1, List.length_map, hlen]; exact Nat.le_of_ble_eq_true rfl
  have hk1 : 0 < k := by omega
  have hk20 : k < 16777216 := by omega
  w_strict walk
  split
  · w_strict (iterate 15 (first | (k_unfold; (try dsimp only)) | walk1 | (dsimp only; walk1) | (leave1; (try dsimp only))))
    refine LCg.ListComp_U (F₀ := by k_asm) (by with_unfolding_all rfl) (by decide) (by rfl) (by decide) (by rfl) ?_
    w_strict (iterate 1 (first | (k_unfold; (try dsimp only)) | walk1 | (dsimp only; walk1) | (leave1; (try dsimp only))))
    refine LCg.CompSrc.ledger (by rfl) (by k_asm) (by k_asm) (by k_mem) hzl ?_
    intro g'
    refine comp_ints Prod.fst hT (fun p' a' u1' u2' I' oI' C' oC' D' m' zs' h' tk' E' hm' hC' hx' F' N' off' ne' => ?_) (fun zs hZ => ?_)
    · w_strict (iterate 3 (first | (k_unfold; (try dsimp only)) | walk1 | (dsimp only; walk1) | (leave1; (try dsimp only))))
      refine item_tuple (News.isTup N' (by repeat (first | exact hm' | refine List.mem_cons_of_mem _ ?_))) (by decide) (by decide) (j := 0) rfl rfl ?_
      w_strict (iterate 1 (first | (k_unfold; (try dsimp only)) | walk1 | (dsimp only; walk1) | (leave1; (try dsimp only))))
      exact kcf_el rfl rfl rfl
    unfold LCg.FinE
    intro Dz hz tkz Fz Nz oz
    dsimp only
    replace hZ : IntsAre zs (ns.map (fun c => (decomp c k 8380417).1)) := by rw [List.map_map] at hZ; exact hZ
    w_strict walk
    rename Fr h₀ _ _ _ => Fe
    rename News h₀ _ _ _ => Ne
    exact ret _ _ Fe (cb_drop Ne (by (repeat (first | exact List.forall_mem_nil _ | (refine List.forall_mem_cons.mpr ⟨by k_mem, ?_⟩) | (intro p hp; repeat (first | exact hp | exact List.mem_append_left _ hp | refine List.mem_cons_of_mem _ ?_))))))
  · w_strict (iterate 16 (first | (k_unfold; (try dsimp only)) | walk1 | (dsimp only; walk1) | (leave1; (try dsimp only))))
    refine LCg.ListComp_U (F₀ := by k_asm) (by with_unfolding_all rfl) (by decide) (by rfl) (by decide) (by rfl) ?_
    w_strict (iterate 1 (first | (k_unfold; (try dsimp only)) | walk1 | (dsimp only; walk1) | (leave1; (try dsimp only))))
    refine LCg.CompSrc.ledger (by rfl) (by k_asm) (by k_asm) (by k_mem) hzl ?_
    intro g'
    refine comp_ints Prod.snd hT (fun p' a' u1' u2' I' oI' C' oC' D' m' zs' h' tk' E' hm' hC' hx' F' N' off' ne' => ?_) (fun zs hZ => ?_)
    · w_strict (iterate 3 (first | (k_unfold; (try dsimp only)) | walk1 | (dsimp only; walk1) | (leave1; (try dsimp only))))
      refine item_tuple (News.isTup N' (by repeat (first | exact hm' | refine List.mem_cons_of_mem _ ?_))) (by decide) (by decide) (j := 1) rfl rfl ?_
      w_strict (iterate 1 (first | (k_unfold; (try dsimp only)) | walk1 | (dsimp only; walk1) | (leave1; (try dsimp only))))
      exact kcf_el rfl rfl rfl
    unfold LCg.FinE
    intro Dz hz tkz Fz Nz oz
    dsimp only
    replace hZ : IntsAre zs (ns.map (fun c => (decomp c k 8380417).2)) := by rw [List.map_map] at hZ; exact hZ
    w_strict walk
    rename Fr h₀ _ _ _ => Fe
    rename News h₀ _ _ _ => Ne
    exact ret _ _ Fe (cb_drop Ne (by (repeat (first | exact List.forall_mem_nil _ | (refine List.forall_mem_cons.mpr ⟨by k_mem, ?_⟩) | (intro p hp; repeat (first | exact hp | exact List.mem_append_left _ hp | refine List.mem_cons_of_mem _ ?_))))))
end Mine
end
noncomputable section
open PySem PySem.W PyProof.Rows PySem.Spec PySem.Calls
set_option Elab.async false
set_option maxRecDepth 100000
set_option maxHeartbeats 4000000
local macro_rules | `(tactic| k_room) => `(tactic| ktr_room)
local macro_rules | `(tactic| k_enter) => `(tactic| first
  | (refine' code_def ?k1 ?k2 ?k3 ?k4 ?k5 ?kA ?kF ?kK ?k6 ?k7 ?k8 ?k9 ?kB ?_ ?c2 ?c3 ?c4 ?c5; (case kA => exact rfl); (case kF => exact rfl); (case kK => first | exact rfl | assumption); (case k1 => k_asm); (case k2 => k_asm); (case k3 => k_asm); (case k4 => k_asm); (case k5 => k_asm); (case k6 => k_is); (case k7 => k_is); (case k8 => ktr_room); (case k9 => first | exact BindsTo.of_eq rfl | exact binds_K (by k_in) rfl (by k_is) rfl rfl rfl | fail "k_enter: no rule for these arguments"); (case c5 => decide); (case kB => exact locs rfl); (case c2 => exact rfl); (case c3 => exact rfl); (case c4 => exact rfl); k_whole; intro g' L' h' FG' F' N' B' X' T'; (try dsimp only); (try k_lift B'); (try k_fold))
  | (refine' code_defC ?k1 ?k2 ?k3 ?k4 ?k5 ?kA ?kF ?kK ?k6 ?k7 ?k8 ?k9 ?kB ?kD ?_ ?c2 ?c3 ?c4; (case kA => exact rfl); (case kF => exact rfl); (case kK => first | exact rfl | assumption); (case k1 => k_asm); (case k2 => k_asm); (case k3 => k_asm); (case k4 => k_asm); (case k5 => k_asm); (case k6 => k_is); (case k7 => k_is); (case k8 => ktr_room); (case k9 => first | exact BindsTo.of_eq rfl | exact binds_K (by k_in) rfl (by k_is) rfl rfl rfl | fail "k_enter: no rule for these arguments"); (case kB => exact rfl); (case kD => decide +kernel); (case c2 => exact rfl); (case c3 => exact rfl); (case c4 => exact rfl); k_whole; intro g' L' h' tk' cells' FG' F' N' Y' B' X' T' l1; (try k_lt l1); k_cells Y'; (try simp only [List.cons_append, List.nil_append] at N'); (try dsimp only); (try k_lift B'); (try k_fold)))
local macro_rules | `(tactic| walk) => `(tactic| ((try dsimp only); repeat (first | (k_unfold; (try dsimp only)) | ((fail_if_success (with_reducible refine ite_neg ?_ ?_)); (fail_if_success (with_reducible show UnrPost _ _ _ _ _ _ _ _ _)); walk1) | ((fail_if_success (with_reducible refine ite_neg ?_ ?_)); (fail_if_success (with_reducible show UnrPost _ _ _ _ _ _ _ _ _)); dsimp only; walk1))))
local macro_rules | `(tactic| k_units) => `(tactic| ktr_units)
local macro_rules | `(tactic| k_all) => `(tactic| ((refine' List.forall_mem_append.mpr ⟨?a9, ?b9⟩); (case a9 => k_all); (case b9 => k_all)))
namespace Mine
theorem ne_cell {o : Obj} {v : Option Value} (e : o.data = .cell v) : ∀ ps, o ≠ tabObj ps := fun ps h => by rw [h] at e; cases e
theorem even_all {pv : Program} {w : World} {loose : List Str} {mean : ExcName → Option Value} {mg mb : Str → Option Value} {h₀ : Heap} {L fa : Addr} {cd : Value} {s : Shared} {Q : Flow → Shared → Prop} {E : Value → Shared → Prop}
    {l C y e C0 D0 D x d a b : Addr} {tW tS t1 t2 t3 t4 t5 t6 t7 t8 t9 ta tb : Tok} {W S : Nat} {vs vs0 : List Value} {ns : List Int} {nn n0 : Nat} {o1 o2 : Obj} {pa : Array Value}
    (K0 : Below callerA h₀ [] h₀) (X : (hd.heap_39 w.params).In h₀) (T : Top pv loose mean mg mb h₀) (I : IntsAre vs ns) (I0 : IntsAre vs0 ns) (hlen : ns.length = 256)
    (F : Fr h₀ L s.heap (m5 L fa cd l D0 C0 x y W S tW tS)) (N : News h₀ L s.heap ((485, tabObj pa) :: (C, { cls := .type "list", data := .seq vs.toArray nn }) :: (y, instObj 559 e) :: (e, dictOf [⟨PyData.keyHash w.params (Str.ofString "parent"), .str (Str.ofString "parent") ta, .ref x⟩, ⟨PyData.keyHash w.params (Str.ofString "coeffs"), .str (Str.ofString "coeffs") tb, .ref C⟩] 2) :: (x, instObj 427 d) :: (d, dictOf [⟨PyData.keyHash w.params (Str.ofString "q"), .str (Str.ofString "q") t1, .int 8380417 t2⟩, ⟨PyData.keyHash w.params (Str.ofString "n"), .str (Str.ofString "n") t3, .int 256 t4⟩, ⟨PyData.keyHash w.params (Str.ofString "shake128"), .str (Str.ofString "shake128") t5, .ref a⟩, ⟨PyData.keyHash w.params (Str.ofString "shake256"), .str (Str.ofString "shake256") t6, .ref b⟩, ⟨PyData.keyHash w.params (Str.ofString "ntt_zetas"), .str (Str.ofString "ntt_zetas") t7, .ref D⟩, ⟨PyData.keyHash w.params (Str.ofString "ntt_f"), .str (Str.ofString "ntt_f") t8, .int 8347681 t9⟩] 6) :: (C0, { cls := .type "list", data := .seq vs0.toArray n0 }) :: (L + 1 + 1, o2) :: (L + 1, o1) :: [])) (d1 : o1.data = .cell none) (d2 : o2.data = .cell none)
    (p1 : @Ne Nat 485 (L + 1) ∧ @Ne Nat C (L + 1) ∧ @Ne Nat y (L + 1) ∧ @Ne Nat e (L + 1) ∧ @Ne Nat x (L + 1) ∧ @Ne Nat d (L + 1) ∧ @Ne Nat C0 (L + 1)) (p2 : @Ne Nat 485 (L + 1 + 1) ∧ @Ne Nat C (L + 1 + 1) ∧ @Ne Nat y (L + 1 + 1) ∧ @Ne Nat e (L + 1 + 1) ∧ @Ne Nat x (L + 1 + 1) ∧ @Ne Nat d (L + 1 + 1) ∧ @Ne Nat C0 (L + 1 + 1))
    (CD : CodeHd h₀ 489 485) (hG : AllBare s.gens) (ht : TriplesOk pa.toList)
    (ret : ∀ (s' : Shared) (m' : Str → Option Value) (pc : Array Value), Fr h₀ L s'.heap m' → News h₀ L s'.heap [(485, tabObj pc)] → AllBare s'.gens → s'.os = s.os → Q (.ret (.bool true)) s') :
    wpAny (model PySem.Challenge.rw_ix0026_01.row.prog w) (callerA.deeper (lawEnv L fa cd)) (execs (thenOf (stmtAt PySem.Challenge.rw_ix0026_01.row.prog 25 6)) (lawEnv L fa cd)) Q E s := by
  refine even1 K0 X T I I0 hlen F N d1 p1 p2 ?_
  intro k tk o1' Dd ysd tl h1 tk1 hk1 hk20 e1 hT F1 N1
  refine even2 (k := k) (tk := tk) K0 X T I I0 hlen F1 N1 e1 hk1 hk20 ?_
  intro y1 e1a R1 y0 e0 R0 ta1 tb1 ta0 tb0 v1 v0 c1 c0 h2 tk2 F2 N2 J1 J0
  refine even3 (k := k) (tk := tk) K0 X T I I0 hlen F2 N2 ?_
  intro nm tm h3 tk3 hm hM F3 N3
  refine even4 (k := k) (tk := tk) K0 X T I I0 hlen F3 N3 ?_
  intro bd tB h4 tk4 F4 N4
  refine even5 (k := k) (tk := tk) K0 X T I I0 hlen F4 N4 hm hM hT.2.2 (ne_cell e1) (ne_cell d2) CD hG ht ?_
  intro s5 pc F5 N5 hG5 ho5
  refine even6 (k := k) (tk := tk) K0 X T I I0 hlen F5 N5 hT J1 J0 ?_
  intro h6 tk6 F6 N6
  exact ret _ _ pc F6 (cb_drop N6 (List.forall_mem_cons.mpr ⟨by k_mem, List.forall_mem_nil _⟩)) hG5 ho5
theorem odd_all {pv : Program} {w : World} {loose : List Str} {mean : ExcName → Option Value} {mg mb : Str → Option Value} {h₀ : Heap} {L fa : Addr} {cd : Value} {s : Shared} {Q : Flow → Shared → Prop} {E : Value → Shared → Prop}
    {l C y e C0 D0 D x d a b : Addr} {tW tS t1 t2 t3 t4 t5 t6 t7 t8 t9 ta tb : Tok} {W S : Nat} {vs vs0 : List Value} {ns : List Int} {nn n0 : Nat} {o1 o2 : Obj} {pa : Array Value}
    (K0 : Below callerA h₀ [] h₀) (X : (hd.heap_39 w.params).In h₀) (T : Top pv loose mean mg mb h₀) (I : IntsAre vs ns) (I0 : IntsAre vs0 ns) (hlen : ns.length = 256)
    (F : Fr h₀ L s.heap (m5 L fa cd l D0 C0 x y W S tW tS)) (N : News h₀ L s.heap ((485, tabObj pa) :: (C, { cls := .type "list", data := .seq vs.toArray nn }) :: (y, instObj 559 e) :: (e, dictOf [⟨PyData.keyHash w.params (Str.ofString "parent"), .str (Str.ofString "parent") ta, .ref x⟩, ⟨PyData.keyHash w.params (Str.ofString "coeffs"), .str (Str.ofString "coeffs") tb, .ref C⟩] 2) :: (x, instObj 427 d) :: (d, dictOf [⟨PyData.keyHash w.params (Str.ofString "q"), .str (Str.ofString "q") t1, .int 8380417 t2⟩, ⟨PyData.keyHash w.params (Str.ofString "n"), .str (Str.ofString "n") t3, .int 256 t4⟩, ⟨PyData.keyHash w.params (Str.ofString "shake128"), .str (Str.ofString "shake128") t5, .ref a⟩, ⟨PyData.keyHash w.params (Str.ofString "shake256"), .str (Str.ofString "shake256") t6, .ref b⟩, ⟨PyData.keyHash w.params (Str.ofString "ntt_zetas"), .str (Str.ofString "ntt_zetas") t7, .ref D⟩, ⟨PyData.keyHash w.params (Str.ofString "ntt_f"), .str (Str.ofString "ntt_f") t8, .int 8347681 t9⟩] 6) :: (C0, { cls := .type "list", data := .seq vs0.toArray n0 }) :: (L + 1 + 1, o2) :: (L + 1, o1) :: [])) (d1 : o1.data = .cell none) (d2 : o2.data = .cell none)
    (p1 : @Ne Nat 485 (L + 1) ∧ @Ne Nat C (L + 1) ∧ @Ne Nat y (L + 1) ∧ @Ne Nat e (L + 1) ∧ @Ne Nat x (L + 1) ∧ @Ne Nat d (L + 1) ∧ @Ne Nat C0 (L + 1)) (p2 : @Ne Nat 485 (L + 1 + 1) ∧ @Ne Nat C (L + 1 + 1) ∧ @Ne Nat y (L + 1 + 1) ∧ @Ne Nat e (L + 1 + 1) ∧ @Ne Nat x (L + 1 + 1) ∧ @Ne Nat d (L + 1 + 1) ∧ @Ne Nat C0 (L + 1 + 1))
    (hG : AllBare s.gens)
    (ret : ∀ (s' : Shared) (m' : Str → Option Value) (pc : Array Value), Fr h₀ L s'.heap m' → News h₀ L s'.heap [(485, tabObj pc)] → AllBare s'.gens → s'.os = s.os → Q (.ret (.bool true)) s') :
    wpAny (model PySem.Challenge.rw_ix0026_01.row.prog w) (callerA.deeper (lawEnv L fa cd)) (execs (bodyFrom PySem.Challenge.rw_ix0026_01.row.prog 25 7) (lawEnv L fa cd)) Q E s := by
  refine odd1 K0 X T I I0 hlen F N d2 p1 p2 ?_
  intro k tk o2' Dd ysd tl h1 tk1 hk e2 hT F1 N1
  refine odd2 (k := k) (tk := tk) K0 X T I I0 hlen F1 N1 e2 hk ?_
  intro y1 e1a R1 y0 e0 R0 ta1 tb1 ta0 tb0 v1 v0 c1 c0 h2 tk2 F2 N2 J1 J0
  refine odd3 (k := k) (tk := tk) K0 X T I I0 hlen F2 N2 hT J1 J0 ?_
  intro h3 tk3 F3 N3
  refine odd4 (k := k) (tk := tk) K0 X T I I0 hlen F3 N3 hT e2 hk ?_
  intro h4 tk4 F4 N4
  exact ret _ _ pa F4 (cb_drop N4 (List.forall_mem_cons.mpr ⟨by k_mem, List.forall_mem_nil _⟩)) hG rfl
end Mine
end
noncomputable section
open PySem PySem.W PyProof.Rows PySem.Spec PySem.Calls
local macro_rules | `(tactic| walk_at "no such key") => `(tactic| fail "none")
namespace Mine
theorem endWG {c : ClaimW} {cl : Str → Option Addr} {mean : ExcName → Option Value} {args : List WData} {s₁ s' : Shared} {L : Addr} {m : Str → Option Value} {tabs : List (Addr × Addr)} {b : Bool}
    (hT : TabsAt tabs s₁.heap) (F : Fr (ghostOf s₁.heap tabs) L s'.heap m) (hG : AllBare s'.gens) (hgr : GrownAll tabs s'.heap)
    (hn : ∀ cls, c.raises args cls = false) (hp : c.post args (.bool b) args = true) (hos : s'.os = s₁.os) : GoodWG c cl mean args s₁ (.ok (.ret (.bool b))) s' := by
  have keep : ∀ b o, b ∉ tabs.map (·.2) → s₁.heap.get? b = some o → s'.heap.get? b = some o := fun b o hb e => F.keep b o (ghost_ne e hb)
  have grown : ∀ b o, b ∈ tabs.map (·.2) → s₁.heap.get? b = some o → isCodeTable s₁.heap b ∧ o = tabObj #[] ∧ ∃ ps, s'.heap.get? b = some (tabObj ps) := fun b o hb e => by
    obtain ⟨q, hq, rfl⟩ := List.mem_map.mp hb
    have e2 := (hT q hq).2
    rw [e] at e2
    exact ⟨((hT q hq).1.tab (hT q hq).2).isCodeTable, Option.some.inj e2, hgr.get q hq⟩
  refine ⟨.inl ⟨_, .bool b, [], rfl, hn, .bool b, hp, unshared_nil⟩, ⟨fun a o e => ?_, fun a o e => ?_⟩, hos, hG⟩
  · by_cases hb : a ∈ tabs.map (·.2)
    · obtain ⟨ht, rfl, ps, hP⟩ := grown a o hb e
      exact .inr (.inl ⟨ht, rfl, #[], ps, rfl, by rw [Array.empty_append]; exact hP⟩)
    · exact .inl (keep a o hb e)
  · by_cases hb : a ∈ tabs.map (·.2)
    · obtain ⟨_, _, ps, hP⟩ := grown a o hb e
      exact ⟨_, hP⟩
    · exact ⟨o, keep a o hb e⟩
end Mine
end
noncomputable section
open PySem PySem.W PyProof.Rows PySem.Spec PySem.Calls
set_option Elab.async false
set_option maxRecDepth 100000
set_option maxHeartbeats 4000000
local macro_rules | `(tactic| k_room) => `(tactic| ktr_room)
local macro_rules | `(tactic| k_enter) => `(tactic| first
  | (refine' code_def ?k1 ?k2 ?k3 ?k4 ?k5 ?kA ?kF ?kK ?k6 ?k7 ?k8 ?k9 ?kB ?_ ?c2 ?c3 ?c4 ?c5; (case kA => exact rfl); (case kF => exact rfl); (case kK => first | exact rfl | assumption); (case k1 => k_asm); (case k2 => k_asm); (case k3 => k_asm); (case k4 => k_asm); (case k5 => k_asm); (case k6 => k_is); (case k7 => k_is); (case k8 => ktr_room); (case k9 => first | exact BindsTo.of_eq rfl | exact binds_K (by k_in) rfl (by k_is) rfl rfl rfl | fail "k_enter: no rule for these arguments"); (case c5 => decide); (case kB => exact locs rfl); (case c2 => exact rfl); (case c3 => exact rfl); (case c4 => exact rfl); k_whole; intro g' L' h' FG' F' N' B' X' T'; (try dsimp only); (try k_lift B'); (try k_fold))
  | (refine' code_defC ?k1 ?k2 ?k3 ?k4 ?k5 ?kA ?kF ?kK ?k6 ?k7 ?k8 ?k9 ?kB ?kD ?_ ?c2 ?c3 ?c4; (case kA => exact rfl); (case kF => exact rfl); (case kK => first | exact rfl | assumption); (case k1 => k_asm); (case k2 => k_asm); (case k3 => k_asm); (case k4 => k_asm); (case k5 => k_asm); (case k6 => k_is); (case k7 => k_is); (case k8 => ktr_room); (case k9 => first | exact BindsTo.of_eq rfl | exact binds_K (by k_in) rfl (by k_is) rfl rfl rfl | fail "k_enter: no rule for these arguments"); (case kB => exact rfl); (case kD => decide +kernel); (case c2 => exact rfl); (case c3 => exact rfl); (case c4 => exact rfl); k_whole; intro g' L' h' tk' cells' FG' F' N' Y' B' X' T' l1; (try k_lt l1); k_cells Y'; (try simp only [List.cons_append, List.nil_append] at N'); (try dsimp only); (try k_lift B'); (try k_fold)))
local macro_rules | `(tactic| walk) => `(tactic| ((try dsimp only); repeat (first | (k_unfold; (try dsimp only)) | ((fail_if_success (with_reducible refine ite_neg ?_ ?_)); (fail_if_success (with_reducible show UnrPost _ _ _ _ _ _ _ _ _)); walk1) | ((fail_if_success (with_reducible refine ite_neg ?_ ?_)); (fail_if_success (with_reducible show UnrPost _ _ _ _ _ _ _ _ _)); dsimp only; walk1))))
local macro_rules | `(tactic| k_units) => `(tactic| ktr_units)
local macro_rules | `(tactic| k_all) => `(tactic| ((refine' List.forall_mem_append.mpr ⟨?a9, ?b9⟩); (case a9 => k_all); (case b9 => k_all)))
local macro_rules | `(tactic| walk_at "MidI") => `(tactic| (k_dflt (refine' Mine.MidI.done ?k1 ?k2 ?k3 ?k4; (case k1 => assumption); (case k2 => assumption); (case k3 => kcj_all); (case k4 => first | omega | decide | (exact Int.natCast_nonneg _)))))
local macro_rules | `(tactic| walk_at "call ref") => `(tactic| (k_here; k_dflt (refine' Mine.ring_listM (D := ?D) (a := ?a) (b := ?b) ?k1 ?k2 ?k3 ?k4 ?kK ?k5 ?ml ?mx ?md ?kI ?kl ?kd ?_; (case k1 => k_asm); (case k2 => k_asm); (case k3 => k_asm); (case k4 => k_asm); (case kK => first | exact rfl | assumption); (case k5 => k_asm); (case ml => k_mem); (case mx => k_mem); (case md => k_mem); (case kI => assumption); (case kl => ((try simp only [List.length_map, List.length_take]); omega)); (case kd => ktr_room)); intro y9 e9 ta9 tb9 h9 tk9 F9 N9 l9 l8; (try dsimp only); (try k_lt l9)))
theorem PySem.Challenge.cw_ix0026_01_holds : PySem.Challenge.rw_ix0026_01.Holds := by
  w_on
  refine holds_law Mine.said01 fun said => ?_
  refine holds_open (q := Mine.hd.view_39) (loose := [Str.ofString "decompose_utils", Str.ofString "high_bits_utils", Str.ofString "low_bits_utils", Str.ofString "check_norm_bound_utils", Str.ofString "PolynomialRing", Str.ofString "Polynomial"]) (Xt := fun s => xlAt Mine.hd.view_39 [] s && recOk PySem.Challenge.rw_ix0026_01.row.records s) (XP := XL Mine.hd.view_39 []) (Yf := Hook.obs Mine.hkT) (Ya := Hook.val Mine.hkT) (YP := Hook.says Mine.hkT) (N := 8558) Mine.left_top (Hook.of Mine.hkT) (Hook.keeps Mine.hkT) (fun s e => xl_of s (Bool.and_eq_true_iff.mp e).1) XL.keeps (by rfl) (by rfl) (by rfl) (fun s e => recFacts_of (Bool.and_eq_true_iff.mp e).2) (by rfl) (by first | assumption | decide +kernel) (by decide +kernel) ⟨rfl, rfl, rfl, rfl, rfl, by decide +kernel⟩ ?hw ?hc
  case hw => w_witness2
  w_strict (
    k_fill
    intro w s₀ s₁ mg mb G Y fa o pm cd doc dV kV ho hd hcd hD hmg hg args vals as hpre hlay hrd hwl hlo
    have KX := km_in_of Y
    have hT8 := km_tabs_of Y
    have X := (Ground.X G).1
    have V := (Ground.X G).2
    refine Ground.open G ?_
    intro T B D TE TW
    try (refine guard_noD D (by decide +kernel) ?_; clear D)
    have hT9 : TabsAt [(489, 485)] s₁.heap := List.forall_mem_cons.mpr ⟨⟨codeHd_of_K (c := 489) (P := 485) KX (by kernel_rfl), hT8 485 (by k_mem)⟩, fun _ h => nomatch h⟩
    clear hmg
    wrow_args hpre hlay hrd hwl hlo)
  all_goals w_strict (
    first | refine callC_kw (enter_call ?_) | refine enter_call ?_
    w_top on
    w_call any ho hd hcd hD T F
    clear hd
    have K0 := below_caller s₁.heap)
  w_strict ((all_goals try k_fold))
  w_strict (iterate 1 (first | (k_unfold; (try dsimp only)) | walk1 | (dsimp only; walk1) | (leave1; (try dsimp only))))
  refine Mine.mid_int (Str.ofString "which") (by k_asm) (by k_asm) ?stmt0 ?rest0
  case stmt0 =>
    w_strict k_steps
  intro W tW h1 tk1 F1 N1
  w_strict (iterate 1 (first | (k_unfold; (try dsimp only)) | walk1 | (dsimp only; walk1) | (leave1; (try dsimp only))))
  refine Mine.mid_int (Str.ofString "size") (by k_asm) (by k_asm) ?stmt1 ?rest1
  case stmt1 =>
    w_strict k_steps
  intro S tS h2 tk2 F2 N2
  w_strict (iterate 1 (first | (k_unfold; (try dsimp only)) | walk1 | (dsimp only; walk1) | (leave1; (try dsimp only))))
  refine Mine.mid_list (Str.ofString "drawn") (fun ps => ps.length ≤ 61) (by k_asm) (by k_asm) ?stmt2 ?rest2
  case stmt2 =>
    w_strict k_steps
    rename IntsAre _ (List.take _ _) => I9
    refine Mine.MidL.done (by assumption) (by assumption) (by kcj_all) I9 ?_ ?_
    · simp only [List.length_take, List.length_drop]; omega
    · simp only [Mine.AllNe, and_true]; omega
  intro D0 vs0 ns0 n0 h3 tk3 F3 N3 I3 c3 l3
  simp only [Mine.AllNe, and_true] at l3
  w_strict (iterate 1 (first | (k_unfold; (try dsimp only)) | walk1 | (dsimp only; walk1) | (leave1; (try dsimp only))))
  refine Mine.mid_list (Str.ofString "coefficients") (fun ps => ps.length = 256) (by k_asm) (by k_asm) ?stmt3 ?rest3
  case stmt3 =>
    w_strict k_steps
    rename IntsAre _ _ => I9
    refine Mine.MidL.done (by assumption) (by assumption) (by kcj_all) I9 ?_ ?_
    · simp only [List.length_append, List.length_map, rangeKs_length]; omega
    · simp only [Mine.AllNe, and_true]; omega
  intro C0 vsC nsC nC h4 tk4 F4 N4 I4 c4 l4
  simp only [Mine.AllNe, and_true] at l4
  w_strict (iterate 11 (first | (k_unfold; (try dsimp only)) | walk1 | (dsimp only; walk1) | (leave1; (try dsimp only))))
  refine' Mine.ring_make ?k1 ?k2 ?k3 ?k4 ?k5 ?kK ?kd ?_
  case k1 => k_asm
  case k2 => k_asm
  case k3 => k_asm
  case k4 => exact cb_drop N4 (show ∀ p ∈ [(C0, _), (s₁.heap.objs.size + 1 + 1, _), (s₁.heap.objs.size + 1, _)], p ∈ _ by kcj_all)
  case k5 => k_asm
  case kK => exact rfl
  case kd => ktr_room
  intro xR dR DR aR bR q1 q2 q3 q4 q5 q6 q7 q8 q9 ys hR tkR FR NR IR r1 r2 r3 r4 r5
  dsimp only
  k_sweep
  (try clear N4); (try clear F4); (try clear N3); (try clear F3); (try clear N2); (try clear F2); (try clear N1); (try clear F1)
  w_strict walk
  rename Fr _ _ _ _ => F5
  rename News _ _ _ _ => N5
  rename_i D5 ws5 ha hI5 hL5 hC5 l5 y5 e5 ta5 tb5 h9 tk9 l8 l9 hb
  have C8 := ghost_code hT9
  have X8 := ghost_K hT9 KX (by kernel_rfl)
  have T8 := ghost_top hT9 T
  have N8 := ghost_news hT9 F5 N5
  have F8 := ghost_fr hT9 F5
  simp only [tabNews, List.map_cons, List.map_nil, List.nil_append, List.cons_append] at N8
  have h485 : @LT.lt Nat _ 485 s₁.heap.objs.size := Heap.lt_size (hT8 485 (by k_mem))
  have P1 : @Ne Nat 485 (s₁.heap.objs.size + 1) ∧ @Ne Nat D5 (s₁.heap.objs.size + 1) ∧ @Ne Nat y5 (s₁.heap.objs.size + 1) ∧ @Ne Nat e5 (s₁.heap.objs.size + 1) ∧ @Ne Nat xR (s₁.heap.objs.size + 1) ∧ @Ne Nat dR (s₁.heap.objs.size + 1) ∧ @Ne Nat C0 (s₁.heap.objs.size + 1) := by
    refine ⟨?_, ?_, ?_, ?_, ?_, ?_, ?_⟩ <;> omega
  have P2 : @Ne Nat 485 (s₁.heap.objs.size + 1 + 1) ∧ @Ne Nat D5 (s₁.heap.objs.size + 1 + 1) ∧ @Ne Nat y5 (s₁.heap.objs.size + 1 + 1) ∧ @Ne Nat e5 (s₁.heap.objs.size + 1 + 1) ∧ @Ne Nat xR (s₁.heap.objs.size + 1 + 1) ∧ @Ne Nat dR (s₁.heap.objs.size + 1 + 1) ∧ @Ne Nat C0 (s₁.heap.objs.size + 1 + 1) := by
    refine ⟨?_, ?_, ?_, ?_, ?_, ?_, ?_⟩ <;> omega
  have hG5 : AllBare s₁.gens := .of_eq hg
  split
  · with_unfolding_all refine' Mine.even_all (w := w) (fa := fa) (cd := cd) (pa := #[]) (C := D5) (y := y5) (e := e5) (C0 := C0) (D0 := D0) (D := DR) (x := xR) (d := dR) (a := aR) (b := bR) (W := W) (S := S) (vs := ws5) (vs0 := vsC) (ns := nsC) (ghost_below hT9) X8 T8 hI5 I4 c4 F8 (cb_drop N8 ?n) ?d1 ?d2 P1 P2 C8.1 hG5 True.intro ?_
    case n => kcj_all
    case d1 => assumption
    case d2 => assumption
    intro s6 m6 pc F6 N6 G6 O6
    dsimp only
    exact Mine.endWG hT9 F6 G6 ⟨GrownAt.of N6 (by k_mem), trivial⟩ (raisesW_false (by wrow_none_raised)) (postW_of (by wrow_shape) (by wtm_val) (by str_meet; first | done | w_fin)) O6
  · w_strict (iterate 1 (first | (k_unfold; (try dsimp only)) | walk1 | (dsimp only; walk1) | (leave1; (try dsimp only))))
    with_unfolding_all refine' Mine.odd_all (w := w) (fa := fa) (cd := cd) (pa := #[]) (C := D5) (y := y5) (e := e5) (C0 := C0) (D0 := D0) (D := DR) (x := xR) (d := dR) (a := aR) (b := bR) (W := W) (S := S) (vs := ws5) (vs0 := vsC) (ns := nsC) (ghost_below hT9) X8 T8 hI5 I4 c4 F8 (cb_drop N8 ?n2) ?d3 ?d4 P1 P2 hG5 ?_
    case n2 => kcj_all
    case d3 => assumption
    case d4 => assumption
    intro s6 m6 pc F6 N6 G6 O6
    dsimp only
    exact Mine.endWG hT9 F6 G6 ⟨GrownAt.of N6 (by k_mem), trivial⟩ (raisesW_false (by wrow_none_raised)) (postW_of (by wrow_shape) (by wtm_val) (by str_meet; first | done | w_fin)) O6
end
