import PyProof.Rows.All
import Wide.All
import OpenK.AllK
import Wide.FinOn
import Lean
import PySem.Challenge.RW_pg0286_01
open PySem PySem.W PyProof.Rows
set_option Elab.async false
set_option maxRecDepth 100000
set_option maxHeartbeats 8000000
namespace Mine
noncomputable def cell : Nat → List Stmt → Stmt
  | 0, s :: _ => s
  | n + 1, _ :: l => cell n l
  | _, [] => default
noncomputable def argsOf : Stmt → Arguments
  | .FunctionDef _ a _ _ _ _ _ _ _ _ => a
  | _ => default
noncomputable def bodyOf : Stmt → List Stmt
  | .FunctionDef _ _ b _ _ _ _ _ _ _ => b
  | .ClassDef _ _ _ b _ _ _ _ _ _ _ => b
  | _ => []
noncomputable def scopeOf : Stmt → Scope
  | .FunctionDef _ _ _ _ _ _ s _ _ _ => s
  | _ => default
noncomputable def top : List Stmt := PySem.Challenge.rw_pg0286_01.prog.main.body

noncomputable def c0 : Stmt := by
  refine' (?f : (q : Stmt) → q = (cell 0 top) → Stmt) _ ?h
  case f => exact fun q _ => q
  case h => (conv => rhs; whnf) <;> exact rfl

noncomputable def c1 : Stmt := by
  refine' (?f : (q : Stmt) → q = (cell 1 top) → Stmt) _ ?h
  case f => exact fun q _ => q
  case h => (conv => rhs; whnf) <;> exact rfl

noncomputable def c3 : Stmt := by
  refine' (?f : (q : Stmt) → q = (cell 3 top) → Stmt) _ ?h
  case f => exact fun q _ => q
  case h => (conv => rhs; whnf) <;> exact rfl

noncomputable def c4 : Stmt := by
  refine' (?f : (q : Stmt) → q = (cell 4 top) → Stmt) _ ?h
  case f => exact fun q _ => q
  case h => (conv => rhs; whnf) <;> exact rfl

noncomputable def c5 : Stmt := by
  refine' (?f : (q : Stmt) → q = (cell 5 top) → Stmt) _ ?h
  case f => exact fun q _ => q
  case h => (conv => rhs; whnf) <;> exact rfl

noncomputable def c7 : Stmt := by
  refine' (?f : (q : Stmt) → q = (cell 7 top) → Stmt) _ ?h
  case f => exact fun q _ => q
  case h => (conv => rhs; whnf) <;> exact rfl

noncomputable def c8 : Stmt := by
  refine' (?f : (q : Stmt) → q = (cell 8 top) → Stmt) _ ?h
  case f => exact fun q _ => q
  case h => (conv => rhs; whnf) <;> exact rfl

noncomputable def c10 : Stmt := by
  refine' (?f : (q : Stmt) → q = (cell 10 top) → Stmt) _ ?h
  case f => exact fun q _ => q
  case h => (conv => rhs; whnf) <;> exact rfl

noncomputable def c11 : Stmt := by
  refine' (?f : (q : Stmt) → q = (cell 11 top) → Stmt) _ ?h
  case f => exact fun q _ => q
  case h => (conv => rhs; whnf) <;> exact rfl

noncomputable def c12 : Stmt := by
  refine' (?f : (q : Stmt) → q = (cell 12 top) → Stmt) _ ?h
  case f => exact fun q _ => q
  case h => (conv => rhs; whnf) <;> exact rfl

noncomputable def c14 : Stmt := by
  refine' (?f : (q : Stmt) → q = (cell 14 top) → Stmt) _ ?h
  case f => exact fun q _ => q
  case h => (conv => rhs; whnf) <;> exact rfl

noncomputable def c16 : Stmt := by
  refine' (?f : (q : Stmt) → q = (cell 16 top) → Stmt) _ ?h
  case f => exact fun q _ => q
  case h => (conv => rhs; whnf) <;> exact rfl

noncomputable def c17 : Stmt := by
  refine' (?f : (q : Stmt) → q = (cell 17 top) → Stmt) _ ?h
  case f => exact fun q _ => q
  case h => (conv => rhs; whnf) <;> exact rfl

noncomputable def c18 : Stmt := by
  refine' (?f : (q : Stmt) → q = (cell 18 top) → Stmt) _ ?h
  case f => exact fun q _ => q
  case h => (conv => rhs; whnf) <;> exact rfl

noncomputable def c19 : Stmt := by
  refine' (?f : (q : Stmt) → q = (cell 19 top) → Stmt) _ ?h
  case f => exact fun q _ => q
  case h => (conv => rhs; whnf) <;> exact rfl

noncomputable def c20 : Stmt := by
  refine' (?f : (q : Stmt) → q = (cell 20 top) → Stmt) _ ?h
  case f => exact fun q _ => q
  case h => (conv => rhs; whnf) <;> exact rfl

noncomputable def c21 : Stmt := by
  refine' (?f : (q : Stmt) → q = (cell 21 top) → Stmt) _ ?h
  case f => exact fun q _ => q
  case h => (conv => rhs; whnf) <;> exact rfl

noncomputable def c22 : Stmt := by
  refine' (?f : (q : Stmt) → q = (cell 22 top) → Stmt) _ ?h
  case f => exact fun q _ => q
  case h => (conv => rhs; whnf) <;> exact rfl

noncomputable def c23 : Stmt := by
  refine' (?f : (q : Stmt) → q = (cell 23 top) → Stmt) _ ?h
  case f => exact fun q _ => q
  case h => (conv => rhs; whnf) <;> exact rfl

noncomputable def c24 : Stmt := by
  refine' (?f : (q : Stmt) → q = (cell 24 top) → Stmt) _ ?h
  case f => exact fun q _ => q
  case h => (conv => rhs; whnf) <;> exact rfl

noncomputable def f1_params : Arguments := by
  refine' (?f : (q : Arguments) → q = (argsOf (cell 1 top)) → Arguments) _ ?h
  case f => exact fun q _ => q
  case h => (conv => rhs; whnf) <;> exact rfl

noncomputable def f1_scope : Scope := by
  refine' (?f : (q : Scope) → q = (scopeOf (cell 1 top)) → Scope) _ ?h
  case f => exact fun q _ => q
  case h => (conv => rhs; whnf) <;> exact rfl

noncomputable def f1_body : List Stmt := by
  refine' (?f : (q : List Stmt) → q = (bodyOf (cell 1 top)) → List Stmt) _ ?h
  case f => exact fun q _ => q
  case h => (conv => rhs; whnf) <;> exact rfl

noncomputable def f3_params : Arguments := by
  refine' (?f : (q : Arguments) → q = (argsOf (cell 3 top)) → Arguments) _ ?h
  case f => exact fun q _ => q
  case h => (conv => rhs; whnf) <;> exact rfl

noncomputable def f3_scope : Scope := by
  refine' (?f : (q : Scope) → q = (scopeOf (cell 3 top)) → Scope) _ ?h
  case f => exact fun q _ => q
  case h => (conv => rhs; whnf) <;> exact rfl

noncomputable def f3_body : List Stmt := by
  refine' (?f : (q : List Stmt) → q = (bodyOf (cell 3 top)) → List Stmt) _ ?h
  case f => exact fun q _ => q
  case h => (conv => rhs; whnf) <;> exact rfl

noncomputable def f4_params : Arguments := by
  refine' (?f : (q : Arguments) → q = (argsOf (cell 4 top)) → Arguments) _ ?h
  case f => exact fun q _ => q
  case h => (conv => rhs; whnf) <;> exact rfl

noncomputable def f4_scope : Scope := by
  refine' (?f : (q : Scope) → q = (scopeOf (cell 4 top)) → Scope) _ ?h
  case f => exact fun q _ => q
  case h => (conv => rhs; whnf) <;> exact rfl

noncomputable def f4_body : List Stmt := by
  refine' (?f : (q : List Stmt) → q = (bodyOf (cell 4 top)) → List Stmt) _ ?h
  case f => exact fun q _ => q
  case h => (conv => rhs; whnf) <;> exact rfl

noncomputable def f5_params : Arguments := by
  refine' (?f : (q : Arguments) → q = (argsOf (cell 5 top)) → Arguments) _ ?h
  case f => exact fun q _ => q
  case h => (conv => rhs; whnf) <;> exact rfl

noncomputable def f5_scope : Scope := by
  refine' (?f : (q : Scope) → q = (scopeOf (cell 5 top)) → Scope) _ ?h
  case f => exact fun q _ => q
  case h => (conv => rhs; whnf) <;> exact rfl

noncomputable def f5_body : List Stmt := by
  refine' (?f : (q : List Stmt) → q = (bodyOf (cell 5 top)) → List Stmt) _ ?h
  case f => exact fun q _ => q
  case h => (conv => rhs; whnf) <;> exact rfl

noncomputable def f8_params : Arguments := by
  refine' (?f : (q : Arguments) → q = (argsOf (cell 8 top)) → Arguments) _ ?h
  case f => exact fun q _ => q
  case h => (conv => rhs; whnf) <;> exact rfl

noncomputable def f8_scope : Scope := by
  refine' (?f : (q : Scope) → q = (scopeOf (cell 8 top)) → Scope) _ ?h
  case f => exact fun q _ => q
  case h => (conv => rhs; whnf) <;> exact rfl

noncomputable def f8_body : List Stmt := by
  refine' (?f : (q : List Stmt) → q = (bodyOf (cell 8 top)) → List Stmt) _ ?h
  case f => exact fun q _ => q
  case h => (conv => rhs; whnf) <;> exact rfl

noncomputable def f13_params : Arguments := by
  refine' (?f : (q : Arguments) → q = (argsOf (cell 13 top)) → Arguments) _ ?h
  case f => exact fun q _ => q
  case h => (conv => rhs; whnf) <;> exact rfl

noncomputable def f13_scope : Scope := by
  refine' (?f : (q : Scope) → q = (scopeOf (cell 13 top)) → Scope) _ ?h
  case f => exact fun q _ => q
  case h => (conv => rhs; whnf) <;> exact rfl

noncomputable def f13_body : List Stmt := by
  refine' (?f : (q : List Stmt) → q = (bodyOf (cell 13 top)) → List Stmt) _ ?h
  case f => exact fun q _ => q
  case h => (conv => rhs; whnf) <;> exact rfl

noncomputable def m0_params : Arguments := by
  refine' (?f : (q : Arguments) → q = (argsOf (cell 0 (bodyOf (cell 14 top)))) → Arguments) _ ?h
  case f => exact fun q _ => q
  case h => (conv => rhs; whnf) <;> exact rfl

noncomputable def m0_scope : Scope := by
  refine' (?f : (q : Scope) → q = (scopeOf (cell 0 (bodyOf (cell 14 top)))) → Scope) _ ?h
  case f => exact fun q _ => q
  case h => (conv => rhs; whnf) <;> exact rfl

noncomputable def m0_body : List Stmt := by
  refine' (?f : (q : List Stmt) → q = (bodyOf (cell 0 (bodyOf (cell 14 top)))) → List Stmt) _ ?h
  case f => exact fun q _ => q
  case h => (conv => rhs; whnf) <;> exact rfl

noncomputable def m1_params : Arguments := by
  refine' (?f : (q : Arguments) → q = (argsOf (cell 1 (bodyOf (cell 14 top)))) → Arguments) _ ?h
  case f => exact fun q _ => q
  case h => (conv => rhs; whnf) <;> exact rfl

noncomputable def m1_scope : Scope := by
  refine' (?f : (q : Scope) → q = (scopeOf (cell 1 (bodyOf (cell 14 top)))) → Scope) _ ?h
  case f => exact fun q _ => q
  case h => (conv => rhs; whnf) <;> exact rfl

noncomputable def m1_body : List Stmt := by
  refine' (?f : (q : List Stmt) → q = (bodyOf (cell 1 (bodyOf (cell 14 top)))) → List Stmt) _ ?h
  case f => exact fun q _ => q
  case h => (conv => rhs; whnf) <;> exact rfl

noncomputable def m2_params : Arguments := by
  refine' (?f : (q : Arguments) → q = (argsOf (cell 2 (bodyOf (cell 14 top)))) → Arguments) _ ?h
  case f => exact fun q _ => q
  case h => (conv => rhs; whnf) <;> exact rfl

noncomputable def m2_scope : Scope := by
  refine' (?f : (q : Scope) → q = (scopeOf (cell 2 (bodyOf (cell 14 top)))) → Scope) _ ?h
  case f => exact fun q _ => q
  case h => (conv => rhs; whnf) <;> exact rfl

noncomputable def m2_body : List Stmt := by
  refine' (?f : (q : List Stmt) → q = (bodyOf (cell 2 (bodyOf (cell 14 top)))) → List Stmt) _ ?h
  case f => exact fun q _ => q
  case h => (conv => rhs; whnf) <;> exact rfl

noncomputable def m3_params : Arguments := by
  refine' (?f : (q : Arguments) → q = (argsOf (cell 3 (bodyOf (cell 14 top)))) → Arguments) _ ?h
  case f => exact fun q _ => q
  case h => (conv => rhs; whnf) <;> exact rfl

noncomputable def m3_scope : Scope := by
  refine' (?f : (q : Scope) → q = (scopeOf (cell 3 (bodyOf (cell 14 top)))) → Scope) _ ?h
  case f => exact fun q _ => q
  case h => (conv => rhs; whnf) <;> exact rfl

noncomputable def m3_body : List Stmt := by
  refine' (?f : (q : List Stmt) → q = (bodyOf (cell 3 (bodyOf (cell 14 top)))) → List Stmt) _ ?h
  case f => exact fun q _ => q
  case h => (conv => rhs; whnf) <;> exact rfl

noncomputable def m4_params : Arguments := by
  refine' (?f : (q : Arguments) → q = (argsOf (cell 4 (bodyOf (cell 14 top)))) → Arguments) _ ?h
  case f => exact fun q _ => q
  case h => (conv => rhs; whnf) <;> exact rfl

noncomputable def m4_scope : Scope := by
  refine' (?f : (q : Scope) → q = (scopeOf (cell 4 (bodyOf (cell 14 top)))) → Scope) _ ?h
  case f => exact fun q _ => q
  case h => (conv => rhs; whnf) <;> exact rfl

noncomputable def m4_body : List Stmt := by
  refine' (?f : (q : List Stmt) → q = (bodyOf (cell 4 (bodyOf (cell 14 top)))) → List Stmt) _ ?h
  case f => exact fun q _ => q
  case h => (conv => rhs; whnf) <;> exact rfl

noncomputable def m5_params : Arguments := by
  refine' (?f : (q : Arguments) → q = (argsOf (cell 5 (bodyOf (cell 14 top)))) → Arguments) _ ?h
  case f => exact fun q _ => q
  case h => (conv => rhs; whnf) <;> exact rfl

noncomputable def m5_scope : Scope := by
  refine' (?f : (q : Scope) → q = (scopeOf (cell 5 (bodyOf (cell 14 top)))) → Scope) _ ?h
  case f => exact fun q _ => q
  case h => (conv => rhs; whnf) <;> exact rfl

noncomputable def m5_body : List Stmt := by
  refine' (?f : (q : List Stmt) → q = (bodyOf (cell 5 (bodyOf (cell 14 top)))) → List Stmt) _ ?h
  case f => exact fun q _ => q
  case h => (conv => rhs; whnf) <;> exact rfl

noncomputable def m6_params : Arguments := by
  refine' (?f : (q : Arguments) → q = (argsOf (cell 6 (bodyOf (cell 14 top)))) → Arguments) _ ?h
  case f => exact fun q _ => q
  case h => (conv => rhs; whnf) <;> exact rfl

noncomputable def m6_scope : Scope := by
  refine' (?f : (q : Scope) → q = (scopeOf (cell 6 (bodyOf (cell 14 top)))) → Scope) _ ?h
  case f => exact fun q _ => q
  case h => (conv => rhs; whnf) <;> exact rfl

noncomputable def m6_body : List Stmt := by
  refine' (?f : (q : List Stmt) → q = (bodyOf (cell 6 (bodyOf (cell 14 top)))) → List Stmt) _ ?h
  case f => exact fun q _ => q
  case h => (conv => rhs; whnf) <;> exact rfl

noncomputable def m7_params : Arguments := by
  refine' (?f : (q : Arguments) → q = (argsOf (cell 7 (bodyOf (cell 14 top)))) → Arguments) _ ?h
  case f => exact fun q _ => q
  case h => (conv => rhs; whnf) <;> exact rfl

noncomputable def m7_scope : Scope := by
  refine' (?f : (q : Scope) → q = (scopeOf (cell 7 (bodyOf (cell 14 top)))) → Scope) _ ?h
  case f => exact fun q _ => q
  case h => (conv => rhs; whnf) <;> exact rfl

noncomputable def m7_body : List Stmt := by
  refine' (?f : (q : List Stmt) → q = (bodyOf (cell 7 (bodyOf (cell 14 top)))) → List Stmt) _ ?h
  case f => exact fun q _ => q
  case h => (conv => rhs; whnf) <;> exact rfl

noncomputable def m8_params : Arguments := by
  refine' (?f : (q : Arguments) → q = (argsOf (cell 8 (bodyOf (cell 14 top)))) → Arguments) _ ?h
  case f => exact fun q _ => q
  case h => (conv => rhs; whnf) <;> exact rfl

noncomputable def m8_scope : Scope := by
  refine' (?f : (q : Scope) → q = (scopeOf (cell 8 (bodyOf (cell 14 top)))) → Scope) _ ?h
  case f => exact fun q _ => q
  case h => (conv => rhs; whnf) <;> exact rfl

noncomputable def m8_body : List Stmt := by
  refine' (?f : (q : List Stmt) → q = (bodyOf (cell 8 (bodyOf (cell 14 top)))) → List Stmt) _ ?h
  case f => exact fun q _ => q
  case h => (conv => rhs; whnf) <;> exact rfl

noncomputable def m9_params : Arguments := by
  refine' (?f : (q : Arguments) → q = (argsOf (cell 9 (bodyOf (cell 14 top)))) → Arguments) _ ?h
  case f => exact fun q _ => q
  case h => (conv => rhs; whnf) <;> exact rfl

noncomputable def m9_scope : Scope := by
  refine' (?f : (q : Scope) → q = (scopeOf (cell 9 (bodyOf (cell 14 top)))) → Scope) _ ?h
  case f => exact fun q _ => q
  case h => (conv => rhs; whnf) <;> exact rfl

noncomputable def m9_body : List Stmt := by
  refine' (?f : (q : List Stmt) → q = (bodyOf (cell 9 (bodyOf (cell 14 top)))) → List Stmt) _ ?h
  case f => exact fun q _ => q
  case h => (conv => rhs; whnf) <;> exact rfl

noncomputable def m10_params : Arguments := by
  refine' (?f : (q : Arguments) → q = (argsOf (cell 10 (bodyOf (cell 14 top)))) → Arguments) _ ?h
  case f => exact fun q _ => q
  case h => (conv => rhs; whnf) <;> exact rfl

noncomputable def m10_scope : Scope := by
  refine' (?f : (q : Scope) → q = (scopeOf (cell 10 (bodyOf (cell 14 top)))) → Scope) _ ?h
  case f => exact fun q _ => q
  case h => (conv => rhs; whnf) <;> exact rfl

noncomputable def m10_body : List Stmt := by
  refine' (?f : (q : List Stmt) → q = (bodyOf (cell 10 (bodyOf (cell 14 top)))) → List Stmt) _ ?h
  case f => exact fun q _ => q
  case h => (conv => rhs; whnf) <;> exact rfl

noncomputable def m11_params : Arguments := by
  refine' (?f : (q : Arguments) → q = (argsOf (cell 11 (bodyOf (cell 14 top)))) → Arguments) _ ?h
  case f => exact fun q _ => q
  case h => (conv => rhs; whnf) <;> exact rfl

noncomputable def m11_scope : Scope := by
  refine' (?f : (q : Scope) → q = (scopeOf (cell 11 (bodyOf (cell 14 top)))) → Scope) _ ?h
  case f => exact fun q _ => q
  case h => (conv => rhs; whnf) <;> exact rfl

noncomputable def m11_body : List Stmt := by
  refine' (?f : (q : List Stmt) → q = (bodyOf (cell 11 (bodyOf (cell 14 top)))) → List Stmt) _ ?h
  case f => exact fun q _ => q
  case h => (conv => rhs; whnf) <;> exact rfl

noncomputable def m12_params : Arguments := by
  refine' (?f : (q : Arguments) → q = (argsOf (cell 12 (bodyOf (cell 14 top)))) → Arguments) _ ?h
  case f => exact fun q _ => q
  case h => (conv => rhs; whnf) <;> exact rfl

noncomputable def m12_scope : Scope := by
  refine' (?f : (q : Scope) → q = (scopeOf (cell 12 (bodyOf (cell 14 top)))) → Scope) _ ?h
  case f => exact fun q _ => q
  case h => (conv => rhs; whnf) <;> exact rfl

noncomputable def m12_body : List Stmt := by
  refine' (?f : (q : List Stmt) → q = (bodyOf (cell 12 (bodyOf (cell 14 top)))) → List Stmt) _ ?h
  case f => exact fun q _ => q
  case h => (conv => rhs; whnf) <;> exact rfl

noncomputable def m13_params : Arguments := by
  refine' (?f : (q : Arguments) → q = (argsOf (cell 13 (bodyOf (cell 14 top)))) → Arguments) _ ?h
  case f => exact fun q _ => q
  case h => (conv => rhs; whnf) <;> exact rfl

noncomputable def m13_scope : Scope := by
  refine' (?f : (q : Scope) → q = (scopeOf (cell 13 (bodyOf (cell 14 top)))) → Scope) _ ?h
  case f => exact fun q _ => q
  case h => (conv => rhs; whnf) <;> exact rfl

noncomputable def m13_body : List Stmt := by
  refine' (?f : (q : List Stmt) → q = (bodyOf (cell 13 (bodyOf (cell 14 top)))) → List Stmt) _ ?h
  case f => exact fun q _ => q
  case h => (conv => rhs; whnf) <;> exact rfl

noncomputable def m14_params : Arguments := by
  refine' (?f : (q : Arguments) → q = (argsOf (cell 14 (bodyOf (cell 14 top)))) → Arguments) _ ?h
  case f => exact fun q _ => q
  case h => (conv => rhs; whnf) <;> exact rfl

noncomputable def m14_scope : Scope := by
  refine' (?f : (q : Scope) → q = (scopeOf (cell 14 (bodyOf (cell 14 top)))) → Scope) _ ?h
  case f => exact fun q _ => q
  case h => (conv => rhs; whnf) <;> exact rfl

noncomputable def m14_body : List Stmt := by
  refine' (?f : (q : List Stmt) → q = (bodyOf (cell 14 (bodyOf (cell 14 top)))) → List Stmt) _ ?h
  case f => exact fun q _ => q
  case h => (conv => rhs; whnf) <;> exact rfl

noncomputable def m15_params : Arguments := by
  refine' (?f : (q : Arguments) → q = (argsOf (cell 15 (bodyOf (cell 14 top)))) → Arguments) _ ?h
  case f => exact fun q _ => q
  case h => (conv => rhs; whnf) <;> exact rfl

noncomputable def m15_scope : Scope := by
  refine' (?f : (q : Scope) → q = (scopeOf (cell 15 (bodyOf (cell 14 top)))) → Scope) _ ?h
  case f => exact fun q _ => q
  case h => (conv => rhs; whnf) <;> exact rfl

noncomputable def m15_body : List Stmt := by
  refine' (?f : (q : List Stmt) → q = (bodyOf (cell 15 (bodyOf (cell 14 top)))) → List Stmt) _ ?h
  case f => exact fun q _ => q
  case h => (conv => rhs; whnf) <;> exact rfl

noncomputable def m16_params : Arguments := by
  refine' (?f : (q : Arguments) → q = (argsOf (cell 16 (bodyOf (cell 14 top)))) → Arguments) _ ?h
  case f => exact fun q _ => q
  case h => (conv => rhs; whnf) <;> exact rfl

noncomputable def m16_scope : Scope := by
  refine' (?f : (q : Scope) → q = (scopeOf (cell 16 (bodyOf (cell 14 top)))) → Scope) _ ?h
  case f => exact fun q _ => q
  case h => (conv => rhs; whnf) <;> exact rfl

noncomputable def m16_body : List Stmt := by
  refine' (?f : (q : List Stmt) → q = (bodyOf (cell 16 (bodyOf (cell 14 top)))) → List Stmt) _ ?h
  case f => exact fun q _ => q
  case h => (conv => rhs; whnf) <;> exact rfl

noncomputable def f16_params : Arguments := by
  refine' (?f : (q : Arguments) → q = (argsOf (cell 16 top)) → Arguments) _ ?h
  case f => exact fun q _ => q
  case h => (conv => rhs; whnf) <;> exact rfl

noncomputable def f16_scope : Scope := by
  refine' (?f : (q : Scope) → q = (scopeOf (cell 16 top)) → Scope) _ ?h
  case f => exact fun q _ => q
  case h => (conv => rhs; whnf) <;> exact rfl

noncomputable def f16_body : List Stmt := by
  refine' (?f : (q : List Stmt) → q = (bodyOf (cell 16 top)) → List Stmt) _ ?h
  case f => exact fun q _ => q
  case h => (conv => rhs; whnf) <;> exact rfl

noncomputable def f17_params : Arguments := by
  refine' (?f : (q : Arguments) → q = (argsOf (cell 17 top)) → Arguments) _ ?h
  case f => exact fun q _ => q
  case h => (conv => rhs; whnf) <;> exact rfl

noncomputable def f17_scope : Scope := by
  refine' (?f : (q : Scope) → q = (scopeOf (cell 17 top)) → Scope) _ ?h
  case f => exact fun q _ => q
  case h => (conv => rhs; whnf) <;> exact rfl

noncomputable def f17_body : List Stmt := by
  refine' (?f : (q : List Stmt) → q = (bodyOf (cell 17 top)) → List Stmt) _ ?h
  case f => exact fun q _ => q
  case h => (conv => rhs; whnf) <;> exact rfl

noncomputable def f18_params : Arguments := by
  refine' (?f : (q : Arguments) → q = (argsOf (cell 18 top)) → Arguments) _ ?h
  case f => exact fun q _ => q
  case h => (conv => rhs; whnf) <;> exact rfl

noncomputable def f18_scope : Scope := by
  refine' (?f : (q : Scope) → q = (scopeOf (cell 18 top)) → Scope) _ ?h
  case f => exact fun q _ => q
  case h => (conv => rhs; whnf) <;> exact rfl

noncomputable def f18_body : List Stmt := by
  refine' (?f : (q : List Stmt) → q = (bodyOf (cell 18 top)) → List Stmt) _ ?h
  case f => exact fun q _ => q
  case h => (conv => rhs; whnf) <;> exact rfl

noncomputable def f19_params : Arguments := by
  refine' (?f : (q : Arguments) → q = (argsOf (cell 19 top)) → Arguments) _ ?h
  case f => exact fun q _ => q
  case h => (conv => rhs; whnf) <;> exact rfl

noncomputable def f19_scope : Scope := by
  refine' (?f : (q : Scope) → q = (scopeOf (cell 19 top)) → Scope) _ ?h
  case f => exact fun q _ => q
  case h => (conv => rhs; whnf) <;> exact rfl

noncomputable def f19_body : List Stmt := by
  refine' (?f : (q : List Stmt) → q = (bodyOf (cell 19 top)) → List Stmt) _ ?h
  case f => exact fun q _ => q
  case h => (conv => rhs; whnf) <;> exact rfl

noncomputable def f20_params : Arguments := by
  refine' (?f : (q : Arguments) → q = (argsOf (cell 20 top)) → Arguments) _ ?h
  case f => exact fun q _ => q
  case h => (conv => rhs; whnf) <;> exact rfl

noncomputable def f20_scope : Scope := by
  refine' (?f : (q : Scope) → q = (scopeOf (cell 20 top)) → Scope) _ ?h
  case f => exact fun q _ => q
  case h => (conv => rhs; whnf) <;> exact rfl

noncomputable def f20_body : List Stmt := by
  refine' (?f : (q : List Stmt) → q = (bodyOf (cell 20 top)) → List Stmt) _ ?h
  case f => exact fun q _ => q
  case h => (conv => rhs; whnf) <;> exact rfl

noncomputable def f21_params : Arguments := by
  refine' (?f : (q : Arguments) → q = (argsOf (cell 21 top)) → Arguments) _ ?h
  case f => exact fun q _ => q
  case h => (conv => rhs; whnf) <;> exact rfl

noncomputable def f21_scope : Scope := by
  refine' (?f : (q : Scope) → q = (scopeOf (cell 21 top)) → Scope) _ ?h
  case f => exact fun q _ => q
  case h => (conv => rhs; whnf) <;> exact rfl

noncomputable def f21_body : List Stmt := by
  refine' (?f : (q : List Stmt) → q = (bodyOf (cell 21 top)) → List Stmt) _ ?h
  case f => exact fun q _ => q
  case h => (conv => rhs; whnf) <;> exact rfl

noncomputable def f22_params : Arguments := by
  refine' (?f : (q : Arguments) → q = (argsOf (cell 22 top)) → Arguments) _ ?h
  case f => exact fun q _ => q
  case h => (conv => rhs; whnf) <;> exact rfl

noncomputable def f22_scope : Scope := by
  refine' (?f : (q : Scope) → q = (scopeOf (cell 22 top)) → Scope) _ ?h
  case f => exact fun q _ => q
  case h => (conv => rhs; whnf) <;> exact rfl

noncomputable def f22_body : List Stmt := by
  refine' (?f : (q : List Stmt) → q = (bodyOf (cell 22 top)) → List Stmt) _ ?h
  case f => exact fun q _ => q
  case h => (conv => rhs; whnf) <;> exact rfl

noncomputable def f23_params : Arguments := by
  refine' (?f : (q : Arguments) → q = (argsOf (cell 23 top)) → Arguments) _ ?h
  case f => exact fun q _ => q
  case h => (conv => rhs; whnf) <;> exact rfl

noncomputable def f23_scope : Scope := by
  refine' (?f : (q : Scope) → q = (scopeOf (cell 23 top)) → Scope) _ ?h
  case f => exact fun q _ => q
  case h => (conv => rhs; whnf) <;> exact rfl

noncomputable def f23_body : List Stmt := by
  refine' (?f : (q : List Stmt) → q = (bodyOf (cell 23 top)) → List Stmt) _ ?h
  case f => exact fun q _ => q
  case h => (conv => rhs; whnf) <;> exact rfl

noncomputable def f24_params : Arguments := by
  refine' (?f : (q : Arguments) → q = (argsOf (cell 24 top)) → Arguments) _ ?h
  case f => exact fun q _ => q
  case h => (conv => rhs; whnf) <;> exact rfl

noncomputable def f24_scope : Scope := by
  refine' (?f : (q : Scope) → q = (scopeOf (cell 24 top)) → Scope) _ ?h
  case f => exact fun q _ => q
  case h => (conv => rhs; whnf) <;> exact rfl

noncomputable def f24_body : List Stmt := by
  refine' (?f : (q : List Stmt) → q = (bodyOf (cell 24 top)) → List Stmt) _ ?h
  case f => exact fun q _ => q
  case h => (conv => rhs; whnf) <;> exact rfl

noncomputable def hd.view_39 : Program := by
  refine' (?f : (q : Program) → q = ({ PySem.Challenge.rw_pg0286_01.prog with main := { PySem.Challenge.rw_pg0286_01.prog.main with body := c0 :: c1 :: c3 :: c4 :: c5 :: c7 :: c8 :: c10 :: c11 :: c12 :: c14 :: c16 :: c17 :: c18 :: c19 :: c20 :: c21 :: c22 :: c23 :: c24 ::  [] } }) → Program) _ ?h
  case f => exact fun q _ => q
  case h => (conv => rhs; delta c0 c1 c3 c4 c5 c7 c8 c10 c11 c12 c14 c16 c17 c18 c19 c20 c21 c22 c23 c24) <;> exact rfl

noncomputable def hd.heap_39 : Params → Frag := by
  refine' (?f : (q : Params → Frag) → q = (fun P => (nat_lit 2, { cls := Value.none, data := Data.dict #[{ hash := PyData.keyHash P (Str.ofString "\x69mport.loaded._sre"), key := Value.str (Str.ofString "\x69mport.loaded._sre") 183, val := Value.bool true }, { hash := PyData.keyHash P (Str.ofString "class._frozen_\x69mportlib.BuiltinImporter"), key := Value.str (Str.ofString "class._frozen_\x69mportlib.BuiltinImporter") 185, val := Value.ref 14 }, { hash := PyData.keyHash P (Str.ofString "watched.\x69mport"), key := Value.str (Str.ofString "watched.\x69mport") 206, val := Value.ref 18 }, { hash := PyData.keyHash P (Str.ofString "class._frozen_\x69mportlib.ModuleSpec"), key := Value.str (Str.ofString "class._frozen_\x69mportlib.ModuleSpec") 216, val := Value.ref 22 }, { hash := PyData.keyHash P (Str.ofString "sys.modules.booked-epoch"), key := Value.str (Str.ofString "sys.modules.booked-epoch") 245, val := Value.int 3 0 }, { hash := PyData.keyHash P (Str.ofString "\x69mport.later-laid._sre"), key := Value.str (Str.ofString "\x69mport.later-laid._sre") 270, val := Value.bool true }, { hash := PyData.keyHash P (Str.ofString "watched.library"), key := Value.str (Str.ofString "watched.library") 272, val := Value.ref 27 }, { hash := PyData.keyHash P (Str.ofString "watched.library-objects"), key := Value.str (Str.ofString "watched.library-objects") 0, val := Value.str (Str.ofString "\x0c") 0 }, { hash := PyData.keyHash P (Str.ofString "watched.library-deep._sre"), key := Value.str (Str.ofString "watched.library-deep._sre") 273, val := Value.str (Str.ofString "\x04\x00\x00\x0b\x04\x00\x00\x0b\x04\x00\x00\x03\x04\x00\x00\x0b\x08\x04dict\x02") 0 }] 9 }) ::
 (nat_lit 3, { cls := Value.type "dict", data := Data.dict #[{ hash := PyData.keyHash P (Str.ofString "__name__"), key := Value.str (Str.ofString "__name__") 165, val := Value.str (Str.ofString "law_pg0286_01") 624 }, { hash := PyData.keyHash P (Str.ofString "__doc__"), key := Value.str (Str.ofString "__doc__") 166, val := Value.none }, { hash := PyData.keyHash P (Str.ofString "__package__"), key := Value.str (Str.ofString "__package__") 167, val := Value.none }, { hash := PyData.keyHash P (Str.ofString "__loader__"), key := Value.str (Str.ofString "__loader__") 168, val := Value.builtin "__main__.__loader__#\x6fpaque" }, { hash := PyData.keyHash P (Str.ofString "__spec__"), key := Value.str (Str.ofString "__spec__") 169, val := Value.none }, { hash := PyData.keyHash P (Str.ofString "__ann\x6ftations__"), key := Value.str (Str.ofString "__ann\x6ftations__") 170, val := Value.ref 6 }, { hash := PyData.keyHash P (Str.ofString "__builtins__"), key := Value.str (Str.ofString "__builtins__") 171, val := Value.ref 4 }, { hash := PyData.keyHash P (Str.ofString "__file__"), key := Value.str (Str.ofString "__file__") 173, val := Value.str (Str.ofString "/claim/cut.py") 172 }, { hash := PyData.keyHash P (Str.ofString "__cached__"), key := Value.str (Str.ofString "__cached__") 174, val := Value.none }, { hash := PyData.keyHash P (Str.ofString "_sre"), key := Value.str (Str.ofString "_sre") 275, val := Value.ref 12 }, { hash := PyData.keyHash P (Str.ofString "_wall"), key := Value.str (Str.ofString "_wall") 288, val := Value.ref 38 }, { hash := PyData.keyHash P (Str.ofString "rgb_to_hls"), key := Value.str (Str.ofString "rgb_to_hls") 309, val := Value.ref 45 }, { hash := PyData.keyHash P (Str.ofString "rgb_to_hsv"), key := Value.str (Str.ofString "rgb_to_hsv") 327, val := Value.ref 52 }, { hash := PyData.keyHash P (Str.ofString "hsv_to_rgb"), key := Value.str (Str.ofString "hsv_to_rgb") 341, val := Value.ref 59 }, { hash := PyData.keyHash P (Str.ofString "ELLIPSIS_MARKER"), key := Value.str (Str.ofString "ELLIPSIS_MARKER") 345, val := Value.str (Str.ofString "...") 344 }, { hash := PyData.keyHash P (Str.ofString "_ellipsis_match"), key := Value.str (Str.ofString "_ellipsis_match") 357, val := Value.ref 66 }, { hash := PyData.keyHash P (Str.ofString "tspecials"), key := Value.str (Str.ofString "tspecials") 393, val := Value.ref 71 }, { hash := PyData.keyHash P (Str.ofString "_name_disallowed_re"), key := Value.str (Str.ofString "_name_disallowed_re") 419, val := Value.ref 76 }, { hash := PyData.keyHash P (Str.ofString "_value_disallowed_re"), key := Value.str (Str.ofString "_value_disallowed_re") 453, val := Value.ref 81 }, { hash := PyData.keyHash P (Str.ofString "_formatparam"), key := Value.str (Str.ofString "_formatparam") 463, val := Value.ref 89 }, { hash := PyData.keyHash P (Str.ofString "Headers"), key := Value.str (Str.ofString "Headers") 623, val := Value.ref 212 }, { hash := PyData.keyHash P (Str.ofString "_law_spelled"), key := Value.str (Str.ofString "_law_spelled") 637, val := Value.ref 223 }, { hash := PyData.keyHash P (Str.ofString "_law_line"), key := Value.str (Str.ofString "_law_line") 649, val := Value.ref 230 }, { hash := PyData.keyHash P (Str.ofString "_law_by_hsv"), key := Value.str (Str.ofString "_law_by_hsv") 660, val := Value.ref 237 }, { hash := PyData.keyHash P (Str.ofString "_law_by_hls"), key := Value.str (Str.ofString "_law_by_hls") 672, val := Value.ref 244 }, { hash := PyData.keyHash P (Str.ofString "_law_deed"), key := Value.str (Str.ofString "_law_deed") 681, val := Value.ref 251 }, { hash := PyData.keyHash P (Str.ofString "_law_own_deed"), key := Value.str (Str.ofString "_law_own_deed") 687, val := Value.ref 256 }, { hash := PyData.keyHash P (Str.ofString "_law_sheet"), key := Value.str (Str.ofString "_law_sheet") 703, val := Value.ref 263 }, { hash := PyData.keyHash P (Str.ofString "_law_within"), key := Value.str (Str.ofString "_law_within") 717, val := Value.ref 270 }, { hash := PyData.keyHash P (Str.ofString "law"), key := Value.str (Str.ofString "law") 723, val := Value.ref 275 }] 30 }) ::
 (nat_lit 32, { cls := Value.type "tuple", data := Data.seq #[] }) ::
 (nat_lit 34, { cls := Value.type "tuple", data := Data.seq #[Value.str (Str.ofString "k") 285] }) ::
 (nat_lit 35, { cls := Value.type "tuple", data := Data.seq #[] }) ::
 (nat_lit 37, { cls := Value.type "code", data := Data.fields #[Value.str (Str.ofString "_wall") 282, Value.str (Str.ofString "_wall") 283, Value.str (Str.ofString "/claim/cut.py") 284, Value.int 2 0, Value.int 1 0, Value.int 0 0, Value.int 0 0, Value.int 3 0, Value.ref 32, Value.bool true, Value.int 276 0, Value.ref 33, Value.none, Value.ref 34, Value.ref 35, Value.ref 36, Value.int 286 0, Value.int 2 0, Value.str (Str.ofString "/claim/cut.py") 287] }) ::
 (nat_lit 38, { cls := Value.type "function", data := Data.func { name := Str.ofString "_wall", qualname := Str.ofString "_wall", params := f1_params, body := FuncBody.stmts f1_body, scope := f1_scope, globals := 3, closure := [], defaults := Value.none, kwdefaults := Value.none, pyModule := Value.str (Str.ofString "__main__") 164, code := Value.ref 37 } }) ::
 (nat_lit 39, { cls := Value.type "tuple", data := Data.seq #[] }) ::
 (nat_lit 41, { cls := Value.type "tuple", data := Data.seq #[Value.str (Str.ofString "r") 294, Value.str (Str.ofString "g") 295, Value.str (Str.ofString "b") 296, Value.str (Str.ofString "maxc") 297, Value.str (Str.ofString "minc") 298, Value.str (Str.ofString "sumc") 299, Value.str (Str.ofString "rangec") 300, Value.str (Str.ofString "l") 301, Value.str (Str.ofString "s") 302, Value.str (Str.ofString "rc") 303, Value.str (Str.ofString "gc") 304, Value.str (Str.ofString "bc") 305, Value.str (Str.ofString "h") 306] }) ::
 (nat_lit 42, { cls := Value.type "tuple", data := Data.seq #[] }) ::
 (nat_lit 44, { cls := Value.type "code", data := Data.fields #[Value.str (Str.ofString "rgb_to_hls") 291, Value.str (Str.ofString "rgb_to_hls") 292, Value.str (Str.ofString "/claim/cut.py") 293, Value.int 6 0, Value.int 3 0, Value.int 0 0, Value.int 0 0, Value.int 3 0, Value.ref 39, Value.bool true, Value.int 276 0, Value.ref 40, Value.none, Value.ref 41, Value.ref 42, Value.ref 43, Value.int 307 0, Value.int 6 0, Value.str (Str.ofString "/claim/cut.py") 308] }) ::
 (nat_lit 45, { cls := Value.type "function", data := Data.func { name := Str.ofString "rgb_to_hls", qualname := Str.ofString "rgb_to_hls", params := f3_params, body := FuncBody.stmts f3_body, scope := f3_scope, globals := 3, closure := [], defaults := Value.none, kwdefaults := Value.none, pyModule := Value.str (Str.ofString "cpy313.colorsys") 289, code := Value.ref 44 } }) ::
 (nat_lit 46, { cls := Value.type "tuple", data := Data.seq #[] }) ::
 (nat_lit 48, { cls := Value.type "tuple", data := Data.seq #[Value.str (Str.ofString "r") 313, Value.str (Str.ofString "g") 314, Value.str (Str.ofString "b") 315, Value.str (Str.ofString "maxc") 316, Value.str (Str.ofString "minc") 317, Value.str (Str.ofString "rangec") 318, Value.str (Str.ofString "v") 319, Value.str (Str.ofString "s") 320, Value.str (Str.ofString "rc") 321, Value.str (Str.ofString "gc") 322, Value.str (Str.ofString "bc") 323, Value.str (Str.ofString "h") 324] }) ::
 (nat_lit 49, { cls := Value.type "tuple", data := Data.seq #[] }) ::
 (nat_lit 51, { cls := Value.type "code", data := Data.fields #[Value.str (Str.ofString "rgb_to_hsv") 310, Value.str (Str.ofString "rgb_to_hsv") 311, Value.str (Str.ofString "/claim/cut.py") 312, Value.int 29 0, Value.int 3 0, Value.int 0 0, Value.int 0 0, Value.int 3 0, Value.ref 46, Value.bool true, Value.int 276 0, Value.ref 47, Value.none, Value.ref 48, Value.ref 49, Value.ref 50, Value.int 325 0, Value.int 29 0, Value.str (Str.ofString "/claim/cut.py") 326] }) ::
 (nat_lit 52, { cls := Value.type "function", data := Data.func { name := Str.ofString "rgb_to_hsv", qualname := Str.ofString "rgb_to_hsv", params := f4_params, body := FuncBody.stmts f4_body, scope := f4_scope, globals := 3, closure := [], defaults := Value.none, kwdefaults := Value.none, pyModule := Value.str (Str.ofString "cpy313.colorsys") 289, code := Value.ref 51 } }) ::
 (nat_lit 53, { cls := Value.type "tuple", data := Data.seq #[] }) ::
 (nat_lit 55, { cls := Value.type "tuple", data := Data.seq #[Value.str (Str.ofString "h") 331, Value.str (Str.ofString "s") 332, Value.str (Str.ofString "v") 333, Value.str (Str.ofString "i") 334, Value.str (Str.ofString "f") 335, Value.str (Str.ofString "p") 336, Value.str (Str.ofString "q") 337, Value.str (Str.ofString "t") 338] }) ::
 (nat_lit 56, { cls := Value.type "tuple", data := Data.seq #[] }) ::
 (nat_lit 58, { cls := Value.type "code", data := Data.fields #[Value.str (Str.ofString "hsv_to_rgb") 328, Value.str (Str.ofString "hsv_to_rgb") 329, Value.str (Str.ofString "/claim/cut.py") 330, Value.int 48 0, Value.int 3 0, Value.int 0 0, Value.int 0 0, Value.int 3 0, Value.ref 53, Value.bool true, Value.int 276 0, Value.ref 54, Value.none, Value.ref 55, Value.ref 56, Value.ref 57, Value.int 339 0, Value.int 48 0, Value.str (Str.ofString "/claim/cut.py") 340] }) ::
 (nat_lit 59, { cls := Value.type "function", data := Data.func { name := Str.ofString "hsv_to_rgb", qualname := Str.ofString "hsv_to_rgb", params := f5_params, body := FuncBody.stmts f5_body, scope := f5_scope, globals := 3, closure := [], defaults := Value.none, kwdefaults := Value.none, pyModule := Value.str (Str.ofString "cpy313.colorsys") 289, code := Value.ref 58 } }) ::
 (nat_lit 60, { cls := Value.type "tuple", data := Data.seq #[] }) ::
 (nat_lit 62, { cls := Value.type "tuple", data := Data.seq #[Value.str (Str.ofString "want") 349, Value.str (Str.ofString "got") 350, Value.str (Str.ofString "ws") 351, Value.str (Str.ofString "startpos") 352, Value.str (Str.ofString "endpos") 353, Value.str (Str.ofString "w") 354] }) ::
 (nat_lit 63, { cls := Value.type "tuple", data := Data.seq #[] }) ::
 (nat_lit 65, { cls := Value.type "code", data := Data.fields #[Value.str (Str.ofString "_ellipsis_match") 346, Value.str (Str.ofString "_ellipsis_match") 347, Value.str (Str.ofString "/claim/cut.py") 348, Value.int 71 0, Value.int 2 0, Value.int 0 0, Value.int 0 0, Value.int 3 0, Value.ref 60, Value.bool true, Value.int 276 0, Value.ref 61, Value.none, Value.ref 62, Value.ref 63, Value.ref 64, Value.int 355 0, Value.int 71 0, Value.str (Str.ofString "/claim/cut.py") 356] }) ::
 (nat_lit 66, { cls := Value.type "function", data := Data.func { name := Str.ofString "_ellipsis_match", qualname := Str.ofString "_ellipsis_match", params := f8_params, body := FuncBody.stmts f8_body, scope := f8_scope, globals := 3, closure := [], defaults := Value.none, kwdefaults := Value.none, pyModule := Value.str (Str.ofString "cpy313.doctest") 342, code := Value.ref 65 } }) ::
 (nat_lit 70, { cls := Value.type "tuple", data := Data.seq #[Value.int 14 0, Value.int 14 0, Value.int 4 0, Value.int 1 0, Value.int 1 0, Value.int 9 0, Value.int 0 0, Value.int 4227896069 0, Value.int 939524097 0, Value.int 0 0, Value.int 0 0, Value.int 0 0, Value.int 0 0, Value.int 0 0, Value.int 0 0, Value.int 13 0, Value.int 11 0, Value.int 9 0, Value.int 0 0, Value.int 4227896069 0, Value.int 939524097 0, Value.int 0 0, Value.int 0 0, Value.int 0 0, Value.int 0 0, Value.int 0 0, Value.int 0 0, Value.int 1 0] }) ::
 (nat_lit 71, { cls := Value.type "re.Pattern", data := Data.fields #[Value.str (Str.ofString "[ \\(\\)<>@,;:\\\\\"/\\[\\]\\?=]") 361, Value.int 32 392, Value.int 0 0, Value.none, Value.none, Value.ref 70, Value.int 0 0] }) ::
 (nat_lit 75, { cls := Value.type "tuple", data := Data.seq #[Value.int 14 0, Value.int 10 0, Value.int 4 0, Value.int 1 0, Value.int 1 0, Value.int 22 0, Value.int 0 0, Value.int 31 0, Value.int 16 0, Value.int 127 0, Value.int 0 0, Value.int 13 0, Value.int 7 0, Value.int 22 0, Value.int 0 0, Value.int 31 0, Value.int 16 0, Value.int 127 0, Value.int 0 0, Value.int 1 0] }) ::
 (nat_lit 76, { cls := Value.type "re.Pattern", data := Data.fields #[Value.str (Str.ofString "[\\x00-\\x1F\\x7F]") 395, Value.int 32 418, Value.int 0 0, Value.none, Value.none, Value.ref 75, Value.int 0 0] }) ::
 (nat_lit 80, { cls := Value.type "tuple", data := Data.seq #[Value.int 14 0, Value.int 14 0, Value.int 4 0, Value.int 1 0, Value.int 1 0, Value.int 9 0, Value.int 4294966783 0, Value.int 0 0, Value.int 0 0, Value.int 2147483648 0, Value.int 0 0, Value.int 0 0, Value.int 0 0, Value.int 0 0, Value.int 0 0, Value.int 13 0, Value.int 11 0, Value.int 9 0, Value.int 4294966783 0, Value.int 0 0, Value.int 0 0, Value.int 2147483648 0, Value.int 0 0, Value.int 0 0, Value.int 0 0, Value.int 0 0, Value.int 0 0, Value.int 1 0] }) ::
 (nat_lit 81, { cls := Value.type "re.Pattern", data := Data.fields #[Value.str (Str.ofString "[\\x00-\\x08\\x0A-\\x1F\\x7F]") 421, Value.int 32 452, Value.int 0 0, Value.none, Value.none, Value.ref 80, Value.int 0 0] }) ::
 (nat_lit 82, { cls := Value.type "tuple", data := Data.seq #[Value.none, Value.int 1 454] }) ::
 (nat_lit 83, { cls := Value.type "tuple", data := Data.seq #[] }) ::
 (nat_lit 85, { cls := Value.type "tuple", data := Data.seq #[Value.str (Str.ofString "param") 458, Value.str (Str.ofString "value") 459, Value.str (Str.ofString "quote") 460] }) ::
 (nat_lit 86, { cls := Value.type "tuple", data := Data.seq #[] }) ::
 (nat_lit 88, { cls := Value.type "code", data := Data.fields #[Value.str (Str.ofString "_formatparam") 455, Value.str (Str.ofString "_formatparam") 456, Value.str (Str.ofString "/claim/cut.py") 457, Value.int 103 0, Value.int 3 0, Value.int 0 0, Value.int 0 0, Value.int 3 0, Value.ref 83, Value.bool true, Value.int 276 0, Value.ref 84, Value.none, Value.ref 85, Value.ref 86, Value.ref 87, Value.int 461 0, Value.int 103 0, Value.str (Str.ofString "/claim/cut.py") 462] }) ::
 (nat_lit 89, { cls := Value.type "function", data := Data.func { name := Str.ofString "_formatparam", qualname := Str.ofString "_formatparam", params := f13_params, body := FuncBody.stmts f13_body, scope := f13_scope, globals := 3, closure := [], defaults := Value.ref 82, kwdefaults := Value.none, pyModule := Value.str (Str.ofString "cpy313.wsgiref.headers") 358, code := Value.ref 88 } }) ::
 (nat_lit 97, { cls := Value.type "tuple", data := Data.seq #[Value.none] }) ::
 (nat_lit 98, { cls := Value.type "tuple", data := Data.seq #[] }) ::
 (nat_lit 100, { cls := Value.type "tuple", data := Data.seq #[Value.str (Str.ofString "self") 479, Value.str (Str.ofString "headers") 480, Value.str (Str.ofString "k") 481, Value.str (Str.ofString "v") 482] }) ::
 (nat_lit 101, { cls := Value.type "tuple", data := Data.seq #[] }) ::
 (nat_lit 103, { cls := Value.type "code", data := Data.fields #[Value.str (Str.ofString "__init__") 476, Value.str (Str.ofString "Headers.__init__") 477, Value.str (Str.ofString "/claim/cut.py") 478, Value.int 114 0, Value.int 2 0, Value.int 0 0, Value.int 0 0, Value.int 3 0, Value.ref 98, Value.bool true, Value.int 276 0, Value.ref 99, Value.none, Value.ref 100, Value.ref 101, Value.ref 102, Value.int 483 0, Value.int 114 0, Value.str (Str.ofString "/claim/cut.py") 484] }) ::
 (nat_lit 104, { cls := Value.type "function", data := Data.func { name := Str.ofString "__init__", qualname := Str.ofString "Headers.__init__", params := m0_params, body := FuncBody.stmts m0_body, scope := m0_scope, globals := 3, closure := [], defaults := Value.ref 97, kwdefaults := Value.none, pyModule := Value.str (Str.ofString "cpy313.wsgiref.headers") 358, code := Value.ref 103 } }) ::
 (nat_lit 105, { cls := Value.type "tuple", data := Data.seq #[] }) ::
 (nat_lit 107, { cls := Value.type "tuple", data := Data.seq #[Value.str (Str.ofString "self") 489, Value.str (Str.ofString "value") 490, Value.str (Str.ofString "name") 491, Value.str (Str.ofString "regex") 492] }) ::
 (nat_lit 108, { cls := Value.type "tuple", data := Data.seq #[] }) ::
 (nat_lit 110, { cls := Value.type "code", data := Data.fields #[Value.str (Str.ofString "_convert_string_type") 486, Value.str (Str.ofString "Headers._convert_string_type") 487, Value.str (Str.ofString "/claim/cut.py") 488, Value.int 124 0, Value.int 2 0, Value.int 0 0, Value.int 1 0, Value.int 3 0, Value.ref 105, Value.bool true, Value.int 276 0, Value.ref 106, Value.none, Value.ref 107, Value.ref 108, Value.ref 109, Value.int 493 0, Value.int 124 0, Value.str (Str.ofString "/claim/cut.py") 494] }) ::
 (nat_lit 111, { cls := Value.type "function", data := Data.func { name := Str.ofString "_convert_string_type", qualname := Str.ofString "Headers._convert_string_type", params := m1_params, body := FuncBody.stmts m1_body, scope := m1_scope, globals := 3, closure := [], defaults := Value.none, kwdefaults := Value.none, pyModule := Value.str (Str.ofString "cpy313.wsgiref.headers") 358, code := Value.ref 110 } }) ::
 (nat_lit 112, { cls := Value.type "tuple", data := Data.seq #[] }) ::
 (nat_lit 114, { cls := Value.type "tuple", data := Data.seq #[Value.str (Str.ofString "self") 499] }) ::
 (nat_lit 115, { cls := Value.type "tuple", data := Data.seq #[] }) ::
 (nat_lit 117, { cls := Value.type "code", data := Data.fields #[Value.str (Str.ofString "__len__") 496, Value.str (Str.ofString "Headers.__len__") 497, Value.str (Str.ofString "/claim/cut.py") 498, Value.int 132 0, Value.int 1 0, Value.int 0 0, Value.int 0 0, Value.int 3 0, Value.ref 112, Value.bool true, Value.int 276 0, Value.ref 113, Value.none, Value.ref 114, Value.ref 115, Value.ref 116, Value.int 500 0, Value.int 132 0, Value.str (Str.ofString "/claim/cut.py") 501] }) ::
 (nat_lit 118, { cls := Value.type "function", data := Data.func { name := Str.ofString "__len__", qualname := Str.ofString "Headers.__len__", params := m2_params, body := FuncBody.stmts m2_body, scope := m2_scope, globals := 3, closure := [], defaults := Value.none, kwdefaults := Value.none, pyModule := Value.str (Str.ofString "cpy313.wsgiref.headers") 358, code := Value.ref 117 } }) ::
 (nat_lit 119, { cls := Value.type "tuple", data := Data.seq #[] }) ::
 (nat_lit 121, { cls := Value.type "tuple", data := Data.seq #[Value.str (Str.ofString "self") 506, Value.str (Str.ofString "name") 507, Value.str (Str.ofString "val") 508] }) ::
 (nat_lit 122, { cls := Value.type "tuple", data := Data.seq #[] }) ::
 (nat_lit 124, { cls := Value.type "code", data := Data.fields #[Value.str (Str.ofString "__setitem__") 503, Value.str (Str.ofString "Headers.__setitem__") 504, Value.str (Str.ofString "/claim/cut.py") 505, Value.int 135 0, Value.int 3 0, Value.int 0 0, Value.int 0 0, Value.int 3 0, Value.ref 119, Value.bool true, Value.int 276 0, Value.ref 120, Value.none, Value.ref 121, Value.ref 122, Value.ref 123, Value.int 509 0, Value.int 135 0, Value.str (Str.ofString "/claim/cut.py") 510] }) ::
 (nat_lit 125, { cls := Value.type "function", data := Data.func { name := Str.ofString "__setitem__", qualname := Str.ofString "Headers.__setitem__", params := m3_params, body := FuncBody.stmts m3_body, scope := m3_scope, globals := 3, closure := [], defaults := Value.none, kwdefaults := Value.none, pyModule := Value.str (Str.ofString "cpy313.wsgiref.headers") 358, code := Value.ref 124 } }) ::
 (nat_lit 126, { cls := Value.type "tuple", data := Data.seq #[] }) ::
 (nat_lit 129, { cls := Value.type "code", data := Data.fields #[Value.str (Str.ofString "__delitem__") 512, Value.str (Str.ofString "Headers.__delitem__") 513, Value.str (Str.ofString "/claim/cut.py") 514, Value.int 139 0, Value.int 2 0, Value.int 0 0, Value.int 0 0, Value.int 3 0, Value.ref 126, Value.bool true, Value.int 276 0, Value.ref 127, Value.none, Value.none, Value.none, Value.ref 128, Value.int 515 0, Value.int 139 0, Value.str (Str.ofString "/claim/cut.py") 516] }) ::
 (nat_lit 130, { cls := Value.type "function", data := Data.func { name := Str.ofString "__delitem__", qualname := Str.ofString "Headers.__delitem__", params := m4_params, body := FuncBody.stmts m4_body, scope := m4_scope, globals := 3, closure := [], defaults := Value.none, kwdefaults := Value.none, pyModule := Value.str (Str.ofString "cpy313.wsgiref.headers") 358, code := Value.ref 129 } }) ::
 (nat_lit 131, { cls := Value.type "tuple", data := Data.seq #[] }) ::
 (nat_lit 133, { cls := Value.type "tuple", data := Data.seq #[Value.str (Str.ofString "self") 521, Value.str (Str.ofString "name") 522] }) ::
 (nat_lit 134, { cls := Value.type "tuple", data := Data.seq #[] }) ::
 (nat_lit 136, { cls := Value.type "code", data := Data.fields #[Value.str (Str.ofString "__getitem__") 518, Value.str (Str.ofString "Headers.__getitem__") 519, Value.str (Str.ofString "/claim/cut.py") 520, Value.int 143 0, Value.int 2 0, Value.int 0 0, Value.int 0 0, Value.int 3 0, Value.ref 131, Value.bool true, Value.int 276 0, Value.ref 132, Value.none, Value.ref 133, Value.ref 134, Value.ref 135, Value.int 523 0, Value.int 143 0, Value.str (Str.ofString "/claim/cut.py") 524] }) ::
 (nat_lit 137, { cls := Value.type "function", data := Data.func { name := Str.ofString "__getitem__", qualname := Str.ofString "Headers.__getitem__", params := m5_params, body := FuncBody.stmts m5_body, scope := m5_scope, globals := 3, closure := [], defaults := Value.none, kwdefaults := Value.none, pyModule := Value.str (Str.ofString "cpy313.wsgiref.headers") 358, code := Value.ref 136 } }) ::
 (nat_lit 138, { cls := Value.type "tuple", data := Data.seq #[] }) ::
 (nat_lit 140, { cls := Value.type "tuple", data := Data.seq #[Value.str (Str.ofString "self") 529, Value.str (Str.ofString "name") 530] }) ::
 (nat_lit 141, { cls := Value.type "tuple", data := Data.seq #[] }) ::
 (nat_lit 143, { cls := Value.type "code", data := Data.fields #[Value.str (Str.ofString "__contains__") 526, Value.str (Str.ofString "Headers.__contains__") 527, Value.str (Str.ofString "/claim/cut.py") 528, Value.int 146 0, Value.int 2 0, Value.int 0 0, Value.int 0 0, Value.int 3 0, Value.ref 138, Value.bool true, Value.int 276 0, Value.ref 139, Value.none, Value.ref 140, Value.ref 141, Value.ref 142, Value.int 531 0, Value.int 146 0, Value.str (Str.ofString "/claim/cut.py") 532] }) ::
 (nat_lit 144, { cls := Value.type "function", data := Data.func { name := Str.ofString "__contains__", qualname := Str.ofString "Headers.__contains__", params := m6_params, body := FuncBody.stmts m6_body, scope := m6_scope, globals := 3, closure := [], defaults := Value.none, kwdefaults := Value.none, pyModule := Value.str (Str.ofString "cpy313.wsgiref.headers") 358, code := Value.ref 143 } }) ::
 (nat_lit 145, { cls := Value.type "tuple", data := Data.seq #[] }) ::
 (nat_lit 147, { cls := Value.type "tuple", data := Data.seq #[Value.str (Str.ofString "self") 537, Value.str (Str.ofString "name") 538] }) ::
 (nat_lit 148, { cls := Value.type "tuple", data := Data.seq #[] }) ::
 (nat_lit 150, { cls := Value.type "code", data := Data.fields #[Value.str (Str.ofString "get_all") 534, Value.str (Str.ofString "Headers.get_all") 535, Value.str (Str.ofString "/claim/cut.py") 536, Value.int 149 0, Value.int 2 0, Value.int 0 0, Value.int 0 0, Value.int 3 0, Value.ref 145, Value.bool true, Value.int 276 0, Value.ref 146, Value.none, Value.ref 147, Value.ref 148, Value.ref 149, Value.int 539 0, Value.int 149 0, Value.str (Str.ofString "/claim/cut.py") 540] }) ::
 (nat_lit 151, { cls := Value.type "function", data := Data.func { name := Str.ofString "get_all", qualname := Str.ofString "Headers.get_all", params := m7_params, body := FuncBody.stmts m7_body, scope := m7_scope, globals := 3, closure := [], defaults := Value.none, kwdefaults := Value.none, pyModule := Value.str (Str.ofString "cpy313.wsgiref.headers") 358, code := Value.ref 150 } }) ::
 (nat_lit 152, { cls := Value.type "tuple", data := Data.seq #[Value.none] }) ::
 (nat_lit 153, { cls := Value.type "tuple", data := Data.seq #[] }) ::
 (nat_lit 155, { cls := Value.type "tuple", data := Data.seq #[Value.str (Str.ofString "self") 545, Value.str (Str.ofString "name") 546, Value.str (Str.ofString "default") 547, Value.str (Str.ofString "k") 548, Value.str (Str.ofString "v") 549] }) ::
 (nat_lit 156, { cls := Value.type "tuple", data := Data.seq #[] }) ::
 (nat_lit 158, { cls := Value.type "code", data := Data.fields #[Value.str (Str.ofString "get") 542, Value.str (Str.ofString "Headers.get") 543, Value.str (Str.ofString "/claim/cut.py") 544, Value.int 152 0, Value.int 3 0, Value.int 0 0, Value.int 0 0, Value.int 3 0, Value.ref 153, Value.bool true, Value.int 276 0, Value.ref 154, Value.none, Value.ref 155, Value.ref 156, Value.ref 157, Value.int 550 0, Value.int 152 0, Value.str (Str.ofString "/claim/cut.py") 551] }) ::
 (nat_lit 159, { cls := Value.type "function", data := Data.func { name := Str.ofString "get", qualname := Str.ofString "Headers.get", params := m8_params, body := FuncBody.stmts m8_body, scope := m8_scope, globals := 3, closure := [], defaults := Value.ref 152, kwdefaults := Value.none, pyModule := Value.str (Str.ofString "cpy313.wsgiref.headers") 358, code := Value.ref 158 } }) ::
 (nat_lit 160, { cls := Value.type "tuple", data := Data.seq #[] }) ::
 (nat_lit 163, { cls := Value.type "code", data := Data.fields #[Value.str (Str.ofString "keys") 553, Value.str (Str.ofString "Headers.keys") 554, Value.str (Str.ofString "/claim/cut.py") 555, Value.int 159 0, Value.int 1 0, Value.int 0 0, Value.int 0 0, Value.int 3 0, Value.ref 160, Value.bool true, Value.int 276 0, Value.ref 161, Value.none, Value.none, Value.none, Value.ref 162, Value.int 556 0, Value.int 159 0, Value.str (Str.ofString "/claim/cut.py") 557] }) ::
 (nat_lit 164, { cls := Value.type "function", data := Data.func { name := Str.ofString "keys", qualname := Str.ofString "Headers.keys", params := m9_params, body := FuncBody.stmts m9_body, scope := m9_scope, globals := 3, closure := [], defaults := Value.none, kwdefaults := Value.none, pyModule := Value.str (Str.ofString "cpy313.wsgiref.headers") 358, code := Value.ref 163 } }) ::
 (nat_lit 165, { cls := Value.type "tuple", data := Data.seq #[] }) ::
 (nat_lit 168, { cls := Value.type "code", data := Data.fields #[Value.str (Str.ofString "values") 559, Value.str (Str.ofString "Headers.values") 560, Value.str (Str.ofString "/claim/cut.py") 561, Value.int 162 0, Value.int 1 0, Value.int 0 0, Value.int 0 0, Value.int 3 0, Value.ref 165, Value.bool true, Value.int 276 0, Value.ref 166, Value.none, Value.none, Value.none, Value.ref 167, Value.int 562 0, Value.int 162 0, Value.str (Str.ofString "/claim/cut.py") 563] }) ::
 (nat_lit 169, { cls := Value.type "function", data := Data.func { name := Str.ofString "values", qualname := Str.ofString "Headers.values", params := m10_params, body := FuncBody.stmts m10_body, scope := m10_scope, globals := 3, closure := [], defaults := Value.none, kwdefaults := Value.none, pyModule := Value.str (Str.ofString "cpy313.wsgiref.headers") 358, code := Value.ref 168 } }) ::
 (nat_lit 170, { cls := Value.type "tuple", data := Data.seq #[] }) ::
 (nat_lit 172, { cls := Value.type "tuple", data := Data.seq #[Value.str (Str.ofString "self") 568] }) ::
 (nat_lit 173, { cls := Value.type "tuple", data := Data.seq #[] }) ::
 (nat_lit 175, { cls := Value.type "code", data := Data.fields #[Value.str (Str.ofString "items") 565, Value.str (Str.ofString "Headers.items") 566, Value.str (Str.ofString "/claim/cut.py") 567, Value.int 165 0, Value.int 1 0, Value.int 0 0, Value.int 0 0, Value.int 3 0, Value.ref 170, Value.bool true, Value.int 276 0, Value.ref 171, Value.none, Value.ref 172, Value.ref 173, Value.ref 174, Value.int 569 0, Value.int 165 0, Value.str (Str.ofString "/claim/cut.py") 570] }) ::
 (nat_lit 176, { cls := Value.type "function", data := Data.func { name := Str.ofString "items", qualname := Str.ofString "Headers.items", params := m11_params, body := FuncBody.stmts m11_body, scope := m11_scope, globals := 3, closure := [], defaults := Value.none, kwdefaults := Value.none, pyModule := Value.str (Str.ofString "cpy313.wsgiref.headers") 358, code := Value.ref 175 } }) ::
 (nat_lit 177, { cls := Value.type "tuple", data := Data.seq #[] }) ::
 (nat_lit 179, { cls := Value.type "tuple", data := Data.seq #[Value.str (Str.ofString "self") 575] }) ::
 (nat_lit 180, { cls := Value.type "tuple", data := Data.seq #[] }) ::
 (nat_lit 182, { cls := Value.type "code", data := Data.fields #[Value.str (Str.ofString "__repr__") 572, Value.str (Str.ofString "Headers.__repr__") 573, Value.str (Str.ofString "/claim/cut.py") 574, Value.int 168 0, Value.int 1 0, Value.int 0 0, Value.int 0 0, Value.int 3 0, Value.ref 177, Value.bool true, Value.int 276 0, Value.ref 178, Value.none, Value.ref 179, Value.ref 180, Value.ref 181, Value.int 576 0, Value.int 168 0, Value.str (Str.ofString "/claim/cut.py") 577] }) ::
 (nat_lit 183, { cls := Value.type "function", data := Data.func { name := Str.ofString "__repr__", qualname := Str.ofString "Headers.__repr__", params := m12_params, body := FuncBody.stmts m12_body, scope := m12_scope, globals := 3, closure := [], defaults := Value.none, kwdefaults := Value.none, pyModule := Value.str (Str.ofString "cpy313.wsgiref.headers") 358, code := Value.ref 182 } }) ::
 (nat_lit 184, { cls := Value.type "tuple", data := Data.seq #[] }) ::
 (nat_lit 187, { cls := Value.type "code", data := Data.fields #[Value.str (Str.ofString "__str__") 579, Value.str (Str.ofString "Headers.__str__") 580, Value.str (Str.ofString "/claim/cut.py") 581, Value.int 171 0, Value.int 1 0, Value.int 0 0, Value.int 0 0, Value.int 3 0, Value.ref 184, Value.bool true, Value.int 276 0, Value.ref 185, Value.none, Value.none, Value.none, Value.ref 186, Value.int 582 0, Value.int 171 0, Value.str (Str.ofString "/claim/cut.py") 583] }) ::
 (nat_lit 188, { cls := Value.type "function", data := Data.func { name := Str.ofString "__str__", qualname := Str.ofString "Headers.__str__", params := m13_params, body := FuncBody.stmts m13_body, scope := m13_scope, globals := 3, closure := [], defaults := Value.none, kwdefaults := Value.none, pyModule := Value.str (Str.ofString "cpy313.wsgiref.headers") 358, code := Value.ref 187 } }) ::
 (nat_lit 189, { cls := Value.type "tuple", data := Data.seq #[] }) ::
 (nat_lit 191, { cls := Value.type "tuple", data := Data.seq #[Value.str (Str.ofString "self") 588] }) ::
 (nat_lit 192, { cls := Value.type "tuple", data := Data.seq #[] }) ::
 (nat_lit 194, { cls := Value.type "code", data := Data.fields #[Value.str (Str.ofString "__bytes__") 585, Value.str (Str.ofString "Headers.__bytes__") 586, Value.str (Str.ofString "/claim/cut.py") 587, Value.int 174 0, Value.int 1 0, Value.int 0 0, Value.int 0 0, Value.int 3 0, Value.ref 189, Value.bool true, Value.int 276 0, Value.ref 190, Value.none, Value.ref 191, Value.ref 192, Value.ref 193, Value.int 589 0, Value.int 174 0, Value.str (Str.ofString "/claim/cut.py") 590] }) ::
 (nat_lit 195, { cls := Value.type "function", data := Data.func { name := Str.ofString "__bytes__", qualname := Str.ofString "Headers.__bytes__", params := m14_params, body := FuncBody.stmts m14_body, scope := m14_scope, globals := 3, closure := [], defaults := Value.none, kwdefaults := Value.none, pyModule := Value.str (Str.ofString "cpy313.wsgiref.headers") 358, code := Value.ref 194 } }) ::
 (nat_lit 196, { cls := Value.type "tuple", data := Data.seq #[] }) ::
 (nat_lit 198, { cls := Value.type "tuple", data := Data.seq #[Value.str (Str.ofString "self") 595, Value.str (Str.ofString "name") 596, Value.str (Str.ofString "value") 597, Value.str (Str.ofString "result") 598] }) ::
 (nat_lit 199, { cls := Value.type "tuple", data := Data.seq #[] }) ::
 (nat_lit 201, { cls := Value.type "code", data := Data.fields #[Value.str (Str.ofString "setdefault") 592, Value.str (Str.ofString "Headers.setdefault") 593, Value.str (Str.ofString "/claim/cut.py") 594, Value.int 177 0, Value.int 3 0, Value.int 0 0, Value.int 0 0, Value.int 3 0, Value.ref 196, Value.bool true, Value.int 276 0, Value.ref 197, Value.none, Value.ref 198, Value.ref 199, Value.ref 200, Value.int 599 0, Value.int 177 0, Value.str (Str.ofString "/claim/cut.py") 600] }) ::
 (nat_lit 202, { cls := Value.type "function", data := Data.func { name := Str.ofString "setdefault", qualname := Str.ofString "Headers.setdefault", params := m15_params, body := FuncBody.stmts m15_body, scope := m15_scope, globals := 3, closure := [], defaults := Value.none, kwdefaults := Value.none, pyModule := Value.str (Str.ofString "cpy313.wsgiref.headers") 358, code := Value.ref 201 } }) ::
 (nat_lit 203, { cls := Value.type "tuple", data := Data.seq #[] }) ::
 (nat_lit 205, { cls := Value.type "tuple", data := Data.seq #[Value.str (Str.ofString "self") 605, Value.str (Str.ofString "_name") 606, Value.str (Str.ofString "_value") 607, Value.str (Str.ofString "_params") 608, Value.str (Str.ofString "parts") 609, Value.str (Str.ofString "k") 610, Value.str (Str.ofString "v") 611] }) ::
 (nat_lit 206, { cls := Value.type "tuple", data := Data.seq #[] }) ::
 (nat_lit 208, { cls := Value.type "code", data := Data.fields #[Value.str (Str.ofString "add_header") 602, Value.str (Str.ofString "Headers.add_header") 603, Value.str (Str.ofString "/claim/cut.py") 604, Value.int 185 0, Value.int 3 0, Value.int 0 0, Value.int 0 0, Value.int 11 0, Value.ref 203, Value.bool true, Value.int 276 0, Value.ref 204, Value.none, Value.ref 205, Value.ref 206, Value.ref 207, Value.int 612 0, Value.int 185 0, Value.str (Str.ofString "/claim/cut.py") 613] }) ::
 (nat_lit 209, { cls := Value.type "function", data := Data.func { name := Str.ofString "add_header", qualname := Str.ofString "Headers.add_header", params := m16_params, body := FuncBody.stmts m16_body, scope := m16_scope, globals := 3, closure := [], defaults := Value.none, kwdefaults := Value.none, pyModule := Value.str (Str.ofString "cpy313.wsgiref.headers") 358, code := Value.ref 208 } }) ::
 (nat_lit 210, { cls := Value.type "tuple", data := Data.seq #[Value.str (Str.ofString "_headers") 615] }) ::
 (nat_lit 211, { cls := Value.type "dict", data := Data.dict #[{ hash := PyData.keyHash P (Str.ofString "__module__"), key := Value.str (Str.ofString "__module__") 471, val := Value.str (Str.ofString "cpy313.wsgiref.headers") 358 }, { hash := PyData.keyHash P (Str.ofString "__firstlineno__"), key := Value.str (Str.ofString "__firstlineno__") 475, val := Value.int 112 474 }, { hash := PyData.keyHash P (Str.ofString "__init__"), key := Value.str (Str.ofString "__init__") 485, val := Value.ref 104 }, { hash := PyData.keyHash P (Str.ofString "_convert_string_type"), key := Value.str (Str.ofString "_convert_string_type") 495, val := Value.ref 111 }, { hash := PyData.keyHash P (Str.ofString "__len__"), key := Value.str (Str.ofString "__len__") 502, val := Value.ref 118 }, { hash := PyData.keyHash P (Str.ofString "__setitem__"), key := Value.str (Str.ofString "__setitem__") 511, val := Value.ref 125 }, { hash := PyData.keyHash P (Str.ofString "__delitem__"), key := Value.str (Str.ofString "__delitem__") 517, val := Value.ref 130 }, { hash := PyData.keyHash P (Str.ofString "__getitem__"), key := Value.str (Str.ofString "__getitem__") 525, val := Value.ref 137 }, { hash := PyData.keyHash P (Str.ofString "__contains__"), key := Value.str (Str.ofString "__contains__") 533, val := Value.ref 144 }, { hash := PyData.keyHash P (Str.ofString "get_all"), key := Value.str (Str.ofString "get_all") 541, val := Value.ref 151 }, { hash := PyData.keyHash P (Str.ofString "get"), key := Value.str (Str.ofString "get") 552, val := Value.ref 159 }, { hash := PyData.keyHash P (Str.ofString "keys"), key := Value.str (Str.ofString "keys") 558, val := Value.ref 164 }, { hash := PyData.keyHash P (Str.ofString "values"), key := Value.str (Str.ofString "values") 564, val := Value.ref 169 }, { hash := PyData.keyHash P (Str.ofString "items"), key := Value.str (Str.ofString "items") 571, val := Value.ref 176 }, { hash := PyData.keyHash P (Str.ofString "__repr__"), key := Value.str (Str.ofString "__repr__") 578, val := Value.ref 183 }, { hash := PyData.keyHash P (Str.ofString "__str__"), key := Value.str (Str.ofString "__str__") 584, val := Value.ref 188 }, { hash := PyData.keyHash P (Str.ofString "__bytes__"), key := Value.str (Str.ofString "__bytes__") 591, val := Value.ref 195 }, { hash := PyData.keyHash P (Str.ofString "setdefault"), key := Value.str (Str.ofString "setdefault") 601, val := Value.ref 202 }, { hash := PyData.keyHash P (Str.ofString "add_header"), key := Value.str (Str.ofString "add_header") 614, val := Value.ref 209 }, { hash := PyData.keyHash P (Str.ofString "__static_\x61ttributes__"), key := Value.str (Str.ofString "__static_\x61ttributes__") 616, val := Value.ref 210 }, { hash := PyData.keyHash P (Str.ofString "__dict__"), key := Value.str (Str.ofString "__dict__") 618, val := Value.ref 213 }, { hash := PyData.keyHash P (Str.ofString "__weakref__"), key := Value.str (Str.ofString "__weakref__") 620, val := Value.ref 214 }, { hash := PyData.keyHash P (Str.ofString "__doc__"), key := Value.str (Str.ofString "__doc__") 621, val := Value.none }] 4 }) ::
 (nat_lit 212, { cls := Value.type "type", data := Data.cls { name := Str.ofString "Headers", bases := [Value.type "object"], mro := [Value.ref 212, Value.type "object"], ns := 211, qualname := Str.ofString "Headers" }, slots := #[none, none, some (Value.str (Str.ofString "Headers") 464), some (Value.str (Str.ofString "Headers") 472), some (Value.builtin "object.__new__"), some (Value.bool true)] }) ::
 (nat_lit 213, { cls := Value.type "getset_descriptor", data := Data.fields #[Value.str (Str.ofString "__dict__") 617, Value.ref 212, Value.builtin "function.__dict__", Value.builtin "function.__dict__#set"] }) ::
 (nat_lit 214, { cls := Value.type "getset_descriptor", data := Data.fields #[Value.str (Str.ofString "__weakref__") 619, Value.ref 212, Value.builtin "ExceptionGroup.__weakref__", Value.none] }) ::
 (nat_lit 217, { cls := Value.type "tuple", data := Data.seq #[] }) ::
 (nat_lit 219, { cls := Value.type "tuple", data := Data.seq #[Value.str (Str.ofString "item") 629, Value.str (Str.ofString "place") 630, Value.str (Str.ofString "dark") 631, Value.str (Str.ofString "pale") 632, Value.str (Str.ofString "great") 633, Value.str (Str.ofString "name") 634] }) ::
 (nat_lit 220, { cls := Value.type "tuple", data := Data.seq #[] }) ::
 (nat_lit 222, { cls := Value.type "code", data := Data.fields #[Value.str (Str.ofString "_law_spelled") 626, Value.str (Str.ofString "_law_spelled") 627, Value.str (Str.ofString "/claim/cut.py") 628, Value.int 199 0, Value.int 1 0, Value.int 0 0, Value.int 0 0, Value.int 3 0, Value.ref 217, Value.bool true, Value.int 276 0, Value.ref 218, Value.none, Value.ref 219, Value.ref 220, Value.ref 221, Value.int 635 0, Value.int 199 0, Value.str (Str.ofString "/claim/cut.py") 636] }) ::
 (nat_lit 223, { cls := Value.type "function", data := Data.func { name := Str.ofString "_law_spelled", qualname := Str.ofString "_law_spelled", params := f16_params, body := FuncBody.stmts f16_body, scope := f16_scope, globals := 3, closure := [], defaults := Value.none, kwdefaults := Value.none, pyModule := Value.str (Str.ofString "law_pg0286_01") 624, code := Value.ref 222 } }) ::
 (nat_lit 224, { cls := Value.type "tuple", data := Data.seq #[] }) ::
 (nat_lit 226, { cls := Value.type "tuple", data := Data.seq #[Value.str (Str.ofString "hue") 641, Value.str (Str.ofString "top") 642, Value.str (Str.ofString "spread") 643, Value.str (Str.ofString "great") 644, Value.str (Str.ofString "dark") 645, Value.str (Str.ofString "pale") 646] }) ::
 (nat_lit 227, { cls := Value.type "tuple", data := Data.seq #[] }) ::
 (nat_lit 229, { cls := Value.type "code", data := Data.fields #[Value.str (Str.ofString "_law_line") 638, Value.str (Str.ofString "_law_line") 639, Value.str (Str.ofString "/claim/cut.py") 640, Value.int 205 0, Value.int 4 0, Value.int 0 0, Value.int 0 0, Value.int 3 0, Value.ref 224, Value.bool true, Value.int 276 0, Value.ref 225, Value.none, Value.ref 226, Value.ref 227, Value.ref 228, Value.int 647 0, Value.int 205 0, Value.str (Str.ofString "/claim/cut.py") 648] }) ::
 (nat_lit 230, { cls := Value.type "function", data := Data.func { name := Str.ofString "_law_line", qualname := Str.ofString "_law_line", params := f17_params, body := FuncBody.stmts f17_body, scope := f17_scope, globals := 3, closure := [], defaults := Value.none, kwdefaults := Value.none, pyModule := Value.str (Str.ofString "law_pg0286_01") 624, code := Value.ref 229 } }) ::
 (nat_lit 231, { cls := Value.type "tuple", data := Data.seq #[] }) ::
 (nat_lit 233, { cls := Value.type "tuple", data := Data.seq #[Value.str (Str.ofString "colour") 653, Value.str (Str.ofString "great") 654, Value.str (Str.ofString "hue") 655, Value.str (Str.ofString "share") 656, Value.str (Str.ofString "value") 657] }) ::
 (nat_lit 234, { cls := Value.type "tuple", data := Data.seq #[] }) ::
 (nat_lit 236, { cls := Value.type "code", data := Data.fields #[Value.str (Str.ofString "_law_by_hsv") 650, Value.str (Str.ofString "_law_by_hsv") 651, Value.str (Str.ofString "/claim/cut.py") 652, Value.int 211 0, Value.int 2 0, Value.int 0 0, Value.int 0 0, Value.int 3 0, Value.ref 231, Value.bool true, Value.int 276 0, Value.ref 232, Value.none, Value.ref 233, Value.ref 234, Value.ref 235, Value.int 658 0, Value.int 211 0, Value.str (Str.ofString "/claim/cut.py") 659] }) ::
 (nat_lit 237, { cls := Value.type "function", data := Data.func { name := Str.ofString "_law_by_hsv", qualname := Str.ofString "_law_by_hsv", params := f18_params, body := FuncBody.stmts f18_body, scope := f18_scope, globals := 3, closure := [], defaults := Value.none, kwdefaults := Value.none, pyModule := Value.str (Str.ofString "law_pg0286_01") 624, code := Value.ref 236 } }) ::
 (nat_lit 238, { cls := Value.type "tuple", data := Data.seq #[] }) ::
 (nat_lit 240, { cls := Value.type "tuple", data := Data.seq #[Value.str (Str.ofString "colour") 664, Value.str (Str.ofString "great") 665, Value.str (Str.ofString "hue") 666, Value.str (Str.ofString "light") 667, Value.str (Str.ofString "share") 668, Value.str (Str.ofString "spread") 669] }) ::
 (nat_lit 241, { cls := Value.type "tuple", data := Data.seq #[] }) ::
 (nat_lit 243, { cls := Value.type "code", data := Data.fields #[Value.str (Str.ofString "_law_by_hls") 661, Value.str (Str.ofString "_law_by_hls") 662, Value.str (Str.ofString "/claim/cut.py") 663, Value.int 214 0, Value.int 2 0, Value.int 0 0, Value.int 0 0, Value.int 3 0, Value.ref 238, Value.bool true, Value.int 276 0, Value.ref 239, Value.none, Value.ref 240, Value.ref 241, Value.ref 242, Value.int 670 0, Value.int 214 0, Value.str (Str.ofString "/claim/cut.py") 671] }) ::
 (nat_lit 244, { cls := Value.type "function", data := Data.func { name := Str.ofString "_law_by_hls", qualname := Str.ofString "_law_by_hls", params := f19_params, body := FuncBody.stmts f19_body, scope := f19_scope, globals := 3, closure := [], defaults := Value.none, kwdefaults := Value.none, pyModule := Value.str (Str.ofString "law_pg0286_01") 624, code := Value.ref 243 } }) ::
 (nat_lit 245, { cls := Value.type "tuple", data := Data.seq #[] }) ::
 (nat_lit 247, { cls := Value.type "tuple", data := Data.seq #[Value.str (Str.ofString "table") 676, Value.str (Str.ofString "deed") 677, Value.str (Str.ofString "line") 678] }) ::
 (nat_lit 248, { cls := Value.type "tuple", data := Data.seq #[] }) ::
 (nat_lit 250, { cls := Value.type "code", data := Data.fields #[Value.str (Str.ofString "_law_deed") 673, Value.str (Str.ofString "_law_deed") 674, Value.str (Str.ofString "/claim/cut.py") 675, Value.int 218 0, Value.int 3 0, Value.int 0 0, Value.int 0 0, Value.int 3 0, Value.ref 245, Value.bool true, Value.int 276 0, Value.ref 246, Value.none, Value.ref 247, Value.ref 248, Value.ref 249, Value.int 679 0, Value.int 218 0, Value.str (Str.ofString "/claim/cut.py") 680] }) ::
 (nat_lit 251, { cls := Value.type "function", data := Data.func { name := Str.ofString "_law_deed", qualname := Str.ofString "_law_deed", params := f20_params, body := FuncBody.stmts f20_body, scope := f20_scope, globals := 3, closure := [], defaults := Value.none, kwdefaults := Value.none, pyModule := Value.str (Str.ofString "law_pg0286_01") 624, code := Value.ref 250 } }) ::
 (nat_lit 252, { cls := Value.type "tuple", data := Data.seq #[] }) ::
 (nat_lit 255, { cls := Value.type "code", data := Data.fields #[Value.str (Str.ofString "_law_own_deed") 682, Value.str (Str.ofString "_law_own_deed") 683, Value.str (Str.ofString "/claim/cut.py") 684, Value.int 227 0, Value.int 3 0, Value.int 0 0, Value.int 0 0, Value.int 3 0, Value.ref 252, Value.bool true, Value.int 276 0, Value.ref 253, Value.none, Value.none, Value.none, Value.ref 254, Value.int 685 0, Value.int 227 0, Value.str (Str.ofString "/claim/cut.py") 686] }) ::
 (nat_lit 256, { cls := Value.type "function", data := Data.func { name := Str.ofString "_law_own_deed", qualname := Str.ofString "_law_own_deed", params := f21_params, body := FuncBody.stmts f21_body, scope := f21_scope, globals := 3, closure := [], defaults := Value.none, kwdefaults := Value.none, pyModule := Value.str (Str.ofString "law_pg0286_01") 624, code := Value.ref 255 } }) ::
 (nat_lit 257, { cls := Value.type "tuple", data := Data.seq #[] }) ::
 (nat_lit 259, { cls := Value.type "tuple", data := Data.seq #[Value.str (Str.ofString "numbers") 691, Value.str (Str.ofString "seen") 692, Value.str (Str.ofString "told") 693, Value.str (Str.ofString "row") 694, Value.str (Str.ofString "m") 695, Value.str (Str.ofString "dark") 696, Value.str (Str.ofString "pale") 697, Value.str (Str.ofString "deed") 698, Value.str (Str.ofString "great") 699, Value.str (Str.ofString "colour") 700] }) ::
 (nat_lit 260, { cls := Value.type "tuple", data := Data.seq #[] }) ::
 (nat_lit 262, { cls := Value.type "code", data := Data.fields #[Value.str (Str.ofString "_law_sheet") 688, Value.str (Str.ofString "_law_sheet") 689, Value.str (Str.ofString "/claim/cut.py") 690, Value.int 236 0, Value.int 1 0, Value.int 0 0, Value.int 0 0, Value.int 3 0, Value.ref 257, Value.bool true, Value.int 276 0, Value.ref 258, Value.none, Value.ref 259, Value.ref 260, Value.ref 261, Value.int 701 0, Value.int 236 0, Value.str (Str.ofString "/claim/cut.py") 702] }) ::
 (nat_lit 263, { cls := Value.type "function", data := Data.func { name := Str.ofString "_law_sheet", qualname := Str.ofString "_law_sheet", params := f22_params, body := FuncBody.stmts f22_body, scope := f22_scope, globals := 3, closure := [], defaults := Value.none, kwdefaults := Value.none, pyModule := Value.str (Str.ofString "law_pg0286_01") 624, code := Value.ref 262 } }) ::
 (nat_lit 264, { cls := Value.type "tuple", data := Data.seq #[] }) ::
 (nat_lit 266, { cls := Value.type "tuple", data := Data.seq #[Value.str (Str.ofString "small") 707, Value.str (Str.ofString "large") 708, Value.str (Str.ofString "left") 709, Value.str (Str.ofString "place") 710, Value.str (Str.ofString "dark") 711, Value.str (Str.ofString "pale") 712, Value.str (Str.ofString "great") 713, Value.str (Str.ofString "due") 714] }) ::
 (nat_lit 267, { cls := Value.type "tuple", data := Data.seq #[] }) ::
 (nat_lit 269, { cls := Value.type "code", data := Data.fields #[Value.str (Str.ofString "_law_within") 704, Value.str (Str.ofString "_law_within") 705, Value.str (Str.ofString "/claim/cut.py") 706, Value.int 253 0, Value.int 2 0, Value.int 0 0, Value.int 0 0, Value.int 3 0, Value.ref 264, Value.bool true, Value.int 276 0, Value.ref 265, Value.none, Value.ref 266, Value.ref 267, Value.ref 268, Value.int 715 0, Value.int 253 0, Value.str (Str.ofString "/claim/cut.py") 716] }) ::
 (nat_lit 270, { cls := Value.type "function", data := Data.func { name := Str.ofString "_law_within", qualname := Str.ofString "_law_within", params := f23_params, body := FuncBody.stmts f23_body, scope := f23_scope, globals := 3, closure := [], defaults := Value.none, kwdefaults := Value.none, pyModule := Value.str (Str.ofString "law_pg0286_01") 624, code := Value.ref 269 } }) ::
 (nat_lit 271, { cls := Value.type "tuple", data := Data.seq #[] }) ::
 (nat_lit 274, { cls := Value.type "code", data := Data.fields #[Value.str (Str.ofString "law") 718, Value.str (Str.ofString "law") 719, Value.str (Str.ofString "/claim/cut.py") 720, Value.int 261 0, Value.int 1 0, Value.int 0 0, Value.int 0 0, Value.int 3 0, Value.ref 271, Value.bool true, Value.int 276 0, Value.ref 272, Value.none, Value.none, Value.none, Value.ref 273, Value.int 721 0, Value.int 261 0, Value.str (Str.ofString "/claim/cut.py") 722] }) ::
 (nat_lit 275, { cls := Value.type "function", data := Data.func { name := Str.ofString "law", qualname := Str.ofString "law", params := f24_params, body := FuncBody.stmts f24_body, scope := f24_scope, globals := 3, closure := [], defaults := Value.none, kwdefaults := Value.none, pyModule := Value.str (Str.ofString "law_pg0286_01") 624, code := Value.ref 274 } }) :: []) → Params → Frag) _ ?h
  case f => exact fun q _ => q
  case h => (conv => rhs; delta f1_params f1_scope f1_body f3_params f3_scope f3_body f4_params f4_scope f4_body f5_params f5_scope f5_body f8_params f8_scope f8_body f13_params f13_scope f13_body m0_params m0_scope m0_body m1_params m1_scope m1_body m2_params m2_scope m2_body m3_params m3_scope m3_body m4_params m4_scope m4_body m5_params m5_scope m5_body m6_params m6_scope m6_body m7_params m7_scope m7_body m8_params m8_scope m8_body m9_params m9_scope m9_body m10_params m10_scope m10_body m11_params m11_scope m11_body m12_params m12_scope m12_body m13_params m13_scope m13_body m14_params m14_scope m14_body m15_params m15_scope m15_body m16_params m16_scope m16_body f16_params f16_scope f16_body f17_params f17_scope f17_body f18_params f18_scope f18_body f19_params f19_scope f19_body f20_params f20_scope f20_body f21_params f21_scope f21_body f22_params f22_scope f22_body f23_params f23_scope f23_body f24_params f24_scope f24_body) <;> exact rfl
theorem hl_head : LeftO (OpenLaw.row PySem.Challenge.rw_pg0286_01).prog Mine.hd.view_39 [Str.ofString "tspecials", Str.ofString "_name_disallowed_re", Str.ofString "_value_disallowed_re", Str.ofString "_formatparam"] (fun s => xlAt Mine.hd.view_39 [] s && recOk (RowW.records (OpenRow.toRowW (OpenLaw.row PySem.Challenge.rw_pg0286_01))) s) (Hook.obs (kHook Mine.hd.heap_39 [2, 3, 32, 34, 35, 37, 38, 39, 41, 42, 44, 45, 46, 48, 49, 51, 52, 53, 55, 56, 58, 59, 60, 62, 63, 65, 66, 70, 71, 75, 76, 80, 81, 82, 83, 85, 86, 88, 89, 97, 98, 100, 101, 103, 104, 105, 107, 108, 110, 111, 112, 114, 115, 117, 118, 119, 121, 122, 124, 125, 126, 129, 130, 131, 133, 134, 136, 137, 138, 140, 141, 143, 144, 145, 147, 148, 150, 151, 152, 153, 155, 156, 158, 159, 160, 163, 164, 165, 168, 169, 170, 172, 173, 175, 176, 177, 179, 180, 182, 183, 184, 187, 188, 189, 191, 192, 194, 195, 196, 198, 199, 201, 202, 203, 205, 206, 208, 209, 210, 211, 212, 213, 214, 217, 219, 220, 222, 223, 224, 226, 227, 229, 230, 231, 233, 234, 236, 237, 238, 240, 241, 243, 244, 245, 247, 248, 250, 251, 252, 255, 256, 257, 259, 260, 262, 263, 264, 266, 267, 269, 270, 271, 274, 275] (fun _ => by kernel_rfl))) (Hook.val (kHook Mine.hd.heap_39 [2, 3, 32, 34, 35, 37, 38, 39, 41, 42, 44, 45, 46, 48, 49, 51, 52, 53, 55, 56, 58, 59, 60, 62, 63, 65, 66, 70, 71, 75, 76, 80, 81, 82, 83, 85, 86, 88, 89, 97, 98, 100, 101, 103, 104, 105, 107, 108, 110, 111, 112, 114, 115, 117, 118, 119, 121, 122, 124, 125, 126, 129, 130, 131, 133, 134, 136, 137, 138, 140, 141, 143, 144, 145, 147, 148, 150, 151, 152, 153, 155, 156, 158, 159, 160, 163, 164, 165, 168, 169, 170, 172, 173, 175, 176, 177, 179, 180, 182, 183, 184, 187, 188, 189, 191, 192, 194, 195, 196, 198, 199, 201, 202, 203, 205, 206, 208, 209, 210, 211, 212, 213, 214, 217, 219, 220, 222, 223, 224, 226, 227, 229, 230, 231, 233, 234, 236, 237, 238, 240, 241, 243, 244, 245, 247, 248, 250, 251, 252, 255, 256, 257, 259, 260, 262, 263, 264, 266, 267, 269, 270, 271, 274, 275] (fun _ => by kernel_rfl))) 3134 := by
  intro w; kernel_rfl
local macro_rules | `(tactic| walk_at $s:str) => `(tactic| k_extra $s)
local macro_rules | `(tactic| k_steps) => `(tactic| repeat' (first | (k_unfold; (try dsimp only)) | (k_end; wrow_close) | ((fail_if_success (first | (with_reducible show PyProof.Rows.LCg.CompRest _ _ _ _ _ _ _ _ _ _ _ _ _ _ _ _ _ _ _) | (with_reducible show PyProof.Rows.LCt.CompRestT _ _ _ _ _ _ _ _ _ _ _ _ _ _ _ _ _ _ _ _) | (with_reducible show PyProof.Rows.LCp.CompRestP _ _ _ _ _ _ _ _ _ _ _ _ _ _ _ _ _ _ _ _))); (first | walk1 | (dsimp only; walk1))) | (leave1; try dsimp only) | fail "no step"))
local macro_rules | `(tactic| k_mem) => `(tactic| k_extra "k_mem")
local macro_rules | `(tactic| k_all) => `(tactic| k_extra "k_all")
local macro_rules | `(tactic| k_room) => `(tactic| k_extra "k_room")
local macro_rules | `(tactic| k_units) => `(tactic| k_extra "k_units")
local macro_rules | `(tactic| k_updF) => `(tactic| k_extra "k_updF")
section
open PySem PySem.W PyProof.Rows PySem.Calls PySem.Flt
noncomputable abbrev tupOf (vs : List Value) : Obj := { cls := .type "tuple", data := .seq vs.toArray }

noncomputable def fmax2 (x y : UInt64) : UInt64 := if (Float64.cmp x y == some .lt) = true then y else x
noncomputable def fmin2 (x y : UInt64) : UInt64 := if (Float64.cmp y x == some .lt) = true then y else x
noncomputable def fmax3 (x y z : UInt64) : UInt64 := fmax2 (fmax2 x y) z
noncomputable def fmin3 (x y z : UInt64) : UInt64 := fmin2 (fmin2 x y) z

theorem max_three_num {prog : Program} {w : World} {A : Around} {E : Value → Shared → Prop} {s : Shared} {Q : Value → Shared → Prop} {a b c : Value} (hh : A.handled = none) (ha : NumV a) (hb : NumV b) (hc : NumV c)
    (h : ∀ h' tk, (∀ c o, s.heap.get? c = some o → h'.get? c = some o) → Q (if ltV (if ltV a b then b else a) c then c else (if ltV a b then b else a)) { s with heap := h', toks := tk }) :
    wpAny (model prog w) A (call (.builtin "max") [a, b, c]) Q E s := by
  have hT : (s.heap.push { cls := .type "tuple", data := .seq #[a, b, c] }).IsTuple s.heap.objs.size #[a, b, c] := ⟨_, Heap.get?_push_size _ rfl, rfl, 0, rfl⟩
  refine call_max_three (wpAny_pyIter_tuple hT ?_)
  have hsz : (s.heap.push { cls := .type "tuple", data := .seq #[a, b, c] }).objs.size = s.heap.objs.size + 1 := Heap.size_push ..
  refine ⟨_, [_, s.heap.objs.size], [_], _, _, _, _, rfl, Walks.tuple (A := A.in1) hh _ s.heap.objs.size (by rw [hsz]; exact Nat.ne_of_lt (Nat.lt_succ_self _)) #[a, b, c],
    ⟨⟨_, Heap.get?_push_size _ rfl, rfl, rfl⟩, hT.push _⟩, fun c hc => ?_, by simp, cmpOf_gt #[a, b, c] (by simp [ha, hb, hc]), fun v h' tk hP hk => ?_⟩
  · show c < ((s.heap.push _).push _).objs.size
    rw [Heap.size_push, hsz]
    rcases List.mem_cons.mp hc with rfl | hc
    · rw [hsz]; exact Nat.lt_succ_self _
    · rcases List.mem_cons.mp hc with rfl | hc
      · exact Nat.lt_succ_of_lt (Nat.lt_succ_self _)
      · cases hc
  · have hold : ∀ c o, s.heap.get? c = some o → h'.get? c = some o := fun c o e => by
      refine hk c o (fun hm => ?_) (Heap.get?_push_of_some _ (Heap.get?_push_of_some _ e))
      rcases List.mem_cons.mp hm with e1 | hm
      · have := Heap.lt_size e; rw [e1, hsz] at this; exact Nat.lt_irrefl _ (Nat.lt_of_succ_lt this)
      · cases hm
    have := h h' tk hold
    have hv : v = (if ltV (if ltV a b then b else a) c then c else (if ltV a b then b else a)) := by
      cases h1 : ltV a b
      · cases h2 : ltV a c <;> simp [argBest, h1, h2] at hP <;> subst hP <;> simp [h1, h2]
      · cases h2 : ltV b c <;> simp [argBest, h1, h2] at hP <;> subst hP <;> simp [h1, h2]
    rw [hv]; exact this
theorem min_three_num {prog : Program} {w : World} {A : Around} {E : Value → Shared → Prop} {s : Shared} {Q : Value → Shared → Prop} {a b c : Value} (hh : A.handled = none) (ha : NumV a) (hb : NumV b) (hc : NumV c)
    (h : ∀ h' tk, (∀ c o, s.heap.get? c = some o → h'.get? c = some o) → Q (if ltV c (if ltV b a then b else a) then c else (if ltV b a then b else a)) { s with heap := h', toks := tk }) :
    wpAny (model prog w) A (call (.builtin "min") [a, b, c]) Q E s := by
  have hT : (s.heap.push { cls := .type "tuple", data := .seq #[a, b, c] }).IsTuple s.heap.objs.size #[a, b, c] := ⟨_, Heap.get?_push_size _ rfl, rfl, 0, rfl⟩
  refine call_min_three (wpAny_pyIter_tuple hT ?_)
  have hsz : (s.heap.push { cls := .type "tuple", data := .seq #[a, b, c] }).objs.size = s.heap.objs.size + 1 := Heap.size_push ..
  refine ⟨_, [_, s.heap.objs.size], [_], _, _, _, _, rfl, Walks.tuple (A := A.in1) hh _ s.heap.objs.size (by rw [hsz]; exact Nat.ne_of_lt (Nat.lt_succ_self _)) #[a, b, c],
    ⟨⟨_, Heap.get?_push_size _ rfl, rfl, rfl⟩, hT.push _⟩, fun c hc => ?_, by simp, cmpOf_lt #[a, b, c] (by simp [ha, hb, hc]), fun v h' tk hP hk => ?_⟩
  · show c < ((s.heap.push _).push _).objs.size
    rw [Heap.size_push, hsz]
    rcases List.mem_cons.mp hc with rfl | hc
    · rw [hsz]; exact Nat.lt_succ_self _
    · rcases List.mem_cons.mp hc with rfl | hc
      · exact Nat.lt_succ_of_lt (Nat.lt_succ_self _)
      · cases hc
  · have hold : ∀ c o, s.heap.get? c = some o → h'.get? c = some o := fun c o e => by
      refine hk c o (fun hm => ?_) (Heap.get?_push_of_some _ (Heap.get?_push_of_some _ e))
      rcases List.mem_cons.mp hm with e1 | hm
      · have := Heap.lt_size e; rw [e1, hsz] at this; exact Nat.lt_irrefl _ (Nat.lt_of_succ_lt this)
      · cases hm
    have := h h' tk hold
    have hv : v = (if ltV c (if ltV b a then b else a) then c else (if ltV b a then b else a)) := by
      cases h1 : ltV b a
      · cases h2 : ltV c a <;> simp [argBest, h1, h2] at hP <;> subst hP <;> simp [h1, h2]
      · cases h2 : ltV c b <;> simp [argBest, h1, h2] at hP <;> subst hP <;> simp [h1, h2]
    rw [hv]; exact this
theorem max_three_fff {prog : Program} {w : World} {A : Around} {E : Value → Shared → Prop} {s : Shared} {Q : Value → Shared → Prop} {x y z : UInt64} {t u v : Tok} {h₀ : Heap} {L : Addr} {m : Str → Option Value} {news : List (Addr × Obj)}
    (hh : A.handled = none) (F : Fr h₀ L s.heap m) (N : News h₀ L s.heap news)
    (h : ∀ h' tk v, Fr h₀ L h' m → News h₀ L h' news → Q (.float (fmax3 x y z) v) { s with heap := h', toks := tk }) :
    wpAny (model prog w) A (call (.builtin "max") [.float x t, .float y u, .float z v]) Q E s :=
  max_three_num hh (.float x t) (.float y u) (.float z v) fun h' tk kp => by
    have key := fun v => h h' tk v (F.grownK kp) (N.grown kp)
    unfold fmax3 fmax2 at key
    cases h1 : (Float64.cmp x y == some Ordering.lt) <;> cases h2 : (Float64.cmp x z == some Ordering.lt) <;> cases h3 : (Float64.cmp y z == some Ordering.lt) <;>
      simp only [ltV, h1, h2, h3, if_true, if_false, Bool.false_eq_true] at key ⊢ <;> exact key _
theorem min_three_fff {prog : Program} {w : World} {A : Around} {E : Value → Shared → Prop} {s : Shared} {Q : Value → Shared → Prop} {x y z : UInt64} {t u v : Tok} {h₀ : Heap} {L : Addr} {m : Str → Option Value} {news : List (Addr × Obj)}
    (hh : A.handled = none) (F : Fr h₀ L s.heap m) (N : News h₀ L s.heap news)
    (h : ∀ h' tk v, Fr h₀ L h' m → News h₀ L h' news → Q (.float (fmin3 x y z) v) { s with heap := h', toks := tk }) :
    wpAny (model prog w) A (call (.builtin "min") [.float x t, .float y u, .float z v]) Q E s :=
  min_three_num hh (.float x t) (.float y u) (.float z v) fun h' tk kp => by
    have key := fun v => h h' tk v (F.grownK kp) (N.grown kp)
    unfold fmin3 fmin2 at key
    cases h1 : (Float64.cmp y x == some Ordering.lt) <;> cases h2 : (Float64.cmp z x == some Ordering.lt) <;> cases h3 : (Float64.cmp z y == some Ordering.lt) <;>
      simp only [ltV, h1, h2, h3, if_true, if_false, Bool.false_eq_true] at key ⊢ <;> exact key _
end
section
open PySem PySem.W PyProof.Rows PySem.Calls PySem.Flt
noncomputable def Rw (_ : Params → Frag) (_ : OpenLaw) : Prop := True
theorem fill : Rw Mine.hd.heap_39 PySem.Challenge.rw_pg0286_01 := by
  k_fill
  exact trivial

noncomputable abbrev Ledger := List (Addr × Obj)
/-- what a call of the def at f does, wherever it is called -/
noncomputable def Ctr (w : World) (k : Nat) (f : Addr) (vs : List Value) (news : Ledger) (Post : Value → Ledger → Prop) : Prop :=
  ∀ (loose : List Str) (mean : ExcName → Option Value) (mg mb : Str → Option Value)
    (dp un : Nat) (gd : Option (List Code)) (cn : Str) (cs : Scope) (a : Addr) (ccd : Value) (cl : List (Str × Addr)) (outer : List Env) (A₀ : Around) (base h₀ : Heap) (L : Addr) (m : Str → Option Value) (s : Shared) (Q E : Value → Shared → Prop),
    Below A₀ base outer h₀ → Fr h₀ L s.heap m → (Mine.hd.heap_39 w.params).In h₀ → News h₀ L s.heap news → Top Mine.hd.view_39 loose mean mg mb h₀ → cs.kind = .function → dp + k < recursionLimit → un + 8 * k < cLine →
    (∀ r news' h' tk', Fr h₀ L h' m → News h₀ L h' news' → Post r news' → Q r { s with heap := h', toks := tk' }) →
    wpAny (model PySem.Challenge.rw_pg0286_01.prog w) (ktrTop dp un gd cn cs L a ccd cl outer) (call (.ref f) vs) Q E s

/-- the answer is a new tuple of three floats -/
noncomputable def Post3 (f : UInt64 × UInt64 × UInt64) (news : Ledger) (r : Value) (news' : Ledger) : Prop :=
  ∃ D t5 t6 t7, r = .ref D ∧ news' = (D, tupOf [.float f.1 t5, .float f.2.1 t6, .float f.2.2 t7]) :: news ∧ ∀ p ∈ news, p.1 < D
theorem end3 {news : Ledger} {D : Addr} {a b c : UInt64} {t5 t6 t7 : Tok} {f : UInt64 × UInt64 × UInt64} (e : f = (a, b, c)) (l : ∀ p ∈ news, p.1 < D) :
    Post3 f news (.ref D) ((D, { cls := .type "tuple", data := .seq #[.float a t5, .float b t6, .float c t7] }) :: news) := by
  subst e; exact ⟨D, t5, t6, t7, rfl, rfl, l⟩
theorem not_tt {b : Bool} (h : b = false) : ¬ b = true := by rw [h]; exact Bool.false_ne_true
theorem allLt_to {d : Addr} : ∀ {l : Ledger}, AllLt d l → ∀ p ∈ l, p.1 < d
  | [], _, _, hp => nomatch hp
  | q :: r, h, p, hp => by
    rcases List.mem_cons.mp hp with rfl | hp
    · exact h.1
    · exact allLt_to h.2 p hp



theorem words_F2_1 : True := by
  k_with_none
  k_with "my pathif" => (repeat' (first | rw [if_pos (by assumption)] | rw [if_neg (by assumption)] | rw [if_neg (not_tt (by assumption))]))
  k_with "call builtin:max" => ((with_reducible show wpAny _ _ (call _ [Value.float _ _, Value.float _ _, Value.float _ _]) _ _ _); (rename News _ _ _ _ => N'); (rename Fr _ _ _ _ => F'); refine max_three_fff rfl F' N' ?_; clear N'; intro h' tk' t' F' N')
  k_with "call builtin:min" => ((with_reducible show wpAny _ _ (call _ [Value.float _ _, Value.float _ _, Value.float _ _]) _ _ _); (rename News _ _ _ _ => N'); (rename Fr _ _ _ _ => F'); refine min_three_fff rfl F' N' ?_; clear N'; intro h' tk' t' F' N')
  trivial
noncomputable abbrev fSix : UInt64 := 4618441417868443648
noncomputable abbrev fOne : UInt64 := 4607182418800017408
noncomputable abbrev fTwo : UInt64 := 4611686018427387904
noncomputable abbrev fFour : UInt64 := 4616189618054758400
noncomputable abbrev fHalf : UInt64 := 4602678819172646912
/-- int(h * 6.0) -/
noncomputable def sixth (x : UInt64) : Int := Flt.toInt Float64.truncOf (Float64.mul x fSix)
noncomputable def frac (x : UInt64) : UInt64 := Float64.sub (Float64.mul x fSix) (Float64.ofInt (sixth x))
noncomputable def rP (y z : UInt64) : UInt64 := Float64.mul z (Float64.sub fOne y)
noncomputable def rQ (x y z : UInt64) : UInt64 := Float64.mul z (Float64.sub fOne (Float64.mul y (frac x)))
noncomputable def rT (x y z : UInt64) : UInt64 := Float64.mul z (Float64.sub fOne (Float64.mul y (Float64.sub fOne (frac x))))
noncomputable def rgbF (x y z : UInt64) : UInt64 × UInt64 × UInt64 :=
  if (Float64.cmp y 0 == some Ordering.eq) = true then (z, z, z)
  else if (sixth x).fmod 6 = 0 then (z, rT x y z, rP y z)
  else if (sixth x).fmod 6 = 1 then (rQ x y z, z, rP y z)
  else if (sixth x).fmod 6 = 2 then (rP y z, z, rT x y z)
  else if (sixth x).fmod 6 = 3 then (rP y z, rQ x y z, z)
  else if (sixth x).fmod 6 = 4 then (rT x y z, rP y z, z)
  else (z, rP y z, rQ x y z)
structure RgbOk (x : UInt64) : Prop where
  nan : Float64.isNaN (Float64.mul x fSix) = false
  inf : Float64.isInf (Float64.mul x fSix) = false
  small : (sixth x).natAbs < 2 ^ 1024 - 2 ^ 970

theorem fmod6 (n : Int) : 0 ≤ n.fmod 6 ∧ n.fmod 6 < 6 := ⟨Int.fmod_nonneg_of_pos _ (by decide), Int.fmod_lt_of_pos _ (by decide)⟩

theorem hsv_rgb (w : World) (news : Ledger) (x y z : UInt64) (t1 t2 t3 : Tok) (ok : RgbOk x) : Ctr w 1 59 [.float x t1, .float y t2, .float z t3] news (Post3 (rgbF x y z) news) := by
  intro loose mean mg mb dp un gd cn cs a ccd cl outer A₀ base h₀ L m s Q E B F X N T hk hdp hun hret
  refine wpAny_call ?_
  k_dflt cell_enter
  k_steps
  · exact hret _ _ _ _ (by assumption) (by assumption) (end3 (by unfold rgbF; walk_at "my pathif") (by assumption))
  · exact absurd (ok.nan.symm.trans (by assumption)) Bool.false_ne_true
  · exact absurd (ok.inf.symm.trans (by assumption)) Bool.false_ne_true
  · exact absurd ok.small (Nat.not_lt.mpr (by assumption))
  all_goals first
    | exact hret _ _ _ _ (by assumption) (by assumption) (end3 (by unfold rgbF; unfold sixth; walk_at "my pathif"; all_goals rfl) (by assumption))
    | (exfalso; have := fmod6 (Flt.toInt Float64.truncOf (Float64.mul x 4618441417868443648)); omega)

noncomputable def hueF (x y z : UInt64) : UInt64 :=
  if (Float64.cmp x (fmax3 x y z) == some Ordering.eq) = true then (Float64.divmod (Float64.div (Float64.sub (Float64.div (Float64.sub (fmax3 x y z) z) (Float64.sub (fmax3 x y z) (fmin3 x y z))) (Float64.div (Float64.sub (fmax3 x y z) y) (Float64.sub (fmax3 x y z) (fmin3 x y z)))) fSix) fOne).2
  else if (Float64.cmp y (fmax3 x y z) == some Ordering.eq) = true then (Float64.divmod (Float64.div (Float64.sub (Float64.add fTwo (Float64.div (Float64.sub (fmax3 x y z) x) (Float64.sub (fmax3 x y z) (fmin3 x y z)))) (Float64.div (Float64.sub (fmax3 x y z) z) (Float64.sub (fmax3 x y z) (fmin3 x y z)))) fSix) fOne).2
  else (Float64.divmod (Float64.div (Float64.sub (Float64.add fFour (Float64.div (Float64.sub (fmax3 x y z) y) (Float64.sub (fmax3 x y z) (fmin3 x y z)))) (Float64.div (Float64.sub (fmax3 x y z) x) (Float64.sub (fmax3 x y z) (fmin3 x y z)))) fSix) fOne).2
noncomputable def hsvF (x y z : UInt64) : UInt64 × UInt64 × UInt64 :=
  if (Float64.cmp (fmin3 x y z) (fmax3 x y z) == some Ordering.eq) = true then (0, 0, fmax3 x y z)
  else (hueF x y z, Float64.div (Float64.sub (fmax3 x y z) (fmin3 x y z)) (fmax3 x y z), fmax3 x y z)
structure HsvOk (x y z : UInt64) : Prop where
  top : (Float64.cmp (fmin3 x y z) (fmax3 x y z) == some Ordering.eq) = false → Float64.isZero (fmax3 x y z) = false
  range : (Float64.cmp (fmin3 x y z) (fmax3 x y z) == some Ordering.eq) = false → Float64.isZero (Float64.sub (fmax3 x y z) (fmin3 x y z)) = false

theorem rgb_hsv (w : World) (news : Ledger) (x y z : UInt64) (t1 t2 t3 : Tok) (ok : HsvOk x y z) : Ctr w 1 52 [.float x t1, .float y t2, .float z t3] news (Post3 (hsvF x y z) news) := by
  intro loose mean mg mb dp un gd cn cs a ccd cl outer A₀ base h₀ L m s Q E B F X N T hk hdp hun hret
  refine wpAny_call ?_
  k_dflt cell_enter
  k_steps
  all_goals first
    | exact hret _ _ _ _ (by assumption) (by assumption) (end3 (by unfold hsvF; walk_at "my pathif"; all_goals (unfold hueF; walk_at "my pathif"; all_goals rfl)) (by assumption))
    | exact absurd ((ok.top (by assumption)).symm.trans (by assumption)) Bool.false_ne_true
    | exact absurd ((ok.range (by assumption)).symm.trans (by assumption)) Bool.false_ne_true

noncomputable def lightF (x y z : UInt64) : UInt64 := Float64.div (Float64.add (fmax3 x y z) (fmin3 x y z)) fTwo
noncomputable def dimB (x y z : UInt64) : Bool := Float64.cmp (lightF x y z) fHalf == some Ordering.lt || Float64.cmp (lightF x y z) fHalf == some Ordering.eq
noncomputable def hlsF (x y z : UInt64) : UInt64 × UInt64 × UInt64 :=
  if (Float64.cmp (fmin3 x y z) (fmax3 x y z) == some Ordering.eq) = true then (0, lightF x y z, 0)
  else if dimB x y z = true then (hueF x y z, lightF x y z, Float64.div (Float64.sub (fmax3 x y z) (fmin3 x y z)) (Float64.add (fmax3 x y z) (fmin3 x y z)))
  else (hueF x y z, lightF x y z, Float64.div (Float64.sub (fmax3 x y z) (fmin3 x y z)) (Float64.sub (Float64.sub fTwo (fmax3 x y z)) (fmin3 x y z)))
structure HlsOk (x y z : UInt64) : Prop where
  range : (Float64.cmp (fmin3 x y z) (fmax3 x y z) == some Ordering.eq) = false → Float64.isZero (Float64.sub (fmax3 x y z) (fmin3 x y z)) = false
  low : (Float64.cmp (fmin3 x y z) (fmax3 x y z) == some Ordering.eq) = false → dimB x y z = true → Float64.isZero (Float64.add (fmax3 x y z) (fmin3 x y z)) = false
  high : (Float64.cmp (fmin3 x y z) (fmax3 x y z) == some Ordering.eq) = false → dimB x y z = false → Float64.isZero (Float64.sub (Float64.sub fTwo (fmax3 x y z)) (fmin3 x y z)) = false

theorem rgb_hls (w : World) (news : Ledger) (x y z : UInt64) (t1 t2 t3 : Tok) (ok : HlsOk x y z) : Ctr w 1 45 [.float x t1, .float y t2, .float z t3] news (Post3 (hlsF x y z) news) := by
  intro loose mean mg mb dp un gd cn cs a ccd cl outer A₀ base h₀ L m s Q E B F X N T hk hdp hun hret
  refine wpAny_call ?_
  k_dflt cell_enter
  k_steps
  all_goals first
    | exact hret _ _ _ _ (by assumption) (by assumption) (end3 (by unfold hlsF; unfold dimB lightF; walk_at "my pathif"; all_goals (unfold hueF; walk_at "my pathif"; all_goals rfl)) (by assumption))
    | exact absurd ((ok.range (by assumption)).symm.trans (by assumption)) Bool.false_ne_true
    | exact absurd ((ok.low (by assumption) (by unfold dimB lightF; assumption)).symm.trans (by assumption)) Bool.false_ne_true
    | exact absurd ((ok.high (by assumption) (by unfold dimB lightF; assumption)).symm.trans (by assumption)) Bool.false_ne_true
end
section
open PySem PySem.W PyProof.Rows PySem.Calls PySem.Flt

theorem words_F3_1 : True := by
  k_with_none
  k_with "my pathif" => (repeat' (first | rw [if_pos (by assumption)] | rw [if_neg (by assumption)] | rw [if_neg (not_tt (by assumption))]))
  trivial
theorem Ctr.use {w : World} {k : Nat} {f : Addr} {vs : List Value} {news : Ledger} {Post : Value → Ledger → Prop} (C : Ctr w k f vs news Post)
    {loose : List Str} {mean : ExcName → Option Value} {mg mb : Str → Option Value} {dp un : Nat} {gd : Option (List Code)} {cn : Str} {cs : Scope} {a : Addr} {ccd : Value} {cl : List (Str × Addr)} {outer : List Env} {A₀ : Around} {base h₀ : Heap} {L : Addr} {m : Str → Option Value} {s : Shared} {Q E : Value → Shared → Prop}
    (B : Below A₀ base outer h₀) (F : Fr h₀ L s.heap m) (X : (Mine.hd.heap_39 w.params).In h₀) (N : News h₀ L s.heap news) (T : Top Mine.hd.view_39 loose mean mg mb h₀) (hk : cs.kind = .function) (hd : dp + k < recursionLimit) (hu : un + 8 * k < cLine)
    (ret : ∀ r news' h' tk', Fr h₀ L h' m → News h₀ L h' news' → Post r news' → Q r { s with heap := h', toks := tk' }) :
    wpAny (model PySem.Challenge.rw_pg0286_01.prog w) (ktrTop dp un gd cn cs L a ccd cl outer) (call (.ref f) vs) Q E s :=
  C loose mean mg mb dp un gd cn cs a ccd cl outer A₀ base h₀ L m s Q E B F X N T hk hd hu ret

noncomputable def lowName (p d : Int) : Str := Txt.mul (Str.ofString "d") d ++ Txt.item (Str.ofString "rstuw") p
noncomputable def nameOf (p d g : Int) : Str := if g = 1 then Txt.upper (lowName p d) else lowName p d
noncomputable def textOf (q : Int) : Str := Txt.mul (Str.ofString "p") q
/-- the answer is a new pair of texts -/
noncomputable def PostL (x y : Str) (news : Ledger) (r : Value) (news' : Ledger) : Prop :=
  ∃ D t5 t6, r = .ref D ∧ news' = (D, tupOf [.str x t5, .str y t6]) :: news ∧ ∀ p ∈ news, p.1 < D
theorem endL {news : Ledger} {D : Addr} {a b x y : Str} {t5 t6 : Tok} (e : x = a) (e' : y = b) (l : ∀ p ∈ news, p.1 < D) :
    PostL x y news (.ref D) ((D, { cls := .type "tuple", data := .seq #[.str a t5, .str b t6] }) :: news) := by
  subst e e'; exact ⟨D, t5, t6, rfl, rfl, l⟩

structure ItemOk (p d q g : Int) : Prop where
  p : 0 ≤ p ∧ p ≤ 4
  d : 0 ≤ d ∧ d ≤ 3
  q : 0 ≤ q ∧ q ≤ 3
  g : 0 ≤ g ∧ g ≤ 1

theorem spelled (w : World) (news : Ledger) (tup : Addr) (p d q g : Int) (t1 t2 t3 t4 : Tok) (ok : ItemOk p d q g) :
    Ctr w 1 223 [.ref tup] ((tup, tupOf [.int p t1, .int d t2, .int q t3, .int g t4]) :: news) (PostL (nameOf p d g) (textOf q) ((tup, tupOf [.int p t1, .int d t2, .int q t3, .int g t4]) :: news)) := by
  intro loose mean mg mb dp un gd cn cs a ccd cl outer A₀ base h₀ L m s Q E B F X N T hk hdp hun hret
  obtain ⟨hp, hd, hq, hg⟩ := ok
  refine wpAny_call ?_
  k_dflt cell_enter
  k_steps
  all_goals exact hret _ _ _ _ (by assumption) (by assumption) (endL (by unfold nameOf; walk_at "my pathif"; all_goals rfl) (by rfl) (by first | assumption | exact allLt_to (by assumption) | exact allLt_to (by simp only [AllLt]; exact ⟨by omega, by assumption⟩)))


theorem int_ok {prog : Program} {w : World} {A : Around} {E : Value → Shared → Prop} {s : Shared} {Q : Value → Shared → Prop} {x : UInt64} {t : Tok} (hf : Float64.isFinite x = true)
    (h : Q (.int (Flt.toInt Float64.truncOf x) s.toks) { s with toks := s.toks + 1 }) : wpAny (model prog w) A (call (.type "int") [.float x t]) Q E s := by
  cases hd : Float64.decode x with
  | fin sg m e =>
    rw [Flt.toInt_fin hd] at h
    exact call_int_float hd h
  | nan => unfold Float64.isFinite at hf; rw [hd] at hf; cases hf
  | inf n => unfold Float64.isFinite at hf; rw [hd] at hf; cases hf
theorem div_ok {prog : Program} {w : World} {A : Around} {E : Value → Shared → Prop} {s : Shared} {Q : Value → Shared → Prop} {a b : UInt64} {t u : Tok} (hA : A.handled = none) (hz : Float64.isZero b = false)
    (h : Q (.float (Float64.div a b) s.toks) { s with toks := s.toks + 1 }) : wpAny (model prog w) A (binaryOp .Div (.float a t) (.float b u)) Q E s :=
  truediv_float_or hA (fun h1 => absurd (hz.symm.trans h1) Bool.false_ne_true) (fun _ => h)

/-- the value of {a: 0, b: 1, c: 2}.get(i, 3) -/
noncomputable def pick4 (a b c i : Int) : Int := if i = a then 0 else if i = b then 1 else if i = c then 2 else 3
theorem get_pick4 {a b c i : Int} {v : Value} (h : PyProof.V.Flat v ((PySem.Spec.lookup (.int i) [(.int a, .int 0), (.int b, .int 1), (.int c, .int 2)]).getD (.int 3))) : ∃ t, v = .int (pick4 a b c i) t := by
  have e : ((PySem.Spec.lookup (.int i) [(.int a, .int 0), (.int b, .int 1), (.int c, .int 2)]).getD (.int 3)) = PyData.int (pick4 a b c i) := by
    unfold pick4
    simp only [PySem.Spec.lookup, PyProof.V.same_int, decide_eq_true_eq]
    by_cases h1 : i = a
    · simp [h1]
    · by_cases h2 : i = b
      · subst h2; simp [h1, Ne.symm h1]
      · by_cases h3 : i = c
        · subst h3; simp [h1, h2, Ne.symm h1, Ne.symm h2]
        · simp [h1, h2, h3, Ne.symm h1, Ne.symm h2, Ne.symm h3]
  rw [e] at h
  cases h {}
  exact ⟨_, rfl⟩

theorem pick4_bd (a b c i : Int) : 0 ≤ pick4 a b c i ∧ pick4 a b c i ≤ 3 := by
  unfold pick4; split <;> (try split) <;> (try split) <;> omega

noncomputable def whole16 (y : UInt64) : UInt64 := Float64.add (Float64.mul y (Float64.ofInt 16)) 4602678819172646912
noncomputable def whole4 (y : UInt64) : UInt64 := Float64.add (Float64.mul y (Float64.ofInt 4)) 4602678819172646912
noncomputable def wholeD (y z : UInt64) : UInt64 := Float64.add (Float64.div y z) 4602678819172646912
noncomputable def intF (x : UInt64) : Int := Flt.toInt Float64.truncOf x
/-- place, dark, pale as _law_line reads them off hue, top, spread -/
noncomputable def lineF (x y z : UInt64) : Int × Int × Int :=
  if intF (whole16 z) = 0 then (4, pick4 16 8 4 (intF (whole16 y)), 3)
  else ((intF (whole4 x)).fmod 4, pick4 16 8 4 (intF (whole16 y)), pick4 1 2 4 (intF (wholeD y z)))
structure LineOk (x y z : UInt64) : Prop where
  fy : Float64.isFinite (whole16 y) = true
  fz : Float64.isFinite (whole16 z) = true
  fd : intF (whole16 z) ≠ 0 → Float64.isFinite (wholeD y z) = true
  fx : Float64.isFinite (whole4 x) = true
  nz : intF (whole16 z) ≠ 0 → Float64.isZero z = false

theorem news_in {h₀ h : Heap} {L : Addr} {l l' : Ledger} (N : News h₀ L h l) (s : ∀ p ∈ l', p ∈ l) : News h₀ L h l' := fun p hp => N p (s p hp)


theorem words_F3_2 : True := by
  k_with "my use" => ((case k1 => k_asm); (case k2 => k_asm); (case k3 => k_asm); (case k4 => k_asm); (case k5 => k_asm); (case kK => first | exact rfl | assumption); (case kd => ktr_room); (case ku => ktr_units))
  k_with "my okI" => (constructor <;> first | omega | (constructor <;> omega) | assumption)
  k_with "call ref" => ((with_reducible show wpAny _ _ (call (Value.ref 223) _) _ _ _); k_dflt (refine' Ctr.use (spelled _ _ _ _ _ _ _ _ _ _ _ ?kO) ?k1 ?k2 ?k3 ?k4 ?k5 ?kK ?kd ?ku ?_; walk_at "my use"); (case kO => walk_at "my okI"); intro r9 news9 h9 tk9 F' N' hp9; (obtain ⟨D', t5', t6', hr9, hn9, l1⟩ := hp9); subst hr9; subst hn9; (try k_lt l1); (try k_sweep); (try dsimp only))
  k_with "call type:int" => (with_reducible refine int_ok (by first | assumption | exact ok3 (by assumption)) ?_)
  k_with "binaryOp Div float float" => (with_reducible refine div_ok rfl (by first | assumption | exact ok5 (by assumption)) ?_)
  k_with "call builtin:dict.get" => (k_here; k_dflt (refine' call_get2_intTab ?k1 ?k2 ?_; (case k1 => k_tabat); (case k2 => k_flat); k_whole; intro v9 hv9; (obtain ⟨t9, e9⟩ := get_pick4 (by exact hv9)); subst e9; clear hv9))
  trivial
theorem fmod4 (n : Int) : 0 ≤ n.fmod 4 ∧ n.fmod 4 < 4 := ⟨Int.fmod_nonneg_of_pos _ (by decide), Int.fmod_lt_of_pos _ (by decide)⟩
theorem retL {h₀ h' : Heap} {L D : Addr} {m : Str → Option Value} {s : Shared} {Q : Value → Shared → Prop} {news junk : Ledger} {x y a b : Str} {t5 t6 : Tok} {tk' : Nat}
    (hret : ∀ r news' h' tk', Fr h₀ L h' m → News h₀ L h' news' → PostL x y news r news' → Q r { s with heap := h', toks := tk' })
    (F : Fr h₀ L h' m) (N : News h₀ L h' ((D, tupOf [.str a t5, .str b t6]) :: junk)) (sub : ∀ p ∈ news, p ∈ junk) (e : x = a) (e' : y = b) (l : ∀ p ∈ news, p.1 < D) : Q (.ref D) { s with heap := h', toks := tk' } := by
  subst e e'
  exact hret _ ((D, tupOf [.str x t5, .str y t6]) :: news) _ _ F (fun p hp => N p (by rcases List.mem_cons.mp hp with rfl | h; exact .head _; exact .tail _ (sub p h))) ⟨D, t5, t6, rfl, rfl, l⟩

theorem words_F3_3 : True := by
  k_with "my sub" => (intro p9 hp9; first | exact hp9 | exact .tail _ hp9 | exact .tail _ (.tail _ hp9) | exact .tail _ (.tail _ (.tail _ hp9)) | exact .tail _ (.tail _ (.tail _ (.tail _ hp9))) | exact .tail _ (.tail _ (.tail _ (.tail _ (.tail _ hp9)))))
  k_with "my drop" => (intro p9 hp9; (rcases List.mem_cons.mp hp9 with e9 | h9); (subst e9; exact List.Mem.head _); (repeat apply List.Mem.tail); assumption)
  k_with "my low" => first | assumption | exact allLt_to (by assumption) | exact allLt_to (And.right (by assumption)) | exact allLt_to (And.right (And.right (by assumption))) | exact allLt_to (And.right (And.right (And.right (by assumption))))
  trivial
theorem law_line (w : World) (news : Ledger) (x y z : UInt64) (g : Int) (t1 t2 t3 t4 : Tok) (hg : 0 ≤ g ∧ g ≤ 1) (ok : LineOk x y z) :
    Ctr w 2 230 [.float x t1, .float y t2, .float z t3, .int g t4] news (PostL (nameOf (lineF x y z).1 (lineF x y z).2.1 g) (textOf (lineF x y z).2.2) news) := by
  intro loose mean mg mb dp un gd cn cs a ccd cl outer A₀ base h₀ L m s Q E B F X N T hk hdp hun hret
  have hb1 := pick4_bd 16 8 4 (intF (whole16 y))
  have hb2 := pick4_bd 1 2 4 (intF (wholeD y z))
  have hb3 := fmod4 (intF (whole4 x))
  obtain ⟨ok1, ok2, ok3, ok4, ok5⟩ := ok
  unfold intF at hb1 hb2 ok3 ok5
  unfold whole16 at hb1 ok1 ok2 ok3 ok5
  unfold wholeD at hb2 ok3
  unfold whole4 at ok4
  unfold intF whole4 at hb3
  refine wpAny_call ?_
  k_dflt cell_enter
  k_steps
  · refine retL hret (by assumption) (by assumption) ?s ?e ?e' ?l
    case s => walk_at "my sub"
    case e => unfold lineF intF whole16; walk_at "my pathif"; all_goals rfl
    case e' => unfold lineF intF whole16; walk_at "my pathif"; all_goals rfl
    case l => walk_at "my low"
  · refine retL hret (by assumption) (by assumption) ?s ?e ?e' ?l
    case s => walk_at "my sub"
    case e => unfold lineF intF whole16; walk_at "my pathif"; all_goals rfl
    case e' => unfold lineF intF whole16; walk_at "my pathif"; all_goals rfl
    case l => walk_at "my low"
end
section
open PySem PySem.W PyProof.Rows PySem.Calls PySem.Flt

noncomputable def hsvLine (r g b : UInt64) : Int × Int × Int := lineF (hsvF r g b).1 (hsvF r g b).2.2 (Float64.mul (hsvF r g b).2.1 (hsvF r g b).2.2)
noncomputable def spreadF (r g b : UInt64) : UInt64 := Float64.mul (hlsF r g b).2.2 (fmin2 (Float64.mul 4611686018427387904 (hlsF r g b).2.1) (Float64.sub 4611686018427387904 (Float64.mul 4611686018427387904 (hlsF r g b).2.1)))
noncomputable def topF (r g b : UInt64) : UInt64 := Float64.add (hlsF r g b).2.1 (Float64.div (spreadF r g b) 4611686018427387904)
noncomputable def hlsLine (r g b : UInt64) : Int × Int × Int := lineF (hlsF r g b).1 (topF r g b) (spreadF r g b)


theorem words_F4_1 : True := by
  k_with_none
  k_with "my use" => ((case k1 => k_asm); (case k2 => k_asm); (case k3 => k_asm); (case k4 => k_asm); (case k5 => k_asm); (case kK => first | exact rfl | assumption); (case kd => ktr_room); (case ku => ktr_units))
  k_with "my low" => first | assumption | exact allLt_to (by assumption) | exact allLt_to (And.right (by assumption)) | exact allLt_to (And.right (And.right (by assumption))) | exact allLt_to (And.right (And.right (And.right (by assumption))))
  k_with "my sub" => (intro p9 hp9; first | exact hp9 | exact .tail _ hp9 | exact .tail _ (.tail _ hp9) | exact .tail _ (.tail _ (.tail _ hp9)) | exact .tail _ (.tail _ (.tail _ (.tail _ hp9))) | exact .tail _ (.tail _ (.tail _ (.tail _ (.tail _ hp9)))))
  k_with "call ref" => ((with_reducible show wpAny _ _ (call (Value.ref 52) _) _ _ _); k_dflt (refine' Ctr.use (rgb_hsv _ _ _ _ _ _ _ _ ?kO) ?k1 ?k2 ?k3 ?k4 ?k5 ?kK ?kd ?ku ?_; walk_at "my use"); (case kO => assumption); intro r9 news9 h9 tk9 F' N' hp9; (obtain ⟨D', t5', t6', t7', hr9, hn9, l1⟩ := hp9); subst hr9; subst hn9; (try k_lt l1); (try k_sweep); (try dsimp only))
  k_with "call ref" => ((with_reducible show wpAny _ _ (call (Value.ref 45) _) _ _ _); k_dflt (refine' Ctr.use (rgb_hls _ _ _ _ _ _ _ _ ?kO) ?k1 ?k2 ?k3 ?k4 ?k5 ?kK ?kd ?ku ?_; walk_at "my use"); (case kO => assumption); intro r9 news9 h9 tk9 F' N' hp9; (obtain ⟨D', t5', t6', t7', hr9, hn9, l1⟩ := hp9); subst hr9; subst hn9; (try k_lt l1); (try k_sweep); (try dsimp only))
  k_with "call ref" => ((with_reducible show wpAny _ _ (call (Value.ref 230) _) _ _ _); k_dflt (refine' Ctr.use (law_line _ _ _ _ _ _ _ _ _ _ ?kP ?kO) ?k1 ?k2 ?k3 ?k4 ?k5 ?kK ?kd ?ku ?_; walk_at "my use"); (case kP => assumption); (case kO => assumption); intro r9 news9 h9 tk9 F' N' hp9; (obtain ⟨D', t5', t6', hr9, hn9, l1⟩ := hp9); subst hr9; subst hn9; (try k_lt l1); (try k_sweep); (try dsimp only))
  trivial
theorem by_hsv (w : World) (news : Ledger) (ct : Addr) (r g b : UInt64) (great : Int) (t1 t2 t3 t4 : Tok) (hg : 0 ≤ great ∧ great ≤ 1) (ok : HsvOk r g b)
    (okl : LineOk (hsvF r g b).1 (hsvF r g b).2.2 (Float64.mul (hsvF r g b).2.1 (hsvF r g b).2.2)) :
    Ctr w 3 237 [.ref ct, .int great t4] ((ct, tupOf [.float r t1, .float g t2, .float b t3]) :: news) (PostL (nameOf (hsvLine r g b).1 (hsvLine r g b).2.1 great) (textOf (hsvLine r g b).2.2) ((ct, tupOf [.float r t1, .float g t2, .float b t3]) :: news)) := by
  intro loose mean mg mb dp un gd cn cs a ccd cl outer A₀ base h₀ L m s Q E B F X N T hk hdp hun hret
  refine wpAny_call ?_
  k_dflt cell_enter
  k_steps
  all_goals (refine retL hret (by assumption) (by assumption) ?s ?e ?e' ?l)
  case s => walk_at "my sub"
  case e => rfl
  case e' => rfl
  case l => exact allLt_to (by simp only [AllLt]; simp_all)

theorem by_hls (w : World) (news : Ledger) (ct : Addr) (r g b : UInt64) (great : Int) (t1 t2 t3 t4 : Tok) (hg : 0 ≤ great ∧ great ≤ 1) (ok : HlsOk r g b)
    (okl : LineOk (hlsF r g b).1 (topF r g b) (spreadF r g b)) :
    Ctr w 3 244 [.ref ct, .int great t4] ((ct, tupOf [.float r t1, .float g t2, .float b t3]) :: news) (PostL (nameOf (hlsLine r g b).1 (hlsLine r g b).2.1 great) (textOf (hlsLine r g b).2.2) ((ct, tupOf [.float r t1, .float g t2, .float b t3]) :: news)) := by
  intro loose mean mg mb dp un gd cn cs a ccd cl outer A₀ base h₀ L m s Q E B F X N T hk hdp hun hret
  have hzero : Float64.isZero 4611686018427387904 = false := by decide +kernel
  refine wpAny_call ?_
  k_dflt cell_enter
  k_steps
  all_goals (refine retL hret (by assumption) (by assumption) ?s ?e ?e' ?l)
  case s => walk_at "my sub"
  case e => rfl
  case e' => rfl
  case l => exact allLt_to (by simp only [AllLt]; simp_all)
end
section
open PySem PySem.W PyProof.Rows PySem.Calls PySem.Flt

structure Item where
  p : Int
  d : Int
  q : Int
  g : Int
noncomputable def Item.Ok (i : Item) : Prop := ItemOk i.p i.d i.q i.g
noncomputable def Item.name (i : Item) : Str := nameOf i.p i.d i.g
noncomputable def Item.text (i : Item) : Str := textOf i.q

theorem four {n : Int} (h : 0 ≤ n ∧ n ≤ 3) : n = 0 ∨ n = 1 ∨ n = 2 ∨ n = 3 := by omega
theorem five {n : Int} (h : 0 ≤ n ∧ n ≤ 4) : n = 0 ∨ n = 1 ∨ n = 2 ∨ n = 3 ∨ n = 4 := by omega
theorem two {n : Int} (h : 0 ≤ n ∧ n ≤ 1) : n = 0 ∨ n = 1 := by omega

noncomputable abbrev setK (w : World) : Setting := ⟨PySem.Challenge.rw_pg0286_01.prog, w.params⟩

theorem names_clean (w : World) (t : Tok) {p d g : Int} (hp : 0 ≤ p ∧ p ≤ 4) (hd : 0 ≤ d ∧ d ≤ 3) (hg : 0 ≤ g ∧ g ≤ 1) :
    peek (Mine.hd.heap_39 w.params) (setK w) (Builtin.«re.Pattern.search» ⟨[.ref 76, .str (nameOf p d g) t], []⟩) = some (.done (.ret .none)) := by
  rcases five hp with rfl | rfl | rfl | rfl | rfl <;> rcases four hd with rfl | rfl | rfl | rfl <;> rcases two hg with rfl | rfl <;> kernel_rfl
theorem texts_clean (w : World) (t : Tok) {q : Int} (hq : 0 ≤ q ∧ q ≤ 3) :
    peek (Mine.hd.heap_39 w.params) (setK w) (Builtin.«re.Pattern.search» ⟨[.ref 81, .str (textOf q) t], []⟩) = some (.done (.ret .none)) := by
  rcases four hq with rfl | rfl | rfl | rfl <;> kernel_rfl
theorem lower_name {p d g : Int} (hp : 0 ≤ p ∧ p ≤ 4) (hd : 0 ≤ d ∧ d ≤ 3) (hg : 0 ≤ g ∧ g ≤ 1) : Txt.lower (nameOf p d g) = nameOf p d 0 := by
  rcases five hp with rfl | rfl | rfl | rfl | rfl <;> rcases four hd with rfl | rfl | rfl | rfl <;> rcases two hg with rfl | rfl <;> decide +kernel

theorem name_len {p d g : Int} (hp : 0 ≤ p ∧ p ≤ 4) (hd : 0 ≤ d ∧ d ≤ 3) (hg : 0 ≤ g ∧ g ≤ 1) : (nameOf p d g).length ≤ 4 := by
  rcases five hp with rfl | rfl | rfl | rfl | rfl <;> rcases four hd with rfl | rfl | rfl | rfl <;> rcases two hg with rfl | rfl <;> decide +kernel
theorem text_len {q : Int} (hq : 0 ≤ q ∧ q ≤ 3) : (textOf q).length ≤ 3 := by
  rcases four hq with rfl | rfl | rfl | rfl <;> decide +kernel

theorem slot_search : Slot "re.Pattern" "search" "re.Pattern.search" :=
  .of (owner := "re.Pattern") (n := "search") (by rw [typeLookup_type, builtinLookup_eq_fast]; kernel_rfl) (by decide +kernel) (by decide +kernel) (by decide +kernel)
    (by first | exact .inl (by decide +kernel) | exact .inr (by decide +kernel)) (by rw [isSubtype_type]; kernel_rfl)
theorem type_search : typeOf (.builtin "re.Pattern.search") = pure (.type "method_descriptor") := by show builtinType _ = _; rw [builtinType_eq_fast]; kernel_rfl
theorem plain_pattern : PlainAttrs "re.Pattern" :=
  ⟨⟨"object.__get\x61ttribute__", by rw [typeLookup_type, builtinLookup_eq_fast]; kernel_rfl, by decide +kernel⟩, by rw [typeLookup_type, builtinLookup_eq_fast]; kernel_rfl⟩
theorem entry_search : entryFor table "re.Pattern.search" = some Builtin.«re.Pattern.search» := entryFor_of_tree (by kernel_rfl)
theorem args_search (a b : Value) : argsOk "re.Pattern.search" ⟨[a, b], []⟩ := by unfold argsOk; kernel_rfl

section
variable {w : World} {A : Around} {E : Value → Shared → Prop} {s : Shared} {h₀ : Heap} {L : Addr} {m : Str → Option Value}
theorem pattern_method {a : Addr} {o : Obj} {pl : Sem Bool} {Q : Value × List Value → Shared → Prop} (X : (Mine.hd.heap_39 w.params).In s.heap) (ho : (Mine.hd.heap_39 w.params).lookup a = some o) (hc : o.cls = .type "re.Pattern") (hd : o.dict = none)
    (h : Q (.builtin "re.Pattern.search", [.ref a]) s) : wpAny (model PySem.Challenge.rw_pg0286_01.prog w) A (getMethod (.ref a) "search" pl) Q E s :=
  getMethod_builtin (T := "re.Pattern") ⟨_, X _ _ ho, hc⟩ plain_pattern slot_search type_search (fun _ e => by cases e; exact ⟨_, X _ _ ho, hd⟩) h
theorem search_none {a : Addr} {o : Obj} {v : Str} {t : Tok} {Q : Value → Shared → Prop} (X : (Mine.hd.heap_39 w.params).In s.heap) (ho : (Mine.hd.heap_39 w.params).lookup a = some o) (hc : o.cls = .type "re.Pattern")
    (hp : peek (Mine.hd.heap_39 w.params) (setK w) (Builtin.«re.Pattern.search» ⟨[.ref a, .str v t], []⟩) = some (.done (.ret .none)))
    (h : Q .none s) : wpAny (model PySem.Challenge.rw_pg0286_01.prog w) A (call (.builtin "re.Pattern.search") [.ref a, .str v t]) Q E s :=
  wpAny_call (codeAny_call_builtin slot_search.plain entry_search (slot_search.check _ _ _ _ _ _ _ _ ⟨_, X _ _ ho, hc⟩ (args_search _ _) (fun Γ p _ => wp_of_peek X h _ hp)))
theorem lower_rule {p d g : Int} {t : Tok} {Q : Value → Shared → Prop} (hp : 0 ≤ p ∧ p ≤ 4) (hd : 0 ≤ d ∧ d ≤ 3) (hg : 0 ≤ g ∧ g ≤ 1) (h : Q (.str (nameOf p d 0) s.toks) { s with toks := s.toks + 1 }) :
    wpAny (model PySem.Challenge.rw_pg0286_01.prog w) A (call (.builtin "str.lower") [.str (nameOf p d g) t]) Q E s :=
  SCL.lower (by have := name_len hp hd hg; omega) (fun _ => by rw [lower_name hp hd hg]; exact h)
end
end
section
open PySem PySem.W PyProof.Rows PySem.Calls PySem.Flt PyProof.Rows.LCg PyProof.Rows.LCt
section
variable {prog : Program} {w : World} {A : Around} {E : Value → Shared → Prop} {s : Shared} {h₀ : Heap} {L : Addr} {m : Str → Option Value} {env : Env}

theorem compEnd_mono {s₁ : Shared} {I C D : Addr} {oI oC oD : Obj} {S : Ledger → Prop} {r r' : Value → Ledger → Prop} {y : Value} {s₂ : Shared}
    (h : CompEnd h₀ L m s₁ I oI C oC D oD S r y s₂) (k : ∀ y l, r y l → r' y l) : CompEnd h₀ L m s₁ I oI C oC D oD S r' y s₂ := by
  obtain ⟨h', tk, news', e, F, N, off, hS, hr⟩ := h
  exact ⟨h', tk, news', e, F, N, off, hS, k _ _ hr⟩

theorem compT_of {ct elt : PySem.Expr} {x : Str} {scope : Scope} {cl : List (Str × Addr)} {S : Ledger → Prop} {P : Nat → Value → Prop} {Fin : List Value → Ledger → Prop} (n : Nat) (J : Nat → List Value → Ledger → Prop)
    (step : ∀ i ys news v I oI C oC D m₂ h tk (E' : Value → Shared → Prop), i < n → J i ys news → P i v → NsObj oC m₂ → m₂ x = some v → Fr h₀ L h m → News h₀ L h ((I, oI) :: (C, oC) :: (D, lst ys) :: news) → Off3 I C D news → ((@Ne Nat I C) ∧ (@Ne Nat I D) ∧ (@Ne Nat C D)) →
      wpAny (model prog w) A (isTrue ct (compEnvC scope cl C env) (eval ct (compEnvC scope cl C env))) (fun ok s' => if ok = true then
        wpAny (model prog w) A (eval elt (compEnvC scope cl C env)) (CompEnd h₀ L m { s with heap := h, toks := tk } I oI C oC D (lst ys) S (fun y news' => J (i + 1) (ys ++ [y]) news')) E' s'
        else CompEnd h₀ L m { s with heap := h, toks := tk } I oI C oC D (lst ys) S (fun _ news' => J (i + 1) ys news') Value.none s') E' { s with heap := h, toks := tk })
    (fin : ∀ ys news, J n ys news → Fin ys news) : ∀ k i ys news, i + k = n → J i ys news → CompRestT prog w A h₀ L m env ct elt x scope cl s S P Fin k i ys news := by
  intro k
  induction k with
  | zero => intro i ys news e h; exact CompRestT.zero (fin _ _ (by rw [← e]; exact h))
  | succ k ih =>
    intro i ys news e h
    refine CompRestT.succ fun v I oI C oC D m₂ h' tk E' hP hC hx F N off ne => ?_
    refine wpAny_mono (step i ys news v I oI C oC D m₂ h' tk E' (by omega) h hP hC hx F N off ne) (fun ok s' hok => ?_) fun _ _ e => e
    cases ok with
    | true =>
      simp only [if_true] at hok ⊢
      exact wpAny_mono hok (fun y s'' hy => compEnd_mono hy fun y l hj => ih _ _ _ (by omega) hj) fun _ _ e => e
    | false =>
      simp only [Bool.false_eq_true, if_false] at hok ⊢
      exact compEnd_mono hok fun y l hj => ih _ _ _ (by omega) hj

theorem compU_of {elt : PySem.Expr} {x : Str} {scope : Scope} {cl : List (Str × Addr)} {S : Ledger → Prop} {P : Nat → Value → Prop} {Fin : List Value → Ledger → Prop} (n : Nat) (J : Nat → List Value → Ledger → Prop)
    (step : ∀ i ys news v I oI C oC D m₂ h tk (E' : Value → Shared → Prop), i < n → J i ys news → P i v → NsObj oC m₂ → m₂ x = some v → Fr h₀ L h m → News h₀ L h ((I, oI) :: (C, oC) :: (D, lst ys) :: news) → Off3 I C D news → ((@Ne Nat I C) ∧ (@Ne Nat I D) ∧ (@Ne Nat C D)) →
      wpAny (model prog w) A (eval elt (compEnvC scope cl C env)) (CompEnd h₀ L m { s with heap := h, toks := tk } I oI C oC D (lst ys) S (fun y news' => J (i + 1) (ys ++ [y]) news')) E' { s with heap := h, toks := tk })
    (fin : ∀ ys news, J n ys news → Fin ys news) : ∀ k i ys news, i + k = n → J i ys news → CompRest prog w A h₀ L m env elt x scope cl s S P Fin k i ys news := by
  intro k
  induction k with
  | zero => intro i ys news e h; exact CompRest.zero (fin _ _ (by rw [← e]; exact h))
  | succ k ih =>
    intro i ys news e h
    refine CompRest.succ fun v I oI C oC D m₂ h' tk E' hP hC hx F N off ne => ?_
    exact wpAny_mono (step i ys news v I oI C oC D m₂ h' tk E' (by omega) h hP hC hx F N off ne) (fun y s' hy => compEnd_mono hy fun y l hj => ih _ _ _ (by omega) hj) fun _ _ e => e

/-- a comprehension with a test whose turns make nothing that stays -/
theorem compT_fix {ct elt : PySem.Expr} {x : Str} {scope : Scope} {cl : List (Str × Addr)} {S : Ledger → Prop} {P : Nat → Value → Prop} {Fin : List Value → Ledger → Prop} {n : Nat} {news : Ledger} (J : Nat → List Value → Prop)
    (step : ∀ i ys v I oI C oC D m₂ h tk (E' : Value → Shared → Prop), i < n → J i ys → P i v → NsObj oC m₂ → m₂ x = some v → Fr h₀ L h m → News h₀ L h ((I, oI) :: (C, oC) :: (D, lst ys) :: news) → Off3 I C D news → ((@Ne Nat I C) ∧ (@Ne Nat I D) ∧ (@Ne Nat C D)) →
      wpAny (model prog w) A (isTrue ct (compEnvC scope cl C env) (eval ct (compEnvC scope cl C env))) (fun ok s' => if ok = true then
        wpAny (model prog w) A (eval elt (compEnvC scope cl C env)) (CompEnd h₀ L m { s with heap := h, toks := tk } I oI C oC D (lst ys) S (fun y news' => news' = news ∧ J (i + 1) (ys ++ [y]))) E' s'
        else CompEnd h₀ L m { s with heap := h, toks := tk } I oI C oC D (lst ys) S (fun _ news' => news' = news ∧ J (i + 1) ys) Value.none s') E' { s with heap := h, toks := tk })
    (h0 : J 0 []) (fin : ∀ ys, J n ys → Fin ys news) : CompRestT prog w A h₀ L m env ct elt x scope cl s S P Fin n 0 [] news :=
  compT_of n (fun i ys l => l = news ∧ J i ys) (fun i ys l v I oI C oC D m₂ h tk E' hi hJ hP hC hx F N off ne => by
    obtain ⟨rfl, hJ⟩ := hJ
    exact step i ys v I oI C oC D m₂ h tk E' hi hJ hP hC hx F N off ne) (fun ys l hJ => by obtain ⟨rfl, hJ⟩ := hJ; exact fin ys hJ) n 0 [] news (Nat.zero_add _) ⟨rfl, h0⟩
theorem compU_fix {elt : PySem.Expr} {x : Str} {scope : Scope} {cl : List (Str × Addr)} {S : Ledger → Prop} {P : Nat → Value → Prop} {Fin : List Value → Ledger → Prop} {n : Nat} {news : Ledger} (J : Nat → List Value → Ledger → Prop)
    (step : ∀ i ys news v I oI C oC D m₂ h tk (E' : Value → Shared → Prop), i < n → J i ys news → P i v → NsObj oC m₂ → m₂ x = some v → Fr h₀ L h m → News h₀ L h ((I, oI) :: (C, oC) :: (D, lst ys) :: news) → Off3 I C D news → ((@Ne Nat I C) ∧ (@Ne Nat I D) ∧ (@Ne Nat C D)) →
      wpAny (model prog w) A (eval elt (compEnvC scope cl C env)) (CompEnd h₀ L m { s with heap := h, toks := tk } I oI C oC D (lst ys) S (fun y news' => J (i + 1) (ys ++ [y]) news')) E' { s with heap := h, toks := tk })
    (h0 : J 0 [] news) (fin : ∀ ys news, J n ys news → Fin ys news) : CompRest prog w A h₀ L m env elt x scope cl s S P Fin n 0 [] news :=
  compU_of n J step fin n 0 [] news (Nat.zero_add _) h0
end
end
section
open PySem PySem.W PyProof.Rows PySem.Calls PySem.Flt PyProof.Rows.LCg PyProof.Rows.LCt
section
variable {prog : Program} {w : World} {A : Around} {E : Value → Shared → Prop} {s : Shared} {h₀ : Heap} {L : Addr} {m : Str → Option Value}

theorem setItem_all {l sl D : Addr} {items new : Array Value} {n nd : Nat} {Q : Unit → Shared → Prop} (hl : s.heap.get? l = some (W.listOf items n)) (hs : s.heap.IsSliceOf sl .none .none .none)
    (hD : s.heap.get? D = some (W.listOf new nd)) (hne : l ≠ D) (hsz : items.size ≤ 1000) (hsz2 : new.size ≤ 1000)
    (h : ∀ h', Heap.SameBut l s.heap h' → h'.get? l = some (W.listOf new (if new.size == items.size then n else n + 1)) → Q () { s with heap := h' }) :
    wpAny (model prog w) A (setItem (.ref l) (.ref sl) (.ref D)) Q E s := by
  obtain ⟨os, hos, hcs, hds⟩ := id hs
  have hTs : s.TypeIs (.ref sl) "slice" := ⟨os, hos, hcs⟩
  have hTl : s.TypeIs (.ref l) "list" := ⟨_, hl, rfl⟩
  have hTD : s.TypeIs (.ref D) "list" := ⟨_, hD, rfl⟩
  unfold setItem
  try with_reducible refine wpAny_holding ?_
  first | refine wpAny_bind (wpAny_pure ?_) | skip
  refine wpAny_bind (wpAny_sequenceKey hTl (by decide) ?_)
  refine wpAny_bind (wpAny_callSpecial?_slot (name := Str.ofString "__setitem__") hTl slot_list_setitem
    (wpAny_call_entry slot_list_setitem hTl entry_list_setitem ?_ (args_list_setitem _ _ _)))
  show wpAny _ _ (Builtin.List.listSubscript? (.ref sl) >>= _) _ _ s
  refine wpAny_bind ?_
  unfold Builtin.List.listSubscript?
  refine wpAny_bind (wpAny_specialOf hTs slice_no_index ?_)
  simp only [Option.isNone_none, if_true]
  refine wpAny_pure ?_
  show wpAny _ _ (typeOf (.ref sl) >>= _) _ _ s
  refine wpAny_bind (wpAny_typeOf hTs ?_)
  rw [if_neg (by decide)]
  rw [listSliceParts_eq]
  have hstep : ¬ ((rawPart none == rawInt 0) = true) := Bool.false_ne_true
  refine wpAny_bind (wpAny_bind (wpAny_field hos hds (x := .none) rfl (wpAny_bind (wpAny_listPart .none ?_))))
  rw [if_neg hstep]
  refine wpAny_bind (wpAny_field hos hds (x := .none) rfl (wpAny_bind (wpAny_listPart .none ?_)))
  refine wpAny_bind (wpAny_field hos hds (x := .none) rfl (wpAny_bind (wpAny_listPart .none (wpAny_pure ?_))))
  have hsame : Builtin.List.listSameRef (.ref l) (.ref D) = false := by
    show (l == D) = false
    simpa using hne
  dsimp only
  rw [hsame]
  simp only [Bool.false_eq_true, if_false]
  refine wpAny_bind ?_
  unfold Builtin.List.listAllItems
  refine wpAny_bind (wpAny_typeOf hTD ?_)
  rw [if_pos (by decide)]
  unfold Builtin.List.listItems
  refine wpAny_bind (wpAny_seqItems hD rfl (wpAny_pure ?_))
  refine wpAny_bind (wpAny_bind (wpAny_seqItems hl rfl (wpAny_pure ?_)))
  refine wpAny_bind (wpAny_of_eq (sliceIndices_raw none none none items.size (by simp)) ?_)
  have hb : sliceBounds none none none items.size = (0, (items.size : Int), 1) := rfl
  rw [hb]
  dsimp only
  rw [if_pos (show ((1 : Int) == 1) = true from rfl)]
  refine wpAny_bind (wpAny_rule ?_)
  have htl : Builtin.List.listTooLong (items.size + new.size) = false := by
    unfold Builtin.List.listTooLong
    rw [sizeLine_eq]
    simp
    omega
  rw [htl]
  simp only [Bool.false_eq_true, if_false]
  have e1 : ∀ xs : Array Value, xs = items → xs.extract 0 (0 : Int).toNat ++ new ++ xs.extract (max 0 (items.size : Int)).toNat = new := by
    rintro xs rfl
    simp
  refine wpAny_bind ?_
  unfold Builtin.List.listUpdate
  refine wpAny_updateSeq hl rfl ?_ (by rw [sizeLine_eq]; omega) (by rw [e1 _ rfl, sizeLine_eq]; omega)
  refine wpAny_bind (wpAny_letGo (wpAny_pure ⟨_, rfl, wpAny_pure (h _ (Heap.SameBut.update ..) ?_)⟩))
  rw [Heap.get?_update_self _ hl (by rfl)]
  show some (Obj.mapSeq _ (W.listOf items n)) = _
  unfold Obj.mapSeq
  dsimp only
  rw [e1 _ rfl]

theorem setAll_K {s : Shared} {l D : Addr} {items new : Array Value} {n nd : Nat} {news news' : Ledger} {Q : Unit → Shared → Prop} (F : Fr h₀ L s.heap m) (N : News h₀ L s.heap news) (hD : (D, W.listOf new nd) ∈ news)
    (U : Upd l (W.listOf items n) (W.listOf new (if new.size == items.size then n else n + 1)) news news') (hne : l ≠ D) (hsz : items.size ≤ 1000) (hsz2 : new.size ≤ 1000)
    (h : ∀ h', Fr h₀ L h' m → News h₀ L h' news' → Q () { s with heap := h' }) :
    wpAny (model prog w) A (setItem (.ref l) (.ref s.heap.objs.size) (.ref D)) Q E { s with heap := s.heap.push { cls := .type "slice", data := .fields #[.none, .none, .none] } } := by
  obtain ⟨pre, post, rfl, rfl, a, b⟩ := U.split
  have z := N (l, W.listOf items n) (List.mem_append.mpr (.inr (.head _)))
  have up : ∀ b o, s.heap.get? b = some o → (s.heap.push { cls := .type "slice", data := .fields #[.none, .none, .none] }).get? b = some o := fun b o e => Heap.get?_push_of_some _ e
  refine setItem_all (up _ _ z.1) (Heap.IsSliceOf.new ..) (up _ _ (N _ hD).1) hne hsz hsz2 fun h' hs ho' => ?_
  exact h h' ((F.grownK up).change hs z.2.1 z.2.2) (news_set (N.grown up) a b hs ho')
end
end
section
open PySem PySem.W PyProof.Rows PySem.Calls PySem.Flt PyProof.Rows.LCg PyProof.Rows.LCt
/-- the maps agree but for the names that the body stores -/
noncomputable def Kept (stored : List Str) (m₀ m : Str → Option Value) : Prop := ∀ y, stored.contains y = false → m y = m₀ y
theorem Kept.eq {stored : List Str} {m₀ m : Str → Option Value} (h : Kept stored m₀ m) : m = fun y => if stored.contains y = true then m y else m₀ y := by
  funext y
  cases hc : stored.contains y with
  | true => simp
  | false => simp [h y hc]
theorem Kept.fr {h₀ h : Heap} {L : Addr} {stored : List Str} {m₀ m : Str → Option Value} (k : Kept stored m₀ m) (F : Fr h₀ L h m) : Fr h₀ L h (fun y => if stored.contains y = true then m y else m₀ y) :=
  Eq.mp (congrArg (Fr h₀ L h) k.eq) F
theorem Kept.refl {stored : List Str} {m : Str → Option Value} : Kept stored m m := fun _ _ => rfl
theorem Kept.cons {stored : List Str} {m₀ m : Str → Option Value} {x : Str} {v : Option Value} (hx : stored.contains x = true) (h : Kept stored m₀ m) : Kept stored m₀ (fun y => if y = x then v else m y) := fun y hy => by
  have : y ≠ x := by rintro rfl; rw [hx] at hy; cases hy
  simp only [this, if_false]
  exact h y hy
theorem Kept.of {stored : List Str} {m₀ m u : Str → Option Value} (h : Kept stored m₀ m) : Kept stored m₀ (fun y => if stored.contains y = true then u y else m y) := fun y hy => by
  simp only [hy, Bool.false_eq_true, if_false]
  exact h y hy

section
variable {prog : Program} {w : World} {A : Around} {E : Value → Shared → Prop} {s : Shared} {h₀ : Heap} {env : Env} {target : PySem.Expr} {body : List Stmt} {Q : Flow → Shared → Prop}

theorem unr_mono {s₁ s₂ : Shared} {its : Ledger} {r r' : (Str → Option Value) → Ledger → Prop} {f : Flow} (h : UnrPostW h₀ env.locals s₁ its r Q f s₂) (k : ∀ m l, r m l → r' m l) : UnrPostW h₀ env.locals s₁ its r' Q f s₂ := by
  cases f with
  | ret v => exact h
  | brk => exact h
  | next => obtain ⟨h', tk, m', news', e, F, N, off, hr⟩ := h; exact ⟨h', tk, m', news', e, F, N, off, k _ _ hr⟩
  | cont => obtain ⟨h', tk, m', news', e, F, N, off, hr⟩ := h; exact ⟨h', tk, m', news', e, F, N, off, k _ _ hr⟩

/-- a loop over a list, turn by turn, by an invariant over the frame's map and the ledger -/
theorem items_of {I : Addr} {keep : Ledger} (vs : List Value) (J : Nat → (Str → Option Value) → Ledger → Prop)
    (step : ∀ i v m₁ news₁ h tk o, vs[i]? = some v → J i m₁ news₁ → Fr h₀ env.locals h m₁ → o.cls = .type "list_iterator" → News h₀ env.locals h ((I, o) :: news₁) →
      wpAny (model prog w) A (assign target env v) (fun _ s₂ => wpAny (model prog w) A (execs body env) (UnrPostW h₀ env.locals { s with heap := h, toks := tk } [(I, o)] (fun m' n' => SubL keep n' ∧ J (i + 1) m' n') Q) E s₂) E { s with heap := h, toks := tk })
    (fin : ∀ m news, J vs.length m news → ∀ h tk, Fr h₀ env.locals h m → News h₀ env.locals h news → Q .next { s with heap := h, toks := tk }) :
    ∀ k i m news, vs.length = i + k → J i m news → ItemsRest prog w A E h₀ env target body Q s [(I, "list_iterator")] keep ((vs.drop i).map .val) m news := by
  intro k
  induction k with
  | zero =>
    intro i m news e hJ
    rw [List.drop_eq_nil_of_le (by omega)]
    exact ItemsRest.zero fun h tk F N => fin m news (by rw [e]; exact hJ) h tk F N
  | succ k ih =>
    intro i m news e hJ
    have hi : i < vs.length := by omega
    rw [List.drop_eq_getElem_cons hi]
    refine ItemsRest.val fun h tk F => AllObj.cons fun o ho => AllObj.nil fun N => ?_
    refine wpAny_mono (step i _ m news h tk o (List.getElem?_eq_getElem hi) hJ F ho N) (fun _ s₂ h₂ => wpAny_mono h₂ (fun f s₃ h₃ => ?_) fun _ _ e => e) fun _ _ e => e
    exact unr_mono h₃ fun m' n' hr => ⟨hr.1, ih _ _ _ (by omega) hr.2⟩

theorem list_loop {ax : Addr} {vs : List Value} {n : Nat} {m₀ : Str → Option Value} {news : Ledger} (J : Nat → (Str → Option Value) → Ledger → Prop)
    (hh : A.handled = none) (F : Fr h₀ env.locals s.heap m₀) (N : News h₀ env.locals s.heap news) (hm : (ax, W.listOf vs.toArray n) ∈ news) (h0 : J 0 m₀ news)
    (step : ∀ I i v m₁ news₁ h tk o, (∀ p ∈ news, p.1 < I) → vs[i]? = some v → J i m₁ news₁ → Fr h₀ env.locals h m₁ → o.cls = .type "list_iterator" → News h₀ env.locals h ((I, o) :: news₁) →
      wpAny (model prog w) A (assign target env v) (fun _ s₂ => wpAny (model prog w) A (execs body env) (UnrPostW h₀ env.locals { s with heap := h, toks := tk } [(I, o)] (fun m' n' => SubL [(ax, W.listOf vs.toArray n)] n' ∧ J (i + 1) m' n') Q) E s₂) E { s with heap := h, toks := tk })
    (fin : ∀ m news, J vs.length m news → ∀ h tk, Fr h₀ env.locals h m → News h₀ env.locals h news → Q .next { s with heap := h, toks := tk }) :
    wpAny (model prog w) A (pyIter (.ref ax)) (fun it s₂ => TurnsAt prog w A h₀ env target body Q E it s₂) E s :=
  iter_listTurns hh F N hm rfl rfl fun I hI => items_of vs J (fun i v m₁ news₁ h tk o => step I i v m₁ news₁ h tk o hI) fin vs.length 0 m₀ news (by omega) h0

/-- a loop whose turns leave the ledger as it stood -/
theorem search_loop {ax : Addr} {vs : List Value} {n : Nat} {m₀ : Str → Option Value} {news : Ledger} (stored : List Str) (J : Nat → Prop)
    (hh : A.handled = none) (F : Fr h₀ env.locals s.heap m₀) (N : News h₀ env.locals s.heap news) (hm : (ax, W.listOf vs.toArray n) ∈ news) (h0 : J 0)
    (step : ∀ I i v (u : Str → Option Value) h tk o, (∀ p ∈ news, p.1 < I) → vs[i]? = some v → J i → Fr h₀ env.locals h (fun y => if stored.contains y = true then u y else m₀ y) → o.cls = .type "list_iterator" → News h₀ env.locals h ((I, o) :: news) →
      wpAny (model prog w) A (assign target env v) (fun _ s₂ => wpAny (model prog w) A (execs body env) (UnrPostW h₀ env.locals { s with heap := h, toks := tk } [(I, o)] (fun m' n' => Kept stored m₀ m' ∧ n' = news ∧ J (i + 1)) Q) E s₂) E { s with heap := h, toks := tk })
    (fin : ∀ (u : Str → Option Value) h tk, J vs.length → Fr h₀ env.locals h (fun y => if stored.contains y = true then u y else m₀ y) → News h₀ env.locals h news → Q .next { s with heap := h, toks := tk }) :
    wpAny (model prog w) A (pyIter (.ref ax)) (fun it s₂ => TurnsAt prog w A h₀ env target body Q E it s₂) E s :=
  list_loop (fun i m' n' => Kept stored m₀ m' ∧ n' = news ∧ J i) hh F N hm ⟨Kept.refl, rfl, h0⟩
    (fun I i v m₁ news₁ h tk o hI hv hJ F₂ ho N₂ => by
      obtain ⟨hk, rfl, hJ⟩ := hJ
      refine wpAny_mono (step I i v m₁ h tk o hI hv hJ (hk.fr F₂) ho N₂) (fun _ s₂ h₂ => wpAny_mono h₂ (fun f s₃ h₃ => ?_) fun _ _ e => e) fun _ _ e => e
      exact unr_mono h₃ fun m' n' hr => ⟨by rw [hr.2.1]; exact ⟨hm, trivial⟩, hr⟩)
    (fun m' news' hJ h tk F₂ N₂ => by
      obtain ⟨hk, rfl, hJ⟩ := hJ
      exact fin m' h tk hJ (hk.fr F₂) N₂)

/-- a turn's end where the ledger stands as it stood -/
theorem turn_end {I : Addr} {o : Obj} {news' : Ledger} {r : (Str → Option Value) → Ledger → Prop} {m' : Str → Option Value} {h' : Heap} {tk : Nat} {s₁ : Shared}
    (F : Fr h₀ env.locals h' m') (N : News h₀ env.locals h' ((I, o) :: news')) (off : ∀ p ∈ news', p.1 < I) (hr : r m' news') : UnrEndW h₀ env.locals s₁ [(I, o)] r { s₁ with heap := h', toks := tk } :=
  ⟨h', tk, m', news', rfl, F, N, fun p hp q hq => by rw [List.mem_singleton.mp hq]; exact Nat.ne_of_lt (off p hp), hr⟩
end
end
section
open PySem PySem.W PyProof.Rows PySem.Calls PySem.Flt
noncomputable def lineDat (i : Item) : Dat := .tuple [.str i.name, .str i.text]


theorem words_H2_1 : True := by
  k_with_none
  k_with "my use" => ((case k1 => k_asm); (case k2 => k_asm); (case k3 => k_asm); (case k4 => k_asm); (case k5 => k_asm); (case kK => first | exact rfl | assumption); (case kd => ktr_room); (case ku => ktr_units))
  k_with "getMethod ref" => (k_here; (with_reducible show wpAny _ _ (getMethod (Value.ref _) (Str.ofString "search") _) _ _ _); k_dflt (refine' pattern_method ?k1 ?k2 ?k3 ?k4 ?_; (case k1 => k_in); (case k2 => k_is); (case k3 => rfl); (case k4 => rfl)))
  k_with "call builtin:re.Pattern.search" => (k_here; k_dflt (refine' search_none ?k1 ?k2 ?k3 ?k4 ?_; (case k1 => k_in); (case k2 => k_is); (case k3 => rfl); (case k4 => first | exact names_clean _ _ (by assumption) (by assumption) (by assumption) | exact names_clean _ _ (by assumption) (by assumption) (by decide) | exact texts_clean _ _ (by assumption))))
  k_with "call builtin:str.lower" => ((with_reducible show wpAny _ _ (call (Value.builtin "str.lower") [Value.str (nameOf _ _ _) _]) _ _ _); (refine lower_rule (by assumption) (by assumption) (by assumption) ?_))
  trivial
theorem tail_succ {a : Addr} {l : Ledger} (h : AllLt a l) : ∀ p ∈ l, p.1 ≠ a + 1 := fun p hp => Nat.ne_of_lt (Nat.lt_succ_of_lt (allLt_to h p hp))
theorem words_H2_2 : True := by
  k_with "k_all" => (refine tail_succ ?_; tbn_find)
  k_with "k_room" => ktr_room
  k_with "k_units" => ktr_units
  k_with "my enterC" => (refine' code_defC ?k1 ?k2 ?k3 ?k4 ?k5 ?kA ?kF ?kK ?k6 ?k7 ?k8 ?k9 ?kB ?kD ?_ ?wH2c2 ?wH2c3 ?wH2c4; (case kA => exact rfl); (case kF => exact rfl); (case kK => assumption); (case k1 => k_asm); (case k2 => k_asm); (case k3 => k_asm); (case k4 => k_asm); (case k5 => k_asm); (case k6 => k_is); (case k7 => k_is); (case k8 => ktr_room); (case k9 => exact BindsTo.of_eq rfl); (case kB => exact rfl); (case kD => decide +kernel); (case wH2c2 => exact rfl); (case wH2c3 => exact rfl); (case wH2c4 => exact rfl); k_whole; intro g' L' h' tk' cells' FG' F' N' Y' B' X' T' l1; (try k_lt l1); k_cells Y'; (try simp only [List.cons_append, List.nil_append] at N'); (try dsimp only); (try k_lift B'); (try k_fold))
  k_with "eval ListComp" => (k_here; lct_look; k_dflt (refine LCt.ListComp_T (F₀ := by k_asm) (by with_unfolding_all rfl) (by decide) (by rfl) (by decide) (by rfl) ?_); k_dflt lct_toSrc)
  k_with "CompSrcT" => (k_here; k_dflt (refine' LCt.CompSrcT.ledger (by rfl) ?k1 ?k2 ?k3 ?k4 ?_; (case k1 => k_asm); (case k2 => k_asm); (case k3 => k_mem); (case k4 => first | assumption | size_fits)); intro g')
  k_with "CompRestT" => fail "stop"
  k_with "subscriptTail Name Constant ref int" => (k_here; k_dflt (refine' item_tupleT (News.isTup ?wH2N ?wH2m) ?wH2a ?wH2b ?wH2c ?wH2d ?_; (case wH2N => k_asm); (case wH2m => k_mem); (case wH2a => decide); (case wH2b => decide); (case wH2c => rfl); (case wH2d => rfl)))
  k_with "k_mem" => assumption
  k_with "setItem ref" => (k_here; k_dflt (refine' setAll_K ?k1 ?k2 ?k3 ?k4 ?k5 ?k6 ?k7 ?_; (case k1 => k_asm); (case k2 => k_asm); (case k3 => k_mem); (case k4 => k_upd); (case k5 => k_ne); (case k6 => walk_at "my size"); (case k7 => walk_at "my size")); intro h' F' N'; (try k_sweep))
  trivial
noncomputable abbrev tupN (vs : List Value) (n : Nat) : Obj := { cls := .type "tuple", data := .seq vs.toArray n }
noncomputable def keepV : List Value → List Item → (Item → Bool) → List Value
  | v :: vs, r :: rs, f => if f r then v :: keepV vs rs f else keepV vs rs f
  | _, _, _ => []
theorem line_at {tl : Ledger} {vs : List Value} {row : List Item} {i : Nat} {v : Value} (hall : DatAll tl vs (row.map lineDat)) (hv : vs.toArray[i]? = some v) :
    ∃ r a t1 t2 n, row[i]? = some r ∧ v = .ref a ∧ (a, tupN [.str (nameOf r.p r.d r.g) t1, .str (textOf r.q) t2] n) ∈ tl := by
  have hv' : vs[i]? = some v := by simpa using hv
  have hi : i < vs.length := (List.getElem?_eq_some_iff.mp hv').1
  have hl : vs.length = row.length := by simpa using hall.length
  obtain ⟨v', e, hd⟩ := hall.get (k := i) (by simpa [← hl] using hi)
  rw [hv'] at e
  cases e
  have hr : row[i]? = some (row[i]'(by omega)) := List.getElem?_eq_getElem _
  rw [List.getElem_map] at hd
  unfold lineDat at hd
  cases hd with
  | tuple hm hall' =>
    cases hall' with
    | cons h1 r1 =>
      cases r1 with
      | cons h2 r2 =>
        cases r2
        cases h1
        cases h2
        exact ⟨_, _, _, _, _, hr, rfl, hm⟩
theorem keepV_snoc {f : Item → Bool} {v : Value} {r : Item} : ∀ {vs : List Value} {rs : List Item}, vs.length = rs.length → keepV (vs ++ [v]) (rs ++ [r]) f = keepV vs rs f ++ (if f r then [v] else [])
  | [], [], _ => by
    cases h : f r <;> simp [keepV, h]
  | u :: vs, q :: rs, h => by
    have ih := keepV_snoc (f := f) (v := v) (r := r) (vs := vs) (rs := rs) (by simpa using h)
    simp only [List.cons_append, keepV, ih]
    split <;> simp
theorem keepV_take {f : Item → Bool} {v : Value} {r : Item} {vs : List Value} {rs : List Item} {i : Nat} (hl : vs.length = rs.length) (hv : vs[i]? = some v) (hr : rs[i]? = some r) :
    keepV (vs.take (i + 1)) (rs.take (i + 1)) f = keepV (vs.take i) (rs.take i) f ++ (if f r then [v] else []) := by
  rw [List.take_add_one, List.take_add_one, hv, hr]
  exact keepV_snoc (by simp [hl])
noncomputable def decName (s : Str) : Int × Int := (match s.cps.toList.getLast? with | some 114 => 0 | some 115 => 1 | some 116 => 2 | some 117 => 3 | some 119 => 4 | _ => 9, (s.cps.size : Int) - 1)
theorem dec_name {p d : Int} (hp : 0 ≤ p ∧ p ≤ 4) (hd : 0 ≤ d ∧ d ≤ 3) : decName (nameOf p d 0) = (p, d) := by
  rcases five hp with rfl | rfl | rfl | rfl | rfl <;> rcases four hd with rfl | rfl | rfl | rfl <;> decide +kernel
theorem name_ne {p d p' d' : Int} (hp : 0 ≤ p ∧ p ≤ 4) (hd : 0 ≤ d ∧ d ≤ 3) (hp' : 0 ≤ p' ∧ p' ≤ 4) (hd' : 0 ≤ d' ∧ d' ≤ 3) : (nameOf p' d' 0 != nameOf p d 0) = decide (¬ (p' = p ∧ d' = d)) := by
  by_cases h : p' = p ∧ d' = d
  · obtain ⟨rfl, rfl⟩ := h; simp
  · have : nameOf p' d' 0 ≠ nameOf p d 0 := fun e => h (by have := congrArg decName e; rw [dec_name hp' hd', dec_name hp hd] at this; exact ⟨congrArg Prod.fst this, congrArg Prod.snd this⟩)
    simp [h, this]
noncomputable def other (p d : Int) (r : Item) : Bool := decide (¬ (r.p = p ∧ r.d = d))
theorem keepV_len {f : Item → Bool} : ∀ {vs : List Value} {rs : List Item}, (keepV vs rs f).length ≤ vs.length
  | [], [] => Nat.le_refl _
  | [], _ :: _ => Nat.le_refl _
  | _ :: _, [] => Nat.zero_le _
  | v :: vs, r :: rs => by
    have ih := keepV_len (f := f) (vs := vs) (rs := rs)
    simp only [keepV]
    split
    · simp only [List.length_cons]; omega
    · simp only [List.length_cons]; omega
theorem words_H2_3 : True := by
  k_with "my size" => (first | (rw [List.size_toArray]; omega) | (rw [List.size_toArray]; exact Nat.le_trans keepV_len (by omega)))
  trivial
/-- the ledger's part that a Headers object is -/
noncomputable abbrev tab (x dx l : Addr) (hs : Int) (tk : Tok) (e : Nat) (vs : List Value) (n : Nat) (tl : Ledger) : Ledger :=
  (x, instObj 212 dx) :: (dx, dictOf [⟨hs, .str "_headers" tk, .ref l⟩] e) :: (l, W.listOf vs.toArray n) :: tl
structure Apart (x dx l : Addr) (tl : Ledger) : Prop where
  ne : @Ne Nat x dx ∧ @Ne Nat x l ∧ @Ne Nat dx l
  off : OwnOff tl [x, dx, l]
theorem retT {h₀ h' : Heap} {L : Addr} {m : Str → Option Value} {s : Shared} {Q : Value → Shared → Prop} {Post : Value → Ledger → Prop} {tk' : Nat} {r : Value} {junk : Ledger} {l' : Ledger}
    (hret : ∀ r news' h' tk', Fr h₀ L h' m → News h₀ L h' news' → Post r news' → Q r { s with heap := h', toks := tk' })
    (F : Fr h₀ L h' m) (N : News h₀ L h' junk) (sub : ∀ p ∈ l', p ∈ junk) (P : Post r l') : Q r { s with heap := h', toks := tk' } :=
  hret r l' h' tk' F (fun p hp => N p (sub p hp)) P

theorem words_H2_4 : True := by
  k_with "my sub" => (intro p9 hp9; first | exact hp9 | exact .tail _ hp9 | exact .tail _ (.tail _ hp9) | exact .tail _ (.tail _ (.tail _ hp9)) | exact .tail _ (.tail _ (.tail _ (.tail _ hp9))) | exact .tail _ (.tail _ (.tail _ (.tail _ (.tail _ hp9)))))
  trivial
theorem hdel (w : World) (tl : Ledger) (x dx l : Addr) (hs : Int) (tk : Tok) (vs : List Value) (n e : Nat) (row : List Item) (hrow : ∀ r ∈ row, r.Ok) (hsz : vs.length ≤ 64) (hall : DatAll tl vs (row.map lineDat)) (p d g : Int) (t : Tok)
    (hp : 0 ≤ p ∧ p ≤ 4) (hd : 0 ≤ d ∧ d ≤ 3) (hg : 0 ≤ g ∧ g ≤ 1) (hap : Apart x dx l tl) :
    Ctr w 3 130 [.ref x, .str (nameOf p d g) t] (tab x dx l hs tk e vs n tl) (fun r news' => r = .none ∧ ∃ n', news' = tab x dx l hs tk e (keepV vs row (other p d)) n' tl) := by
  obtain ⟨hne, hoff⟩ := hap
  intro loose mean mg mb dp un gd cn cs a ccd cl outer A₀ base h₀ L m s Q E B F X N T hk hdp hun hret
  have hlen : vs.length = row.length := by simpa using hall.length
  have hsz' : vs.toArray.size ≤ sizeLine := by rw [List.size_toArray, sizeLine_eq]; omega
  refine wpAny_call ?_
  k_dflt (walk_at "my enterC")
  k_steps
  refine compT_fix (fun i ys => ys = keepV (vs.take i) (row.take i) (other p d)) ?step rfl ?fin
  · rintro i ys v I oI C oC D m₂ h tk E' hi rfl hP hC hx F' N' off ne
    obtain ⟨r, ra, t1, t2, rn, hr, rfl, hm⟩ := line_at hall hP
    obtain ⟨rp, rd, rq, rg⟩ := hrow r (List.mem_of_getElem? hr)
    k_steps
    all_goals refine LCg.CompEnd.intro (by assumption) (by assumption) _ (fun _ h => h) off (Or.inr ⟨_, by k_mem, rfl, _, rfl⟩) ⟨rfl, ?_⟩
    · rw [keepV_take hlen (by simpa using hP) hr, show other p d r = true from (name_ne hp hd rp rd).symm.trans (by assumption)]; rfl
    · rw [keepV_take hlen (by simpa using hP) hr, show other p d r = false from (name_ne hp hd rp rd).symm.trans (by assumption)]; simp
  · rintro ys rfl
    have e1 : keepV (vs.take vs.toArray.size) (row.take vs.toArray.size) (other p d) = keepV vs row (other p d) := by
      rw [List.size_toArray, List.take_length, hlen, List.take_length]
    rw [e1]
    k_steps
    exact retT hret (by assumption) (by assumption) (by walk_at "my sub") ⟨rfl, _, rfl⟩
end
section
open PySem PySem.W PyProof.Rows PySem.Calls PySem.Flt PyProof.Rows.LCg PyProof.Rows.LCt
theorem words_H3_1 : True := by
  k_with_none
  k_with "my use" => ((case k1 => k_asm); (case k2 => k_asm); (case k3 => k_asm); (case k4 => k_asm); (case k5 => k_asm); (case kK => first | exact rfl | assumption); (case kd => ktr_room); (case ku => ktr_units))
  k_with "getMethod ref" => (k_here; (with_reducible show wpAny _ _ (getMethod (Value.ref _) (Str.ofString "search") _) _ _ _); k_dflt (refine' pattern_method ?k1 ?k2 ?k3 ?k4 ?_; (case k1 => k_in); (case k2 => k_is); (case k3 => rfl); (case k4 => rfl)))
  k_with "call builtin:re.Pattern.search" => (k_here; k_dflt (refine' search_none ?k1 ?k2 ?k3 ?k4 ?_; (case k1 => k_in); (case k2 => k_is); (case k3 => rfl); (case k4 => first | exact names_clean _ _ (by assumption) (by assumption) (by assumption) | exact names_clean _ _ (by assumption) (by assumption) (by decide) | exact texts_clean _ _ (by assumption))))
  k_with "call builtin:str.lower" => ((with_reducible show wpAny _ _ (call (Value.builtin "str.lower") [Value.str (nameOf _ _ _) _]) _ _ _); (refine lower_rule (by assumption) (by assumption) (by assumption) ?_))
  k_with "subscriptTail Name Constant ref int" => (k_here; k_dflt (refine' item_tupleT (News.isTup ?wH3N ?wH3m) ?wH3a ?wH3b ?wH3c ?wH3d ?_; (case wH3N => k_asm); (case wH3m => k_mem); (case wH3a => decide); (case wH3b => decide); (case wH3c => rfl); (case wH3d => rfl)))
  k_with "k_mem" => assumption
  k_with "setItem ref" => (k_here; k_dflt (refine' setAll_K ?k1 ?k2 ?k3 ?k4 ?k5 ?k6 ?k7 ?_; (case k1 => k_asm); (case k2 => k_asm); (case k3 => k_mem); (case k4 => k_upd); (case k5 => k_ne); (case k6 => walk_at "my size"); (case k7 => walk_at "my size")); intro h' F' N'; (try k_sweep))
  k_with "k_all" => (refine tail_succ ?_; tbn_find)
  k_with "k_room" => ktr_room
  k_with "k_units" => ktr_units
  k_with "my enterC" => (refine' code_defC ?k1 ?k2 ?k3 ?k4 ?k5 ?kA ?kF ?kK ?k6 ?k7 ?k8 ?k9 ?kB ?kD ?_ ?wH3c2 ?wH3c3 ?wH3c4; (case kA => exact rfl); (case kF => exact rfl); (case kK => assumption); (case k1 => k_asm); (case k2 => k_asm); (case k3 => k_asm); (case k4 => k_asm); (case k5 => k_asm); (case k6 => k_is); (case k7 => k_is); (case k8 => ktr_room); (case k9 => exact BindsTo.of_eq rfl); (case kB => exact rfl); (case kD => decide +kernel); (case wH3c2 => exact rfl); (case wH3c3 => exact rfl); (case wH3c4 => exact rfl); k_whole; intro g' L' h' tk' cells' FG' F' N' Y' B' X' T' l1; (try k_lt l1); k_cells Y'; (try simp only [List.cons_append, List.nil_append] at N'); (try dsimp only); (try k_lift B'); (try k_fold))
  k_with "eval ListComp" => (k_here; lct_look; k_dflt (refine LCt.ListComp_T (F₀ := by k_asm) (by with_unfolding_all rfl) (by decide) (by rfl) (by decide) (by rfl) ?_); k_dflt lct_toSrc)
  k_with "CompSrcT" => (k_here; k_dflt (refine' LCt.CompSrcT.ledger (by rfl) ?k1 ?k2 ?k3 ?k4 ?_; (case k1 => k_asm); (case k2 => k_asm); (case k3 => k_mem); (case k4 => first | assumption | size_fits)); intro g')
  k_with "my size" => (first | (rw [List.size_toArray]; omega) | (rw [List.size_toArray]; exact Nat.le_trans keepV_len (by omega)))
  k_with "my sub" => (intro p9 hp9; first | exact hp9 | exact .tail _ hp9 | exact .tail _ (.tail _ hp9) | exact .tail _ (.tail _ (.tail _ hp9)) | exact .tail _ (.tail _ (.tail _ (.tail _ hp9))) | exact .tail _ (.tail _ (.tail _ (.tail _ (.tail _ hp9)))))
  k_with "exec For Tuple Attribute" => (k_here; (rename Fr _ _ _ _ => lF'); (with_unfolding_all refine' For_turns lF' ?_; k_whole))
  k_with "my enter" => (refine' code_def ?k1 ?k2 ?k3 ?k4 ?k5 ?kA ?kF ?kK ?k6 ?k7 ?k8 ?k9 ?kB ?_ ?wH3c2 ?wH3c3 ?wH3c4 ?wH3c5; (case kA => exact rfl); (case kF => exact rfl); (case kK => assumption); (case k1 => k_asm); (case k2 => k_asm); (case k3 => k_asm); (case k4 => k_asm); (case k5 => k_asm); (case k6 => k_is); (case k7 => k_is); (case k8 => ktr_room); (case k9 => first | exact BindsTo.of_eq rfl | exact binds_K (by k_in) rfl (by k_is) rfl rfl rfl); (case wH3c5 => decide); (case kB => exact locs rfl); (case wH3c2 => exact rfl); (case wH3c3 => exact rfl); (case wH3c4 => exact rfl); k_whole; intro g' L' h' FG' F' N' B' X' T'; (try dsimp only); (try k_lift B'); (try k_fold))
  trivial
theorem take_all {f : Item → Bool} {row : List Item} {r : Item} {i : Nat} (hr : row[i]? = some r) (h : (row.take i).all f = true) (hf : f r = true) : (row.take (i + 1)).all f = true := by
  rw [List.take_add_one, hr, List.all_append, h]
  simp [hf]
theorem not_all {f : Item → Bool} {row : List Item} {r : Item} {i : Nat} (hr : row[i]? = some r) (hf : f r = false) : ¬ row.all f = true := fun h => by
  have := List.all_eq_true.mp h r (List.mem_of_getElem? hr)
  rw [hf] at this
  cases this
theorem name_eq {p d p' d' : Int} (hp : 0 ≤ p ∧ p ≤ 4) (hd : 0 ≤ d ∧ d ≤ 3) (hp' : 0 ≤ p' ∧ p' ≤ 4) (hd' : 0 ≤ d' ∧ d' ≤ 3) : (nameOf p' d' 0 == nameOf p d 0) = !decide (¬ (p' = p ∧ d' = d)) := by
  have := name_ne hp hd hp' hd'
  rw [bne] at this
  rw [← this, Bool.not_not]
theorem other_of {p d : Int} {r : Item} {b : Bool} (hp : 0 ≤ p ∧ p ≤ 4) (hd : 0 ≤ d ∧ d ≤ 3) (hr : r.Ok) (h : (nameOf r.p r.d 0 == nameOf p d 0) = b) : other p d r = !b := by
  rw [name_eq hp hd hr.p hr.d] at h
  unfold other
  rw [← h, Bool.not_not]
theorem hget (w : World) (tl : Ledger) (x dx l : Addr) (hs : Int) (tk : Tok) (vs : List Value) (n e : Nat) (row : List Item) (hrow : ∀ r ∈ row, r.Ok) (hsz : vs.length ≤ 64) (hall : DatAll tl vs (row.map lineDat)) (p d g : Int) (t : Tok)
    (hp : 0 ≤ p ∧ p ≤ 4) (hd : 0 ≤ d ∧ d ≤ 3) (hg : 0 ≤ g ∧ g ≤ 1) (hap : Apart x dx l tl) :
    Ctr w 3 159 [.ref x, .str (nameOf p d g) t] (tab x dx l hs tk e vs n tl) (fun r news' => news' = tab x dx l hs tk e vs n tl ∧ if row.all (other p d) = true then r = .none else ∃ y t, r = .str y t) := by
  obtain ⟨hne, hoff⟩ := hap
  intro loose mean mg mb dp un gd cn cs a ccd cl outer A₀ base h₀ L m s Q E B F X N T hk hdp hun hret
  have hlen : vs.length = row.length := by simpa using hall.length
  refine wpAny_call ?_
  k_dflt (walk_at "my enter")
  k_steps
  refine search_loop ["k", "v"] (fun i => (row.take i).all (other p d) = true) rfl (by k_asm) (by k_asm) (by k_mem) rfl ?step ?fin
  · intro I i v u h tk' o hI hv hJ F' ho N'
    obtain ⟨r, ra, t1, t2, rn, hr, rfl, hm⟩ := line_at hall (by simpa using hv)
    obtain ⟨rp, rd, rq, rg⟩ := hrow r (List.mem_of_getElem? hr)
    have hro := hrow r (List.mem_of_getElem? hr)
    k_steps
    · exact retT hret (by assumption) (by assumption) (by walk_at "my sub") ⟨rfl, by rw [if_neg (not_all hr (other_of (b := true) hp hd hro (by assumption)))]; exact ⟨_, _, rfl⟩⟩
    · exact turn_end (by assumption) (by assumption) hI ⟨Kept.cons rfl (Kept.cons rfl (Kept.of Kept.refl)), rfl, take_all hr hJ (other_of (b := false) hp hd hro (by assumption))⟩
  · intro u h tk' hJ F' N'
    k_steps
    exact retT hret (by assumption) (by assumption) (by walk_at "my sub") ⟨rfl, by rw [if_pos (by rw [hlen, List.take_length] at hJ; exact hJ)]⟩
end
section
open PySem PySem.W PyProof.Rows PySem.Calls
section
variable {M : Model} {A : Around} {E : Value → Shared → Prop} {s : Shared} {K : Frag} {x C L f : Addr} {h₀ : Heap} {m : Str → Option Value} {ox : Obj} {od : Option Obj} {i : Value}
theorem delItem_own {Q : Unit → Shared → Prop} (F : Fr h₀ L s.heap m) (X₀ : K.In h₀) (I : InstAt s.heap x ox C od) (hq : noSeq K C = true) (hs : findIn K (.ref C) "__delitem__" = some (some (.ref f))) (hf : isFn K (.ref f) = true)
    (h : wpAny M A (call (.ref f) [.ref x, i]) (fun _ s' => Q () s') E s) : wpAny M A (delItem (.ref x) i) Q E s := by
  have X := X₀.keeps F.keep
  unfold delItem sequenceKey
  refine wpAny_holding (wpAny_bind (wpAny_bind (I.type.here ?_)))
  refine wpAny_bind ((anyM_none X hq).here ?_)
  rw [if_pos (show (!false) = true from rfl)]
  exact wpAny_pure (wpAny_bind (special_fn X I hs (beq_iff_eq.mp hf) (wpAny_mono h (fun _ _ z => wpAny_pure z) fun _ _ z => z)))
end
end
section
open PySem PySem.W PyProof.Rows PySem.Calls PySem.Flt PyProof.Rows.LCg PyProof.Rows.LCt
theorem words_H4_1 : True := by
  k_with_none
  k_with "my use" => ((case k1 => k_asm); (case k2 => k_asm); (case k3 => k_asm); (case k4 => k_asm); (case k5 => k_asm); (case kK => first | exact rfl | assumption); (case kd => ktr_room); (case ku => ktr_units))
  k_with "getMethod ref" => (k_here; (with_reducible show wpAny _ _ (getMethod (Value.ref _) (Str.ofString "search") _) _ _ _); k_dflt (refine' pattern_method ?k1 ?k2 ?k3 ?k4 ?_; (case k1 => k_in); (case k2 => k_is); (case k3 => rfl); (case k4 => rfl)))
  k_with "call builtin:re.Pattern.search" => (k_here; k_dflt (refine' search_none ?k1 ?k2 ?k3 ?k4 ?_; (case k1 => k_in); (case k2 => k_is); (case k3 => rfl); (case k4 => first | with_reducible exact names_clean _ _ (by assumption) (by assumption) (by assumption) | with_reducible exact texts_clean _ _ (by assumption) | with_reducible exact names_clean _ _ (by assumption) (by assumption) (by decide))))
  k_with "call builtin:str.lower" => ((with_reducible show wpAny _ _ (call (Value.builtin "str.lower") [Value.str (nameOf _ _ _) _]) _ _ _); (refine lower_rule (by assumption) (by assumption) (by assumption) ?_))
  k_with "subscriptTail Name Constant ref int" => (k_here; k_dflt (refine' item_tupleT (News.isTup ?wH4N ?wH4m) ?wH4a ?wH4b ?wH4c ?wH4d ?_; (case wH4N => k_asm); (case wH4m => k_mem); (case wH4a => decide); (case wH4b => decide); (case wH4c => rfl); (case wH4d => rfl)))
  k_with "k_mem" => assumption
  k_with "setItem ref" => (k_here; (with_reducible show wpAny _ _ (setItem (Value.ref _) (Value.ref _) _) _ _ _); k_dflt (refine' setAll_K ?k1 ?k2 ?k3 ?k4 ?k5 ?k6 ?k7 ?_; (case k1 => k_asm); (case k2 => k_asm); (case k3 => k_mem); (case k4 => k_upd); (case k5 => k_ne); (case k6 => walk_at "my size"); (case k7 => walk_at "my size")); intro h' F' N'; (try k_sweep))
  k_with "k_all" => (refine tail_succ ?_; tbn_find)
  k_with "k_room" => ktr_room
  k_with "k_units" => ktr_units
  k_with "my enterC" => (refine' code_defC ?k1 ?k2 ?k3 ?k4 ?k5 ?kA ?kF ?kK ?k6 ?k7 ?k8 ?k9 ?kB ?kD ?_ ?wH4c2 ?wH4c3 ?wH4c4; (case kA => exact rfl); (case kF => exact rfl); (case kK => assumption); (case k1 => k_asm); (case k2 => k_asm); (case k3 => k_asm); (case k4 => k_asm); (case k5 => k_asm); (case k6 => k_is); (case k7 => k_is); (case k8 => ktr_room); (case k9 => exact BindsTo.of_eq rfl); (case kB => exact rfl); (case kD => decide +kernel); (case wH4c2 => exact rfl); (case wH4c3 => exact rfl); (case wH4c4 => exact rfl); k_whole; intro g' L' h' tk' cells' FG' F' N' Y' B' X' T' l1; (try k_lt l1); k_cells Y'; (try simp only [List.cons_append, List.nil_append] at N'); (try dsimp only); (try k_lift B'); (try k_fold))
  k_with "eval ListComp" => (k_here; lct_look; k_dflt (refine LCt.ListComp_T (F₀ := by k_asm) (by with_unfolding_all rfl) (by decide) (by rfl) (by decide) (by rfl) ?_); k_dflt lct_toSrc)
  k_with "CompSrcT" => (k_here; k_dflt (refine' LCt.CompSrcT.ledger (by rfl) ?k1 ?k2 ?k3 ?k4 ?_; (case k1 => k_asm); (case k2 => k_asm); (case k3 => k_mem); (case k4 => first | assumption | size_fits)); intro g')
  k_with "my size" => ((try rw [sizeLine_eq]); first | (rw [List.size_toArray]; omega) | (rw [List.size_toArray]; exact Nat.le_trans keepV_len (by omega)))
  k_with "my sub" => (intro p9 hp9; first | exact hp9 | exact .tail _ hp9 | exact .tail _ (.tail _ hp9) | exact .tail _ (.tail _ (.tail _ hp9)) | exact .tail _ (.tail _ (.tail _ (.tail _ hp9))) | exact .tail _ (.tail _ (.tail _ (.tail _ (.tail _ hp9)))))
  k_with "exec For Tuple Attribute" => (k_here; (rename Fr _ _ _ _ => lF'); (with_unfolding_all refine' For_turns lF' ?_; k_whole))
  k_with "my enter" => (refine' code_def ?k1 ?k2 ?k3 ?k4 ?k5 ?kA ?kF ?kK ?k6 ?k7 ?k8 ?k9 ?kB ?_ ?wH4c2 ?wH4c3 ?wH4c4 ?wH4c5; (case kA => exact rfl); (case kF => exact rfl); (case kK => assumption); (case k1 => k_asm); (case k2 => k_asm); (case k3 => k_asm); (case k4 => k_asm); (case k5 => k_asm); (case k6 => k_is); (case k7 => k_is); (case k8 => ktr_room); (case k9 => first | exact BindsTo.of_eq rfl | exact binds_K (by k_in) rfl (by k_is) rfl rfl rfl); (case wH4c5 => decide); (case kB => exact locs rfl); (case wH4c2 => exact rfl); (case wH4c3 => exact rfl); (case wH4c4 => exact rfl); k_whole; intro g' L' h' FG' F' N' B' X' T'; (try dsimp only); (try k_lift B'); (try k_fold))
  k_with "delItem ref str" => (k_here; (with_reducible show wpAny _ _ (delItem (Value.ref _) _) _ _ _); k_dflt (refine' delItem_own ?wH4F ?wH4X ?wH4I ?wH4hQ ?wH4hS ?wH4hF ?_; (case wH4F => k_asm); (case wH4X => k_asm); (case wH4I => k_inst); (case wH4hS => k_is); (case wH4hF => k_is); (case wH4hQ => k_is); k_whole))
  k_with "call builtin:list.append" => (k_here; (with_reducible show wpAny _ _ (call (Value.builtin _) [Value.ref _, _]) _ _ _); k_dflt (refine' append_K ?k1 ?k2 ?k3 ?_ ?wH4z; (case k1 => k_asm); (case k2 => k_asm); (case k3 => k_upd); (case wH4z => walk_at "my size"); k_whole); intro h' F' N'; (try k_sweep))
  k_with "call ref" => ((with_reducible show wpAny _ _ (call (Value.ref 130) _) _ _ _); k_dflt (refine' Ctr.use (hdel _ _ _ _ _ _ _ _ _ _ _ ?wH4a1 ?wH4a2 ?wH4a3 _ _ _ _ ?wH4a4 ?wH4a5 ?wH4a6 ?wH4a7) ?k1 ?k2 ?k3 ?k4 ?k5 ?kK ?kd ?ku ?_; walk_at "my use"); (case wH4a1 => assumption); (case wH4a2 => assumption); (case wH4a3 => assumption); (case wH4a4 => assumption); (case wH4a5 => assumption); (case wH4a6 => assumption); (case wH4a7 => assumption); intro r9 news9 h9 tk9 F' N' hp9; (obtain ⟨hr9, n9, hn9⟩ := hp9); subst hr9; subst hn9; (try dsimp only [tab] at N'); (try k_sweep); (try dsimp only))
  k_with "call ref" => ((with_reducible show wpAny _ _ (call (Value.ref 159) _) _ _ _); k_dflt (refine' Ctr.use (hget _ _ _ _ _ _ _ _ _ _ _ ?wH4a1 ?wH4a2 ?wH4a3 _ _ _ _ ?wH4a4 ?wH4a5 ?wH4a6 ?wH4a7) ?k1 ?k2 ?k3 ?k4 ?k5 ?kK ?kd ?ku ?_; walk_at "my use"); (case wH4a1 => assumption); (case wH4a2 => assumption); (case wH4a3 => assumption); (case wH4a4 => assumption); (case wH4a5 => assumption); (case wH4a6 => assumption); (case wH4a7 => assumption); intro r9 news9 h9 tk9 F' N' hp9; (obtain ⟨hn9, hr9⟩ := hp9); subst hn9; (first | (rw [if_pos (by assumption)] at hr9; subst hr9) | (rw [if_neg (by assumption)] at hr9; (obtain ⟨y9, t9, hr9⟩ := hr9); subst hr9)); (try dsimp only [tab] at N'); (try k_sweep); (try dsimp only))
  trivial
/-- the table has got one line more, at its end -/
noncomputable def Added (x dx l : Addr) (hs : Int) (tk : Tok) (e : Nat) (vs : List Value) (tl : Ledger) (nm tx : Str) (news' : Ledger) : Prop :=
  ∃ D t5 t6 n', news' = tab x dx l hs tk e (vs ++ [.ref D]) n' ((D, tupN [.str nm t5, .str tx t6] 0) :: tl) ∧ x < D ∧ dx < D ∧ l < D ∧ AllLt D tl
theorem perm {α : Type _} {a b c d : α} {tl : List α} : ∀ p ∈ (a :: b :: c :: d :: tl), p ∈ (d :: a :: b :: c :: tl) := fun p hp => by
  simp only [List.mem_cons] at hp ⊢
  rcases hp with h | h | h | h | h <;> simp only [h, true_or, or_true]
theorem hset (w : World) (tl : Ledger) (x dx l : Addr) (hs : Int) (tk : Tok) (vs : List Value) (n e : Nat) (row : List Item) (hrow : ∀ r ∈ row, r.Ok) (hsz : vs.length ≤ 64) (hall : DatAll tl vs (row.map lineDat)) (p d q g : Int) (t5 t6 : Tok)
    (hp : 0 ≤ p ∧ p ≤ 4) (hd : 0 ≤ d ∧ d ≤ 3) (hq : 0 ≤ q ∧ q ≤ 3) (hg : 0 ≤ g ∧ g ≤ 1) (hap : Apart x dx l tl) :
    Ctr w 5 125 [.ref x, .str (nameOf p d g) t5, .str (textOf q) t6] (tab x dx l hs tk e vs n tl) (fun _ news' => Added x dx l hs tk e (keepV vs row (other p d)) tl (nameOf p d g) (textOf q) news') := by
  have hne := hap.ne
  have hoff := hap.off
  intro loose mean mg mb dp un gd cn cs a ccd cl outer A₀ base h₀ L m s Q E B F X N T hk hdp hun hret
  have hlen : vs.length = row.length := by simpa using hall.length
  refine wpAny_call ?_
  k_dflt (walk_at "my enter")
  k_steps
  (rename News _ _ _ _ => N1); (try simp only [List.push_toArray] at N1); exact retT hret (by assumption) N1 perm ⟨_, _, _, _, rfl, by assumption⟩
theorem hsetd (w : World) (tl : Ledger) (x dx l : Addr) (hs : Int) (tk : Tok) (vs : List Value) (n e : Nat) (row : List Item) (hrow : ∀ r ∈ row, r.Ok) (hsz : vs.length ≤ 64) (hall : DatAll tl vs (row.map lineDat)) (p d q g : Int) (t5 t6 : Tok)
    (hp : 0 ≤ p ∧ p ≤ 4) (hd : 0 ≤ d ∧ d ≤ 3) (hq : 0 ≤ q ∧ q ≤ 3) (hg : 0 ≤ g ∧ g ≤ 1) (hap : Apart x dx l tl) :
    Ctr w 5 202 [.ref x, .str (nameOf p d g) t5, .str (textOf q) t6] (tab x dx l hs tk e vs n tl) (fun _ news' => if row.all (other p d) = true then Added x dx l hs tk e vs tl (nameOf p d g) (textOf q) news' else news' = tab x dx l hs tk e vs n tl) := by
  have hne := hap.ne
  have hoff := hap.off
  intro loose mean mg mb dp un gd cn cs a ccd cl outer A₀ base h₀ L m s Q E B F X N T hk hdp hun hret
  have hlen : vs.length = row.length := by simpa using hall.length
  refine wpAny_call ?_
  k_dflt (walk_at "my enter")
  by_cases hc : row.all (other p d) = true
  · k_steps
    (rename News _ _ _ _ => N1); (try simp only [List.push_toArray] at N1); exact retT hret (by assumption) N1 perm (by rw [if_pos hc]; exact ⟨_, _, _, _, rfl, by assumption⟩)
  · k_steps
    exact retT hret (by assumption) (by assumption) (by walk_at "my sub") (by rw [if_neg hc])
end
section
open PySem PySem.W PyProof.Rows PySem.Calls PySem.Flt PyProof.Rows.LCg PyProof.Rows.LCt
theorem words_H5_1 : True := by
  k_with_none
  k_with "my use" => ((case k1 => k_asm); (case k2 => k_asm); (case k3 => k_asm); (case k4 => k_asm); (case k5 => k_asm); (case kK => first | exact rfl | assumption); (case kd => ktr_room); (case ku => ktr_units))
  k_with "getMethod ref" => (k_here; (with_reducible show wpAny _ _ (getMethod (Value.ref _) (Str.ofString "search") _) _ _ _); k_dflt (refine' pattern_method ?k1 ?k2 ?k3 ?k4 ?_; (case k1 => k_in); (case k2 => k_is); (case k3 => rfl); (case k4 => rfl)))
  k_with "call builtin:re.Pattern.search" => (k_here; k_dflt (refine' search_none ?k1 ?k2 ?k3 ?k4 ?_; (case k1 => k_in); (case k2 => k_is); (case k3 => rfl); (case k4 => first | with_reducible exact names_clean _ _ (by assumption) (by assumption) (by assumption) | with_reducible exact texts_clean _ _ (by assumption) | with_reducible exact names_clean _ _ (by assumption) (by assumption) (by decide))))
  k_with "call builtin:str.lower" => ((with_reducible show wpAny _ _ (call (Value.builtin "str.lower") [Value.str (nameOf _ _ _) _]) _ _ _); (refine lower_rule (by assumption) (by assumption) (by assumption) ?_))
  k_with "subscriptTail Name Constant ref int" => (k_here; k_dflt (refine' item_tupleT (News.isTup ?wH5N ?wH5m) ?wH5a ?wH5b ?wH5c ?wH5d ?_; (case wH5N => k_asm); (case wH5m => k_mem); (case wH5a => decide); (case wH5b => decide); (case wH5c => rfl); (case wH5d => rfl)))
  k_with "k_mem" => assumption
  k_with "setItem ref" => (k_here; (with_reducible show wpAny _ _ (setItem (Value.ref _) (Value.ref _) _) _ _ _); k_dflt (refine' setAll_K ?k1 ?k2 ?k3 ?k4 ?k5 ?k6 ?k7 ?_; (case k1 => k_asm); (case k2 => k_asm); (case k3 => k_mem); (case k4 => k_upd); (case k5 => k_ne); (case k6 => walk_at "my size"); (case k7 => walk_at "my size")); intro h' F' N'; (try k_sweep))
  k_with "k_all" => (refine tail_succ ?_; tbn_find)
  k_with "k_room" => ktr_room
  k_with "k_units" => ktr_units
  k_with "my enterC" => (refine' code_defC ?k1 ?k2 ?k3 ?k4 ?k5 ?kA ?kF ?kK ?k6 ?k7 ?k8 ?k9 ?kB ?kD ?_ ?wH5c2 ?wH5c3 ?wH5c4; (case kA => exact rfl); (case kF => exact rfl); (case kK => assumption); (case k1 => k_asm); (case k2 => k_asm); (case k3 => k_asm); (case k4 => k_asm); (case k5 => k_asm); (case k6 => k_is); (case k7 => k_is); (case k8 => ktr_room); (case k9 => exact BindsTo.of_eq rfl); (case kB => exact rfl); (case kD => decide +kernel); (case wH5c2 => exact rfl); (case wH5c3 => exact rfl); (case wH5c4 => exact rfl); k_whole; intro g' L' h' tk' cells' FG' F' N' Y' B' X' T' l1; (try k_lt l1); k_cells Y'; (try simp only [List.cons_append, List.nil_append] at N'); (try dsimp only); (try k_lift B'); (try k_fold))
  k_with "eval ListComp" => (k_here; lct_look; k_dflt (refine LCt.ListComp_T (F₀ := by k_asm) (by with_unfolding_all rfl) (by decide) (by rfl) (by decide) (by rfl) ?_); k_dflt lct_toSrc)
  k_with "CompSrcT" => (k_here; k_dflt (refine' LCt.CompSrcT.ledger (by rfl) ?k1 ?k2 ?k3 ?k4 ?_; (case k1 => k_asm); (case k2 => k_asm); (case k3 => k_mem); (case k4 => first | assumption | size_fits)); intro g')
  k_with "my size" => ((try rw [sizeLine_eq]); first | (rw [List.size_toArray]; omega) | (rw [List.size_toArray]; exact Nat.le_trans keepV_len (by omega)))
  k_with "my sub" => (intro p9 hp9; first | exact hp9 | exact .tail _ hp9 | exact .tail _ (.tail _ hp9) | exact .tail _ (.tail _ (.tail _ hp9)) | exact .tail _ (.tail _ (.tail _ (.tail _ hp9))) | exact .tail _ (.tail _ (.tail _ (.tail _ (.tail _ hp9)))))
  k_with "exec For Tuple Attribute" => (k_here; (rename Fr _ _ _ _ => lF'); (with_unfolding_all refine' For_turns lF' ?_; k_whole))
  k_with "my enter" => (refine' code_def ?k1 ?k2 ?k3 ?k4 ?k5 ?kA ?kF ?kK ?k6 ?k7 ?k8 ?k9 ?kB ?_ ?wH5c2 ?wH5c3 ?wH5c4 ?wH5c5; (case kA => exact rfl); (case kF => exact rfl); (case kK => assumption); (case k1 => k_asm); (case k2 => k_asm); (case k3 => k_asm); (case k4 => k_asm); (case k5 => k_asm); (case k6 => k_is); (case k7 => k_is); (case k8 => ktr_room); (case k9 => first | exact BindsTo.of_eq rfl | exact binds_K (by k_in) rfl (by k_is) rfl rfl rfl); (case wH5c5 => decide); (case kB => exact locs rfl); (case wH5c2 => exact rfl); (case wH5c3 => exact rfl); (case wH5c4 => exact rfl); k_whole; intro g' L' h' FG' F' N' B' X' T'; (try dsimp only); (try k_lift B'); (try k_fold))
  k_with "delItem ref str" => (k_here; (with_reducible show wpAny _ _ (delItem (Value.ref _) _) _ _ _); k_dflt (refine' delItem_own ?wH5F ?wH5X ?wH5I ?wH5hQ ?wH5hS ?wH5hF ?_; (case wH5F => k_asm); (case wH5X => k_asm); (case wH5I => k_inst); (case wH5hS => k_is); (case wH5hF => k_is); (case wH5hQ => k_is); k_whole))
  k_with "call builtin:list.append" => (k_here; (with_reducible show wpAny _ _ (call (Value.builtin _) [Value.ref _, _]) _ _ _); k_dflt (refine' append_K ?k1 ?k2 ?k3 ?_ ?wH5z; (case k1 => k_asm); (case k2 => k_asm); (case k3 => k_upd); (case wH5z => walk_at "my size"); k_whole); intro h' F' N'; (try k_sweep))
  k_with "my enterM" => (refine' kp_more ?k1 ?k2 ?k3 ?k4 ?k5 ?kA ?kF ?kK ?k6 ?k7 ?k8 ?kX ?kM ?kN ?kD ?kR ?kP ?kT ?kB ?_ ?wH5c2 ?wH5c3 ?wH5c4 ?wH5c5; (case kA => exact rfl); (case kF => exact rfl); (case kK => assumption); (case k1 => k_asm); (case k2 => k_asm); (case k3 => k_asm); (case k4 => k_asm); (case k5 => k_asm); (case k6 => k_is); (case k7 => k_is); (case k8 => ktr_room); (case kX => kp_lit); (case kM => exact rfl); (case kN => exact rfl); (case kD => kp_flats); (case kR => exact rfl); (case kP => exact rfl); (case kT => exact fun _ => rfl); (case kB => exact fun _ => locs rfl); (case wH5c5 => decide); (case wH5c2 => exact rfl); (case wH5c3 => exact rfl); (case wH5c4 => exact rfl); k_whole; intro D' o' g' L' h' tk' l1 lo' hs' fs' FG' F' N' B' X' T'; (try k_lt l1); (try dsimp only); (try k_lift B'); (try k_fold))
  trivial
theorem join_text {q : Int} (hq : 0 ≤ q ∧ q ≤ 3) : Txt.join (Str.ofString "; ") [textOf q] = textOf q := by
  rcases four hq with rfl | rfl | rfl | rfl <;> decide +kernel
theorem join_parts {prog : Program} {w : World} {A : Around} {E : Value → Shared → Prop} {s : Shared} {t t6 : Tok} {Q : Value → Shared → Prop} {D : Addr} {q : Int} {n : Nat} {h₀ : Heap} {L : Addr} {news : Ledger} (N : News h₀ L s.heap news) (hD : (D, W.listOf (#[].push (.str (textOf q) t6)) n) ∈ news) (hq : 0 ≤ q ∧ q ≤ 3)
    (h : ∀ t' k, Q (.str (textOf q) t') { s with toks := k }) : wpAny (model prog w) A (call (.builtin "str.join") [.str (Str.ofString "; ") t, .ref D]) Q E s :=
  join_list (News.isList N hD) (.cons _ _ .nil) (by have := text_len hq; have e : (Str.ofString "; ").length = 2 := by decide
                                                    simp only [List.map_cons, List.map_nil, List.sum_cons, List.sum_nil, List.length_cons, List.length_nil, e]; omega) fun t' k => by rw [join_text hq]; exact h t' k
theorem news_drop3 {h₀ h : Heap} {L : Addr} {a b c : Addr × Obj} {r : Ledger} (N : News h₀ L h (a :: b :: c :: r)) : News h₀ L h r := fun p hp => N p (.tail _ (.tail _ (.tail _ hp)))
theorem words_H5_2 : True := by
  k_with "call builtin:str.join" => (k_here; k_dflt (refine' join_parts ?k1 ?k2 ?k3 ?_; (case k1 => k_asm); (case k2 => k_mem); (case k3 => assumption)); intro t' k'; (rename News _ _ _ (_ :: _ :: _ :: _) => N8); (have N9 := news_drop3 N8); (try dsimp only at N9); (try clear N8); (repeat ((with_reducible rename PyProof.V.FlatPairs _ _ _ => f8); clear f8)))
  trivial
theorem hadd (w : World) (tl : Ledger) (x dx l : Addr) (hs : Int) (tk : Tok) (vs : List Value) (n e : Nat) (hsz : vs.length ≤ 64) (p d q g : Int) (t5 t6 : Tok)
    (hp : 0 ≤ p ∧ p ≤ 4) (hd : 0 ≤ d ∧ d ≤ 3) (hq : 0 ≤ q ∧ q ≤ 3) (hg : 0 ≤ g ∧ g ≤ 1) (hap : Apart x dx l tl) :
    Ctr w 5 209 [.ref x, .str (nameOf p d g) t5, .str (textOf q) t6] (tab x dx l hs tk e vs n tl) (fun _ news' => Added x dx l hs tk e vs tl (nameOf p d g) (textOf q) news') := by
  have hne := hap.ne
  have hoff := hap.off
  intro loose mean mg mb dp un gd cn cs a ccd cl outer A₀ base h₀ L m s Q E B F X N T hk hdp hun hret
  refine wpAny_call ?_
  dsimp only [tab] at N
  k_dflt (walk_at "my enterM")
  k_steps
  (rename News _ _ _ _ => N1); (try simp only [List.push_toArray] at N1); exact retT hret (by assumption) N1 perm ⟨_, _, _, _, rfl, by assumption⟩
end
section
open PySem PySem.W PyProof.Rows PySem.Calls PySem.Flt PyProof.Rows.LCg PyProof.Rows.LCt
theorem words_H6_1 : True := by
  k_with_none
  k_with "my use" => ((case k1 => k_asm); (case k2 => k_asm); (case k3 => k_asm); (case k4 => k_asm); (case k5 => k_asm); (case kK => first | exact rfl | assumption); (case kd => ktr_room); (case ku => ktr_units))
  k_with "getMethod ref" => (k_here; (with_reducible show wpAny _ _ (getMethod (Value.ref _) (Str.ofString "search") _) _ _ _); k_dflt (refine' pattern_method ?k1 ?k2 ?k3 ?k4 ?_; (case k1 => k_in); (case k2 => k_is); (case k3 => rfl); (case k4 => rfl)))
  k_with "call builtin:re.Pattern.search" => (k_here; k_dflt (refine' search_none ?k1 ?k2 ?k3 ?k4 ?_; (case k1 => k_in); (case k2 => k_is); (case k3 => rfl); (case k4 => first | with_reducible exact names_clean _ _ (by assumption) (by assumption) (by assumption) | with_reducible exact texts_clean _ _ (by assumption) | with_reducible exact names_clean _ _ (by assumption) (by assumption) (by decide))))
  k_with "call builtin:str.lower" => ((with_reducible show wpAny _ _ (call (Value.builtin "str.lower") [Value.str (nameOf _ _ _) _]) _ _ _); (refine lower_rule (by assumption) (by assumption) (by assumption) ?_))
  k_with "subscriptTail Name Constant ref int" => (k_here; k_dflt (refine' item_tupleT (News.isTup ?wH6N ?wH6m) ?wH6a ?wH6b ?wH6c ?wH6d ?_; (case wH6N => k_asm); (case wH6m => k_mem); (case wH6a => decide); (case wH6b => decide); (case wH6c => rfl); (case wH6d => rfl)))
  k_with "k_mem" => assumption
  k_with "setItem ref" => (k_here; (with_reducible show wpAny _ _ (setItem (Value.ref _) (Value.ref _) _) _ _ _); k_dflt (refine' setAll_K ?k1 ?k2 ?k3 ?k4 ?k5 ?k6 ?k7 ?_; (case k1 => k_asm); (case k2 => k_asm); (case k3 => k_mem); (case k4 => k_upd); (case k5 => k_ne); (case k6 => walk_at "my size"); (case k7 => walk_at "my size")); intro h' F' N'; (try k_sweep))
  k_with "k_all" => (refine tail_succ ?_; tbn_find)
  k_with "k_room" => ktr_room
  k_with "k_units" => ktr_units
  k_with "my enterC" => (refine' code_defC ?k1 ?k2 ?k3 ?k4 ?k5 ?kA ?kF ?kK ?k6 ?k7 ?k8 ?k9 ?kB ?kD ?_ ?wH6c2 ?wH6c3 ?wH6c4; (case kA => exact rfl); (case kF => exact rfl); (case kK => assumption); (case k1 => k_asm); (case k2 => k_asm); (case k3 => k_asm); (case k4 => k_asm); (case k5 => k_asm); (case k6 => k_is); (case k7 => k_is); (case k8 => ktr_room); (case k9 => exact BindsTo.of_eq rfl); (case kB => exact rfl); (case kD => decide +kernel); (case wH6c2 => exact rfl); (case wH6c3 => exact rfl); (case wH6c4 => exact rfl); k_whole; intro g' L' h' tk' cells' FG' F' N' Y' B' X' T' l1; (try k_lt l1); k_cells Y'; (try simp only [List.cons_append, List.nil_append] at N'); (try dsimp only); (try k_lift B'); (try k_fold))
  k_with "eval ListComp" => (k_here; lct_look; k_dflt (refine LCt.ListComp_T (F₀ := by k_asm) (by with_unfolding_all rfl) (by decide) (by rfl) (by decide) (by rfl) ?_); k_dflt lct_toSrc)
  k_with "CompSrcT" => (k_here; k_dflt (refine' LCt.CompSrcT.ledger (by rfl) ?k1 ?k2 ?k3 ?k4 ?_; (case k1 => k_asm); (case k2 => k_asm); (case k3 => k_mem); (case k4 => first | assumption | size_fits)); intro g')
  k_with "my size" => ((try rw [sizeLine_eq]); first | (rw [List.size_toArray]; omega) | (rw [List.size_toArray]; exact Nat.le_trans keepV_len (by omega)))
  k_with "my sub" => (intro p9 hp9; first | exact hp9 | exact .tail _ hp9 | exact .tail _ (.tail _ hp9) | exact .tail _ (.tail _ (.tail _ hp9)) | exact .tail _ (.tail _ (.tail _ (.tail _ hp9))) | exact .tail _ (.tail _ (.tail _ (.tail _ (.tail _ hp9)))))
  k_with "exec For Tuple Attribute" => (k_here; (rename Fr _ _ _ _ => lF'); (with_unfolding_all refine' For_turns lF' ?_; k_whole))
  k_with "my enter" => (refine' code_def ?k1 ?k2 ?k3 ?k4 ?k5 ?kA ?kF ?kK ?k6 ?k7 ?k8 ?k9 ?kB ?_ ?wH6c2 ?wH6c3 ?wH6c4 ?wH6c5; (case kA => exact rfl); (case kF => exact rfl); (case kK => assumption); (case k1 => k_asm); (case k2 => k_asm); (case k3 => k_asm); (case k4 => k_asm); (case k5 => k_asm); (case k6 => k_is); (case k7 => k_is); (case k8 => ktr_room); (case k9 => first | exact BindsTo.of_eq rfl | exact binds_K (by k_in) rfl (by k_is) rfl rfl rfl); (case wH6c5 => decide); (case kB => exact locs rfl); (case wH6c2 => exact rfl); (case wH6c3 => exact rfl); (case wH6c4 => exact rfl); k_whole; intro g' L' h' FG' F' N' B' X' T'; (try dsimp only); (try k_lift B'); (try k_fold))
  k_with "delItem ref str" => (k_here; (with_reducible show wpAny _ _ (delItem (Value.ref _) _) _ _ _); k_dflt (refine' delItem_own ?wH6F ?wH6X ?wH6I ?wH6hQ ?wH6hS ?wH6hF ?_; (case wH6F => k_asm); (case wH6X => k_asm); (case wH6I => k_inst); (case wH6hS => k_is); (case wH6hF => k_is); (case wH6hQ => k_is); k_whole))
  k_with "call builtin:list.append" => (k_here; (with_reducible show wpAny _ _ (call (Value.builtin _) [Value.ref _, _]) _ _ _); k_dflt (refine' append_K ?k1 ?k2 ?k3 ?_ ?wH6z; (case k1 => k_asm); (case k2 => k_asm); (case k3 => k_upd); (case wH6z => walk_at "my size"); k_whole); intro h' F' N'; (try k_sweep))
  trivial
noncomputable def deedRow (row : List Item) (deed : Int) (i : Item) : List Item :=
  let others := row.filter (other i.p i.d)
  if deed = 3 then others else if deed = 1 then others ++ [i] else if deed = 2 ∧ others.length < row.length then row else row ++ [i]
/-- the table's part after a deed: cells may have been added at a fresh place -/
noncomputable def Deeded (x dx l : Addr) (hs : Int) (tk : Tok) (e : Nat) (tl : Ledger) (row : List Item) (news' : Ledger) : Prop :=
  ∃ add vs' n', news' = tab x dx l hs tk e vs' n' (add ++ tl) ∧ DatAll (add ++ tl) vs' (row.map lineDat) ∧ add.length ≤ 1 ∧ (∀ q ∈ add, x < q.1 ∧ dx < q.1 ∧ l < q.1 ∧ ∀ p ∈ tl, p.1 < q.1)
theorem datAll_keep {news : Ledger} {f : Item → Bool} : ∀ {vs : List Value} {row : List Item}, DatAll news vs (row.map lineDat) → DatAll news (keepV vs row f) ((row.filter f).map lineDat)
  | [], [], _ => .nil
  | [], _ :: _, h => by cases h
  | _ :: _, [], h => by cases h
  | v :: vs, r :: row, h => by
    cases h with
    | cons hd tl =>
      have ih := datAll_keep (f := f) tl
      simp only [keepV, List.filter_cons]
      split
      · exact .cons hd ih
      · exact ih
theorem datAll_add {tl : Ledger} {D : Addr} {i : Item} {t5 t6 : Tok} {n : Nat} {vs : List Value} {row : List Item} (h : DatAll tl vs (row.map lineDat)) :
    DatAll ([(D, tupN [.str i.name t5, .str i.text t6] n)] ++ tl) (vs ++ [.ref D]) ((row ++ [i]).map lineDat) := by
  rw [List.map_append]
  exact DatAll.append (h.mono fun p hp => .tail _ hp) (DatAll.one (.tuple (.head _) (.cons (.str _ _) (.cons (.str _ _) .nil))))
theorem deeded_add {x dx l : Addr} {hs : Int} {tk : Tok} {e : Nat} {vs : List Value} {tl : Ledger} {row : List Item} {i : Item} {news' : Ledger} (h : DatAll tl vs (row.map lineDat)) (A : Added x dx l hs tk e vs tl i.name i.text news') :
    Deeded x dx l hs tk e tl (row ++ [i]) news' := by
  obtain ⟨D, t5, t6, n', rfl, a, b, c, d⟩ := A
  refine ⟨[(D, tupN [.str i.name t5, .str i.text t6] 0)], _, n', rfl, datAll_add h, Nat.le_refl _, fun q hq => ?_⟩
  rw [List.mem_singleton] at hq
  subst hq
  exact ⟨a, b, c, allLt_to d⟩
theorem deeded_same {x dx l : Addr} {hs : Int} {tk : Tok} {e n : Nat} {vs : List Value} {tl : Ledger} {row : List Item} (h : DatAll tl vs (row.map lineDat)) :
    Deeded x dx l hs tk e tl row (tab x dx l hs tk e vs n tl) :=
  ⟨[], vs, n, rfl, h, Nat.zero_le _, fun q hq => nomatch hq⟩
theorem filter_short {α : Type _} {f : α → Bool} {l : List α} : (l.filter f).length < l.length ↔ ¬ l.all f = true := by
  rw [List.all_eq_true]
  have h := List.length_filter_le f l
  constructor
  · intro lt all
    rw [List.filter_eq_self.mpr all] at lt
    omega
  · intro na
    rcases Nat.lt_or_ge (l.filter f).length l.length with lt | ge
    · exact lt
    · exact absurd (List.length_filter_eq_length_iff.mp (Nat.le_antisymm h ge)) na
theorem deed0 {row : List Item} {i : Item} : deedRow row 0 i = row ++ [i] := by simp [deedRow]
theorem deed1 {row : List Item} {i : Item} : deedRow row 1 i = row.filter (other i.p i.d) ++ [i] := by simp [deedRow]
theorem deed2 {row : List Item} {i : Item} : deedRow row 2 i = if row.all (other i.p i.d) = true then row ++ [i] else row := by
  have := filter_short (f := other i.p i.d) (l := row)
  by_cases h : row.all (other i.p i.d) = true
  · rw [if_pos h]
    simp only [deedRow]
    rw [if_neg (by decide), if_neg (by decide), if_neg (fun q => this.mp q.2 h)]
  · rw [if_neg h]
    simp only [deedRow]
    rw [if_neg (by decide), if_neg (by decide), if_pos ⟨trivial, this.mpr h⟩]
theorem deeded_two {x dx l : Addr} {hs : Int} {tk : Tok} {e n : Nat} {vs : List Value} {tl : Ledger} {row : List Item} {i : Item} {news' : Ledger} (h : DatAll tl vs (row.map lineDat))
    (A : if row.all (other i.p i.d) = true then Added x dx l hs tk e vs tl i.name i.text news' else news' = tab x dx l hs tk e vs n tl) :
    Deeded x dx l hs tk e tl (deedRow row 2 i) news' := by
  rw [deed2]
  by_cases hc : row.all (other i.p i.d) = true
  · rw [if_pos hc] at A; rw [if_pos hc]; exact deeded_add h A
  · rw [if_neg hc] at A; rw [if_neg hc, A]; exact deeded_same h
theorem deed3 {row : List Item} {i : Item} : deedRow row 3 i = row.filter (other i.p i.d) := by simp [deedRow]

theorem words_H6_2 : True := by
  k_with "call ref" => ((with_reducible show wpAny _ _ (call (Value.ref 130) _) _ _ _); k_dflt (refine' Ctr.use (hdel _ _ _ _ _ _ _ _ _ _ _ ?wH6a1 ?wH6a2 ?wH6a3 _ _ _ _ ?wH6a4 ?wH6a5 ?wH6a6 ?wH6a7) ?k1 ?k2 ?k3 ?k4 ?k5 ?kK ?kd ?ku ?_; walk_at "my use"); (case wH6a1 => assumption); (case wH6a2 => assumption); (case wH6a3 => assumption); (case wH6a4 => assumption); (case wH6a5 => assumption); (case wH6a6 => assumption); (case wH6a7 => assumption); intro r9 news9 h9 tk9 F' N' hp9; (obtain ⟨hr9, n9, hn9⟩ := hp9); subst hr9; subst hn9; (try dsimp only [tab] at N'); (try k_sweep); (try dsimp only))
  k_with "call ref" => ((with_reducible show wpAny _ _ (call (Value.ref 125) _) _ _ _); k_dflt (refine' Ctr.use (hset _ _ _ _ _ _ _ _ _ _ _ ?wH6a1 ?wH6a2 ?wH6a3 _ _ _ _ _ _ ?wH6a4 ?wH6a5 ?wH6a6 ?wH6a7 ?wH6a8) ?k1 ?k2 ?k3 ?k4 ?k5 ?kK ?kd ?ku ?_; walk_at "my use"); (case wH6a1 => assumption); (case wH6a2 => assumption); (case wH6a3 => assumption); (case wH6a4 => assumption); (case wH6a5 => assumption); (case wH6a6 => assumption); (case wH6a7 => assumption); (case wH6a8 => assumption); intro r9 news9 h9 tk9 F' N' hp9; (try k_sweep); (try dsimp only))
  k_with "call ref" => ((with_reducible show wpAny _ _ (call (Value.ref 202) _) _ _ _); k_dflt (refine' Ctr.use (hsetd _ _ _ _ _ _ _ _ _ _ _ ?wH6a1 ?wH6a2 ?wH6a3 _ _ _ _ _ _ ?wH6a4 ?wH6a5 ?wH6a6 ?wH6a7 ?wH6a8) ?k1 ?k2 ?k3 ?k4 ?k5 ?kK ?kd ?ku ?_; walk_at "my use"); (case wH6a1 => assumption); (case wH6a2 => assumption); (case wH6a3 => assumption); (case wH6a4 => assumption); (case wH6a5 => assumption); (case wH6a6 => assumption); (case wH6a7 => assumption); (case wH6a8 => assumption); intro r9 news9 h9 tk9 F' N' hp9; (try k_sweep); (try dsimp only))
  k_with "call ref" => ((with_reducible show wpAny _ _ (call (Value.ref 209) _) _ _ _); k_dflt (refine' Ctr.use (hadd _ _ _ _ _ _ _ _ _ _ ?wH6a2 _ _ _ _ _ _ ?wH6a4 ?wH6a5 ?wH6a6 ?wH6a7 ?wH6a8) ?k1 ?k2 ?k3 ?k4 ?k5 ?kK ?kd ?ku ?_; walk_at "my use"); (case wH6a2 => assumption); (case wH6a4 => assumption); (case wH6a5 => assumption); (case wH6a6 => assumption); (case wH6a7 => assumption); (case wH6a8 => assumption); intro r9 news9 h9 tk9 F' N' hp9; (try k_sweep); (try dsimp only))
  trivial
theorem hdeed (w : World) (tl : Ledger) (x dx l lt : Addr) (hs : Int) (tk : Tok) (vs : List Value) (n e : Nat) (row : List Item) (hrow : ∀ r ∈ row, r.Ok) (hsz : vs.length ≤ 64) (hall : DatAll tl vs (row.map lineDat)) (p d q g deed : Int) (td t5 t6 : Tok)
    (hp : 0 ≤ p ∧ p ≤ 4) (hd : 0 ≤ d ∧ d ≤ 3) (hq : 0 ≤ q ∧ q ≤ 3) (hg : 0 ≤ g ∧ g ≤ 1) (hdd : 0 ≤ deed ∧ deed ≤ 3) (hap : Apart x dx l tl) (hlt : (lt, tupOf [.str (nameOf p d g) t5, .str (textOf q) t6]) ∈ tl) :
    Ctr w 6 251 [.ref x, .int deed td, .ref lt] (tab x dx l hs tk e vs n tl) (fun _ news' => Deeded x dx l hs tk e tl (deedRow row deed ⟨p, d, q, g⟩) news') := by
  have hne := hap.ne
  have hoff := hap.off
  intro loose mean mg mb dp un gd cn cs a ccd cl outer A₀ base h₀ L m s Q E B F X N T hk hdp hun hret
  have hlen : vs.length = row.length := by simpa using hall.length
  refine wpAny_call ?_
  k_dflt (walk_at "my enter")
  rcases four hdd with rfl | rfl | rfl | rfl
  · k_steps
    exact retT hret (by assumption) (by assumption) (fun p hp => hp) (by rw [deed0]; exact deeded_add (i := ⟨p, d, q, g⟩) hall (by assumption))
  · k_steps
    exact retT hret (by assumption) (by assumption) (fun p hp => hp) (by rw [deed1]; exact deeded_add (i := ⟨p, d, q, g⟩) (datAll_keep hall) (by assumption))
  · k_steps
    exact retT hret (by assumption) (by assumption) (fun p hp => hp) (deeded_two (i := ⟨p, d, q, g⟩) hall (by assumption))
  · k_steps
    exact retT hret (by assumption) (by assumption) (fun p hp => hp) (by rw [deed3]; exact deeded_same (datAll_keep hall))
end
section
open PySem PySem.W PyProof.Rows PySem.Calls PySem.Flt
section
variable {prog : Program} {w : World} {A : Around} {E : Value → Shared → Prop} {s : Shared} {h₀ : Heap} {L : Addr} {m : Str → Option Value} {news : List (Addr × Obj)}
theorem sliceApplied_two {sl : Addr} {u : Tok} {Q : Int × Int × Nat → Shared → Prop} (hs : s.heap.IsSliceOf sl .none (.int 2 u) .none) (h : Q ((0 : Int), 1, 2) s) :
    wpAny (model prog w) A (Builtin.Slice.sliceApplied (.ref sl) (pure (4 : Int))) Q E s := by
  obtain ⟨os, hos, hcs, hds⟩ := id hs
  unfold Builtin.Slice.sliceApplied Builtin.Slice.sliceFields
  refine wpAny_bind (wpAny_bind (wpAny_field hos hds (x := .none) rfl (wpAny_bind (wpAny_field hos hds (x := .int 2 u) rfl (wpAny_bind (wpAny_field hos hds (x := .none) rfl (wpAny_pure ?_)))))))
  refine wpAny_bind (slicePart_none ?_)
  show wpAny _ _ (if ((1 : Int) == 0) = true then _ else _) _ _ s
  rw [if_neg (by decide)]
  refine wpAny_bind (slicePart_none (wpAny_bind (slicePart_int (wpAny_bind (wpAny_pure ?_)))))
  show wpAny _ _ (match Builtin.Slice.sliceAdjust none (some (2 : Int)) 1 4 with | (lo, hi) => pure (lo, (1 : Int), Builtin.Slice.slicePlaces lo hi 1)) _ _ s
  exact wpAny_pure h

theorem getItem_two {t sl : Addr} {a b c d : Value} {u : Tok} {Q : Value → Shared → Prop} (ht : IsTup s.heap t #[a, b, c, d]) (hs : s.heap.IsSliceOf sl .none (.int 2 u) .none)
    (h : Q (.ref s.heap.objs.size) { s with heap := s.heap.push { cls := .type "tuple", data := .seq #[a, b] } }) : wpAny (model prog w) A (getItem (.ref t) (.ref sl)) Q E s := by
  have hdrop : sizeOk (.seq #[a, b]) := by
    show (2 : Nat) ≤ sizeLine
    rw [sizeLine_eq]; omega
  obtain ⟨os, hos, hcs, hds⟩ := id hs
  have hTs : s.TypeIs (.ref sl) "slice" := ⟨os, hos, hcs⟩
  have hsz : (#[a, b, c, d] : Array Value).size ≤ sizeLine := by rw [sizeLine_eq]; show 4 ≤ _; omega
  unfold getItem
  refine wpAny_holding ?_
  first | refine wpAny_bind (wpAny_pure ?_) | skip
  refine wpAny_bind (wpAny_sequenceKey ht.typeIs (by decide) ?_)
  refine wpAny_bind (wpAny_callSpecial?_slot (name := Str.ofString "__getitem__") ht.typeIs slot_tuple_getitem
    (wpAny_call_entry slot_tuple_getitem ht.typeIs entry_tuple_getitem ?_ (args_tuple_getitem _ _)))
  show wpAny _ _ (Builtin.Tuple.tupleItemsOf (.ref t) >>= _) _ _ s
  refine wpAny_bind (tupleItemsOf_ ht ?_)
  refine wpAny_bind (wpAny_typeOf hTs ?_)
  rw [if_pos (by decide)]
  refine wpAny_bind (sliceApplied_two hs ?_)
  show wpAny _ _ (if ((0 : Int) == 0 && (1 : Int) == 1 && 2 == 4) = true then _ else _) _ _ s
  rw [if_neg (by decide)]
  first
    | exact wpAny_bind (m := Builtin.Tuple.tupleExact _) (wpAny_newObj_type (wpAny_pure ⟨_, rfl, wpAny_pure h⟩) hdrop)
    | exact wpAny_bind (m := Builtin.Tuple.tupleExact _) (wpAny_newObj_type (wpAny_bind (wpAny_pure (wpAny_pure ⟨_, rfl, wpAny_pure h⟩))) hdrop)
    | exact wpAny_bind (wpAny_bind (m := Builtin.Tuple.tupleExact _) (wpAny_newObj_type (wpAny_pure (wpAny_pure ⟨_, rfl, wpAny_pure h⟩)) hdrop))
    | exact wpAny_bind (wpAny_bind (m := Builtin.Tuple.tupleExact _) (wpAny_newObj_type (wpAny_pure ⟨_, rfl, wpAny_pure h⟩) hdrop))

theorem slice_two {value slice : Expr} {t : Addr} {a b c d : Value} {u : Tok} {n : Nat} {Q : Value → Shared → Prop}
    (F : Fr h₀ L s.heap m) (N : News h₀ L s.heap news) (ht : (t, { cls := .type "tuple", data := .seq #[a, b, c, d] n }) ∈ news)
    (h : ∀ D h', Fr h₀ L h' m → News h₀ L h' ((D, { cls := .type "tuple", data := .seq #[a, b] }) :: news) → (∀ p ∈ news, p.1 < D) → Q (.ref D) { s with heap := h' })
    (hs : subscripted slice false (.ref t) (.ref s.heap.objs.size) = operate [.ref s.heap.objs.size, .ref t] (getItem (.ref t) (.ref s.heap.objs.size)) := by with_unfolding_all rfl)
    (hg : ∀ r, letTemporaryGo value (.ref t) r = pure () := by intro _; with_unfolding_all rfl) :
    wpAny (model prog w) A (subscriptTail value slice (.ref t) (.ref s.heap.objs.size)) Q E { s with heap := s.heap.push { cls := .type "slice", data := .fields #[.none, .int 2 u, .none] } } := by
  have ht' : IsTup (s.heap.push { cls := .type "slice", data := .fields #[.none, .int 2 u, .none] }) t #[a, b, c, d] := (News.isTup N ht).keeps fun _ _ e => Heap.get?_push_of_some _ e
  refine subscriptTail_ops (s := { s with heap := s.heap.push { cls := .type "slice", data := .fields #[.none, .int 2 u, .none] } }) ht'.typeIs slot_tuple_getitem.lookup
    (getItem_two ht' (Heap.IsSliceOf.new ..) ?_) hs hg
  have N1 := News.push (F.push { cls := .type "slice", data := .fields #[.none, .int 2 u, .none] }) (N.grown fun _ _ e => Heap.get?_push_of_some _ e) { cls := .type "tuple", data := .seq #[a, b] }
  rw [Heap.size_push] at N1
  show Q (.ref (s.heap.push _).objs.size) _
  rw [Heap.size_push]
  exact h _ _ ((F.push _).push _) N1 fun p hp => Nat.lt_succ_of_lt (Heap.lt_size (N p hp).1)
end
end
section
open PySem PySem.W PyProof.Rows PySem.Calls PySem.Flt PySem.Spec
section
variable {prog : Program} {w : World} {A : Around} {E : Value → Shared → Prop} {s : Shared} {h₀ : Heap} {L : Addr} {m : Str → Option Value} {news : List (Addr × Obj)}
theorem reads_two {a : Addr} {p d : Int} {t1 t2 : Tok} {n : Nat} (N : News h₀ L s.heap news) (ha : (a, { cls := .type "tuple", data := .seq #[.int p t1, .int d t2] n }) ∈ news) :
    Reads s.heap (.ref a) (.tuple [.int p, .int d]) [] :=
  Reads.tuple (as := [] ++ ([] ++ [])) (N _ ha).1 rfl rfl (.cons (.int _ _) (.cons (.int _ _) .nil))
theorem ne_two {a b : Addr} {p d p' d' : Int} {t1 t2 t3 t4 : Tok} {n n' : Nat} {Q : Value → Shared → Prop} (N : News h₀ L s.heap news)
    (ha : (a, { cls := .type "tuple", data := .seq #[.int p' t1, .int d' t2] n }) ∈ news) (hb : (b, { cls := .type "tuple", data := .seq #[.int p t3, .int d t4] n' }) ∈ news) (hu : A.units + 64 < cLine)
    (h : Q (.bool (decide (¬ (p' = p ∧ d' = d)))) s) : wpAny (model prog w) A (compareOp .NotEq (.ref a) (.ref b)) Q E s := by
  refine ne_dataH_same (reads_two N ha) (reads_two N hb) ?_ ?_ hu ?_ ?_
  · simp [SeqAt.shaped, PyData.canLay0, PyData.canLayAll0, PyData.depth, PyData.depthAll]
  · simp [SeqAt.shaped, PyData.canLay0, PyData.canLayAll0, PyData.depth, PyData.depthAll]
  · simp [SeqAt.noMix, SeqAt.noMixAll]
  · have e : (!Spec.same (.tuple [.int p', .int d']) (.tuple [.int p, .int d])) = decide (¬ (p' = p ∧ d' = d)) := by
      simp only [Spec.same, Spec.sameAll]
      by_cases h1 : p' = p <;> by_cases h2 : d' = d <;> simp [h1, h2]
    rw [e]; exact h
end
end
section
open PySem PySem.W PyProof.Rows PySem.Calls PySem.Flt PyProof.Rows.LCg PyProof.Rows.LCt
theorem words_H7_1 : True := by
  k_with_none
  k_with "my use" => ((case k1 => k_asm); (case k2 => k_asm); (case k3 => k_asm); (case k4 => k_asm); (case k5 => k_asm); (case kK => first | exact rfl | assumption); (case kd => ktr_room); (case ku => ktr_units))
  k_with "getMethod ref" => (k_here; (with_reducible show wpAny _ _ (getMethod (Value.ref _) (Str.ofString "search") _) _ _ _); k_dflt (refine' pattern_method ?k1 ?k2 ?k3 ?k4 ?_; (case k1 => k_in); (case k2 => k_is); (case k3 => rfl); (case k4 => rfl)))
  k_with "call builtin:re.Pattern.search" => (k_here; k_dflt (refine' search_none ?k1 ?k2 ?k3 ?k4 ?_; (case k1 => k_in); (case k2 => k_is); (case k3 => rfl); (case k4 => first | with_reducible exact names_clean _ _ (by assumption) (by assumption) (by assumption) | with_reducible exact texts_clean _ _ (by assumption) | with_reducible exact names_clean _ _ (by assumption) (by assumption) (by decide))))
  k_with "call builtin:str.lower" => ((with_reducible show wpAny _ _ (call (Value.builtin "str.lower") [Value.str (nameOf _ _ _) _]) _ _ _); (refine lower_rule (by assumption) (by assumption) (by assumption) ?_))
  k_with "subscriptTail Name Constant ref int" => (k_here; k_dflt (refine' item_tupleT (News.isTup ?wH7N ?wH7m) ?wH7a ?wH7b ?wH7c ?wH7d ?_; (case wH7N => k_asm); (case wH7m => k_mem); (case wH7a => decide); (case wH7b => decide); (case wH7c => rfl); (case wH7d => rfl)))
  k_with "k_mem" => assumption
  k_with "setItem ref" => (k_here; (with_reducible show wpAny _ _ (setItem (Value.ref _) (Value.ref _) _) _ _ _); k_dflt (refine' setAll_K ?k1 ?k2 ?k3 ?k4 ?k5 ?k6 ?k7 ?_; (case k1 => k_asm); (case k2 => k_asm); (case k3 => k_mem); (case k4 => k_upd); (case k5 => k_ne); (case k6 => walk_at "my size"); (case k7 => walk_at "my size")); intro h' F' N'; (try k_sweep))
  k_with "k_all" => (refine tail_succ ?_; tbn_find)
  k_with "k_room" => ktr_room
  k_with "k_units" => ktr_units
  k_with "my enterC" => (refine' code_defC ?k1 ?k2 ?k3 ?k4 ?k5 ?kA ?kF ?kK ?k6 ?k7 ?k8 ?k9 ?kB ?kD ?_ ?wH7c2 ?wH7c3 ?wH7c4; (case kA => exact rfl); (case kF => exact rfl); (case kK => assumption); (case k1 => k_asm); (case k2 => k_asm); (case k3 => k_asm); (case k4 => k_asm); (case k5 => k_asm); (case k6 => k_is); (case k7 => k_is); (case k8 => ktr_room); (case k9 => exact BindsTo.of_eq rfl); (case kB => exact rfl); (case kD => decide +kernel); (case wH7c2 => exact rfl); (case wH7c3 => exact rfl); (case wH7c4 => exact rfl); k_whole; intro g' L' h' tk' cells' FG' F' N' Y' B' X' T' l1; (try k_lt l1); k_cells Y'; (try simp only [List.cons_append, List.nil_append] at N'); (try dsimp only); (try k_lift B'); (try k_fold))
  k_with "eval ListComp" => (k_here; lct_look; k_dflt (refine LCt.ListComp_T (F₀ := by k_asm) (by with_unfolding_all rfl) (by decide) (by rfl) (by decide) (by rfl) ?_); k_dflt lct_toSrc)
  k_with "CompSrcT" => (k_here; k_dflt (refine' LCt.CompSrcT.ledger (by rfl) ?k1 ?k2 ?k3 ?k4 ?_; (case k1 => k_asm); (case k2 => k_asm); (case k3 => k_mem); (case k4 => first | assumption | size_fits)); intro g')
  k_with "my size" => ((try rw [sizeLine_eq]); first | (rw [List.size_toArray]; omega) | (rw [List.size_toArray]; exact Nat.le_trans keepV_len (by omega)))
  k_with "my sub" => (intro p9 hp9; first | exact hp9 | exact .tail _ hp9 | exact .tail _ (.tail _ hp9) | exact .tail _ (.tail _ (.tail _ hp9)) | exact .tail _ (.tail _ (.tail _ (.tail _ hp9))) | exact .tail _ (.tail _ (.tail _ (.tail _ (.tail _ hp9)))))
  k_with "exec For Tuple Attribute" => (k_here; (rename Fr _ _ _ _ => lF'); (with_unfolding_all refine' For_turns lF' ?_; k_whole))
  k_with "my enter" => (refine' code_def ?k1 ?k2 ?k3 ?k4 ?k5 ?kA ?kF ?kK ?k6 ?k7 ?k8 ?k9 ?kB ?_ ?wH7c2 ?wH7c3 ?wH7c4 ?wH7c5; (case kA => exact rfl); (case kF => exact rfl); (case kK => assumption); (case k1 => k_asm); (case k2 => k_asm); (case k3 => k_asm); (case k4 => k_asm); (case k5 => k_asm); (case k6 => k_is); (case k7 => k_is); (case k8 => ktr_room); (case k9 => first | exact BindsTo.of_eq rfl | exact binds_K (by k_in) rfl (by k_is) rfl rfl rfl); (case wH7c5 => decide); (case kB => exact locs rfl); (case wH7c2 => exact rfl); (case wH7c3 => exact rfl); (case wH7c4 => exact rfl); k_whole; intro g' L' h' FG' F' N' B' X' T'; (try dsimp only); (try k_lift B'); (try k_fold))
  k_with "delItem ref str" => (k_here; (with_reducible show wpAny _ _ (delItem (Value.ref _) _) _ _ _); k_dflt (refine' delItem_own ?wH7F ?wH7X ?wH7I ?wH7hQ ?wH7hS ?wH7hF ?_; (case wH7F => k_asm); (case wH7X => k_asm); (case wH7I => k_inst); (case wH7hS => k_is); (case wH7hF => k_is); (case wH7hQ => k_is); k_whole))
  k_with "call builtin:list.append" => (k_here; (with_reducible show wpAny _ _ (call (Value.builtin _) [Value.ref _, _]) _ _ _); k_dflt (refine' append_K ?k1 ?k2 ?k3 ?_ ?wH7z; (case k1 => k_asm); (case k2 => k_asm); (case k3 => k_upd); (case wH7z => walk_at "my size"); k_whole); intro h' F' N'; (try k_sweep))
  trivial
noncomputable def itemDat (i : Item) : Dat := .tuple [.int i.p, .int i.d, .int i.q, .int i.g]
/-- the row after an own deed -/
noncomputable def Owned (old : Addr × Obj) (tl : Ledger) (row : List Item) (r : Value) (news' : Ledger) : Prop :=
  ∃ add D vs' n', r = .ref D ∧ news' = add ++ tl ∧ ((D, W.listOf vs'.toArray n') ∈ add ∨ (D, W.listOf vs'.toArray n') = old) ∧ DatAll news' vs' (row.map itemDat) ∧ add.length ≤ 1 ∧ (∀ q ∈ add, ∀ p ∈ tl, @Ne Nat p.1 q.1)
theorem item_at {tl : Ledger} {vs : List Value} {row : List Item} {i : Nat} {v : Value} (hall : DatAll tl vs (row.map itemDat)) (hv : vs.toArray[i]? = some v) :
    ∃ r a t1 t2 t3 t4 n, row[i]? = some r ∧ v = .ref a ∧ (a, tupN [.int r.p t1, .int r.d t2, .int r.q t3, .int r.g t4] n) ∈ tl := by
  have hv' : vs[i]? = some v := by simpa using hv
  have hi : i < vs.length := (List.getElem?_eq_some_iff.mp hv').1
  have hl : vs.length = row.length := by simpa using hall.length
  obtain ⟨v', e, hd⟩ := hall.get (k := i) (by simpa [← hl] using hi)
  rw [hv'] at e
  cases e
  have hr : row[i]? = some (row[i]'(by omega)) := List.getElem?_eq_getElem _
  rw [List.getElem_map] at hd
  unfold itemDat at hd
  cases hd with
  | tuple hm hall' =>
    cases hall' with
    | cons h1 r1 =>
      cases r1 with
      | cons h2 r2 =>
        cases r2 with
        | cons h3 r3 =>
          cases r3 with
          | cons h4 r4 =>
            cases r4
            cases h1
            cases h2
            cases h3
            cases h4
            exact ⟨_, _, _, _, _, _, _, hr, rfl, hm⟩

theorem datAll_keepI {news : Ledger} {f : Item → Bool} : ∀ {vs : List Value} {row : List Item}, DatAll news vs (row.map itemDat) → DatAll news (keepV vs row f) ((row.filter f).map itemDat)
  | [], [], _ => .nil
  | [], _ :: _, h => by cases h
  | _ :: _, [], h => by cases h
  | v :: vs, r :: row, h => by
    cases h with
    | cons hd tl =>
      have ih := datAll_keepI (f := f) tl
      simp only [keepV, List.filter_cons]
      split
      · exact .cons hd ih
      · exact ih
theorem keepV_length {f : Item → Bool} : ∀ {vs : List Value} {row : List Item}, vs.length = row.length → (keepV vs row f).length = (row.filter f).length
  | [], [], _ => rfl
  | [], _ :: _, h => by cases h
  | _ :: _, [], h => by cases h
  | v :: vs, r :: row, h => by
    have ih := keepV_length (f := f) (vs := vs) (row := row) (by simpa using h)
    simp only [keepV, List.filter_cons]
    split
    · simp [ih]
    · exact ih
theorem off1_to {D : Addr} : ∀ {l : Ledger}, Off1 D l → ∀ p ∈ l, @Ne Nat p.1 D
  | [], _, _, h => nomatch h
  | q :: r, x, p, h => by
    rcases List.mem_cons.mp h with rfl | h
    · exact x.1
    · exact off1_to x.2 p h
theorem allLt_ne {D : Addr} {l : Ledger} (h : AllLt D l) : ∀ p ∈ l, @Ne Nat p.1 D := fun p hp => Nat.ne_of_lt (allLt_to h p hp)
theorem owned_new {old : Addr × Obj} {tl : Ledger} {row : List Item} {D : Addr} {xs : List Value} {n : Nat} (hd : DatAll tl xs (row.map itemDat)) (off : ∀ p ∈ tl, @Ne Nat p.1 D) : Owned old tl row (.ref D) ((D, W.listOf xs.toArray n) :: tl) :=
  ⟨[(D, W.listOf xs.toArray n)], D, xs, n, rfl, rfl, .inl (.head _), hd.mono fun p hp => .tail _ hp, Nat.le_refl _, fun q hq p hp => by
    rw [List.mem_singleton] at hq
    subst hq
    exact off p hp⟩
theorem item_in {tl : Ledger} {it : Addr} {p d q g : Int} {t1 t2 t3 t4 : Tok} {m : Nat} (h : (it, tupN [.int p t1, .int d t2, .int q t3, .int g t4] m) ∈ tl) : DatIn tl (.ref it) (itemDat ⟨p, d, q, g⟩) :=
  .tuple h (.cons (.int _ _) (.cons (.int _ _) (.cons (.int _ _) (.cons (.int _ _) .nil))))
theorem owned_more {old : Addr × Obj} {tl : Ledger} {row : List Item} {D it : Addr} {xs : List Value} {n : Nat} {p d q g : Int} {t1 t2 t3 t4 : Tok} {m : Nat} (hd : DatAll tl xs (row.map itemDat)) (h : (it, tupN [.int p t1, .int d t2, .int q t3, .int g t4] m) ∈ tl) (off : ∀ p ∈ tl, @Ne Nat p.1 D) :
    Owned old tl (row ++ [⟨p, d, q, g⟩]) (.ref D) ((D, W.listOf (xs ++ [Value.ref it]).toArray n) :: tl) := by
  refine owned_new ?_ off
  rw [List.map_append]
  exact hd.append (.one (item_in h))
theorem deed2lt {row : List Item} {i : Item} (h : (row.filter (other i.p i.d)).length < row.length) : deedRow row 2 i = row := by
  simp only [deedRow]
  rw [if_neg (by decide), if_neg (by decide), if_pos ⟨trivial, h⟩]
theorem deed2ge {row : List Item} {i : Item} (h : ¬ (row.filter (other i.p i.d)).length < row.length) : deedRow row 2 i = row ++ [i] := by
  simp only [deedRow]
  rw [if_neg (by decide), if_neg (by decide), if_neg fun q => h q.2]
theorem head4 {α : Type _} {a b c d : α} {tl : List α} : ∀ p ∈ a :: tl, p ∈ a :: b :: c :: d :: tl := fun p hp => by
  rcases List.mem_cons.mp hp with rfl | h
  · exact .head _
  · exact .tail _ (.tail _ (.tail _ (.tail _ h)))
theorem head2 {α : Type _} {a b : α} {tl : List α} : ∀ p ∈ a :: tl, p ∈ a :: b :: tl := fun p hp => by
  rcases List.mem_cons.mp hp with rfl | h
  · exact .head _
  · exact .tail _ (.tail _ h)
theorem words_H7_2 : True := by
  k_with "subscriptTail Name Slice ref ref" => (k_here; k_dflt (refine' slice_two ?wH7F ?wH7N ?wH7t ?_ ?wH7h1 ?wH7h2; (case wH7F => k_asm); (case wH7N => k_asm); (case wH7t => k_mem); (case wH7h1 => with_unfolding_all rfl); (case wH7h2 => (intro _; with_unfolding_all rfl))); intro D' h' F' N' l1; (try k_lt l1); (try k_sweep))
  k_with "compareOp NotEq ref ref" => (k_here; k_dflt (refine' ne_two ?wH7N ?wH7a ?wH7b ?wH7u ?_; (case wH7N => k_asm); (case wH7a => k_mem); (case wH7b => k_mem); (case wH7u => walk_at "my units")))
  k_with "my units" => first | k_units | (simp only [units_ktr, units_deeper]; omega) | fail "units"
  k_with "binaryOp Add ref ref" => (k_here; k_dflt (refine' kmk_add_lit ?wH7F ?wH7N ?wH7a ?wH7b rfl ?_ ?wH7z; (case wH7F => k_asm); (case wH7N => k_asm); (case wH7a => exact News.isList (by k_asm) (by k_mem)); (case wH7b => exact News.isList (by k_asm) (by k_mem)); (case wH7z => walk_at "my sum")); intro D' h' F' N' l1; (try k_lt l1); (try k_sweep))
  k_with "my sum" => (rw [sizeLine_eq]; exact Nat.le_trans (Nat.add_le_add (b := 64) (by assumption) (Nat.le_refl 1)) (by decide))
  k_with "my len" => ((try rw [List.size_toArray]); omega)
  k_with "call builtin:len" => (k_here; (with_reducible show wpAny _ _ (call (Value.builtin "len") [Value.ref _]) _ _ _); k_dflt (refine' len_list ?wH7a ?wH7b ?_; (case wH7a => exact News.isList (by k_asm) (by k_mem)); (case wH7b => walk_at "my len")))
  k_with "my last" => first | assumption | exact And.right (by assumption) | exact And.right (And.right (by assumption)) | exact And.right (And.right (And.right (by assumption))) | exact And.right (And.right (And.right (And.right (by assumption))))
  trivial
theorem hown (w : World) (tl : Ledger) (lr it : Addr) (vs : List Value) (n m : Nat) (row : List Item) (hsz : vs.length ≤ 64) (hall : DatAll tl vs (row.map itemDat)) (p d q g deed : Int) (td t1 t2 t3 t4 : Tok)
    (hdd : 0 ≤ deed ∧ deed ≤ 3) (hlr : (lr, W.listOf vs.toArray n) ∈ tl) (hit : (it, tupN [.int p t1, .int d t2, .int q t3, .int g t4] m) ∈ tl) :
    Ctr w 20 256 [.ref lr, .int deed td, .ref it] tl (fun r news' => Owned (lr, W.listOf vs.toArray n) tl (deedRow row deed ⟨p, d, q, g⟩) r news') := by
  intro loose mean mg mb dp un gd cn cs a ccd cl outer A₀ base h₀ L m s Q E B F X N T hk hdp hun hret
  have hlen : vs.length = row.length := by simpa using hall.length
  have hsz' : vs.toArray.size ≤ sizeLine := by rw [List.size_toArray, sizeLine_eq]; omega
  have hkl : (keepV vs row (other p d)).length ≤ 64 := Nat.le_trans keepV_len hsz
  refine wpAny_call ?_
  k_dflt (walk_at "my enterC")
  k_steps
  refine compT_fix (fun i ys => ys = keepV (vs.take i) (row.take i) (other p d)) ?step rfl ?fin
  · rintro i ys v I oI C oC D m₂ h tk E' hi rfl hP hC hx F' N' off ne
    obtain ⟨r, ra, u1, u2, u3, u4, rn, hr, rfl, hm⟩ := item_at hall hP
    k_steps
    all_goals refine LCg.CompEnd.intro (by assumption) (by assumption) _ (fun p h => .tail _ (.tail _ h)) off (Or.inr ⟨_, by k_mem, rfl, _, rfl⟩) ⟨rfl, ?_⟩
    · rw [keepV_take hlen (by simpa using hP) hr, show other p d r = true from decide_eq_true (by assumption)]; rfl
    · rw [keepV_take hlen (by simpa using hP) hr, show other p d r = false from decide_eq_false (by assumption)]; simp
  · rintro ys rfl
    have e1 : keepV (vs.take vs.toArray.size) (row.take vs.toArray.size) (other p d) = keepV vs row (other p d) := by
      rw [List.size_toArray, List.take_length, hlen, List.take_length]
    rw [e1]
    have hkv : (keepV vs row (other p d)).toArray.size = (row.filter (other p d)).length := by rw [List.size_toArray]; exact keepV_length hlen
    have hvv : vs.toArray.size = row.length := by rw [List.size_toArray]; exact hlen
    k_steps
    · (rename deed = 3 => e3); subst e3
      refine retT hret (by assumption) (by assumption) head2 ?_
      rw [deed3]
      exact owned_new (datAll_keepI hall) (off1_to (And.right (by assumption)))
    · (rename deed = 1 => e3); subst e3
      refine retT hret (by assumption) (by assumption) head4 ?_
      rw [deed1]
      exact owned_more (datAll_keepI hall) hit (allLt_ne (by walk_at "my last"))
    · (rename deed = 2 => e3); subst e3
      refine retT hret (by assumption) (by assumption) (fun p hp => .tail _ (.tail _ hp)) ?_
      rw [deed2lt (by show (row.filter (other p d)).length < row.length; omega)]
      exact ⟨[], lr, vs, n, rfl, rfl, .inr rfl, hall, Nat.zero_le _, fun q hq => nomatch hq⟩
    · (rename deed = 2 => e3); subst e3
      refine retT hret (by assumption) (by assumption) head4 ?_
      rw [deed2ge (by show ¬ (row.filter (other p d)).length < row.length; omega)]
      exact owned_more hall hit (allLt_ne (by walk_at "my last"))
    · obtain rfl : deed = 0 := by omega
      refine retT hret (by assumption) (by assumption) head4 ?_
      rw [deed0]
      exact owned_more hall hit (allLt_ne (by walk_at "my last"))
end
section
open PySem PySem.W PyProof.Rows PySem.Calls PySem.Flt
theorem Ctr.conv {w : World} {k : Nat} {f : Addr} {vs : List Value} {news news2 : Ledger} {Post Post2 : Value → Ledger → Prop} (C : Ctr w k f vs news Post) (sub : ∀ p ∈ news, p ∈ news2)
    (post : ∀ r l, Post r l → ∃ l2, (∀ p ∈ l2, p ∈ l) ∧ Post2 r l2) : Ctr w k f vs news2 Post2 :=
  fun loose mean mg mb dp un gd cn cs a ccd cl outer A₀ base h₀ L m s Q E B F X N T hk hd hu ret =>
    C loose mean mg mb dp un gd cn cs a ccd cl outer A₀ base h₀ L m s Q E B F X (news_in N sub) T hk hd hu fun r l h tk F' N' P => by
      obtain ⟨l2, s2, P2⟩ := post r l P
      exact ret r l2 h tk F' (news_in N' s2) P2
structure Two where
  x1 : Addr
  d1 : Addr
  l1 : Addr
  hs1 : Int
  tk1 : Tok
  e1 : Nat
  x2 : Addr
  d2 : Addr
  l2 : Addr
  hs2 : Int
  tk2 : Tok
  e2 : Nat
noncomputable def Two.swap (t : Two) : Two := ⟨t.x2, t.d2, t.l2, t.hs2, t.tk2, t.e2, t.x1, t.d1, t.l1, t.hs1, t.tk1, t.e1⟩
/-- two tables, one cell of the loop's, and the rest -/
noncomputable def NFx (t : Two) (io : Addr × Obj) (vs1 : List Value) (n1 : Nat) (vs2 : List Value) (n2 : Nat) (T : Ledger) : Ledger :=
  tab t.x1 t.d1 t.l1 t.hs1 t.tk1 t.e1 vs1 n1 (tab t.x2 t.d2 t.l2 t.hs2 t.tk2 t.e2 vs2 n2 (io :: T))
structure Two.Off (t : Two) (io : Addr × Obj) (T : Ledger) : Prop where
  a1 : @Ne Nat t.x1 t.d1 ∧ @Ne Nat t.x1 t.l1 ∧ @Ne Nat t.d1 t.l1
  a2 : @Ne Nat t.x2 t.d2 ∧ @Ne Nat t.x2 t.l2 ∧ @Ne Nat t.d2 t.l2
  a3 : @Ne Nat t.x1 t.x2 ∧ @Ne Nat t.x1 t.d2 ∧ @Ne Nat t.x1 t.l2 ∧ @Ne Nat t.d1 t.x2 ∧ @Ne Nat t.d1 t.d2 ∧ @Ne Nat t.d1 t.l2 ∧ @Ne Nat t.l1 t.x2 ∧ @Ne Nat t.l1 t.d2 ∧ @Ne Nat t.l1 t.l2
  cls : io.2.cls = .type "list_iterator"
  o1 : @Ne Nat io.1 t.x1 ∧ @Ne Nat io.1 t.d1 ∧ @Ne Nat io.1 t.l1 ∧ @Ne Nat io.1 t.x2 ∧ @Ne Nat io.1 t.d2 ∧ @Ne Nat io.1 t.l2
  off : ∀ p ∈ T, @Ne Nat p.1 t.x1 ∧ @Ne Nat p.1 t.d1 ∧ @Ne Nat p.1 t.l1 ∧ @Ne Nat p.1 t.x2 ∧ @Ne Nat p.1 t.d2 ∧ @Ne Nat p.1 t.l2 ∧ @Ne Nat p.1 io.1
theorem Two.Off.swap {t : Two} {io : Addr × Obj} {T : Ledger} (h : t.Off io T) : t.swap.Off io T := by
  obtain ⟨a1, a2, a3, c, o1, off⟩ := h
  obtain ⟨b1, b2, b3, b4, b5, b6, b7, b8, b9⟩ := a3
  obtain ⟨c1, c2, c3, c4, c5, c6⟩ := o1
  refine ⟨a2, a1, ⟨b1.symm, b4.symm, b7.symm, b2.symm, b5.symm, b8.symm, b3.symm, b6.symm, b9.symm⟩, c, ⟨c4, c5, c6, c1, c2, c3⟩, fun p hp => ?_⟩
  obtain ⟨d1, d2, d3, d4, d5, d6, d7⟩ := off p hp
  exact ⟨d4, d5, d6, d1, d2, d3, d7⟩
theorem nf_iff {t : Two} {io : Addr × Obj} {vs1 : List Value} {n1 : Nat} {vs2 : List Value} {n2 : Nat} {T : Ledger} {p : Addr × Obj} :
    p ∈ NFx t io vs1 n1 vs2 n2 T ↔ p ∈ tab t.x1 t.d1 t.l1 t.hs1 t.tk1 t.e1 vs1 n1 [] ∨ p ∈ tab t.x2 t.d2 t.l2 t.hs2 t.tk2 t.e2 vs2 n2 [] ∨ p = io ∨ p ∈ T := by
  simp only [NFx, tab, List.mem_cons, List.not_mem_nil, or_false]
  constructor
  · rintro (h | h | h | h | h | h | h | h)
    · exact .inl (.inl h)
    · exact .inl (.inr (.inl h))
    · exact .inl (.inr (.inr h))
    · exact .inr (.inl (.inl h))
    · exact .inr (.inl (.inr (.inl h)))
    · exact .inr (.inl (.inr (.inr h)))
    · exact .inr (.inr (.inl h))
    · exact .inr (.inr (.inr h))
  · rintro ((h | h | h) | (h | h | h) | h | h)
    · exact .inl h
    · exact .inr (.inl h)
    · exact .inr (.inr (.inl h))
    · exact .inr (.inr (.inr (.inl h)))
    · exact .inr (.inr (.inr (.inr (.inl h))))
    · exact .inr (.inr (.inr (.inr (.inr (.inl h)))))
    · exact .inr (.inr (.inr (.inr (.inr (.inr (.inl h))))))
    · exact .inr (.inr (.inr (.inr (.inr (.inr (.inr h))))))
theorem nf_mem {t : Two} {io : Addr × Obj} {vs1 : List Value} {n1 : Nat} {vs2 : List Value} {n2 : Nat} {T : Ledger} {p : Addr × Obj} (h : p ∈ T) : p ∈ NFx t io vs1 n1 vs2 n2 T := nf_iff.mpr (.inr (.inr (.inr h)))
theorem nf_swap {t : Two} {io : Addr × Obj} {vs1 : List Value} {n1 : Nat} {vs2 : List Value} {n2 : Nat} {T : Ledger} : ∀ p ∈ NFx t.swap io vs2 n2 vs1 n1 T, p ∈ NFx t io vs1 n1 vs2 n2 T := fun p hp => by
  rcases nf_iff.mp hp with h | h | h | h
  · exact nf_iff.mpr (.inr (.inl h))
  · exact nf_iff.mpr (.inl h)
  · exact nf_iff.mpr (.inr (.inr (.inl h)))
  · exact nf_iff.mpr (.inr (.inr (.inr h)))
theorem nf_more {t : Two} {io : Addr × Obj} {vs1 : List Value} {n1 : Nat} {vs2 : List Value} {n2 : Nat} {a : Addr × Obj} {T : Ledger} : ∀ p ∈ NFx t io vs1 n1 vs2 n2 (a :: T), p = a ∨ p ∈ NFx t io vs1 n1 vs2 n2 T := fun p hp => by
  rcases nf_iff.mp hp with h | h | h | h
  · exact .inr (nf_iff.mpr (.inl h))
  · exact .inr (nf_iff.mpr (.inr (.inl h)))
  · exact .inr (nf_iff.mpr (.inr (.inr (.inl h))))
  · rcases List.mem_cons.mp h with h | h
    · exact .inl h
    · exact .inr (nf_mem h)
theorem datFlat {news news' : Ledger} : ∀ {vs : List Value} {ds : List Dat}, (∀ d ∈ ds, (∃ k, d = .int k) ∨ ∃ x, d = .str x) → DatAll news vs ds → DatAll news' vs ds
  | _, _, _, .nil => .nil
  | _, _, hds, .cons h tl => by
    refine .cons ?_ (datFlat (fun d hd => hds d (.tail _ hd)) tl)
    rcases hds _ (.head _) with ⟨k, rfl⟩ | ⟨x, rfl⟩
    · cases h; exact .int _ _
    · cases h; exact .str _ _
/-- only the tuples of a ledger count for rows of tuples -/
theorem datIn_tup {news news' : Ledger} (hs : ∀ p ∈ news, p.2.cls = .type "tuple" → p ∈ news') {f : Item → Dat} (hf : ∀ i, ∃ ds, f i = .tuple ds ∧ ∀ d ∈ ds, (∃ k, d = .int k) ∨ ∃ x, d = .str x) : ∀ {vs : List Value} {row : List Item}, DatAll news vs (row.map f) → DatAll news' vs (row.map f)
  | _, [], .nil => .nil
  | _, r :: row, .cons hd tl => by
    refine .cons ?_ (datIn_tup hs hf tl)
    obtain ⟨ds, e, hds⟩ := hf r
    rw [e] at hd ⊢
    cases hd with
    | tuple hm hall =>
      refine .tuple (hs _ hm rfl) ?_
      exact datFlat hds hall
theorem line_flat (i : Item) : ∃ ds, lineDat i = .tuple ds ∧ ∀ d ∈ ds, (∃ k, d = .int k) ∨ ∃ x, d = .str x := by
  refine ⟨_, rfl, fun d hd => ?_⟩
  simp only [List.mem_cons, List.not_mem_nil, or_false] at hd
  rcases hd with rfl | rfl
  · exact .inr ⟨_, rfl⟩
  · exact .inr ⟨_, rfl⟩
theorem item_flat (i : Item) : ∃ ds, itemDat i = .tuple ds ∧ ∀ d ∈ ds, (∃ k, d = .int k) ∨ ∃ x, d = .str x := by
  refine ⟨_, rfl, fun d hd => ?_⟩
  simp only [List.mem_cons, List.not_mem_nil, or_false] at hd
  rcases hd with rfl | rfl | rfl | rfl
  · exact .inl ⟨_, rfl⟩
  · exact .inl ⟨_, rfl⟩
  · exact .inl ⟨_, rfl⟩
  · exact .inl ⟨_, rfl⟩
theorem tab_tup {x dx l : Addr} {hs : Int} {tk : Tok} {e n : Nat} {vs : List Value} {p : Addr × Obj} (h : p ∈ tab x dx l hs tk e vs n []) : p.2.cls ≠ .type "tuple" := by
  simp only [tab, List.mem_cons, List.not_mem_nil, or_false] at h
  rcases h with rfl | rfl | rfl
  · intro h; cases h
  · intro h; exact absurd h (by simp [dictOf])
  · intro h; exact absurd h (by simp [W.listOf])

/-- what came new stands off what was there -/
noncomputable def FreshTo (T T' : Ledger) : Prop := ∀ q ∈ T', q ∈ T ∨ ∀ p ∈ T, @Ne Nat p.1 q.1
theorem FreshTo.refl {T : Ledger} : FreshTo T T := fun _ h => .inl h
theorem FreshTo.trans {T T' T'' : Ledger} (h : FreshTo T T') (k : FreshTo T' T'') (s : ∀ p ∈ T, p ∈ T') : FreshTo T T'' := fun q hq => by
  rcases k q hq with h' | h'
  · exact h q h'
  · exact .inr fun p hp => h' p (s p hp)
theorem FreshTo.cons {T : Ledger} {a : Addr × Obj} (h : ∀ p ∈ T, @Ne Nat p.1 a.1) : FreshTo T (a :: T) := fun q hq => by
  rcases List.mem_cons.mp hq with rfl | hq
  · exact .inr h
  · exact .inl hq
theorem deed_seen (w : World) (t : Two) (io : Addr × Obj) (T : Ledger) (vs1 : List Value) (n1 : Nat) (vs2 : List Value) (n2 : Nat) (lt : Addr) (row : List Item) (hrow : ∀ r ∈ row, r.Ok) (hsz : vs1.length ≤ 64) (hall : DatAll T vs1 (row.map lineDat))
    (i : Item) (deed : Int) (td t5 t6 : Tok) (hi : i.Ok) (hdd : 0 ≤ deed ∧ deed ≤ 3) (hoff : t.Off io T) (hlt : (lt, tupOf [.str i.name t5, .str i.text t6]) ∈ T) :
    Ctr w 6 251 [.ref t.x1, .int deed td, .ref lt] (NFx t io vs1 n1 vs2 n2 T)
      (fun _ news' => ∃ vs1' n1' T', news' = NFx t io vs1' n1' vs2 n2 T' ∧ (∀ p ∈ T, p ∈ T') ∧ FreshTo T T' ∧ t.Off io T' ∧ DatAll T' vs1' ((deedRow row deed i).map lineDat)) := by
  obtain ⟨a1, a2, a3, c, o1, off⟩ := hoff
  refine Ctr.conv (hdeed w (tab t.x2 t.d2 t.l2 t.hs2 t.tk2 t.e2 vs2 n2 (io :: T)) t.x1 t.d1 t.l1 lt t.hs1 t.tk1 vs1 n1 t.e1 row hrow hsz (hall.mono fun p hp => .tail _ (.tail _ (.tail _ (.tail _ hp)))) i.p i.d i.q i.g deed td t5 t6 hi.p hi.d hi.q hi.g hdd ⟨a1, ?_⟩
    (.tail _ (.tail _ (.tail _ (.tail _ hlt))))) (fun p hp => hp) ?_
  · intro p hp b hb
    simp only [tab, List.mem_cons, List.not_mem_nil, or_false] at hp hb
    obtain ⟨b1, b2, b3, b4, b5, b6, b7, b8, b9⟩ := a3
    obtain ⟨c1, c2, c3, c4, c5, c6⟩ := o1
    rcases hp with rfl | rfl | rfl | rfl | hp
    · rcases hb with rfl | rfl | rfl
      · exact b1.symm
      · exact b4.symm
      · exact b7.symm
    · rcases hb with rfl | rfl | rfl
      · exact b2.symm
      · exact b5.symm
      · exact b8.symm
    · rcases hb with rfl | rfl | rfl
      · exact b3.symm
      · exact b6.symm
      · exact b9.symm
    · rcases hb with rfl | rfl | rfl
      · exact c1
      · exact c2
      · exact c3
    · obtain ⟨d1, d2, d3, d4, d5, d6, d7⟩ := off p hp
      rcases hb with rfl | rfl | rfl
      · exact d1
      · exact d2
      · exact d3
  · rintro r l ⟨add, vs', n', rfl, hd, _, hfr⟩
    refine ⟨NFx t io vs' n' vs2 n2 (add ++ T), fun p hp => ?_, vs', n', add ++ T, rfl, fun p hp => List.mem_append.mpr (.inr hp), fun q hq => ?_, ⟨a1, a2, a3, c, o1, fun p hp => ?_⟩, datIn_tup (fun p hp hc => ?_) line_flat hd⟩
    · simp only [NFx, tab, List.mem_cons, List.mem_append] at hp ⊢
      rcases hp with h | h | h | h | h | h | h | h | h <;> simp only [h, true_or, or_true]
    · rcases List.mem_append.mp hq with hq | hq
      · exact .inr fun p hp => Nat.ne_of_lt ((hfr q hq).2.2.2 p (.tail _ (.tail _ (.tail _ (.tail _ hp)))))
      · exact .inl hq
    · rcases List.mem_append.mp hp with hp | hp
      · obtain ⟨f1, f2, f3, f4⟩ := hfr p hp
        refine ⟨Nat.ne_of_gt f1, Nat.ne_of_gt f2, Nat.ne_of_gt f3, Nat.ne_of_gt (f4 (t.x2, _) (.head _)), Nat.ne_of_gt (f4 (t.d2, _) (.tail _ (.head _))), Nat.ne_of_gt (f4 (t.l2, _) (.tail _ (.tail _ (.head _)))), Nat.ne_of_gt (f4 io (.tail _ (.tail _ (.tail _ (.head _)))))⟩
      · exact off p hp
    · rcases List.mem_append.mp hp with hp | hp
      · exact List.mem_append.mpr (.inl hp)
      · simp only [tab, List.mem_cons] at hp
        rcases hp with h | h | h | h | h
        · exact absurd hc (tab_tup (n := n2) (vs := vs2) (x := t.x2) (dx := t.d2) (l := t.l2) (hs := t.hs2) (tk := t.tk2) (e := t.e2) (by simp [h]))
        · exact absurd hc (tab_tup (n := n2) (vs := vs2) (x := t.x2) (dx := t.d2) (l := t.l2) (hs := t.hs2) (tk := t.tk2) (e := t.e2) (by simp [h]))
        · exact absurd hc (tab_tup (n := n2) (vs := vs2) (x := t.x2) (dx := t.d2) (l := t.l2) (hs := t.hs2) (tk := t.tk2) (e := t.e2) (by simp [h]))
        · rw [h, c] at hc; exact absurd hc (by simp)
        · exact List.mem_append.mpr (.inr h)
theorem deed_told (w : World) (t : Two) (io : Addr × Obj) (T : Ledger) (vs1 : List Value) (n1 : Nat) (vs2 : List Value) (n2 : Nat) (lt : Addr) (row : List Item) (hrow : ∀ r ∈ row, r.Ok) (hsz : vs2.length ≤ 64) (hall : DatAll T vs2 (row.map lineDat))
    (i : Item) (deed : Int) (td t5 t6 : Tok) (hi : i.Ok) (hdd : 0 ≤ deed ∧ deed ≤ 3) (hoff : t.Off io T) (hlt : (lt, tupOf [.str i.name t5, .str i.text t6]) ∈ T) :
    Ctr w 6 251 [.ref t.x2, .int deed td, .ref lt] (NFx t io vs1 n1 vs2 n2 T)
      (fun _ news' => ∃ vs2' n2' T', news' = NFx t io vs1 n1 vs2' n2' T' ∧ (∀ p ∈ T, p ∈ T') ∧ FreshTo T T' ∧ t.Off io T' ∧ DatAll T' vs2' ((deedRow row deed i).map lineDat)) := by
  refine Ctr.conv (deed_seen w t.swap io T vs2 n2 vs1 n1 lt row hrow hsz hall i deed td t5 t6 hi hdd hoff.swap hlt) nf_swap ?_
  rintro r l ⟨vs', n', T', rfl, hs, hf, ho, hd⟩
  exact ⟨NFx t io vs1 n1 vs' n' T', fun p hp => nf_swap (t := t.swap) p hp, vs', n', T', rfl, hs, hf, ho.swap, hd⟩
end
section
open PySem PySem.W PyProof.Rows PySem.Calls PySem.Flt
theorem own_nf (w : World) (t : Two) (io : Addr × Obj) (T : Ledger) (vs1 : List Value) (n1 : Nat) (vs2 : List Value) (n2 : Nat) (lr it : Addr) (rvs : List Value) (n m : Nat) (row : List Item) (hsz : rvs.length ≤ 64) (hall : DatAll T rvs (row.map itemDat)) (p d q g deed : Int) (td t1 t2 t3 t4 : Tok)
    (hdd : 0 ≤ deed ∧ deed ≤ 3) (hlr : (lr, W.listOf rvs.toArray n) ∈ T) (hit : (it, tupN [.int p t1, .int d t2, .int q t3, .int g t4] m) ∈ T) (hoff : t.Off io T) :
    Ctr w 20 256 [.ref lr, .int deed td, .ref it] (NFx t io vs1 n1 vs2 n2 T)
      (fun r news' => ∃ D rvs' nr' T', r = .ref D ∧ news' = NFx t io vs1 n1 vs2 n2 T' ∧ (∀ p ∈ T, p ∈ T') ∧ FreshTo T T' ∧ t.Off io T' ∧ (D, W.listOf rvs'.toArray nr') ∈ T' ∧ (D = lr ∨ ∀ p ∈ T, @Ne Nat p.1 D) ∧ DatAll T' rvs' ((deedRow row deed ⟨p, d, q, g⟩).map itemDat)) := by
  refine Ctr.conv (hown w (NFx t io vs1 n1 vs2 n2 T) lr it rvs n m row hsz (hall.mono fun p hp => nf_mem hp) p d q g deed td t1 t2 t3 t4 hdd (nf_mem hlr) (nf_mem hit)) (fun p hp => hp) ?_
  rintro r l ⟨add, D, vs', n', rfl, rfl, hD, hd, _, hfr⟩
  obtain ⟨a1, a2, a3, c, o1, off⟩ := hoff
  refine ⟨NFx t io vs1 n1 vs2 n2 (add ++ T), fun p hp => ?_, D, vs', n', add ++ T, rfl, rfl, fun p hp => List.mem_append.mpr (.inr hp), fun q hq => ?_, ⟨a1, a2, a3, c, o1, fun p hp => ?_⟩, ?_, ?_, datIn_tup (fun p hp hc => ?_) item_flat hd⟩
  · rcases nf_iff.mp hp with h | h | h | h
    · exact List.mem_append.mpr (.inr (nf_iff.mpr (.inl h)))
    · exact List.mem_append.mpr (.inr (nf_iff.mpr (.inr (.inl h))))
    · exact List.mem_append.mpr (.inr (nf_iff.mpr (.inr (.inr (.inl h)))))
    · rcases List.mem_append.mp h with h | h
      · exact List.mem_append.mpr (.inl h)
      · exact List.mem_append.mpr (.inr (nf_mem h))
  · rcases List.mem_append.mp hq with hq | hq
    · exact .inr fun p hp => hfr q hq p (nf_mem hp)
    · exact .inl hq
  · rcases List.mem_append.mp hp with hp | hp
    · have f := hfr p hp
      exact ⟨(f (t.x1, _) (nf_iff.mpr (.inl (.head _)))).symm, (f (t.d1, _) (nf_iff.mpr (.inl (.tail _ (.head _))))).symm, (f (t.l1, _) (nf_iff.mpr (.inl (.tail _ (.tail _ (.head _)))))).symm,
        (f (t.x2, _) (nf_iff.mpr (.inr (.inl (.head _))))).symm, (f (t.d2, _) (nf_iff.mpr (.inr (.inl (.tail _ (.head _)))))).symm, (f (t.l2, _) (nf_iff.mpr (.inr (.inl (.tail _ (.tail _ (.head _))))))).symm,
        (f io (nf_iff.mpr (.inr (.inr (.inl rfl))))).symm⟩
    · exact off p hp
  · rcases hD with h | h
    · exact List.mem_append.mpr (.inl h)
    · rw [h]; exact List.mem_append.mpr (.inr hlr)
  · rcases hD with h | h
    · exact .inr fun p hp => hfr _ h p (nf_mem hp)
    · exact .inl (congrArg Prod.fst h)
  · rcases List.mem_append.mp hp with hp | hp
    · exact List.mem_append.mpr (.inl hp)
    · rcases nf_iff.mp hp with h | h | h | h
      · exact absurd hc (tab_tup h)
      · exact absurd hc (tab_tup h)
      · rw [h, c] at hc; exact absurd hc (by simp)
      · exact List.mem_append.mpr (.inr h)
section
variable {h₀ h : Heap} {L : Addr} {t : Two} {io : Addr × Obj} {vs1 : List Value} {n1 : Nat} {vs2 : List Value} {n2 : Nat} {T l : Ledger}
theorem news_ne {a b : Addr × Obj} (N : News h₀ L h l) (ha : a ∈ l) (hb : b ∈ l) (hne : a.2 ≠ b.2) : @Ne Nat a.1 b.1 := fun e => hne (by
  have x := (N a ha).1
  have y := (N b hb).1
  rw [show a.1 = b.1 from e] at x
  exact Option.some.inj (x.symm.trans y))
theorem tup_ne {a b : Addr × Obj} (ha : a.2.cls = .type "tuple") (hb : b.2.cls ≠ .type "tuple") : a.2 ≠ b.2 := fun e => hb (e ▸ ha)
/-- a tuple of the ledger goes into the rest -/
theorem nf_off {a : Addr × Obj} (N : News h₀ L h l) (hs : ∀ p ∈ NFx t io vs1 n1 vs2 n2 T, p ∈ l) (ha : a ∈ l) (ta : a.2.cls = .type "tuple") (hoff : t.Off io T) : t.Off io (a :: T) := by
  obtain ⟨a1, a2, a3, c, o1, off⟩ := hoff
  refine ⟨a1, a2, a3, c, o1, fun p hp => ?_⟩
  rcases List.mem_cons.mp hp with rfl | hp
  · have k : ∀ b ∈ NFx t io vs1 n1 vs2 n2 T, b.2.cls ≠ .type "tuple" → @Ne Nat p.1 b.1 := fun b hb hc => news_ne N ha (hs b hb) (tup_ne ta hc)
    have k1 : ∀ b ∈ tab t.x1 t.d1 t.l1 t.hs1 t.tk1 t.e1 vs1 n1 [], @Ne Nat p.1 b.1 := fun b hb => k b (nf_iff.mpr (.inl hb)) (tab_tup hb)
    have k2 : ∀ b ∈ tab t.x2 t.d2 t.l2 t.hs2 t.tk2 t.e2 vs2 n2 [], @Ne Nat p.1 b.1 := fun b hb => k b (nf_iff.mpr (.inr (.inl hb))) (tab_tup hb)
    exact ⟨k1 (t.x1, _) (.head _), k1 (t.d1, _) (.tail _ (.head _)), k1 (t.l1, _) (.tail _ (.tail _ (.head _))), k2 (t.x2, _) (.head _), k2 (t.d2, _) (.tail _ (.head _)), k2 (t.l2, _) (.tail _ (.tail _ (.head _))),
      k io (nf_iff.mpr (.inr (.inr (.inl rfl)))) (by rw [c]; simp)⟩
  · exact off p hp
theorem nf_take1 {a : Addr × Obj} (N : News h₀ L h l) (hs : ∀ p ∈ NFx t io vs1 n1 vs2 n2 T, p ∈ l) (ha : a ∈ l) (ta : a.2.cls = .type "tuple") (hoff : t.Off io T) :
    News h₀ L h (NFx t io vs1 n1 vs2 n2 (a :: T)) ∧ t.Off io (a :: T) :=
  ⟨news_in N fun p hp => (nf_more p hp).elim (fun e => e ▸ ha) (hs p), nf_off N hs ha ta hoff⟩
theorem nf_take2 {a b : Addr × Obj} (N : News h₀ L h l) (hs : ∀ p ∈ NFx t io vs1 n1 vs2 n2 T, p ∈ l) (ha : a ∈ l) (ta : a.2.cls = .type "tuple") (hb : b ∈ l) (tb : b.2.cls = .type "tuple") (hoff : t.Off io T) :
    News h₀ L h (NFx t io vs1 n1 vs2 n2 (a :: b :: T)) ∧ t.Off io (a :: b :: T) := by
  have s1 : ∀ p ∈ NFx t io vs1 n1 vs2 n2 (b :: T), p ∈ l := fun p hp => (nf_more p hp).elim (fun e => e ▸ hb) (hs p)
  have o1 := nf_off N hs hb tb hoff
  exact nf_take1 N s1 ha ta o1
theorem news_more {a : Addr × Obj} (N : News h₀ L h l) (ha : a ∈ l) : News h₀ L h (a :: l) := fun p hp => (List.mem_cons.mp hp).elim (fun e => e ▸ N a ha) (N p)
end
end
section
open PySem PySem.W PyProof.Rows PySem.Calls PySem.Flt
noncomputable def NF0 (t : Two) (vs1 : List Value) (n1 : Nat) (vs2 : List Value) (n2 : Nat) (T : Ledger) : Ledger :=
  tab t.x1 t.d1 t.l1 t.hs1 t.tk1 t.e1 vs1 n1 (tab t.x2 t.d2 t.l2 t.hs2 t.tk2 t.e2 vs2 n2 T)
theorem nf0_iff {t : Two} {vs1 : List Value} {n1 : Nat} {vs2 : List Value} {n2 : Nat} {T : Ledger} {p : Addr × Obj} :
    p ∈ NF0 t vs1 n1 vs2 n2 T ↔ p ∈ tab t.x1 t.d1 t.l1 t.hs1 t.tk1 t.e1 vs1 n1 [] ∨ p ∈ tab t.x2 t.d2 t.l2 t.hs2 t.tk2 t.e2 vs2 n2 [] ∨ p ∈ T := by
  simp only [NF0, tab, List.mem_cons, List.not_mem_nil, or_false]
  constructor
  · rintro (h | h | h | h | h | h | h)
    · exact .inl (.inl h)
    · exact .inl (.inr (.inl h))
    · exact .inl (.inr (.inr h))
    · exact .inr (.inl (.inl h))
    · exact .inr (.inl (.inr (.inl h)))
    · exact .inr (.inl (.inr (.inr h)))
    · exact .inr (.inr h)
  · rintro ((h | h | h) | (h | h | h) | h)
    · exact .inl h
    · exact .inr (.inl h)
    · exact .inr (.inr (.inl h))
    · exact .inr (.inr (.inr (.inl h)))
    · exact .inr (.inr (.inr (.inr (.inl h))))
    · exact .inr (.inr (.inr (.inr (.inr (.inl h)))))
    · exact .inr (.inr (.inr (.inr (.inr (.inr h)))))
structure Two.Off0 (t : Two) (T : Ledger) : Prop where
  a1 : @Ne Nat t.x1 t.d1 ∧ @Ne Nat t.x1 t.l1 ∧ @Ne Nat t.d1 t.l1
  a2 : @Ne Nat t.x2 t.d2 ∧ @Ne Nat t.x2 t.l2 ∧ @Ne Nat t.d2 t.l2
  a3 : @Ne Nat t.x1 t.x2 ∧ @Ne Nat t.x1 t.d2 ∧ @Ne Nat t.x1 t.l2 ∧ @Ne Nat t.d1 t.x2 ∧ @Ne Nat t.d1 t.d2 ∧ @Ne Nat t.d1 t.l2 ∧ @Ne Nat t.l1 t.x2 ∧ @Ne Nat t.l1 t.d2 ∧ @Ne Nat t.l1 t.l2
  off : ∀ p ∈ T, @Ne Nat p.1 t.x1 ∧ @Ne Nat p.1 t.d1 ∧ @Ne Nat p.1 t.l1 ∧ @Ne Nat p.1 t.x2 ∧ @Ne Nat p.1 t.d2 ∧ @Ne Nat p.1 t.l2
/-- how a sheet stands between two turns -/
structure Sheet (t : Two) (row : List Item) (tl : Ledger) (vs1 : List Value) (vs2 : List Value) (lr : Addr) (rvs : List Value) (nr : Nat) (T : Ledger) : Prop where
  sub : ∀ p ∈ tl, p ∈ T
  new : FreshTo tl T
  seen : DatAll T vs1 (row.map lineDat)
  told : DatAll T vs2 (row.map lineDat)
  own : DatAll T rvs (row.map itemDat)
  mem : (lr, W.listOf rvs.toArray nr) ∈ T
  lrn : ∀ p ∈ tl, @Ne Nat p.1 lr
noncomputable def TurnOk (t : Two) (row : List Item) (tl : Ledger) (I : Addr) (m' : Str → Option Value) (n' : Ledger) : Prop :=
  ∃ vs1 n1 vs2 n2 lr rvs nr T, n' = NF0 t vs1 n1 vs2 n2 T ∧ t.Off0 T ∧ Sheet t row tl vs1 vs2 lr rvs nr T ∧ (∀ p ∈ n', @Ne Nat p.1 I) ∧
    m' (Str.ofString "row") = some (.ref lr) ∧ m' (Str.ofString "seen") = some (.ref t.x1) ∧ m' (Str.ofString "told") = some (.ref t.x2)
noncomputable def sheetMap (t : Two) (lr : Addr) (u : Str → Option Value) : Str → Option Value := fun y =>
  if y = Str.ofString "row" then some (.ref lr) else if y = Str.ofString "seen" then some (.ref t.x1) else if y = Str.ofString "told" then some (.ref t.x2) else u y
theorem sheetMap_eq {t : Two} {lr : Addr} {m' : Str → Option Value} (h1 : m' (Str.ofString "row") = some (.ref lr)) (h2 : m' (Str.ofString "seen") = some (.ref t.x1)) (h3 : m' (Str.ofString "told") = some (.ref t.x2)) : m' = sheetMap t lr m' := by
  funext y
  unfold sheetMap
  by_cases e1 : y = Str.ofString "row"
  · rw [if_pos e1, e1, h1]
  · rw [if_neg e1]
    by_cases e2 : y = Str.ofString "seen"
    · rw [if_pos e2, e2, h2]
    · rw [if_neg e2]
      by_cases e3 : y = Str.ofString "told"
      · rw [if_pos e3, e3, h3]
      · rw [if_neg e3]
section
variable {prog : Program} {w : World} {A : Around} {E : Value → Shared → Prop} {s : Shared} {h₀ : Heap} {env : Env} {target : PySem.Expr} {body : List Stmt} {Q : Flow → Shared → Prop}
theorem list_loopI {ax : Addr} {vs : List Value} {n : Nat} {m₀ : Str → Option Value} {news : Ledger} (J : Addr → Nat → (Str → Option Value) → Ledger → Prop)
    (hh : A.handled = none) (F : Fr h₀ env.locals s.heap m₀) (N : News h₀ env.locals s.heap news) (hm : (ax, W.listOf vs.toArray n) ∈ news) (h0 : ∀ I : Addr, (∀ p ∈ news, p.1 < I) → J I 0 m₀ news)
    (step : ∀ I i v m₁ news₁ h tk o, vs[i]? = some v → J I i m₁ news₁ → Fr h₀ env.locals h m₁ → o.cls = .type "list_iterator" → News h₀ env.locals h ((I, o) :: news₁) →
      wpAny (model prog w) A (assign target env v) (fun _ s₂ => wpAny (model prog w) A (execs body env) (UnrPostW h₀ env.locals { s with heap := h, toks := tk } [(I, o)] (fun m' n' => SubL [(ax, W.listOf vs.toArray n)] n' ∧ J I (i + 1) m' n') Q) E s₂) E { s with heap := h, toks := tk })
    (fin : ∀ I m news, J I vs.length m news → ∀ h tk, Fr h₀ env.locals h m → News h₀ env.locals h news → Q .next { s with heap := h, toks := tk }) :
    wpAny (model prog w) A (pyIter (.ref ax)) (fun it s₂ => TurnsAt prog w A h₀ env target body Q E it s₂) E s :=
  iter_listTurns hh F N hm rfl rfl fun I hI => items_of vs (J I) (fun i v m₁ news₁ h tk o => step I i v m₁ news₁ h tk o) (fin I) vs.length 0 m₀ news (by omega) (h0 I hI)

theorem sheet_loop {ln : Addr} {nvs : List Value} {nn : Nat} {tl : Ledger} {m₀ : Str → Option Value} (row : Nat → List Item) (t : Two) (lr : Addr) (nr n1 n2 : Nat)
    (hh : A.handled = none) (F : Fr h₀ env.locals s.heap m₀) (N : News h₀ env.locals s.heap ((lr, W.listOf #[] nr) :: tab t.x2 t.d2 t.l2 t.hs2 t.tk2 t.e2 [] n2 (tab t.x1 t.d1 t.l1 t.hs1 t.tk1 t.e1 [] n1 tl)))
    (hln : (ln, W.listOf nvs.toArray nn) ∈ tl) (hoff : t.Off0 ((lr, W.listOf #[] nr) :: tl)) (hlr : ∀ p ∈ tl, @Ne Nat p.1 lr)
    (hm1 : m₀ (Str.ofString "row") = some (.ref lr)) (hm2 : m₀ (Str.ofString "seen") = some (.ref t.x1)) (hm3 : m₀ (Str.ofString "told") = some (.ref t.x2)) (hrow : row 0 = [])
    (step : ∀ (t : Two) I i v vs1 n1 vs2 n2 lr rvs nr T u h tk o, nvs[i]? = some v → t.Off (I, o) T → Sheet t (row i) tl vs1 vs2 lr rvs nr T → Fr h₀ env.locals h (sheetMap t lr u) → News h₀ env.locals h (NFx t (I, o) vs1 n1 vs2 n2 T) →
      wpAny (model prog w) A (assign target env v) (fun _ s₂ => wpAny (model prog w) A (execs body env) (UnrPostW h₀ env.locals { s with heap := h, toks := tk } [(I, o)] (TurnOk t (row (i + 1)) tl I) Q) E s₂) E { s with heap := h, toks := tk })
    (fin : ∀ (t : Two) vs1 n1 vs2 n2 lr rvs nr T u h tk, t.Off0 T → Sheet t (row nvs.length) tl vs1 vs2 lr rvs nr T → Fr h₀ env.locals h (sheetMap t lr u) → News h₀ env.locals h (NF0 t vs1 n1 vs2 n2 T) → Q .next { s with heap := h, toks := tk }) :
    wpAny (model prog w) A (pyIter (.ref ln)) (fun it s₂ => TurnsAt prog w A h₀ env target body Q E it s₂) E s := by
  have N2 : News h₀ env.locals s.heap (NF0 t [] n1 [] n2 ((lr, W.listOf #[] nr) :: tl)) := news_in N fun p hp => by
    simp only [NF0, tab, List.mem_cons] at hp ⊢
    rcases hp with h | h | h | h | h | h | h | h <;> simp only [h, true_or, or_true]
  refine list_loopI (fun I i m' n' => TurnOk t (row i) tl I m' n') hh F N2 (nf0_iff.mpr (.inr (.inr (.tail _ hln)))) (fun I hI => ?_) (fun I i v m₁ news₁ h tk o hv hJ F1 ho N1 => ?_) (fun I m' n' hJ h tk F1 N1 => ?_)
  · exact ⟨[], n1, [], n2, lr, [], nr, _, rfl, hoff, ⟨fun p hp => .tail _ hp, FreshTo.cons hlr, by rw [hrow]; exact .nil, by rw [hrow]; exact .nil, by rw [hrow]; exact .nil, .head _, hlr⟩, fun p hp => Nat.ne_of_lt (hI p hp), hm1, hm2, hm3⟩
  · obtain ⟨vs1, k1, vs2, k2, lr', rvs, nr', T, rfl, ho0, hS, hI, e1, e2, e3⟩ := hJ
    obtain ⟨a1, a2, a3, off⟩ := ho0
    have g1 : ∀ p ∈ tab t.x1 t.d1 t.l1 t.hs1 t.tk1 t.e1 vs1 k1 [], @Ne Nat I p.1 := fun p hp => (hI p (nf0_iff.mpr (.inl hp))).symm
    have g2 : ∀ p ∈ tab t.x2 t.d2 t.l2 t.hs2 t.tk2 t.e2 vs2 k2 [], @Ne Nat I p.1 := fun p hp => (hI p (nf0_iff.mpr (.inr (.inl hp)))).symm
    have hoff' : t.Off (I, o) T := ⟨a1, a2, a3, ho, ⟨g1 (t.x1, _) (.head _), g1 (t.d1, _) (.tail _ (.head _)), g1 (t.l1, _) (.tail _ (.tail _ (.head _))), g2 (t.x2, _) (.head _), g2 (t.d2, _) (.tail _ (.head _)), g2 (t.l2, _) (.tail _ (.tail _ (.head _)))⟩,
      fun p hp => by obtain ⟨b1, b2, b3, b4, b5, b6⟩ := off p hp; exact ⟨b1, b2, b3, b4, b5, b6, hI p (nf0_iff.mpr (.inr (.inr hp)))⟩⟩
    have N3 : News h₀ env.locals h (NFx t (I, o) vs1 k1 vs2 k2 T) := news_in N1 fun p hp => by
      rcases nf_iff.mp hp with h | h | h | h
      · exact .tail _ (nf0_iff.mpr (.inl h))
      · exact .tail _ (nf0_iff.mpr (.inr (.inl h)))
      · subst h; exact .head _
      · exact .tail _ (nf0_iff.mpr (.inr (.inr h)))
    rw [sheetMap_eq e1 e2 e3] at F1
    refine wpAny_mono (step t I i v vs1 k1 vs2 k2 lr' rvs nr' T m₁ h tk o hv hoff' hS F1 N3) (fun _ s₂ h₂ => wpAny_mono h₂ (fun f s₃ h₃ => unr_mono h₃ fun m' n' hr => ⟨?_, hr⟩) fun _ _ e => e) fun _ _ e => e
    obtain ⟨vs1, k1, vs2, k2, lr', rvs, nr', T, rfl, _, hS, _⟩ := hr
    exact ⟨nf0_iff.mpr (.inr (.inr (hS.sub _ hln))), trivial⟩
  · obtain ⟨vs1, k1, vs2, k2, lr', rvs, nr', T, rfl, ho0, hS, hI, e1, e2, e3⟩ := hJ
    rw [sheetMap_eq e1 e2 e3] at F1
    exact fin t vs1 k1 vs2 k2 lr' rvs nr' T _ h tk ho0 hS F1 N1
theorem sheet_turn {t : Two} {io : Addr × Obj} {row : List Item} {tl : Ledger} {vs1 : List Value} {n1 : Nat} {vs2 : List Value} {n2 : Nat} {lr : Addr} {rvs : List Value} {nr : Nat} {T : Ledger} {m' : Str → Option Value} {h' : Heap} {tk : Nat} {s₁ : Shared}
    (F : Fr h₀ env.locals h' m') (N : News h₀ env.locals h' (NFx t io vs1 n1 vs2 n2 T)) (hoff : t.Off io T) (hS : Sheet t row tl vs1 vs2 lr rvs nr T)
    (e1 : m' (Str.ofString "row") = some (.ref lr)) (e2 : m' (Str.ofString "seen") = some (.ref t.x1)) (e3 : m' (Str.ofString "told") = some (.ref t.x2)) :
    UnrEndW h₀ env.locals s₁ [io] (TurnOk t row tl io.1) { s₁ with heap := h', toks := tk } := by
  obtain ⟨a1, a2, a3, c, ⟨c1, c2, c3, c4, c5, c6⟩, off⟩ := hoff
  have hI : ∀ p ∈ NF0 t vs1 n1 vs2 n2 T, @Ne Nat p.1 io.1 := fun p hp => by
    rcases nf0_iff.mp hp with h | h | h
    · simp only [tab, List.mem_cons, List.not_mem_nil, or_false] at h
      rcases h with rfl | rfl | rfl
      · exact c1.symm
      · exact c2.symm
      · exact c3.symm
    · simp only [tab, List.mem_cons, List.not_mem_nil, or_false] at h
      rcases h with rfl | rfl | rfl
      · exact c4.symm
      · exact c5.symm
      · exact c6.symm
    · exact (off p h).2.2.2.2.2.2
  refine ⟨h', tk, m', NF0 t vs1 n1 vs2 n2 T, rfl, F, news_in N fun p hp => ?_, fun p hp q hq => by rw [List.mem_singleton.mp hq]; exact hI p hp, vs1, n1, vs2, n2, lr, rvs, nr, T, rfl, ⟨a1, a2, a3, fun p hp => ?_⟩, hS, hI, e1, e2, e3⟩
  · rcases List.mem_cons.mp hp with h | h
    · exact nf_iff.mpr (.inr (.inr (.inl h)))
    · rcases nf0_iff.mp h with h | h | h
      · exact nf_iff.mpr (.inl h)
      · exact nf_iff.mpr (.inr (.inl h))
      · exact nf_mem h
  · obtain ⟨b1, b2, b3, b4, b5, b6, _⟩ := off p hp
    exact ⟨b1, b2, b3, b4, b5, b6⟩
end
end
section
open PySem PySem.W PyProof.Rows PySem.Calls PySem.Flt
/-- a contract whose ledger must first be set in order, with the heap at hand -/
theorem Ctr.setting {w : World} {k : Nat} {f : Addr} {vs : List Value} {l : Ledger} {Post : Value → Ledger → Prop} (C : ∀ {h₀ h : Heap} {L : Addr}, News h₀ L h l → ∃ l2, News h₀ L h l2 ∧ Ctr w k f vs l2 Post) : Ctr w k f vs l Post :=
  fun loose mean mg mb dp un gd cn cs a ccd cl outer A₀ base h₀ L m s Q E B F X N T hk hd hu ret => by
    obtain ⟨l2, N2, C2⟩ := C N
    exact C2 loose mean mg mb dp un gd cn cs a ccd cl outer A₀ base h₀ L m s Q E B F X N2 T hk hd hu ret
theorem Ctr.post {w : World} {k : Nat} {f : Addr} {vs : List Value} {l : Ledger} {Post Post2 : Value → Ledger → Prop} (C : Ctr w k f vs l Post) (h : ∀ r l, Post r l → Post2 r l) : Ctr w k f vs l Post2 :=
  Ctr.conv C (fun _ h => h) fun r l2 P => ⟨l2, fun _ h => h, h r l2 P⟩
theorem deed_seen2 (w : World) (t : Two) (io : Addr × Obj) (T : Ledger) (vs1 : List Value) (n1 : Nat) (vs2 : List Value) (n2 : Nat) (lt ct : Addr) (l : Ledger) (row : List Item) (p d q g deed : Int) (td t5 t6 t7 t8 t9 : Tok) (x y z : UInt64)
    (hs : ∀ p ∈ NFx t io vs1 n1 vs2 n2 T, p ∈ l) (hlt : (lt, tupOf [.str (nameOf p d g) t5, .str (textOf q) t6]) ∈ l) (hct : (ct, tupOf [.float x t7, .float y t8, .float z t9]) ∈ l)
    (hoff : t.Off io T) (hall : DatAll T vs1 (row.map lineDat)) (hrow : ∀ r ∈ row, r.Ok) (hsz : vs1.length ≤ 64) (hi : (⟨p, d, q, g⟩ : Item).Ok) (hdd : 0 ≤ deed ∧ deed ≤ 3) (hf1 : ∀ p ∈ T, @Ne Nat p.1 lt) (hf2 : ∀ p ∈ T, @Ne Nat p.1 ct) :
    Ctr w 6 251 [.ref t.x1, .int deed td, .ref lt] l
      (fun _ news' => ∃ vs1' n1' T', news' = NFx t io vs1' n1' vs2 n2 T' ∧ (∀ p ∈ T, p ∈ T') ∧ FreshTo T T' ∧ (ct, tupOf [.float x t7, .float y t8, .float z t9]) ∈ T' ∧ t.Off io T' ∧ DatAll T' vs1' ((deedRow row deed ⟨p, d, q, g⟩).map lineDat)) :=
  Ctr.setting fun N => by
    obtain ⟨N2, ho⟩ := nf_take2 N hs hlt rfl hct rfl hoff
    refine ⟨_, N2, Ctr.post (deed_seen w t io _ vs1 n1 vs2 n2 lt row hrow hsz (hall.mono fun p hp => .tail _ (.tail _ hp)) ⟨p, d, q, g⟩ deed td t5 t6 hi hdd ho (.head _)) ?_⟩
    rintro r l2 ⟨vs', n', T', rfl, hs', hf', ho', hd'⟩
    refine ⟨vs', n', T', rfl, fun p hp => hs' p (.tail _ (.tail _ hp)), FreshTo.trans (fun q hq => ?_) hf' (fun p hp => .tail _ (.tail _ hp)), hs' _ (.tail _ (.head _)), ho', hd'⟩
    rcases List.mem_cons.mp hq with rfl | hq
    · exact .inr hf1
    · exact FreshTo.cons hf2 q hq
theorem deed_told2 (w : World) (t : Two) (io : Addr × Obj) (T : Ledger) (vs1 : List Value) (n1 : Nat) (vs2 : List Value) (n2 : Nat) (lt : Addr) (l : Ledger) (row : List Item) (p d q g deed : Int) (td t5 t6 : Tok)
    (hs : ∀ p ∈ NFx t io vs1 n1 vs2 n2 T, p ∈ l) (hlt : (lt, tupOf [.str (nameOf p d g) t5, .str (textOf q) t6]) ∈ l)
    (hoff : t.Off io T) (hall : DatAll T vs2 (row.map lineDat)) (hrow : ∀ r ∈ row, r.Ok) (hsz : vs2.length ≤ 64) (hi : (⟨p, d, q, g⟩ : Item).Ok) (hdd : 0 ≤ deed ∧ deed ≤ 3) (hf1 : ∀ p ∈ T, @Ne Nat p.1 lt) :
    Ctr w 6 251 [.ref t.x2, .int deed td, .ref lt] l
      (fun _ news' => ∃ vs2' n2' T', news' = NFx t io vs1 n1 vs2' n2' T' ∧ (∀ p ∈ T, p ∈ T') ∧ FreshTo T T' ∧ t.Off io T' ∧ DatAll T' vs2' ((deedRow row deed ⟨p, d, q, g⟩).map lineDat)) :=
  Ctr.setting fun N => by
    obtain ⟨N2, ho⟩ := nf_take1 N hs hlt rfl hoff
    refine ⟨_, N2, Ctr.post (deed_told w t io _ vs1 n1 vs2 n2 lt row hrow hsz (hall.mono fun p hp => .tail _ hp) ⟨p, d, q, g⟩ deed td t5 t6 hi hdd ho (.head _)) ?_⟩
    rintro r l2 ⟨vs', n', T', rfl, hs', hf', ho', hd'⟩
    exact ⟨vs', n', T', rfl, fun p hp => hs' p (.tail _ hp), (FreshTo.cons hf1).trans hf' (fun p hp => .tail _ hp), ho', hd'⟩
theorem own_nf2 (w : World) (t : Two) (io : Addr × Obj) (T : Ledger) (vs1 : List Value) (n1 : Nat) (vs2 : List Value) (n2 : Nat) (lr it : Addr) (rvs : List Value) (n m : Nat) (l : Ledger) (row : List Item) (p d q g deed : Int) (td t1 t2 t3 t4 : Tok)
    (hs : ∀ p ∈ NFx t io vs1 n1 vs2 n2 T, p ∈ l) (hit : (it, tupN [.int p t1, .int d t2, .int q t3, .int g t4] m) ∈ l) (hoff : t.Off io T) (hall : DatAll T rvs (row.map itemDat)) (hlr : (lr, W.listOf rvs.toArray n) ∈ T) (hsz : rvs.length ≤ 64) (hdd : 0 ≤ deed ∧ deed ≤ 3) (hf1 : ∀ p ∈ T, @Ne Nat p.1 it) :
    Ctr w 20 256 [.ref lr, .int deed td, .ref it] l
      (fun r news' => ∃ D rvs' nr' T', r = .ref D ∧ news' = NFx t io vs1 n1 vs2 n2 T' ∧ (∀ p ∈ T, p ∈ T') ∧ FreshTo T T' ∧ t.Off io T' ∧ (D, W.listOf rvs'.toArray nr') ∈ T' ∧ (D = lr ∨ ∀ p ∈ T, @Ne Nat p.1 D) ∧ DatAll T' rvs' ((deedRow row deed ⟨p, d, q, g⟩).map itemDat)) :=
  Ctr.setting fun N => by
    obtain ⟨N2, ho⟩ := nf_take1 N hs hit rfl hoff
    refine ⟨_, N2, Ctr.post (own_nf w t io _ vs1 n1 vs2 n2 lr it rvs n m row hsz (hall.mono fun p hp => .tail _ hp) p d q g deed td t1 t2 t3 t4 hdd (.tail _ hlr) (.head _) ho) ?_⟩
    rintro r l2 ⟨D, rvs', nr', T', hr, rfl, hs', hf', ho', hD, hl', hd'⟩
    exact ⟨D, rvs', nr', T', hr, rfl, fun p hp => hs' p (.tail _ hp), (FreshTo.cons hf1).trans hf' (fun p hp => .tail _ hp), ho', hD, hl'.imp id (fun h p hp => h p (.tail _ hp)), hd'⟩
end
section
open PySem PySem.W PyProof.Rows PySem.Calls PySem.Flt
noncomputable def at4 (a b c d : UInt64) (k : Int) : UInt64 := if k = 0 then a else if k = 1 then b else if k = 2 then c else d
noncomputable def at3 (a b c : UInt64) (k : Int) : UInt64 := if k = 0 then a else if k = 1 then b else c
noncomputable abbrev fX (a c : Int) : UInt64 := Float64.add (Float64.div (Float64.ofInt a) 4616189618054758400) (Float64.ofInt c)
noncomputable abbrev fY (q : Int) : UInt64 := at4 4607182418800017408 4602678819172646912 4598175219545276416 0 q
noncomputable abbrev fZ (d : Int) : UInt64 := at3 4607182418800017408 4602678819172646912 4598175219545276416 d
noncomputable abbrev fR (a c q d : Int) : UInt64 × UInt64 × UInt64 := rgbF (fX a c) (fY q) (fZ d)
noncomputable def chkRgb (x : UInt64) : Bool := !Float64.isNaN (Float64.mul x fSix) && !Float64.isInf (Float64.mul x fSix) && decide ((sixth x).natAbs < 2 ^ 1024 - 2 ^ 970)
noncomputable def chkHsv (x y z : UInt64) : Bool := (Float64.cmp (fmin3 x y z) (fmax3 x y z) == some Ordering.eq) || (!Float64.isZero (fmax3 x y z) && !Float64.isZero (Float64.sub (fmax3 x y z) (fmin3 x y z)))
noncomputable def chkHls (x y z : UInt64) : Bool := (Float64.cmp (fmin3 x y z) (fmax3 x y z) == some Ordering.eq) || (!Float64.isZero (Float64.sub (fmax3 x y z) (fmin3 x y z)) &&
  (if dimB x y z then !Float64.isZero (Float64.add (fmax3 x y z) (fmin3 x y z)) else !Float64.isZero (Float64.sub (Float64.sub fTwo (fmax3 x y z)) (fmin3 x y z))))
noncomputable def chkLine (x y z : UInt64) : Bool := Float64.isFinite (whole16 y) && Float64.isFinite (whole16 z) && Float64.isFinite (whole4 x) && (if intF (whole16 z) = 0 then true else Float64.isFinite (wholeD y z) && !Float64.isZero z)
noncomputable def lineOf (a q d : Int) : Int × Int × Int := if q = 3 then (4, d, 3) else (a, d, q)
noncomputable def chk (a c q d : Int) : Bool :=
  chkRgb (fX a c) && chkHsv (fR a c q d).1 (fR a c q d).2.1 (fR a c q d).2.2 && chkHls (fR a c q d).1 (fR a c q d).2.1 (fR a c q d).2.2 &&
  chkLine (hsvF (fR a c q d).1 (fR a c q d).2.1 (fR a c q d).2.2).1 (hsvF (fR a c q d).1 (fR a c q d).2.1 (fR a c q d).2.2).2.2 (Float64.mul (hsvF (fR a c q d).1 (fR a c q d).2.1 (fR a c q d).2.2).2.1 (hsvF (fR a c q d).1 (fR a c q d).2.1 (fR a c q d).2.2).2.2) &&
  chkLine (hlsF (fR a c q d).1 (fR a c q d).2.1 (fR a c q d).2.2).1 (topF (fR a c q d).1 (fR a c q d).2.1 (fR a c q d).2.2) (spreadF (fR a c q d).1 (fR a c q d).2.1 (fR a c q d).2.2) &&
  decide (hsvLine (fR a c q d).1 (fR a c q d).2.1 (fR a c q d).2.2 = lineOf a q d) && decide (hlsLine (fR a c q d).1 (fR a c q d).2.1 (fR a c q d).2.2 = lineOf a q d)
theorem ok00 : ∀ q ∈ ([0, 1, 2, 3] : List Int), ∀ d ∈ ([0, 1, 2] : List Int), chk 0 0 q d = true := by decide +kernel
theorem ok01 : ∀ q ∈ ([0, 1, 2, 3] : List Int), ∀ d ∈ ([0, 1, 2] : List Int), chk 0 1 q d = true := by decide +kernel
theorem ok02 : ∀ q ∈ ([0, 1, 2, 3] : List Int), ∀ d ∈ ([0, 1, 2] : List Int), chk 0 2 q d = true := by decide +kernel
theorem ok10 : ∀ q ∈ ([0, 1, 2, 3] : List Int), ∀ d ∈ ([0, 1, 2] : List Int), chk 1 0 q d = true := by decide +kernel
theorem ok11 : ∀ q ∈ ([0, 1, 2, 3] : List Int), ∀ d ∈ ([0, 1, 2] : List Int), chk 1 1 q d = true := by decide +kernel
theorem ok12 : ∀ q ∈ ([0, 1, 2, 3] : List Int), ∀ d ∈ ([0, 1, 2] : List Int), chk 1 2 q d = true := by decide +kernel
theorem ok20 : ∀ q ∈ ([0, 1, 2, 3] : List Int), ∀ d ∈ ([0, 1, 2] : List Int), chk 2 0 q d = true := by decide +kernel
theorem ok21 : ∀ q ∈ ([0, 1, 2, 3] : List Int), ∀ d ∈ ([0, 1, 2] : List Int), chk 2 1 q d = true := by decide +kernel
theorem ok22 : ∀ q ∈ ([0, 1, 2, 3] : List Int), ∀ d ∈ ([0, 1, 2] : List Int), chk 2 2 q d = true := by decide +kernel
theorem ok30 : ∀ q ∈ ([0, 1, 2, 3] : List Int), ∀ d ∈ ([0, 1, 2] : List Int), chk 3 0 q d = true := by decide +kernel
theorem ok31 : ∀ q ∈ ([0, 1, 2, 3] : List Int), ∀ d ∈ ([0, 1, 2] : List Int), chk 3 1 q d = true := by decide +kernel
theorem ok32 : ∀ q ∈ ([0, 1, 2, 3] : List Int), ∀ d ∈ ([0, 1, 2] : List Int), chk 3 2 q d = true := by decide +kernel
theorem all_ok : ∀ a ∈ ([0, 1, 2, 3] : List Int), ∀ c ∈ ([0, 1, 2] : List Int), ∀ q ∈ ([0, 1, 2, 3] : List Int), ∀ d ∈ ([0, 1, 2] : List Int), chk a c q d = true := by
  intro a ha c hc
  simp only [List.mem_cons, List.not_mem_nil, or_false] at ha hc
  rcases ha with rfl | rfl | rfl | rfl <;> rcases hc with rfl | rfl | rfl <;> first | with_reducible exact ok00 | with_reducible exact ok01 | with_reducible exact ok02 | with_reducible exact ok10 | with_reducible exact ok11 | with_reducible exact ok12 | with_reducible exact ok20 | with_reducible exact ok21 | with_reducible exact ok22 | with_reducible exact ok30 | with_reducible exact ok31 | with_reducible exact ok32
theorem chk_ok {a c q d : Int} (ha : 0 ≤ a ∧ a ≤ 3) (hc : 0 ≤ c ∧ c ≤ 2) (hq : 0 ≤ q ∧ q ≤ 3) (hd : 0 ≤ d ∧ d ≤ 2) : chk a c q d = true := by
  refine all_ok a ?_ c ?_ q ?_ d ?_
  · simp only [List.mem_cons, List.not_mem_nil, or_false]; omega
  · simp only [List.mem_cons, List.not_mem_nil, or_false]; omega
  · simp only [List.mem_cons, List.not_mem_nil, or_false]; omega
  · simp only [List.mem_cons, List.not_mem_nil, or_false]; omega
theorem rgb_of {x : UInt64} (h : chkRgb x = true) : RgbOk x := by
  simp only [chkRgb, Bool.and_eq_true, Bool.not_eq_true', decide_eq_true_eq] at h
  exact ⟨h.1.1, h.1.2, h.2⟩
theorem hsv_of {x y z : UInt64} (h : chkHsv x y z = true) : HsvOk x y z := by
  simp only [chkHsv, Bool.or_eq_true, Bool.and_eq_true, Bool.not_eq_true'] at h
  rcases h with h | h
  · exact ⟨fun e => (by rw [h] at e; cases e), fun e => (by rw [h] at e; cases e)⟩
  · exact ⟨fun _ => h.1, fun _ => h.2⟩
theorem hls_of {x y z : UInt64} (h : chkHls x y z = true) : HlsOk x y z := by
  simp only [chkHls, Bool.or_eq_true, Bool.and_eq_true, Bool.not_eq_true'] at h
  rcases h with h | ⟨h1, h2⟩
  · exact ⟨fun e => (by rw [h] at e; cases e), fun e => (by rw [h] at e; cases e), fun e => (by rw [h] at e; cases e)⟩
  · refine ⟨fun _ => h1, fun _ e => ?_, fun _ e => ?_⟩
    · rw [e, if_pos rfl] at h2; simpa using h2
    · rw [e, if_neg Bool.false_ne_true] at h2; simpa using h2
theorem line_of {x y z : UInt64} (h : chkLine x y z = true) : LineOk x y z := by
  simp only [chkLine, Bool.and_eq_true] at h
  obtain ⟨⟨⟨h1, h2⟩, h3⟩, h4⟩ := h
  refine ⟨h1, h2, fun e => ?_, h3, fun e => ?_⟩
  · rw [if_neg e, Bool.and_eq_true] at h4; exact h4.1
  · rw [if_neg e, Bool.and_eq_true] at h4; simpa using h4.2
structure ColourOk (a c q d : Int) : Prop where
  rgb : RgbOk (fX a c)
  hsv : HsvOk (fR a c q d).1 (fR a c q d).2.1 (fR a c q d).2.2
  hls : HlsOk (fR a c q d).1 (fR a c q d).2.1 (fR a c q d).2.2
  hsvl : LineOk (hsvF (fR a c q d).1 (fR a c q d).2.1 (fR a c q d).2.2).1 (hsvF (fR a c q d).1 (fR a c q d).2.1 (fR a c q d).2.2).2.2 (Float64.mul (hsvF (fR a c q d).1 (fR a c q d).2.1 (fR a c q d).2.2).2.1 (hsvF (fR a c q d).1 (fR a c q d).2.1 (fR a c q d).2.2).2.2)
  hlsl : LineOk (hlsF (fR a c q d).1 (fR a c q d).2.1 (fR a c q d).2.2).1 (topF (fR a c q d).1 (fR a c q d).2.1 (fR a c q d).2.2) (spreadF (fR a c q d).1 (fR a c q d).2.1 (fR a c q d).2.2)
  seen : hsvLine (fR a c q d).1 (fR a c q d).2.1 (fR a c q d).2.2 = lineOf a q d
  told : hlsLine (fR a c q d).1 (fR a c q d).2.1 (fR a c q d).2.2 = lineOf a q d
theorem colour_ok {a c q d : Int} (ha : 0 ≤ a ∧ a ≤ 3) (hc : 0 ≤ c ∧ c ≤ 2) (hq : 0 ≤ q ∧ q ≤ 3) (hd : 0 ≤ d ∧ d ≤ 2) : ColourOk a c q d := by
  have h := chk_ok ha hc hq hd
  unfold chk at h
  simp only [Bool.and_eq_true, decide_eq_true_eq] at h
  obtain ⟨⟨⟨⟨⟨⟨h1, h2⟩, h3⟩, h4⟩, h5⟩, h6⟩, h7⟩ := h
  exact ⟨rgb_of h1, hsv_of h2, hls_of h3, line_of h4, line_of h5, h6, h7⟩
end
section
open PySem PySem.W PyProof.Rows PySem.Calls PySem.Flt PyProof.Rows.LCg
noncomputable abbrev cellNone : Obj := { cls := .type "cell", data := .cell none }
section
variable {M : Model} {A : Around} {E : Value → Shared → Prop} {s : Shared} {env : Env}
/-- the frame of a comprehension that has one cell of its own -/
theorem newEnv_c1 {scope : Scope} {cl : List (Str × Addr)} {x : Str} {Q : Env → Shared → Prop} (hcf : ∀ k, cellsFrom k scope.names cl = (x, k) :: cl) (hpc : ∀ h, pushCells h scope.names = h.push cellNone)
    (hQ : Q { scope := scope, locals := s.heap.objs.size, globals := env.globals, cells := (x, s.heap.objs.size + 1) :: cl, qual := env.qual, func := none, code := env.code, frame := env.frame, builtins := env.builtins } { s with heap := (s.heap.push { cls := .type "dict", data := .dict #[] }).push cellNone }) :
    wpAny M A (newFunctionEnv scope env.globals cl [] env.qual none .none (some env)) Q E s := by
  simp only [newFunctionEnv, Option.isSome_some, if_true]
  refine wpAny_bind (wpAny_alloc ?_)
  refine wpAny_bind (wpAny_layCells _ (fun name kind cells => by cases hkc : kind == NameKind.cell <;> simp [hkc]) _ _ _ _ ?_)
  rw [hcf, hpc]
  show wpAny _ _ _ _ _ _
  rw [List.forIn_nil]
  refine wpAny_bind (wpAny_pure (wpAny_pure ?_))
  rw [show (({ s with heap := s.heap.push { cls := .type "dict", data := .dict #[] } } : Shared)).heap.objs.size = s.heap.objs.size + 1 from Heap.size_push ..]
  exact hQ
end
noncomputable def Off4 (I C c D : Addr) (l : Ledger) : Prop := ∀ p ∈ l, @Ne Nat p.1 I ∧ @Ne Nat p.1 C ∧ @Ne Nat p.1 c ∧ @Ne Nat p.1 D
theorem off1_of {D : Addr} : ∀ {l : Ledger}, (∀ p ∈ l, @Ne Nat p.1 D) → Off1 D l
  | [], _ => trivial
  | _ :: _, h => ⟨h _ (.head _), off1_of fun p hp => h p (.tail _ hp)⟩
noncomputable def NoSeq (o : Obj) : Prop := ∀ xs n, o.data ≠ .seq xs n
structure Dist4 (I C c D : Addr) : Prop where
  a : @Ne Nat I C ∧ @Ne Nat I c ∧ @Ne Nat I D
  b : @Ne Nat C c ∧ @Ne Nat C D ∧ @Ne Nat c D
noncomputable def EndC (s : Shared) (h₀ : Heap) (L : Addr) (m : Str → Option Value) (I : Addr) (oI : Obj) (C : Addr) (oC : Obj) (c : Addr) (oc : Obj) (D : Addr) (ys : List Value) (r : Value → Ledger → Prop) (y : Value) (s' : Shared) : Prop :=
  ∃ h' tk' news', s' = { s with heap := h', toks := tk' } ∧ Fr h₀ L h' m ∧ News h₀ L h' ((I, oI) :: (C, oC) :: (c, oc) :: (D, lst ys) :: news') ∧ Off4 I C c D news' ∧ r y news'
section
variable {prog : Program} {w : World} {A : Around} {E : Value → Shared → Prop} {s : Shared} {h₀ : Heap} {L : Addr} {m : Str → Option Value} {env : Env}
theorem block_C {elt iter : PySem.Expr} {x : Str} {px : Pos} {scope : Scope} {cl : List (Str × Addr)} {pos : Pos} {s₂ : Shared} {I : Addr} {n : Nat} {P : Nat → Value → Prop} {St : Nat → Heap → Prop} {news : Ledger} {RR : Value → Addr → Result → Shared → Prop}
    (W : Walks prog w A I [I] [I] n P St) (hsz : n ≤ sizeLine) (hIo : ∀ i h, St i h → ∃ o, h.get? I = some o ∧ NoSeq o) (hSt : ∀ i h h' o, St i h → h.get? I = some o → h'.get? I = some o → St i h')
    (hcf : ∀ k, cellsFrom k scope.names cl = (x, k) :: cl) (hpc : ∀ h, pushCells h scope.names = h.push cellNone) (hkind : scope.kind = .function) (hx : (relabel scope env).names.lookup x = some .cell) (hst : St 0 s₂.heap) (hI : @LT.lt Nat _ I s₂.heap.objs.size)
    (F : Fr h₀ L s₂.heap m) (N : News h₀ L s₂.heap news) (hIL : @Ne Nat L I) (hI₀ : h₀.get? I = none) (off : ∀ p ∈ news, @Ne Nat p.1 I)
    (J : Nat → List Value → Ledger → Prop) (h0 : J 0 [] news)
    (step : ∀ i ys news v oI C oC c oc D h tk (E' : Value → Shared → Prop), i < n → J i ys news → P i v → oc.data = .cell (some v) → NoSeq oI → NoSeq oC → Fr h₀ L h m → News h₀ L h ((I, oI) :: (C, oC) :: (c, oc) :: (D, lst ys) :: news) → Off4 I C c D news → Dist4 I C c D →
      wpAny (model prog w) A (eval elt (compEnvC scope ((x, c) :: cl) C env)) (EndC s₂ h₀ L m I oI C oC c oc D ys (fun y news' => J (i + 1) (ys ++ [y]) news')) E' { s₂ with heap := h, toks := tk })
    (hRR : ∀ D C h tk m' ys news', J n ys news' → Fr h₀ L h m → News h₀ L h ((D, lst ys) :: news') → (∀ p ∈ news', @Ne Nat p.1 D ∧ @Ne Nat p.1 C) → h.Ns C m' → h₀.get? C = none → @Ne Nat C L → @Ne Nat C D → RR (.ref D) C (.ok .next) { s₂ with heap := h, toks := tk }) :
    wpAny (model prog w) A (newList []) (fun acc s₃ => wpAny (model prog w) A (newFunctionEnv scope env.globals cl [] env.qual none .none (some env)) (fun cenv s₄ =>
      codeAny (model prog w) A (.compStart (.ListComp elt [⟨.Name x px, iter, [], 0⟩] scope pos) 0 (.ref I) acc { cenv with scope := relabel scope env }) (RR acc cenv.locals) s₄) E s₃) E s₂ := by
  refine wpAny_newObj_type (newEnv_c1 hcf hpc ?_)
  dsimp only
  have hs1 : (s₂.heap.push { cls := .type "list", dict := none, data := .seq ([] : List Value).toArray }).objs.size = s₂.heap.objs.size + 1 := Heap.size_push ..
  rw [hs1]
  generalize hB : s₂.heap.objs.size = B at hI
  let D := B
  let C := B + 1
  let c := B + 1 + 1
  have up : ∀ b o, s₂.heap.get? b = some o → (((s₂.heap.push { cls := .type "list", dict := none, data := .seq ([] : List Value).toArray }).push { cls := .type "dict", data := .dict #[] }).push cellNone).get? b = some o := fun b o e => Heap.get?_push_of_some _ (Heap.get?_push_of_some _ (Heap.get?_push_of_some _ e))
  have gD : (((s₂.heap.push { cls := .type "list", dict := none, data := .seq ([] : List Value).toArray }).push { cls := .type "dict", data := .dict #[] }).push cellNone).get? B = some (lst []) := by
    rw [← hB]; exact Heap.get?_push_of_some _ (Heap.get?_push_of_some _ (Heap.get?_push_size _ rfl))
  have gC : (((s₂.heap.push { cls := .type "list", dict := none, data := .seq ([] : List Value).toArray }).push { cls := .type "dict", data := .dict #[] }).push cellNone).Ns (B + 1) (fun _ => none) := by
    have := (Heap.Ns.new (s₂.heap.push { cls := .type "list", dict := none, data := .seq ([] : List Value).toArray }) (.type "dict"))
    rw [hs1, hB] at this
    exact this.keeps fun b o e => Heap.get?_push_of_some _ e
  have gc : (((s₂.heap.push { cls := .type "list", dict := none, data := .seq ([] : List Value).toArray }).push { cls := .type "dict", data := .dict #[] }).push cellNone).get? (B + 1 + 1) = some cellNone := by
    have e : ((s₂.heap.push { cls := .type "list", dict := none, data := .seq ([] : List Value).toArray }).push { cls := .type "dict", data := .dict #[] }).objs.size = B + 1 + 1 := by rw [Heap.size_push, hs1, hB]
    rw [← e]; exact Heap.get?_push_size _ rfl
  generalize (((s₂.heap.push { cls := .type "list", dict := none, data := .seq ([] : List Value).toArray }).push { cls := .type "dict", data := .dict #[] }).push cellNone) = H at up gD gC gc
  have fresh : ∀ a : Nat, B ≤ a → h₀.get? a = none := fun a ha => by
    cases e : h₀.get? a with
    | none => rfl
    | some o' => have := Heap.lt_size (F.keep a o' e); rw [hB] at this; exact absurd this (Nat.not_lt.mpr ha)
  have hLlt : @LT.lt Nat _ L B := by have := F.ns.lt; rwa [hB] at this
  have ltN : ∀ p ∈ news, @LT.lt Nat _ p.1 B := fun p hp => by have := Heap.lt_size (N p hp).1; rwa [hB] at this
  have d4 : Dist4 I (B + 1) (B + 1 + 1) B := ⟨⟨by omega, by omega, by omega⟩, ⟨by omega, by omega, by omega⟩⟩
  have off0 : Off4 I (B + 1) (B + 1 + 1) B news := fun p hp => by have := ltN p hp; exact ⟨off p hp, by omega, by omega, by omega⟩
  have fC := fresh (B + 1) (by omega)
  have fc := fresh (B + 1 + 1) (by omega)
  have fD := fresh B (Nat.le_refl _)
  have nCL : @Ne Nat (B + 1) L := by omega
  have ncL : @Ne Nat (B + 1 + 1) L := by omega
  have nDL : @Ne Nat B L := by omega
  obtain ⟨oC, eC, hoC⟩ := ns_obj gC
  have hnC : NoSeq oC := by obtain ⟨es, ep, hd, _⟩ := hoC; intro xs n e; rw [hd] at e; cases e
  have loop : codeAny (model prog w) A (.compLoop (.ListComp elt [⟨.Name x px, iter, [], 0⟩] scope pos) 0 (.ref I) (.ref B) (compEnvC scope ((x, B + 1 + 1) :: cl) (B + 1) env)) (RR (.ref B) (B + 1)) { s₂ with heap := H } := by
    refine codeAny_compLoop_tests
      (fun k s' => ∃ h' tk i ys news' oc, s' = { s₂ with heap := h', toks := tk } ∧ i ≤ n ∧ k = n + 1 - i ∧ ys.length = i ∧ St i h' ∧ Fr h₀ L h' m ∧ News h₀ L h' ((B + 1, oC) :: (B + 1 + 1, oc) :: (B, lst ys) :: news') ∧ (∃ v₀, oc.data = .cell v₀) ∧ Off4 I (B + 1) (B + 1 + 1) B news' ∧ J i ys news') ?_ (n + 1)
      ⟨H, s₂.toks, 0, [], news, cellNone, rfl, Nat.zero_le _, rfl, rfl, W.frame _ _ _ hst (fun b _ o e => up b o e), F.keeps up, fun p hp => ?_, ⟨_, rfl⟩, off0, h0⟩
    · rintro k s' ⟨h', tk, i, ys, news', oc, rfl, hi, rfl, hyl, hst', F', N', ⟨v₀, hoc⟩, off', hJ⟩
      by_cases hlt : i < n
      · refine W.item i _ _ _ hlt hst' fun v h₂ tk₂ hPv hst₂ hk₂ => ?_
        have k2 : ∀ b : Nat, b ≠ I → ∀ o, h'.get? b = some o → h₂.get? b = some o := fun b hb o e => hk₂ b o (by simpa using hb) e
        have gc2 := k2 _ (Ne.symm d4.a.2.1) _ (N' (B + 1 + 1, oc) (.tail _ (.head _))).1
        refine wpAny_assign_Name (wpAny_storeName_cell (c := B + 1 + 1) (v₀ := v₀) hkind hx (by simp [compEnvC]) ⟨oc, gc2, hoc⟩ fun h₃ hc₃ hs₃ => ?_)
        refine wpAny_tests_nil ?_
        simp only [if_true]
        obtain ⟨oc₃, ec₃, hoc₃⟩ := hc₃
        have k3 : ∀ b : Nat, b ≠ B + 1 + 1 → ∀ o, h₂.get? b = some o → h₃.get? b = some o := fun b hb o e => hs₃.extBut b o hb e
        have hst₃ : St (i + 1) h₃ := W.frame _ _ _ hst₂ fun b hb o e => k3 b (by rw [List.mem_singleton.mp hb]; exact d4.a.2.1) o e
        obtain ⟨oI, heI, hnI⟩ := hIo _ _ hst₃
        have F₃ : Fr h₀ L h₃ m := (fr_but F' hk₂ hIL hI₀).change hs₃ ncL fc
        have N₃ : News h₀ L h₃ ((I, oI) :: (B + 1, oC) :: (B + 1 + 1, oc₃) :: (B, lst ys) :: news') := fun p hp => by
          rcases List.mem_cons.mp hp with rfl | hp
          · exact ⟨heI, Ne.symm hIL, hI₀⟩
          · rcases List.mem_cons.mp hp with rfl | hp
            · exact ⟨k3 _ d4.b.1 _ (k2 _ (Ne.symm d4.a.1) _ (N' (B + 1, oC) (.head _)).1), nCL, fC⟩
            · rcases List.mem_cons.mp hp with rfl | hp
              · exact ⟨ec₃, ncL, fc⟩
              · rcases List.mem_cons.mp hp with rfl | hp
                · exact ⟨k3 _ (Ne.symm d4.b.2.2) _ (k2 _ (Ne.symm d4.a.2.2) _ (N' (B, lst ys) (.tail _ (.tail _ (.head _)))).1), nDL, fD⟩
                · have z := N' p (.tail _ (.tail _ (.tail _ hp)))
                  exact ⟨k3 _ (off' p hp).2.2.1 _ (k2 _ (off' p hp).1 _ z.1), z.2⟩
        refine wpAny_mono (step i ys news' v oI (B + 1) oC (B + 1 + 1) oc₃ B h₃ _ _ hlt hJ hPv hoc₃ hnI hnC F₃ N₃ off' d4) (fun y s₄ h₄ => ?_) fun _ _ e => e
        obtain ⟨h₄, tk₄, news₄, rfl, F₄, N₄, off₄, J₄⟩ := h₄
        have zI := (N₄ (I, oI) (.head _)).1
        have zD := (N₄ (B, lst ys) (.tail _ (.tail _ (.tail _ (.head _))))).1
        have hst₄ : St (i + 1) h₄ := hSt _ _ _ _ hst₃ heI zI
        refine append_at (hsz := by show ys.toArray.size ≤ sizeLine; rw [List.size_toArray, hyl]; exact Nat.le_trans hi hsz) zD fun h₅ hs₅ hD₅ => ?_
        have k5 : ∀ b : Nat, b ≠ B → ∀ o, h₄.get? b = some o → h₅.get? b = some o := fun b hb o e => hs₅.extBut b o hb e
        refine ⟨n + 1 - (i + 1), by omega, h₅, tk₄, i + 1, ys ++ [y], news₄, oc₃, rfl, hlt, rfl, by rw [List.length_append, List.length_singleton, hyl], W.frame _ _ _ hst₄ (fun b hb o e => k5 b (by rw [List.mem_singleton.mp hb]; exact d4.a.2.2) o e), F₄.change hs₅ nDL fD, fun p hp => ?_, ⟨_, hoc₃⟩, off₄, J₄⟩
        rcases List.mem_cons.mp hp with rfl | hp
        · exact ⟨k5 _ d4.b.2.1 _ (N₄ (B + 1, oC) (.tail _ (.head _))).1, nCL, fC⟩
        · rcases List.mem_cons.mp hp with rfl | hp
          · exact ⟨k5 _ d4.b.2.2 _ (N₄ (B + 1 + 1, oc₃) (.tail _ (.tail _ (.head _)))).1, ncL, fc⟩
          · rcases List.mem_cons.mp hp with rfl | hp
            · exact ⟨hD₅.trans (congrArg some (lst_snoc ys y)), nDL, fD⟩
            · have z := N₄ p (.tail _ (.tail _ (.tail _ (.tail _ hp))))
              exact ⟨k5 _ (off₄ p hp).2.2.2 _ z.1, z.2⟩
      · obtain rfl : i = n := Nat.le_antisymm hi (Nat.not_lt.mp hlt)
        refine W.done _ _ _ hst' fun h₂ tk₂ hk₂ => ?_
        have k2 : ∀ b : Nat, b ≠ I → ∀ o, h'.get? b = some o → h₂.get? b = some o := fun b hb o e => hk₂ b o (by simpa using hb) e
        refine hRR B (B + 1) h₂ tk₂ _ ys news' hJ (fr_but F' hk₂ hIL hI₀) (fun p hp => ?_) (fun p hp => ⟨(off' p hp).2.2.2, (off' p hp).2.1⟩) (hoC.ns (k2 _ (Ne.symm d4.a.1) _ (N' (B + 1, oC) (.head _)).1)) fC nCL d4.b.2.1
        rcases List.mem_cons.mp hp with rfl | hp
        · exact ⟨k2 _ (Ne.symm d4.a.2.2) _ (N' (B, lst ys) (.tail _ (.tail _ (.head _)))).1, nDL, fD⟩
        · have z := N' p (.tail _ (.tail _ (.tail _ hp)))
          exact ⟨k2 _ (off' p hp).1 _ z.1, z.2⟩
    · rcases List.mem_cons.mp hp with rfl | hp
      · exact ⟨eC, nCL, fC⟩
      · rcases List.mem_cons.mp hp with rfl | hp
        · exact ⟨gc, ncL, fc⟩
        · rcases List.mem_cons.mp hp with rfl | hp
          · exact ⟨gD, nDL, fD⟩
          · exact ⟨up _ _ (N p hp).1, (N p hp).2⟩
  exact codeAny_compStart_list loop (W.self 0 _ _ _ (W.frame _ _ _ hst (fun b _ o e => up b o e)) loop)
noncomputable def RestC (prog : Program) (w : World) (A : Around) (h₀ : Heap) (L : Addr) (m : Str → Option Value) (env : Env) (elt : PySem.Expr) (x : Str) (scope : Scope) (cl : List (Str × Addr)) (a : Int) (n : Nat) (s : Shared) (news : Ledger) (Fin : List Value → Ledger → Prop) : Prop :=
  ∃ J : Nat → List Value → Ledger → Prop, J 0 [] news ∧
    (∀ i ys news v I oI C oC c oc D h tk (E' : Value → Shared → Prop), i < n → J i ys news → (∃ t, v = .int (a + (i : Int)) t) → oc.data = .cell (some v) → NoSeq oI → NoSeq oC → Fr h₀ L h m → News h₀ L h ((I, oI) :: (C, oC) :: (c, oc) :: (D, lst ys) :: news) → Off4 I C c D news → Dist4 I C c D →
      wpAny (model prog w) A (eval elt (compEnvC scope ((x, c) :: cl) C env)) (EndC s h₀ L m I oI C oC c oc D ys (fun y news' => J (i + 1) (ys ++ [y]) news')) E' { s with heap := h, toks := tk }) ∧
    ∀ ys news, J n ys news → Fin ys news
noncomputable def SrcC (prog : Program) (w : World) (A : Around) (h₀ : Heap) (L : Addr) (m : Str → Option Value) (env : Env) (elt : PySem.Expr) (x : Str) (scope : Scope) (cl : List (Str × Addr)) (Fin : Shared → List Value → Ledger → Prop) (xv : Value) (s₁ : Shared) : Prop :=
  ∃ r a b t u v n news, xv = .ref r ∧ A.handled = none ∧ Fr h₀ L s₁.heap m ∧ News h₀ L s₁.heap news ∧ IsRange s₁.heap r a b 1 t u v ∧ Builtin.Range.small a b 1 = true ∧ Builtin.Range.rangeSize a b 1 = ((n : Nat) : Int) ∧ n ≤ sizeLine ∧
    ∀ s₂ : Shared, (∃ h, s₂ = { s₁ with heap := h }) → RestC prog w A h₀ L m env elt x scope cl a n s₂ news (Fin s₂)
theorem SrcC.range {elt : PySem.Expr} {x : Str} {scope : Scope} {cl : List (Str × Addr)} {Fin : Shared → List Value → Ledger → Prop} {r : Addr} {a b : Int} {t u v : Tok} {n : Nat} {news : Ledger} {s₁ : Shared}
    (hh : A.handled = none) (F : Fr h₀ L s₁.heap m) (N : News h₀ L s₁.heap news) (hr : IsRange s₁.heap r a b 1 t u v) (hsm : Builtin.Range.small a b 1 = true) (hn : Builtin.Range.rangeSize a b 1 = ((n : Nat) : Int)) (hsz : n ≤ sizeLine)
    (h : ∀ g, RestC prog w A h₀ L m env elt x scope cl a n { s₁ with heap := g } news (Fin { s₁ with heap := g })) : SrcC prog w A h₀ L m env elt x scope cl Fin (.ref r) s₁ :=
  ⟨r, a, b, t, u, v, n, news, rfl, hh, F, N, hr, hsm, hn, hsz, fun _ ⟨g, e⟩ => e ▸ h g⟩
/-- y = [elt for x in range(..)], x a cell -/
theorem assign_comp_C {elt iter : PySem.Expr} {x y : Str} {px py : Pos} {scope : Scope} {cl : List (Str × Addr)} {pos spos : Pos} {Q : Flow → Shared → Prop} (F₀ : Fr h₀ L s.heap m) (hLe : env.locals = L)
    (hsw : swapsWith (.ListComp elt [⟨.Name x px, iter, [], 0⟩] scope pos) (some (.Name y py)) spos.line env = pure true)
    (hclos : closureFor scope env = pure cl) (hcf : ∀ k, cellsFrom k scope.names cl = (x, k) :: cl) (hpc : ∀ h, pushCells h scope.names = h.push cellNone) (hkind : scope.kind = .function) (hnames : ∀ z ∈ scope.names, z.2 = .local → scope.names.lookup z.1 = some .local) (hx : (relabel scope env).names.lookup x = some .cell)
    (hy : env.kindOf y = some .local) (hp : (env.scope.kind == .class || (env.scope.kind == .module && env.locals != env.globals)) = false)
    (h : wpAny (model prog w) A (eval iter env) (SrcC prog w A h₀ L m env elt x scope cl (fun s₂ => FinA h₀ L m s₂ y Q)) E s)
    (hs : ∀ x, foldedSetIterable iter env x = pure x := by intro _; rfl) :
    wpAny (model prog w) A (exec (.Assign [.Name y py] (.ListComp elt [⟨.Name x px, iter, [], 0⟩] scope pos) spos) env) Q E s := by
  subst hLe
  rw [exec_Assign_Name_used _ _ _ _ hsw]
  refine wpAny_bind (wpAny_standAt (wpAny_bind ?_))
  show wpAny _ A (do let _ ← comprehension (.ListComp elt [⟨.Name x px, iter, [], 0⟩] scope pos) scope env _ (newList []) false (eval iter env) (some (assign (.Name y py) env))) _ _ s
  refine wpAny_bind (wpAny_mono (wpAny_comprehension_free (use := some (assign (.Name y py) env)) (Q := fun _ s' => Q .next s') rfl hs hclos hkind hnames
    (wpAny_mono h (fun xv s₁ h₁ => ?_) fun _ _ e => e)) (fun _ s' hq => wpAny_pure (wpAny_pure hq)) fun _ _ e => e)
  obtain ⟨r, a, b, t, u, v, n, news, rfl, hh, F, N, hr, hsm, hn, hsz, R⟩ := h₁
  refine wpAny_pyIter_range hr hsm ?_
  obtain ⟨J, h0, step, fin⟩ := R _ ⟨_, rfl⟩
  refine block_C (range_walks hh a n) hsz (fun i h st => ⟨_, st, fun xs n e => by cases e⟩) (fun i h h' o st e e' => ?_) hcf hpc hkind hx (by show IsRangeIter _ _ _ _ _; rw [hn]; simpa using Heap.get?_push_size _ rfl) ?_
    (F.keeps fun _ _ e => Heap.get?_push_of_some _ e) (N.grown fun _ _ e => Heap.get?_push_of_some _ e) (Nat.ne_of_lt F.ns.lt) (next_is_new F) (fun p hp => Nat.ne_of_lt (Heap.lt_size (N p hp).1)) J h0 (fun i ys news v oI C oC c oc D h tk E' => step i ys news v _ oI C oC c oc D h tk E') ?_
  · have st' : h.get? _ = some _ := st
    show h'.get? _ = some _
    rw [e', ← e]; exact st'
  · show s₁.heap.objs.size < (s₁.heap.push _).objs.size
    rw [Heap.size_push]; exact Nat.lt_succ_self _
  · intro D C h' tk m' ys news' hJ F' N' o1 hn' hC₀ hCL hCD
    show wpAny _ A (assign (.Name y py) env (.ref D)) _ _ _
    refine wpAny_assign_Name (wpAny_storeName_local hy F'.ns (fun h₂ hn₂ hs₂ => ?_) hp)
    have hL₀ : h₀.get? env.locals = none := Heap.get?_none_of_le F'.above
    have F₂ : Fr h₀ env.locals h₂ (fun z => if z = y then some (.ref D) else m z) := ⟨hn₂, fun b o e => hs₂.extBut b o (fun q => by rw [q, hL₀] at e; cases e) (F'.keep b o e), F'.above⟩
    refine ⟨m', hn'.sameBut hs₂ hCL, fun h'' hs'' => fin ys news' hJ D h'' _ (F₂.change hs'' hCL hC₀) (fun p hp => ?_) (off1_of fun p hp => (o1 p hp).1)⟩
    have z : h₂.get? p.1 = some p.2 := hs₂.extBut _ _ (N' p hp).2.1 (N' p hp).1
    refine ⟨hs''.extBut _ _ ?_ z, (N' p hp).2⟩
    rcases List.mem_cons.mp hp with rfl | hp
    · exact Ne.symm hCD
    · exact (o1 p hp).2
end
end
section
open PySem PySem.W PyProof.Rows PySem.Calls PySem.Flt PyProof.Rows.LCg PyProof.Rows.LCt
theorem words_H8_1 : True := by
  k_with_none
  k_with "my use" => ((case k1 => k_asm); (case k2 => k_asm); (case k3 => k_asm); (case k4 => k_asm); (case k5 => k_asm); (case kK => first | exact rfl | assumption); (case kd => ktr_room); (case ku => ktr_units))
  k_with "getMethod ref" => (k_here; (with_reducible show wpAny _ _ (getMethod (Value.ref _) (Str.ofString "search") _) _ _ _); k_dflt (refine' pattern_method ?k1 ?k2 ?k3 ?k4 ?_; (case k1 => k_in); (case k2 => k_is); (case k3 => rfl); (case k4 => rfl)))
  k_with "call builtin:re.Pattern.search" => (k_here; k_dflt (refine' search_none ?k1 ?k2 ?k3 ?k4 ?_; (case k1 => k_in); (case k2 => k_is); (case k3 => rfl); (case k4 => first | with_reducible exact names_clean _ _ (by assumption) (by assumption) (by assumption) | with_reducible exact texts_clean _ _ (by assumption) | with_reducible exact names_clean _ _ (by assumption) (by assumption) (by decide))))
  k_with "call builtin:str.lower" => ((with_reducible show wpAny _ _ (call (Value.builtin "str.lower") [Value.str (nameOf _ _ _) _]) _ _ _); (refine lower_rule (by assumption) (by assumption) (by assumption) ?_))
  k_with "subscriptTail Name Constant ref int" => (k_here; k_dflt (refine' item_tupleT (News.isTup ?wH8N ?wH8m) ?wH8a ?wH8b ?wH8c ?wH8d ?_; (case wH8N => k_asm); (case wH8m => k_mem); (case wH8a => decide); (case wH8b => decide); (case wH8c => rfl); (case wH8d => rfl)))
  k_with "k_mem" => assumption
  k_with "setItem ref" => (k_here; (with_reducible show wpAny _ _ (setItem (Value.ref _) (Value.ref _) _) _ _ _); k_dflt (refine' setAll_K ?k1 ?k2 ?k3 ?k4 ?k5 ?k6 ?k7 ?_; (case k1 => k_asm); (case k2 => k_asm); (case k3 => k_mem); (case k4 => k_upd); (case k5 => k_ne); (case k6 => walk_at "my size"); (case k7 => walk_at "my size")); intro h' F' N'; (try k_sweep))
  k_with "k_all" => (refine tail_succ ?_; tbn_find)
  k_with "k_room" => ktr_room
  k_with "k_units" => ktr_units
  k_with "my enterC" => (refine' code_defC ?k1 ?k2 ?k3 ?k4 ?k5 ?kA ?kF ?kK ?k6 ?k7 ?k8 ?k9 ?kB ?kD ?_ ?wH8c2 ?wH8c3 ?wH8c4; (case kA => exact rfl); (case kF => exact rfl); (case kK => assumption); (case k1 => k_asm); (case k2 => k_asm); (case k3 => k_asm); (case k4 => k_asm); (case k5 => k_asm); (case k6 => k_is); (case k7 => k_is); (case k8 => ktr_room); (case k9 => exact BindsTo.of_eq rfl); (case kB => exact rfl); (case kD => decide +kernel); (case wH8c2 => exact rfl); (case wH8c3 => exact rfl); (case wH8c4 => exact rfl); k_whole; intro g' L' h' tk' cells' FG' F' N' Y' B' X' T' l1; (try k_lt l1); k_cells Y'; (try simp only [List.cons_append, List.nil_append] at N'); (try dsimp only); (try k_lift B'); (try k_fold))
  k_with "eval ListComp" => (k_here; lct_look; k_dflt (refine LCt.ListComp_T (F₀ := by k_asm) (by with_unfolding_all rfl) (by decide) (by rfl) (by decide) (by rfl) ?_); k_dflt lct_toSrc)
  k_with "CompSrcT" => (k_here; k_dflt (refine' LCt.CompSrcT.ledger (by rfl) ?k1 ?k2 ?k3 ?k4 ?_; (case k1 => k_asm); (case k2 => k_asm); (case k3 => k_mem); (case k4 => first | assumption | size_fits)); intro g')
  k_with "my size" => ((try rw [sizeLine_eq]); first | (rw [List.size_toArray]; omega) | (rw [List.size_toArray]; exact Nat.le_trans keepV_len (by omega)))
  k_with "my sub" => (intro p9 hp9; first | exact hp9 | exact .tail _ hp9 | exact .tail _ (.tail _ hp9) | exact .tail _ (.tail _ (.tail _ hp9)) | exact .tail _ (.tail _ (.tail _ (.tail _ hp9))) | exact .tail _ (.tail _ (.tail _ (.tail _ (.tail _ hp9)))))
  k_with "exec For Tuple Attribute" => (k_here; (rename Fr _ _ _ _ => lF'); (with_unfolding_all refine' For_turns lF' ?_; k_whole))
  k_with "my enter" => (refine' code_def ?k1 ?k2 ?k3 ?k4 ?k5 ?kA ?kF ?kK ?k6 ?k7 ?k8 ?k9 ?kB ?_ ?wH8c2 ?wH8c3 ?wH8c4 ?wH8c5; (case kA => exact rfl); (case kF => exact rfl); (case kK => assumption); (case k1 => k_asm); (case k2 => k_asm); (case k3 => k_asm); (case k4 => k_asm); (case k5 => k_asm); (case k6 => k_is); (case k7 => k_is); (case k8 => ktr_room); (case k9 => first | exact BindsTo.of_eq rfl | exact binds_K (by k_in) rfl (by k_is) rfl rfl rfl); (case wH8c5 => decide); (case kB => exact locs rfl); (case wH8c2 => exact rfl); (case wH8c3 => exact rfl); (case wH8c4 => exact rfl); k_whole; intro g' L' h' FG' F' N' B' X' T'; (try dsimp only); (try k_lift B'); (try k_fold))
  k_with "delItem ref str" => (k_here; (with_reducible show wpAny _ _ (delItem (Value.ref _) _) _ _ _); k_dflt (refine' delItem_own ?wH8F ?wH8X ?wH8I ?wH8hQ ?wH8hS ?wH8hF ?_; (case wH8F => k_asm); (case wH8X => k_asm); (case wH8I => k_inst); (case wH8hS => k_is); (case wH8hF => k_is); (case wH8hQ => k_is); k_whole))
  k_with "call builtin:list.append" => (k_here; (with_reducible show wpAny _ _ (call (Value.builtin _) [Value.ref _, _]) _ _ _); k_dflt (refine' append_K ?k1 ?k2 ?k3 ?_ ?wH8z; (case k1 => k_asm); (case k2 => k_asm); (case k3 => k_upd); (case wH8z => walk_at "my size"); k_whole); intro h' F' N'; (try k_sweep))
  trivial
section
variable {prog : Program} {w : World} {A : Around} {E : Value → Shared → Prop} {s : Shared} {h₀ : Heap} {env : Env} {target : PySem.Expr} {body : List Stmt} {Q : Flow → Shared → Prop}
theorem empty_loop {ax : Addr} {n : Nat} {m₀ : Str → Option Value} {news : Ledger}
    (hh : A.handled = none) (F : Fr h₀ env.locals s.heap m₀) (N : News h₀ env.locals s.heap news) (hm : (ax, W.listOf #[] n) ∈ news)
    (fin : ∀ h tk, Fr h₀ env.locals h m₀ → News h₀ env.locals h news → Q .next { s with heap := h, toks := tk }) :
    wpAny (model prog w) A (pyIter (.ref ax)) (fun it s₂ => TurnsAt prog w A h₀ env target body Q E it s₂) E s :=
  list_loop (vs := []) (fun _ m' n' => m' = m₀ ∧ n' = news) hh F N hm ⟨rfl, rfl⟩ (fun I i v m₁ news₁ h tk o hI hv => by simp at hv) (fun m' n' e h tk F' N' => by obtain ⟨rfl, rfl⟩ := e; exact fin h tk F' N')
end
section
variable {prog : Program} {w : World} {A : Around} {E : Value → Shared → Prop} {s : Shared} {h₀ : Heap} {L : Addr} {news : Ledger}
theorem item_four {value slice : Expr} {l : Addr} {a b c d : UInt64} {ta tb tc td : Tok} {n : Nat} {k : Int} {u : Tok} {Q : Value → Shared → Prop} (N : News h₀ L s.heap news) (hm : (l, W.listOf #[.float a ta, .float b tb, .float c tc, .float d td] n) ∈ news) (hk : 0 ≤ k ∧ k ≤ 3)
    (h : ∀ t, Q (.float (at4 a b c d k) t) s)
    (hs : subscripted slice false (.ref l) (.int k u) = operate [.ref l, .int k u] (getItem (.ref l) (.int k u)) := by with_unfolding_all rfl) (hg : ∀ r, letTemporaryGo value (.ref l) r = pure () := by intro _; with_unfolding_all rfl) :
    wpAny (model prog w) A (subscriptTail value slice (.ref l) (.int k u)) Q E s := by
  rcases four hk with rfl | rfl | rfl | rfl
  · exact item_list (News.isList N hm) (by decide) (by decide) rfl (h ta) hs hg
  · exact item_list (News.isList N hm) (by decide) (by decide) rfl (h tb) hs hg
  · exact item_list (News.isList N hm) (by decide) (by decide) rfl (h tc) hs hg
  · exact item_list (News.isList N hm) (by decide) (by decide) rfl (h td) hs hg
theorem item_three {value slice : Expr} {l : Addr} {a b c : UInt64} {ta tb tc : Tok} {n : Nat} {k : Int} {u : Tok} {Q : Value → Shared → Prop} (N : News h₀ L s.heap news) (hm : (l, W.listOf #[.float a ta, .float b tb, .float c tc] n) ∈ news) (hk : 0 ≤ k ∧ k ≤ 2)
    (h : ∀ t, Q (.float (at3 a b c k) t) s)
    (hs : subscripted slice false (.ref l) (.int k u) = operate [.ref l, .int k u] (getItem (.ref l) (.int k u)) := by with_unfolding_all rfl) (hg : ∀ r, letTemporaryGo value (.ref l) r = pure () := by intro _; with_unfolding_all rfl) :
    wpAny (model prog w) A (subscriptTail value slice (.ref l) (.int k u)) Q E s := by
  have : k = 0 ∨ k = 1 ∨ k = 2 := by omega
  rcases this with rfl | rfl | rfl
  · exact item_list (News.isList N hm) (by decide) (by decide) rfl (h ta) hs hg
  · exact item_list (News.isList N hm) (by decide) (by decide) rfl (h tb) hs hg
  · exact item_list (News.isList N hm) (by decide) (by decide) rfl (h tc) hs hg
end
theorem words_H8_2 : True := by
  k_with "subscriptTail Name Name ref int" => (k_here; k_dflt (first | (refine' item_four ?wH8N ?wH8m ?k ?_ ?wH8h1 ?wH8h2; (case wH8N => k_asm); (case wH8m => k_mem); (case k => assumption); (case wH8h1 => with_unfolding_all rfl); (case wH8h2 => (intro _; with_unfolding_all rfl)); intro t9) | (refine' item_three ?wH8N ?wH8m ?k ?_ ?wH8h1 ?wH8h2; (case wH8N => k_asm); (case wH8m => k_mem); (case k => assumption); (case wH8h1 => with_unfolding_all rfl); (case wH8h2 => (intro _; with_unfolding_all rfl)); intro t9)))
  k_with "exec For Tuple Name" => (k_here; (rename Fr _ _ _ _ => lF'); (with_unfolding_all refine' For_turns lF' ?_; k_whole))
  k_with "exec For Name Name cons nil" => (k_here; (rename Fr _ _ _ _ => lF'); (with_unfolding_all refine' For_turns lF' ?_; k_whole))
  k_with "pyIter ref" => (k_here; k_dflt (refine' empty_loop ?k1 ?k2 ?k3 ?k4 ?_; (case k1 => rfl); (case k2 => k_asm); (case k3 => k_asm); (case k4 => k_mem)); intro h' tk' F' N')
  trivial
noncomputable def itemOf (m : Int) : Item := if (m.fdiv 12).fmod 4 = 3 then ⟨4, (m.fdiv 4).fmod 3, 3, (m.fdiv 192).fmod 2⟩ else ⟨m.fmod 4, (m.fdiv 4).fmod 3, (m.fdiv 12).fmod 4, (m.fdiv 192).fmod 2⟩
noncomputable def deedOf (m : Int) : Int := (m.fdiv 48).fmod 4
noncomputable def rowOf (ms : List Int) : List Item := ms.foldl (fun row m => deedRow row (deedOf m) (itemOf m)) []
structure TurnFacts (m : Int) : Prop extends ColourOk (m.fmod 4) (m.fdiv 1152) ((m.fdiv 12).fmod 4) ((m.fdiv 4).fmod 3) where
  small : (m.fdiv 1152).natAbs < 2 ^ 1024 - 2 ^ 970
noncomputable abbrev tR (m : Int) : UInt64 × UInt64 × UInt64 := fR (m.fmod 4) (m.fdiv 1152) ((m.fdiv 12).fmod 4) ((m.fdiv 4).fmod 3)
theorem item_line {a q d g : Int} : (⟨(lineOf a q d).1, (lineOf a q d).2.1, (lineOf a q d).2.2, g⟩ : Item) = if q = 3 then ⟨4, d, 3, g⟩ else ⟨a, d, q, g⟩ := by
  unfold lineOf
  split <;> rfl
theorem itemOf_ok (m : Int) : (itemOf m).Ok := by
  have f4 : 0 ≤ m.fmod 4 ∧ m.fmod 4 ≤ 3 := by have := fmod4 m; omega
  have fd : 0 ≤ (m.fdiv 4).fmod 3 ∧ (m.fdiv 4).fmod 3 ≤ 2 := ⟨Int.fmod_nonneg_of_pos _ (by decide), Int.le_of_lt_add_one (Int.fmod_lt_of_pos _ (by decide))⟩
  have fp : 0 ≤ (m.fdiv 12).fmod 4 ∧ (m.fdiv 12).fmod 4 ≤ 3 := by have := fmod4 (m.fdiv 12); omega
  have fg : 0 ≤ (m.fdiv 192).fmod 2 ∧ (m.fdiv 192).fmod 2 ≤ 1 := ⟨Int.fmod_nonneg_of_pos _ (by decide), Int.le_of_lt_add_one (Int.fmod_lt_of_pos _ (by decide))⟩
  unfold itemOf
  split
  · constructor
    · exact ⟨by show (0 : Int) ≤ 4; decide, by show (4 : Int) ≤ 4; decide⟩
    · show 0 ≤ (m.fdiv 4).fmod 3 ∧ (m.fdiv 4).fmod 3 ≤ 3; omega
    · exact ⟨by show (0 : Int) ≤ 3; decide, by show (3 : Int) ≤ 3; decide⟩
    · exact fg
  · constructor
    · show 0 ≤ m.fmod 4 ∧ m.fmod 4 ≤ 4; omega
    · show 0 ≤ (m.fdiv 4).fmod 3 ∧ (m.fdiv 4).fmod 3 ≤ 3; omega
    · exact fp
    · exact fg
theorem turn_facts {m : Int} (hm : 0 ≤ m ∧ m < 3456) : TurnFacts m := by
  have f4 : 0 ≤ m.fmod 4 ∧ m.fmod 4 ≤ 3 := by have := fmod4 m; omega
  have fd : 0 ≤ (m.fdiv 4).fmod 3 ∧ (m.fdiv 4).fmod 3 ≤ 2 := ⟨Int.fmod_nonneg_of_pos _ (by decide), Int.le_of_lt_add_one (Int.fmod_lt_of_pos _ (by decide))⟩
  have fp : 0 ≤ (m.fdiv 12).fmod 4 ∧ (m.fdiv 12).fmod 4 ≤ 3 := by have := fmod4 (m.fdiv 12); omega
  have fc : 0 ≤ m.fdiv 1152 ∧ m.fdiv 1152 ≤ 2 := by
    have : m.fdiv 1152 = m / 1152 := Int.fdiv_eq_ediv_of_nonneg _ (by decide)
    omega
  exact ⟨colour_ok f4 fc fp fd, Nat.lt_of_lt_of_le (m := 3) (by omega) (by decide +kernel)⟩
theorem seen_item {m : Int} (C : TurnFacts m) : (⟨(hsvLine (tR m).1 (tR m).2.1 (tR m).2.2).1, (hsvLine (tR m).1 (tR m).2.1 (tR m).2.2).2.1, (hsvLine (tR m).1 (tR m).2.1 (tR m).2.2).2.2, (m.fdiv 192).fmod 2⟩ : Item) = itemOf m := by
  rw [C.seen]; exact item_line
theorem told_item {m : Int} (C : TurnFacts m) : (⟨(hlsLine (tR m).1 (tR m).2.1 (tR m).2.2).1, (hlsLine (tR m).1 (tR m).2.1 (tR m).2.2).2.1, (hlsLine (tR m).1 (tR m).2.1 (tR m).2.2).2.2, (m.fdiv 192).fmod 2⟩ : Item) = itemOf m := by
  rw [C.told]; exact item_line
theorem seen_ok {m : Int} (C : TurnFacts m) : (⟨(hsvLine (tR m).1 (tR m).2.1 (tR m).2.2).1, (hsvLine (tR m).1 (tR m).2.1 (tR m).2.2).2.1, (hsvLine (tR m).1 (tR m).2.1 (tR m).2.2).2.2, (m.fdiv 192).fmod 2⟩ : Item).Ok := by
  rw [seen_item C]; exact itemOf_ok m
theorem told_ok {m : Int} (C : TurnFacts m) : (⟨(hlsLine (tR m).1 (tR m).2.1 (tR m).2.2).1, (hlsLine (tR m).1 (tR m).2.1 (tR m).2.2).2.1, (hlsLine (tR m).1 (tR m).2.1 (tR m).2.2).2.2, (m.fdiv 192).fmod 2⟩ : Item).Ok := by
  rw [told_item C]; exact itemOf_ok m
theorem Post3.opened {f : UInt64 × UInt64 × UInt64} {news : Ledger} {r : Value} {news' : Ledger} (h : Post3 f news r news') : ∃ D t5 t6 t7, r = .ref D ∧ news' = (D, tupOf [.float f.1 t5, .float f.2.1 t6, .float f.2.2 t7]) :: news ∧ ∀ p ∈ news, p.1 < D := h
theorem PostL.opened {x y : Str} {news : Ledger} {r : Value} {news' : Ledger} (h : PostL x y news r news') : ∃ D t5 t6, r = .ref D ∧ news' = (D, tupOf [.str x t5, .str y t6]) :: news ∧ ∀ p ∈ news, p.1 < D := h
theorem fresh_of {l T : Ledger} {D : Addr} (h : ∀ p ∈ l, p.1 < D) (s : ∀ p ∈ T, p ∈ l) : ∀ p ∈ T, @Ne Nat p.1 D := fun p hp => Nat.ne_of_lt (h p (s p hp))
theorem words_H8_3 : True := by
  k_with "my tails" => (intro p9 hp9; (repeat with_reducible apply List.mem_cons_of_mem); exact hp9)
  k_with "my tailsT" => (intro p9 hp9; (repeat with_reducible apply List.mem_cons_of_mem); exact nf_mem hp9)
  k_with "my fresh" => first | (refine fresh_of (by assumption) ?_; walk_at "my tailsT") | (refine fresh_of (allLt_to (by assumption)) ?_; walk_at "my tailsT")
  k_with "my nfin" => first | k_mem | exact nf_mem (by assumption) | ((repeat with_reducible apply List.mem_cons_of_mem); exact nf_mem (by assumption))
  k_with "my pure" => first | with_reducible assumption | assumption
  k_with "call ref" => ((with_reducible show wpAny _ _ (call (Value.ref 59) _) _ _ _); k_dflt (refine' Ctr.use (hsv_rgb _ _ _ _ _ _ _ _ ?kO) ?k1 ?k2 ?k3 ?k4 ?k5 ?kK ?kd ?ku ?_; walk_at "my use"); (case kO => with_reducible exact CF.rgb); intro r9 news9 h9 tk9 F' N' hp9; (have hq9 := Post3.opened hp9); clear hp9; (obtain ⟨D', t5', t6', t7', hr9, hn9, l1⟩ := hq9); subst hr9; subst hn9; (try k_sweep); (try dsimp only))
  k_with "call ref" => ((with_reducible show wpAny _ _ (call (Value.ref 237) _) _ _ _); k_dflt (refine' Ctr.use (by_hsv _ _ _ _ _ _ _ _ _ _ _ ?kg ?kO ?kl) ?k1 ?k2 ?k3 ?k4 ?k5 ?kK ?kd ?ku ?_; (case k1 => k_asm); (case k2 => k_asm); (case k3 => k_asm); (case k4 => exact news_more (by k_asm) (by walk_at "my nfin")); (case k5 => k_asm); (case kK => first | exact rfl | assumption); (case kd => ktr_room); (case ku => ktr_units)); (case kg => assumption); (case kO => with_reducible exact CF.hsv); (case kl => with_reducible exact CF.hsvl); intro r9 news9 h9 tk9 F' N' hp9; (have hq9 := PostL.opened hp9); clear hp9; (obtain ⟨D', t5', t6', hr9, hn9, l1⟩ := hq9); subst hr9; subst hn9; (try k_sweep); (try dsimp only))
  k_with "call ref" => ((with_reducible show wpAny _ _ (call (Value.ref 244) _) _ _ _); k_dflt (refine' Ctr.use (by_hls _ _ _ _ _ _ _ _ _ _ _ ?kg ?kO ?kl) ?k1 ?k2 ?k3 ?k4 ?k5 ?kK ?kd ?ku ?_; (case k1 => k_asm); (case k2 => k_asm); (case k3 => k_asm); (case k4 => exact news_more (by k_asm) (by walk_at "my nfin")); (case k5 => k_asm); (case kK => first | exact rfl | assumption); (case kd => ktr_room); (case ku => ktr_units)); (case kg => assumption); (case kO => with_reducible exact CF.hls); (case kl => with_reducible exact CF.hlsl); intro r9 news9 h9 tk9 F' N' hp9; (have hq9 := PostL.opened hp9); clear hp9; (obtain ⟨D', t5', t6', hr9, hn9, l1⟩ := hq9); subst hr9; subst hn9; (try k_sweep); (try dsimp only))
  k_with "call ref" => ((with_reducible show wpAny _ _ (call (Value.ref 251) [Value.ref (Two.x1 _), _, _]) _ _ _); k_dflt (refine' Ctr.use (deed_seen2 _ _ _ _ _ _ _ _ _ _ _ _ _ _ _ _ _ _ _ _ _ _ _ _ _ _ ?wH8s1 ?wH8s2 ?wH8s3 ?wH8s4 ?wH8s5 ?wH8s6 ?wH8s7 ?wH8s8 ?wH8s9 ?wH8s10 ?wH8s11) ?k1 ?k2 ?k3 ?k4 ?k5 ?kK ?kd ?ku ?_; walk_at "my use"; (case wH8s1 => walk_at "my tails"); (case wH8s2 => k_mem); (case wH8s3 => k_mem); (case wH8s4 => assumption); (case wH8s5 => assumption); (case wH8s6 => assumption); (case wH8s7 => assumption); (case wH8s8 => with_reducible exact seen_ok CF); (case wH8s9 => assumption); (case wH8s10 => walk_at "my fresh"); (case wH8s11 => walk_at "my fresh")); intro r9 news9 h9 tk9 F' N' hp9; (obtain ⟨vsA, nA, TA, hn9, hsubA, hnewA, hctA, hoffA, hdatA⟩ := hp9); subst hn9; (try k_sweep); (try dsimp only))
  k_with "call ref" => ((with_reducible show wpAny _ _ (call (Value.ref 251) [Value.ref (Two.x2 _), _, _]) _ _ _); k_dflt (refine' Ctr.use (deed_told2 _ _ _ _ _ _ _ _ _ _ _ _ _ _ _ _ _ _ _ ?wH8s1 ?wH8s2 ?wH8s4 ?wH8s5 ?wH8s6 ?wH8s7 ?wH8s8 ?wH8s9 ?wH8s10) ?k1 ?k2 ?k3 ?k4 ?k5 ?kK ?kd ?ku ?_; walk_at "my use"; (case wH8s1 => walk_at "my tails"); (case wH8s2 => k_mem); (case wH8s4 => assumption); (case wH8s5 => exact DatAll.mono hsubA (by assumption)); (case wH8s6 => assumption); (case wH8s7 => assumption); (case wH8s8 => with_reducible exact told_ok CF); (case wH8s9 => assumption); (case wH8s10 => walk_at "my fresh")); intro r9 news9 h9 tk9 F' N' hp9; (obtain ⟨vsB, nB, TB, hn9, hsubB, hnewB, hoffB, hdatB⟩ := hp9); subst hn9; (try k_sweep); (try dsimp only))
  k_with "call ref" => ((with_reducible show wpAny _ _ (call (Value.ref 256) _) _ _ _); k_dflt (refine' Ctr.use (own_nf2 _ _ _ _ _ _ _ _ _ _ _ _ _ _ _ _ _ _ _ _ _ _ _ _ _ ?wH8s1 ?wH8s2 ?wH8s3 ?wH8s4 ?wH8s5 ?wH8s6 ?wH8s7 ?wH8s8) ?k1 ?k2 ?k3 ?k4 ?k5 ?kK ?kd ?ku ?_; walk_at "my use"; (case wH8s1 => walk_at "my tails"); (case wH8s2 => k_mem); (case wH8s3 => assumption); (case wH8s4 => exact DatAll.mono hsubB (DatAll.mono hsubA (by assumption))); (case wH8s5 => exact hsubB _ (hsubA _ (by assumption))); (case wH8s6 => assumption); (case wH8s7 => assumption); (case wH8s8 => walk_at "my fresh")); intro r9 news9 h9 tk9 F' N' hp9; (obtain ⟨DC, vsC, nC, TC, hr9, hn9, hsubC, hnewC, hoffC, hmemC, hlrC, hdatC⟩ := hp9); subst hr9; subst hn9; (try k_sweep); (try dsimp only))
  trivial
theorem rowOf_step {ms : List Int} {i : Nat} {m : Int} (hm : ms[i]? = some m) : rowOf (ms.take (i + 1)) = deedRow (rowOf (ms.take i)) (deedOf m) (itemOf m) := by
  rw [List.take_add_one, hm, rowOf, List.foldl_append]; rfl
theorem deedRow_sub {row : List Item} {deed : Int} {i : Item} : ∀ r ∈ deedRow row deed i, r ∈ row ∨ r = i := fun r hr => by
  simp only [deedRow] at hr
  split at hr
  · exact .inl (List.mem_filter.mp hr).1
  · split at hr
    · rcases List.mem_append.mp hr with h | h
      · exact .inl (List.mem_filter.mp h).1
      · exact .inr (List.mem_singleton.mp h)
    · split at hr
      · exact .inl hr
      · rcases List.mem_append.mp hr with h | h
        · exact .inl h
        · exact .inr (List.mem_singleton.mp h)
theorem deedRow_len {row : List Item} {deed : Int} {i : Item} : (deedRow row deed i).length ≤ row.length + 1 := by
  have h := List.length_filter_le (other i.p i.d) row
  simp only [deedRow]
  split
  · omega
  · split
    · simp only [List.length_append, List.length_cons, List.length_nil]; omega
    · split
      · omega
      · simp only [List.length_append, List.length_cons, List.length_nil]; omega
theorem rowOf_snoc {ms : List Int} {m : Int} : rowOf (ms ++ [m]) = deedRow (rowOf ms) (deedOf m) (itemOf m) := by
  rw [rowOf, List.foldl_append]; rfl
theorem rowOf_ok (ms : List Int) : ∀ r ∈ rowOf ms, r.Ok := by
  have : ∀ (ms : List Int) (row : List Item), (∀ r ∈ row, r.Ok) → ∀ r ∈ ms.foldl (fun row m => deedRow row (deedOf m) (itemOf m)) row, r.Ok := by
    intro ms
    induction ms with
    | nil => intro row h; exact h
    | cons m ms ih =>
      intro row h
      refine ih _ fun r hr => ?_
      rcases deedRow_sub r hr with h' | rfl
      · exact h r h'
      · exact itemOf_ok m
  exact this ms [] fun r hr => nomatch hr
theorem rowOf_len (ms : List Int) : (rowOf ms).length ≤ ms.length := by
  have : ∀ (ms : List Int) (row : List Item), (ms.foldl (fun row m => deedRow row (deedOf m) (itemOf m)) row).length ≤ row.length + ms.length := by
    intro ms
    induction ms with
    | nil => intro row; exact Nat.le_refl _
    | cons m ms ih =>
      intro row
      have h1 := ih (deedRow row (deedOf m) (itemOf m))
      have h2 := deedRow_len (row := row) (deed := deedOf m) (i := itemOf m)
      simp only [List.foldl_cons, List.length_cons]
      omega
  have := this ms []
  simpa [rowOf] using this
theorem ints_at {vs : List Value} {ms : List Int} (h : IntsAre vs ms) : ∀ {i : Nat} {v : Value}, vs[i]? = some v → ∃ m t, v = .int m t ∧ ms[i]? = some m := by
  induction h with
  | nil => intro i v h; simp at h
  | cons k t r ih =>
    intro i v h
    cases i with
    | zero => simp only [List.getElem?_cons_zero, Option.some.injEq] at h; exact ⟨k, t, h.symm, rfl⟩
    | succ i => simp only [List.getElem?_cons_succ] at h ⊢; exact ih h
/-- a sheet as the ledger holds it -/
noncomputable def SheetIn (l : Ledger) (row : List Item) (D : Addr) : Prop :=
  ∃ (t : Two) (vs1 : List Value) (n1 : Nat) (vs2 : List Value) (n2 : Nat) (lr : Addr) (rvs : List Value) (nr k : Nat), (D, tupN [.ref t.x1, .ref t.x2, .ref lr] k) ∈ l ∧
    (∀ p ∈ tab t.x1 t.d1 t.l1 t.hs1 t.tk1 t.e1 vs1 n1 [], p ∈ l) ∧ (∀ p ∈ tab t.x2 t.d2 t.l2 t.hs2 t.tk2 t.e2 vs2 n2 [], p ∈ l) ∧ (lr, W.listOf rvs.toArray nr) ∈ l ∧
    DatAll l vs1 (row.map lineDat) ∧ DatAll l vs2 (row.map lineDat) ∧ DatAll l rvs (row.map itemDat)
theorem SheetIn.mono {l l' : Ledger} {row : List Item} {D : Addr} (h : SheetIn l row D) (s : ∀ p ∈ l, p ∈ l') : SheetIn l' row D := by
  obtain ⟨t, vs1, n1, vs2, n2, lr, rvs, nr, k, h1, h2, h3, h4, h5, h6, h7⟩ := h
  exact ⟨t, vs1, n1, vs2, n2, lr, rvs, nr, k, s _ h1, fun p hp => s _ (h2 p hp), fun p hp => s _ (h3 p hp), s _ h4, h5.mono s, h6.mono s, h7.mono s⟩
/-- what a sheet's deeds leave: its tables and its row stand off what was there -/
noncomputable def SheetPost (tl : Ledger) (row : List Item) (r : Value) (l : Ledger) : Prop :=
  ∃ D, r = .ref D ∧ (∀ p ∈ tl, p ∈ l) ∧ ∃ (t : Two) (vs1 : List Value) (n1 : Nat) (vs2 : List Value) (n2 : Nat) (lr : Addr) (rvs : List Value) (nr k : Nat), (D, tupN [.ref t.x1, .ref t.x2, .ref lr] k) ∈ l ∧
    (∀ p ∈ tab t.x1 t.d1 t.l1 t.hs1 t.tk1 t.e1 vs1 n1 [], p ∈ l ∧ ∀ q ∈ tl, @Ne Nat q.1 p.1) ∧ (∀ p ∈ tab t.x2 t.d2 t.l2 t.hs2 t.tk2 t.e2 vs2 n2 [], p ∈ l ∧ ∀ q ∈ tl, @Ne Nat q.1 p.1) ∧ ((lr, W.listOf rvs.toArray nr) ∈ l ∧ ∀ q ∈ tl, @Ne Nat q.1 lr) ∧
    DatAll l vs1 (row.map lineDat) ∧ DatAll l vs2 (row.map lineDat) ∧ DatAll l rvs (row.map itemDat)
/-- the sheet in a part of the ledger that keeps the tuples and what is new -/
theorem SheetPost.into {tl l l' : Ledger} {row : List Item} {r : Value} (h : SheetPost tl row r l) (ht : ∀ p ∈ l, p.2.cls = .type "tuple" → p ∈ l') (hn : ∀ p ∈ l, (∀ q ∈ tl, @Ne Nat q.1 p.1) → p ∈ l') : ∃ D, r = .ref D ∧ SheetIn l' row D := by
  obtain ⟨D, e, _, t, vs1, n1, vs2, n2, lr, rvs, nr, k, h1, h2, h3, h4, h5, h6, h7⟩ := h
  exact ⟨D, e, t, vs1, n1, vs2, n2, lr, rvs, nr, k, ht _ h1 rfl, fun p hp => hn p (h2 p hp).1 (h2 p hp).2, fun p hp => hn p (h3 p hp).1 (h3 p hp).2, hn _ h4.1 h4.2, datIn_tup ht line_flat h5, datIn_tup ht line_flat h6, datIn_tup ht item_flat h7⟩
theorem sheet_post {t : Two} {row : List Item} {tl : Ledger} {vs1 : List Value} {n1 : Nat} {vs2 : List Value} {n2 : Nat} {lr : Addr} {rvs : List Value} {nr : Nat} {T : Ledger} {D : Addr} {k : Nat}
    (hoff : t.Off0 T) (hS : Sheet t row tl vs1 vs2 lr rvs nr T) : SheetPost tl row (.ref D) ((D, tupN [.ref t.x1, .ref t.x2, .ref lr] k) :: NF0 t vs1 n1 vs2 n2 T) := by
  obtain ⟨_, _, _, off⟩ := hoff
  have sub : ∀ p ∈ T, p ∈ (D, tupN [.ref t.x1, .ref t.x2, .ref lr] k) :: NF0 t vs1 n1 vs2 n2 T := fun p hp => .tail _ (nf0_iff.mpr (.inr (.inr hp)))
  refine ⟨D, rfl, fun p hp => sub p (hS.sub p hp), t, vs1, n1, vs2, n2, lr, rvs, nr, k, .head _, fun p hp => ⟨.tail _ (nf0_iff.mpr (.inl hp)), fun q hq => ?_⟩, fun p hp => ⟨.tail _ (nf0_iff.mpr (.inr (.inl hp))), fun q hq => ?_⟩, ⟨sub _ hS.mem, hS.lrn⟩, hS.seen.mono sub, hS.told.mono sub, hS.own.mono sub⟩
  · obtain ⟨b1, b2, b3, b4, b5, b6⟩ := off q (hS.sub q hq)
    simp only [tab, List.mem_cons, List.not_mem_nil, or_false] at hp
    rcases hp with rfl | rfl | rfl
    · exact b1
    · exact b2
    · exact b3
  · obtain ⟨b1, b2, b3, b4, b5, b6⟩ := off q (hS.sub q hq)
    simp only [tab, List.mem_cons, List.not_mem_nil, or_false] at hp
    rcases hp with rfl | rfl | rfl
    · exact b4
    · exact b5
    · exact b6
theorem off0_of {tl : Ledger} {la da xa lb db xb lr : Addr} {o : Obj} {hs1 hs2 : Int} {tk1 tk2 : Tok} {e1 e2 : Nat} (h1 : ∀ p ∈ tl, p.1 < la) (h2 : @LT.lt Nat _ la da) (h3 : @LT.lt Nat _ da xa) (h4 : @LT.lt Nat _ xa lb) (h5 : @LT.lt Nat _ lb db) (h6 : @LT.lt Nat _ db xb) (h7 : @LT.lt Nat _ xb lr) :
    Two.Off0 ⟨xa, da, la, hs1, tk1, e1, xb, db, lb, hs2, tk2, e2⟩ ((lr, o) :: tl) := by
  have n : ∀ {a b : Nat}, a < b → a ≠ b := fun h => Nat.ne_of_lt h
  have hac := Nat.lt_trans h2 h3
  have had := Nat.lt_trans h3 h4
  have hab := Nat.lt_trans hac h4
  have hbc := Nat.lt_trans h5 h6
  refine ⟨⟨(n h3).symm, (n hac).symm, (n h2).symm⟩, ⟨(n h6).symm, (n hbc).symm, (n h5).symm⟩, ⟨n (Nat.lt_trans h4 hbc), n (Nat.lt_trans h4 h5), n h4, n (Nat.lt_trans had hbc), n (Nat.lt_trans had h5), n had, n (Nat.lt_trans hab hbc), n (Nat.lt_trans hab h5), n hab⟩, fun p hp => ?_⟩
  rcases List.mem_cons.mp hp with rfl | hp
  · have k1 := Nat.lt_trans h6 h7
    have k2 := Nat.lt_trans h5 k1
    have k3 := Nat.lt_trans h4 k2
    have k4 := Nat.lt_trans h3 k3
    exact ⟨(n k3).symm, (n k4).symm, (n (Nat.lt_trans h2 k4)).symm, (n h7).symm, (n k1).symm, (n k2).symm⟩
  · have h0 : @LT.lt Nat _ p.1 la := h1 p hp
    have j1 := Nat.lt_trans h0 h2
    have j2 := Nat.lt_trans j1 h3
    have j3 := Nat.lt_trans j2 h4
    have j4 := Nat.lt_trans j3 h5
    exact ⟨n j2, n j1, n h0, n (Nat.lt_trans j4 h6), n j4, n j3⟩
theorem turn_sheet {t : Two} {tl T TA TB TC : Ledger} {ms : List Int} {i : Nat} {m : Int} {vsA vsB vsC : List Value} {lr DC : Addr} {nC : Nat} {iA iB iC : Item} (hm : ms[i]? = some m)
    (hsub : ∀ p ∈ tl, p ∈ T) (hnew : FreshTo tl T) (hsubA : ∀ p ∈ T, p ∈ TA) (hnewA : FreshTo T TA) (hsubB : ∀ p ∈ TA, p ∈ TB) (hnewB : FreshTo TA TB) (hsubC : ∀ p ∈ TB, p ∈ TC) (hnewC : FreshTo TB TC) (hmemC : (DC, W.listOf vsC.toArray nC) ∈ TC) (hlrn : ∀ p ∈ tl, @Ne Nat p.1 lr) (hlrC : DC = lr ∨ ∀ p ∈ TB, @Ne Nat p.1 DC)
    (hA : DatAll TA vsA ((deedRow (rowOf (ms.take i)) ((m.fdiv 48).fmod 4) iA).map lineDat)) (hB : DatAll TB vsB ((deedRow (rowOf (ms.take i)) ((m.fdiv 48).fmod 4) iB).map lineDat)) (hC : DatAll TC vsC ((deedRow (rowOf (ms.take i)) ((m.fdiv 48).fmod 4) iC).map itemDat))
    (eA : iA = itemOf m) (eB : iB = itemOf m) (eC : iC = itemOf m) : Sheet t (rowOf (ms.take (i + 1))) tl vsA vsB DC vsC nC TC := by
  subst eA eB eC
  rw [rowOf_step hm]
  refine ⟨fun p hp => hsubC p (hsubB p (hsubA p (hsub p hp))), ?_, hA.mono fun p hp => hsubC p (hsubB p hp), hB.mono hsubC, hC, hmemC, hlrC.elim (fun e => e ▸ hlrn) fun h p hp => h p (hsubB p (hsubA p (hsub p hp)))⟩
  exact ((hnew.trans hnewA hsub).trans hnewB fun p hp => hsubA p (hsub p hp)).trans hnewC fun p hp => hsubB p (hsubA p (hsub p hp))
theorem item_grey {m : Int} (h : (m.fdiv 12).fmod 4 = 3) : (⟨4, (m.fdiv 4).fmod 3, 3, (m.fdiv 192).fmod 2⟩ : Item) = itemOf m := by unfold itemOf; rw [if_pos h]
theorem item_hued {m : Int} (h : (m.fdiv 12).fmod 4 ≠ 3) : (⟨m.fmod 4, (m.fdiv 4).fmod 3, (m.fdiv 12).fmod 4, (m.fdiv 192).fmod 2⟩ : Item) = itemOf m := by unfold itemOf; rw [if_neg h]
theorem hsheet (w : World) (tl : Ledger) (ln : Addr) (nvs : List Value) (nn : Nat) (ms : List Int) (hi : IntsAre nvs ms) (hms : ∀ m ∈ ms, 0 ≤ m ∧ m < 3456) (hsz : nvs.length ≤ 64) (hln : (ln, W.listOf nvs.toArray nn) ∈ tl) :
    Ctr w 30 263 [.ref ln] tl (SheetPost tl (rowOf ms)) := by
  intro loose mean mg mb dp un gd cn cs a ccd cl outer A₀ base h₀ L m s Q E B F X N T hk hdp hun hret
  refine wpAny_call ?_
  k_dflt (walk_at "my enter")
  k_steps
  refine sheet_loop (fun i => rowOf (ms.take i)) ⟨_, _, _, _, _, _, _, _, _, _, _, _⟩ _ _ _ _ rfl (by k_asm) (by k_asm) hln ?off ?lrf rfl rfl rfl rfl ?step ?fin
  case off => exact off0_of (by assumption) (And.left (by assumption)) (by assumption) (And.left (by assumption)) (And.left (by assumption)) (by assumption) (And.left (by assumption))
  case lrf => exact allLt_ne (And.right (And.right (And.right (And.right (And.right (And.right (by assumption)))))))
  case step =>
    intro t I i v vs1 n1 vs2 n2 lr rvs nr T u h tk o hv hoff hS F1 N1
    unfold sheetMap at F1
    obtain ⟨m, tm, rfl, hm⟩ : ∃ m tm, v = .int m tm ∧ ms[i]? = some m := ints_at hi hv
    have hmb : 0 ≤ m ∧ m < 3456 := hms m (List.mem_of_getElem? hm)
    have f4 : 0 ≤ m.fmod 4 ∧ m.fmod 4 ≤ 3 := by have := fmod4 m; omega
    have fd : 0 ≤ (m.fdiv 4).fmod 3 ∧ (m.fdiv 4).fmod 3 ≤ 2 := ⟨Int.fmod_nonneg_of_pos _ (by decide), Int.le_of_lt_add_one (Int.fmod_lt_of_pos _ (by decide))⟩
    have fp : 0 ≤ (m.fdiv 12).fmod 4 ∧ (m.fdiv 12).fmod 4 ≤ 3 := by have := fmod4 (m.fdiv 12); omega
    have fe : 0 ≤ (m.fdiv 48).fmod 4 ∧ (m.fdiv 48).fmod 4 ≤ 3 := by have := fmod4 (m.fdiv 48); omega
    have fg : 0 ≤ (m.fdiv 192).fmod 2 ∧ (m.fdiv 192).fmod 2 ≤ 1 := ⟨Int.fmod_nonneg_of_pos _ (by decide), Int.le_of_lt_add_one (Int.fmod_lt_of_pos _ (by decide))⟩
    have hrw : ∀ r ∈ rowOf (ms.take i), r.Ok := rowOf_ok _
    have hlen9 : (rowOf (ms.take i)).length ≤ 64 := Nat.le_trans (rowOf_len _) (by rw [List.length_take, ← hi.length]; omega)
    have hl1 : vs1.length ≤ 64 := by have := hS.seen.length; rw [List.length_map] at this; omega
    have hl2 : vs2.length ≤ 64 := by have := hS.told.length; rw [List.length_map] at this; omega
    have hl3 : rvs.length ≤ 64 := by have := hS.own.length; rw [List.length_map] at this; omega
    obtain ⟨hsub, hnew, hseen, htold, hown, hmem, hlrn⟩ := hS
    have fc : 0 ≤ m.fdiv 1152 ∧ m.fdiv 1152 ≤ 2 := by
      have : m.fdiv 1152 = m / 1152 := Int.fdiv_eq_ediv_of_nonneg _ (by decide)
      omega
    have CF := turn_facts hmb
    clear hmb fc
    k_steps
    · exact absurd CF.small (Nat.not_lt.mpr (by assumption))
    · exact sheet_turn (by assumption) (by assumption) (by assumption) (turn_sheet hm hsub hnew hsubA hnewA hsubB hnewB hsubC hnewC hmemC hlrn hlrC hdatA hdatB hdatC (seen_item CF) (told_item CF) (item_grey (by assumption))) rfl rfl rfl
    · exact sheet_turn (by assumption) (by assumption) (by assumption) (turn_sheet hm hsub hnew hsubA hnewA hsubB hnewB hsubC hnewC hmemC hlrn hlrC hdatA hdatB hdatC (seen_item CF) (told_item CF) (item_hued (by assumption))) rfl rfl rfl
  case fin =>
    intro t vs1 n1 vs2 n2 lr rvs nr T u h tk hoff hS F1 N1
    unfold sheetMap at F1
    rw [hi.length, List.take_length] at hS
    k_steps
    exact retT hret (by assumption) (by assumption) (fun p hp => hp) (sheet_post hoff hS)
end
section
open PySem PySem.W PyProof.Rows PySem.Calls PySem.Flt
/-! the plain law: finding lines in a text -/
noncomputable def fm (w : List Nat) : List Nat → Option Nat
  | [] => if w.isPrefixOf [] then some 0 else none
  | c :: t => if w.isPrefixOf (c :: t) then some 0 else (fm w t).map (· + 1)
theorem fm_nil (t : List Nat) : fm [] t = some 0 := by cases t <;> simp [fm]
theorem fm_skip {h c : Nat} {w t : List Nat} (e : c ≠ h) : fm (h :: w) (c :: t) = (fm (h :: w) t).map (· + 1) := by
  rw [fm, if_neg]
  simp [List.isPrefixOf, Ne.symm e]
theorem fm_skips {h : Nat} {w : List Nat} : ∀ {p t : List Nat}, h ∉ p → fm (h :: w) (p ++ t) = (fm (h :: w) t).map (· + p.length)
  | [], t, _ => by simp
  | c :: p, t, e => by
    rw [List.cons_append, fm_skip (fun x => e (by rw [x]; exact List.mem_cons_self ..)), fm_skips (fun x => e (List.mem_cons_of_mem _ x))]
    cases fm (h :: w) t <;> simp; omega
theorem pre_rep {a n D D' X X' : Nat} {u v : List Nat} (h1 : X ≠ D') (h2 : X' ≠ D) : (List.replicate a D ++ X :: u).isPrefixOf (List.replicate n D' ++ X' :: v) = true ↔ a = n ∧ (a = 0 ∨ D = D') ∧ X = X' ∧ u.isPrefixOf v = true := by
  induction a generalizing n with
  | zero =>
    cases n with
    | zero => simp [List.isPrefixOf]
    | succ n => simp [List.isPrefixOf, List.replicate_succ, h1]
  | succ a ih =>
    cases n with
    | zero => simp [List.isPrefixOf, List.replicate_succ, Ne.symm h2]
    | succ n =>
      simp only [List.replicate_succ, List.cons_append, List.isPrefixOf, Bool.and_eq_true, beq_iff_eq, ih]
      constructor
      · rintro ⟨rfl, rfl, _, rfl, h⟩; exact ⟨rfl, .inr rfl, rfl, h⟩
      · rintro ⟨e, h, rfl, h'⟩
        have : D = D' := by rcases h with h | h; cases h; exact h
        exact ⟨this, by omega, .inr this, rfl, h'⟩
theorem pre_rep2 {b n P c : Nat} {v : List Nat} (h : c ≠ P) : (List.replicate b P).isPrefixOf (List.replicate n P ++ c :: v) = true ↔ b ≤ n := by
  induction b generalizing n with
  | zero => simp
  | succ b ih =>
    cases n with
    | zero => simp [List.isPrefixOf, List.replicate_succ, Ne.symm h]
    | succ n => simp only [List.replicate_succ, List.cons_append, List.isPrefixOf, Bool.and_eq_true, beq_self_eq_true, ih, true_and]; omega
noncomputable def lineL (d D X q : Nat) : List Nat := List.replicate d D ++ X :: 58 :: 32 :: List.replicate q 112
/-- the signs that no line begins with -/
noncomputable def Plain (X : Nat) : Prop := X ∉ [58, 32, 112, 13, 10]
theorem head_of {a D X q : Nat} (hD : Plain D) (hX : Plain X) : ∃ h w, lineL a D X q = h :: w ∧ Plain h := by
  cases a with
  | zero => exact ⟨X, _, rfl, hX⟩
  | succ a => exact ⟨D, _, rfl, hD⟩
theorem fm_tail {h : Nat} {w t : List Nat} (hh : Plain h) (k : Nat) : fm (h :: w) (List.replicate k 112 ++ 13 :: 10 :: t) = (fm (h :: w) t).map (· + (k + 2)) := by
  unfold Plain at hh
  simp only [List.mem_cons, List.not_mem_nil, or_false, not_or] at hh
  have e : List.replicate k 112 ++ 13 :: 10 :: t = (List.replicate k 112 ++ [13, 10]) ++ t := by simp
  rw [e, fm_skips (p := List.replicate k 112 ++ [13, 10])]
  · simp
  · intro hm
    rcases List.mem_append.mp hm with hm | hm
    · exact hh.2.2.1 (List.mem_replicate.mp hm).2
    · simp only [List.mem_cons, List.not_mem_nil, or_false] at hm
      rcases hm with hm | hm
      · exact hh.2.2.2.1 hm
      · exact hh.2.2.2.2 hm
theorem pre_line {a D X q n D' X' q' : Nat} {t : List Nat} (h1 : X ≠ D') (h2 : X' ≠ D) : (lineL a D X q).isPrefixOf (lineL n D' X' q' ++ 13 :: 10 :: t) = true ↔ a = n ∧ (a = 0 ∨ D = D') ∧ X = X' ∧ q ≤ q' := by
  unfold lineL
  rw [List.append_assoc, List.cons_append, pre_rep h1 h2]
  simp only [List.cons_append, List.isPrefixOf, beq_self_eq_true, Bool.true_and]
  rw [pre_rep2 (by decide)]
theorem fm_miss {D X D' X' q q' : Nat} {t : List Nat} {a : Nat} (hD : Plain D) (hX : Plain X) (h1 : X ≠ D') (h2 : X' ≠ D) : ∀ {n : Nat}, ¬ (a ≤ n ∧ (a = 0 ∨ D = D') ∧ X = X' ∧ q ≤ q') →
    fm (lineL a D X q) (lineL n D' X' q' ++ 13 :: 10 :: t) = (fm (lineL a D X q) t).map (· + ((lineL n D' X' q').length + 2))
  | 0, hn => by
    obtain ⟨h, w, e, hh⟩ := head_of (a := a) (q := q) hD hX
    have hp : ¬ (lineL a D X q).isPrefixOf (lineL 0 D' X' q' ++ 13 :: 10 :: t) = true := fun hp => hn (by
      obtain ⟨x, y, z, u⟩ := (pre_line h1 h2).mp hp
      exact ⟨by omega, y, z, u⟩)
    have e2 : lineL 0 D' X' q' ++ 13 :: 10 :: t = X' :: ([58, 32] ++ (List.replicate q' 112 ++ 13 :: 10 :: t)) := by simp [lineL]
    rw [e2] at hp ⊢
    rw [fm, if_neg hp, e, fm_skips, fm_tail hh]
    · cases fm (h :: w) t <;> simp [lineL]; omega
    · unfold Plain at hh
      simp only [List.mem_cons, List.not_mem_nil, or_false, not_or] at hh ⊢
      exact ⟨hh.1, hh.2.1⟩
  | n + 1, hn => by
    have hp : ¬ (lineL a D X q).isPrefixOf (lineL (n + 1) D' X' q' ++ 13 :: 10 :: t) = true := fun hp => hn (by
      obtain ⟨x, y, z, u⟩ := (pre_line h1 h2).mp hp
      exact ⟨by omega, y, z, u⟩)
    have e2 : lineL (n + 1) D' X' q' ++ 13 :: 10 :: t = D' :: (lineL n D' X' q' ++ 13 :: 10 :: t) := by simp [lineL, List.replicate_succ]
    have e3 : (lineL (n + 1) D' X' q').length = (lineL n D' X' q').length + 1 := by simp [lineL, List.replicate_succ]
    rw [e2] at hp ⊢
    rw [fm, if_neg hp, fm_miss hD hX h1 h2 (n := n) (fun h => hn ⟨by omega, h.2⟩), e3]
    cases fm (lineL a D X q) t <;> simp; omega
theorem fm_hit {D X D' X' q q' : Nat} {t : List Nat} {a : Nat} (h1 : X ≠ D') (h2 : X' ≠ D) : ∀ {n : Nat}, (a ≤ n ∧ (a = 0 ∨ D = D') ∧ X = X' ∧ q ≤ q') →
    fm (lineL a D X q) (lineL n D' X' q' ++ 13 :: 10 :: t) = some (n - a)
  | n, ⟨hn, hm⟩ => by
    obtain ⟨k, rfl⟩ : ∃ k, n = a + k := ⟨n - a, by omega⟩
    clear hn
    induction k with
    | zero =>
      have hp := (pre_line (t := t) h1 h2).mpr (show a = a ∧ _ from ⟨rfl, hm⟩)
      have e2 : ∃ c r, lineL (a + 0) D' X' q' ++ 13 :: 10 :: t = c :: r := by
        cases a <;> exact ⟨_, _, rfl⟩
      obtain ⟨c, r, e2⟩ := e2
      rw [Nat.add_zero] at e2 ⊢
      rw [e2] at hp ⊢
      rw [fm, if_pos hp, Nat.sub_self]
    | succ k ih =>
      have hp : ¬ (lineL a D X q).isPrefixOf (lineL (a + (k + 1)) D' X' q' ++ 13 :: 10 :: t) = true := fun hp => by
        have := ((pre_line h1 h2).mp hp).1
        omega
      have e2 : lineL (a + (k + 1)) D' X' q' ++ 13 :: 10 :: t = D' :: (lineL (a + k) D' X' q' ++ 13 :: 10 :: t) := by rw [← Nat.add_assoc]; simp [lineL, List.replicate_succ]
      rw [e2] at hp ⊢
      rw [fm, if_neg hp, ih]
      simp
/-- the rest of the text behind a match -/
theorem hit_drop {D X D' X' q q' : Nat} {t : List Nat} {a n : Nat} (h : a ≤ n ∧ (a = 0 ∨ D = D') ∧ X = X' ∧ q ≤ q') :
    (lineL n D' X' q' ++ 13 :: 10 :: t).drop (n - a + (lineL a D X q).length) = List.replicate (q' - q) 112 ++ 13 :: 10 :: t := by
  obtain ⟨hn, _, _, hq⟩ := h
  obtain ⟨k, rfl⟩ : ∃ k, q' = q + k := ⟨q' - q, by omega⟩
  have e : lineL n D' X' (q + k) ++ 13 :: 10 :: t = lineL n D' X' q ++ (List.replicate k 112 ++ 13 :: 10 :: t) := by
    simp [lineL, ← List.replicate_append_replicate]
  have e2 : n - a + (lineL a D X q).length = (lineL n D' X' q).length := by simp [lineL]; omega
  rw [e, e2, List.drop_left]
  simp
end
section
open PySem PySem.W PyProof.Rows PySem.Calls PySem.Flt PySem.Builtin PySem.Builtin.Str
noncomputable def dch (g : Int) : Nat := if g = 1 then 68 else 100
noncomputable def lch (p g : Int) : Nat := if g = 1 then (if p = 0 then 82 else if p = 1 then 83 else if p = 2 then 84 else if p = 3 then 85 else 87) else (if p = 0 then 114 else if p = 1 then 115 else if p = 2 then 116 else if p = 3 then 117 else 119)
noncomputable def itemL (i : Item) : List Nat := lineL i.d.toNat (dch i.g) (lch i.p i.g) i.q.toNat
theorem name_cps {p d g : Int} (hp : 0 ≤ p ∧ p ≤ 4) (hd : 0 ≤ d ∧ d ≤ 3) (hg : 0 ≤ g ∧ g ≤ 1) : (nameOf p d g).cps.toList = List.replicate d.toNat (dch g) ++ [lch p g] := by
  rcases five hp with rfl | rfl | rfl | rfl | rfl <;> rcases four hd with rfl | rfl | rfl | rfl <;> rcases two hg with rfl | rfl <;> decide +kernel
theorem text_cps {q : Int} (hq : 0 ≤ q ∧ q ≤ 3) : (textOf q).cps.toList = List.replicate q.toNat 112 := by
  rcases four hq with rfl | rfl | rfl | rfl <;> decide +kernel
noncomputable def lineStr (i : Item) : Str := i.name ++ Str.ofString ": " ++ i.text
theorem line_cps {i : Item} (h : i.Ok) : (lineStr i).cps.toList = itemL i := by
  have e : (Str.ofString ": ").cps.toList = [58, 32] := by decide +kernel
  unfold lineStr Item.name Item.text
  rw [Str.cps_append, Str.cps_append, Array.toList_append, Array.toList_append, name_cps h.p h.d h.g, text_cps h.q, e]
  simp [itemL, lineL]
theorem lch_inj {p g p' g' : Int} (hp : 0 ≤ p ∧ p ≤ 4) (hg : 0 ≤ g ∧ g ≤ 1) (hp' : 0 ≤ p' ∧ p' ≤ 4) (hg' : 0 ≤ g' ∧ g' ≤ 1) : lch p g = lch p' g' ↔ p = p' ∧ g = g' := by
  rcases five hp with rfl | rfl | rfl | rfl | rfl <;> rcases two hg with rfl | rfl <;> rcases five hp' with rfl | rfl | rfl | rfl | rfl <;> rcases two hg' with rfl | rfl <;> decide +kernel
theorem plain_l {p g : Int} (hp : 0 ≤ p ∧ p ≤ 4) (hg : 0 ≤ g ∧ g ≤ 1) : Plain (lch p g) := by
  unfold Plain
  rcases five hp with rfl | rfl | rfl | rfl | rfl <;> rcases two hg with rfl | rfl <;> decide +kernel
theorem plain_d {g : Int} : Plain (dch g) := by
  unfold Plain dch
  split <;> decide
theorem l_ne_d {p g g' : Int} : lch p g ≠ dch g' := by
  unfold lch dch
  split <;> split <;> (repeat' split) <;> decide
theorem dot_line {i : Item} : 46 ∉ itemL i := by
  intro hm
  simp only [itemL, lineL, List.mem_append, List.mem_replicate, List.mem_cons] at hm
  have h1 : ∀ g, dch g ≠ 46 := fun g => by unfold dch; split <;> decide
  have h2 : lch i.p i.g ≠ 46 := by unfold lch; (repeat' split) <;> decide
  rcases hm with ⟨_, e⟩ | e | e | e | ⟨_, e⟩
  · exact h1 _ e.symm
  · exact h2 e.symm
  · cases e
  · cases e
  · cases e

noncomputable def fits (s l : Item) : Bool := decide (s.p = l.p ∧ s.g = l.g ∧ s.d ≤ l.d ∧ s.q ≤ l.q)
theorem fits_iff {s l : Item} (hs : s.Ok) (hl : l.Ok) : fits s l = true ↔ s.d.toNat ≤ l.d.toNat ∧ (s.d.toNat = 0 ∨ dch s.g = dch l.g) ∧ lch s.p s.g = lch l.p l.g ∧ s.q.toNat ≤ l.q.toNat := by
  unfold fits
  rw [decide_eq_true_eq, lch_inj hs.p hs.g hl.p hl.g]
  have h1 := hs.d
  have h2 := hl.d
  have h3 := hs.q
  have h4 := hl.q
  constructor
  · rintro ⟨a, b, c, d⟩
    exact ⟨by omega, .inr (by rw [b]), ⟨a, b⟩, by omega⟩
  · rintro ⟨a, _, ⟨c, d⟩, e⟩
    exact ⟨c, d, by omega, by omega⟩
noncomputable def textL (row : List Item) : List Nat := row.foldr (fun i t => itemL i ++ 13 :: 10 :: t) [13, 10]
noncomputable def el : List (List Nat) → List Nat → Bool
  | [], _ => true
  | w :: ws, t => match fm w t with | none => false | some i => el ws (t.drop (i + w.length))
theorem el_none {w : List Nat} {ws : List (List Nat)} {t : List Nat} (h : fm w t = none) : el (w :: ws) t = false := by rw [el, h]
theorem el_some {w : List Nat} {ws : List (List Nat)} {t : List Nat} {i : Nat} (h : fm w t = some i) : el (w :: ws) t = el ws (t.drop (i + w.length)) := by rw [el, h]
noncomputable def subM : List Item → List Item → Bool
  | [], _ => true
  | _ :: _, [] => false
  | s :: ss, l :: ls => if fits s l = true then subM ss ls else subM (s :: ss) ls
theorem el_shift {w p t : List Nat} {ws : List (List Nat)} (h : fm w (p ++ t) = (fm w t).map (· + p.length)) : el (w :: ws) (p ++ t) = el (w :: ws) t := by
  cases e : fm w t with
  | none => rw [e] at h; rw [el_none e, el_none h]
  | some i =>
    rw [e] at h
    rw [el_some e, el_some h]
    have e2 : i + p.length + w.length = p.length + (i + w.length) := by omega
    rw [e2, ← List.drop_drop, List.drop_left]
theorem el_empty {ws : List (List Nat)} {t : List Nat} : el ([] :: ws) t = el ws t := by
  rw [el_some (fm_nil t)]; rfl
theorem itemL_head (i : Item) (h : i.Ok) : ∃ c w, itemL i = c :: w ∧ Plain c := head_of plain_d (plain_l h.p h.g)
theorem el_k {small : List Item} (hs : ∀ i ∈ small, i.Ok) (k : Nat) (t : List Nat) : el (small.map itemL ++ [[]]) (List.replicate k 112 ++ 13 :: 10 :: t) = el (small.map itemL ++ [[]]) t := by
  cases small with
  | nil => simp only [List.map_nil, List.nil_append, el_empty]; rfl
  | cons s ss =>
    obtain ⟨c, w, e, hc⟩ := itemL_head s (hs s (.head _))
    have e2 : List.replicate k 112 ++ 13 :: 10 :: t = (List.replicate k 112 ++ [13, 10]) ++ t := by simp
    simp only [List.map_cons, List.cons_append]
    rw [e2]
    refine el_shift ?_
    rw [← e2, e, fm_tail hc]
    simp
theorem el_rows {small large : List Item} (hs : ∀ i ∈ small, i.Ok) (hl : ∀ i ∈ large, i.Ok) : el (small.map itemL ++ [[]]) (textL large) = subM small large := by
  induction large generalizing small with
  | nil =>
    cases small with
    | nil => simp only [List.map_nil, List.nil_append, el_empty]; rfl
    | cons s ss =>
      obtain ⟨c, w, e, hc⟩ := itemL_head s (hs s (.head _))
      refine el_none ?_
      rw [e]
      have := fm_tail (w := w) (t := []) hc 0
      simp only [List.replicate_zero, List.nil_append] at this
      show fm (c :: w) [13, 10] = none
      rw [this]
      rfl
  | cons l ls ih =>
    cases small with
    | nil => simp only [List.map_nil, List.nil_append, el_empty]; rfl
    | cons s ss =>
      have hs1 := hs s (.head _)
      have hl1 := hl l (.head _)
      have hss : ∀ i ∈ ss, i.Ok := fun i hi => hs i (.tail _ hi)
      have hls : ∀ i ∈ ls, i.Ok := fun i hi => hl i (.tail _ hi)
      have key := fits_iff hs1 hl1
      simp only [subM]
      by_cases hf : fits s l = true
      · rw [if_pos hf]
        have hc := key.mp hf
        have h1 : fm (itemL s) (itemL l ++ 13 :: 10 :: textL ls) = some (l.d.toNat - s.d.toNat) := fm_hit (t := textL ls) l_ne_d l_ne_d hc
        show el (itemL s :: (ss.map itemL ++ [[]])) (itemL l ++ 13 :: 10 :: textL ls) = _
        rw [el_some h1]
        have h2 := hit_drop (t := textL ls) hc
        rw [show (itemL l ++ 13 :: 10 :: textL ls).drop (l.d.toNat - s.d.toNat + (itemL s).length) = _ from h2, el_k hss]
        exact ih hss hls
      · rw [if_neg hf]
        have h1 := fm_miss (t := textL ls) (plain_d (g := s.g)) (plain_l hs1.p hs1.g) (l_ne_d (g' := l.g)) (l_ne_d (p := l.p) (g := l.g)) (fun h => hf (key.mpr h))
        rw [← ih hs hls]
        show el (itemL s :: (ss.map itemL ++ [[]])) (itemL l ++ 13 :: 10 :: textL ls) = _
        have e : itemL l ++ 13 :: 10 :: textL ls = (itemL l ++ [13, 10]) ++ textL ls := by simp
        rw [e]
        refine el_shift ?_
        rw [← e]
        refine Eq.trans h1 ?_
        simp [itemL]

inductive Emb : List Item → List Item → Prop
  | nil (l) : Emb [] l
  | cons {s l ss ls} : fits s l = true → Emb ss ls → Emb (s :: ss) (l :: ls)
  | skip {l ss ls} : Emb ss ls → Emb ss (l :: ls)
theorem Emb.less {ss ls : List Item} (h : Emb ss ls) : ∀ {s r}, ss = s :: r → Emb r ls := by
  induction h with
  | nil => intro s r e; cases e
  | cons _ h => intro s r e; cases e; exact .skip h
  | skip _ ih => intro s r e; exact .skip (ih e)
theorem subM_iff {ss ls : List Item} : subM ss ls = true ↔ Emb ss ls := by
  induction ls generalizing ss with
  | nil =>
    cases ss with
    | nil => simp [subM, Emb.nil]
    | cons s ss => simp only [subM, Bool.false_eq_true, false_iff]; intro h; cases h
  | cons l ls ih =>
    cases ss with
    | nil => simp [subM, Emb.nil]
    | cons s ss =>
      simp only [subM]
      by_cases hf : fits s l = true
      · rw [if_pos hf, ih]
        constructor
        · exact fun h => .cons hf h
        · intro h
          cases h with
          | cons _ h => exact h
          | skip h => exact h.less rfl
      · rw [if_neg hf, ih]
        constructor
        · exact fun h => .skip h
        · intro h
          cases h with
          | cons h' _ => exact absurd h' hf
          | skip h => exact h
theorem Emb.append {a b c d : List Item} (h : Emb a b) (k : Emb c d) : Emb (a ++ c) (b ++ d) := by
  induction h with
  | nil l =>
    induction l with
    | nil => exact k
    | cons x l ih => exact .skip ih
  | cons hf _ ih => exact .cons hf ih
  | skip _ ih => exact .skip ih
theorem Emb.rev {a b : List Item} (h : Emb a b) : Emb a.reverse b.reverse := by
  induction h with
  | nil l => exact .nil _
  | cons hf _ ih =>
    rw [List.reverse_cons, List.reverse_cons]
    exact ih.append (.cons hf (.nil _))
  | @skip l ss ls _ ih =>
    rw [List.reverse_cons]
    have := ih.append (Emb.nil [l])
    rwa [List.append_nil] at this
noncomputable def stepN (small : List Item) (left : Nat) (l : Item) : Nat :=
  if 0 < left ∧ (small[left - 1]?).any (fits · l) = true then left - 1 else left
noncomputable def withinN (small large : List Item) : Nat := large.reverse.foldl (stepN small) small.length
theorem fold_sub {small : List Item} : ∀ (ls : List Item) (k : Nat), k ≤ small.length → (ls.foldl (stepN small) k = 0 ↔ subM (small.take k).reverse ls = true)
  | [], 0, _ => by simp [subM]
  | [], k + 1, hk => by
    have e : (small.take (k + 1)).reverse = small[k] :: (small.take k).reverse := by rw [List.take_succ_eq_append_getElem (by omega)]; simp
    rw [e]; simp [subM]
  | l :: ls, 0, _ => by
    have : stepN small 0 l = 0 := by simp [stepN]
    rw [List.foldl_cons, this]
    have := fold_sub (small := small) ls 0 (Nat.zero_le _)
    rw [this]
    simp [subM]
  | l :: ls, k + 1, hk => by
    have e : (small.take (k + 1)).reverse = small[k] :: (small.take k).reverse := by rw [List.take_succ_eq_append_getElem (by omega)]; simp
    have e1 : small[k + 1 - 1]? = some small[k] := List.getElem?_eq_getElem (by omega)
    rw [List.foldl_cons, e]
    simp only [subM]
    by_cases hf : fits small[k] l = true
    · have : stepN small (k + 1) l = k := by unfold stepN; rw [e1, if_pos ⟨Nat.succ_pos _, hf⟩]; rfl
      rw [this, if_pos hf]
      exact fold_sub ls k (by omega)
    · have : stepN small (k + 1) l = k + 1 := by unfold stepN; rw [e1, if_neg fun h => hf h.2]
      rw [this, if_neg hf, fold_sub ls (k + 1) hk, e]
theorem within_sub (small large : List Item) : decide (withinN small large = 0) = subM small large := by
  have h := fold_sub (small := small) large.reverse small.length (Nat.le_refl _)
  rw [List.take_length] at h
  have h2 : subM small.reverse large.reverse = true ↔ subM small large = true := by
    rw [subM_iff, subM_iff]
    exact ⟨fun h => by have := h.rev; simpa using this, fun h => h.rev⟩
  unfold withinN
  cases e : subM small large with
  | true => exact decide_eq_true (h.mpr (h2.mpr e))
  | false =>
    refine decide_eq_false fun h' => ?_
    have := h2.mp (h.mp h')
    rw [e] at this
    cases this
end
section
open PySem PySem.W PyProof.Rows PySem.Calls PySem.Flt PySem.Builtin PySem.Builtin.Str
theorem fm_some {w : List Nat} : ∀ {t : List Nat} {i : Nat}, fm w t = some i → w.isPrefixOf (t.drop i) = true ∧ i ≤ t.length ∧ ∀ k, k < i → w.isPrefixOf (t.drop k) = false
  | [], i, h => by
    rw [fm] at h
    split at h
    · cases h; exact ⟨by assumption, Nat.le_refl _, fun k hk => absurd hk (Nat.not_lt_zero k)⟩
    · cases h
  | c :: t, i, h => by
    rw [fm] at h
    split at h
    · cases h; exact ⟨by assumption, Nat.zero_le _, fun k hk => absurd hk (Nat.not_lt_zero k)⟩
    · rename_i hn
      cases e : fm w t with
      | none => rw [e] at h; cases h
      | some j =>
        rw [e] at h
        cases h
        obtain ⟨h1, h2, h3⟩ := fm_some e
        refine ⟨h1, by simp only [List.length_cons]; omega, fun k hk => ?_⟩
        cases k with
        | zero => exact Bool.eq_false_iff.mpr hn
        | succ k => exact h3 k (Nat.lt_of_succ_lt_succ hk)
theorem fm_none {w : List Nat} : ∀ {t : List Nat}, fm w t = none → ∀ k, k ≤ t.length → w.isPrefixOf (t.drop k) = false
  | [], h, k, hk => by
    rw [fm] at h
    split at h
    · cases h
    · have : k = 0 := by simpa using hk
      subst this
      exact Bool.eq_false_iff.mpr (by assumption)
  | c :: t, h, k, hk => by
    rw [fm] at h
    split at h
    · cases h
    · rename_i hn
      cases k with
      | zero => exact Bool.eq_false_iff.mpr hn
      | succ k =>
        refine fm_none (t := t) ?_ k (by simpa using hk)
        cases e : fm w t with
        | none => rfl
        | some j => rw [e] at h; cases h
theorem str_len (x : Str) : x.cps.toList.length = x.length := by simp [Str.length]
theorem at_iff (x y : Str) (k : Nat) : StrLaws.At x y x.length k ↔ k ≤ x.length ∧ y.cps.toList.isPrefixOf (x.cps.toList.drop k) = true := by
  unfold StrLaws.At
  rw [StrLaws.subAt_eq, List.isPrefixOf_iff_prefix, List.prefix_iff_eq_take, beq_iff_eq, str_len]
  constructor
  · rintro ⟨h1, h2⟩; exact ⟨by omega, h2.symm⟩
  · rintro ⟨h1, h2⟩
    refine ⟨?_, h2.symm⟩
    have := congrArg List.length h2
    rw [List.length_take, List.length_drop, str_len, str_len] at this
    omega
theorem occ_fm (x y : Str) {lo : Nat} (hlo : lo ≤ x.length) : (occurrences x y lo x.length 1).head? = (fm y.cps.toList (x.cps.toList.drop lo)).map (· + lo) := by
  rcases StrLaws.occ_head_from x y lo 1 (Nat.le_refl _) with ⟨e, hn⟩ | ⟨i, r, e, hi, hA, hn⟩
  · rw [e]
    cases ef : fm y.cps.toList (x.cps.toList.drop lo) with
    | none => rfl
    | some j =>
      obtain ⟨h1, h2, _⟩ := fm_some ef
      rw [List.drop_drop] at h1
      rw [List.length_drop, str_len] at h2
      exact absurd ((at_iff x y (lo + j)).mpr ⟨by omega, h1⟩) (hn _ (by omega))
  · rw [e]
    have hA' := (at_iff x y i).mp hA
    cases ef : fm y.cps.toList (x.cps.toList.drop lo) with
    | none =>
      have h1 := fm_none ef (i - lo) (by rw [List.length_drop, str_len]; omega)
      rw [List.drop_drop, show lo + (i - lo) = i by omega] at h1
      rw [hA'.2] at h1
      cases h1
    | some j =>
      obtain ⟨h1, h2, h3⟩ := fm_some ef
      rw [List.drop_drop] at h1
      rw [List.length_drop, str_len] at h2
      have e1 : ¬ lo + j < i := fun h => hn _ (by omega) h ((at_iff x y (lo + j)).mpr ⟨by omega, h1⟩)
      have e2 : ¬ i < lo + j := fun h => by
        have := h3 (i - lo) (by omega)
        rw [List.drop_drop, show lo + (i - lo) = i by omega, hA'.2] at this
        cases this
      show some i = some (j + lo)
      congr 1; omega
/-- where a text's part is found, from lo on -/
noncomputable def findN (x y : Str) (lo : Nat) : Option Nat := (occurrences x y lo x.length 1).head?
noncomputable def ellF (got : Str) : List Str → Nat → Bool
  | [], _ => true
  | w :: ws, p => match findN got w p with | none => false | some i => ellF got ws (i + w.length)
theorem findN_le {x y : Str} {lo i : Nat} (hlo : lo ≤ x.length) (h : findN x y lo = some i) : i + y.length ≤ x.length := by
  unfold findN at h
  rcases StrLaws.occ_head_from x y lo 1 (Nat.le_refl _) with ⟨e, hn⟩ | ⟨j, r, e, hi, hA, hn⟩
  · rw [e] at h; cases h
  · rw [e] at h; cases h; exact hA.1
theorem ell_el (got : Str) : ∀ (ws : List Str) (p : Nat), p ≤ got.length → ellF got ws p = el (ws.map (·.cps.toList)) (got.cps.toList.drop p)
  | [], _, _ => rfl
  | w :: ws, p, hp => by
    have h := occ_fm got w hp
    rw [ellF, List.map_cons]
    cases ef : fm w.cps.toList (got.cps.toList.drop p) with
    | none =>
      rw [ef] at h
      rw [el_none ef, findN, h]
      rfl
    | some j =>
      rw [ef] at h
      have hf : findN got w p = some (j + p) := h
      have hle := findN_le hp hf
      rw [el_some ef, hf]
      show ellF got ws (j + p + w.length) = _
      rw [ell_el got ws _ hle, List.drop_drop, str_len]
      congr 2; omega
noncomputable abbrev dots : Str := Str.ofString "..."
theorem dots_cps : dots.cps.toList = [46, 46, 46] := by decide +kernel
noncomputable def piecesL (ps : List (List Nat)) (last : List Nat) : List Nat := ps.foldr (fun p t => p ++ 46 :: 46 :: 46 :: t) last
theorem not_at_dot {x : Str} {a : Nat} {p t : List Nat} (e : x.cps.toList.drop a = p ++ t) (hp : 46 ∉ p) {k : Nat} (h1 : a ≤ k) (h2 : k < a + p.length) : ¬ StrLaws.At x dots x.length k := fun h => by
  have h3 := ((at_iff x dots k).mp h).2
  have e2 : x.cps.toList.drop k = p.drop (k - a) ++ t := by
    have : x.cps.toList.drop k = (x.cps.toList.drop a).drop (k - a) := by rw [List.drop_drop]; congr 1; omega
    rw [this, e, List.drop_append_of_le_length (by omega)]
  have e3 : p.drop (k - a) = p[k - a]'(by omega) :: p.drop (k - a + 1) := List.drop_eq_getElem_cons (by omega)
  rw [e2, e3, dots_cps] at h3
  simp only [List.cons_append, List.isPrefixOf, Bool.and_eq_true, beq_iff_eq] at h3
  exact hp (h3.1 ▸ List.getElem_mem _)
theorem at_dot {x : Str} {a : Nat} {p t : List Nat} (e : x.cps.toList.drop a = p ++ 46 :: 46 :: 46 :: t) (ha : a ≤ x.length) : StrLaws.At x dots x.length (a + p.length) := by
  rw [at_iff, dots_cps]
  have e2 : x.cps.toList.drop (a + p.length) = 46 :: 46 :: 46 :: t := by rw [← List.drop_drop, e, List.drop_left]
  have hl : (x.cps.toList.drop a).length = x.length - a := by rw [List.length_drop, str_len]
  rw [e] at hl
  simp only [List.length_append, List.length_cons] at hl
  refine ⟨by omega, ?_⟩
  rw [e2]
  simp [List.isPrefixOf]
theorem cps_sub {x : Str} {a b : Nat} : (strSub x a b).cps.toList = (x.cps.toList.drop a).take (b - a) := StrLaws.strSub_toList x a b
theorem parts_chain {x : Str} {last : List Nat} (hl : 46 ∉ last) : ∀ (ps : List (List Nat)) (a : Nat) (cuts : List Nat) (f : Nat), (∀ p ∈ ps, 46 ∉ p) → a ≤ x.length → x.cps.toList.drop a = piecesL ps last → StrLaws.ChainG x dots x.length a cuts f → (∀ k, f ≤ k → ¬ StrLaws.At x dots x.length k) →
    (StrLaws.partsFrom x 3 a cuts).map (·.cps.toList) = ps ++ [last]
  | [], a, [], f, _, ha, e, _, _ => by
    have e0 : x.cps.toList.drop a = last := e
    show [(strSub x a x.length).cps.toList] = [last]
    rw [cps_sub, ← e0, List.take_of_length_le (by rw [List.length_drop, str_len]; exact Nat.le_refl _)]
  | [], a, c :: r, f, _, ha, e, h, _ => by
    have e1 : x.cps.toList.drop a = last ++ [] := by rw [List.append_nil]; exact e
    have h2 := h.2.1
    have hlen : last.length = x.length - a := by
      have : x.cps.toList.drop a = last := e
      rw [← this, List.length_drop, str_len]
    have e3 : dots.length = 3 := by decide +kernel
    have h3 := h2.1
    exact absurd h2 (not_at_dot e1 hl h.1 (by omega))
  | p :: ps, a, [], f, _, ha, e, h, hn => by
    have : f = a := h
    subst this
    exact absurd (at_dot (t := piecesL ps last) e ha) (hn _ (Nat.le_add_right _ _))
  | p :: ps, a, c :: r, f, hp, ha, e, h, hn => by
    obtain ⟨h1, h2, h3, h4⟩ := h
    have hA := at_dot (t := piecesL ps last) e ha
    have ec : c = a + p.length := by
      rcases Nat.lt_trichotomy c (a + p.length) with h | h | h
      · exact absurd h2 (not_at_dot e (hp p (.head _)) h1 h)
      · exact h
      · exact absurd hA (h3 _ (Nat.le_add_right _ _) h)
    subst ec
    have e3 : dots.length = 3 := by decide +kernel
    have h5 := hA.1
    rw [e3] at h4 h5
    have e4 : x.cps.toList.drop (a + p.length + 3) = piecesL ps last := by
      rw [Nat.add_assoc, ← List.drop_drop, e]
      show (p ++ 46 :: 46 :: 46 :: piecesL ps last).drop (p.length + 3) = _
      rw [← List.drop_drop, List.drop_left]; rfl
    have ih := parts_chain hl ps (a + p.length + 3) r f (fun q hq => hp q (.tail _ hq)) h5 e4 h4 hn
    show (strSub x a (a + p.length)).cps.toList :: (StrLaws.partsFrom x 3 (a + p.length + 3) r).map (·.cps.toList) = _
    rw [ih, cps_sub, e, Nat.add_sub_cancel_left]
    show (p ++ 46 :: 46 :: 46 :: piecesL ps last).take p.length :: _ = _
    rw [List.take_left]; rfl
theorem kind_small {x : Str} (h : x.cps.all (· < 256) = true) : PySem.Builtin.Str.strKind x = 1 := by unfold PySem.Builtin.Str.strKind; rw [if_pos h]
theorem split_pieces {x : Str} {ps : List (List Nat)} {p last : List Nat} (e : x.cps.toList = piecesL (p :: ps) last) (hp : ∀ q ∈ p :: ps, 46 ∉ q) (hl : 46 ∉ last) :
    (Txt.split x dots).map (·.cps.toList) = (p :: ps) ++ [last] := by
  have e3 : dots.length = 3 := by decide +kernel
  have e0 : x.cps.toList.drop 0 = piecesL (p :: ps) last := e
  have hA := at_dot (t := piecesL ps last) e0 (Nat.zero_le _)
  obtain ⟨f, hG, hn⟩ := StrLaws.occ_tight x dots (by rw [e3]; decide)
  have hk : PySem.Builtin.Str.strKind dots = 1 := by decide +kernel
  have hk2 : 1 ≤ PySem.Builtin.Str.strKind x := by unfold PySem.Builtin.Str.strKind; split; exact Nat.le_refl _; split <;> decide
  unfold Txt.split
  rw [if_neg, if_neg, StrLaws.partsBetween_eq, e3]
  · exact parts_chain hl (p :: ps) 0 _ f hp (Nat.zero_le _) e0 hG hn
  · intro he
    rw [List.isEmpty_iff] at he
    rw [he] at hG
    have : f = 0 := hG
    exact hn _ (by omega) hA
  · intro h
    rw [Bool.or_eq_true, decide_eq_true_eq, decide_eq_true_eq] at h
    rcases h with h | h
    · have := hA.1; omega
    · omega
theorem join_cps (sep : Str) : ∀ (ts : List Str), (Str.join sep ts).cps.toList = ((ts.map (·.cps.toList)).intersperse sep.cps.toList).flatten
  | [] => rfl
  | [x] => by simp [Str.join]
  | x :: y :: r => by
    have ih := join_cps sep (y :: r)
    show (x ++ sep ++ Str.join sep (y :: r)).cps.toList = _
    rw [Str.cps_append, Str.cps_append, Array.toList_append, Array.toList_append, ih]
    simp [List.intersperse]
theorem txt_join (sep : Str) (ts : List Str) : Txt.join sep ts = Str.join sep ts := StrLaws.glued_eq_join sep ts
theorem ofS_nil : (Str.ofString "").cps.toList = [] := by decide +kernel
theorem join_none : ∀ (ts : List Str), (Txt.join (Str.ofString "") ts).cps.toList = (ts.map (·.cps.toList)).flatten := fun ts => by
  rw [txt_join, join_cps, ofS_nil]
  generalize ts.map (·.cps.toList) = l
  induction l with
  | nil => rfl
  | cons a l ih =>
    cases l with
    | nil => rfl
    | cons b l => rw [List.intersperse_cons_cons, List.flatten_cons, List.flatten_cons, ih]; rfl
/-- the expectation made of a row -/
noncomputable def wantOf (row : List Item) : Str := dots ++ Txt.join (Str.ofString "") (row.map fun i => lineStr i ++ dots)
/-- the text of a row -/
noncomputable def gotOf (row : List Item) : Str := Txt.join (Str.ofString "\r\n") (row.map lineStr ++ [Str.ofString "", Str.ofString ""])
theorem want_cps : ∀ {row : List Item}, (∀ i ∈ row, i.Ok) → (wantOf row).cps.toList = piecesL ([] :: row.map itemL) [] := fun {row} h => by
  unfold wantOf
  rw [Str.cps_append, Array.toList_append, dots_cps, join_none, List.map_map]
  show 46 :: 46 :: 46 :: _ = 46 :: 46 :: 46 :: piecesL (row.map itemL) []
  refine congrArg (fun z => 46 :: 46 :: 46 :: z) ?_
  show (row.map ((fun (x : Str) => x.cps.toList) ∘ fun i => lineStr i ++ dots)).flatten = _
  induction row with
  | nil => rfl
  | cons i row ih =>
    have e : ((fun (x : Str) => x.cps.toList) ∘ fun i => lineStr i ++ dots) i = itemL i ++ [46, 46, 46] := by
      show (lineStr i ++ dots).cps.toList = _
      rw [Str.cps_append, Array.toList_append, dots_cps, line_cps (h i (.head _))]
    rw [List.map_cons, List.flatten_cons, e, ih fun j hj => h j (.tail _ hj)]
    simp [piecesL]
theorem crlf_cps : (Str.ofString "\r\n").cps.toList = [13, 10] := by decide +kernel
theorem got_cps : ∀ {row : List Item}, (∀ i ∈ row, i.Ok) → (gotOf row).cps.toList = textL row := fun {row} h => by
  unfold gotOf
  rw [txt_join, join_cps, crlf_cps]
  induction row with
  | nil => decide +kernel
  | cons i row ih =>
    have ih := ih fun j hj => h j (.tail _ hj)
    have e : ∃ b r, (row.map lineStr ++ [Str.ofString "", Str.ofString ""]).map (fun (x : Str) => x.cps.toList) = b :: r := by
      cases row <;> exact ⟨_, _, rfl⟩
    obtain ⟨b, r, e⟩ := e
    rw [List.map_cons, List.cons_append, List.map_cons, e, List.intersperse_cons_cons, ← e, List.flatten_cons, List.flatten_cons, ih, line_cps (h i (.head _))]
    simp [textL]
theorem got_join {row : List Item} (h : ∀ i ∈ row, i.Ok) : gotOf row = Txt.join (Str.ofString "") (row.map fun i => lineStr i ++ Str.ofString "\r\n") ++ Str.ofString "\r\n" := by
  refine Str.ext' (Array.toList_inj.mp ?_)
  rw [got_cps h, Str.cps_append, Array.toList_append, join_none, crlf_cps, List.map_map]
  induction row with
  | nil => rfl
  | cons i row ih =>
    have e : ((fun (x : Str) => x.cps.toList) ∘ fun i => lineStr i ++ Str.ofString "\r\n") i = itemL i ++ [13, 10] := by
      show (lineStr i ++ Str.ofString "\r\n").cps.toList = _
      rw [Str.cps_append, Array.toList_append, crlf_cps, line_cps (h i (.head _))]
    have ih := ih fun j hj => h j (.tail _ hj)
    rw [List.map_cons, List.flatten_cons, e]
    show itemL i ++ 13 :: 10 :: textL row = _
    rw [ih]
    simp
/-- the match of an expectation and a text: the one row stands within the other -/
theorem ell_within {small large : List Item} (hs : ∀ i ∈ small, i.Ok) (hl : ∀ i ∈ large, i.Ok) : ellF (gotOf large) (Txt.split (wantOf small) dots) 0 = decide (withinN small large = 0) := by
  rw [ell_el _ _ _ (Nat.zero_le _), split_pieces (want_cps hs) (fun q hq => ?_) (List.not_mem_nil), List.drop_zero, got_cps hl, within_sub]
  · show el ([] :: (small.map itemL ++ [[]])) (textL large) = _
    rw [el_empty, el_rows hs hl]
  · rcases List.mem_cons.mp hq with rfl | hq
    · exact List.not_mem_nil
    · obtain ⟨i, hi, rfl⟩ := List.mem_map.mp hq
      exact dot_line
theorem contains_dots {row : List Item} (h : ∀ i ∈ row, i.Ok) : Txt.contains (wantOf row) dots = true := by
  unfold Txt.contains
  rw [StrLaws.found_iff]
  have := at_dot (x := wantOf row) (a := 0) (p := []) (t := piecesL (row.map itemL) []) (want_cps h) (Nat.zero_le _)
  exact ⟨0, this.1, this.2⟩
end
section
open PySem PySem.W PyProof.Rows PySem.Calls PySem.Flt PyProof.Rows.LCg PyProof.Rows.LCt
theorem words_H9_1 : True := by
  k_with_none
  k_with "my use" => ((case k1 => k_asm); (case k2 => k_asm); (case k3 => k_asm); (case k4 => k_asm); (case k5 => k_asm); (case kK => first | exact rfl | assumption); (case kd => ktr_room); (case ku => ktr_units))
  k_with "getMethod ref" => (k_here; (with_reducible show wpAny _ _ (getMethod (Value.ref _) (Str.ofString "search") _) _ _ _); k_dflt (refine' pattern_method ?k1 ?k2 ?k3 ?k4 ?_; (case k1 => k_in); (case k2 => k_is); (case k3 => rfl); (case k4 => rfl)))
  k_with "call builtin:re.Pattern.search" => (k_here; k_dflt (refine' search_none ?k1 ?k2 ?k3 ?k4 ?_; (case k1 => k_in); (case k2 => k_is); (case k3 => rfl); (case k4 => first | with_reducible exact names_clean _ _ (by assumption) (by assumption) (by assumption) | with_reducible exact texts_clean _ _ (by assumption) | with_reducible exact names_clean _ _ (by assumption) (by assumption) (by decide))))
  k_with "call builtin:str.lower" => ((with_reducible show wpAny _ _ (call (Value.builtin "str.lower") [Value.str (nameOf _ _ _) _]) _ _ _); (refine lower_rule (by assumption) (by assumption) (by assumption) ?_))
  k_with "subscriptTail Name Constant ref int" => (k_here; k_dflt (refine' item_tupleT (News.isTup ?wH9N ?wH9m) ?wH9a ?wH9b ?wH9c ?wH9d ?_; (case wH9N => k_asm); (case wH9m => k_mem); (case wH9a => decide); (case wH9b => decide); (case wH9c => rfl); (case wH9d => rfl)))
  k_with "k_mem" => assumption
  k_with "setItem ref" => (k_here; (with_reducible show wpAny _ _ (setItem (Value.ref _) (Value.ref _) _) _ _ _); k_dflt (refine' setAll_K ?k1 ?k2 ?k3 ?k4 ?k5 ?k6 ?k7 ?_; (case k1 => k_asm); (case k2 => k_asm); (case k3 => k_mem); (case k4 => k_upd); (case k5 => k_ne); (case k6 => walk_at "my size"); (case k7 => walk_at "my size")); intro h' F' N'; (try k_sweep))
  k_with "k_all" => (refine tail_succ ?_; tbn_find)
  k_with "k_room" => ktr_room
  k_with "k_units" => ktr_units
  k_with "my enterC" => (refine' code_defC ?k1 ?k2 ?k3 ?k4 ?k5 ?kA ?kF ?kK ?k6 ?k7 ?k8 ?k9 ?kB ?kD ?_ ?wH9c2 ?wH9c3 ?wH9c4; (case kA => exact rfl); (case kF => exact rfl); (case kK => assumption); (case k1 => k_asm); (case k2 => k_asm); (case k3 => k_asm); (case k4 => k_asm); (case k5 => k_asm); (case k6 => k_is); (case k7 => k_is); (case k8 => ktr_room); (case k9 => exact BindsTo.of_eq rfl); (case kB => exact rfl); (case kD => decide +kernel); (case wH9c2 => exact rfl); (case wH9c3 => exact rfl); (case wH9c4 => exact rfl); k_whole; intro g' L' h' tk' cells' FG' F' N' Y' B' X' T' l1; (try k_lt l1); k_cells Y'; (try simp only [List.cons_append, List.nil_append] at N'); (try dsimp only); (try k_lift B'); (try k_fold))
  k_with "eval ListComp" => (k_here; lct_look; k_dflt (refine LCt.ListComp_T (F₀ := by k_asm) (by with_unfolding_all rfl) (by decide) (by rfl) (by decide) (by rfl) ?_); k_dflt lct_toSrc)
  k_with "CompSrcT" => (k_here; k_dflt (refine' LCt.CompSrcT.ledger (by rfl) ?k1 ?k2 ?k3 ?k4 ?_; (case k1 => k_asm); (case k2 => k_asm); (case k3 => k_mem); (case k4 => first | assumption | size_fits)); intro g')
  k_with "my size" => ((try rw [sizeLine_eq]); first | (rw [List.size_toArray]; omega) | (rw [List.size_toArray]; exact Nat.le_trans keepV_len (by omega)))
  k_with "my sub" => (intro p9 hp9; first | exact hp9 | exact .tail _ hp9 | exact .tail _ (.tail _ hp9) | exact .tail _ (.tail _ (.tail _ hp9)) | exact .tail _ (.tail _ (.tail _ (.tail _ hp9))) | exact .tail _ (.tail _ (.tail _ (.tail _ (.tail _ hp9)))))
  k_with "exec For Tuple Attribute" => (k_here; (rename Fr _ _ _ _ => lF'); (with_unfolding_all refine' For_turns lF' ?_; k_whole))
  k_with "my enter" => (refine' code_def ?k1 ?k2 ?k3 ?k4 ?k5 ?kA ?kF ?kK ?k6 ?k7 ?k8 ?k9 ?kB ?_ ?wH9c2 ?wH9c3 ?wH9c4 ?wH9c5; (case kA => exact rfl); (case kF => exact rfl); (case kK => assumption); (case k1 => k_asm); (case k2 => k_asm); (case k3 => k_asm); (case k4 => k_asm); (case k5 => k_asm); (case k6 => k_is); (case k7 => k_is); (case k8 => ktr_room); (case k9 => first | exact BindsTo.of_eq rfl | exact binds_K (by k_in) rfl (by k_is) rfl rfl rfl); (case wH9c5 => decide); (case kB => exact locs rfl); (case wH9c2 => exact rfl); (case wH9c3 => exact rfl); (case wH9c4 => exact rfl); k_whole; intro g' L' h' FG' F' N' B' X' T'; (try dsimp only); (try k_lift B'); (try k_fold))
  k_with "delItem ref str" => (k_here; (with_reducible show wpAny _ _ (delItem (Value.ref _) _) _ _ _); k_dflt (refine' delItem_own ?wH9F ?wH9X ?wH9I ?wH9hQ ?wH9hS ?wH9hF ?_; (case wH9F => k_asm); (case wH9X => k_asm); (case wH9I => k_inst); (case wH9hS => k_is); (case wH9hF => k_is); (case wH9hQ => k_is); k_whole))
  k_with "call builtin:list.append" => (k_here; (with_reducible show wpAny _ _ (call (Value.builtin _) [Value.ref _, _]) _ _ _); k_dflt (refine' append_K ?k1 ?k2 ?k3 ?_ ?wH9z; (case k1 => k_asm); (case k2 => k_asm); (case k3 => k_upd); (case wH9z => walk_at "my size"); k_whole); intro h' F' N'; (try k_sweep))
  trivial
section
variable {prog : Program} {w : World} {A : Around} {E : Value → Shared → Prop} {s : Shared} {h₀ : Heap} {L : Addr} {m : Str → Option Value} {news : Ledger}
theorem rev_list {value slice : Expr} {l : Addr} {vs : List Value} {n : Nat} {u : Tok} {ops : List Value} {Q : Value → Shared → Prop} (F : Fr h₀ L s.heap m) (N : News h₀ L s.heap news) (hl : (l, W.listOf vs.toArray n) ∈ news)
    (h : ∀ D h', Fr h₀ L h' m → News h₀ L h' ((D, W.listOf vs.reverse.toArray 0) :: news) → (∀ p ∈ news, p.1 < D) → Q (.ref D) { s with heap := h' }) (hz : vs.length ≤ 64)
    (hs : subscripted slice false (.ref l) (.ref s.heap.objs.size) = operate ops (getItem (.ref l) (.ref s.heap.objs.size))) (ht : ∀ r, letTemporaryGo value (.ref l) r = pure ()) :
    wpAny (model prog w) A (subscriptTail value slice (.ref l) (.ref s.heap.objs.size)) Q E { s with heap := s.heap.push { cls := .type "slice", data := .fields #[.none, .none, .int (-1) u] } } :=
  krv_lit (its := vs.toArray) (zs := vs.reverse) F N (News.isList N hl) (IsPart.int _ _) rfl h hs ht (by rw [List.size_toArray, sizeLine_eq]; omega)
theorem item_due {value slice : Expr} {l : Addr} {vs : List Value} {n : Nat} {row : List Item} {k : Int} {u : Tok} {Q : Value → Shared → Prop} (N : News h₀ L s.heap news) (hm : (l, W.listOf vs.toArray n) ∈ news) {l₂ : Ledger} (hd : DatAll l₂ vs (row.map itemDat)) (hsub : ∀ p ∈ l₂, p ∈ news) (h0 : 0 ≤ k) (hk : k < row.length) (hz : vs.length ≤ 64)
    (h : ∀ r a t1 t2 t3 t4 j, row[k.toNat]? = some r → (a, tupN [.int r.p t1, .int r.d t2, .int r.q t3, .int r.g t4] j) ∈ l₂ → Q (.ref a) s)
    (hs : subscripted slice false (.ref l) (.int k u) = operate [.ref l, .int k u] (getItem (.ref l) (.int k u))) (hg : ∀ r, letTemporaryGo value (.ref l) r = pure ()) :
    wpAny (model prog w) A (subscriptTail value slice (.ref l) (.int k u)) Q E s := by
  have hl : vs.length = row.length := by simpa using hd.length
  have hv : vs.toArray[k.toNat]? = some (vs[k.toNat]'(by omega)) := by simpa using List.getElem?_eq_getElem (l := vs) (by omega)
  obtain ⟨r, a, t1, t2, t3, t4, j, hr, ev, ha⟩ := item_at hd hv
  rw [ev] at hv
  exact item_list (News.isList N hm) h0 (by omega) hv (h r a t1 t2 t3 t4 j hr ha) hs hg
end
theorem datAll_rev {l : Ledger} {vs : List Value} {row : List Item} (h : DatAll l vs (row.map itemDat)) : DatAll l vs.reverse (row.reverse.map itemDat) := by
  have : ∀ {vs : List Value} {row : List Item}, DatAll l vs (row.map itemDat) → DatAll l vs.reverse (row.reverse.map itemDat) := by
    intro vs row h
    induction row generalizing vs with
    | nil => cases h; exact .nil
    | cons r row ih =>
      cases h with
      | cons hd tl =>
        rw [List.reverse_cons, List.reverse_cons, List.map_append]
        exact (ih tl).append (.one hd)
  exact this h
theorem words_H9_2 : True := by
  k_with "subscriptTail Name Slice ref ref" => (k_here; k_dflt (refine' rev_list ?wH9F ?wH9N ?wH9l ?_ ?wH9z ?wH9s ?wH9t; (case wH9F => k_asm); (case wH9N => k_asm); (case wH9l => k_mem); (case wH9s => with_unfolding_all rfl); (case wH9t => (intro _; with_unfolding_all rfl)); (case wH9z => assumption)); intro D' h' F' N' l1; (try k_lt l1); (try k_sweep))
  k_with "exec For Tuple Subscript" => (k_here; (rename Fr _ _ _ _ => lF'); (with_unfolding_all refine' For_turns lF' ?_; k_whole))
  trivial
noncomputable def leftMap (v : Value) (stored : List Str) (m₀ u : Str → Option Value) : Str → Option Value := fun y => if y = Str.ofString "left" then some v else if stored.contains y = true then u y else m₀ y
theorem leftMap_eq {v : Value} {stored : List Str} {m₀ m' : Str → Option Value} (h1 : m' (Str.ofString "left") = some v) (k : Kept stored m₀ m') : m' = leftMap v stored m₀ m' := by
  funext y
  unfold leftMap
  by_cases e : y = Str.ofString "left"
  · rw [if_pos e, e, h1]
  · rw [if_neg e]
    exact congrFun k.eq y
theorem words_H9_3 : True := by
  k_with "my len" => ((try rw [List.size_toArray]); omega)
  k_with "call builtin:len" => (k_here; (with_reducible show wpAny _ _ (call (Value.builtin "len") [Value.ref _]) _ _ _); k_dflt (refine' len_list ?wH9a ?wH9b ?_; (case wH9a => exact News.isList (by k_asm) (by k_mem)); (case wH9b => walk_at "my len")))
  k_with "my tails" => (intro p9 hp9; (repeat with_reducible apply List.mem_cons_of_mem); exact hp9)
  k_with "subscriptTail Name BinOp ref int" => (k_here; k_dflt (refine' item_due ?wH9N ?wH9m ?wH9d ?wH9sb ?wH9h0 ?wH9hk ?wH9z ?_ ?wH9h1 ?wH9h2; (case wH9N => k_asm); (case wH9m => k_mem); (case wH9d => assumption); (case wH9sb => walk_at "my tails"); (case wH9h0 => omega); (case wH9hk => omega); (case wH9z => assumption); (case wH9h1 => with_unfolding_all rfl); (case wH9h2 => (intro _; with_unfolding_all rfl))); intro r9 a9 t1 t2 t3 t4 j9 hr9 ha9)
  trivial
theorem foldN_le {small : List Item} : ∀ (ls : List Item) (k : Nat), ls.foldl (stepN small) k ≤ k
  | [], k => Nat.le_refl k
  | l :: ls, k => by
    have h := foldN_le (small := small) ls (stepN small k l)
    have h2 : stepN small k l ≤ k := by unfold stepN; split <;> omega
    rw [List.foldl_cons]
    omega
theorem foldN_step {small ls : List Item} {k i : Nat} {r : Item} (h : ls[i]? = some r) : (ls.take (i + 1)).foldl (stepN small) k = stepN small ((ls.take i).foldl (stepN small) k) r := by
  rw [List.take_add_one, h, List.foldl_append]; rfl
theorem stepN_yes {small : List Item} {K : Nat} {r r9 : Item} (h0 : (0 : Int) < K) (hr : small[((K : Int) - 1).toNat]? = some r9) (h1 : r9.p = r.p) (h2 : r9.g = r.g) (h3 : r9.d ≤ r.d) (h4 : r9.q ≤ r.q) : (K : Int) - 1 = ((stepN small K r : Nat) : Int) := by
  have e : ((K : Int) - 1).toNat = K - 1 := by omega
  rw [e] at hr
  unfold stepN
  rw [hr, if_pos ⟨by omega, by show fits r9 r = true; exact decide_eq_true ⟨h1, h2, h3, h4⟩⟩]
  omega
theorem stepN_zero {small : List Item} {K : Nat} {r : Item} (h0 : ¬ (0 : Int) < K) : (K : Int) = ((stepN small K r : Nat) : Int) := by
  unfold stepN
  rw [if_neg fun h => h0 (by omega)]
theorem stepN_no {small : List Item} {K : Nat} {r r9 : Item} (h0 : (0 : Int) < K) (hr : small[((K : Int) - 1).toNat]? = some r9) (hn : ¬ (r9.p = r.p ∧ r9.g = r.g ∧ r9.d ≤ r.d ∧ r9.q ≤ r.q)) : (K : Int) = ((stepN small K r : Nat) : Int) := by
  have e : ((K : Int) - 1).toNat = K - 1 := by omega
  rw [e] at hr
  unfold stepN
  rw [hr, if_neg fun h => hn (of_decide_eq_true h.2)]
theorem val_of {o : Option Value} {z z' : Int} {t : Tok} (h : o = some (.int z t)) (e : z = z') : ∃ t, o = some (.int z' t) := ⟨t, by rw [h, e]⟩
theorem hwithin (w : World) (l : Ledger) (a1 a2 : Addr) (vs1 vs2 : List Value) (n1 n2 : Nat) (row1 row2 : List Item) (hz1 : vs1.length ≤ 64) (hz2 : vs2.length ≤ 64) (hd1 : DatAll l vs1 (row1.map itemDat)) (hd2 : DatAll l vs2 (row2.map itemDat))
    (hm1 : (a1, W.listOf vs1.toArray n1) ∈ l) (hm2 : (a2, W.listOf vs2.toArray n2) ∈ l) :
    Ctr w 20 270 [.ref a1, .ref a2] l (fun r l' => l' = l ∧ r = .bool (decide (withinN row1 row2 = 0))) := by
  intro loose mean mg mb dp un gd cn cs a ccd cl outer A₀ base h₀ L m s Q E B F X N T hk hdp hun hret
  have hlen : vs1.toArray.size = row1.length := by rw [List.size_toArray]; simpa using hd1.length
  refine wpAny_call ?_
  k_dflt (walk_at "my enter")
  k_steps
  refine list_loop (fun i m' n' => n' = (_ :: l) ∧ Kept ["place", "dark", "pale", "great", "due", "left"] _ m' ∧ ∃ t, m' (Str.ofString "left") = some (.int (((row2.reverse.take i).foldl (stepN row1) vs1.toArray.size : Nat) : Int) t)) rfl (by k_asm) (by k_asm) (.head _) ⟨rfl, Kept.refl, _, rfl⟩ ?step ?fin
  · intro I i v m₁ news₁ h tk o hI hv hJ F₂ ho N₂
    obtain ⟨rfl, hkp, tl, hl⟩ := hJ
    obtain ⟨r, ra, u1, u2, u3, u4, rn, hr, rfl, hm⟩ := item_at (datAll_rev hd2) (by simpa using hv)
    have hd1' := hd1
    rw [leftMap_eq hl hkp] at F₂
    unfold leftMap at F₂
    have hle : (row2.reverse.take i).foldl (stepN row1) vs1.toArray.size ≤ row1.length := by rw [← hlen]; exact foldN_le _ _
    have hst := foldN_step (small := row1) (k := vs1.toArray.size) hr
    generalize (row2.reverse.take i).foldl (stepN row1) vs1.toArray.size = K at hle hst F₂
    k_steps
    all_goals refine turn_end (by assumption) (by assumption) hI ⟨⟨.head _, trivial⟩, rfl, (by repeat first | exact Kept.of Kept.refl | refine Kept.cons rfl ?_), val_of rfl ?_⟩
    all_goals rw [hst]
    all_goals first | exact stepN_yes (by assumption) (by assumption) (by assumption) (by assumption) (by assumption) (by assumption) | exact stepN_zero (by assumption) | exact stepN_no (by assumption) (by assumption) (by omega)
  · intro m' n' hJ h tk F₂ N₂
    obtain ⟨rfl, hkp, tl, hl⟩ := hJ
    rw [leftMap_eq hl hkp] at F₂
    unfold leftMap at F₂
    k_steps
    refine retT hret (by assumption) (by assumption) (fun p hp => .tail _ hp) ⟨rfl, congrArg Value.bool ?_⟩
    have e : vs2.reverse.length = row2.reverse.length := by rw [List.length_reverse, List.length_reverse]; simpa using hd2.length
    rw [e, List.take_length, hlen]
    unfold withinN
    rw [Bool.eq_iff_iff]
    simp
end
section
open PySem PySem.W PyProof.Rows PySem.Calls PySem.Flt PyProof.Rows.LCg PyProof.Rows.LCt
theorem words_H10_1 : True := by
  k_with_none
  k_with "my use" => ((case k1 => k_asm); (case k2 => k_asm); (case k3 => k_asm); (case k4 => k_asm); (case k5 => k_asm); (case kK => first | exact rfl | assumption); (case kd => ktr_room); (case ku => ktr_units))
  k_with "getMethod ref" => (k_here; (with_reducible show wpAny _ _ (getMethod (Value.ref _) (Str.ofString "search") _) _ _ _); k_dflt (refine' pattern_method ?k1 ?k2 ?k3 ?k4 ?_; (case k1 => k_in); (case k2 => k_is); (case k3 => rfl); (case k4 => rfl)))
  k_with "call builtin:re.Pattern.search" => (k_here; k_dflt (refine' search_none ?k1 ?k2 ?k3 ?k4 ?_; (case k1 => k_in); (case k2 => k_is); (case k3 => rfl); (case k4 => first | with_reducible exact names_clean _ _ (by assumption) (by assumption) (by assumption) | with_reducible exact texts_clean _ _ (by assumption) | with_reducible exact names_clean _ _ (by assumption) (by assumption) (by decide))))
  k_with "call builtin:str.lower" => ((with_reducible show wpAny _ _ (call (Value.builtin "str.lower") [Value.str (nameOf _ _ _) _]) _ _ _); (refine lower_rule (by assumption) (by assumption) (by assumption) ?_))
  k_with "subscriptTail Name Constant ref int" => (k_here; k_dflt (refine' item_tupleT (News.isTup ?wH10N ?wH10m) ?wH10a ?wH10b ?wH10c ?wH10d ?_; (case wH10N => k_asm); (case wH10m => k_mem); (case wH10a => decide); (case wH10b => decide); (case wH10c => rfl); (case wH10d => rfl)))
  k_with "k_mem" => assumption
  k_with "setItem ref" => (k_here; (with_reducible show wpAny _ _ (setItem (Value.ref _) (Value.ref _) _) _ _ _); k_dflt (refine' setAll_K ?k1 ?k2 ?k3 ?k4 ?k5 ?k6 ?k7 ?_; (case k1 => k_asm); (case k2 => k_asm); (case k3 => k_mem); (case k4 => k_upd); (case k5 => k_ne); (case k6 => walk_at "my size"); (case k7 => walk_at "my size")); intro h' F' N'; (try k_sweep))
  k_with "k_all" => (refine tail_succ ?_; tbn_find)
  k_with "k_room" => ktr_room
  k_with "k_units" => ktr_units
  k_with "my enterC" => (refine' code_defC ?k1 ?k2 ?k3 ?k4 ?k5 ?kA ?kF ?kK ?k6 ?k7 ?k8 ?k9 ?kB ?kD ?_ ?wH10c2 ?wH10c3 ?wH10c4; (case kA => exact rfl); (case kF => exact rfl); (case kK => assumption); (case k1 => k_asm); (case k2 => k_asm); (case k3 => k_asm); (case k4 => k_asm); (case k5 => k_asm); (case k6 => k_is); (case k7 => k_is); (case k8 => ktr_room); (case k9 => exact BindsTo.of_eq rfl); (case kB => exact rfl); (case kD => decide +kernel); (case wH10c2 => exact rfl); (case wH10c3 => exact rfl); (case wH10c4 => exact rfl); k_whole; intro g' L' h' tk' cells' FG' F' N' Y' B' X' T' l1; (try k_lt l1); k_cells Y'; (try simp only [List.cons_append, List.nil_append] at N'); (try dsimp only); (try k_lift B'); (try k_fold))
  k_with "eval ListComp" => (k_here; lct_look; k_dflt (refine LCt.ListComp_T (F₀ := by k_asm) (by with_unfolding_all rfl) (by decide) (by rfl) (by decide) (by rfl) ?_); k_dflt lct_toSrc)
  k_with "CompSrcT" => (k_here; k_dflt (refine' LCt.CompSrcT.ledger (by rfl) ?k1 ?k2 ?k3 ?k4 ?_; (case k1 => k_asm); (case k2 => k_asm); (case k3 => k_mem); (case k4 => first | assumption | size_fits)); intro g')
  k_with "my size" => ((try rw [sizeLine_eq]); first | (rw [List.size_toArray]; omega) | (rw [List.size_toArray]; exact Nat.le_trans keepV_len (by omega)))
  k_with "my sub" => (intro p9 hp9; first | exact hp9 | exact .tail _ hp9 | exact .tail _ (.tail _ hp9) | exact .tail _ (.tail _ (.tail _ hp9)) | exact .tail _ (.tail _ (.tail _ (.tail _ hp9))) | exact .tail _ (.tail _ (.tail _ (.tail _ (.tail _ hp9)))))
  k_with "exec For Tuple Attribute" => (k_here; (rename Fr _ _ _ _ => lF'); (with_unfolding_all refine' For_turns lF' ?_; k_whole))
  k_with "my enter" => (refine' code_def ?k1 ?k2 ?k3 ?k4 ?k5 ?kA ?kF ?kK ?k6 ?k7 ?k8 ?k9 ?kB ?_ ?wH10c2 ?wH10c3 ?wH10c4 ?wH10c5; (case kA => exact rfl); (case kF => exact rfl); (case kK => assumption); (case k1 => k_asm); (case k2 => k_asm); (case k3 => k_asm); (case k4 => k_asm); (case k5 => k_asm); (case k6 => k_is); (case k7 => k_is); (case k8 => ktr_room); (case k9 => first | exact BindsTo.of_eq rfl | exact binds_K (by k_in) rfl (by k_is) rfl rfl rfl); (case wH10c5 => decide); (case kB => exact locs rfl); (case wH10c2 => exact rfl); (case wH10c3 => exact rfl); (case wH10c4 => exact rfl); k_whole; intro g' L' h' FG' F' N' B' X' T'; (try dsimp only); (try k_lift B'); (try k_fold))
  k_with "delItem ref str" => (k_here; (with_reducible show wpAny _ _ (delItem (Value.ref _) _) _ _ _); k_dflt (refine' delItem_own ?wH10F ?wH10X ?wH10I ?wH10hQ ?wH10hS ?wH10hF ?_; (case wH10F => k_asm); (case wH10X => k_asm); (case wH10I => k_inst); (case wH10hS => k_is); (case wH10hF => k_is); (case wH10hQ => k_is); k_whole))
  k_with "call builtin:list.append" => (k_here; (with_reducible show wpAny _ _ (call (Value.builtin _) [Value.ref _, _]) _ _ _); k_dflt (refine' append_K ?k1 ?k2 ?k3 ?_ ?wH10z; (case k1 => k_asm); (case k2 => k_asm); (case k3 => k_upd); (case wH10z => walk_at "my size"); k_whole); intro h' F' N'; (try k_sweep))
  trivial
section
variable {prog : Program} {w : World} {A : Around} {E : Value → Shared → Prop} {s : Shared} {h₀ : Heap} {L : Addr} {m : Str → Option Value} {news : Ledger}
theorem copy_list {value slice : Expr} {l : Addr} {vs : List Value} {n : Nat} {Q : Value → Shared → Prop} (F : Fr h₀ L s.heap m) (N : News h₀ L s.heap news) (hl : (l, W.listOf vs.toArray n) ∈ news)
    (h : ∀ D h', Fr h₀ L h' m → News h₀ L h' ((D, W.listOf vs.toArray 0) :: news) → (∀ p ∈ news, p.1 < D) → Q (.ref D) { s with heap := h' }) (hz : vs.length ≤ 64)
    (hs : subscripted slice false (.ref l) (.ref s.heap.objs.size) = operate [.ref s.heap.objs.size, .ref l] (getItem (.ref l) (.ref s.heap.objs.size))) (ht : ∀ r, letTemporaryGo value (.ref l) r = pure ()) :
    wpAny (model prog w) A (subscriptTail value slice (.ref l) (.ref s.heap.objs.size)) Q E { s with heap := s.heap.push { cls := .type "slice", data := .fields #[.none, .none, .none] } } :=
  kmk_slice (its := vs.toArray) F N (News.isList N hl) .none .none (fun D h' F' N' l1 => by rw [slicePick_all] at N'; exact h D h' F' N' l1) hs ht (by rw [List.size_toArray, sizeLine_eq]; omega)
end
theorem words_H10_2 : True := by
  k_with "subscriptTail Name Slice ref ref" => (k_here; (with_reducible show wpAny _ _ (subscriptTail _ (PySem.Expr.Slice none none none _) (Value.ref _) (Value.ref _)) _ _ _); k_dflt (refine' copy_list ?wH10F ?wH10N ?wH10l ?_ ?wH10z ?wH10s ?wH10t; (case wH10F => k_asm); (case wH10N => k_asm); (case wH10l => k_mem); (case wH10s => with_unfolding_all rfl); (case wH10t => (intro _; with_unfolding_all rfl)); (case wH10z => assumption)); intro D' h' F' N' l1; (try k_lt l1); (try k_sweep))
  trivial
/-- the ledger with a new list ahead -/
noncomputable def NewList (vs : List Value) (l : Ledger) (r : Value) (l' : Ledger) : Prop := ∃ D, r = .ref D ∧ l' = (D, W.listOf vs.toArray 0) :: l ∧ ∀ p ∈ l, p.1 < D
theorem hitems (w : World) (tl : Ledger) (x dx l : Addr) (hs : Int) (tko : Tok) (vs : List Value) (n e : Nat) (hsz : vs.length ≤ 64) :
    Ctr w 3 176 [.ref x] (tab x dx l hs tko e vs n tl) (NewList vs (tab x dx l hs tko e vs n tl)) := by
  intro loose mean mg mb dp un gd cn cs a ccd cl outer A₀ base h₀ L m s Q E B F X N T hk hdp hun hret
  refine wpAny_call ?_
  k_dflt (walk_at "my enter")
  k_steps
  exact retT hret (by assumption) (by assumption) (fun p hp => hp) ⟨_, rfl, rfl, by first | assumption | exact allLt_to (by assumption)⟩
theorem words_H10_3 : True := by
  k_with "eval ListComp" => (k_here; lcg_look; k_dflt (refine LCg.ListComp_U (F₀ := by k_asm) (by with_unfolding_all rfl) (by decide) (by rfl) (by decide) (by rfl) ?_); k_dflt lcg_toSrc)
  k_with "CompSrc" => (k_here; k_dflt (refine' LCg.CompSrc.ledger (by rfl) ?k1 ?k2 ?k3 ?k4 ?_; (case k1 => k_asm); (case k2 => k_asm); (case k3 => k_mem); (case k4 => walk_at "my size")); intro g')
  k_with "CompRest" => fail "stop"
  trivial
theorem strs_append : ∀ {a b : List Value} {x y : List Str}, StrsAre a x → StrsAre b y → StrsAre (a ++ b) (x ++ y)
  | _, _, _, _, .nil, h => h
  | _, _, _, _, .cons y t h', h => .cons y t (strs_append h' h)
theorem words_H10_4 : True := by
  k_with "binaryOp Add ref ref" => (k_here; k_dflt (refine' kmk_add_lit ?wH10F ?wH10N ?wH10a ?wH10b rfl ?_ ?wH10z; (case wH10F => k_asm); (case wH10N => k_asm); (case wH10a => exact News.isList (by k_asm) (by k_mem)); (case wH10b => exact News.isList (by k_asm) (by k_mem)); (case wH10z => walk_at "my sum")); intro D' h' F' N' l1; (try k_lt l1); (try k_sweep))
  k_with "my sum" => (rw [sizeLine_eq]; exact Nat.le_trans (Nat.add_le_add (b := 64) (by assumption) (Nat.le_refl 2)) (by decide))
  trivial
theorem line_len {i : Item} (h : i.Ok) : (lineStr i).length ≤ 9 := by
  have h1 := name_len h.p h.d h.g
  have h2 := text_len h.q
  have e : (Str.ofString ": ").length = 2 := by decide +kernel
  unfold lineStr Item.name Item.text
  rw [Str.length_append, Str.length_append, e]
  omega
theorem lines_sum : ∀ {row : List Item}, (∀ r ∈ row, r.Ok) → ((row.map lineStr).map (·.length)).sum ≤ row.length * 9
  | [], _ => Nat.le_refl _
  | r :: row, h => by
    have h1 := lines_sum (row := row) fun q hq => h q (.tail _ hq)
    have h2 := line_len (h r (.head _))
    simp only [List.map_cons, List.sum_cons, List.length_cons]
    omega
theorem join_rows {prog : Program} {w : World} {A : Around} {E : Value → Shared → Prop} {s : Shared} {h₀ : Heap} {L : Addr} {news : Ledger} {D : Addr} {ys : List Value} {n : Nat} {t t5 t6 : Tok} {row : List Item} {Q : Value → Shared → Prop} (N : News h₀ L s.heap news)
    (hD : (D, W.listOf (ys ++ [Value.str (Str.ofString "") t5, Value.str (Str.ofString "") t6]).toArray n) ∈ news) (hy : StrsAre ys (row.map lineStr)) (hrow : ∀ r ∈ row, r.Ok) (hz : ys.length ≤ 64)
    (h : ∀ t' k, Q (.str (gotOf row) t') { s with toks := k }) : wpAny (model prog w) A (call (.builtin "str.join") [.str (Str.ofString "\r\n") t, .ref D]) Q E s := by
  refine join_list (ys := row.map lineStr ++ [Str.ofString "", Str.ofString ""]) (News.isList N hD) ?_ ?_ h
  · rw [List.toList_toArray]; exact strs_append hy (.cons _ _ (.cons _ _ .nil))
  · have e1 : (Str.ofString "\r\n").length = 2 := by decide +kernel
    have e2 : (Str.ofString "").length = 0 := by decide +kernel
    have h1 := lines_sum hrow
    have h2 := hy.len_eq
    rw [List.length_map] at h2
    simp only [List.map_append, List.sum_append, List.length_append, List.length_map, List.map_cons, List.map_nil, List.sum_cons, List.sum_nil, List.length_cons, List.length_nil, e1, e2]
    omega
theorem words_H10_5 : True := by
  k_with "call builtin:str.join" => (k_here; k_dflt (refine' join_rows ?k1 ?k2 ?k3 ?k4 ?k5 ?_; (case k1 => k_asm); (case k2 => k_mem); (case k3 => assumption); (case k4 => assumption); (case k5 => assumption)); intro t' k')
  k_with "my drops" => (intro p9 hp9; first | exact hp9 | exact .tail _ hp9 | exact .tail _ (.tail _ hp9) | exact .tail _ (.tail _ (.tail _ hp9)) | exact .tail _ (.tail _ (.tail _ (.tail _ hp9))))
  trivial
theorem hstr (w : World) (tl : Ledger) (x dx l : Addr) (hs : Int) (tko : Tok) (vs : List Value) (n e : Nat) (row : List Item) (hrow : ∀ r ∈ row, r.Ok) (hsz : vs.length ≤ 64) (hall : DatAll tl vs (row.map lineDat)) :
    Ctr w 3 188 [.ref x] (tab x dx l hs tko e vs n tl) (fun r l' => l' = tab x dx l hs tko e vs n tl ∧ ∃ t, r = .str (gotOf row) t) := by
  intro loose mean mg mb dp un gd cn cs a ccd cl outer A₀ base h₀ L m s Q E B F X N T hk hdp hun hret
  have hlen : vs.length = row.length := by simpa using hall.length
  refine wpAny_call ?_
  k_dflt (walk_at "my enter")
  k_steps
  refine compU_fix (fun i ys l' => l' = tab x dx l hs tko e vs n tl ∧ StrsAre ys ((row.take i).map lineStr)) ?step ⟨rfl, .nil⟩ ?fin
  · rintro i ys l' v I oI C oC D m₂ h tk E' hi ⟨rfl, hy⟩ hP hC hx F' N' off ne
    obtain ⟨r, ra, t1, t2, rn, hr, rfl, hm⟩ := line_at hall hP
    obtain ⟨rp, rd, rq, rg⟩ := hrow r (List.mem_of_getElem? hr)
    have hn1 := name_len rp rd rg
    have hn2 := text_len rq
    k_steps
    refine LCg.CompEnd.intro (by assumption) (by assumption) _ (fun _ h => h) off (Or.inr ⟨_, by k_mem, rfl, _, rfl⟩) ⟨rfl, ?_⟩
    rw [List.take_add_one, hr, List.map_append]
    exact strs_append hy (.cons _ _ .nil)
  · rintro ys l' ⟨rfl, hy⟩
    rw [List.size_toArray, hlen, List.take_length] at hy
    have hyl : ys.length ≤ 64 := by have := hy.len_eq; rw [List.length_map] at this; omega
    k_steps
    exact retT hret (by assumption) (by assumption) (by walk_at "my drops") ⟨rfl, _, rfl⟩
end
section
open PySem PySem.W PyProof.Rows PySem.Calls PySem.Flt PyProof.Rows.LCg PyProof.Rows.LCt
theorem words_H11_1 : True := by
  k_with_none
  k_with "my use" => ((case k1 => k_asm); (case k2 => k_asm); (case k3 => k_asm); (case k4 => k_asm); (case k5 => k_asm); (case kK => first | exact rfl | assumption); (case kd => ktr_room); (case ku => ktr_units))
  k_with "getMethod ref" => (k_here; (with_reducible show wpAny _ _ (getMethod (Value.ref _) (Str.ofString "search") _) _ _ _); k_dflt (refine' pattern_method ?k1 ?k2 ?k3 ?k4 ?_; (case k1 => k_in); (case k2 => k_is); (case k3 => rfl); (case k4 => rfl)))
  k_with "call builtin:re.Pattern.search" => (k_here; k_dflt (refine' search_none ?k1 ?k2 ?k3 ?k4 ?_; (case k1 => k_in); (case k2 => k_is); (case k3 => rfl); (case k4 => first | with_reducible exact names_clean _ _ (by assumption) (by assumption) (by assumption) | with_reducible exact texts_clean _ _ (by assumption) | with_reducible exact names_clean _ _ (by assumption) (by assumption) (by decide))))
  k_with "call builtin:str.lower" => ((with_reducible show wpAny _ _ (call (Value.builtin "str.lower") [Value.str (nameOf _ _ _) _]) _ _ _); (refine lower_rule (by assumption) (by assumption) (by assumption) ?_))
  k_with "subscriptTail Name Constant ref int" => (k_here; k_dflt (refine' item_tupleT (News.isTup ?wH11N ?wH11m) ?wH11a ?wH11b ?wH11c ?wH11d ?_; (case wH11N => k_asm); (case wH11m => k_mem); (case wH11a => decide); (case wH11b => decide); (case wH11c => rfl); (case wH11d => rfl)))
  k_with "k_mem" => assumption
  k_with "setItem ref" => (k_here; (with_reducible show wpAny _ _ (setItem (Value.ref _) (Value.ref _) _) _ _ _); k_dflt (refine' setAll_K ?k1 ?k2 ?k3 ?k4 ?k5 ?k6 ?k7 ?_; (case k1 => k_asm); (case k2 => k_asm); (case k3 => k_mem); (case k4 => k_upd); (case k5 => k_ne); (case k6 => walk_at "my size"); (case k7 => walk_at "my size")); intro h' F' N'; (try k_sweep))
  k_with "k_all" => (refine tail_succ ?_; tbn_find)
  k_with "k_room" => ktr_room
  k_with "k_units" => ktr_units
  k_with "my enterC" => (refine' code_defC ?k1 ?k2 ?k3 ?k4 ?k5 ?kA ?kF ?kK ?k6 ?k7 ?k8 ?k9 ?kB ?kD ?_ ?wH11c2 ?wH11c3 ?wH11c4; (case kA => exact rfl); (case kF => exact rfl); (case kK => assumption); (case k1 => k_asm); (case k2 => k_asm); (case k3 => k_asm); (case k4 => k_asm); (case k5 => k_asm); (case k6 => k_is); (case k7 => k_is); (case k8 => ktr_room); (case k9 => exact BindsTo.of_eq rfl); (case kB => exact rfl); (case kD => decide +kernel); (case wH11c2 => exact rfl); (case wH11c3 => exact rfl); (case wH11c4 => exact rfl); k_whole; intro g' L' h' tk' cells' FG' F' N' Y' B' X' T' l1; (try k_lt l1); k_cells Y'; (try simp only [List.cons_append, List.nil_append] at N'); (try dsimp only); (try k_lift B'); (try k_fold))
  k_with "eval ListComp" => (k_here; lct_look; k_dflt (refine LCt.ListComp_T (F₀ := by k_asm) (by with_unfolding_all rfl) (by decide) (by rfl) (by decide) (by rfl) ?_); k_dflt lct_toSrc)
  k_with "CompSrcT" => (k_here; k_dflt (refine' LCt.CompSrcT.ledger (by rfl) ?k1 ?k2 ?k3 ?k4 ?_; (case k1 => k_asm); (case k2 => k_asm); (case k3 => k_mem); (case k4 => first | assumption | size_fits)); intro g')
  k_with "my size" => ((try rw [sizeLine_eq]); first | (rw [List.size_toArray]; omega) | (rw [List.size_toArray]; exact Nat.le_trans keepV_len (by omega)))
  k_with "my sub" => (intro p9 hp9; first | exact hp9 | exact .tail _ hp9 | exact .tail _ (.tail _ hp9) | exact .tail _ (.tail _ (.tail _ hp9)) | exact .tail _ (.tail _ (.tail _ (.tail _ hp9))) | exact .tail _ (.tail _ (.tail _ (.tail _ (.tail _ hp9)))))
  k_with "exec For Tuple Attribute" => (k_here; (rename Fr _ _ _ _ => lF'); (with_unfolding_all refine' For_turns lF' ?_; k_whole))
  k_with "my enter" => (refine' code_def ?k1 ?k2 ?k3 ?k4 ?k5 ?kA ?kF ?kK ?k6 ?k7 ?k8 ?k9 ?kB ?_ ?wH11c2 ?wH11c3 ?wH11c4 ?wH11c5; (case kA => exact rfl); (case kF => exact rfl); (case kK => assumption); (case k1 => k_asm); (case k2 => k_asm); (case k3 => k_asm); (case k4 => k_asm); (case k5 => k_asm); (case k6 => k_is); (case k7 => k_is); (case k8 => ktr_room); (case k9 => first | exact BindsTo.of_eq rfl | exact binds_K (by k_in) rfl (by k_is) rfl rfl rfl); (case wH11c5 => decide); (case kB => exact locs rfl); (case wH11c2 => exact rfl); (case wH11c3 => exact rfl); (case wH11c4 => exact rfl); k_whole; intro g' L' h' FG' F' N' B' X' T'; (try dsimp only); (try k_lift B'); (try k_fold))
  k_with "delItem ref str" => (k_here; (with_reducible show wpAny _ _ (delItem (Value.ref _) _) _ _ _); k_dflt (refine' delItem_own ?wH11F ?wH11X ?wH11I ?wH11hQ ?wH11hS ?wH11hF ?_; (case wH11F => k_asm); (case wH11X => k_asm); (case wH11I => k_inst); (case wH11hS => k_is); (case wH11hF => k_is); (case wH11hQ => k_is); k_whole))
  k_with "call builtin:list.append" => (k_here; (with_reducible show wpAny _ _ (call (Value.builtin _) [Value.ref _, _]) _ _ _); k_dflt (refine' append_K ?k1 ?k2 ?k3 ?_ ?wH11z; (case k1 => k_asm); (case k2 => k_asm); (case k3 => k_upd); (case wH11z => walk_at "my size"); k_whole); intro h' F' N'; (try k_sweep))
  trivial
open PySem.Builtin PySem.Builtin.Str in
theorem gives_find4 (x y : PySem.Str) (i j : Int) (t u v z : Tok) : Gives («str.find» ⟨[.str x t, .str y u, .int i v, .int j z], []⟩) (.int (match occurrences x y (fromIndex x.length i) (min (fromIndex x.length j) x.length) 1 with | k :: _ => (k : Int) | [] => -1)) := by
  show Gives (match occurrences x y (fromIndex x.length i) (min (fromIndex x.length j) x.length) 1 with | k :: _ => retInt k | [] => (do rule "str.find.not-found"; retInt (-1))) _
  cases occurrences x y (fromIndex x.length i) (min (fromIndex x.length j) x.length) 1 with
  | nil => exact .rule (.of_eq rfl)
  | cons k _ => exact .of_eq rfl
theorem from_nat (n p : Nat) : fromIndex n (p : Int) = p := by
  unfold fromIndex
  rw [if_neg (by omega)]
  omega
section
variable {prog : Program} {w : World} {A : Around} {E : Value → Shared → Prop} {s : Shared} {h₀ : Heap} {L : Addr} {m : Str → Option Value} {news : Ledger} {Q : Value → Shared → Prop}
theorem find_some {x y : Str} {p i : Nat} {t u v z : Tok} (hf : findN x y p = some i) (h : Q (.int (i : Int) s.toks) { s with toks := s.toks + 1 }) : wpAny (model prog w) A (call (.builtin "str.find") [.str x t, .str y u, .int (p : Int) v, .int (x.length : Int) z]) Q E s := by
  refine call_gives F.slot_str_find (typeIs_str _ _ _) F.entry_str_find (F.args_str_find_4 _ _ _ _) (gives_find4 x y _ _ t u v z) ?_
  rw [from_nat, from_nat, Nat.min_self]
  unfold findN at hf
  cases e : PySem.Builtin.Str.occurrences x y p x.length 1 with
  | nil => rw [e] at hf; cases hf
  | cons k r => rw [e] at hf; cases hf; exact h
theorem find_none {x y : Str} {p : Nat} {t u v z : Tok} (hf : findN x y p = none) (h : Q (.int (-1) s.toks) { s with toks := s.toks + 1 }) : wpAny (model prog w) A (call (.builtin "str.find") [.str x t, .str y u, .int (p : Int) v, .int (x.length : Int) z]) Q E s := by
  refine call_gives F.slot_str_find (typeIs_str _ _ _) F.entry_str_find (F.args_str_find_4 _ _ _ _) (gives_find4 x y _ _ t u v z) ?_
  rw [from_nat, from_nat, Nat.min_self]
  unfold findN at hf
  cases e : PySem.Builtin.Str.occurrences x y p x.length 1 with
  | nil => exact h
  | cons k r => rw [e] at hf; cases hf
theorem want_len {row : List Item} (h : ∀ i ∈ row, i.Ok) : (wantOf row).length ≤ 3 + row.length * 12 := by
  have e : dots.length = 3 := by decide +kernel
  have e2 : (Str.ofString "").length = 0 := by decide +kernel
  unfold wantOf
  rw [Str.length_append, e, txt_join]
  have h1 := StrLaws.join_length_le (Str.ofString "") (row.map fun i => lineStr i ++ dots)
  have h2 : ((row.map fun i => lineStr i ++ dots).map (·.length)).sum ≤ row.length * 12 := by
    clear h1
    induction row with
    | nil => exact Nat.le_refl _
    | cons r row ih =>
      have h3 := line_len (h r (.head _))
      have h4 := ih fun q hq => h q (.tail _ hq)
      simp only [List.map_cons, List.sum_cons, List.length_cons, Str.length_append, e]
      omega
  rw [e2] at h1
  omega
theorem empty_of {x : Str} (h : x.cps.toList = []) : x = Str.ofString "" := Str.ext' (Array.toList_inj.mp (by rw [h, ofS_nil]))
theorem split_want {row : List Item} (h : ∀ i ∈ row, i.Ok) : ∃ mid, Txt.split (wantOf row) dots = Str.ofString "" :: (mid ++ [Str.ofString ""]) ∧ mid.length = row.length := by
  have e := split_pieces (want_cps h) (fun q hq => by
    rcases List.mem_cons.mp hq with rfl | hq
    · exact List.not_mem_nil
    · obtain ⟨i, hi, rfl⟩ := List.mem_map.mp hq
      exact dot_line) (List.not_mem_nil)
  generalize Txt.split (wantOf row) dots = ws at e
  cases ws with
  | nil => simp at e
  | cons a ws =>
    rw [List.map_cons, List.cons_append] at e
    obtain ⟨ea, e⟩ := List.cons.inj e
    rcases List.eq_nil_or_concat ws with rfl | ⟨mid, z, rfl⟩
    · simp at e
    · rw [List.concat_eq_append, List.map_append] at e
      have e1 := List.append_inj' e (by simp)
      have hz : z.cps.toList = [] := by simpa using e1.2
      exact ⟨mid, by rw [empty_of ea, empty_of hz, List.concat_eq_append], by have := congrArg List.length e1.1; simpa using this⟩
theorem strs_split : ∀ {vs : List Value} {a b : List Str}, StrsAre vs (a ++ b) → ∃ v1 v2, vs = v1 ++ v2 ∧ StrsAre v1 a ∧ StrsAre v2 b
  | vs, [], b, h => ⟨[], vs, rfl, .nil, h⟩
  | _, _ :: a, b, .cons y t h => by
    obtain ⟨v1, v2, e, h1, h2⟩ := strs_split (a := a) h
    exact ⟨_ :: v1, v2, by rw [e]; rfl, .cons y t h1, h2⟩
theorem split_rule {row : List Item} {t u : Tok} (h : ∀ i ∈ row, i.Ok) (hz : row.length ≤ 64) (hF : Fr h₀ L s.heap m) (hN : News h₀ L s.heap news)
    (k : ∀ D mid vm t1 t2 h' tk, Txt.split (wantOf row) dots = Str.ofString "" :: (mid ++ [Str.ofString ""]) → StrsAre vm mid → vm.length = row.length → Fr h₀ L h' m → News h₀ L h' ((D, W.listOf (Value.str (Str.ofString "") t1 :: (vm ++ [Value.str (Str.ofString "") t2])).toArray 0) :: news) → (∀ p ∈ news, p.1 < D) → Q (.ref D) { s with heap := h', toks := tk }) :
    wpAny (model prog w) A (call (.builtin "str.split") [.str (wantOf row) t, .str dots u]) Q E s := by
  refine KSpl.split1 hF hN (by decide +kernel) (fun D l h' tk e a F' N' l1 => ?_) (by have := want_len h; rw [sizeLine_eq]; omega)
  obtain ⟨mid, em, hm⟩ := split_want h
  rw [e, em] at a
  generalize strValues l = vs at a N'
  cases a with
  | cons y t1 a =>
    obtain ⟨v1, v2, rfl, h1, h2⟩ := strs_split a
    cases h2 with
    | cons y t2 h3 =>
      cases h3
      exact k D mid v1 t1 t2 h' tk em h1 (by rw [h1.len_eq, hm]) F' N' l1
theorem len_ws {D : Addr} {a b : Value} {vm : List Value} {n : Nat} (N : News h₀ L s.heap news) (hD : (D, W.listOf (a :: (vm ++ [b])).toArray n) ∈ news) (hz : vm.length ≤ 64) (h : ∀ t, Q (.int ((vm.length : Int) + 2) t) { s with toks := s.toks + 1 + 1 }) :
    wpAny (model prog w) A (call (.builtin "len") [.ref D]) Q E s := by
  have e : (((a :: (vm ++ [b])).toArray.size : Nat) : Int) = (vm.length : Int) + 2 := by
    rw [List.size_toArray]; simp; omega
  refine len_list (News.isList N hD) (by rw [e]; omega) ?_
  rw [e]
  exact h _
theorem item_first {value slice : Expr} {D : Addr} {a b : Value} {vm : List Value} {n : Nat} {u : Tok} (N : News h₀ L s.heap news) (hD : (D, W.listOf (a :: (vm ++ [b])).toArray n) ∈ news) (h : Q a s)
    (hs : subscripted slice false (.ref D) (.int 0 u) = operate [.ref D, .int 0 u] (getItem (.ref D) (.int 0 u))) (hg : ∀ r, letTemporaryGo value (.ref D) r = pure ()) :
    wpAny (model prog w) A (subscriptTail value slice (.ref D) (.int 0 u)) Q E s :=
  item_list (News.isList N hD) (by decide) (by decide) (by simp) h hs hg
theorem item_last {value slice : Expr} {D : Addr} {a b : Value} {vm : List Value} {n : Nat} {u : Tok} (N : News h₀ L s.heap news) (hD : (D, W.listOf (a :: (vm ++ [b])).toArray n) ∈ news) (hz : vm.length ≤ 64) (h : Q b s)
    (hs : subscripted slice false (.ref D) (.int (-1) u) = operate [.ref D, .int (-1) u] (getItem (.ref D) (.int (-1) u))) (hg : ∀ r, letTemporaryGo value (.ref D) r = pure ()) :
    wpAny (model prog w) A (subscriptTail value slice (.ref D) (.int (-1) u)) Q E s := by
  have hl := News.isList N hD
  have e : (a :: (vm ++ [b])).toArray.size = vm.length + 2 := by rw [List.size_toArray]; simp
  refine subscriptTail_builtin hl.typeIs slot_list_getitem.lookup (wpAny_getItem_list_neg hl (by decide) (by rw [e]; omega) (by decide) ?_ h) hs hg
  rw [e]
  have e2 : ((-1 : Int) + ((vm.length + 2 : Nat) : Int)).toNat = vm.length + 1 := by omega
  rw [e2]
  simp
end
theorem words_H11_2 : True := by
  k_with "subscriptTail Name UnaryOp ref int" => (k_here; k_dflt (refine' item_last ?wH11N ?wH11m ?wH11z ?_ ?wH11c ?wH11d; (case wH11N => k_asm); (case wH11m => k_mem); (case wH11z => omega); (case wH11c => with_unfolding_all rfl); (case wH11d => (intro _; with_unfolding_all rfl))))
  k_with "call builtin:str.split" => (k_here; k_dflt (refine' split_rule ?k1 ?k2 ?k3 ?k4 ?_; (case k1 => assumption); (case k2 => assumption); (case k3 => k_asm); (case k4 => k_asm)); intro D' mid' vm' t1' t2' h' tk' hsp' hvm' hln' F' N' l1; (try k_lt l1); (try k_sweep))
  k_with "call builtin:len" => (k_here; (with_reducible show wpAny _ _ (call (Value.builtin "len") [Value.ref _]) _ _ _); k_dflt (refine' len_ws ?wH11a ?wH11b ?wH11c ?_; (case wH11a => k_asm); (case wH11b => k_mem); (case wH11c => omega)); intro t')
  k_with "subscriptTail Name Constant ref int" => (k_here; k_dflt (refine' item_first ?wH11N ?wH11m ?_ ?wH11c ?wH11d; (case wH11N => k_asm); (case wH11m => k_mem); (case wH11c => with_unfolding_all rfl); (case wH11d => (intro _; with_unfolding_all rfl))))
  k_with "call builtin:str.find" => (k_here; k_dflt (first | (refine' find_some ?wH11hf ?_; (case wH11hf => assumption)) | (refine' find_none ?wH11hf ?_; (case wH11hf => assumption))))
  trivial
theorem got_len {row : List Item} (h : ∀ i ∈ row, i.Ok) (hz : row.length ≤ 64) : (gotOf row).length ≤ 1000 := by
  have e : (Str.ofString "\r\n").length = 2 := by decide +kernel
  have e2 : (Str.ofString "").length = 0 := by decide +kernel
  unfold gotOf
  rw [txt_join]
  have h1 := StrLaws.join_length_le (Str.ofString "\r\n") (row.map lineStr ++ [Str.ofString "", Str.ofString ""])
  have h2 := lines_sum h
  simp only [List.map_append, List.sum_append, List.length_append, List.length_map, List.map_cons, List.map_nil, List.sum_cons, List.sum_nil, List.length_cons, List.length_nil, e, e2] at h1
  omega
theorem words_H11_3 : True := by
  k_with "call builtin:len" => (k_here; (with_reducible show wpAny _ _ (call (Value.builtin "len") [Value.str _ _]) _ _ _); k_dflt (refine' PySem.P.len_str ?wH11a ?_; (case wH11a => omega)))
  k_with "exec For Name Name cons nil" => (k_here; (rename Fr _ _ _ _ => lF'); (with_unfolding_all refine' For_turns lF' ?_; k_whole))
  trivial
noncomputable def keyMap (x : Str) (v : Value) (stored : List Str) (m₀ u : Str → Option Value) : Str → Option Value := fun y => if y = x then some v else if stored.contains y = true then u y else m₀ y
theorem keyMap_eq {x : Str} {v : Value} {stored : List Str} {m₀ m' : Str → Option Value} (h1 : m' x = some v) (k : Kept stored m₀ m') : m' = keyMap x v stored m₀ m' := by
  funext y
  unfold keyMap
  by_cases e : y = x
  · rw [if_pos e, e, h1]
  · rw [if_neg e]
    exact congrFun k.eq y
theorem drop_cons {α : Type _} {ws : List α} {i : Nat} {y : α} (h : ws[i]? = some y) : ws.drop i = y :: ws.drop (i + 1) := by
  obtain ⟨hi, rfl⟩ := List.getElem?_eq_some_iff.mp h
  exact List.drop_eq_getElem_cons hi
theorem ws_item {ws mid : List Str} {vm : List Value} {a b : Str} {t1 t2 : Tok} {i : Nat} {v : Value} (e : ws = a :: (mid ++ [b])) (h : StrsAre vm mid) (hv : (Value.str a t1 :: (vm ++ [Value.str b t2]))[i]? = some v) : ∃ y ty, v = .str y ty ∧ ws[i]? = some y := by
  have hws : StrsAre (Value.str a t1 :: (vm ++ [Value.str b t2])) ws := by rw [e]; exact .cons _ _ (strs_append h (.cons _ _ .nil))
  exact hws.item i v hv
theorem ws_len {ws mid : List Str} {vm : List Value} {a b : Str} {t1 t2 : Tok} (e : ws = a :: (mid ++ [b])) (h : StrsAre vm mid) : (Value.str a t1 :: (vm ++ [Value.str b t2])).length = ws.length := by
  have hws : StrsAre (Value.str a t1 :: (vm ++ [Value.str b t2])) ws := by rw [e]; exact .cons _ _ (strs_append h (.cons _ _ .nil))
  exact hws.len_eq
theorem words_H11_4 : True := by
  k_with "my drops" => (intro p9 hp9; (repeat with_reducible apply List.mem_cons_of_mem); exact hp9)
  trivial
theorem hell (w : World) (l : Ledger) (small large : List Item) (t1 t2 : Tok) (hs : ∀ i ∈ small, i.Ok) (hl : ∀ i ∈ large, i.Ok) (hz : small.length ≤ 64) (hz2 : large.length ≤ 64) :
    Ctr w 20 66 [.str (wantOf small) t1, .str (gotOf large) t2] l (fun r l' => l' = l ∧ r = .bool (decide (withinN small large = 0))) := by
  intro loose mean mg mb dp un gd cn cs a ccd cl outer A₀ base h₀ L m s Q E B F X N T hk hdp hun hret
  have hc : (PySem.Builtin.Str.occurrences (wantOf small) (Str.ofString "...") 0 (wantOf small).length 1).isEmpty = false := by
    have := contains_dots hs
    unfold Txt.contains at this
    simpa using this
  have hgl := got_len hl hz2
  refine wpAny_call ?_
  k_dflt (walk_at "my enter")
  k_steps
  rename Txt.split _ _ = _ => hsp
  rename StrsAre _ _ => hvm
  refine list_loop (fun i m' n' => n' = _ :: _ :: l ∧ Kept ["w", "startpos"] _ m' ∧ ∃ p : Nat, p ≤ (gotOf large).length ∧ (∃ t, m' (Str.ofString "startpos") = some (.int (p : Int) t)) ∧ ellF (gotOf large) ((Txt.split (wantOf small) dots).drop i) p = decide (withinN small large = 0)) rfl (by k_asm) (by k_asm) (.tail _ (.head _))
    ⟨rfl, Kept.refl, 0, Nat.zero_le _, ⟨_, rfl⟩, ell_within hs hl⟩ ?step ?fin
  · intro I i v m₁ news₁ h tk o hI hv hJ F₂ ho N₂
    obtain ⟨rfl, hkp, p, hp, ⟨tp, he⟩, hj⟩ := hJ
    obtain ⟨y, ty, rfl, hy⟩ := ws_item hsp hvm hv
    rw [keyMap_eq he hkp] at F₂
    unfold keyMap at F₂
    rw [drop_cons hy, ellF] at hj
    cases hf : findN (gotOf large) y p with
    | none =>
      rw [hf] at hj
      k_steps
      exact retT hret (by assumption) (by assumption) (by walk_at "my drops") ⟨rfl, congrArg Value.bool hj⟩
    | some j =>
      rw [hf] at hj
      have hle := findN_le hp hf
      k_steps
      exact turn_end (by assumption) (by assumption) hI ⟨⟨.tail _ (.head _), trivial⟩, rfl, (by repeat first | exact Kept.of Kept.refl | refine Kept.cons rfl ?_), j + y.length, hle, val_of rfl (by omega), hj⟩
  · intro m' n' hJ h tk F₂ N₂
    obtain ⟨rfl, hkp, p, hp, ⟨tp, he⟩, hj⟩ := hJ
    rw [ws_len hsp hvm, List.drop_length] at hj
    rw [keyMap_eq he hkp] at F₂
    unfold keyMap at F₂
    k_steps
    exact retT hret (by assumption) (by assumption) (by walk_at "my drops") ⟨rfl, congrArg Value.bool hj⟩
end
section
open PySem PySem.W PyProof.Rows PySem.Calls PySem.Flt PyProof.Rows.LCg PyProof.Rows.LCt
theorem words_G12_1 : True := by
  k_with_none
  k_with "my use" => ((case k1 => k_asm); (case k2 => k_asm); (case k3 => k_asm); (case k4 => k_asm); (case k5 => k_asm); (case kK => first | exact rfl | assumption); (case kd => ktr_room); (case ku => ktr_units))
  k_with "getMethod ref" => (k_here; (with_reducible show wpAny _ _ (getMethod (Value.ref _) (Str.ofString "search") _) _ _ _); k_dflt (refine' pattern_method ?k1 ?k2 ?k3 ?k4 ?_; (case k1 => k_in); (case k2 => k_is); (case k3 => rfl); (case k4 => rfl)))
  k_with "call builtin:re.Pattern.search" => (k_here; k_dflt (refine' search_none ?k1 ?k2 ?k3 ?k4 ?_; (case k1 => k_in); (case k2 => k_is); (case k3 => rfl); (case k4 => first | with_reducible exact names_clean _ _ (by assumption) (by assumption) (by assumption) | with_reducible exact texts_clean _ _ (by assumption) | with_reducible exact names_clean _ _ (by assumption) (by assumption) (by decide))))
  k_with "call builtin:str.lower" => ((with_reducible show wpAny _ _ (call (Value.builtin "str.lower") [Value.str (nameOf _ _ _) _]) _ _ _); (refine lower_rule (by assumption) (by assumption) (by assumption) ?_))
  k_with "subscriptTail Name Constant ref int" => (k_here; k_dflt (refine' item_tupleT (News.isTup ?wG12N ?wG12m) ?wG12a ?wG12b ?wG12c ?wG12d ?_; (case wG12N => k_asm); (case wG12m => k_mem); (case wG12a => decide); (case wG12b => decide); (case wG12c => rfl); (case wG12d => rfl)))
  k_with "k_mem" => assumption
  k_with "setItem ref" => (k_here; (with_reducible show wpAny _ _ (setItem (Value.ref _) (Value.ref _) _) _ _ _); k_dflt (refine' setAll_K ?k1 ?k2 ?k3 ?k4 ?k5 ?k6 ?k7 ?_; (case k1 => k_asm); (case k2 => k_asm); (case k3 => k_mem); (case k4 => k_upd); (case k5 => k_ne); (case k6 => walk_at "my size"); (case k7 => walk_at "my size")); intro h' F' N'; (try k_sweep))
  k_with "k_all" => (refine tail_succ ?_; tbn_find)
  k_with "k_room" => ktr_room
  k_with "k_units" => ktr_units
  k_with "my enterC" => (refine' code_defC ?k1 ?k2 ?k3 ?k4 ?k5 ?kA ?kF ?kK ?k6 ?k7 ?k8 ?k9 ?kB ?kD ?_ ?wG12c2 ?wG12c3 ?wG12c4; (case kA => exact rfl); (case kF => exact rfl); (case kK => assumption); (case k1 => k_asm); (case k2 => k_asm); (case k3 => k_asm); (case k4 => k_asm); (case k5 => k_asm); (case k6 => k_is); (case k7 => k_is); (case k8 => ktr_room); (case k9 => exact BindsTo.of_eq rfl); (case kB => exact rfl); (case kD => decide +kernel); (case wG12c2 => exact rfl); (case wG12c3 => exact rfl); (case wG12c4 => exact rfl); k_whole; intro g' L' h' tk' cells' FG' F' N' Y' B' X' T' l1; (try k_lt l1); k_cells Y'; (try simp only [List.cons_append, List.nil_append] at N'); (try dsimp only); (try k_lift B'); (try k_fold))
  k_with "eval ListComp" => (k_here; lct_look; k_dflt (refine LCt.ListComp_T (F₀ := by k_asm) (by with_unfolding_all rfl) (by decide) (by rfl) (by decide) (by rfl) ?_); k_dflt lct_toSrc)
  k_with "CompSrcT" => (k_here; k_dflt (refine' LCt.CompSrcT.ledger (by rfl) ?k1 ?k2 ?k3 ?k4 ?_; (case k1 => k_asm); (case k2 => k_asm); (case k3 => k_mem); (case k4 => first | assumption | size_fits)); intro g')
  k_with "my size" => ((try rw [sizeLine_eq]); first | (rw [List.size_toArray]; omega) | (rw [List.size_toArray]; exact Nat.le_trans keepV_len (by omega)))
  k_with "my sub" => (intro p9 hp9; first | exact hp9 | exact .tail _ hp9 | exact .tail _ (.tail _ hp9) | exact .tail _ (.tail _ (.tail _ hp9)) | exact .tail _ (.tail _ (.tail _ (.tail _ hp9))) | exact .tail _ (.tail _ (.tail _ (.tail _ (.tail _ hp9)))))
  k_with "exec For Tuple Attribute" => (k_here; (rename Fr _ _ _ _ => lF'); (with_unfolding_all refine' For_turns lF' ?_; k_whole))
  k_with "my enter" => (refine' code_def ?k1 ?k2 ?k3 ?k4 ?k5 ?kA ?kF ?kK ?k6 ?k7 ?k8 ?k9 ?kB ?_ ?wG12c2 ?wG12c3 ?wG12c4 ?wG12c5; (case kA => exact rfl); (case kF => exact rfl); (case kK => assumption); (case k1 => k_asm); (case k2 => k_asm); (case k3 => k_asm); (case k4 => k_asm); (case k5 => k_asm); (case k6 => k_is); (case k7 => k_is); (case k8 => ktr_room); (case k9 => first | exact BindsTo.of_eq rfl | exact binds_K (by k_in) rfl (by k_is) rfl rfl rfl); (case wG12c5 => decide); (case kB => exact locs rfl); (case wG12c2 => exact rfl); (case wG12c3 => exact rfl); (case wG12c4 => exact rfl); k_whole; intro g' L' h' FG' F' N' B' X' T'; (try dsimp only); (try k_lift B'); (try k_fold))
  k_with "delItem ref str" => (k_here; (with_reducible show wpAny _ _ (delItem (Value.ref _) _) _ _ _); k_dflt (refine' delItem_own ?wG12F ?wG12X ?wG12I ?wG12hQ ?wG12hS ?wG12hF ?_; (case wG12F => k_asm); (case wG12X => k_asm); (case wG12I => k_inst); (case wG12hS => k_is); (case wG12hF => k_is); (case wG12hQ => k_is); k_whole))
  k_with "call builtin:list.append" => (k_here; (with_reducible show wpAny _ _ (call (Value.builtin _) [Value.ref _, _]) _ _ _); k_dflt (refine' append_K ?k1 ?k2 ?k3 ?_ ?wG12z; (case k1 => k_asm); (case k2 => k_asm); (case k3 => k_upd); (case wG12z => walk_at "my size"); k_whole); intro h' F' N'; (try k_sweep))
  trivial
/-- a sheet as the ledger holds it; its tables and its row stand off the base -/
noncomputable def SheetAt (base l : Ledger) (row : List Item) (D : Addr) : Prop :=
  ∃ (t : Two) (vs1 : List Value) (n1 : Nat) (vs2 : List Value) (n2 : Nat) (lr : Addr) (rvs : List Value) (nr k : Nat), (D, tupN [.ref t.x1, .ref t.x2, .ref lr] k) ∈ l ∧
    (∀ p ∈ tab t.x1 t.d1 t.l1 t.hs1 t.tk1 t.e1 vs1 n1 [], p ∈ l ∧ ∀ q ∈ base, @Ne Nat q.1 p.1) ∧ (∀ p ∈ tab t.x2 t.d2 t.l2 t.hs2 t.tk2 t.e2 vs2 n2 [], p ∈ l ∧ ∀ q ∈ base, @Ne Nat q.1 p.1) ∧ ((lr, W.listOf rvs.toArray nr) ∈ l ∧ ∀ q ∈ base, @Ne Nat q.1 lr) ∧
    DatAll l vs1 (row.map lineDat) ∧ DatAll l vs2 (row.map lineDat) ∧ DatAll l rvs (row.map itemDat)
theorem SheetPost.at {tl l : Ledger} {row : List Item} {r : Value} (h : SheetPost tl row r l) : ∃ D, r = .ref D ∧ (∀ p ∈ tl, p ∈ l) ∧ SheetAt tl l row D := h
theorem datFlat2 {news news' : Ledger} (hs : ∀ p ∈ news, p.2.cls = .type "tuple" → (∃ xs n, p.2.data = .seq xs n) → p ∈ news') {f : Item → Dat} (hf : ∀ i, ∃ ds, f i = .tuple ds ∧ ∀ d ∈ ds, (∃ k, d = .int k) ∨ ∃ x, d = .str x) : ∀ {vs : List Value} {row : List Item}, DatAll news vs (row.map f) → DatAll news' vs (row.map f)
  | _, [], .nil => .nil
  | _, r :: row, .cons hd tl => by
    refine .cons ?_ (datFlat2 hs hf tl)
    obtain ⟨ds, e, hds⟩ := hf r
    rw [e] at hd ⊢
    cases hd with
    | tuple hm hall =>
      refine .tuple (hs _ hm rfl ⟨_, _, rfl⟩) ?_
      exact datFlat hds hall
theorem SheetAt.into {base base' l l' : Ledger} {row : List Item} {D : Addr} (h : SheetAt base l row D) (ht : ∀ p ∈ l, p.2.cls = .type "tuple" → (∃ xs n, p.2.data = .seq xs n) → p ∈ l') (hn : ∀ p ∈ l, (∀ q ∈ base, @Ne Nat q.1 p.1) → p ∈ l') (hb : ∀ q ∈ base', q ∈ base) : SheetAt base' l' row D := by
  obtain ⟨t, vs1, n1, vs2, n2, lr, rvs, nr, k, h1, h2, h3, h4, h5, h6, h7⟩ := h
  exact ⟨t, vs1, n1, vs2, n2, lr, rvs, nr, k, ht _ h1 rfl ⟨_, _, rfl⟩, fun p hp => ⟨hn p (h2 p hp).1 (h2 p hp).2, fun q hq => (h2 p hp).2 q (hb q hq)⟩, fun p hp => ⟨hn p (h3 p hp).1 (h3 p hp).2, fun q hq => (h3 p hp).2 q (hb q hq)⟩, ⟨hn _ h4.1 h4.2, fun q hq => h4.2 q (hb q hq)⟩, datFlat2 ht line_flat h5, datFlat2 ht line_flat h6, datFlat2 ht item_flat h7⟩
noncomputable def part (ms : List Int) (j : Nat) : List Int := ms.filter fun m => decide ((m.fdiv 384).fmod 3 = (j : Int))
noncomputable def SheetsAt (base : Ledger) (ms : List Int) (ys : List Value) (l : Ledger) : Prop := ∀ j v, ys[j]? = some v → ∃ D, v = .ref D ∧ SheetAt base l (rowOf (part ms j)) D
theorem news_ne2 {h₀ h : Heap} {L : Addr} {l : Ledger} {a b : Addr × Obj} (N : News h₀ L h l) (ha : a ∈ l) (hb : b ∈ l) (sa : ∃ xs n, a.2.data = .seq xs n) (nb : NoSeq b.2) : @Ne Nat a.1 b.1 := news_ne N ha hb fun e => by
  obtain ⟨xs, n, hd⟩ := sa
  rw [e] at hd
  exact nb xs n hd
theorem noSeq_cell {o : Obj} {v : Option Value} (h : o.data = .cell v) : NoSeq o := fun xs n e => by rw [h] at e; cases e
theorem sheets_end {s : Shared} {h₀ h' : Heap} {L : Addr} {m : Str → Option Value} {tk : Nat} {tl news9 l base : Ledger} {ms : List Int} {i : Nat} {ys : List Value} {r : Value} {I C c D : Addr} {oI oC oc : Obj} {v : Option Value}
    (F : Fr h₀ L h' m) (N : News h₀ L h' news9) (hp : SheetPost tl (rowOf (part ms i)) r news9) (hs : ∀ p ∈ (I, oI) :: (C, oC) :: (c, oc) :: (D, LCg.lst ys) :: l, p ∈ tl) (off : Off4 I C c D l) (hnI : NoSeq oI) (hnC : NoSeq oC) (hoc : oc.data = .cell v) (hb : ∀ p ∈ base, p ∈ l) (hlen : ys.length = i) (hsh : SheetsAt base ms ys l) :
    EndC s h₀ L m I oI C oC c oc D ys (fun r news' => (∀ p ∈ base, p ∈ news') ∧ (ys ++ [r]).length = i + 1 ∧ SheetsAt base ms (ys ++ [r]) news') r { s with heap := h', toks := tk } := by
  obtain ⟨D', rfl, hsub, hat⟩ := hp.at
  have mI : (I, oI) ∈ news9 := hsub _ (hs _ (.head _))
  have mC : (C, oC) ∈ news9 := hsub _ (hs _ (.tail _ (.head _)))
  have mc : (c, oc) ∈ news9 := hsub _ (hs _ (.tail _ (.tail _ (.head _))))
  have mD : (D, LCg.lst ys) ∈ news9 := hsub _ (hs _ (.tail _ (.tail _ (.tail _ (.head _)))))
  have hl : ∀ p ∈ l, p ∈ news9 := fun p hp => hsub p (hs p (.tail _ (.tail _ (.tail _ (.tail _ hp)))))
  let keep : Addr × Obj → Bool := fun p => decide (@Ne Nat p.1 I ∧ @Ne Nat p.1 C ∧ @Ne Nat p.1 c ∧ @Ne Nat p.1 D)
  have hk : ∀ p, p ∈ news9 → (@Ne Nat p.1 I ∧ @Ne Nat p.1 C ∧ @Ne Nat p.1 c ∧ @Ne Nat p.1 D) → p ∈ news9.filter keep := fun p h1 h2 => List.mem_filter.mpr ⟨h1, decide_eq_true h2⟩
  have hl' : ∀ p ∈ l, p ∈ news9.filter keep := fun p hp => hk p (hl p hp) (off p hp)
  have htup : ∀ p ∈ news9, p.2.cls = .type "tuple" → (∃ xs n, p.2.data = .seq xs n) → p ∈ news9.filter keep := fun p h1 h2 h3 =>
    hk p h1 ⟨news_ne2 N h1 mI h3 hnI, news_ne2 N h1 mC h3 hnC, news_ne2 N h1 mc h3 (noSeq_cell hoc), news_ne N h1 mD fun e => by rw [e] at h2; exact absurd h2 (by intro h; injection h with h; exact absurd h (by decide))⟩
  have hnew : ∀ p ∈ news9, (∀ q ∈ tl, @Ne Nat q.1 p.1) → p ∈ news9.filter keep := fun p h1 h2 =>
    hk p h1 ⟨(h2 _ (hs _ (.head _))).symm, (h2 _ (hs _ (.tail _ (.head _)))).symm, (h2 _ (hs _ (.tail _ (.tail _ (.head _))))).symm, (h2 _ (hs _ (.tail _ (.tail _ (.tail _ (.head _)))))).symm⟩
  refine ⟨h', tk, news9.filter keep, rfl, F, fun p hp => ?_, fun p hp => of_decide_eq_true (List.mem_filter.mp hp).2, fun p hp => hl' p (hb p hp), by rw [List.length_append, hlen]; rfl, fun j w hj => ?_⟩
  · rcases List.mem_cons.mp hp with rfl | hp
    · exact N _ mI
    · rcases List.mem_cons.mp hp with rfl | hp
      · exact N _ mC
      · rcases List.mem_cons.mp hp with rfl | hp
        · exact N _ mc
        · rcases List.mem_cons.mp hp with rfl | hp
          · exact N _ mD
          · exact N _ (List.mem_filter.mp hp).1
  · rcases Nat.lt_or_ge j ys.length with hlt | hge
    · rw [List.getElem?_append_left hlt] at hj
      obtain ⟨D₂, e, h2⟩ := hsh j w hj
      exact ⟨D₂, e, h2.into (fun p hp _ _ => hl' p hp) (fun p hp _ => hl' p hp) fun _ h => h⟩
    · have e0 : j = ys.length := by
        have := (List.getElem?_eq_some_iff.mp hj).1
        simp only [List.length_append, List.length_cons, List.length_nil] at this
        omega
      subst e0
      rw [List.getElem?_append_right (Nat.le_refl _), Nat.sub_self] at hj
      cases hj
      rw [hlen]
      exact ⟨D', rfl, hat.into htup hnew fun q hq => hs q (.tail _ (.tail _ (.tail _ (.tail _ (hb q hq)))))⟩
theorem part_mem {ms : List Int} {j : Nat} (h : ∀ m ∈ ms, 0 ≤ m ∧ m < 3456) : ∀ m ∈ part ms j, 0 ≤ m ∧ m < 3456 := fun m hm => h m (List.mem_filter.mp hm).1
theorem part_len {ms : List Int} {j : Nat} : (part ms j).length ≤ ms.length := List.length_filter_le _ _
theorem mods_mem (ns : List Int) : ∀ m ∈ ns.map (fun k => k.fmod 3456), 0 ≤ m ∧ m < 3456 := fun m hm => by
  obtain ⟨k, _, rfl⟩ := List.mem_map.mp hm
  exact ⟨Int.fmod_nonneg_of_pos _ (by decide), Int.fmod_lt_of_pos _ (by decide)⟩
end
section
open PySem PySem.W PyProof.Rows PySem.Calls PySem.Flt PyProof.Rows.LCg PyProof.Rows.LCt
theorem words_G13_1 : True := by
  k_with_none
  k_with "my use" => ((case k1 => k_asm); (case k2 => k_asm); (case k3 => k_asm); (case k4 => k_asm); (case k5 => k_asm); (case kK => first | exact rfl | assumption); (case kd => ktr_room); (case ku => ktr_units))
  k_with "getMethod ref" => (k_here; (with_reducible show wpAny _ _ (getMethod (Value.ref _) (Str.ofString "search") _) _ _ _); k_dflt (refine' pattern_method ?k1 ?k2 ?k3 ?k4 ?_; (case k1 => k_in); (case k2 => k_is); (case k3 => rfl); (case k4 => rfl)))
  k_with "call builtin:re.Pattern.search" => (k_here; k_dflt (refine' search_none ?k1 ?k2 ?k3 ?k4 ?_; (case k1 => k_in); (case k2 => k_is); (case k3 => rfl); (case k4 => first | with_reducible exact names_clean _ _ (by assumption) (by assumption) (by assumption) | with_reducible exact texts_clean _ _ (by assumption) | with_reducible exact names_clean _ _ (by assumption) (by assumption) (by decide))))
  k_with "call builtin:str.lower" => ((with_reducible show wpAny _ _ (call (Value.builtin "str.lower") [Value.str (nameOf _ _ _) _]) _ _ _); (refine lower_rule (by assumption) (by assumption) (by assumption) ?_))
  k_with "subscriptTail Name Constant ref int" => (k_here; k_dflt (refine' item_tupleT (News.isTup ?wG13N ?wG13m) ?wG13a ?wG13b ?wG13c ?wG13d ?_; (case wG13N => k_asm); (case wG13m => k_mem); (case wG13a => decide); (case wG13b => decide); (case wG13c => rfl); (case wG13d => rfl)))
  k_with "k_mem" => assumption
  k_with "setItem ref" => (k_here; (with_reducible show wpAny _ _ (setItem (Value.ref _) (Value.ref _) _) _ _ _); k_dflt (refine' setAll_K ?k1 ?k2 ?k3 ?k4 ?k5 ?k6 ?k7 ?_; (case k1 => k_asm); (case k2 => k_asm); (case k3 => k_mem); (case k4 => k_upd); (case k5 => k_ne); (case k6 => walk_at "my size"); (case k7 => walk_at "my size")); intro h' F' N'; (try k_sweep))
  k_with "k_all" => (refine tail_succ ?_; tbn_find)
  k_with "k_room" => ktr_room
  k_with "k_units" => ktr_units
  k_with "my enterC" => (refine' code_defC ?k1 ?k2 ?k3 ?k4 ?k5 ?kA ?kF ?kK ?k6 ?k7 ?k8 ?k9 ?kB ?kD ?_ ?wG13c2 ?wG13c3 ?wG13c4; (case kA => exact rfl); (case kF => exact rfl); (case kK => assumption); (case k1 => k_asm); (case k2 => k_asm); (case k3 => k_asm); (case k4 => k_asm); (case k5 => k_asm); (case k6 => k_is); (case k7 => k_is); (case k8 => ktr_room); (case k9 => exact BindsTo.of_eq rfl); (case kB => exact rfl); (case kD => decide +kernel); (case wG13c2 => exact rfl); (case wG13c3 => exact rfl); (case wG13c4 => exact rfl); k_whole; intro g' L' h' tk' cells' FG' F' N' Y' B' X' T' l1; (try k_lt l1); k_cells Y'; (try simp only [List.cons_append, List.nil_append] at N'); (try dsimp only); (try k_lift B'); (try k_fold))
  k_with "eval ListComp" => (k_here; lct_look; k_dflt (refine LCt.ListComp_T (F₀ := by k_asm) (by with_unfolding_all rfl) (by decide) (by rfl) (by decide) (by rfl) ?_); k_dflt lct_toSrc)
  k_with "CompSrcT" => (k_here; k_dflt (refine' LCt.CompSrcT.ledger (by rfl) ?k1 ?k2 ?k3 ?k4 ?_; (case k1 => k_asm); (case k2 => k_asm); (case k3 => k_mem); (case k4 => first | assumption | size_fits)); intro g')
  k_with "my size" => ((try rw [sizeLine_eq]); first | (rw [List.size_toArray]; omega) | (rw [List.size_toArray]; exact Nat.le_trans keepV_len (by omega)))
  k_with "my sub" => (intro p9 hp9; first | exact hp9 | exact .tail _ hp9 | exact .tail _ (.tail _ hp9) | exact .tail _ (.tail _ (.tail _ hp9)) | exact .tail _ (.tail _ (.tail _ (.tail _ hp9))) | exact .tail _ (.tail _ (.tail _ (.tail _ (.tail _ hp9)))))
  k_with "exec For Tuple Attribute" => (k_here; (rename Fr _ _ _ _ => lF'); (with_unfolding_all refine' For_turns lF' ?_; k_whole))
  k_with "my enter" => (refine' code_def ?k1 ?k2 ?k3 ?k4 ?k5 ?kA ?kF ?kK ?k6 ?k7 ?k8 ?k9 ?kB ?_ ?wG13c2 ?wG13c3 ?wG13c4 ?wG13c5; (case kA => exact rfl); (case kF => exact rfl); (case kK => assumption); (case k1 => k_asm); (case k2 => k_asm); (case k3 => k_asm); (case k4 => k_asm); (case k5 => k_asm); (case k6 => k_is); (case k7 => k_is); (case k8 => ktr_room); (case k9 => first | exact BindsTo.of_eq rfl | exact binds_K (by k_in) rfl (by k_is) rfl rfl rfl); (case wG13c5 => decide); (case kB => exact locs rfl); (case wG13c2 => exact rfl); (case wG13c3 => exact rfl); (case wG13c4 => exact rfl); k_whole; intro g' L' h' FG' F' N' B' X' T'; (try dsimp only); (try k_lift B'); (try k_fold))
  k_with "delItem ref str" => (k_here; (with_reducible show wpAny _ _ (delItem (Value.ref _) _) _ _ _); k_dflt (refine' delItem_own ?wG13F ?wG13X ?wG13I ?wG13hQ ?wG13hS ?wG13hF ?_; (case wG13F => k_asm); (case wG13X => k_asm); (case wG13I => k_inst); (case wG13hS => k_is); (case wG13hF => k_is); (case wG13hQ => k_is); k_whole))
  k_with "call builtin:list.append" => (k_here; (with_reducible show wpAny _ _ (call (Value.builtin _) [Value.ref _, _]) _ _ _); k_dflt (refine' append_K ?k1 ?k2 ?k3 ?_ ?wG13z; (case k1 => k_asm); (case k2 => k_asm); (case k3 => k_upd); (case wG13z => walk_at "my size"); k_whole); intro h' F' N'; (try k_sweep))
  trivial
theorem spelledN (w : World) (l : Ledger) (tup : Addr) (p d q g : Int) (t1 t2 t3 t4 : Tok) (n : Nat) (ok : ItemOk p d q g) (hm : (tup, tupN [.int p t1, .int d t2, .int q t3, .int g t4] n) ∈ l) :
    Ctr w 1 223 [.ref tup] l (PostL (nameOf p d g) (textOf q) l) := by
  intro loose mean mg mb dp un gd cn cs a ccd cl outer A₀ base h₀ L m s Q E B F X N T hk hdp hun hret
  obtain ⟨hp, hd, hq, hg⟩ := ok
  refine wpAny_call ?_
  k_dflt (walk_at "my enter")
  k_steps
  all_goals exact hret _ _ _ _ (by assumption) (by assumption) (endL (by unfold nameOf; (repeat' (first | rw [if_pos (by assumption)] | rw [if_neg (by assumption)] | rw [if_neg (not_tt (by assumption))])); all_goals rfl) (by rfl) (by first | assumption | exact allLt_to (by assumption) | exact allLt_to (by simp only [AllLt]; exact ⟨by omega, by assumption⟩)))
theorem tab_sub {x dx l : Addr} {hs : Int} {tk : Tok} {e n : Nat} {vs : List Value} {L : Ledger} (h : ∀ p ∈ tab x dx l hs tk e vs n [], p ∈ L) : ∀ p ∈ tab x dx l hs tk e vs n L, p ∈ L := fun p hp => by
  simp only [tab, List.mem_cons] at hp
  rcases hp with h' | h' | h' | h'
  · exact h p (by simp [h'])
  · exact h p (by simp [h'])
  · exact h p (by simp [h'])
  · exact h'
theorem hitemsL (w : World) (L : Ledger) (x dx l : Addr) (hs : Int) (tk : Tok) (vs : List Value) (n e : Nat) (hsz : vs.length ≤ 64) (hm : ∀ p ∈ tab x dx l hs tk e vs n [], p ∈ L) :
    Ctr w 3 176 [.ref x] L (NewList vs L) := by
  refine Ctr.conv (hitems w L x dx l hs tk vs n e hsz) (tab_sub hm) ?_
  rintro r l' ⟨D, rfl, rfl, hD⟩
  have hs : ∀ p ∈ L, p ∈ tab x dx l hs tk e vs n L := fun p hp => .tail _ (.tail _ (.tail _ hp))
  refine ⟨(D, W.listOf vs.toArray 0) :: L, fun p hp => ?_, D, rfl, rfl, fun p hp => hD p (hs p hp)⟩
  rcases List.mem_cons.mp hp with rfl | hp
  · exact .head _
  · exact .tail _ (hs p hp)
theorem hstrL (w : World) (L : Ledger) (x dx l : Addr) (hs : Int) (tk : Tok) (vs : List Value) (n e : Nat) (row : List Item) (hrow : ∀ r ∈ row, r.Ok) (hsz : vs.length ≤ 64) (hall : DatAll L vs (row.map lineDat)) (hm : ∀ p ∈ tab x dx l hs tk e vs n [], p ∈ L) :
    Ctr w 3 188 [.ref x] L (fun r l' => l' = L ∧ ∃ t, r = .str (gotOf row) t) := by
  refine Ctr.conv (hstr w L x dx l hs tk vs n e row hrow hsz hall) (tab_sub hm) ?_
  rintro r l' ⟨rfl, t, rfl⟩
  exact ⟨L, fun p hp => .tail _ (.tail _ (.tail _ hp)), rfl, t, rfl⟩
theorem split_cells {h₀ h : Heap} {L : Addr} {l base : Ledger} {D : Addr} {ys : List Value} {ms : List Int} {cr cw : Addr} {oR oW : Obj} {vr vw : Option Value} (N : News h₀ L h ((D, LCg.lst ys) :: l)) (hb : ∀ p ∈ base, p ∈ l) (hcr : (cr, oR) ∈ base) (hcw : (cw, oW) ∈ base) (dr : oR.data = .cell vr) (dw : oW.data = .cell vw)
    (hsh : SheetsAt base ms ys l) (ho : LCg.Off1 D l) : ∃ l', News h₀ L h ((D, LCg.lst ys) :: (cr, oR) :: (cw, oW) :: l') ∧ (∀ p ∈ l', @Ne Nat p.1 cr ∧ @Ne Nat p.1 cw) ∧ @Ne Nat D cr ∧ @Ne Nat D cw ∧ SheetsAt [] ms ys l' := by
  let keep : Addr × Obj → Bool := fun p => decide (@Ne Nat p.1 cr ∧ @Ne Nat p.1 cw)
  have Nl : News h₀ L h l := fun p hp => N p (.tail _ hp)
  refine ⟨l.filter keep, fun p hp => ?_, fun p hp => of_decide_eq_true (List.mem_filter.mp hp).2, (off1_to ho _ (hb _ hcr)).symm, (off1_to ho _ (hb _ hcw)).symm, fun j v hj => ?_⟩
  · rcases List.mem_cons.mp hp with rfl | hp
    · exact N _ (.head _)
    · rcases List.mem_cons.mp hp with rfl | hp
      · exact Nl _ (hb _ hcr)
      · rcases List.mem_cons.mp hp with rfl | hp
        · exact Nl _ (hb _ hcw)
        · exact Nl _ (List.mem_filter.mp hp).1
  · obtain ⟨D', e, hat⟩ := hsh j v hj
    refine ⟨D', e, hat.into (fun p hp _ hs => List.mem_filter.mpr ⟨hp, decide_eq_true ⟨news_ne2 Nl hp (hb _ hcr) hs (noSeq_cell dr), news_ne2 Nl hp (hb _ hcw) hs (noSeq_cell dw)⟩⟩) (fun p hp hq => List.mem_filter.mpr ⟨hp, decide_eq_true ⟨(hq _ hcr).symm, (hq _ hcw).symm⟩⟩) fun q hq => nomatch hq⟩
theorem ints_yes {xs : List Value} {ms : List Int} {j : Nat} {k : Int} {t : Tok} {f : Int → Bool} (hk : ms[j]? = some k) (h : IntsAre xs ((ms.take j).filter f)) (hf : f k = true) : IntsAre (xs ++ [.int k t]) ((ms.take (j + 1)).filter f) := by
  rw [List.take_add_one, hk, List.filter_append]
  simp only [Option.toList_some, List.filter_cons, hf, if_true, List.filter_nil]
  exact h.append (.cons _ _ .nil)
theorem ints_no {xs : List Value} {ms : List Int} {j : Nat} {k : Int} {f : Int → Bool} (hk : ms[j]? = some k) (h : IntsAre xs ((ms.take j).filter f)) (hf : f k = false) : IntsAre xs ((ms.take (j + 1)).filter f) := by
  rw [List.take_add_one, hk, List.filter_append]
  simp only [Option.toList_some, List.filter_cons, hf, Bool.false_eq_true, if_false, List.filter_nil, List.append_nil]
  exact h
theorem line_ok {row : List Item} (h : ∀ r ∈ row, r.Ok) : ∀ d ∈ row.map lineDat, kqdOk 8 d = true := fun d hd => by
  obtain ⟨r, hr, rfl⟩ := List.mem_map.mp hd
  have k := h r hr
  have h1 : PyData.strOk r.name = true := by
    have : ∀ {p d g : Int}, (0 ≤ p ∧ p ≤ 4) → (0 ≤ d ∧ d ≤ 3) → (0 ≤ g ∧ g ≤ 1) → PyData.strOk (nameOf p d g) = true := fun hp hd hg => by
      rcases five hp with rfl | rfl | rfl | rfl | rfl <;> rcases four hd with rfl | rfl | rfl | rfl <;> rcases two hg with rfl | rfl <;> decide +kernel
    exact this k.p k.d k.g
  have h2 : PyData.strOk r.text = true := by
    have : ∀ {q : Int}, (0 ≤ q ∧ q ≤ 3) → PyData.strOk (textOf q) = true := fun hq => by rcases four hq with rfl | rfl | rfl | rfl <;> decide +kernel
    exact this k.q
  simp [lineDat, kqdOk, h1, h2]
section
variable {prog : Program} {w : World} {A : Around} {E : Value → Shared → Prop} {s : Shared} {h₀ : Heap} {L : Addr} {m : Str → Option Value} {env : Env}
theorem ne_lines {a b : Addr} {na nb : Nat} {xs ys : List Value} {row : List Item} {news n₁ n₂ : Ledger} {Q : Value → Shared → Prop} (N : News h₀ L s.heap news) (ma : (a, W.listOf xs.toArray na) ∈ news) (Da : DatAll n₁ xs (row.map lineDat)) (sa : ∀ p ∈ n₁, p ∈ news)
    (mb : (b, W.listOf ys.toArray nb) ∈ news) (Db : DatAll n₂ ys (row.map lineDat)) (sb : ∀ p ∈ n₂, p ∈ news) (hrow : ∀ r ∈ row, r.Ok) (hu : A.units + 64 < cLine) (h : Q (.bool false) s) : wpAny (model prog w) A (compareOp .NotEq (.ref a) (.ref b)) Q E s :=
  kqd_ne N ma rfl rfl Da sa mb rfl rfl Db sb (line_ok hrow) (line_ok hrow) hu (by simpa using h)
open PyProof.Rows.LCp in
theorem compP_lines {elt : PySem.Expr} {x x₂ : Str} {scope : Scope} {cl : List (Str × Addr)} {S : Ledger → Prop} {Fin : List Value → Ledger → Prop} {vs : List Value} {row : List Item} {news tl : Ledger} (hall : DatAll tl vs (row.map lineDat)) (hsub : ∀ p ∈ tl, p ∈ news) (J : Nat → List Value → Prop)
    (step : ∀ i ys r t1 t2 I oI C oC D m₂ h tk (E' : Value → Shared → Prop), row[i]? = some r → J i ys → NsObj oC m₂ → m₂ x = some (.str (nameOf r.p r.d r.g) t1) → m₂ x₂ = some (.str (textOf r.q) t2) → Fr h₀ L h m → News h₀ L h ((I, oI) :: (C, oC) :: (D, lst ys) :: news) → Off3 I C D news → ((@Ne Nat I C) ∧ (@Ne Nat I D) ∧ (@Ne Nat C D)) →
      wpAny (model prog w) A (eval elt (compEnvC scope cl C env)) (CompEnd h₀ L m { s with heap := h, toks := tk } I oI C oC D (lst ys) S (fun y news' => news' = news ∧ J (i + 1) (ys ++ [y]))) E' { s with heap := h, toks := tk })
    (h0 : J 0 []) (fin : ∀ ys, J vs.length ys → Fin ys news) : CompRestP prog w A h₀ L m env elt x x₂ scope cl s S (fun i v => vs.toArray[i]? = some v) Fin vs.toArray.size 0 [] news := by
  have hl : vs.length = row.length := by simpa using hall.length
  have key : ∀ k i ys, i + k = vs.length → J i ys → CompRestP prog w A h₀ L m env elt x x₂ scope cl s S (fun i v => vs.toArray[i]? = some v) Fin k i ys news := by
    intro k
    induction k with
    | zero => intro i ys e h; exact CompRestP.zero (fin _ (by rw [← e]; exact h))
    | succ k ih =>
      intro i ys e h
      refine CompRestP.succ fun v hv => ?_
      obtain ⟨r, a, t1, t2, n, hr, rfl, hm⟩ := line_at hall hv
      refine ⟨a, _, _, _, n, rfl, hsub _ hm, rfl, rfl, fun I oI C oC D m₂ h' tk E' hC hx hx2 F N off ne => ?_⟩
      exact wpAny_mono (step i ys r t1 t2 I oI C oC D m₂ h' tk E' hr h hC hx hx2 F N off ne) (fun y s'' hy => compEnd_mono hy fun y l hj => by obtain ⟨rfl, hj⟩ := hj; exact ih _ _ (by omega) hj) fun _ _ e => e
  have := key vs.length 0 [] (Nat.zero_add _) h0
  rwa [← List.size_toArray] at this
theorem join_glued {D : Addr} {ys : List Value} {n : Nat} {t : Tok} {row : List Item} {c : Str} {news : Ledger} {Q : Value → Shared → Prop} (N : News h₀ L s.heap news) (hD : (D, W.listOf ys.toArray n) ∈ news) (hy : StrsAre ys (row.map fun i => lineStr i ++ c)) (hrow : ∀ r ∈ row, r.Ok) (hz : row.length ≤ 64) (hc : c.length ≤ 3)
    (h : ∀ t' k, Q (.str (Txt.join (Str.ofString "") (row.map fun i => lineStr i ++ c)) t') { s with toks := k }) : wpAny (model prog w) A (call (.builtin "str.join") [.str (Str.ofString "") t, .ref D]) Q E s := by
  refine join_list (News.isList N hD) (by rw [List.toList_toArray]; exact hy) ?_ h
  have e2 : (Str.ofString "").length = 0 := by decide +kernel
  have h2 : ((row.map fun i => lineStr i ++ c).map (·.length)).sum ≤ row.length * 12 := by
    clear hy hz h
    induction row with
    | nil => exact Nat.le_refl _
    | cons r row ih =>
      have h3 := line_len (hrow r (.head _))
      have h4 := ih fun q hq => hrow q (.tail _ hq)
      simp only [List.map_cons, List.sum_cons, List.length_cons, Str.length_append]
      omega
  rw [e2, List.length_map]
  omega
theorem glued_len {row : List Item} {c : Str} (hrow : ∀ r ∈ row, r.Ok) (hz : row.length ≤ 64) (hc : c.length ≤ 3) : (Txt.join (Str.ofString "") (row.map fun i => lineStr i ++ c)).length ≤ 1000 := by
  have e2 : (Str.ofString "").length = 0 := by decide +kernel
  have h1 := StrLaws.join_length_le (Str.ofString "") (row.map fun i => lineStr i ++ c)
  have h2 : ((row.map fun i => lineStr i ++ c).map (·.length)).sum ≤ row.length * 12 := by
    clear h1 hz
    induction row with
    | nil => exact Nat.le_refl _
    | cons r row ih =>
      have h3 := line_len (hrow r (.head _))
      have h4 := ih fun q hq => hrow q (.tail _ hq)
      simp only [List.map_cons, List.sum_cons, List.length_cons, Str.length_append]
      omega
  rw [txt_join]
  rw [e2] at h1
  omega
end
theorem hitemsM (w : World) (L l₂ : Ledger) (x dx l : Addr) (hs : Int) (tk : Tok) (vs : List Value) (n e : Nat) (hsz : vs.length ≤ 64) (hm : ∀ p ∈ tab x dx l hs tk e vs n [], p ∈ l₂) (hsub : ∀ p ∈ l₂, p ∈ L) :
    Ctr w 3 176 [.ref x] L (NewList vs L) := hitemsL w L x dx l hs tk vs n e hsz fun p hp => hsub p (hm p hp)
theorem hstrM (w : World) (L l₂ : Ledger) (x dx l : Addr) (hs : Int) (tk : Tok) (vs : List Value) (n e : Nat) (row : List Item) (hrow : ∀ r ∈ row, r.Ok) (hsz : vs.length ≤ 64) (hall : DatAll l₂ vs (row.map lineDat)) (hm : ∀ p ∈ tab x dx l hs tk e vs n [], p ∈ l₂) (hsub : ∀ p ∈ l₂, p ∈ L) :
    Ctr w 3 188 [.ref x] L (fun r l' => l' = L ∧ ∃ t, r = .str (gotOf row) t) := hstrL w L x dx l hs tk vs n e row hrow hsz (hall.mono hsub) fun p hp => hsub p (hm p hp)
theorem hwithinM (w : World) (L l₂ : Ledger) (a1 a2 : Addr) (vs1 vs2 : List Value) (n1 n2 : Nat) (row1 row2 : List Item) (hz1 : vs1.length ≤ 64) (hz2 : vs2.length ≤ 64) (hd1 : DatAll l₂ vs1 (row1.map itemDat)) (hd2 : DatAll l₂ vs2 (row2.map itemDat))
    (hm1 : (a1, W.listOf vs1.toArray n1) ∈ l₂) (hm2 : (a2, W.listOf vs2.toArray n2) ∈ l₂) (hsub : ∀ p ∈ l₂, p ∈ L) :
    Ctr w 20 270 [.ref a1, .ref a2] L (fun r l' => l' = L ∧ r = .bool (decide (withinN row1 row2 = 0))) := hwithin w L a1 a2 vs1 vs2 n1 n2 row1 row2 hz1 hz2 (hd1.mono hsub) (hd2.mono hsub) (hsub _ hm1) (hsub _ hm2)
theorem NewList.opened {vs : List Value} {l : Ledger} {r : Value} {l' : Ledger} (h : NewList vs l r l') : ∃ D, r = .ref D ∧ l' = (D, W.listOf vs.toArray 0) :: l ∧ ∀ p ∈ l, p.1 < D := h
theorem PostL.opened2 {x y : Str} {news : Ledger} {r : Value} {news' : Ledger} (h : PostL x y news r news') : ∃ D t5 t6, r = .ref D ∧ news' = (D, tupOf [.str x t5, .str y t6]) :: news ∧ ∀ p ∈ news, p.1 < D := h
theorem off_lt {I cr cw : Addr} {a : Addr × Obj} {x x' y y' : Obj} {l : Ledger} (h : ∀ p ∈ a :: (cr, x) :: (cw, y) :: l, p.1 < I) : ∀ p ∈ a :: (cr, x') :: (cw, y') :: l, p.1 < I := fun p hp => by
  rcases List.mem_cons.mp hp with rfl | hp
  · exact h _ (.head _)
  · rcases List.mem_cons.mp hp with rfl | hp
    · exact h (cr, x) (.tail _ (.head _))
    · rcases List.mem_cons.mp hp with rfl | hp
      · exact h (cw, y) (.tail _ (.tail _ (.head _)))
      · exact h p (.tail _ (.tail _ (.tail _ hp)))
theorem oneMap_eq {x : Str} {v : Value} {m' : Str → Option Value} (h : m' x = some v) : m' = fun y => if y = x then some v else m' y := by
  funext y
  by_cases e : y = x
  · rw [if_pos e, e, h]
  · rw [if_neg e]
theorem got_same {row : List Item} (h : ∀ r ∈ row, r.Ok) : (gotOf row != Txt.join (Str.ofString "") (row.map fun i => lineStr i ++ Str.ofString "\r\n") ++ Str.ofString "\r\n") = false := by
  rw [got_join h]; simp
section
variable {prog : Program} {w : World} {A : Around} {E : Value → Shared → Prop} {s : Shared} {h₀ : Heap} {L : Addr} {m : Str → Option Value} {env : Env}
theorem turn_end2 {I : Addr} {o : Obj} {news' final : Ledger} {r : (Str → Option Value) → Ledger → Prop} {m' : Str → Option Value} {h' : Heap} {tk : Nat} {s₁ : Shared}
    (F : Fr h₀ env.locals h' m') (N : News h₀ env.locals h' final) (hs : ∀ p ∈ (I, o) :: news', p ∈ final) (off : ∀ p ∈ news', p.1 < I) (hr : r m' news') : UnrEndW h₀ env.locals s₁ [(I, o)] r { s₁ with heap := h', toks := tk } :=
  turn_end F (news_in N hs) off hr
theorem add_want {t u : Tok} {row : List Item} {Q : Value → Shared → Prop} (hrow : ∀ r ∈ row, r.Ok) (hz : row.length ≤ 64) (h : ∀ t' k, Q (.str (wantOf row) t') { s with toks := k }) :
    wpAny (model prog w) A (binaryOp .Add (.str (Str.ofString "...") t) (.str (Txt.join (Str.ofString "") (row.map fun i => lineStr i ++ Str.ofString "...")) u)) Q E s :=
  PyProof.Rows.add_str (fun t' k => h t' k) (by
    have e : (Str.ofString "...").length = 3 := by decide +kernel
    have h2 := glued_len (c := Str.ofString "...") hrow hz (by rw [e]; omega)
    rw [sizeLine_eq, e]
    omega)
theorem ne_bools {a b : Addr} {na nb : Nat} {b0 b1 b2 : Bool} {news : Ledger} {Q : Value → Shared → Prop} (N : News h₀ L s.heap news) (ma : (a, W.listOf [Value.bool b0, Value.bool b1, Value.bool b2].toArray na) ∈ news) (mb : (b, W.listOf [Value.bool b0, Value.bool b1, Value.bool b2].toArray nb) ∈ news)
    (hu : A.units + 64 < cLine) (h : Q (.bool false) s) : wpAny (model prog w) A (compareOp .NotEq (.ref a) (.ref b)) Q E s := by
  refine ne_dataH (reads_list_at (N _ ma).1 rfl rfl (.cons (.bool b0) (.cons (.bool b1) (.cons (.bool b2) .nil)))) (reads_list_at (N _ mb).1 rfl rfl (.cons (.bool b0) (.cons (.bool b1) (.cons (.bool b2) .nil)))) ?_ ?_ hu ?_
  · cases b0 <;> cases b1 <;> cases b2 <;> decide +kernel
  · cases b0 <;> cases b1 <;> cases b2 <;> decide +kernel
  · have e : PyData.eqv (.list [.bool b0, .bool b1, .bool b2]) (.list [.bool b0, .bool b1, .bool b2]) = true := by cases b0 <;> cases b1 <;> cases b2 <;> decide +kernel
    rw [e]; exact h
end
section
variable {h₀ : Heap} {env : Env}
theorem turn_law {I : Addr} {o : Obj} {final l' : Ledger} {m' : Str → Option Value} {h' : Heap} {tk : Nat} {s₁ : Shared} {Dz cr cw : Addr} {oX oW x y : Obj} {v vW : Option Value} {zs : List Value}
    (F : Fr h₀ env.locals h' m') (N : News h₀ env.locals h' final) (hs : ∀ p ∈ (I, o) :: (Dz, LCg.lst zs) :: (cr, oX) :: (cw, oW) :: l', p ∈ final) (hI : ∀ p ∈ (Dz, LCg.lst zs) :: (cr, x) :: (cw, y) :: l', p.1 < I) (dR : oX.data = .cell v) (dW : oW.data = .cell vW) (hm : m' (Str.ofString "sheets") = some (.ref Dz)) :
    UnrEndW h₀ env.locals s₁ [(I, o)] (fun m' n' => SubL [(Dz, W.listOf zs.toArray zs.length)] n' ∧ ∃ oR v oW v', oR.data = .cell v ∧ oW.data = .cell v' ∧ n' = (Dz, LCg.lst zs) :: (cr, oR) :: (cw, oW) :: l' ∧ m' (Str.ofString "sheets") = some (.ref Dz)) { s₁ with heap := h', toks := tk } :=
  turn_end2 F N hs (off_lt hI) ⟨⟨.head _, trivial⟩, _, _, _, _, dR, dW, rfl, hm⟩
end
end
section
open PySem PySem.W PyProof.Rows PySem.Calls PySem.Flt PyProof.Rows.LCg PyProof.Rows.LCt
theorem words_H12_1 : True := by
  k_with_none
  k_with "my use" => ((case k1 => k_asm); (case k2 => k_asm); (case k3 => k_asm); (case k4 => k_asm); (case k5 => k_asm); (case kK => first | exact rfl | assumption); (case kd => ktr_room); (case ku => ktr_units))
  k_with "getMethod ref" => (k_here; (with_reducible show wpAny _ _ (getMethod (Value.ref _) (Str.ofString "search") _) _ _ _); k_dflt (refine' pattern_method ?k1 ?k2 ?k3 ?k4 ?_; (case k1 => k_in); (case k2 => k_is); (case k3 => rfl); (case k4 => rfl)))
  k_with "call builtin:re.Pattern.search" => (k_here; k_dflt (refine' search_none ?k1 ?k2 ?k3 ?k4 ?_; (case k1 => k_in); (case k2 => k_is); (case k3 => rfl); (case k4 => first | with_reducible exact names_clean _ _ (by assumption) (by assumption) (by assumption) | with_reducible exact texts_clean _ _ (by assumption) | with_reducible exact names_clean _ _ (by assumption) (by assumption) (by decide))))
  k_with "call builtin:str.lower" => ((with_reducible show wpAny _ _ (call (Value.builtin "str.lower") [Value.str (nameOf _ _ _) _]) _ _ _); (refine lower_rule (by assumption) (by assumption) (by assumption) ?_))
  k_with "subscriptTail Name Constant ref int" => (k_here; k_dflt (refine' item_tupleT (News.isTup ?wH12N ?wH12m) ?wH12a ?wH12b ?wH12c ?wH12d ?_; (case wH12N => k_asm); (case wH12m => k_mem); (case wH12a => decide); (case wH12b => decide); (case wH12c => rfl); (case wH12d => rfl)))
  k_with "k_mem" => (first | with_reducible assumption | with_reducible exact List.Mem.head _ | assumption)
  k_with "setItem ref" => (k_here; (with_reducible show wpAny _ _ (setItem (Value.ref _) (Value.ref _) _) _ _ _); k_dflt (refine' setAll_K ?k1 ?k2 ?k3 ?k4 ?k5 ?k6 ?k7 ?_; (case k1 => k_asm); (case k2 => k_asm); (case k3 => k_mem); (case k4 => k_upd); (case k5 => k_ne); (case k6 => walk_at "my size"); (case k7 => walk_at "my size")); intro h' F' N'; (try k_sweep))
  k_with "k_all" => (refine tail_succ ?_; tbn_find)
  k_with "k_room" => ktr_room
  k_with "k_units" => ktr_units
  k_with "my enterC" => (refine' code_defC ?k1 ?k2 ?k3 ?k4 ?k5 ?kA ?kF ?kK ?k6 ?k7 ?k8 ?k9 ?kB ?kD ?_ ?wH12c2 ?wH12c3 ?wH12c4; (case kA => exact rfl); (case kF => exact rfl); (case kK => assumption); (case k1 => k_asm); (case k2 => k_asm); (case k3 => k_asm); (case k4 => k_asm); (case k5 => k_asm); (case k6 => k_is); (case k7 => k_is); (case k8 => ktr_room); (case k9 => exact BindsTo.of_eq rfl); (case kB => exact rfl); (case kD => decide +kernel); (case wH12c2 => exact rfl); (case wH12c3 => exact rfl); (case wH12c4 => exact rfl); k_whole; intro g' L' h' tk' cells' FG' F' N' Y' B' X' T' l1; (try k_lt l1); k_cells Y'; (try simp only [List.cons_append, List.nil_append] at N'); (try dsimp only); (try k_lift B'); (try k_fold))
  k_with "eval ListComp" => (k_here; lct_look; k_dflt (refine LCt.ListComp_T (F₀ := by k_asm) (by with_unfolding_all rfl) (by decide) (by rfl) (by decide) (by rfl) ?_); k_dflt lct_toSrc)
  k_with "CompSrcT" => (k_here; k_dflt (refine' LCt.CompSrcT.ledger (by rfl) ?k1 ?k2 ?k3 ?k4 ?_; (case k1 => k_asm); (case k2 => k_asm); (case k3 => k_mem); (case k4 => first | assumption | size_fits)); intro g')
  k_with "my size" => ((try rw [sizeLine_eq]); first | (rw [List.size_toArray]; omega) | (rw [List.size_toArray]; exact Nat.le_trans keepV_len (by omega)))
  k_with "my sub" => (intro p9 hp9; first | exact hp9 | exact .tail _ hp9 | exact .tail _ (.tail _ hp9) | exact .tail _ (.tail _ (.tail _ hp9)) | exact .tail _ (.tail _ (.tail _ (.tail _ hp9))) | exact .tail _ (.tail _ (.tail _ (.tail _ (.tail _ hp9)))))
  k_with "exec For Tuple Attribute" => (k_here; (rename Fr _ _ _ _ => lF'); (with_unfolding_all refine' For_turns lF' ?_; k_whole))
  k_with "my enter" => (refine' code_def ?k1 ?k2 ?k3 ?k4 ?k5 ?kA ?kF ?kK ?k6 ?k7 ?k8 ?k9 ?kB ?_ ?wH12c2 ?wH12c3 ?wH12c4 ?wH12c5; (case kA => exact rfl); (case kF => exact rfl); (case kK => assumption); (case k1 => k_asm); (case k2 => k_asm); (case k3 => k_asm); (case k4 => k_asm); (case k5 => k_asm); (case k6 => k_is); (case k7 => k_is); (case k8 => ktr_room); (case k9 => first | exact BindsTo.of_eq rfl | exact binds_K (by k_in) rfl (by k_is) rfl rfl rfl); (case wH12c5 => decide); (case kB => exact locs rfl); (case wH12c2 => exact rfl); (case wH12c3 => exact rfl); (case wH12c4 => exact rfl); k_whole; intro g' L' h' FG' F' N' B' X' T'; (try dsimp only); (try k_lift B'); (try k_fold))
  k_with "delItem ref str" => (k_here; (with_reducible show wpAny _ _ (delItem (Value.ref _) _) _ _ _); k_dflt (refine' delItem_own ?wH12F ?wH12X ?wH12I ?wH12hQ ?wH12hS ?wH12hF ?_; (case wH12F => k_asm); (case wH12X => k_asm); (case wH12I => k_inst); (case wH12hS => k_is); (case wH12hF => k_is); (case wH12hQ => k_is); k_whole))
  k_with "call builtin:list.append" => (k_here; (with_reducible show wpAny _ _ (call (Value.builtin _) [Value.ref _, _]) _ _ _); k_dflt (refine' append_K ?k1 ?k2 ?k3 ?_ ?wH12z; (case k1 => k_asm); (case k2 => k_asm); (case k3 => k_upd); (case wH12z => walk_at "my size"); k_whole); intro h' F' N'; (try k_sweep))
  k_with "eval ListComp" => (k_here; (first | lcg_look | lcf_look); k_dflt (refine LCg.ListComp_U (F₀ := by k_asm) (by with_unfolding_all rfl) (by decide) (by rfl) (by decide) (by rfl) ?_); k_dflt lcg_toSrc)
  k_with "eval ListComp" => (k_here; lct_look; k_dflt (refine LCt.ListComp_T (F₀ := by k_asm) (by with_unfolding_all rfl) (by decide) (by rfl) (by decide) (by rfl) ?_); k_dflt lct_toSrc)
  k_with "CompSrc" => (k_here; k_dflt (refine' LCg.CompSrc.ledger (by rfl) ?k1 ?k2 ?k3 ?k4 ?_; (case k1 => k_asm); (case k2 => k_asm); (case k3 => k_mem); (case k4 => first | assumption | size_fits | walk_at "my size")); intro g')
  k_with "eval ListComp" => (k_here; lcp_look; k_dflt (refine LCp.ListComp_P (F₀ := by k_asm) (by with_unfolding_all rfl) (by decide) (by rfl) (by decide) (by rfl) (by rfl) (by decide) ?_); k_dflt lcp_toSrc)
  k_with "SrcLP" => (k_here; k_dflt (refine' LCp.SrcLP.ledger (by rfl) ?k1 ?k2 ?k3 ?k4 ?_; (case k1 => k_asm); (case k2 => k_asm); (case k3 => k_mem); (case k4 => first | assumption | size_fits)); intro g')
  k_with "CompRestP" => fail "stop"
  k_with "CompRest" => fail "stop"
  k_with "CompRestT" => fail "stop"
  k_with "exec Assign cons ListComp" => (k_here; first
  | ((with_reducible show wpAny _ _ (exec (Stmt.Assign [Expr.Name (Str.ofString "numbers") _] _ _) _) _ _ _); with_reducible refine wpAny_Assign_Name ?_ ?wH12hsw; (case wH12hsw => with_unfolding_all rfl))
  | ((with_reducible show wpAny _ _ (exec (Stmt.Assign [Expr.Name (Str.ofString "sheets") _] _ _) _) _ _ _); k_dflt (refine assign_comp_C (F₀ := by k_asm) (by rfl) (by with_unfolding_all rfl) (by with_unfolding_all rfl) (fun _ => rfl) (fun _ => rfl) (by rfl) (by decide) (by rfl) (by rfl) (by rfl) ?_))
  | (k_dflt (refine LCg.Assign_ListComp_U (F₀ := by k_asm) (by rfl) (by with_unfolding_all rfl) (by with_unfolding_all rfl) (by decide) (by rfl) (by decide) (by rfl) (by rfl) (by rfl) ?_); k_dflt lcg_toSrc))
  k_with "call ref" => ((with_reducible show wpAny _ _ (call (Value.ref 263) _) _ _ _); k_dflt (refine' Ctr.use (hsheet _ _ _ _ _ _ ?wH12s1 ?wH12s2 ?wH12s3 ?wH12s4) ?k1 ?k2 ?k3 ?k4 ?k5 ?kK ?kd ?ku ?_; walk_at "my use"; (case wH12s1 => assumption); (case wH12s2 => assumption); (case wH12s3 => assumption); (case wH12s4 => k_mem)); intro r9 news9 h9 tk9 F' N' hp9)
  k_with "call type:str" => (k_here; (with_reducible show wpAny _ _ (call (Value.type "str") [Value.ref _]) _ _ _); k_dflt (refine' kso_call ?k1 ?k2 ?k3 ?k4 ?k5 ?_; (case k1 => k_units); (case k2 => k_in); (case k3 => k_inst); (case k4 => k_is); (case k5 => k_is); k_whole))
  k_with "exec For Tuple Name" => (k_here; (rename Fr _ _ _ _ => lF'); (with_unfolding_all refine' For_turns lF' ?_; k_whole))
  k_with "my tails" => (intro p9 hp9; (repeat with_reducible apply List.mem_cons_of_mem); exact hp9)
  k_with "call ref" => ((with_reducible show wpAny _ _ (call (Value.ref 223) _) _ _ _); k_dflt (refine' Ctr.use (spelledN _ _ _ _ _ _ _ _ _ _ _ _ ?kO ?km) ?k1 ?k2 ?k3 ?k4 ?k5 ?kK ?kd ?ku ?_; walk_at "my use"; (case km => k_mem); (case kO => assumption)); intro r9 news9 h9 tk9 F' N' hp9; (have hq9 := PostL.opened2 hp9); clear hp9; (obtain ⟨D', t5', t6', hr9, hn9, l1⟩ := hq9); subst hr9; subst hn9; (try k_lt l1); (try k_sweep); (try dsimp only))
  k_with "call ref" => ((with_reducible show wpAny _ _ (call (Value.ref 176) _) _ _ _); k_dflt (refine' Ctr.use (hitemsM _ _ _ _ _ _ _ _ _ _ _ ?wH12s1 ?wH12s2 ?wH12s3) ?k1 ?k2 ?k3 ?k4 ?k5 ?kK ?kd ?ku ?_; walk_at "my use"; (case wH12s2 => assumption); (case wH12s1 => assumption); (case wH12s3 => walk_at "my tails")); intro r9 news9 h9 tk9 F' N' hp9; (have hq9 := NewList.opened hp9); clear hp9; (obtain ⟨D', hr9, hn9, l1⟩ := hq9); subst hr9; subst hn9; (try k_lt l1); (try k_sweep); (try dsimp only))
  k_with "call ref" => ((with_reducible show wpAny _ _ (call (Value.ref 188) _) _ _ _); k_dflt (refine' Ctr.use (hstrM _ _ _ _ _ _ _ _ _ _ _ _ ?wH12s0 ?wH12s1 ?wH12s4 ?wH12s2 ?wH12s3) ?k1 ?k2 ?k3 ?k4 ?k5 ?kK ?kd ?ku ?_; walk_at "my use"; (case wH12s2 => assumption); (case wH12s4 => assumption); (case wH12s0 => assumption); (case wH12s1 => assumption); (case wH12s3 => walk_at "my tails")); intro r9 news9 h9 tk9 F' N' hp9; (obtain ⟨hn9, t9, hr9⟩ := hp9); subst hr9; subst hn9; (try k_sweep); (try dsimp only [StrBack]))
  k_with "compareOp NotEq ref ref" => (k_here; k_dflt (refine' ne_lines ?wH12N ?wH12a ?wH12b ?wH12c ?wH12d ?wH12e ?wH12f ?wH12g ?wH12u ?_; (case wH12N => k_asm); (case wH12a => k_mem); (case wH12d => k_mem); (case wH12b => first | with_reducible assumption | assumption); (case wH12c => walk_at "my tails"); (case wH12e => first | with_reducible assumption | assumption); (case wH12f => walk_at "my tails"); (case wH12g => assumption); (case wH12u => first | ke_room | k_units)))
  trivial
theorem name_head {h₀ h : Heap} {L D : Addr} {o : Obj} {l : Ledger} (N : News h₀ L h ((D, o) :: l)) : ∃ Dz, Dz = D ∧ News h₀ L h ((Dz, o) :: l) := ⟨D, rfl, N⟩
theorem off_row {cr cw : Addr} {oW : Obj} {l : Ledger} (h : ∀ p ∈ l, @Ne Nat p.1 cr) (hne : @Ne Nat cw cr) : ∀ p ∈ (cw, oW) :: l, p.1 ≠ cr := fun p hp => by
  rcases List.mem_cons.mp hp with rfl | hp
  · exact hne
  · exact h p hp
theorem words_H12_2 : True := by
  k_with "k_updF" => exact UpdF.tail hq1 (UpdF.tail hq2 (UpdF.head hq3))
  trivial
theorem lines_end {s : Shared} {h₀ h' : Heap} {L : Addr} {m : Str → Option Value} {tk : Nat} {b5 l : Ledger} {lr : Addr} {its : Array Value} {row : List Item} {r : Item} {i : Nat} {ys : List Value} {I C D D' : Addr} {oI oC : Obj} {t5 t6 : Tok}
    (F : Fr h₀ L h' m) (N : News h₀ L h' ((D', tupOf [.str (nameOf r.p r.d r.g) t5, .str (textOf r.q) t6]) :: (I, oI) :: (C, oC) :: (D, LCg.lst ys) :: l)) (off : LCg.Off3 I C D l) (l1 : @LT.lt Nat _ I D') (l2 : @LT.lt Nat _ C D') (l3 : @LT.lt Nat _ D D')
    (hb : ∀ p ∈ b5, p ∈ l) (hs : LCg.SrcAt h₀ lr its l) (hd : DatAll l ys ((row.take i).map lineDat)) (hr : row[i]? = some r) :
    LCg.CompEnd h₀ L m s I oI C oC D (LCg.lst ys) (LCg.SrcAt h₀ lr its) (fun y news' => (∀ p ∈ b5, p ∈ news') ∧ LCg.SrcAt h₀ lr its news' ∧ DatAll news' (ys ++ [y]) ((row.take (i + 1)).map lineDat)) (.ref D') { s with heap := h', toks := tk } := by
  have hs' : LCg.SrcAt h₀ lr its ((D', tupOf [.str (nameOf r.p r.d r.g) t5, .str (textOf r.q) t6]) :: l) := hs.imp id fun ⟨o, hm, x⟩ => ⟨o, .tail _ hm, x⟩
  refine LCg.CompEnd.intro F N _ perm ⟨⟨(Nat.ne_of_lt l1).symm, (Nat.ne_of_lt l2).symm, (Nat.ne_of_lt l3).symm⟩, off⟩ hs' ⟨fun p hp => .tail _ (hb p hp), hs', ?_⟩
  rw [List.take_add_one, hr, List.map_append]
  exact DatAll.append (hd.mono fun p hp => .tail _ hp) (DatAll.one (.tuple (.head _) (.cons (.str _ _) (.cons (.str _ _) .nil))))
theorem words_H12_3 : True := by
  k_with "call builtin:str.join" => (k_here; k_dflt (refine' join_glued ?k1 ?k2 ?k3 ?k4 ?k5 ?k6 ?_; (case k1 => k_asm); (case k2 => k_mem); (case k3 => assumption); (case k4 => assumption); (case k5 => assumption); (case k6 => decide +kernel)); intro t' k')
  k_with "binaryOp Add str str" => (k_here; (with_reducible show wpAny _ _ (binaryOp Operator.Add (Value.str (Str.ofString "...") _) (Value.str (Txt.join _ _) _)) _ _ _); k_dflt (refine' add_want ?wH12a ?wH12b ?_; (case wH12a => assumption); (case wH12b => assumption)); intro t' k')
  k_with "k_updF" => exact UpdF.tail hw1 (UpdF.tail hw2 (UpdF.tail hw3 (UpdF.head hw4)))
  k_with "call ref" => ((with_reducible show wpAny _ _ (call (Value.ref 66) _) _ _ _); k_dflt (refine' Ctr.use (hell _ _ _ _ _ _ ?wH12s1 ?wH12s2 ?wH12s3 ?wH12s4) ?k1 ?k2 ?k3 ?k4 ?k5 ?kK ?kd ?ku ?_; walk_at "my use"; (case wH12s1 => assumption); (case wH12s2 => assumption); (case wH12s3 => assumption); (case wH12s4 => assumption)); intro r9 news9 h9 tk9 F' N' hp9; (obtain ⟨hn9, hr9⟩ := hp9); subst hr9; subst hn9; (try k_sweep); (try dsimp only))
  k_with "call ref" => ((with_reducible show wpAny _ _ (call (Value.ref 270) _) _ _ _); k_dflt (refine' Ctr.use (hwithinM _ _ _ _ _ _ _ _ _ _ _ ?wH12s1 ?wH12s2 ?wH12s3 ?wH12s4 ?wH12s5 ?wH12s6 ?wH12s7) ?k1 ?k2 ?k3 ?k4 ?k5 ?kK ?kd ?ku ?_; walk_at "my use"; (case wH12s5 => assumption); (case wH12s6 => assumption); (case wH12s3 => assumption); (case wH12s4 => assumption); (case wH12s1 => assumption); (case wH12s2 => assumption); (case wH12s7 => walk_at "my tails")); intro r9 news9 h9 tk9 F' N' hp9; (obtain ⟨hn9, hr9⟩ := hp9); subst hr9; subst hn9; (try k_sweep); (try dsimp only))
  trivial
noncomputable def ansF (ms : List Int) (row : List Item) (j : Nat) : Value := .bool (decide (withinN row (rowOf (part ms j)) = 0))
theorem nums_of {vs : List Value} {sc : List Int} (h : IntsAre vs ([1152, 1, 401, 392, 772, 793] ++ List.take 6 sc)) : ∃ nums : List Int, nums.length ≤ 12 ∧ IntsAre vs nums :=
  ⟨_, by rw [List.length_append, List.length_take]; simp only [List.length_cons, List.length_nil]; omega, h⟩
theorem ms_of {vs : List Value} {nums : List Int} (hn : nums.length ≤ 12) (h : IntsAre vs (nums.map fun k : Int => k.fmod 3456)) : ∃ ms : List Int, (∀ m ∈ ms, 0 ≤ m ∧ m < 3456) ∧ ms.length ≤ 12 ∧ IntsAre vs ms :=
  ⟨_, mods_mem nums, by rw [List.length_map]; exact hn, h⟩
theorem name_base {h₀ h : Heap} {L : Addr} {l : Ledger} (N : News h₀ L h l) : ∃ base, base = l ∧ News h₀ L h base := ⟨l, rfl, N⟩
theorem law_holds : PySem.Challenge.rw_pg0286_01.Holds := by
  w_on
  o_law
  refine holds_open (q := Mine.hd.view_39) (loose := [Str.ofString "tspecials", Str.ofString "_name_disallowed_re", Str.ofString "_value_disallowed_re", Str.ofString "_formatparam"]) (Xt := fun s => xlAt Mine.hd.view_39 [] s && recOk (RowW.records (OpenRow.toRowW (OpenLaw.row PySem.Challenge.rw_pg0286_01))) s) (XP := XL Mine.hd.view_39 []) (Yf := Hook.obs (kHook Mine.hd.heap_39 [2, 3, 32, 34, 35, 37, 38, 39, 41, 42, 44, 45, 46, 48, 49, 51, 52, 53, 55, 56, 58, 59, 60, 62, 63, 65, 66, 70, 71, 75, 76, 80, 81, 82, 83, 85, 86, 88, 89, 97, 98, 100, 101, 103, 104, 105, 107, 108, 110, 111, 112, 114, 115, 117, 118, 119, 121, 122, 124, 125, 126, 129, 130, 131, 133, 134, 136, 137, 138, 140, 141, 143, 144, 145, 147, 148, 150, 151, 152, 153, 155, 156, 158, 159, 160, 163, 164, 165, 168, 169, 170, 172, 173, 175, 176, 177, 179, 180, 182, 183, 184, 187, 188, 189, 191, 192, 194, 195, 196, 198, 199, 201, 202, 203, 205, 206, 208, 209, 210, 211, 212, 213, 214, 217, 219, 220, 222, 223, 224, 226, 227, 229, 230, 231, 233, 234, 236, 237, 238, 240, 241, 243, 244, 245, 247, 248, 250, 251, 252, 255, 256, 257, 259, 260, 262, 263, 264, 266, 267, 269, 270, 271, 274, 275] (fun _ => by kernel_rfl))) (Ya := Hook.val (kHook Mine.hd.heap_39 [2, 3, 32, 34, 35, 37, 38, 39, 41, 42, 44, 45, 46, 48, 49, 51, 52, 53, 55, 56, 58, 59, 60, 62, 63, 65, 66, 70, 71, 75, 76, 80, 81, 82, 83, 85, 86, 88, 89, 97, 98, 100, 101, 103, 104, 105, 107, 108, 110, 111, 112, 114, 115, 117, 118, 119, 121, 122, 124, 125, 126, 129, 130, 131, 133, 134, 136, 137, 138, 140, 141, 143, 144, 145, 147, 148, 150, 151, 152, 153, 155, 156, 158, 159, 160, 163, 164, 165, 168, 169, 170, 172, 173, 175, 176, 177, 179, 180, 182, 183, 184, 187, 188, 189, 191, 192, 194, 195, 196, 198, 199, 201, 202, 203, 205, 206, 208, 209, 210, 211, 212, 213, 214, 217, 219, 220, 222, 223, 224, 226, 227, 229, 230, 231, 233, 234, 236, 237, 238, 240, 241, 243, 244, 245, 247, 248, 250, 251, 252, 255, 256, 257, 259, 260, 262, 263, 264, 266, 267, 269, 270, 271, 274, 275] (fun _ => by kernel_rfl))) (YP := Hook.says (kHook Mine.hd.heap_39 [2, 3, 32, 34, 35, 37, 38, 39, 41, 42, 44, 45, 46, 48, 49, 51, 52, 53, 55, 56, 58, 59, 60, 62, 63, 65, 66, 70, 71, 75, 76, 80, 81, 82, 83, 85, 86, 88, 89, 97, 98, 100, 101, 103, 104, 105, 107, 108, 110, 111, 112, 114, 115, 117, 118, 119, 121, 122, 124, 125, 126, 129, 130, 131, 133, 134, 136, 137, 138, 140, 141, 143, 144, 145, 147, 148, 150, 151, 152, 153, 155, 156, 158, 159, 160, 163, 164, 165, 168, 169, 170, 172, 173, 175, 176, 177, 179, 180, 182, 183, 184, 187, 188, 189, 191, 192, 194, 195, 196, 198, 199, 201, 202, 203, 205, 206, 208, 209, 210, 211, 212, 213, 214, 217, 219, 220, 222, 223, 224, 226, 227, 229, 230, 231, 233, 234, 236, 237, 238, 240, 241, 243, 244, 245, 247, 248, 250, 251, 252, 255, 256, 257, 259, 260, 262, 263, 264, 266, 267, 269, 270, 271, 274, 275] (fun _ => by kernel_rfl))) (N := 3134) ?hl (Hook.of (kHook Mine.hd.heap_39 [2, 3, 32, 34, 35, 37, 38, 39, 41, 42, 44, 45, 46, 48, 49, 51, 52, 53, 55, 56, 58, 59, 60, 62, 63, 65, 66, 70, 71, 75, 76, 80, 81, 82, 83, 85, 86, 88, 89, 97, 98, 100, 101, 103, 104, 105, 107, 108, 110, 111, 112, 114, 115, 117, 118, 119, 121, 122, 124, 125, 126, 129, 130, 131, 133, 134, 136, 137, 138, 140, 141, 143, 144, 145, 147, 148, 150, 151, 152, 153, 155, 156, 158, 159, 160, 163, 164, 165, 168, 169, 170, 172, 173, 175, 176, 177, 179, 180, 182, 183, 184, 187, 188, 189, 191, 192, 194, 195, 196, 198, 199, 201, 202, 203, 205, 206, 208, 209, 210, 211, 212, 213, 214, 217, 219, 220, 222, 223, 224, 226, 227, 229, 230, 231, 233, 234, 236, 237, 238, 240, 241, 243, 244, 245, 247, 248, 250, 251, 252, 255, 256, 257, 259, 260, 262, 263, 264, 266, 267, 269, 270, 271, 274, 275] (fun _ => by kernel_rfl))) (Hook.keeps (kHook Mine.hd.heap_39 [2, 3, 32, 34, 35, 37, 38, 39, 41, 42, 44, 45, 46, 48, 49, 51, 52, 53, 55, 56, 58, 59, 60, 62, 63, 65, 66, 70, 71, 75, 76, 80, 81, 82, 83, 85, 86, 88, 89, 97, 98, 100, 101, 103, 104, 105, 107, 108, 110, 111, 112, 114, 115, 117, 118, 119, 121, 122, 124, 125, 126, 129, 130, 131, 133, 134, 136, 137, 138, 140, 141, 143, 144, 145, 147, 148, 150, 151, 152, 153, 155, 156, 158, 159, 160, 163, 164, 165, 168, 169, 170, 172, 173, 175, 176, 177, 179, 180, 182, 183, 184, 187, 188, 189, 191, 192, 194, 195, 196, 198, 199, 201, 202, 203, 205, 206, 208, 209, 210, 211, 212, 213, 214, 217, 219, 220, 222, 223, 224, 226, 227, 229, 230, 231, 233, 234, 236, 237, 238, 240, 241, 243, 244, 245, 247, 248, 250, 251, 252, 255, 256, 257, 259, 260, 262, 263, 264, 266, 267, 269, 270, 271, 274, 275] (fun _ => by kernel_rfl))) (fun s e => xl_of s (Bool.and_eq_true_iff.mp e).1) XL.keeps (by rfl) (by rfl) (by rfl) (fun s e => recFacts_of (Bool.and_eq_true_iff.mp e).2) (by rfl) (by first | assumption | decide +kernel) (by decide +kernel) ⟨rfl, rfl, rfl, rfl, rfl, by decide +kernel⟩ ?hw ?hc
  case hw => w_witness2
  case hl => exact hl_head
  case hc => (
  rename _ = true => saidIt; clear saidIt
  k_go0
  all_goals try k_fold
  rename Shared => s1
  k_steps
  rename IntsAre _ ([1152, 1, 401, 392, 772, 793] ++ List.take 6 _) => hI0
  obtain ⟨nums, hnl, hI1⟩ := nums_of hI0
  clear hI0
  refine compU_fix (fun i ys l => l = _ ∧ IntsAre ys ((nums.take i).map fun k : Int => k.fmod 3456)) ?step ⟨rfl, .nil⟩ ?fin
  · rintro i ys l v I oI C oC D m₂ h tk E' hi ⟨rfl, hy⟩ hP hC hx F' N' off ne
    obtain ⟨k, t, rfl, hk⟩ := ints_at hI1 (by simpa using hP)
    k_steps
    refine LCg.CompEnd.intro (by assumption) (by assumption) _ (fun _ h => h) off (Or.inr ⟨_, by k_mem, rfl, _, rfl⟩) ⟨rfl, ?_⟩
    rw [List.take_add_one, hk, List.map_append]
    exact hy.append (.cons _ _ .nil)
  · rintro ys l ⟨rfl, hy⟩
    rw [List.size_toArray, hI1.length, List.take_length] at hy
    k_steps
    obtain ⟨ms, hms, hml, hyI⟩ := ms_of hnl hy
    clear hy hI1
    have hysz : ys.toArray.size ≤ sizeLine := by rw [List.size_toArray, hyI.length, sizeLine_eq]; omega
    rename News _ _ _ _ => NL
    obtain ⟨base, hbase, NB⟩ := name_base NL
    refine SrcC.range (n := 3) rfl (by k_asm) NB (by assumption) (by decide) (by decide) (by rw [sizeLine_eq]; decide) (fun g => ⟨fun i ys l => (∀ p ∈ base, p ∈ l) ∧ ys.length = i ∧ SheetsAt base ms ys l, ⟨fun p hp => hp, rfl, fun j v h => by simp at h⟩, ?_, ?_⟩)
    · rintro i zs l v I oI C oC c oc D h tk E' hi ⟨hb, hlen, hsh⟩ ⟨tv, rfl⟩ hoc hnI hnC F1 N1 off d4
      have hb' := hb
      rw [hbase] at hb'
      have hm1 := hb' _ (List.Mem.head _)
      have hm2 := hb' _ (.tail _ (.tail _ (.tail _ (.tail _ (.tail _ (.tail _ (.head _)))))))
      k_steps
      refine compT_fix (fun j xs => IntsAre xs ((ms.take j).filter fun m => decide ((m.fdiv 384).fmod 3 = (i : Int)))) ?_ .nil ?_
      · rintro j xs v I₂ oI₂ C₂ oC₂ D₂ m₂ h₂ tk₂ E₂ hj hxs hP₂ hC₂ hxv F₂ N₂ off₂ ne₂
        obtain ⟨k, t, rfl, hk⟩ := ints_at hyI (by simpa using hP₂)
        k_steps
        all_goals refine LCg.CompEnd.intro (by assumption) (by assumption) _ (fun _ h => h) off₂ (Or.inr ⟨_, by k_mem, rfl, _, rfl⟩) ⟨rfl, ?_⟩
        · exact ints_yes hk hxs (decide_eq_true (by omega))
        · exact ints_no hk hxs (decide_eq_false (by omega))
      · rintro xs hxs
        rw [List.size_toArray, hyI.length, List.take_length] at hxs
        have hpm := part_mem (j := i) hms
        have hxl : xs.length ≤ 64 := by rw [hxs.length]; exact Nat.le_trans part_len (by omega)
        change IntsAre xs (part ms i) at hxs
        k_steps
        exact sheets_end (by assumption) (by assumption) (by assumption) (fun p hp => .tail _ hp) off hnI hnC hoc hb hlen hsh
    · rintro zs l ⟨hb, hlen, hsh⟩
      k_steps
      rename News _ _ _ _ => NL2
      obtain ⟨Dz, eDz, NL3⟩ := name_head NL2
      subst eDz
      obtain ⟨l', N3, hoff3, hq2, hw2, hsh3⟩ := split_cells NL3 hb (by rw [hbase]; exact .tail _ (.tail _ (.tail _ (.tail _ (.tail _ (.head _)))))) (by rw [hbase]; exact .tail _ (.tail _ (.tail _ (.tail _ (.head _))))) (by assumption) (by assumption) hsh (by assumption)
      refine list_loop (fun i m' n' => ∃ oR v oW v', oR.data = .cell v ∧ oW.data = .cell v' ∧ n' = (Dz, LCg.lst zs) :: (s1.heap.objs.size + 1 + 1, oR) :: (s1.heap.objs.size + 1 + 1 + 1, oW) :: l' ∧ m' (Str.ofString "sheets") = some (.ref Dz)) rfl (by k_asm) N3 (.head _) ⟨_, _, _, _, by assumption, by assumption, rfl, rfl⟩ ?_ ?_
      · intro I i v m₁ news₁ h tk o hI hv hJ F₂ ho N₂
        obtain ⟨oR, vR, oW, vW, dR, dW, rfl, hms'⟩ := hJ
        obtain ⟨D, rfl, t, vs1, n1, vs2, n2, lr, rvs, nr, k, hd, h1, h2, h3, e1, e2, e3⟩ := hsh3 i v hv
        have hrow : ∀ r ∈ rowOf (part ms i), r.Ok := rowOf_ok _
        have hrl : (rowOf (part ms i)).length ≤ 64 := Nat.le_trans (rowOf_len _) (Nat.le_trans part_len (by omega))
        generalize rowOf (part ms i) = row at e1 e2 e3 hrow hrl
        have z1 : vs1.length ≤ 64 := by have := e1.length; rw [List.length_map] at this; omega
        have z2 : vs2.length ≤ 64 := by have := e2.length; rw [List.length_map] at this; omega
        have z3 : rvs.length ≤ 64 := by have := e3.length; rw [List.length_map] at this; omega
        have z4 : rvs.toArray.size ≤ sizeLine := by rw [List.size_toArray, sizeLine_eq]; omega
        have h1' := fun p hp => (h1 p hp).1
        have h2' := fun p hp => (h2 p hp).1
        have h3' := h3.1
        clear h1 h2 h3
        have hq1 := (Nat.ne_of_lt (hI _ (.tail _ (.head _)))).symm
        have hq3 := off_row (cw := s1.heap.objs.size + 1 + 1 + 1) (oW := oW) (fun p hp => (hoff3 p hp).1) (by omega)
        k_steps
        rename News _ _ _ _ => NL5
        obtain ⟨b5, hb5, NB5⟩ := name_base NL5
        refine compU_fix (fun i ys l => (∀ p ∈ b5, p ∈ l) ∧ LCg.SrcAt s1.heap lr rvs.toArray l ∧ DatAll l ys ((row.take i).map lineDat)) ?_ ⟨fun p hp => by rw [hb5] at hp; exact hp, Or.inr ⟨_, .tail _ (.tail _ (.tail _ (.tail _ h3'))), rfl, _, rfl⟩, .nil⟩ ?_
        · rintro i ys l v I₂ oI₂ C₂ oC₂ D₂ m₂ h₂ tk₂ E₂ hj ⟨hbl, hsl, hdl⟩ hP hC hx F₂ N₂ off₂ ne₂
          obtain ⟨r, ra, u1, u2, u3, u4, rn, hr, rfl, hmr⟩ := item_at e3 hP
          have hml := hbl _ (by rw [hb5]; exact .tail _ (.tail _ (.tail _ (.tail _ hmr))))
          have hok : ItemOk r.p r.d r.q r.g := hrow r (List.mem_of_getElem? hr)
          k_steps
          exact lines_end (by assumption) (by assumption) off₂ (by omega) (by omega) (by omega) hbl hsl hdl hr
        · rintro ys l ⟨hbl, hsl, hdl⟩
          rw [List.size_toArray, show rvs.length = row.length by simpa using e3.length, List.take_length] at hdl
          have hll : ∀ p ∈ l', p ∈ l := fun p hp => hbl p (by rw [hb5]; exact .tail _ (.tail _ (.tail _ (.tail _ hp))))
          have h1l : ∀ p ∈ tab t.x1 t.d1 t.l1 t.hs1 t.tk1 t.e1 vs1 n1 [], p ∈ l := fun p hp => hll p (h1' p hp)
          have h2l : ∀ p ∈ tab t.x2 t.d2 t.l2 t.hs2 t.tk2 t.e2 vs2 n2 [], p ∈ l := fun p hp => hll p (h2' p hp)
          have e1l := e1.mono hll
          have e2l := e2.mono hll
          have hx1 := h1l _ (.head _)
          have hx1d := h1l _ (.tail _ (.head _))
          have hx2 := h2l _ (.head _)
          have hx2d := h2l _ (.tail _ (.head _))
          clear e1 e2 h1' h2'
          have z5 : ys.length ≤ 64 := by have := hdl.length; rw [List.length_map] at this; omega
          have z6 : ys.toArray.size ≤ sizeLine := by rw [List.size_toArray, sizeLine_eq]; omega
          k_steps
          refine compP_lines (tl := l) hdl (by walk_at "my tails") (fun i ys' => StrsAre ys' ((row.take i).map fun i => lineStr i ++ Str.ofString "\r\n")) ?_ .nil ?_
          · rintro i ys' r t1 t2 I₃ oI₃ C₃ oC₃ D₃ m₃ h₃ tk₃ E₃ hr hy hC hx hx2 F₃ N₃ off₃ ne₃
            obtain ⟨rp, rd, rq, rg⟩ := hrow r (List.mem_of_getElem? hr)
            have hn1 := name_len rp rd rg
            have hn2 := text_len rq
            k_steps
            refine LCg.CompEnd.intro (by assumption) (by assumption) _ (fun _ h => h) off₃ (Or.inr ⟨_, by k_mem, rfl, _, rfl⟩) ⟨rfl, ?_⟩
            rw [List.take_add_one, hr, List.map_append]
            exact strs_append hy (.cons _ _ .nil)
          · intro ys' hy
            rw [show ys.length = row.length by simpa using hdl.length, List.take_length] at hy
            have hg1 := glued_len (c := Str.ofString "\r\n") hrow hrl (by decide +kernel)
            have hg2 := got_same hrow
            k_steps
            rename Obj.data _ = Data.cell (some (Value.ref lr)) => dR'
            refine turn_law (by assumption) (by assumption) ?_ hI dR' dW ?_
            · intro p hp
              repeat with_reducible apply List.mem_cons_of_mem
              exact hbl p (by rw [hb5]; exact hp)
            · exact hms'
      · intro m' news' hJ h tk F₂ N₂
        obtain ⟨oR, vR, oW, vW, dR, dW, rfl, hms'⟩ := hJ
        rw [oneMap_eq hms'] at F₂
        k_steps
        k_with "compareOp NotEq ref ref" => (k_here; k_dflt (refine' ne_bools ?wbN ?wba ?wbb ?wbu ?_; (case wbN => k_asm); (case wba => k_mem); (case wbb => k_mem); (case wbu => first | ke_room | k_units)))
        refine list_loop (fun i m' n' => ∃ oR v oW v', oR.data = .cell v ∧ oW.data = .cell v' ∧ n' = (Dz, LCg.lst zs) :: (s1.heap.objs.size + 1 + 1, oR) :: (s1.heap.objs.size + 1 + 1 + 1, oW) :: l' ∧ m' (Str.ofString "sheets") = some (.ref Dz)) rfl (by k_asm) (by k_asm) (.head _) ⟨_, _, _, _, dR, dW, rfl, rfl⟩ ?_ ?_
        · intro I i v m₁ news₁ h tk o hI hv hJ F₂ ho N₂
          obtain ⟨oR, vR, oW, vW, dR, dW, rfl, hms'⟩ := hJ
          rw [oneMap_eq hms'] at F₂
          obtain ⟨D, rfl, t, vs1, n1, vs2, n2, lr, rvs, nr, k, hd, h1, h2, h3, e1, e2, e3⟩ := hsh3 i v hv
          have hrow : ∀ r ∈ rowOf (part ms i), r.Ok := rowOf_ok _
          have hrl : (rowOf (part ms i)).length ≤ 64 := Nat.le_trans (rowOf_len _) (Nat.le_trans part_len (by omega))
          generalize rowOf (part ms i) = row at e1 e2 e3 hrow hrl
          have z2 : vs2.length ≤ 64 := by have := e2.length; rw [List.length_map] at this; omega
          have z3 : rvs.length ≤ 64 := by have := e3.length; rw [List.length_map] at this; omega
          have z5 : vs2.toArray.size ≤ sizeLine := by rw [List.size_toArray, sizeLine_eq]; omega
          have hz3 : zs.toArray.size = 3 := by rw [List.size_toArray]; exact hlen
          have z6 : zs.toArray.size ≤ sizeLine := by rw [hz3, sizeLine_eq]; decide
          have h2' := fun p hp => (h2 p hp).1
          have h3' := h3.1
          have hx2 := h2' _ (.head _)
          have hx2d := h2' _ (.tail _ (.head _))
          clear h1 h2 h3 e1
          have hq1 := (Nat.ne_of_lt (hI _ (.tail _ (.head _)))).symm
          have hw1 := (Nat.ne_of_lt (hI _ (.tail _ (.tail _ (.head _))))).symm
          have hq3 := off_row (cw := s1.heap.objs.size + 1 + 1 + 1) (oW := oW) (fun p hp => (hoff3 p hp).1) (by omega)
          have hw3 : @Ne Nat (s1.heap.objs.size + 1 + 1) (s1.heap.objs.size + 1 + 1 + 1) := by omega
          have hw4 := fun p hp => (hoff3 p hp).2
          k_steps
          refine compP_lines (tl := l') e2 (by walk_at "my tails") (fun i ys' => StrsAre ys' ((row.take i).map fun i => lineStr i ++ Str.ofString "...")) ?_ .nil ?_
          · rintro i ys' r t1 t2 I₃ oI₃ C₃ oC₃ D₃ m₃ h₃ tk₃ E₃ hr hy hC hx hx2 F₃ N₃ off₃ ne₃
            obtain ⟨rp, rd, rq, rg⟩ := hrow r (List.mem_of_getElem? hr)
            have hn1 := name_len rp rd rg
            have hn2 := text_len rq
            k_steps
            refine LCg.CompEnd.intro (by assumption) (by assumption) _ (fun _ h => h) off₃ (Or.inr ⟨_, by k_mem, rfl, _, rfl⟩) ⟨rfl, ?_⟩
            rw [List.take_add_one, hr, List.map_append]
            exact strs_append hy (.cons _ _ .nil)
          · intro ys' hy
            rw [show vs2.length = row.length by simpa using e2.length, List.take_length] at hy
            k_steps
            refine compU_fix (fun i ys l => l = _ ∧ ys = (List.range i).map (ansF ms row)) ?_ ⟨rfl, rfl⟩ ?_
            · rintro j ys l v I₂ oI₂ C₂ oC₂ D₂ m₂ h₂ tk₂ E₂ hj ⟨rfl, rfl⟩ hP hC hx F₂ N₂ off₂ ne₂
              obtain ⟨D2, rfl, t2, us1, k1, us2, k2, lr2, rvs2, nr2, kk2, hd2, g1, g2, g3, f1, f2, f3⟩ := hsh3 j v (by simpa using hP)
              have hrow2 : ∀ r ∈ rowOf (part ms j), r.Ok := rowOf_ok _
              have hrl2 : (rowOf (part ms j)).length ≤ 64 := Nat.le_trans (rowOf_len _) (Nat.le_trans part_len (by omega))
              have hans : ansF ms row j = .bool (decide (withinN row (rowOf (part ms j)) = 0)) := rfl
              generalize rowOf (part ms j) = row2 at f1 f2 f3 hrow2 hrl2 hans
              have y1 : us1.length ≤ 64 := by have := f1.length; rw [List.length_map] at this; omega
              have g1' := fun p hp => (g1 p hp).1
              have hx1 := g1' _ (.head _)
              have hx1d := g1' _ (.tail _ (.head _))
              clear g1 g2 g3 f2 f3
              k_steps
              refine LCg.CompEnd.intro (by assumption) (by assumption) _ (fun _ h => h) off₂ (Or.inr ⟨_, by k_mem, rfl, _, rfl⟩) ⟨rfl, ?_⟩
              rw [List.range_succ, List.map_append, List.map_cons, List.map_nil, hans]
            · rintro ys l ⟨rfl, rfl⟩
              rw [hz3]
              simp only [show List.range 3 = [0, 1, 2] from rfl, List.map_cons, List.map_nil, ansF]
              k_steps
              refine compU_fix (fun i ys l => l = _ ∧ ys = (List.range i).map (ansF ms row)) ?_ ⟨rfl, rfl⟩ ?_
              · rintro j ys l v I₂ oI₂ C₂ oC₂ D₂ m₂ h₂ tk₂ E₂ hj ⟨rfl, rfl⟩ hP hC hx F₂ N₂ off₂ ne₂
                obtain ⟨D2, rfl, t2, us1, k1, us2, k2, lr2, rvs2, nr2, kk2, hd2, g1, g2, g3, f1, f2, f3⟩ := hsh3 j v (by simpa using hP)
                have hans : ansF ms row j = .bool (decide (withinN row (rowOf (part ms j)) = 0)) := rfl
                have hrl2 : (rowOf (part ms j)).length ≤ 64 := Nat.le_trans (rowOf_len _) (Nat.le_trans part_len (by omega))
                generalize rowOf (part ms j) = row2 at f1 f2 f3 hans hrl2
                have y1 : rvs2.length ≤ 64 := by have := f3.length; rw [List.length_map] at this; omega
                have g3' := g3.1
                clear g1 g2 g3 f1 f2
                k_steps
                refine LCg.CompEnd.intro (by assumption) (by assumption) _ (fun _ h => h) off₂ (Or.inr ⟨_, by k_mem, rfl, _, rfl⟩) ⟨rfl, ?_⟩
                rw [List.range_succ, List.map_append, List.map_cons, List.map_nil, hans]
              · rintro ys l ⟨rfl, rfl⟩
                rw [hz3]
                simp only [show List.range 3 = [0, 1, 2] from rfl, List.map_cons, List.map_nil, ansF]
                k_steps
                rename Obj.data _ = Data.cell (some (Value.ref lr)) => dR'
                rename Obj.data _ = Data.cell (some (Value.str _ _)) => dW'
                refine turn_law (by assumption) (by assumption) ?_ hI dR' dW' ?_
                · intro p hp
                  exact .tail _ (.tail _ (.tail _ (.tail _ hp)))
                · exact rfl
        · intro m' news' hJ h tk F₂ N₂
          obtain ⟨oR, vR, oW, vW, dR, dW, rfl, hms'⟩ := hJ
          k_steps)
end
end Mine
theorem PySem.Challenge.cw_pg0286_01_holds : PySem.Challenge.rw_pg0286_01.Holds := by
  exact Mine.law_holds
