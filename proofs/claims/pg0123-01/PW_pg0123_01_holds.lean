import PyProof.Rows.All
import Wide.All
import OpenK.AllK
import Wide.FinOn
import Open.Tops
import PySem.Challenge.RW_pg0123_01
set_option Elab.async false
set_option linter.unusedVariables false
set_option linter.unusedSimpArgs false
set_option maxRecDepth 100000

section
set_option compiler.extract_closed false
namespace Mine
open PySem PySem.W PyProof.Rows
/-! the given program again, each statement under a name: the head's texts are then many small ones instead of few big ones -/
inductive Holder {α : Type} : α → Type
  | mk (x : α) : Holder x
def Holder.idx {α : Type} {x : α} (_ : Holder x) : α := x
def c0 : Stmt := Holder.idx (Holder.mk _ : type_of% ((fun (a : Stmt) (r : List Stmt) (_ : PySem.Challenge.pw_pg0123_01.main.body.drop 0 = a :: r) => Holder.mk a) _ _ rfl))
def c1 : Stmt := Holder.idx (Holder.mk _ : type_of% ((fun (a : Stmt) (r : List Stmt) (_ : PySem.Challenge.pw_pg0123_01.main.body.drop 1 = a :: r) => Holder.mk a) _ _ rfl))
def c2 : Stmt := Holder.idx (Holder.mk _ : type_of% ((fun (a : Stmt) (r : List Stmt) (_ : PySem.Challenge.pw_pg0123_01.main.body.drop 2 = a :: r) => Holder.mk a) _ _ rfl))
def c3 : Stmt := Holder.idx (Holder.mk _ : type_of% ((fun (a : Stmt) (r : List Stmt) (_ : PySem.Challenge.pw_pg0123_01.main.body.drop 3 = a :: r) => Holder.mk a) _ _ rfl))
def c4 : Stmt := Holder.idx (Holder.mk _ : type_of% ((fun (a : Stmt) (r : List Stmt) (_ : PySem.Challenge.pw_pg0123_01.main.body.drop 4 = a :: r) => Holder.mk a) _ _ rfl))
def c5 : Stmt := Holder.idx (Holder.mk _ : type_of% ((fun (a : Stmt) (r : List Stmt) (_ : PySem.Challenge.pw_pg0123_01.main.body.drop 5 = a :: r) => Holder.mk a) _ _ rfl))
def c6 : Stmt := Holder.idx (Holder.mk _ : type_of% ((fun (a : Stmt) (r : List Stmt) (_ : PySem.Challenge.pw_pg0123_01.main.body.drop 6 = a :: r) => Holder.mk a) _ _ rfl))
def c7 : Stmt := Holder.idx (Holder.mk _ : type_of% ((fun (a : Stmt) (r : List Stmt) (_ : PySem.Challenge.pw_pg0123_01.main.body.drop 7 = a :: r) => Holder.mk a) _ _ rfl))
def c8 : Stmt := Holder.idx (Holder.mk _ : type_of% ((fun (a : Stmt) (r : List Stmt) (_ : PySem.Challenge.pw_pg0123_01.main.body.drop 8 = a :: r) => Holder.mk a) _ _ rfl))
def c9 : Stmt := Holder.idx (Holder.mk _ : type_of% ((fun (a : Stmt) (r : List Stmt) (_ : PySem.Challenge.pw_pg0123_01.main.body.drop 9 = a :: r) => Holder.mk a) _ _ rfl))
def c10 : Stmt := Holder.idx (Holder.mk _ : type_of% ((fun (a : Stmt) (r : List Stmt) (_ : PySem.Challenge.pw_pg0123_01.main.body.drop 10 = a :: r) => Holder.mk a) _ _ rfl))
def c11 : Stmt := Holder.idx (Holder.mk _ : type_of% ((fun (a : Stmt) (r : List Stmt) (_ : PySem.Challenge.pw_pg0123_01.main.body.drop 11 = a :: r) => Holder.mk a) _ _ rfl))
def c12 : Stmt := Holder.idx (Holder.mk _ : type_of% ((fun (a : Stmt) (r : List Stmt) (_ : PySem.Challenge.pw_pg0123_01.main.body.drop 12 = a :: r) => Holder.mk a) _ _ rfl))
def c13 : Stmt := Holder.idx (Holder.mk _ : type_of% ((fun (a : Stmt) (r : List Stmt) (_ : PySem.Challenge.pw_pg0123_01.main.body.drop 13 = a :: r) => Holder.mk a) _ _ rfl))
def c14 : Stmt := Holder.idx (Holder.mk _ : type_of% ((fun (a : Stmt) (r : List Stmt) (_ : PySem.Challenge.pw_pg0123_01.main.body.drop 14 = a :: r) => Holder.mk a) _ _ rfl))
def c15 : Stmt := Holder.idx (Holder.mk _ : type_of% ((fun (a : Stmt) (r : List Stmt) (_ : PySem.Challenge.pw_pg0123_01.main.body.drop 15 = a :: r) => Holder.mk a) _ _ rfl))
def c16 : Stmt := Holder.idx (Holder.mk _ : type_of% ((fun (a : Stmt) (r : List Stmt) (_ : PySem.Challenge.pw_pg0123_01.main.body.drop 16 = a :: r) => Holder.mk a) _ _ rfl))
def c17 : Stmt := Holder.idx (Holder.mk _ : type_of% ((fun (a : Stmt) (r : List Stmt) (_ : PySem.Challenge.pw_pg0123_01.main.body.drop 17 = a :: r) => Holder.mk a) _ _ rfl))
def c18 : Stmt := Holder.idx (Holder.mk _ : type_of% ((fun (a : Stmt) (r : List Stmt) (_ : PySem.Challenge.pw_pg0123_01.main.body.drop 18 = a :: r) => Holder.mk a) _ _ rfl))
def c19 : Stmt := Holder.idx (Holder.mk _ : type_of% ((fun (a : Stmt) (r : List Stmt) (_ : PySem.Challenge.pw_pg0123_01.main.body.drop 19 = a :: r) => Holder.mk a) _ _ rfl))
def c20 : Stmt := Holder.idx (Holder.mk _ : type_of% ((fun (a : Stmt) (r : List Stmt) (_ : PySem.Challenge.pw_pg0123_01.main.body.drop 20 = a :: r) => Holder.mk a) _ _ rfl))
def c21 : Stmt := Holder.idx (Holder.mk _ : type_of% ((fun (a : Stmt) (r : List Stmt) (_ : PySem.Challenge.pw_pg0123_01.main.body.drop 21 = a :: r) => Holder.mk a) _ _ rfl))
def c22 : Stmt := Holder.idx (Holder.mk _ : type_of% ((fun (a : Stmt) (r : List Stmt) (_ : PySem.Challenge.pw_pg0123_01.main.body.drop 22 = a :: r) => Holder.mk a) _ _ rfl))
def c23 : Stmt := Holder.idx (Holder.mk _ : type_of% ((fun (a : Stmt) (r : List Stmt) (_ : PySem.Challenge.pw_pg0123_01.main.body.drop 23 = a :: r) => Holder.mk a) _ _ rfl))
def c24 : Stmt := Holder.idx (Holder.mk _ : type_of% ((fun (a : Stmt) (r : List Stmt) (_ : PySem.Challenge.pw_pg0123_01.main.body.drop 24 = a :: r) => Holder.mk a) _ _ rfl))
def c25 : Stmt := Holder.idx (Holder.mk _ : type_of% ((fun (a : Stmt) (r : List Stmt) (_ : PySem.Challenge.pw_pg0123_01.main.body.drop 25 = a :: r) => Holder.mk a) _ _ rfl))
def c26 : Stmt := Holder.idx (Holder.mk _ : type_of% ((fun (a : Stmt) (r : List Stmt) (_ : PySem.Challenge.pw_pg0123_01.main.body.drop 26 = a :: r) => Holder.mk a) _ _ rfl))
def c27 : Stmt := Holder.idx (Holder.mk _ : type_of% ((fun (a : Stmt) (r : List Stmt) (_ : PySem.Challenge.pw_pg0123_01.main.body.drop 27 = a :: r) => Holder.mk a) _ _ rfl))
def c28 : Stmt := Holder.idx (Holder.mk _ : type_of% ((fun (a : Stmt) (r : List Stmt) (_ : PySem.Challenge.pw_pg0123_01.main.body.drop 28 = a :: r) => Holder.mk a) _ _ rfl))
def c29 : Stmt := Holder.idx (Holder.mk _ : type_of% ((fun (a : Stmt) (r : List Stmt) (_ : PySem.Challenge.pw_pg0123_01.main.body.drop 29 = a :: r) => Holder.mk a) _ _ rfl))
def c30 : Stmt := Holder.idx (Holder.mk _ : type_of% ((fun (a : Stmt) (r : List Stmt) (_ : PySem.Challenge.pw_pg0123_01.main.body.drop 30 = a :: r) => Holder.mk a) _ _ rfl))
def c31 : Stmt := Holder.idx (Holder.mk _ : type_of% ((fun (a : Stmt) (r : List Stmt) (_ : PySem.Challenge.pw_pg0123_01.main.body.drop 31 = a :: r) => Holder.mk a) _ _ rfl))
def c32 : Stmt := Holder.idx (Holder.mk _ : type_of% ((fun (a : Stmt) (r : List Stmt) (_ : PySem.Challenge.pw_pg0123_01.main.body.drop 32 = a :: r) => Holder.mk a) _ _ rfl))
def c33 : Stmt := Holder.idx (Holder.mk _ : type_of% ((fun (a : Stmt) (r : List Stmt) (_ : PySem.Challenge.pw_pg0123_01.main.body.drop 33 = a :: r) => Holder.mk a) _ _ rfl))
def c34 : Stmt := Holder.idx (Holder.mk _ : type_of% ((fun (a : Stmt) (r : List Stmt) (_ : PySem.Challenge.pw_pg0123_01.main.body.drop 34 = a :: r) => Holder.mk a) _ _ rfl))
def c35 : Stmt := Holder.idx (Holder.mk _ : type_of% ((fun (a : Stmt) (r : List Stmt) (_ : PySem.Challenge.pw_pg0123_01.main.body.drop 35 = a :: r) => Holder.mk a) _ _ rfl))
def c36 : Stmt := Holder.idx (Holder.mk _ : type_of% ((fun (a : Stmt) (r : List Stmt) (_ : PySem.Challenge.pw_pg0123_01.main.body.drop 36 = a :: r) => Holder.mk a) _ _ rfl))
def c37 : Stmt := Holder.idx (Holder.mk _ : type_of% ((fun (a : Stmt) (r : List Stmt) (_ : PySem.Challenge.pw_pg0123_01.main.body.drop 37 = a :: r) => Holder.mk a) _ _ rfl))
def c38 : Stmt := Holder.idx (Holder.mk _ : type_of% ((fun (a : Stmt) (r : List Stmt) (_ : PySem.Challenge.pw_pg0123_01.main.body.drop 38 = a :: r) => Holder.mk a) _ _ rfl))
def c39 : Stmt := Holder.idx (Holder.mk _ : type_of% ((fun (a : Stmt) (r : List Stmt) (_ : PySem.Challenge.pw_pg0123_01.main.body.drop 39 = a :: r) => Holder.mk a) _ _ rfl))
def c40 : Stmt := Holder.idx (Holder.mk _ : type_of% ((fun (a : Stmt) (r : List Stmt) (_ : PySem.Challenge.pw_pg0123_01.main.body.drop 40 = a :: r) => Holder.mk a) _ _ rfl))
def c41 : Stmt := Holder.idx (Holder.mk _ : type_of% ((fun (a : Stmt) (r : List Stmt) (_ : PySem.Challenge.pw_pg0123_01.main.body.drop 41 = a :: r) => Holder.mk a) _ _ rfl))
def c42 : Stmt := Holder.idx (Holder.mk _ : type_of% ((fun (a : Stmt) (r : List Stmt) (_ : PySem.Challenge.pw_pg0123_01.main.body.drop 42 = a :: r) => Holder.mk a) _ _ rfl))
def c43 : Stmt := Holder.idx (Holder.mk _ : type_of% ((fun (a : Stmt) (r : List Stmt) (_ : PySem.Challenge.pw_pg0123_01.main.body.drop 43 = a :: r) => Holder.mk a) _ _ rfl))
def c44 : Stmt := Holder.idx (Holder.mk _ : type_of% ((fun (a : Stmt) (r : List Stmt) (_ : PySem.Challenge.pw_pg0123_01.main.body.drop 44 = a :: r) => Holder.mk a) _ _ rfl))
def c45 : Stmt := Holder.idx (Holder.mk _ : type_of% ((fun (a : Stmt) (r : List Stmt) (_ : PySem.Challenge.pw_pg0123_01.main.body.drop 45 = a :: r) => Holder.mk a) _ _ rfl))
def c46 : Stmt := Holder.idx (Holder.mk _ : type_of% ((fun (a : Stmt) (r : List Stmt) (_ : PySem.Challenge.pw_pg0123_01.main.body.drop 46 = a :: r) => Holder.mk a) _ _ rfl))
def c47 : Stmt := Holder.idx (Holder.mk _ : type_of% ((fun (a : Stmt) (r : List Stmt) (_ : PySem.Challenge.pw_pg0123_01.main.body.drop 47 = a :: r) => Holder.mk a) _ _ rfl))
def c48 : Stmt := Holder.idx (Holder.mk _ : type_of% ((fun (a : Stmt) (r : List Stmt) (_ : PySem.Challenge.pw_pg0123_01.main.body.drop 48 = a :: r) => Holder.mk a) _ _ rfl))
def c49 : Stmt := Holder.idx (Holder.mk _ : type_of% ((fun (a : Stmt) (r : List Stmt) (_ : PySem.Challenge.pw_pg0123_01.main.body.drop 49 = a :: r) => Holder.mk a) _ _ rfl))
def c50 : Stmt := Holder.idx (Holder.mk _ : type_of% ((fun (a : Stmt) (r : List Stmt) (_ : PySem.Challenge.pw_pg0123_01.main.body.drop 50 = a :: r) => Holder.mk a) _ _ rfl))
def c51 : Stmt := Holder.idx (Holder.mk _ : type_of% ((fun (a : Stmt) (r : List Stmt) (_ : PySem.Challenge.pw_pg0123_01.main.body.drop 51 = a :: r) => Holder.mk a) _ _ rfl))
def c52 : Stmt := Holder.idx (Holder.mk _ : type_of% ((fun (a : Stmt) (r : List Stmt) (_ : PySem.Challenge.pw_pg0123_01.main.body.drop 52 = a :: r) => Holder.mk a) _ _ rfl))
def c53 : Stmt := Holder.idx (Holder.mk _ : type_of% ((fun (a : Stmt) (r : List Stmt) (_ : PySem.Challenge.pw_pg0123_01.main.body.drop 53 = a :: r) => Holder.mk a) _ _ rfl))
def dKs : Stmt → List (Option Expr) := fun st => match st with | .Assign _ (.Dict ks _ _) _ => ks | _ => []
def dVs : Stmt → List Expr := fun st => match st with | .Assign _ (.Dict _ vs _) _ => vs | _ => []
def ck0 : List (Option Expr) := Holder.idx (Holder.mk _ : type_of% ((fun (x0 x1 x2 x3 x4 x5 x6 x7 x8 x9 x10 x11 : Option Expr) (r : List (Option Expr)) (_ : (dKs (PySem.Challenge.pw_pg0123_01.main.body.getD 54 default)).drop 0 = x0 :: x1 :: x2 :: x3 :: x4 :: x5 :: x6 :: x7 :: x8 :: x9 :: x10 :: x11 :: r) => Holder.mk [x0, x1, x2, x3, x4, x5, x6, x7, x8, x9, x10, x11]) _ _ _ _ _ _ _ _ _ _ _ _ _ rfl))
def cv0 : List (Expr) := Holder.idx (Holder.mk _ : type_of% ((fun (x0 x1 x2 x3 x4 x5 x6 x7 x8 x9 x10 x11 : Expr) (r : List (Expr)) (_ : (dVs (PySem.Challenge.pw_pg0123_01.main.body.getD 54 default)).drop 0 = x0 :: x1 :: x2 :: x3 :: x4 :: x5 :: x6 :: x7 :: x8 :: x9 :: x10 :: x11 :: r) => Holder.mk [x0, x1, x2, x3, x4, x5, x6, x7, x8, x9, x10, x11]) _ _ _ _ _ _ _ _ _ _ _ _ _ rfl))
def ck1 : List (Option Expr) := Holder.idx (Holder.mk _ : type_of% ((fun (x0 x1 x2 x3 x4 x5 x6 x7 x8 x9 x10 x11 : Option Expr) (r : List (Option Expr)) (_ : (dKs (PySem.Challenge.pw_pg0123_01.main.body.getD 54 default)).drop 12 = x0 :: x1 :: x2 :: x3 :: x4 :: x5 :: x6 :: x7 :: x8 :: x9 :: x10 :: x11 :: r) => Holder.mk [x0, x1, x2, x3, x4, x5, x6, x7, x8, x9, x10, x11]) _ _ _ _ _ _ _ _ _ _ _ _ _ rfl))
def cv1 : List (Expr) := Holder.idx (Holder.mk _ : type_of% ((fun (x0 x1 x2 x3 x4 x5 x6 x7 x8 x9 x10 x11 : Expr) (r : List (Expr)) (_ : (dVs (PySem.Challenge.pw_pg0123_01.main.body.getD 54 default)).drop 12 = x0 :: x1 :: x2 :: x3 :: x4 :: x5 :: x6 :: x7 :: x8 :: x9 :: x10 :: x11 :: r) => Holder.mk [x0, x1, x2, x3, x4, x5, x6, x7, x8, x9, x10, x11]) _ _ _ _ _ _ _ _ _ _ _ _ _ rfl))
def ck2 : List (Option Expr) := Holder.idx (Holder.mk _ : type_of% ((fun (x0 x1 x2 x3 x4 x5 x6 x7 x8 x9 x10 x11 : Option Expr) (r : List (Option Expr)) (_ : (dKs (PySem.Challenge.pw_pg0123_01.main.body.getD 54 default)).drop 24 = x0 :: x1 :: x2 :: x3 :: x4 :: x5 :: x6 :: x7 :: x8 :: x9 :: x10 :: x11 :: r) => Holder.mk [x0, x1, x2, x3, x4, x5, x6, x7, x8, x9, x10, x11]) _ _ _ _ _ _ _ _ _ _ _ _ _ rfl))
def cv2 : List (Expr) := Holder.idx (Holder.mk _ : type_of% ((fun (x0 x1 x2 x3 x4 x5 x6 x7 x8 x9 x10 x11 : Expr) (r : List (Expr)) (_ : (dVs (PySem.Challenge.pw_pg0123_01.main.body.getD 54 default)).drop 24 = x0 :: x1 :: x2 :: x3 :: x4 :: x5 :: x6 :: x7 :: x8 :: x9 :: x10 :: x11 :: r) => Holder.mk [x0, x1, x2, x3, x4, x5, x6, x7, x8, x9, x10, x11]) _ _ _ _ _ _ _ _ _ _ _ _ _ rfl))
def ck3 : List (Option Expr) := Holder.idx (Holder.mk _ : type_of% ((fun (x0 x1 x2 x3 x4 x5 x6 x7 x8 x9 x10 x11 : Option Expr) (r : List (Option Expr)) (_ : (dKs (PySem.Challenge.pw_pg0123_01.main.body.getD 54 default)).drop 36 = x0 :: x1 :: x2 :: x3 :: x4 :: x5 :: x6 :: x7 :: x8 :: x9 :: x10 :: x11 :: r) => Holder.mk [x0, x1, x2, x3, x4, x5, x6, x7, x8, x9, x10, x11]) _ _ _ _ _ _ _ _ _ _ _ _ _ rfl))
def cv3 : List (Expr) := Holder.idx (Holder.mk _ : type_of% ((fun (x0 x1 x2 x3 x4 x5 x6 x7 x8 x9 x10 x11 : Expr) (r : List (Expr)) (_ : (dVs (PySem.Challenge.pw_pg0123_01.main.body.getD 54 default)).drop 36 = x0 :: x1 :: x2 :: x3 :: x4 :: x5 :: x6 :: x7 :: x8 :: x9 :: x10 :: x11 :: r) => Holder.mk [x0, x1, x2, x3, x4, x5, x6, x7, x8, x9, x10, x11]) _ _ _ _ _ _ _ _ _ _ _ _ _ rfl))
def c54 : Stmt := Holder.idx (Holder.mk _ : type_of% ((fun (ts : List Expr) (ks : List (Option Expr)) (vs : List Expr) (p q : Pos) (r : List Stmt) (_ : PySem.Challenge.pw_pg0123_01.main.body.drop 54 = Stmt.Assign ts (Expr.Dict ks vs p) q :: r) => Holder.mk (Stmt.Assign ts (Expr.Dict (ck0 ++ (ck1 ++ (ck2 ++ ck3))) (cv0 ++ (cv1 ++ (cv2 ++ cv3))) p) q)) _ _ _ _ _ _ rfl))
def c55 : Stmt := Holder.idx (Holder.mk _ : type_of% ((fun (a : Stmt) (r : List Stmt) (_ : PySem.Challenge.pw_pg0123_01.main.body.drop 55 = a :: r) => Holder.mk a) _ _ rfl))
def c56 : Stmt := Holder.idx (Holder.mk _ : type_of% ((fun (a : Stmt) (r : List Stmt) (_ : PySem.Challenge.pw_pg0123_01.main.body.drop 56 = a :: r) => Holder.mk a) _ _ rfl))
def c57 : Stmt := Holder.idx (Holder.mk _ : type_of% ((fun (a : Stmt) (r : List Stmt) (_ : PySem.Challenge.pw_pg0123_01.main.body.drop 57 = a :: r) => Holder.mk a) _ _ rfl))
def c58 : Stmt := Holder.idx (Holder.mk _ : type_of% ((fun (a : Stmt) (r : List Stmt) (_ : PySem.Challenge.pw_pg0123_01.main.body.drop 58 = a :: r) => Holder.mk a) _ _ rfl))
def c59 : Stmt := Holder.idx (Holder.mk _ : type_of% ((fun (a : Stmt) (r : List Stmt) (_ : PySem.Challenge.pw_pg0123_01.main.body.drop 59 = a :: r) => Holder.mk a) _ _ rfl))
def c60 : Stmt := Holder.idx (Holder.mk _ : type_of% ((fun (a : Stmt) (r : List Stmt) (_ : PySem.Challenge.pw_pg0123_01.main.body.drop 60 = a :: r) => Holder.mk a) _ _ rfl))
def c61 : Stmt := Holder.idx (Holder.mk _ : type_of% ((fun (a : Stmt) (r : List Stmt) (_ : PySem.Challenge.pw_pg0123_01.main.body.drop 61 = a :: r) => Holder.mk a) _ _ rfl))
def c62 : Stmt := Holder.idx (Holder.mk _ : type_of% ((fun (a : Stmt) (r : List Stmt) (_ : PySem.Challenge.pw_pg0123_01.main.body.drop 62 = a :: r) => Holder.mk a) _ _ rfl))
def c63 : Stmt := Holder.idx (Holder.mk _ : type_of% ((fun (a : Stmt) (r : List Stmt) (_ : PySem.Challenge.pw_pg0123_01.main.body.drop 63 = a :: r) => Holder.mk a) _ _ rfl))
def c64 : Stmt := Holder.idx (Holder.mk _ : type_of% ((fun (a : Stmt) (r : List Stmt) (_ : PySem.Challenge.pw_pg0123_01.main.body.drop 64 = a :: r) => Holder.mk a) _ _ rfl))
def c65 : Stmt := Holder.idx (Holder.mk _ : type_of% ((fun (a : Stmt) (r : List Stmt) (_ : PySem.Challenge.pw_pg0123_01.main.body.drop 65 = a :: r) => Holder.mk a) _ _ rfl))
def cs0 : List (Str × NameKind) := Holder.idx (Holder.mk _ : type_of% ((fun (x0 x1 x2 x3 x4 x5 x6 x7 x8 x9 x10 x11 : Str × NameKind) (r : List (Str × NameKind)) (_ : PySem.Challenge.pw_pg0123_01.main.scope.names.drop 0 = x0 :: x1 :: x2 :: x3 :: x4 :: x5 :: x6 :: x7 :: x8 :: x9 :: x10 :: x11 :: r) => Holder.mk [x0, x1, x2, x3, x4, x5, x6, x7, x8, x9, x10, x11]) _ _ _ _ _ _ _ _ _ _ _ _ _ rfl))
def cs1 : List (Str × NameKind) := Holder.idx (Holder.mk _ : type_of% ((fun (x0 x1 x2 x3 x4 x5 x6 x7 x8 x9 x10 x11 : Str × NameKind) (r : List (Str × NameKind)) (_ : PySem.Challenge.pw_pg0123_01.main.scope.names.drop 12 = x0 :: x1 :: x2 :: x3 :: x4 :: x5 :: x6 :: x7 :: x8 :: x9 :: x10 :: x11 :: r) => Holder.mk [x0, x1, x2, x3, x4, x5, x6, x7, x8, x9, x10, x11]) _ _ _ _ _ _ _ _ _ _ _ _ _ rfl))
def cs2 : List (Str × NameKind) := Holder.idx (Holder.mk _ : type_of% ((fun (x0 x1 x2 x3 x4 x5 x6 x7 x8 x9 x10 x11 : Str × NameKind) (r : List (Str × NameKind)) (_ : PySem.Challenge.pw_pg0123_01.main.scope.names.drop 24 = x0 :: x1 :: x2 :: x3 :: x4 :: x5 :: x6 :: x7 :: x8 :: x9 :: x10 :: x11 :: r) => Holder.mk [x0, x1, x2, x3, x4, x5, x6, x7, x8, x9, x10, x11]) _ _ _ _ _ _ _ _ _ _ _ _ _ rfl))
def cs3 : List (Str × NameKind) := Holder.idx (Holder.mk _ : type_of% ((fun (x0 x1 x2 x3 x4 x5 x6 x7 x8 x9 x10 x11 : Str × NameKind) (r : List (Str × NameKind)) (_ : PySem.Challenge.pw_pg0123_01.main.scope.names.drop 36 = x0 :: x1 :: x2 :: x3 :: x4 :: x5 :: x6 :: x7 :: x8 :: x9 :: x10 :: x11 :: r) => Holder.mk [x0, x1, x2, x3, x4, x5, x6, x7, x8, x9, x10, x11]) _ _ _ _ _ _ _ _ _ _ _ _ _ rfl))
def cs4 : List (Str × NameKind) := Holder.idx (Holder.mk _ : type_of% ((fun (x0 x1 x2 x3 x4 x5 x6 x7 x8 x9 x10 x11 : Str × NameKind) (r : List (Str × NameKind)) (_ : PySem.Challenge.pw_pg0123_01.main.scope.names.drop 48 = x0 :: x1 :: x2 :: x3 :: x4 :: x5 :: x6 :: x7 :: x8 :: x9 :: x10 :: x11 :: r) => Holder.mk [x0, x1, x2, x3, x4, x5, x6, x7, x8, x9, x10, x11]) _ _ _ _ _ _ _ _ _ _ _ _ _ rfl))
def cs5 : List (Str × NameKind) := Holder.idx (Holder.mk _ : type_of% ((fun (x0 x1 x2 x3 : Str × NameKind) (r : List (Str × NameKind)) (_ : PySem.Challenge.pw_pg0123_01.main.scope.names.drop 60 = x0 :: x1 :: x2 :: x3 :: r) => Holder.mk [x0, x1, x2, x3]) _ _ _ _ _ rfl))
def sc : Scope := Holder.idx (Holder.mk _ : type_of% ((fun (k : ScopeKind) (n : List (Str × NameKind)) (g h : Bool) (m : List (Str × Const)) (_ : PySem.Challenge.pw_pg0123_01.main.scope = Scope.mk k n g h m) => Holder.mk (Scope.mk k (cs0 ++ (cs1 ++ (cs2 ++ (cs3 ++ (cs4 ++ (cs5)))))) g h m)) _ _ _ _ _ rfl))
def b0 : List Stmt := [c0, c1, c2, c3, c4, c5, c6, c7, c8, c9, c10]
def b1 : List Stmt := [c11, c12, c13, c14, c15, c16, c17, c18, c19, c20, c21]
def b2 : List Stmt := [c22, c23, c24, c25, c26, c27, c28, c29, c30, c31, c32]
def b3 : List Stmt := [c33, c34, c35, c36, c37, c38, c39, c40, c41, c42, c43]
def b4 : List Stmt := [c44, c45, c46, c47, c48, c49, c50, c51, c52, c53, c54]
def b5 : List Stmt := [c55, c56, c57, c58, c59, c60, c61, c62, c63, c64, c65]
def prog0 : Program :=
  { main := { body := b0 ++ (b1 ++ (b2 ++ (b3 ++ (b4 ++ (b5))))), scope := sc, futureAnnotations := false, file := "/claim/cut.py", more := [] }, modules := [], parses := [], absent := [], harvested := [],
    given := { argv := [], stdin := [], environ := (some [([76, 67, 95, 65, 76, 76], [67, 46, 85, 84, 70, 45, 56])]) } }
def row0 : OpenLaw := { prog := prog0, name := (Str.ofString "law"), about := [(Str.ofString "_grouping_intervals")], foot := 8, most := some 63, bound := none, writes := false }
theorem row0_eq : row0 = PySem.Challenge.rw_pg0123_01 := by with_unfolding_all rfl
set_option maxHeartbeats 8000000 in
open_shared top for prog0 leaving 0
noncomputable def heap0 (P : Params) : Frag := [(2, boot_o_2 P), (3, top.o_25 P), (6, boot_o_6 P), (15, top.o_7 P), (17, top.o_9 P), (18, top.o_10 P), (20, top.o_12 P), (21, top.o_13 P), (22, top.o_19 P), (25, top.o_27 P), (27, top.o_29 P), (28, top.o_30 P), (30, top.o_32 P), (31, top.o_33 P), (32, top.o_34 P), (34, top.o_36 P), (35, top.o_37 P), (37, top.o_39 P), (38, top.o_40 P), (39, top.o_41 P), (42, top.o_44 P), (43, top.o_45 P), (44, top.o_46 P), (46, top.o_48 P), (47, top.o_49 P), (49, top.o_51 P), (50, top.o_52 P), (51, top.o_53 P), (53, top.o_55 P), (54, top.o_56 P), (56, top.o_58 P), (57, top.o_59 P), (58, top.o_60 P), (60, top.o_62 P), (61, top.o_63 P), (63, top.o_65 P), (64, top.o_66 P), (65, top.o_67 P), (67, top.o_69 P), (68, top.o_70 P), (70, top.o_72 P), (71, top.o_73 P), (72, top.o_74 P), (75, top.o_77 P), (76, top.o_78 P), (77, top.o_79 P), (79, top.o_81 P), (80, top.o_82 P), (82, top.o_84 P), (83, top.o_85 P), (84, top.o_86 P), (87, top.o_89 P), (88, top.o_90 P)]
end Mine

end

namespace Mine
section
open PySem PySem.Spec PySem.Calls PyProof.Rows

/-- a plain list object -/
noncomputable abbrev lst (vs : List Value) (n : Nat) : Obj := { cls := .type "list", data := .seq vs.toArray n }

mutual
inductive Rd (h : Heap) (P : Addr → Prop) : Value → PyData → Prop
  | none : Rd h P .none .none
  | bool (b) : Rd h P (.bool b) (.bool b)
  | int (i t) : Rd h P (.int i t) (.int i)
  | str (x t) : Rd h P (.str x t) (.str x)
  | list {a vs n xs} : P a → h.get? a = some (lst vs n) → RdAll h P vs xs → Rd h P (.ref a) (.list xs)
inductive RdAll (h : Heap) (P : Addr → Prop) : List Value → List PyData → Prop
  | nil : RdAll h P [] []
  | cons {v vs d ds} : Rd h P v d → RdAll h P vs ds → RdAll h P (v :: vs) (d :: ds)
end

theorem rd_mono {h h' : Heap} {P P' : Addr → Prop} (hk : ∀ b o, P b → h.get? b = some o → h'.get? b = some o) (hp : ∀ b o, P b → h.get? b = some o → P' b) :
    (∀ {v d}, Rd h P v d → Rd h' P' v d) ∧ (∀ {vs ds}, RdAll h P vs ds → RdAll h' P' vs ds) := by
  refine ⟨fun {v d} r => ?_, fun {vs ds} r => ?_⟩
  · refine Rd.rec (motive_1 := fun v d _ => Rd h' P' v d) (motive_2 := fun vs ds _ => RdAll h' P' vs ds) .none .bool .int .str ?_ .nil ?_ r
    · intro a vs n xs hP ho _ ih; exact .list (hp _ _ hP ho) (hk _ _ hP ho) ih
    · intro v vs d ds _ _ i1 i2; exact .cons i1 i2
  · refine RdAll.rec (motive_1 := fun v d _ => Rd h' P' v d) (motive_2 := fun vs ds _ => RdAll h' P' vs ds) .none .bool .int .str ?_ .nil ?_ r
    · intro a vs n xs hP ho _ ih; exact .list (hp _ _ hP ho) (hk _ _ hP ho) ih
    · intro v vs d ds _ _ i1 i2; exact .cons i1 i2

theorem Rd.mono {h h' : Heap} {P P' : Addr → Prop} {v d} (r : Rd h P v d) (hk : ∀ b o, P b → h.get? b = some o → h'.get? b = some o) (hp : ∀ b o, P b → h.get? b = some o → P' b) : Rd h' P' v d :=
  (rd_mono hk hp).1 r
theorem RdAll.mono {h h' : Heap} {P P' : Addr → Prop} {vs ds} (r : RdAll h P vs ds) (hk : ∀ b o, P b → h.get? b = some o → h'.get? b = some o) (hp : ∀ b o, P b → h.get? b = some o → P' b) : RdAll h' P' vs ds :=
  (rd_mono hk hp).2 r

theorem Rd.reads {h : Heap} {P : Addr → Prop} {v d} (r : Rd h P v d) : ∃ as, Reads h v d as := by
  refine Rd.rec (motive_1 := fun v d _ => ∃ as, Reads h v d as) (motive_2 := fun vs ds _ => ∃ as, ReadsAll h vs ds as) ⟨_, .none⟩ (fun b => ⟨_, .bool b⟩) (fun i t => ⟨_, .int i t⟩) (fun x t => ⟨_, .str x t⟩) ?_ ⟨_, .nil⟩ ?_ r
  · rintro a vs n xs _ ho _ ⟨as, ih⟩; exact ⟨_, .list ho rfl rfl (by simpa using ih)⟩
  · rintro v vs d ds _ _ ⟨as, i1⟩ ⟨bs, i2⟩; exact ⟨_, .cons i1 i2⟩

theorem RdAll.length {h : Heap} {P : Addr → Prop} : ∀ {vs ds}, RdAll h P vs ds → vs.length = ds.length
  | _, _, .nil => rfl
  | _, _, .cons _ r => by simp [r.length]
theorem RdAll.get {h : Heap} {P : Addr → Prop} : ∀ {vs ds}, RdAll h P vs ds → ∀ (i : Nat) (d : PyData), ds[i]? = some d → ∃ v, vs[i]? = some v ∧ Rd h P v d
  | _, _, .cons r _, 0, d, e => by simp at e; subst e; exact ⟨_, rfl, r⟩
  | _, _, .cons _ r, i + 1, d, e => by simpa using r.get i d (by simpa using e)
theorem RdAll.get' {h : Heap} {P : Addr → Prop} : ∀ {vs ds}, RdAll h P vs ds → ∀ (i : Nat) (v : Value), vs[i]? = some v → ∃ d, ds[i]? = some d ∧ Rd h P v d
  | _, _, .cons r _, 0, d, e => by simp at e; subst e; exact ⟨_, rfl, r⟩
  | _, _, .cons _ r, i + 1, d, e => by simpa using r.get' i d (by simpa using e)
theorem RdAll.append {h : Heap} {P : Addr → Prop} : ∀ {vs ds us es}, RdAll h P vs ds → RdAll h P us es → RdAll h P (vs ++ us) (ds ++ es)
  | _, _, _, _, .nil, r => r
  | _, _, _, _, .cons a b, r => .cons a (b.append r)
theorem RdAll.snoc {h : Heap} {P : Addr → Prop} {vs ds v d} (a : RdAll h P vs ds) (b : Rd h P v d) : RdAll h P (vs ++ [v]) (ds ++ [d]) := a.append (.cons b .nil)
theorem RdAll.take {h : Heap} {P : Addr → Prop} : ∀ {vs ds}, RdAll h P vs ds → ∀ n, RdAll h P (vs.take n) (ds.take n)
  | _, _, _, 0 => by simpa using .nil
  | _, _, .nil, n + 1 => by simpa using .nil
  | _, _, .cons a b, n + 1 => .cons a (b.take n)
theorem RdAll.drop {h : Heap} {P : Addr → Prop} : ∀ {vs ds}, RdAll h P vs ds → ∀ n, RdAll h P (vs.drop n) (ds.drop n)
  | _, _, r, 0 => r
  | _, _, .nil, n + 1 => by simpa using .nil
  | _, _, .cons a b, n + 1 => b.drop n
theorem RdAll.ints {h : Heap} {P : Addr → Prop} : ∀ {vs : List Value} {ns : List Int}, RdAll h P vs (ns.map PyData.int) → IntsAre vs ns
  | _, [], .nil => .nil
  | _, n :: ns, .cons (.int _ _) r => .cons _ _ r.ints
theorem rdAll_of_ints {h : Heap} {P : Addr → Prop} {vs : List Value} {ns : List Int} (i : IntsAre vs ns) : RdAll h P vs (ns.map PyData.int) := by
  induction i with
  | nil => exact .nil
  | cons k t _ ih => exact .cons (.int _ _) ih

/-- what is known of objects that no step of the frame changes -/
inductive Fact where
  | rd (v : Value) (d : PyData)
  | nw (v : Value) (d : PyData)
  | ob (a : Addr) (o : Obj)

noncomputable def Fact.At (h₀ : Heap) (X : List Addr) (h : Heap) : Fact → Prop
  | .rd v d => Rd h (fun a => a ∉ X) v d
  | .nw v d => Rd h (fun a => a ∉ X ∧ h₀.get? a = none) v d
  | .ob a o => h.get? a = some o ∧ a ∉ X

theorem Fact.At.mono {h₀ h h' : Heap} {X X' : List Addr} {f : Fact} (x : f.At h₀ X h) (hk : ∀ b o, b ∉ X → h.get? b = some o → h'.get? b = some o)
    (hX : ∀ b o, b ∉ X → h.get? b = some o → b ∉ X') : f.At h₀ X' h' := by
  cases f with
  | rd v d => exact Rd.mono (P := fun a => a ∉ X) x hk hX
  | nw v d => exact Rd.mono (P := fun a => a ∉ X ∧ h₀.get? a = none) x (fun b o p => hk b o p.1) fun b o p e => ⟨hX b o p.1 e, p.2⟩
  | ob a o => exact ⟨hk _ _ x.2 x.1, hX _ _ x.2 x.1⟩

/-- an object of the frame's own: a list in some state, or any object as it is -/
inductive MO where
  | l (vs : List Value)
  | o (ob : Obj)
noncomputable def MO.At (h : Heap) (a : Addr) : MO → Prop
  | .l vs => ∃ n, h.get? a = some (lst vs n)
  | .o ob => h.get? a = some ob
theorem MO.At.mono {h h' : Heap} {a : Addr} {x : MO} (e : x.At h a) (hk : ∀ o, h.get? a = some o → h'.get? a = some o) : x.At h' a := by
  cases x with
  | l vs => obtain ⟨n, e⟩ := e; exact ⟨n, hk _ e⟩
  | o ob => exact hk _ e
theorem MO.At.live {h : Heap} {a : Addr} {x : MO} (e : x.At h a) : ∃ o, h.get? a = some o := by
  cases x with
  | l vs => obtain ⟨n, e⟩ := e; exact ⟨_, e⟩
  | o ob => exact ⟨_, e⟩

noncomputable def XS (own : Bool) (env : Env) (mu : List (Addr × MO)) : List Addr :=
  if own then env.locals :: (env.cells.map (·.2) ++ mu.map (·.1)) else []

structure St (own : Bool) (s₀ : Shared) (env : Env) (m cm : Str → Option Value) (mu : List (Addr × MO)) (fs : List Fact) (s : Shared) : Prop where
  same : ∃ h tk, s = { s₀ with heap := h, toks := tk }
  ns : s.heap.Ns env.locals m
  keep : ∀ b o, s₀.heap.get? b = some o → s.heap.get? b = some o
  cell : ∀ n c, env.cells.lookup n = some c → s.heap.IsCell c (cm n)
  muts : ∀ p ∈ mu, p.2.At s.heap p.1
  live : ∀ a ∈ XS own env mu, ∃ o, s.heap.get? a = some o
  new : ∀ a ∈ XS own env mu, s₀.heap.get? a = none
  apart : (XS own env mu).Nodup
  facts : ∀ f ∈ fs, f.At s₀.heap (XS own env mu) s.heap

section
variable {own : Bool} {s₀ s : Shared} {env : Env} {m cm : Str → Option Value} {mu : List (Addr × MO)} {fs : List Fact}

theorem St.tok (S : St own s₀ env m cm mu fs s) (t : Nat) : St own s₀ env m cm mu fs { s with toks := t } :=
  { S with same := let ⟨h, _, e⟩ := S.same; ⟨h, t, by rw [e]⟩ }

/-- the heap has grown -/
theorem St.grow (S : St own s₀ env m cm mu fs s) {h' : Heap} (t : Nat) (hk : ∀ b o, s.heap.get? b = some o → h'.get? b = some o) :
    St own s₀ env m cm mu fs { s with heap := h', toks := t } where
  same := let ⟨h, _, e⟩ := S.same; ⟨h', t, by rw [e]⟩
  ns := S.ns.keeps hk
  keep := fun b o e => hk _ _ (S.keep b o e)
  cell := fun n c e => (S.cell n c e).keeps hk
  muts := fun p hp => (S.muts p hp).mono fun o e => hk _ o e
  live := fun a ha => let ⟨o, e⟩ := S.live a ha; ⟨o, hk _ _ e⟩
  new := S.new
  apart := S.apart
  facts := fun f hf => (S.facts f hf).mono (fun b o _ e => hk b o e) fun b o hb _ => hb

theorem St.add (S : St own s₀ env m cm mu fs s) {f : Fact} (hf : f.At s₀.heap (XS own env mu) s.heap) : St own s₀ env m cm mu (f :: fs) s :=
  { S with facts := fun g hg => (List.mem_cons.mp hg).elim (fun e => e ▸ hf) (S.facts g) }

theorem St.sub (S : St own s₀ env m cm mu fs s) {fs' : List Fact} (hf : ∀ f ∈ fs', f ∈ fs) : St own s₀ env m cm mu fs' s :=
  { S with facts := fun g hg => S.facts g (hf g hg) }

theorem notin_of_none {h : Heap} {X : List Addr} (live : ∀ a ∈ X, ∃ o, h.get? a = some o) {a : Addr} (e : h.get? a = none) : a ∉ X := fun ha => by
  obtain ⟨o, e'⟩ := live a ha; rw [e] at e'; cases e'

/-- the heap has grown by data -/
theorem St.growD (S : St own s₀ env m cm mu fs s) {h' : Heap} (t : Nat) (hk : ∀ b o, s.heap.get? b = some o → h'.get? b = some o) {v : Value} {d : PyData}
    (r : Rd h' (fun a => s.heap.get? a = none) v d) : St own s₀ env m cm mu (.nw v d :: fs) { s with heap := h', toks := t } := by
  refine (S.grow t hk).add (f := .nw v d) ?_
  refine Rd.mono (P' := fun a => a ∉ XS own env mu ∧ s₀.heap.get? a = none) r (fun _ _ _ e => e) fun b o hb _ => ⟨notin_of_none S.live hb, ?_⟩
  cases e : s₀.heap.get? b with
  | none => rfl
  | some o' => rw [S.keep b o' e] at hb; cases hb

/-- the heap has grown by data of the frame's own and older data -/
theorem St.growDX (S : St own s₀ env m cm mu fs s) {h' : Heap} (t : Nat) (hk : ∀ b o, s.heap.get? b = some o → h'.get? b = some o) {v : Value} {d : PyData}
    (r : Rd h' (fun a => s.heap.get? a = none ∨ (a ∉ XS own env mu ∧ s₀.heap.get? a = none)) v d) : St own s₀ env m cm mu (.nw v d :: fs) { s with heap := h', toks := t } := by
  refine (S.grow t hk).add (f := .nw v d) ?_
  refine Rd.mono (P' := fun a => a ∉ XS own env mu ∧ s₀.heap.get? a = none) r (fun _ _ _ e => e) fun b o hb _ => ?_
  rcases hb with hb | hb
  · refine ⟨notin_of_none S.live hb, ?_⟩
    cases e : s₀.heap.get? b with
    | none => rfl
    | some o' => rw [S.keep b o' e] at hb; cases hb
  · exact hb

theorem XS_cons (env : Env) (a : Addr) (vs : MO) (mu : List (Addr × MO)) : ∀ b, b ∈ XS true env ((a, vs) :: mu) ↔ b = a ∨ b ∈ XS true env mu := by
  intro b; simp only [XS, if_true, List.map_cons, List.mem_cons, List.mem_append]
  constructor
  · rintro (h | h | h | h)
    · exact .inr (.inl h)
    · exact .inr (.inr (.inl h))
    · exact .inl h
    · exact .inr (.inr (.inr h))
  · rintro (h | h | h | h)
    · exact .inr (.inr (.inl h))
    · exact .inl h
    · exact .inr (.inl h)
    · exact .inr (.inr (.inr h))

theorem nodup_mid {α : Type} {a x : α} {l r : List α} (h : (x :: (l ++ r)).Nodup) (h1 : a ∉ x :: (l ++ r)) : (x :: (l ++ a :: r)).Nodup := by
  have p : (x :: (l ++ a :: r)).Perm (a :: x :: (l ++ r)) := (List.Perm.cons x List.perm_middle).trans (List.Perm.swap a x _)
  exact p.nodup_iff.mpr (List.nodup_cons.mpr ⟨h1, h⟩)

/-- a new list of the frame's own, to be changed -/
theorem St.growM (S : St true s₀ env m cm mu fs s) {h' : Heap} (t : Nat) (hk : ∀ b o, s.heap.get? b = some o → h'.get? b = some o) {a : Addr} {vs : MO}
    (ha : s.heap.get? a = none) (ho : vs.At h' a) : St true s₀ env m cm ((a, vs) :: mu) fs { s with heap := h', toks := t } := by
  have G := S.grow t hk
  have hn : a ∉ XS true env mu := notin_of_none S.live ha
  exact {
    same := G.same, ns := G.ns, keep := G.keep, cell := G.cell
    muts := fun p hp => by
      rcases List.mem_cons.mp hp with rfl | hp
      · exact ho
      · exact G.muts p hp
    live := fun b hb => by
      rcases (XS_cons env a vs mu b).mp hb with rfl | hb
      · exact ho.live
      · exact G.live b hb
    new := fun b hb => by
      rcases (XS_cons env a vs mu b).mp hb with rfl | hb
      · cases e : s₀.heap.get? b with
        | none => rfl
        | some o' => rw [S.keep b o' e] at ha; cases ha
      · exact S.new b hb
    apart := by
      have := S.apart
      simp only [XS, if_true, List.map_cons] at this ⊢
      refine nodup_mid this ?_
      simpa only [XS, if_true] using hn
    facts := fun f hf => (S.facts f hf).mono (fun b o _ e => hk b o e) fun b o hb e hb' => by
      rcases (XS_cons env a vs mu b).mp hb' with rfl | hb'
      · rw [ha] at e; cases e
      · exact hb hb' }

theorem mem_XS_loc (env : Env) (mu) : env.locals ∈ XS true env mu := by simp [XS]

/-- one object of the frame's own has changed -/
theorem St.keepX (S : St true s₀ env m cm mu fs s) {a : Addr} (ha : a ∈ XS true env mu) {h' : Heap} (hs : Heap.SameBut a s.heap h') :
    (∀ b o, s₀.heap.get? b = some o → h'.get? b = some o) ∧ (∀ f ∈ fs, f.At s₀.heap (XS true env mu) h') := by
  refine ⟨fun b o e => ?_, fun f hf => (S.facts f hf).mono (fun b o hb e => ?_) fun b o hb _ => hb⟩
  · refine (hs.2 b ?_).trans (S.keep b o e)
    rintro rfl; rw [S.new _ ha] at e; cases e
  · refine (hs.2 b ?_).trans e
    rintro rfl; exact hb ha

theorem mem_XS_cell {env : Env} {n : Str} {c : Addr} (h : env.cells.lookup n = some c) (mu) : c ∈ XS true env mu := by
  simp only [XS, if_true, List.mem_cons, List.mem_append, List.mem_map]
  exact .inr (.inl ⟨_, mem_of_lookup h, rfl⟩)
theorem mem_XS_mut {env : Env} {a : Addr} {vs : MO} {mu} (h : (a, vs) ∈ mu) : a ∈ XS true env mu := by
  simp only [XS, if_true, List.mem_cons, List.mem_append, List.mem_map]
  exact .inr (.inr ⟨_, h, rfl⟩)
theorem St.loc_ne_cell (S : St true s₀ env m cm mu fs s) {n : Str} {c : Addr} (h : env.cells.lookup n = some c) : c ≠ env.locals := by
  have := S.apart
  simp only [XS, if_true, List.nodup_cons, List.mem_append, List.mem_map] at this
  intro e; exact this.1 (.inl ⟨_, mem_of_lookup h, e⟩)
theorem St.loc_ne_mut (S : St true s₀ env m cm mu fs s) {a : Addr} {vs : MO} (h : (a, vs) ∈ mu) : a ≠ env.locals := by
  have := S.apart
  simp only [XS, if_true, List.nodup_cons, List.mem_append, List.mem_map] at this
  intro e; exact this.1 (.inr ⟨_, h, e⟩)
theorem St.cell_ne_mut (S : St true s₀ env m cm mu fs s) {n : Str} {c a : Addr} {vs : MO} (hc : env.cells.lookup n = some c) (h : (a, vs) ∈ mu) : a ≠ c := by
  have := S.apart
  simp only [XS, if_true, List.nodup_cons] at this
  have h2 := (List.nodup_append.mp this.2).2.2
  intro e
  exact h2 c (List.mem_map.mpr ⟨_, mem_of_lookup hc, rfl⟩) a (List.mem_map.mpr ⟨_, h, rfl⟩) e.symm

theorem St.live' (S : St true s₀ env m cm mu fs s) {a : Addr} {h' : Heap} (hs : Heap.SameBut a s.heap h') (ho : ∃ o, h'.get? a = some o) :
    ∀ b ∈ XS true env mu, ∃ o, h'.get? b = some o := fun b hb => by
  by_cases e : b = a
  · subst e; exact ho
  · obtain ⟨o, eo⟩ := S.live b hb; exact ⟨o, (hs.2 b e).trans eo⟩

/-- a local name is stored -/
theorem St.store (S : St true s₀ env m cm mu fs s) {h' : Heap} {t : Nat} {m' : Str → Option Value} (hn : h'.Ns env.locals m') (hs : Heap.SameBut env.locals s.heap h') :
    St true s₀ env m' cm mu fs { s with heap := h', toks := t } := by
  have k := S.keepX (mem_XS_loc env mu) hs
  refine ⟨let ⟨h, _, e⟩ := S.same; ⟨h', t, by rw [e]⟩, hn, k.1, fun n c e => (S.cell n c e).sameBut hs (S.loc_ne_cell e), fun p hp => ?_, S.live' hs ?_, S.new, S.apart, k.2⟩
  · exact (S.muts p hp).mono fun o e => (hs.2 _ (S.loc_ne_mut (vs := p.2) hp)).trans e
  · obtain ⟨o, _, _, e, _⟩ := hn; exact ⟨o, e⟩

theorem cell_apart {cs : List (Str × Addr)} (h : (cs.map (·.2)).Nodup) : ∀ {n n' : Str} {c : Addr}, cs.lookup n = some c → cs.lookup n' = some c → n = n' := by
  intro n n' c h1 h2
  have p : cs.Pairwise fun x y => x.2 ≠ y.2 := by
    rw [List.Nodup, List.pairwise_map] at h; exact h
  exact name_of_addr p (mem_of_lookup h1) (mem_of_lookup h2)

/-- a cell's name is stored -/
theorem St.storeC (S : St true s₀ env m cm mu fs s) {h' : Heap} {t : Nat} {x : Str} {c : Addr} {v : Value} (hc : env.cells.lookup x = some c) (hn : h'.IsCell c (some v)) (hs : Heap.SameBut c s.heap h') :
    St true s₀ env m (fun y => if y = x then some v else cm y) mu fs { s with heap := h', toks := t } := by
  have k := S.keepX (mem_XS_cell hc mu) hs
  refine ⟨let ⟨h, _, e⟩ := S.same; ⟨h', t, by rw [e]⟩, S.ns.sameBut hs (Ne.symm (S.loc_ne_cell hc)), k.1, fun n c' e => ?_, fun p hp => ?_, S.live' hs ?_, S.new, S.apart, k.2⟩
  · by_cases hx : n = x
    · subst hx; rw [hc] at e; cases e; simpa using hn
    · simp only [if_neg hx]
      refine (S.cell n c' e).sameBut hs fun e' => hx ?_
      subst e'
      have := S.apart
      simp only [XS, if_true, List.nodup_cons] at this
      exact cell_apart (List.nodup_append.mp this.2).1 e hc
  · exact (S.muts p hp).mono fun o e => (hs.2 _ (S.cell_ne_mut (vs := p.2) hc hp)).trans e
  · obtain ⟨o, e, _⟩ := hn; exact ⟨o, e⟩

/-- one of the frame's own lists in another state -/
noncomputable def setM (a : Addr) (vs : MO) (mu : List (Addr × MO)) : List (Addr × MO) := mu.map fun p => if p.1 = a then (a, vs) else p
theorem setM_fst (a : Addr) (vs : MO) (mu) : (setM a vs mu).map (·.1) = mu.map (·.1) := by
  simp only [setM, List.map_map]
  apply List.map_congr_left
  intro p _
  simp only [Function.comp]
  split <;> simp_all
theorem setM_head {a : Addr} {vs us : MO} {mu : List (Addr × MO)} (h : a ∉ mu.map (·.1)) : setM a vs ((a, us) :: mu) = (a, vs) :: mu := by
  have : setM a vs mu = mu := by
    simp only [setM]
    refine (List.map_congr_left (g := id) fun p hp => ?_).trans (List.map_id _)
    rw [if_neg]; · rfl
    intro e; exact h (List.mem_map.mpr ⟨p, hp, e⟩)
  simp only [setM, List.map_cons, if_true] at this ⊢
  rw [this]
theorem setM_tail {a b : Addr} {vs us : MO} {mu : List (Addr × MO)} (h : b ≠ a) : setM a vs ((b, us) :: mu) = (b, us) :: setM a vs mu := by
  simp only [setM, List.map_cons, if_neg h]
theorem XS_setM (env : Env) (a vs mu) : XS true env (setM a vs mu) = XS true env mu := by simp only [XS, setM_fst]

theorem St.setL (S : St true s₀ env m cm mu fs s) {h' : Heap} {t : Nat} {a : Addr} {us vs : MO} (ha : (a, us) ∈ mu) (ho : vs.At h' a) (hs : Heap.SameBut a s.heap h') :
    St true s₀ env m cm (setM a vs mu) fs { s with heap := h', toks := t } := by
  have k := S.keepX (mem_XS_mut ha) hs
  refine ⟨let ⟨h, _, e⟩ := S.same; ⟨h', t, by rw [e]⟩, S.ns.sameBut hs (Ne.symm (S.loc_ne_mut ha)), k.1, fun n c e => (S.cell n c e).sameBut hs (Ne.symm (S.cell_ne_mut e ha)), fun p hp => ?_, ?_, ?_, ?_, ?_⟩
  · obtain ⟨q, hq, e⟩ := List.mem_map.mp hp
    by_cases hqa : q.1 = a
    · simp only [hqa, if_true] at e; subst e; exact ho
    · simp only [hqa, if_false] at e; subst e
      exact (S.muts q hq).mono fun o e => (hs.2 _ hqa).trans e
  · rw [XS_setM]; exact S.live' hs ho.live
  · rw [XS_setM]; exact S.new
  · rw [XS_setM]; exact S.apart
  · rw [XS_setM]; exact k.2

theorem St.list (S : St own s₀ env m cm mu fs s) {a : Addr} {vs : List Value} (ha : (a, MO.l vs) ∈ mu) : s.heap.PlainList a vs.toArray := S.muts (a, .l vs) ha
theorem St.rd (S : St own s₀ env m cm mu fs s) {v : Value} {d : PyData} (h : Fact.rd v d ∈ fs) : Rd s.heap (fun a => a ∉ XS own env mu) v d := S.facts _ h
theorem St.nw (S : St own s₀ env m cm mu fs s) {v : Value} {d : PyData} (h : Fact.nw v d ∈ fs) : Rd s.heap (fun a => a ∉ XS own env mu ∧ s₀.heap.get? a = none) v d := S.facts _ h
theorem St.data (S : St own s₀ env m cm mu fs s) {v : Value} {d : PyData} (h : Fact.rd v d ∈ fs ∨ Fact.nw v d ∈ fs) : Rd s.heap (fun a => a ∉ XS own env mu) v d :=
  h.elim S.rd fun h => (S.nw h).mono (fun _ _ _ e => e) fun _ _ p _ => p.1

/-- a list of the frame's own is not changed from here on -/
theorem St.freeze (S : St true s₀ env m cm ((a, MO.l vs) :: mu) fs s) {xs : List PyData} (r : RdAll s.heap (fun b => b ∉ XS true env ((a, MO.l vs) :: mu) ∧ s₀.heap.get? b = none) vs xs) :
    St true s₀ env m cm mu (.nw (.ref a) (.list xs) :: fs) s := by
  have hsub : ∀ b, b ∈ XS true env mu → b ∈ XS true env ((a, MO.l vs) :: mu) := fun b hb => (XS_cons env a (.l vs) mu b).mpr (.inr hb)
  have hna : a ∉ XS true env mu := by
    have := S.apart
    simp only [XS, if_true, List.map_cons] at this ⊢
    have p : (env.locals :: (env.cells.map (·.2) ++ a :: mu.map (·.1))).Perm (a :: env.locals :: (env.cells.map (·.2) ++ mu.map (·.1))) := (List.Perm.cons _ List.perm_middle).trans (List.Perm.swap _ _ _)
    exact (List.nodup_cons.mp (p.nodup_iff.mp this)).1
  have hnd : (XS true env mu).Nodup := by
    have := S.apart
    simp only [XS, if_true, List.map_cons] at this ⊢
    have p : (env.locals :: (env.cells.map (·.2) ++ a :: mu.map (·.1))).Perm (a :: env.locals :: (env.cells.map (·.2) ++ mu.map (·.1))) := (List.Perm.cons _ List.perm_middle).trans (List.Perm.swap _ _ _)
    exact (List.nodup_cons.mp (p.nodup_iff.mp this)).2
  obtain ⟨n, ho⟩ := S.muts (a, MO.l vs) List.mem_cons_self
  refine ⟨S.same, S.ns, S.keep, S.cell, fun p hp => S.muts p (List.mem_cons_of_mem _ hp), fun b hb => S.live b (hsub b hb), fun b hb => S.new b (hsub b hb), hnd, fun f hf => ?_⟩
  rcases List.mem_cons.mp hf with rfl | hf
  · exact .list ⟨hna, S.new a ((XS_cons env a (.l vs) mu a).mpr (.inl rfl))⟩ ho (r.mono (fun _ _ _ e => e) fun b _ p _ => ⟨fun hb => p.1 (hsub b hb), p.2⟩)
  · exact (S.facts f hf).mono (fun _ _ _ e => e) fun b _ hb _ hb' => hb (hsub b hb')
end
end

section
open PySem PySem.Spec PySem.Calls PyProof.Rows PySem.W
/-- the promise under a name of its own -/
theorem wp_gen {α : Type} {M : Model} {A : Around} {t : Sem α} {Q : α → Shared → Prop} {E : Value → Shared → Prop} {s : Shared}
    (h : ∀ Q' : α → Shared → Prop, (∀ v s', Q v s' → Q' v s') → wpAny M A t Q' E s) : wpAny M A t Q E s := h Q fun _ _ q => q
/-- a statement, then the rest, under a name -/
theorem ec {M : Model} {A : Around} {E : Value → Shared → Prop} {s : Shared} {env : Env} {st : Stmt} {rest : List Stmt} {Q : Flow → Shared → Prop}
    (h : ∀ Q' : Flow → Shared → Prop, (∀ s', wpAny M A (execs rest env) Q E s' → Q' .next s') → (∀ f s', f ≠ .next → Q f s' → Q' f s') → wpAny M A (exec st env) Q' E s) :
    wpAny M A (execs (st :: rest) env) Q E s :=
  wpAny_execs_cons (h _ (fun _ q => q) fun f s' hf q => match f, hf, q with
    | .next, hf, _ => absurd rfl hf
    | .cont, _, q => q
    | .brk, _, q => q
    | .ret _, _, q => q)
/-- a method of a written constant: its base is the constant -/
theorem base_const {c : Const} {k : Nat} {p : Pos} {n : Str} {env : Env} {e : Sem Value} : attributeBase (.Constant c k p) n env e = e := rfl
end

section
open PySem PySem.Spec PySem.Calls PyProof.Rows PySem.W

noncomputable abbrev tx (l : List Nat) : Str := ⟨l.toArray⟩
theorem tx_len (l : List Nat) : (tx l).length = l.length := by simp [Str.length]
theorem tx_app (l r : List Nat) : tx l ++ tx r = tx (l ++ r) := by
  show (⟨l.toArray ++ r.toArray⟩ : Str) = _
  simp
theorem tx_inj {l r : List Nat} (h : tx l = tx r) : l = r := by
  have := congrArg (fun s : Str => s.cps.toList) h
  simpa using this

/-- slices by natural numbers -/
theorem filterMap_range {α : Type} (xs : List α) (a n : Nat) (h : a + n ≤ xs.length) : ((List.range n).map fun k => a + k).filterMap (xs[·]?) = (xs.drop a).take n := by
  induction n with
  | zero => simp
  | succ n ih =>
    rw [List.range_succ, List.map_append, List.filterMap_append, ih (by omega)]
    simp only [List.map_cons, List.map_nil, List.filterMap_cons, List.filterMap_nil]
    have hx : a + n < xs.length := by omega
    rw [List.getElem?_eq_getElem hx]
    simp only
    rw [List.take_add_one, List.getElem?_drop, List.getElem?_eq_getElem hx]
    simp
theorem sliceRange_nat (a b : Nat) : sliceRange (a : Int) (b : Int) 1 = (List.range (b - a)).map fun k => a + k := by
  unfold sliceRange
  simp only [show (1 : Int) > 0 by decide, if_true]
  have e : (if (a : Int) < b then ((b : Int) - a + 1 - 1) / 1 else 0).toNat = b - a := by
    split
    · rw [Int.ediv_one]; omega
    · simp; omega
  rw [e]
  apply List.map_congr_left
  intro k _
  omega
theorem strIdx_nat (lo hi : Option Nat) (n : Nat) : Builtin.Str.strSliceIndices (lo.map Int.ofNat) (hi.map Int.ofNat) 1 n =
    (List.range (min (hi.getD n) n - min (lo.getD 0) n)).map fun k => min (lo.getD 0) n + k := by
  rw [← sliceRange_nat]
  show sliceRange (match lo.map Int.ofNat with | none => 0 | some i => max 0 (min (if i < 0 then i + (n : Int) else i) n)) (match hi.map Int.ofNat with | none => (n : Int) | some i => max 0 (min (if i < 0 then i + (n : Int) else i) n)) 1 = _
  have h1 : (match lo.map Int.ofNat with | none => (0 : Int) | some i => max 0 (min (if i < 0 then i + (n : Int) else i) n)) = ((min (lo.getD 0) n : Nat) : Int) := by
    cases lo with
    | none => simp
    | some i =>
      simp only [Option.map_some, Option.getD_some]
      rw [if_neg (by simp)]
      show max 0 (min (i : Int) n) = _
      omega
  have h2 : (match hi.map Int.ofNat with | none => (n : Int) | some i => max 0 (min (if i < 0 then i + (n : Int) else i) n)) = ((min (hi.getD n) n : Nat) : Int) := by
    cases hi with
    | none => simp
    | some i =>
      simp only [Option.map_some, Option.getD_some]
      rw [if_neg (by simp)]
      show max 0 (min (i : Int) n) = _
      omega
  rw [h1, h2]
theorem idx_pick {α : Type} (xs : List α) (lo hi : Option Nat) :
    (Builtin.Str.strSliceIndices (lo.map Int.ofNat) (hi.map Int.ofNat) 1 xs.length).filterMap (xs[·]?) = (xs.take (hi.getD xs.length)).drop (lo.getD 0) := by
  rw [strIdx_nat]
  have hb : xs.take (hi.getD xs.length) = xs.take (min (hi.getD xs.length) xs.length) := by
    by_cases h : hi.getD xs.length ≤ xs.length
    · rw [Nat.min_eq_left h]
    · rw [Nat.min_eq_right (by omega), List.take_of_length_le (by omega), List.take_of_length_le (by omega)]
  rw [hb]
  generalize hB : min (hi.getD xs.length) xs.length = B
  have hBl : B ≤ xs.length := by omega
  have ha : (xs.take B).drop (lo.getD 0) = (xs.take B).drop (min (lo.getD 0) xs.length) := by
    by_cases h : lo.getD 0 ≤ xs.length
    · rw [Nat.min_eq_left h]
    · rw [Nat.min_eq_right (by omega), List.drop_eq_nil_of_le (by simp; omega), List.drop_eq_nil_of_le (by simp; omega)]
  rw [ha]
  generalize hA : min (lo.getD 0) xs.length = a
  by_cases hab : a ≤ B
  · rw [filterMap_range _ _ _ (by omega), List.drop_take]
  · rw [show B - a = 0 by omega]
    simp only [List.range_zero, List.map_nil, List.filterMap_nil]
    rw [List.drop_eq_nil_of_le (by simp; omega)]
theorem slicePick_nat (vs : List Value) (lo hi : Option Nat) :
    slicePick vs.toArray (lo.map Int.ofNat) (hi.map Int.ofNat) none = ((vs.take (hi.getD vs.length)).drop (lo.getD 0)).toArray := by
  have e : slicePick vs.toArray (lo.map Int.ofNat) (hi.map Int.ofNat) none = ((Builtin.Str.strSliceIndices (lo.map Int.ofNat) (hi.map Int.ofNat) 1 vs.toArray.size).filterMap (vs.toArray[·]?)).toArray := rfl
  rw [e]
  simp only [List.size_toArray, List.getElem?_toArray]
  rw [idx_pick]
theorem strSlice_nat (l : List Nat) (lo hi : Option Nat) :
    Txt.slice (tx l) (lo.map Int.ofNat) (hi.map Int.ofNat) = tx ((l.take (hi.getD l.length)).drop (lo.getD 0)) := by
  unfold Txt.slice
  rw [tx_len]
  have e4 : (List.filterMap (fun x => (tx l).cps[x]?) (Builtin.Str.strSliceIndices (lo.map Int.ofNat) (hi.map Int.ofNat) 1 l.length)) = (l.take (hi.getD l.length)).drop (lo.getD 0) := by
    rw [← idx_pick]; simp
  split
  · rename_i h
    simp only [beq_self_eq_true, Bool.true_and, beq_iff_eq] at h
    rw [strIdx_nat, List.length_map, List.length_range] at h
    congr 1
    congr 1
    by_cases hl : l.length = 0
    · have := List.eq_nil_of_length_eq_zero hl; subst this; simp
    · rw [List.take_of_length_le (by omega), show lo.getD 0 = 0 by omega, List.drop_zero]
  · rw [e4]
end

section
open PySem PySem.Spec PySem.Calls PyProof.Rows PySem.W

/-- what the top has left: the written part and the built-in names -/
structure Gl (K : Frag) (h : Heap) : Prop where
  x : K.In h
  g : ∃ mg, h.Ns mainGlobals mg
  b : ∃ mb, h.Ns builtinsNs mb ∧ ∀ x : Str, x ≠ "__name__" → mb x = bootBuiltins x
  lim : h.NoLimit
theorem Gl.keeps {K : Frag} {h h' : Heap} (G : Gl K h) (hk : ∀ b o, h.get? b = some o → h'.get? b = some o) : Gl K h' :=
  ⟨G.x.keeps hk, let ⟨mg, e⟩ := G.g; ⟨mg, e.keeps hk⟩, let ⟨mb, e, f⟩ := G.b; ⟨mb, e.keeps hk, f⟩, G.lim.keeps hk⟩

section
variable {prog : Program} {w : World} {A : Around} {E : Value → Shared → Prop} {own : Bool} {s₀ s : Shared} {env : Env} {m cm : Str → Option Value} {mu : List (Addr × MO)} {fs : List Fact} {K : Frag}

/-! names -/
theorem ev_loc {x : Str} {pos : Pos} {v : Value} {Q : Value → Shared → Prop} (S : St own s₀ env m cm mu fs s) (hv : m x = some v) (h : Q v s)
    (hk : env.scope.kind = .function := by rfl) (hl : env.kindOf x = some .local := by rfl) (hd : (x == ("__debug__" : Str)) = false := by decide) :
    wpAny (model prog w) A (eval (.Name x pos) env) Q E s := wpAny_Name (wpAny_loadName_local hk hl S.ns hv h) hd
theorem ev_cel {x : Str} {pos : Pos} {v : Value} {c : Addr} {Q : Value → Shared → Prop} (S : St own s₀ env m cm mu fs s) (hv : cm x = some v) (h : Q v s)
    (hc : env.cells.lookup x = some c := by rfl) (hk : env.scope.kind = .function := by rfl) (hl : env.kindOf x = some .cell := by rfl) (hd : (x == ("__debug__" : Str)) = false := by decide) :
    wpAny (model prog w) A (eval (.Name x pos) env) Q E s := wpAny_Name (wpAny_loadName_cell hk hl hc (hv ▸ S.cell x c hc) h) hd
theorem ev_glo {x : Str} {pos : Pos} {v : Value} {Q : Value → Shared → Prop} (S : St own s₀ env m cm mu fs s) (G : Gl K s₀.heap) (e : nsIn K mainGlobals x = some (some v)) (h : Q v s)
    (hg : env.globals = mainGlobals := by rfl) (hk : env.scope.kind = .function := by rfl) (hl : env.kindOf x = some .globalImplicit := by rfl) (hd : (x == ("__debug__" : Str)) = false := by decide) :
    wpAny (model prog w) A (eval (.Name x pos) env) Q E s := by
  have G' := G.keeps S.keep
  obtain ⟨mg, hmg⟩ := G'.g
  exact Name_function_global hk hl (loadGlobal_global (env := env) (hg ▸ hmg) (mg_of G'.x hmg e) h) hd
theorem ev_bui {x : Str} {pos : Pos} {v : Value} {Q : Value → Shared → Prop} (S : St own s₀ env m cm mu fs s) (G : Gl K s₀.heap) (e : nsIn K mainGlobals x = some none) (hv : bootBuiltins x = some v) (h : Q v s)
    (hn : x ≠ "__name__" := by decide) (hg : env.globals = mainGlobals := by rfl) (hb : env.builtins = builtinsNs := by rfl) (hk : env.scope.kind = .function := by rfl) (hl : env.kindOf x = some .globalImplicit := by rfl)
    (hd : (x == ("__debug__" : Str)) = false := by decide) :
    wpAny (model prog w) A (eval (.Name x pos) env) Q E s := by
  have G' := G.keeps S.keep
  obtain ⟨mg, hmg⟩ := G'.g
  obtain ⟨mb, hmb, hmb'⟩ := G'.b
  exact Name_function_global hk hl (loadGlobal_builtin (env := env) (hg ▸ hmg) (mg_none_of G'.x hmg e) (hb ▸ hmb) ((hmb' x hn).trans hv) h) hd

/-! stores -/
theorem st_loc {x : Str} {v : Value} {Q : Unit → Shared → Prop} (S : St true s₀ env m cm mu fs s)
    (h : ∀ s', St true s₀ env (fun y => if y = x then some v else m y) cm mu fs s' → Q () s')
    (hk : env.scope.kind = .function := by rfl) (hl : env.kindOf x = some .local := by rfl) : wpAny (model prog w) A (storeName env x v) Q E s :=
  wpAny_storeName_local hl S.ns (fun _ hn hs => h _ (S.store hn hs)) (by rw [hk]; rfl)
theorem st_cel {x : Str} {v : Value} {c : Addr} {Q : Unit → Shared → Prop} (S : St true s₀ env m cm mu fs s)
    (h : ∀ s', St true s₀ env m (fun y => if y = x then some v else cm y) mu fs s' → Q () s')
    (hc : env.cells.lookup x = some c := by rfl) (hk : env.scope.kind = .function := by rfl) (hl : env.kindOf x = some .cell := by rfl) : wpAny (model prog w) A (storeName env x v) Q E s :=
  wpAny_storeName_cell hk hl hc (S.cell x c hc) fun _ hn hs => h _ (S.storeC hc hn hs)

/-! constants -/
theorem ev_int {i : Int} {k : Nat} {pos : Pos} {Q : Value → Shared → Prop} (S : St own s₀ env m cm mu fs s) (h : ∀ s' t, St own s₀ env m cm mu fs s' → Q (.int i t) s') :
    wpAny (model prog w) A (eval (.Constant (.int i) k pos) env) Q E s := wpAny_Constant_int (h _ _ (S.tok _))
theorem ev_str {x : Str} {l : List Nat} {k : Nat} {pos : Pos} {Q : Value → Shared → Prop} (S : St own s₀ env m cm mu fs s) (hx : x = tx l) (h : ∀ s' t, St own s₀ env m cm mu fs s' → Q (.str (tx l) t) s') :
    wpAny (model prog w) A (eval (.Constant (.str x) k pos) env) Q E s := Calls.Constant_str (hx ▸ h _ _ (S.tok _))

/-! ints -/
theorem op_add {a b : Int} {t u : Tok} {Q : Value → Shared → Prop} (S : St own s₀ env m cm mu fs s) (h : ∀ s' t, St own s₀ env m cm mu fs s' → Q (.int (a + b) t) s') : wpAny (model prog w) A (binaryOp .Add (.int a t) (.int b u)) Q E s := add_int (h _ _ (S.tok _))
theorem op_sub {a b : Int} {t u : Tok} {Q : Value → Shared → Prop} (S : St own s₀ env m cm mu fs s) (h : ∀ s' t, St own s₀ env m cm mu fs s' → Q (.int (a - b) t) s') : wpAny (model prog w) A (binaryOp .Sub (.int a t) (.int b u)) Q E s := sub_int (h _ _ (S.tok _))
theorem op_mul {a b : Int} {t u : Tok} {Q : Value → Shared → Prop} (S : St own s₀ env m cm mu fs s) (hm : IntMulOk a b) (h : ∀ s' t, St own s₀ env m cm mu fs s' → Q (.int (a * b) t) s') : wpAny (model prog w) A (binaryOp .Mult (.int a t) (.int b u)) Q E s := mul_int (h _ _ (S.tok _)) hm
theorem op_mod {a b : Int} {t u : Tok} {Q : Value → Shared → Prop} (S : St own s₀ env m cm mu fs s) (hb : b ≠ 0) (h : ∀ s' t, St own s₀ env m cm mu fs s' → Q (.int (a.fmod b) t) s') : wpAny (model prog w) A (binaryOp .Mod (.int a t) (.int b u)) Q E s := mod_int' hb (h _ _ (S.tok _))
theorem op_div {a b : Int} {t u : Tok} {Q : Value → Shared → Prop} (S : St own s₀ env m cm mu fs s) (hb : b ≠ 0) (hp : Builtin.divisionGoesByPylong a b = false) (h : ∀ s' t, St own s₀ env m cm mu fs s' → Q (.int (a.fdiv b) t) s') : wpAny (model prog w) A (binaryOp .FloorDiv (.int a t) (.int b u)) Q E s :=
  floordiv_int hb (h _ _ (S.tok _)) (.inl hp)
theorem op_neg {a : Int} {t : Tok} {Q : Value → Shared → Prop} (S : St own s₀ env m cm mu fs s) (h : ∀ s' t, St own s₀ env m cm mu fs s' → Q (.int (-a) t) s') : wpAny (model prog w) A (unaryOp .USub (.int a t)) Q E s := P.neg_int (h _ _ (S.tok _))
theorem ev_neg {e : Expr} {pos : Pos} {Q : Value → Shared → Prop} (h : wpAny (model prog w) A (eval e env) (fun v s₁ => wpAny (model prog w) A (unaryOp .USub v) Q E s₁) E s) :
    wpAny (model prog w) A (eval (.UnaryOp .USub e pos) env) Q E s := by
  rw [arm_eval_UnaryOp]
  exact wpAny_bind (wpAny_mono h (fun v s₁ h₁ => wpAny_bind (wpAny_standAt (wpAny_holding h₁))) fun _ _ e => e)

/-! texts -/
theorem op_cat {x y : List Nat} {t u : Tok} {Q : Value → Shared → Prop} (S : St own s₀ env m cm mu fs s) (hz : x.length + y.length ≤ sizeLine) (h : ∀ s' t, St own s₀ env m cm mu fs s' → Q (.str (tx (x ++ y)) t) s') :
    wpAny (model prog w) A (binaryOp .Add (.str (tx x) t) (.str (tx y) u)) Q E s :=
  SB.add (fun t' k => by rw [tx_app]; exact h _ _ (S.tok k)) (by rw [tx_len, tx_len]; exact hz)
theorem tx_beq (x y : List Nat) : ((tx x) == (tx y)) = decide (x = y) := by
  by_cases h : x = y
  · subst h; simp
  · simp only [h, decide_false]
    rw [beq_eq_false_iff_ne]; intro e; exact h (tx_inj e)
theorem op_seq {x y : List Nat} {t u : Tok} {Q : Value → Shared → Prop} (h : Q (.bool (decide (x = y))) s) : wpAny (model prog w) A (compareOp .Eq (.str (tx x) t) (.str (tx y) u)) Q E s :=
  eq_str (by rw [tx_beq]; exact h)
theorem op_sne {x y : List Nat} {t u : Tok} {Q : Value → Shared → Prop} (h : Q (.bool (!decide (x = y))) s) : wpAny (model prog w) A (compareOp .NotEq (.str (tx x) t) (.str (tx y) u)) Q E s :=
  ne_str (by rw [show ((tx x) != (tx y)) = !((tx x) == (tx y)) from rfl, tx_beq]; exact h)
theorem len_tx {x : List Nat} {t : Tok} {Q : Value → Shared → Prop} (S : St own s₀ env m cm mu fs s) (hz : x.length ≤ sizeLine) (h : ∀ s' t, St own s₀ env m cm mu fs s' → Q (.int x.length t) s') :
    wpAny (model prog w) A (call (.builtin "len") [.str (tx x) t]) Q E s := by
  rw [sizeLine_eq] at hz
  refine SBL.len (by rw [tx_len]; omega) ?_
  rw [tx_len]; exact h _ _ (S.tok _)
end

/-! subscripts -/
section
variable {prog : Program} {w : World} {A : Around} {E : Value → Shared → Prop} {own : Bool} {s₀ s : Shared} {env : Env} {m cm : Str → Option Value} {mu : List (Addr × MO)} {fs : List Fact} {K : Frag} {value slice : Expr}

/-- an item of a list -/
theorem tl_item {l : Addr} {vs : List Value} {k : Nat} {i : Int} {u : Tok} {v : Value} {Q : Value → Shared → Prop} (hl : s.heap.IsList l vs.toArray) (hk : i = k) (hb : k < 2 ^ 63) (hv : vs[k]? = some v) (h : Q v s)
    (hs : subscripted slice false (.ref l) (.int i u) = operate [.ref l, .int i u] (getItem (.ref l) (.int i u)) := by with_unfolding_all rfl) :
    wpAny (model prog w) A (subscriptTail value slice (.ref l) (.int i u)) Q E s := by
  subst hk
  exact tail_any hl.typeIs list_getitem_lookup (wpAny_getItem_list hl (Int.natCast_nonneg _) (by omega) (by simpa using hv) h) hs
/-- the last item of a list -/
theorem tl_last {l : Addr} {vs : List Value} {i : Int} {u : Tok} {v : Value} {Q : Value → Shared → Prop} (hl : s.heap.IsList l (vs ++ [v]).toArray) (hi : i = -1) (h : Q v s)
    (hs : subscripted slice false (.ref l) (.int i u) = operate [.ref l, .int i u] (getItem (.ref l) (.int i u)) := by with_unfolding_all rfl) :
    wpAny (model prog w) A (subscriptTail value slice (.ref l) (.int i u)) Q E s := by
  subst hi
  refine tail_any hl.typeIs list_getitem_lookup (wpAny_getItem_list_neg (x := v) hl (by decide) ?_ (by decide) ?_ h) hs
  · simp; omega
  · have : ((-1 : Int) + ((vs ++ [v]).toArray.size : Int)).toNat = vs.length := by simp; omega
    rw [this]; simp
/-- a sign of a text -/
theorem tl_char {x : List Nat} {t : Tok} {k : Nat} {i : Int} {u : Tok} {c : Nat} {Q : Value → Shared → Prop} (S : St own s₀ env m cm mu fs s) (hk : i = k) (hz : x.length ≤ sizeLine) (hc : x[k]? = some c)
    (h : ∀ s' t, St own s₀ env m cm mu fs s' → Q (.str (tx [c]) t) s')
    (hs : subscripted slice false (.str (tx x) t) (.int i u) = operate [.str (tx x) t, .int i u] (getItem (.str (tx x) t) (.int i u)) := by with_unfolding_all rfl) :
    wpAny (model prog w) A (subscriptTail value slice (.str (tx x) t) (.int i u)) Q E s := by
  subst hk
  rw [sizeLine_eq] at hz
  have hlt : k < x.length := (List.getElem?_eq_some_iff.mp hc).1
  have hsq : seqIndex? (k : Int) x.length = some k := by
    unfold seqIndex?
    have h1 : ¬ ((k : Int) < 0) := by omega
    have h2 : (k : Int) < (x.length : Int) := by omega
    simp [h1, hlt]
  have he : Txt.item (tx x) (k : Int) = tx [c] := by
    unfold Txt.item Txt.charAt
    simp [Str.length, hsq, hc]
  have hch : (Txt.charAt (tx x) (k : Int)).isSome = true := by
    unfold Txt.charAt; simp [Str.length, hsq, hc]
  obtain ⟨T, id, hl, hT, hg⟩ := SB.item (prog := prog) (w := w) (A := A) (E := E) (s := s) (x := tx x) (t := t) (u := u) (i := (k : Int)) (Q := Q) (fitsSsize_of (N := 9223372036854775808) (by omega) (by omega) (Int.le_refl _)) hch (by rw [he]; exact h _ _ (S.tok _))
  exact tail_any hT hl hg hs

theorem Heap.push_keeps (h : Heap) (o : Obj) : ∀ b ob, h.get? b = some ob → (h.push o).get? b = some ob := fun _ _ e => Heap.get?_push_of_some _ e

/-- a cut of a text: e[i:j], e[:j], e[i:] -/
theorem tl_cut {x : List Nat} {t : Tok} {vl vu : Value} {lo hi : Option Nat} {Q : Value → Shared → Prop} (S : St own s₀ env m cm mu fs s) (pl : IsPart vl (lo.map Int.ofNat)) (pu : IsPart vu (hi.map Int.ofNat)) (hz : x.length ≤ sizeLine)
    (h : ∀ s' t, St own s₀ env m cm mu fs s' → Q (.str (tx ((x.take (hi.getD x.length)).drop (lo.getD 0))) t) s')
    (hs : subscripted slice false (.str (tx x) t) (.ref s.heap.objs.size) = operate [.ref s.heap.objs.size, .str (tx x) t] (getItem (.str (tx x) t) (.ref s.heap.objs.size)) := by with_unfolding_all rfl) :
    wpAny (model prog w) A (subscriptTail value slice (.str (tx x) t) (.ref s.heap.objs.size)) Q E { s with heap := s.heap.push { cls := .type "slice", data := .fields #[vl, vu, .none] } } := by
  have fin : ∀ (s' : Shared) t', s' = { s with heap := s.heap.push { cls := .type "slice", data := .fields #[vl, vu, .none] }, toks := s'.toks } → Q (.str (Txt.slice (tx x) (lo.map Int.ofNat) (hi.map Int.ofNat)) t') s' := by
    intro s' t' e
    rw [strSlice_nat, e]
    exact h _ _ (S.grow _ (Heap.push_keeps _ _))
  have hlen : (Txt.slice (tx x) (lo.map Int.ofNat) (hi.map Int.ofNat)).length ≤ sizeLine := Nat.le_trans (Txt.slice_le _ _ _) (by rw [tx_len]; exact hz)
  refine tail_any (T := "str") (typeIs_str _ _ _) F.slot_str_getitem.lookup ?_ hs
  cases lo with
  | none =>
    cases pl
    cases hi with
    | none => cases pu; exact wpAny_getItem_str_slice (l := none) (u := none) (st := none) ⟨_, Heap.get?_push_size _ rfl, rfl, rfl⟩ rfl (post_val_or_str ⟨hlen, fun t' k => fin _ t' rfl⟩)
    | some j => cases pu with | int j tj => exact wpAny_getItem_str_slice (l := none) (u := some (_, tj)) (st := none) ⟨_, Heap.get?_push_size _ rfl, rfl, rfl⟩ rfl (post_val_or_str ⟨hlen, fun t' k => fin _ t' rfl⟩)
  | some i =>
    cases pl with
    | int i ti =>
    cases hi with
    | none => cases pu; exact wpAny_getItem_str_slice (l := some (_, ti)) (u := none) (st := none) ⟨_, Heap.get?_push_size _ rfl, rfl, rfl⟩ rfl (post_val_or_str ⟨hlen, fun t' k => fin _ t' rfl⟩)
    | some j => cases pu with | int j tj => exact wpAny_getItem_str_slice (l := some (_, ti)) (u := some (_, tj)) (st := none) ⟨_, Heap.get?_push_size _ rfl, rfl, rfl⟩ rfl (post_val_or_str ⟨hlen, fun t' k => fin _ t' rfl⟩)

/-- a cut of a list -/
theorem tl_cutL {l : Addr} {vs : List Value} {vl vu : Value} {lo hi : Option Nat} {Q : Value → Shared → Prop} (S : St own s₀ env m cm mu fs s) (hl : s.heap.IsList l vs.toArray) (pl : IsPart vl (lo.map Int.ofNat)) (pu : IsPart vu (hi.map Int.ofNat)) (hz : vs.length ≤ sizeLine)
    (h : ∀ a s', s.heap.get? a = none → St own s₀ env m cm mu fs s' → (∀ b o, s.heap.get? b = some o → s'.heap.get? b = some o) → s'.heap.get? a = some (lst ((vs.take (hi.getD vs.length)).drop (lo.getD 0)) 0) → Q (.ref a) s')
    (hs : subscripted slice false (.ref l) (.ref s.heap.objs.size) = operate [.ref s.heap.objs.size, .ref l] (getItem (.ref l) (.ref s.heap.objs.size)) := by with_unfolding_all rfl) :
    wpAny (model prog w) A (subscriptTail value slice (.ref l) (.ref s.heap.objs.size)) Q E { s with heap := s.heap.push { cls := .type "slice", data := .fields #[vl, vu, .none] } } := by
  refine tail_any (Heap.IsList.typeIs (s := { s with heap := s.heap.push { cls := .type "slice", data := .fields #[vl, vu, .none] } }) (hl.push _)) list_getitem_lookup
    (wpAny_getItem_list_slice (hl.push _) (Heap.IsSliceOf.new ..) pl pu .none (by simp) ?_ (by simpa using hz)) hs
  show Q (.ref (s.heap.push _).objs.size) _
  rw [Heap.size_push, slicePick_nat]
  have hn : s.heap.get? (s.heap.objs.size + 1) = none := by
    cases e : s.heap.get? (s.heap.objs.size + 1) with
    | none => rfl
    | some o => exact absurd (Heap.lt_size e) (Nat.not_lt.mpr (Nat.le_succ _))
  have hk : ∀ b o, s.heap.get? b = some o → ((s.heap.push { cls := .type "slice", data := .fields #[vl, vu, .none] }).push { cls := .type "list", data := .seq ((vs.take (hi.getD vs.length)).drop (lo.getD 0)).toArray }).get? b = some o :=
    fun b o e => Heap.get?_push_of_some _ (Heap.get?_push_of_some _ e)
  refine h _ _ hn (S.grow s.toks hk) hk ?_
  have := Heap.get?_push_size (s.heap.push { cls := .type "slice", data := .fields #[vl, vu, .none] }) (o := { cls := .type "list", data := .seq ((vs.take (hi.getD vs.length)).drop (lo.getD 0)).toArray }) rfl
  rw [Heap.size_push] at this
  exact this
end
end

section
open PySem PySem.Spec PySem.Calls PyProof.Rows PySem.W

section
variable {prog : Program} {w : World} {A : Around} {E : Value → Shared → Prop} {own : Bool} {s₀ s : Shared} {env : Env} {m cm : Str → Option Value} {mu : List (Addr × MO)} {fs : List Fact} {K : Frag}

theorem St.setL0 {a : Addr} {us vs : MO} {h' : Heap} {t : Nat} (S : St true s₀ env m cm ((a, us) :: mu) fs s) (ho : vs.At h' a) (hs : Heap.SameBut a s.heap h') :
    St true s₀ env m cm ((a, vs) :: mu) fs { s with heap := h', toks := t } := by
  have := S.setL (t := t) (List.mem_cons_self) ho hs
  rwa [setM_head] at this
  have h2 := S.apart
  simp only [XS, if_true, List.map_cons, List.nodup_cons] at h2
  have h3 := (List.nodup_append.mp h2.2).2.1
  exact (List.nodup_cons.mp h3).1
theorem St.ne01 {a b : Addr} {us vs : MO} (S : St true s₀ env m cm ((b, vs) :: (a, us) :: mu) fs s) : b ≠ a ∧ a ∉ mu.map (·.1) := by
  have h2 := S.apart
  simp only [XS, if_true, List.map_cons, List.nodup_cons] at h2
  have h3 := (List.nodup_append.mp h2.2).2.1
  have h4 := List.nodup_cons.mp h3
  refine ⟨fun e => h4.1 (by rw [e]; exact List.mem_cons_self), (List.nodup_cons.mp h4.2).1⟩
theorem St.setL1 {a b : Addr} {us vs ws : MO} {h' : Heap} {t : Nat} (S : St true s₀ env m cm ((b, ws) :: (a, us) :: mu) fs s) (ho : vs.At h' a) (hs : Heap.SameBut a s.heap h') :
    St true s₀ env m cm ((b, ws) :: (a, vs) :: mu) fs { s with heap := h', toks := t } := by
  have := S.setL (t := t) (a := a) (us := us) (by simp) ho hs
  rwa [setM_tail S.ne01.1, setM_head S.ne01.2] at this

/-! a new list -/
theorem nl_dat {vs : List Value} {xs : List PyData} {Q : Value → Shared → Prop} (S : St own s₀ env m cm mu fs s) (hz : vs.length ≤ sizeLine)
    (r : RdAll s.heap (fun a => a ∉ XS own env mu ∧ s₀.heap.get? a = none) vs xs)
    (h : ∀ a s', St own s₀ env m cm mu (.nw (.ref a) (.list xs) :: fs) s' → Q (.ref a) s') : wpAny (model prog w) A (newList vs) Q E s := by
  refine wpAny_newObj_type (h _ _ (S.growDX s.toks (Heap.push_keeps _ _) ?_)) (by show vs.toArray.size ≤ sizeLine; rw [List.size_toArray]; exact hz)
  have hn : s.heap.get? s.heap.objs.size = none := by
    cases e : s.heap.get? s.heap.objs.size with
    | none => rfl
    | some o => exact absurd (Heap.lt_size e) (Nat.lt_irrefl _)
  exact .list (.inl hn) (Heap.get?_push_size _ rfl) (r.mono (fun b o _ e => Heap.get?_push_of_some _ e) fun b o p _ => .inr p)
theorem nl_mut {vs : List Value} {Q : Value → Shared → Prop} (S : St true s₀ env m cm mu fs s) (hz : vs.length ≤ sizeLine)
    (h : ∀ a s', St true s₀ env m cm ((a, MO.l vs) :: mu) fs s' → Q (.ref a) s') : wpAny (model prog w) A (newList vs) Q E s := by
  have hn : s.heap.get? s.heap.objs.size = none := by
    cases e : s.heap.get? s.heap.objs.size with
    | none => rfl
    | some o => exact absurd (Heap.lt_size e) (Nat.lt_irrefl _)
  exact wpAny_newObj_type (h _ _ (S.growM s.toks (Heap.push_keeps _ _) hn ⟨_, Heap.get?_push_size _ rfl⟩)) (by show vs.toArray.size ≤ sizeLine; rw [List.size_toArray]; exact hz)

/-! the methods of a list -/
theorem upd_list {h : Heap} {l : Addr} {vs : List Value} {n : Nat} (ho : h.get? l = some (lst vs n)) (f : Array Value → Array Value) (us : List Value) (he : f vs.toArray = us.toArray) :
    ∃ n', (h.update l (Obj.mapSeq f)).get? l = some (lst us n') := by
  refine ⟨if us.toArray.size == vs.toArray.size then n else n + 1, ?_⟩
  have e := Heap.get?_update_self (Obj.mapSeq f) ho rfl
  rw [e]
  show some (⟨_, _, .seq (f vs.toArray) (if (f vs.toArray).size == vs.toArray.size then n else n + 1), _⟩ : Obj) = _
  rw [he]

theorem c_append0 {a : Addr} {us : List Value} {v : Value} {Q : Value → Shared → Prop} (S : St true s₀ env m cm ((a, MO.l us) :: mu) fs s) (hz : us.length ≤ sizeLine)
    (h : ∀ s', St true s₀ env m cm ((a, MO.l (us ++ [v])) :: mu) fs s' → Q .none s') : wpAny (model prog w) A (call (.builtin "list.append") [.ref a, v]) Q E s := by
  refine wpAny_list_append_plain (S.list (List.mem_cons_self)) (fun h' hl hs => ?_) (by simpa using hz)
  obtain ⟨n, hn⟩ := hl
  exact h _ (S.setL0 (t := s.toks) ⟨n, by rw [hn]; simp⟩ hs)
theorem c_append1 {a b : Addr} {us ws : List Value} {v : Value} {Q : Value → Shared → Prop} (S : St true s₀ env m cm ((b, MO.l ws) :: (a, MO.l us) :: mu) fs s) (hz : us.length ≤ sizeLine)
    (h : ∀ s', St true s₀ env m cm ((b, MO.l ws) :: (a, MO.l (us ++ [v])) :: mu) fs s' → Q .none s') : wpAny (model prog w) A (call (.builtin "list.append") [.ref a, v]) Q E s := by
  refine wpAny_list_append_plain (S.list (a := a) (vs := us) (by simp)) (fun h' hl hs => ?_) (by simpa using hz)
  obtain ⟨n, hn⟩ := hl
  exact h _ (S.setL1 (t := s.toks) ⟨n, by rw [hn]; simp⟩ hs)

theorem pop_raw {a : Addr} {us : List Value} {v : Value} {n : Nat} {Q : Value → Shared → Prop} (ho : s.heap.get? a = some (lst (us ++ [v]) n)) (hz : us.length + 1 ≤ sizeLine)
    (h : ∀ h' n', h'.get? a = some (lst us n') → Heap.SameBut a s.heap h' → Q v { s with heap := h' }) : wpAny (model prog w) A (call (.builtin "list.pop") [.ref a]) Q E s := by
  have hz' : (us ++ [v]).toArray.size ≤ sizeLine := by rw [List.size_toArray]; simpa using hz
  have hk : (us ++ [v]).toArray.size - 1 = us.length := by rw [List.size_toArray, List.length_append]; rfl
  have hy : (us ++ [v]).toArray[(us ++ [v]).toArray.size - 1]? = some v := by rw [hk]; simp
  have he : (us ++ [v]).toArray.eraseIdxIfInBounds ((us ++ [v]).toArray.size - 1) = us.toArray := by rw [hk, kl_erase, List.append_nil]
  obtain ⟨n', hn'⟩ := upd_list ho (fun x => x.eraseIdxIfInBounds ((us ++ [v]).toArray.size - 1)) us he
  exact call_meets PySem.F.slot_list_pop ⟨_, ho, rfl⟩ PySem.F.entry_list_pop (PySem.F.args_list_pop_1 _) (PySem.MeetsSeq.list_pop_last a _ n v hy hz') ⟨ho, h _ n' hn' (Heap.SameBut.update ..)⟩
theorem c_pop0 {a : Addr} {us : List Value} {v : Value} {Q : Value → Shared → Prop} (S : St true s₀ env m cm ((a, MO.l (us ++ [v])) :: mu) fs s) (hz : us.length + 1 ≤ sizeLine)
    (h : ∀ s', St true s₀ env m cm ((a, MO.l us) :: mu) fs s' → Q v s') : wpAny (model prog w) A (call (.builtin "list.pop") [.ref a]) Q E s := by
  obtain ⟨n, ho⟩ := S.muts _ List.mem_cons_self
  exact pop_raw ho hz fun h' n' e hs => h _ (S.setL0 (t := s.toks) ⟨_, e⟩ hs)
theorem c_pop1 {a b : Addr} {us ws : List Value} {v : Value} {Q : Value → Shared → Prop} (S : St true s₀ env m cm ((b, MO.l ws) :: (a, MO.l (us ++ [v])) :: mu) fs s) (hz : us.length + 1 ≤ sizeLine)
    (h : ∀ s', St true s₀ env m cm ((b, MO.l ws) :: (a, MO.l us) :: mu) fs s' → Q v s') : wpAny (model prog w) A (call (.builtin "list.pop") [.ref a]) Q E s := by
  obtain ⟨n, ho⟩ := S.muts (a, MO.l (us ++ [v])) (by simp)
  exact pop_raw ho hz fun h' n' e hs => h _ (S.setL1 (t := s.toks) ⟨_, e⟩ hs)

theorem c_extend0 {a b : Addr} {us ws : List Value} {n2 : Nat} {Q : Value → Shared → Prop} (S : St true s₀ env m cm ((a, MO.l us) :: mu) fs s) (hb : s.heap.get? b = some (lst ws n2)) (hz : us.length + ws.length ≤ sizeLine)
    (h : ∀ s', St true s₀ env m cm ((a, MO.l (us ++ ws)) :: mu) fs s' → Q .none s') : wpAny (model prog w) A (call (.builtin "list.extend") [.ref a, .ref b]) Q E s := by
  obtain ⟨n, ho⟩ := S.muts _ List.mem_cons_self
  obtain ⟨n', hn'⟩ := upd_list ho (fun x => x ++ ws.toArray) (us ++ ws) (by simp)
  refine call_meets PySem.F.slot_list_extend ⟨_, ho, rfl⟩ PySem.F.entry_list_extend (PySem.F.args_list_extend_2 _ _) (PySem.AutoSeq1.list_extend_list_list_0 a us.toArray n b ws.toArray n2 (extend_door (by simpa using hz)) (by simp; omega) (by simp; omega)) ⟨ho, hb, h _ (S.setL0 (t := s.toks) ⟨n', ?_⟩ (Heap.SameBut.update ..))⟩
  exact hn'

theorem setItem_raw {a : Addr} {us : List Value} {k : Nat} {i : Int} {t : Tok} {v : Value} {n : Nat} {Q : Unit → Shared → Prop} (ho : s.heap.get? a = some (lst us n)) (hi : i = k) (hk : k < us.length) (hb : k < 2 ^ 63)
    (h : ∀ h' n', h'.get? a = some (lst (us.set k v) n') → Heap.SameBut a s.heap h' → Q () { s with heap := h' }) : wpAny (model prog w) A (setItem (.ref a) (.int i t) v) Q E s := by
  subst hi
  obtain ⟨n', hn'⟩ := upd_list ho (fun x => x.setIfInBounds (k : Int).toNat v) (us.set k v) (by simp)
  exact ki_setAt (n := n) ho (Int.natCast_nonneg _) (by omega) (by simp; omega) (h _ n' hn' (Heap.SameBut.update ..))
theorem c_set0 {a : Addr} {us : List Value} {k : Nat} {i : Int} {t : Tok} {v : Value} {Q : Unit → Shared → Prop} (S : St true s₀ env m cm ((a, MO.l us) :: mu) fs s) (hi : i = k) (hk : k < us.length) (hb : k < 2 ^ 63)
    (h : ∀ s', St true s₀ env m cm ((a, MO.l (us.set k v)) :: mu) fs s' → Q () s') : wpAny (model prog w) A (setItem (.ref a) (.int i t) v) Q E s := by
  obtain ⟨n, ho⟩ := S.muts _ List.mem_cons_self
  exact setItem_raw ho hi hk hb fun h' n' e hs => h _ (S.setL0 (t := s.toks) ⟨_, e⟩ hs)

/-! functions of lists -/
theorem c_lenL {l : Addr} {vs : List Value} {Q : Value → Shared → Prop} (S : St own s₀ env m cm mu fs s) (hl : s.heap.IsList l vs.toArray) (hz : vs.length ≤ sizeLine) (h : ∀ s' t, St own s₀ env m cm mu fs s' → Q (.int vs.length t) s') :
    wpAny (model prog w) A (call (.builtin "len") [.ref l]) Q E s := by
  rw [sizeLine_eq] at hz
  refine len_list hl (by simp; omega) ?_
  have := h _ (s.toks + 1) (S.tok (s.toks + 1 + 1))
  simpa using this

noncomputable def allNews (h : Heap) (L : Addr) : List (Addr × Obj) := (List.range h.objs.size).filterMap fun b => if b = L then none else (h.get? b).map (Prod.mk b)
theorem mem_allNews {h : Heap} {L b : Addr} {o : Obj} : (b, o) ∈ allNews h L ↔ b ≠ L ∧ h.get? b = some o := by
  unfold allNews
  rw [List.mem_filterMap]
  constructor
  · rintro ⟨c, _, e⟩
    split at e
    · cases e
    · rename_i hne
      obtain ⟨x, hx, e⟩ := Option.map_eq_some_iff.mp e
      cases e; exact ⟨hne, hx⟩
  · rintro ⟨hne, e⟩
    exact ⟨b, List.mem_range.mpr (Heap.lt_size e), by rw [if_neg hne, e]; rfl⟩
theorem get?_empty (b : Addr) : ({} : Heap).get? b = none := by
  simp [Heap.get?]
theorem St.fr (S : St own s₀ env m cm mu fs s) : Fr {} env.locals s.heap m := ⟨S.ns, fun b o e => by (rw [get?_empty] at e; cases e), Nat.zero_le _⟩
theorem St.news (_S : St own s₀ env m cm mu fs s) : News {} env.locals s.heap (allNews s.heap env.locals) := fun p hp => by
  obtain ⟨h1, h2⟩ := mem_allNews.mp (show (p.1, p.2) ∈ _ from hp)
  exact ⟨h2, h1, get?_empty _⟩
/-- by the library's rules of a frame and its ledger -/
theorem St.ofFr (S : St true s₀ env m cm mu fs s) {h' : Heap} {t : Nat} (F : Fr {} env.locals h' m) (N : News {} env.locals h' (allNews s.heap env.locals)) : St true s₀ env m cm mu fs { s with heap := h', toks := t } := by
  have hk : ∀ b o, b ≠ env.locals → s.heap.get? b = some o → h'.get? b = some o := fun b o hb e => (N (b, o) (mem_allNews.mpr ⟨hb, e⟩)).1
  have hX := mem_XS_loc env mu
  refine ⟨let ⟨h, _, e⟩ := S.same; ⟨h', t, by rw [e]⟩, F.ns, fun b o e => hk b o ?_ (S.keep b o e), fun n c e => ?_, fun p hp => ?_, fun b hb => ?_, S.new, S.apart, fun f hf => ?_⟩
  · rintro rfl; rw [S.new _ hX] at e; cases e
  · obtain ⟨o, h1, h2⟩ := S.cell n c e; exact ⟨o, hk _ _ (S.loc_ne_cell e) h1, h2⟩
  · exact (S.muts p hp).mono fun o e => hk _ _ (S.loc_ne_mut (vs := p.2) hp) e
  · by_cases e : b = env.locals
    · subst e; obtain ⟨o, _, _, e, _⟩ := F.ns; exact ⟨o, e⟩
    · obtain ⟨o, eo⟩ := S.live b hb; exact ⟨o, hk _ _ e eo⟩
  · exact (S.facts f hf).mono (fun b o hb e => hk b o (fun e' => hb (e' ▸ hX)) e) fun b o hb _ => hb

theorem c_sum {l : Addr} {vs : List Value} {ns : List Int} {Q : Value → Shared → Prop} (S : St true s₀ env m cm mu fs s) (hh : A.handled = none) (hl : s.heap.IsList l vs.toArray) (hi : IntsAre vs ns)
    (h : ∀ s' t, St true s₀ env m cm mu fs s' → Q (.int ns.sum t) s') : wpAny (model prog w) A (call (.builtin "sum") [.ref l]) Q E s :=
  sumK hh S.fr S.news hl hi fun h' tk t' F N => h _ _ (S.ofFr F N)
theorem c_min {l : Addr} {vs : List Value} {ns : List Int} {Q : Value → Shared → Prop} (S : St true s₀ env m cm mu fs s) (hh : A.handled = none) (hl : s.heap.IsList l vs.toArray) (hi : IntsAre vs ns) (hne : 0 < ns.length)
    (h : ∀ s' M t, M ∈ ns → (∀ a ∈ ns, M ≤ a) → St true s₀ env m cm mu fs s' → Q (.int M t) s') : wpAny (model prog w) A (call (.builtin "min") [.ref l]) Q E s :=
  min_list_N hh S.fr S.news hl hi hne fun h' M t tk F N h1 h2 => h _ M t h1 h2 (S.ofFr F N)
theorem c_min2 {a b : Int} {t u : Tok} {Q : Value → Shared → Prop} (S : St own s₀ env m cm mu fs s) (hh : A.handled = none) (h : ∀ s' t, St own s₀ env m cm mu fs s' → Q (.int (min a b) t) s') :
    wpAny (model prog w) A (call (.builtin "min") [.int a t, .int b u]) Q E s :=
  min_two_ints hh fun h' tk hk => by
    split
    · rename_i hab; have := h _ u (S.grow tk hk); rwa [Int.min_eq_right (by omega)] at this
    · rename_i hab; have := h _ t (S.grow tk hk); rwa [Int.min_eq_left (by omega)] at this
theorem c_max2 {a b : Int} {t u : Tok} {Q : Value → Shared → Prop} (S : St own s₀ env m cm mu fs s) (hh : A.handled = none) (h : ∀ s' t, St own s₀ env m cm mu fs s' → Q (.int (max a b) t) s') :
    wpAny (model prog w) A (call (.builtin "max") [.int a t, .int b u]) Q E s :=
  max_two_ints hh fun h' tk hk => by
    split
    · rename_i hab; have := h _ u (S.grow tk hk); rwa [Int.max_eq_right (by omega)] at this
    · rename_i hab; have := h _ t (S.grow tk hk); rwa [Int.max_eq_left (by omega)] at this
theorem c_index {l : Addr} {vs : List Value} {ns : List Int} {k : Int} {t : Tok} {Q : Value → Shared → Prop} (S : St own s₀ env m cm mu fs s) (hl : s.heap.IsList l vs.toArray) (hi : IntsAre vs ns) (hlay : PyData.layable0 (.list (ns.map .int)) = true) (hk : k ∈ ns)
    (h : ∀ s' t, St own s₀ env m cm mu fs s' → Q (.int (ns.idxOf k) t) s') : wpAny (model prog w) A (call (.builtin "list.index") [.ref l, .int k t]) Q E s :=
  index_list_ints hl hi hlay hk (h _ _ (S.tok _))

/-- list + list, for data -/
theorem op_addL {l b : Addr} {vs ws : List Value} {xs : List PyData} {Q : Value → Shared → Prop} (S : St true s₀ env m cm mu fs s) (hl : s.heap.IsList l vs.toArray) (hb : s.heap.IsList b ws.toArray) (hz : vs.length + ws.length ≤ sizeLine)
    (r : RdAll s.heap (fun a => a ∉ XS true env mu ∧ s₀.heap.get? a = none) (vs ++ ws) xs)
    (h : ∀ a s', St true s₀ env m cm mu (.nw (.ref a) (.list xs) :: fs) s' → Q (.ref a) s') : wpAny (model prog w) A (binaryOp .Add (.ref l) (.ref b)) Q E s := by
  refine add_arrays S.fr S.news hl hb (fun h' F N => ?_) (by simpa using hz)
  have S' := S.ofFr (t := s.toks) F fun p hp => N p (List.mem_cons_of_mem _ hp)
  have ho := (N _ List.mem_cons_self).1
  have hL := (N _ List.mem_cons_self).2.1
  have hn : s.heap.get? s.heap.objs.size = none := by
    cases e : s.heap.get? s.heap.objs.size with
    | none => rfl
    | some o => exact absurd (Heap.lt_size e) (Nat.lt_irrefl _)
  refine h _ _ (S'.add (f := .nw (.ref s.heap.objs.size) (.list xs)) ?_)
  refine .list ⟨notin_of_none S.live hn, ?_⟩ (vs := vs ++ ws) (n := 0) (by rw [ho]) (r.mono (fun b o p e => ?_) fun b o p _ => p)
  · cases e : s₀.heap.get? s.heap.objs.size with
    | none => rfl
    | some o' => rw [S.keep _ o' e] at hn; cases hn
  · exact (N (b, o) (List.mem_cons_of_mem _ (mem_allNews.mpr ⟨fun e' => p.1 (e' ▸ mem_XS_loc env mu), e⟩))).1

theorem rep_flat (v : Value) (k : Nat) : List.foldl (fun x1 x2 => x1 ++ x2) (#[] : Array Value) (List.replicate k #[v]) = (List.replicate k v).toArray := by
  have : ∀ (acc : Array Value), List.foldl (fun x1 x2 => x1 ++ x2) acc (List.replicate k #[v]) = acc ++ (List.replicate k v).toArray := by
    induction k with
    | zero => intro acc; simp
    | succ k ih => intro acc; rw [List.replicate_succ, List.foldl_cons, ih, List.replicate_succ]; apply Array.toList_inj.mp; simp
  simpa using this #[]
/-- [v] * k -/
theorem op_rep {l : Addr} {v : Value} {k n : Nat} {i : Int} {u : Tok} {Q : Value → Shared → Prop} (S : St true s₀ env m cm mu fs s) (hl : s.heap.get? l = some (lst [v] n)) (hi : i = k) (hz : k ≤ 2 ^ 24)
    (h : ∀ a s', s.heap.get? a = none → St true s₀ env m cm mu fs s' → s'.heap.get? a = some (lst (List.replicate k v) 0) → (∀ b o, b ≠ env.locals → s.heap.get? b = some o → s'.heap.get? b = some o) → Q (.ref a) s') :
    wpAny (model prog w) A (binaryOp .Mult (.ref l) (.int i u)) Q E s := by
  subst hi
  refine mul_list S.fr S.news hl (by omega) (by omega) (by simp; omega) fun h' F N => ?_
  have S' := S.ofFr (t := s.toks) F fun p hp => N p (List.mem_cons_of_mem _ hp)
  have ho := (N _ List.mem_cons_self).1
  have hn : s.heap.get? s.heap.objs.size = none := by
    cases e : s.heap.get? s.heap.objs.size with
    | none => rfl
    | some o => exact absurd (Heap.lt_size e) (Nat.lt_irrefl _)
  refine h _ _ hn S' ?_ fun b o hb e => (N (b, o) (List.mem_cons_of_mem _ (mem_allNews.mpr ⟨hb, e⟩))).1
  show h'.get? s.heap.objs.size = _
  rw [ho]
  have e1 : (if ([v].toArray : Array Value).isEmpty = true then 0 else (k : Int).toNat) = k := by simp
  rw [e1, rep_flat]
end
end

section
open PySem PySem.Spec PySem.Calls PyProof.Rows PySem.W

/-- what an iteration over a value gives: n items, the i-th as P says; R: what else it looks at -/
noncomputable def Iter (prog : Program) (w : World) (A : Around) (xv : Value) (n : Nat) (P : Nat → Value → Prop) (R : List Addr) (s : Shared) : Prop :=
  ∀ (Q : Value → Shared → Prop) (E : Value → Shared → Prop),
    (∀ (I : Addr) (fp : List Addr) (h' : Heap) (W : Nat → Heap → Prop), Walks prog w A I fp [I] n P W → W 0 h' → (∀ b ∈ fp, b = I ∨ b ∈ R) → (∀ b ∈ fp, b < h'.objs.size) → s.heap.get? I = none → (∀ i h, W i h → ∃ o, h.get? I = some o) →
      (∀ b o, s.heap.get? b = some o → h'.get? b = some o) → Q (.ref I) { s with heap := h' }) → wpAny (model prog w) A (pyIter xv) Q E s

theorem none_of_size {h : Heap} : h.get? h.objs.size = none := by
  cases e : h.get? h.objs.size with
  | none => rfl
  | some o => exact absurd (Heap.lt_size e) (Nat.lt_irrefl _)

section
variable {prog : Program} {w : World} {A : Around} {E : Value → Shared → Prop} {own : Bool} {s₀ s : Shared} {env : Env} {m cm : Str → Option Value} {mu : List (Addr × MO)} {fs : List Fact} {K : Frag}

theorem iter_list (hh : A.handled = none) {l : Addr} {vs : List Value} (hl : s.heap.IsList l vs.toArray) : Iter prog w A (.ref l) vs.length (fun i v => vs[i]? = some v) [l] s := by
  intro Q E h
  obtain ⟨o, ho, _⟩ := id hl
  have hlt := Heap.lt_size ho
  have hne : l ≠ s.heap.objs.size := Nat.ne_of_lt hlt
  have W := Walks.list (prog := prog) (w := w) hh s.heap.objs.size l hne vs.toArray
  simp only [List.size_toArray, List.getElem?_toArray] at W
  refine wpAny_pyIter_list hl (h _ _ _ _ W ⟨⟨_, Heap.get?_push_size _ rfl, rfl, rfl⟩, hl.push _⟩ (fun b hb => ?_) (fun b hb => ?_) none_of_size (fun i h hw => let ⟨o, e, _⟩ := hw.1; ⟨o, e⟩) (Heap.push_keeps _ _))
  · simpa using hb
  · rw [Heap.size_push]
    rcases List.mem_cons.mp hb with rfl | hb
    · exact Nat.lt_succ_self _
    · rw [List.mem_singleton.mp hb]; exact Nat.lt_succ_of_lt hlt
theorem iter_tuple (hh : A.handled = none) {l : Addr} {vs : List Value} (hl : s.heap.IsTuple l vs.toArray) : Iter prog w A (.ref l) vs.length (fun i v => vs[i]? = some v) [l] s := by
  intro Q E h
  obtain ⟨o, ho, _⟩ := id hl
  have hlt := Heap.lt_size ho
  have hne : l ≠ s.heap.objs.size := Nat.ne_of_lt hlt
  have W := Walks.tuple (prog := prog) (w := w) hh s.heap.objs.size l hne vs.toArray
  simp only [List.size_toArray, List.getElem?_toArray] at W
  refine wpAny_pyIter_tuple hl (h _ _ _ _ W ⟨⟨_, Heap.get?_push_size _ rfl, rfl, rfl⟩, hl.at fun o e => Heap.get?_push_of_some _ e⟩ (fun b hb => ?_) (fun b hb => ?_) none_of_size (fun i h hw => let ⟨o, e, _⟩ := hw.1; ⟨o, e⟩) (Heap.push_keeps _ _))
  · simpa using hb
  · rw [Heap.size_push]
    rcases List.mem_cons.mp hb with rfl | hb
    · exact Nat.lt_succ_self _
    · rw [List.mem_singleton.mp hb]; exact Nat.lt_succ_of_lt hlt
theorem iter_range (hh : A.handled = none) {r : Addr} {n : Nat} {t u v : Tok} (hr : IsRange s.heap r 0 n 1 t u v) (hn : n < 2 ^ 62) : Iter prog w A (.ref r) n (fun i v => ∃ t, v = .int i t) [] s := by
  intro Q E h
  have W := Walks.range (prog := prog) (w := w) hh s.heap.objs.size 0 1 n
  simp only [Int.mul_one, Int.zero_add] at W
  have hsz : Builtin.Range.rangeSize 0 (n : Int) 1 = n := by rw [rangeSize_one]; split <;> omega
  refine wpAny_pyIter_range hr (small_one (by decide) (by decide) (by omega) (by omega)) (h _ _ _ _ W ?_ (fun b hb => ?_) (fun b hb => ?_) none_of_size (fun i h hw => ⟨_, hw⟩) (Heap.push_keeps _ _))
  · rw [hsz]
    have := Heap.get?_push_size s.heap (o := { cls := .type "range_iterator", data := .fields #[rawInt 0, rawInt (n : Int), rawInt 1] }) rfl
    simpa [IsRangeIter, rawInt] using this
  · exact .inl (List.mem_singleton.mp hb)
  · rw [List.mem_singleton.mp hb, Heap.size_push]; exact Nat.lt_succ_self _

/-- the objects that a walk looks at besides its iterator, as facts -/
noncomputable def exF (R : List Addr) (h : Heap) : List Fact := R.filterMap fun b => (h.get? b).map (Fact.ob b)
theorem mem_exF {R : List Addr} {h : Heap} {f : Fact} : f ∈ exF R h ↔ ∃ b o, b ∈ R ∧ h.get? b = some o ∧ f = .ob b o := by
  unfold exF
  rw [List.mem_filterMap]
  constructor
  · rintro ⟨b, hb, e⟩
    obtain ⟨o, ho, e⟩ := Option.map_eq_some_iff.mp e
    exact ⟨b, o, hb, ho, e.symm⟩
  · rintro ⟨b, o, hb, ho, rfl⟩
    exact ⟨b, hb, by rw [ho]; rfl⟩

/-- the last of the frame's own objects has changed -/
theorem XS_snoc (env : Env) (mu : List (Addr × MO)) (I : Addr) (x : MO) : XS true env (mu ++ [(I, x)]) = XS true env mu ++ [I] := by
  simp [XS]
theorem St.next {I : Addr} {x y : MO} {h' : Heap} {t : Nat} (S : St true s₀ env m cm (mu ++ [(I, x)]) fs s) (hk : ∀ b o, b ∉ [I] → s.heap.get? b = some o → h'.get? b = some o) (hy : y.At h' I) :
    St true s₀ env m cm (mu ++ [(I, y)]) fs { s with heap := h', toks := t } := by
  have hXe : XS true env (mu ++ [(I, y)]) = XS true env (mu ++ [(I, x)]) := by rw [XS_snoc, XS_snoc]
  have hI : I ∈ XS true env (mu ++ [(I, x)]) := by rw [XS_snoc]; simp
  have hk' : ∀ b o, b ≠ I → s.heap.get? b = some o → h'.get? b = some o := fun b o hb e => hk b o (by simpa using hb) e
  have hnd := S.apart
  rw [XS_snoc] at hnd
  have hIn : I ∉ XS true env mu := fun h => (List.nodup_append.mp hnd).2.2 I h I (by simp) rfl
  refine ⟨let ⟨h, _, e⟩ := S.same; ⟨h', t, by rw [e]⟩, ?_, fun b o e => hk' b o ?_ (S.keep b o e), fun n c e => ?_, fun p hp => ?_, fun b hb => ?_, ?_, ?_, fun f hf => ?_⟩
  · exact S.ns.at' fun o e => hk' _ o (fun e' => hIn (e' ▸ mem_XS_loc env mu)) e
  · rintro rfl; rw [S.new _ hI] at e; cases e
  · obtain ⟨o, h1, h2⟩ := S.cell n c e; exact ⟨o, hk' _ _ (fun e' => hIn (e' ▸ mem_XS_cell e mu)) h1, h2⟩
  · rcases List.mem_append.mp hp with hp | hp
    · exact (S.muts p (List.mem_append_left _ hp)).mono fun o e => hk' _ o (fun e' => hIn (e' ▸ mem_XS_mut (vs := p.2) hp)) e
    · rw [List.mem_singleton.mp hp]; exact hy
  · rw [hXe] at hb
    by_cases e : b = I
    · subst e; exact hy.live
    · obtain ⟨o, eo⟩ := S.live b hb; exact ⟨o, hk' _ _ e eo⟩
  · rw [hXe]; exact S.new
  · rw [hXe]; exact S.apart
  · rw [hXe]; exact (S.facts f hf).mono (fun b o hb e => hk' b o (fun e' => hb (e' ▸ hI)) e) fun b o hb _ => hb

theorem St.nextDrop {I : Addr} {x : MO} {h' : Heap} {t : Nat} (S : St true s₀ env m cm (mu ++ [(I, x)]) fs s) (hk : ∀ b o, b ∉ [I] → s.heap.get? b = some o → h'.get? b = some o) :
    St true s₀ env m cm mu fs { s with heap := h', toks := t } := by
  have hI : I ∈ XS true env (mu ++ [(I, x)]) := by rw [XS_snoc]; simp
  have hk' : ∀ b o, b ≠ I → s.heap.get? b = some o → h'.get? b = some o := fun b o hb e => hk b o (by simpa using hb) e
  have hnd := S.apart
  rw [XS_snoc] at hnd
  have hIn : I ∉ XS true env mu := fun h => (List.nodup_append.mp hnd).2.2 I h I (by simp) rfl
  have hsub : ∀ b, b ∈ XS true env mu → b ∈ XS true env (mu ++ [(I, x)]) := fun b hb => by rw [XS_snoc]; exact List.mem_append_left _ hb
  refine ⟨let ⟨h, _, e⟩ := S.same; ⟨h', t, by rw [e]⟩, ?_, fun b o e => hk' b o ?_ (S.keep b o e), fun n c e => ?_, fun p hp => ?_, fun b hb => ?_, fun b hb => S.new b (hsub b hb), (List.nodup_append.mp hnd).1, fun f hf => ?_⟩
  · exact S.ns.at' fun o e => hk' _ o (fun e' => hIn (e' ▸ mem_XS_loc env mu)) e
  · rintro rfl; rw [S.new _ hI] at e; cases e
  · obtain ⟨o, h1, h2⟩ := S.cell n c e; exact ⟨o, hk' _ _ (fun e' => hIn (e' ▸ mem_XS_cell e mu)) h1, h2⟩
  · exact (S.muts p (List.mem_append_left _ hp)).mono fun o e => hk' _ o (fun e' => hIn (e' ▸ mem_XS_mut (vs := p.2) hp)) e
  · obtain ⟨o, eo⟩ := S.live b (hsub b hb); exact ⟨o, hk' _ _ (fun e' => hIn (e' ▸ hb)) eo⟩
  · exact (S.facts f hf).mono (fun b o hb e => hk' b o (fun e' => hb (e' ▸ hI)) e) fun b o hb _ hb' => hb (hsub b hb')

theorem St.growLast {h' : Heap} {t : Nat} (S : St true s₀ env m cm mu fs s) (hk : ∀ b o, s.heap.get? b = some o → h'.get? b = some o) {a : Addr} {x : MO} (ha : s.heap.get? a = none) (ho : x.At h' a) :
    St true s₀ env m cm (mu ++ [(a, x)]) fs { s with heap := h', toks := t } := by
  have S' := S.growM t hk ha ho
  have hX : ∀ b, b ∈ XS true env (mu ++ [(a, x)]) ↔ b ∈ XS true env ((a, x) :: mu) := fun b => by
    rw [XS_snoc, XS_cons, List.mem_append, List.mem_singleton]; exact Or.comm
  refine ⟨S'.same, S'.ns, S'.keep, S'.cell, fun p hp => S'.muts p ?_, fun b hb => S'.live b ((hX b).mp hb), fun b hb => S'.new b ((hX b).mp hb), ?_, fun f hf => (S'.facts f hf).mono (fun _ _ _ e => e) fun b _ hb _ hb' => hb ((hX b).mp hb')⟩
  · rcases List.mem_append.mp hp with hp | hp
    · exact List.mem_cons_of_mem _ hp
    · rw [List.mem_singleton.mp hp]; exact List.mem_cons_self
  · rw [XS_snoc]
    refine List.nodup_append.mpr ⟨S.apart, by simp, fun b hb c hc e => ?_⟩
    rw [List.mem_singleton.mp hc] at e
    exact notin_of_none S.live ha (e ▸ hb)
noncomputable def Flw (Q : Flow → Shared → Prop) (go : Shared → Prop) : Flow → Shared → Prop := fun f s => match f with
  | .next | .cont => go s
  | .brk => Q .next s
  | .ret v => Q (.ret v) s

/-- a for: J says what holds ahead of the i-th turn -/
theorem for_iter {x : Str} {px : Pos} {xv : Value} {n : Nat} {P : Nat → Value → Prop} {R : List Addr} {body : List Stmt} {Q : Flow → Shared → Prop} {Eb : Value → Shared → Prop}
    (J : Nat → (Str → Option Value) → (Str → Option Value) → List (Addr × MO) → List Fact → Prop)
    (S : St true s₀ env m cm mu fs s) (it : Iter prog w A xv n P R s) (hR : ∀ b ∈ R, b ∉ XS true env mu ∧ ∃ o, s.heap.get? b = some o) (h0 : J 0 m cm mu fs)
    (turn : ∀ i v m₁ cm₁ mu₁ fs₁ s₁ y ex, i < n → P i v → J i m₁ cm₁ mu₁ fs₁ → St true s₀ env (fun z => if z = x then some v else m₁ z) cm₁ (mu₁ ++ [y]) (fs₁ ++ ex) s₁ →
      wpAny (model prog w) A (execs body env) (Flw Q fun s₂ => ∃ m₂ cm₂ mu₂ fs₂, J (i + 1) m₂ cm₂ mu₂ fs₂ ∧ St true s₀ env m₂ cm₂ (mu₂ ++ [y]) (fs₂ ++ ex) s₂) (fun _ _ => False) s₁)
    (done : ∀ m₁ cm₁ mu₁ fs₁ s₁, J n m₁ cm₁ mu₁ fs₁ → St true s₀ env m₁ cm₁ mu₁ fs₁ s₁ → Q .next s₁)
    (hk : env.scope.kind = .function := by rfl) (hl : env.kindOf x = some .local := by rfl) :
    wpAny (model prog w) A (pyIter xv) (fun it s₂ => codeAny (model prog w) A (.forLoop (.Name x px) it body [] env) (fun r s' => match r with | .ok f => Q f s' | .error e => cameBackBy (model prog w) A env Eb e s') s₂) E s := by
  refine it _ _ fun I fp h' W hW hW0 hfp hfl hIn hIl hk' => ?_
  obtain ⟨oI, hoI⟩ := hIl 0 h' hW0
  let Inv : Nat → Shared → Prop := fun k s' => ∃ i m₁ cm₁ mu₁ fs₁ oI, k = n - i ∧ i ≤ n ∧ J i m₁ cm₁ mu₁ fs₁ ∧ W i s'.heap ∧ St true s₀ env m₁ cm₁ (mu₁ ++ [(I, .o oI)]) (fs₁ ++ exF R h') s'
  have hexm : ∀ {m₁ cm₁ mu₁ fs₁ y} {s' : Shared}, St true s₀ env m₁ cm₁ (mu₁ ++ [y]) (fs₁ ++ exF R h') s' → ∀ b ∈ R, ∃ o, h'.get? b = some o ∧ s'.heap.get? b = some o ∧ b ∉ XS true env (mu₁ ++ [y]) := by
    intro m₁ cm₁ mu₁ fs₁ y s' S' b hbR
    obtain ⟨o', ho'⟩ := (hR b hbR).2
    have h1 := S'.facts (.ob b o') (List.mem_append_right _ (mem_exF.mpr ⟨b, o', hbR, hk' _ _ ho', rfl⟩))
    exact ⟨o', hk' _ _ ho', h1.1, h1.2⟩
  refine codeAny_forLoop Inv (fun k s' hI => ?_) n ⟨0, m, cm, mu, fs, oI, rfl, Nat.zero_le _, h0, hW0, ?_⟩
  · obtain ⟨i, m₁, cm₁, mu₁, fs₁, oI, rfl, hin, hJ, hWi, S'⟩ := hI
    by_cases hlt : i < n
    · refine hW.item i s' _ _ hlt hWi fun v hh tk hP hW' hkk => ?_
      obtain ⟨oI', hoI'⟩ := hIl _ _ hW'
      have S2 := S'.next (y := .o oI') (t := tk) hkk hoI'
      have hIX : I ∈ XS true env (mu₁ ++ [(I, .o oI)]) := by rw [XS_snoc]; simp
      refine wpAny_assign_Name (st_loc S2 (fun s₂ S3 => ?_) hk hl)
      refine wpAny_mono (turn i v m₁ cm₁ mu₁ fs₁ s₂ _ _ hlt hP hJ S3) (fun f s₃ h3 => ?_) fun _ _ f => f.elim
      have go : (∃ m₂ cm₂ mu₂ fs₂, J (i + 1) m₂ cm₂ mu₂ fs₂ ∧ St true s₀ env m₂ cm₂ (mu₂ ++ [(I, .o oI')]) (fs₂ ++ exF R h') s₃) → ∃ k, k < n - i ∧ Inv k s₃ := by
        rintro ⟨m₂, cm₂, mu₂, fs₂, hJ2, S4⟩
        refine ⟨n - (i + 1), by omega, i + 1, m₂, cm₂, mu₂, fs₂, oI', rfl, hlt, hJ2, hW.frame _ _ _ hW' fun b hb o e => ?_, S4⟩
        rcases hfp b hb with rfl | hbR
        · rw [hoI'] at e; cases e
          exact S4.muts (b, .o oI') (by simp)
        · obtain ⟨o1, e1, e2, e3⟩ := hexm S' b hbR
          obtain ⟨o2, f1, f2, _⟩ := hexm S4 b hbR
          have : hh.get? b = some o1 := hkk b o1 (fun hbI => e3 (by rw [List.mem_singleton.mp hbI]; exact hIX)) e2
          rw [e] at this; cases this
          rw [e1] at f1; cases f1
          exact f2
      cases f with
      | next => exact go h3
      | cont => exact go h3
      | brk => exact h3
      | ret v => exact h3
    · have : i = n := by omega
      subst this
      refine hW.done s' _ _ hWi fun hh tk hkk => ?_
      refine wpAny_execs_nil ?_
      exact done _ _ _ _ _ hJ ((S'.nextDrop (t := tk) hkk).sub fun f hf => List.mem_append_left _ hf)
  · have S1 := S.growLast (t := s.toks) hk' hIn (x := .o oI) hoI
    refine { S1 with facts := fun f hf => ?_ }
    rcases List.mem_append.mp hf with hf | hf
    · exact S1.facts f hf
    · obtain ⟨b, o, hbR, ho, rfl⟩ := mem_exF.mp hf
      refine ⟨ho, ?_⟩
      rw [XS_snoc, List.mem_append, List.mem_singleton]
      rintro (hb | rfl)
      · exact (hR b hbR).1 hb
      · obtain ⟨o', ho'⟩ := (hR b hbR).2; rw [hIn] at ho'; cases ho'

/-- a while: by an invariant and a measure -/
theorem ex_while {test : Expr} {body : List Stmt} {pos : Pos} {Q : Flow → Shared → Prop} (I : Nat → Shared → Prop)
    (turn : ∀ n s, I n s → wpAny (model prog w) A (isTrue test env (eval test env)) (fun b s₂ =>
        if b then wpAny (model prog w) A (execs body env) (Flw Q fun s₃ => ∃ k, k < n ∧ I k s₃) (fun _ _ => False) s₂
        else Q .next s₂) (fun _ _ => False) s)
    (n : Nat) (h : I n s) : wpAny (model prog w) A (exec (.While test body [] pos) env) Q E s := by
  refine wpAny_While (codeAny_whileLoop I (fun n s hI => ?_) n h)
  refine wpAny_mono (turn n s hI) (fun b s₂ h₂ => ?_) fun _ _ f => f.elim
  cases b with
  | false => simp only [Bool.false_eq_true, if_false] at h₂ ⊢; exact wpAny_execs_nil h₂
  | true =>
    simp only [if_true] at h₂ ⊢
    refine wpAny_mono h₂ (fun f s₃ h₃ => ?_) fun _ _ f => f.elim
    cases f with
    | next => exact h₃
    | cont => exact h₃
    | brk => exact h₃
    | ret v => exact h₃
end
end

section
open PySem PySem.Spec PySem.Calls PyProof.Rows PySem.W

section
variable {prog : Program} {w : World} {A : Around} {E : Value → Shared → Prop} {own : Bool} {s₀ s : Shared} {env : Env} {m cm : Str → Option Value} {mu : List (Addr × MO)} {fs : List Fact} {K : Frag}

/-! what a call promises -/
/-- the heap has grown; new data -/
noncomputable def New (s s' : Shared) (v : Value) (d : PyData) : Prop := Keeps s s' ∧ Rd s'.heap (fun a => s.heap.get? a = none) v d

theorem St.keeps (S : St own s₀ env m cm mu fs s) {s' : Shared} (k : Keeps s s') : St own s₀ env m cm mu fs s' := by
  obtain ⟨h', tk, rfl, hk⟩ := k; exact S.grow tk hk
theorem St.newD (S : St own s₀ env m cm mu fs s) {s' : Shared} {v : Value} {d : PyData} (k : New s s' v d) : St own s₀ env m cm mu (.nw v d :: fs) s' := by
  obtain ⟨⟨h', tk, rfl, hk⟩, r⟩ := k; exact S.growD tk hk r
/-- the end of a call: all that stood stands -/
theorem St.done (S : St own s₀ env m cm mu fs s) : Keeps s₀ s := by
  obtain ⟨h, tk, e⟩ := S.same
  refine ⟨h, tk, e, fun b o hb => ?_⟩
  have := S.keep b o hb
  rw [e] at this; exact this
theorem St.doneD (S : St own s₀ env m cm mu fs s) {v : Value} {d : PyData} (h : Fact.nw v d ∈ fs) : New s₀ s v d :=
  ⟨S.done, (S.nw h).mono (fun _ _ _ e => e) fun _ _ p _ => p.2⟩

/-! comprehensions -/
noncomputable def Fact.toRd : Fact → Fact
  | .nw v d => .rd v d
  | f => f
/-- inside a comprehension: nothing is changed -/
theorem St.inComp (S : St own s₀ env m cm mu fs s) {s₃ : Shared} {C : Addr} {m₃ : Str → Option Value} {scope : Scope} {cl : List (Str × Addr)} (hn : s₃.heap.Ns C m₃)
    (hk : ∀ b o, s.heap.get? b = some o → s₃.heap.get? b = some o) (hcl : ∀ n c, cl.lookup n = some c → env.cells.lookup n = some c) :
    St false s₃ (compEnvC scope cl C env) m₃ cm [] (fs.map Fact.toRd) s₃ where
  same := ⟨_, _, rfl⟩
  ns := hn
  keep := fun _ _ e => e
  cell := fun n c e => (S.cell n c (hcl n c e)).keeps hk
  muts := fun _ hp => nomatch hp
  live := fun _ ha => by simp [XS] at ha
  new := fun _ ha => by simp [XS] at ha
  apart := by simp [XS]
  facts := fun f hf => by
    obtain ⟨g, hg, rfl⟩ := List.mem_map.mp hf
    have := S.facts g hg
    cases g with
    | rd v d => exact Rd.mono (P := fun a => a ∉ XS own env mu) this (fun b o _ e => hk b o e) fun b o _ _ => by simp [XS]
    | nw v d => exact Rd.mono (P := fun a => a ∉ XS own env mu ∧ s₀.heap.get? a = none) this (fun b o _ e => hk b o e) fun b o _ _ => by simp [XS]
    | ob a o => exact ⟨hk _ _ this.1, by simp [XS]⟩

noncomputable def testsTree (ifs : List Expr) (env : Env) : Sem Bool := forIn ifs true fun c r => if r = true then do let ok ← isTrue c env (eval c env); pure (ForInStep.yield ok) else pure (ForInStep.yield r)
theorem tests_nil {Q : Bool → Shared → Prop} (h : Q true s) : wpAny (model prog w) A (testsTree [] env) Q E s := wpAny_pure h
theorem tests_one {c : Expr} {Q : Bool → Shared → Prop} (h : wpAny (model prog w) A (isTrue c env (eval c env)) Q E s) : wpAny (model prog w) A (testsTree [c] env) Q E s := by
  unfold testsTree
  rw [List.forIn_cons]
  simp only [if_true]
  refine wpAny_bind (wpAny_bind (wpAny_mono h (fun b s₁ h₁ => wpAny_pure ?_) fun _ _ e => e))
  dsimp only
  rw [List.forIn_nil]; exact wpAny_pure h₁

/-- the parts of a comprehension over an iteration -/
structure Comp (prog : Program) (w : World) (A : Around) (env : Env) (scope : Scope) (cl : List (Str × Addr)) (x : Str) (ifs : List Expr) (elt : Expr) (P : Nat → Value → Prop) (p : Value → Bool) (F : Value → Value → Prop)
    (cm : Str → Option Value) (fs : List Fact) (h₁ : Heap) : Prop where
  tests : ∀ C i v s₃ m₃ (E' : Value → Shared → Prop), P i v → m₃ x = some v → (∀ b o, h₁.get? b = some o → s₃.heap.get? b = some o) → St false s₃ (compEnvC scope cl C env) m₃ cm [] (fs.map Fact.toRd) s₃ →
    wpAny (model prog w) A (testsTree ifs (compEnvC scope cl C env)) (fun ok s₄ => ok = p v ∧ Keeps s₃ s₄) E' s₃
  elt : ∀ C i v s₃ m₃ (E' : Value → Shared → Prop), P i v → p v = true → m₃ x = some v → (∀ b o, h₁.get? b = some o → s₃.heap.get? b = some o) → St false s₃ (compEnvC scope cl C env) m₃ cm [] (fs.map Fact.toRd) s₃ →
    wpAny (model prog w) A (eval elt (compEnvC scope cl C env)) (fun y s₄ => F v y ∧ Keeps s₃ s₄) E' s₃

theorem ev_comp {elt iter : Expr} {x : Str} {px : Pos} {ifs : List Expr} {scope : Scope} {cl : List (Str × Addr)} {pos : Pos} {Q : Value → Shared → Prop} (p : Value → Bool) (F : Value → Value → Prop)
    (h : wpAny (model prog w) A (eval iter env) (fun xv s₁ => ∃ n P R m cm mu fs, St own s₀ env m cm mu fs s₁ ∧ Iter prog w A xv n P R s₁ ∧ n ≤ sizeLine ∧ (∀ b ∈ R, ∃ o, s₁.heap.get? b = some o) ∧ Comp prog w A env scope cl x ifs elt P p F cm fs s₁.heap ∧
      (∀ D s' (ys vs : List Value), s₁.heap.get? D = none → St own s₀ env m cm mu fs s' → s'.heap.PlainList D ys.toArray → vs.length = n → (∀ j v, vs[j]? = some v → P j v) → Paired F (vs.filter p) ys → Keeps s₁ s' → Q (.ref D) s')) E s)
    (hcl : ∀ n c, cl.lookup n = some c → env.cells.lookup n = some c)
    (hclos : closureFor scope env = pure cl) (hcell : ∀ y ∈ scope.names, y.2 ≠ .cell) (hkind : scope.kind = .function)
    (hnames : ∀ y ∈ scope.names, y.2 = .local → scope.names.lookup y.1 = some .local) (hx : scope.names.lookup x = some .local)
    (hs : ∀ x, foldedSetIterable iter env x = pure x := by intro _; rfl) :
    wpAny (model prog w) A (eval (.ListComp elt [⟨.Name x px, iter, ifs, 0⟩] scope pos) env) Q E s := by
  refine wpAny_ListComp_free p F hclos hcell hkind hnames hx (wpAny_mono h (fun xv s₁ h₁ => ?_) fun _ _ e => e) hs
  obtain ⟨n, P, R, m, cm, mu, fs, S, it, hn, hR, C, hQ⟩ := h₁
  refine it _ _ fun I fp h' W hW hW0 hfp hfl hIn hIl hk' => ?_
  refine ⟨I, fp, [I], n, P, W, rfl, hW, hn, hW0, hfl, ?_, ?_⟩
  · have S2 := S.grow s₁.toks hk'
    have ext : ∀ {s₃ : Shared}, (∀ b o, b ∉ [I] → h'.get? b = some o → s₃.heap.get? b = some o) → ∀ b o, s₁.heap.get? b = some o → s₃.heap.get? b = some o := fun hk b o e => hk b o (by
      intro hb; rw [List.mem_singleton.mp hb] at e; rw [hIn] at e; cases e) (hk' b o e)
    exact ⟨fun Ca i v s₃ m₃ E' _ hP hn' hm hk _ => C.tests Ca i v s₃ m₃ E' hP hm (ext hk) (S.inComp hn' (ext hk) hcl),
      fun Ca i v s₃ m₃ E' _ hP hp hn' hm hk _ => C.elt Ca i v s₃ m₃ E' hP hp hm (ext hk) (S.inComp hn' (ext hk) hcl)⟩
  · intro D hh tk ys vs hD hl hpl hlen hP hF hk
    have hk2 : ∀ b o, s₁.heap.get? b = some o → hh.get? b = some o := fun b o e => hk b o (by
      intro hb; rw [List.mem_singleton.mp hb] at e; rw [hIn] at e; cases e) (hk' b o e)
    have hD1 : s₁.heap.get? D = none := by
      cases e : s₁.heap.get? D with
      | none => rfl
      | some o => have := hk' _ _ e; rw [show h'.get? D = none from hD] at this; cases this
    exact hQ D _ ys.toList vs hD1 (S.grow tk hk2) (by simpa using hpl) hlen hP hF ⟨hh, tk, rfl, hk2⟩

theorem ex_comp {elt iter : Expr} {x y : Str} {px py : Pos} {ifs : List Expr} {scope : Scope} {cl : List (Str × Addr)} {pos spos : Pos} {Q : Flow → Shared → Prop} (p : Value → Bool) (F : Value → Value → Prop)
    (h : wpAny (model prog w) A (eval iter env) (fun xv s₁ => ∃ n P R m cm mu fs, St true s₀ env m cm mu fs s₁ ∧ Iter prog w A xv n P R s₁ ∧ n ≤ sizeLine ∧ (∀ b ∈ R, ∃ o, s₁.heap.get? b = some o) ∧ Comp prog w A env scope cl x ifs elt P p F cm fs s₁.heap ∧
      (∀ D s' (ys vs : List Value), s₁.heap.get? D = none → St true s₀ env (fun z => if z = y then some (.ref D) else m z) cm mu fs s' → s'.heap.PlainList D ys.toArray → vs.length = n → (∀ j v, vs[j]? = some v → P j v) → Paired F (vs.filter p) ys → Q .next s')) E s)
    (hcl : ∀ n c, cl.lookup n = some c → env.cells.lookup n = some c)
    (hsw : swapsWith (.ListComp elt [⟨.Name x px, iter, ifs, 0⟩] scope pos) (some (.Name y py)) spos.line env = pure true)
    (hclos : closureFor scope env = pure cl) (hcell : ∀ y ∈ scope.names, y.2 ≠ .cell) (hkind : scope.kind = .function)
    (hnames : ∀ y ∈ scope.names, y.2 = .local → scope.names.lookup y.1 = some .local) (hx : scope.names.lookup x = some .local)
    (hy : env.kindOf y = some .local) (hk : env.scope.kind = .function)
    (hs : ∀ x, foldedSetIterable iter env x = pure x := by intro _; rfl) :
    wpAny (model prog w) A (exec (.Assign [.Name y py] (.ListComp elt [⟨.Name x px, iter, ifs, 0⟩] scope pos) spos) env) Q E s := by
  refine wpAny_Assign_ListComp_free p F hsw hclos hcell hkind hnames hx hy (by rw [hk]; rfl) (wpAny_mono h (fun xv s₁ h₁ => ?_) fun _ _ e => e) hs
  obtain ⟨n, P, R, m, cm, mu, fs, S, it, hn, hR, C, hQ⟩ := h₁
  refine it _ _ fun I fp h' W hW hW0 hfp hfl hIn hIl hk' => ?_
  have hIL : env.locals ≠ I := fun e => by
    obtain ⟨o, eo⟩ := S.live env.locals (mem_XS_loc env mu); rw [e, hIn] at eo; cases eo
  refine ⟨I, fp, [I], n, P, W, m, rfl, hW, hn, hW0, hfl, by simpa using hIL, S.ns.keeps hk', ?_, ?_⟩
  · have ext : ∀ {s₃ : Shared}, (∀ b o, b ∉ [I] → h'.get? b = some o → s₃.heap.get? b = some o) → ∀ b o, s₁.heap.get? b = some o → s₃.heap.get? b = some o := fun hk b o e => hk b o (by
      intro hb; rw [List.mem_singleton.mp hb] at e; rw [hIn] at e; cases e) (hk' b o e)
    exact ⟨fun Ca i v s₃ m₃ E' _ hP hn' hm hk _ => C.tests Ca i v s₃ m₃ E' hP hm (ext hk) (S.inComp hn' (ext hk) hcl),
      fun Ca i v s₃ m₃ E' _ hP hp hn' hm hk _ => C.elt Ca i v s₃ m₃ E' hP hp hm (ext hk) (S.inComp hn' (ext hk) hcl)⟩
  · intro D hh tk ys vs hD hl hpl hlen hP hF hns hk
    have hk2 : ∀ b o, b ≠ env.locals → s₁.heap.get? b = some o → hh.get? b = some o := fun b o hb e => hk b o hb (by
      intro hb; rw [List.mem_singleton.mp hb] at e; rw [hIn] at e; cases e) (hk' b o e)
    have hD1 : s₁.heap.get? D = none := by
      cases e : s₁.heap.get? D with
      | none => rfl
      | some o => have := hk' _ _ e; rw [show h'.get? D = none from hD] at this; cases this
    have hX := mem_XS_loc env mu
    refine hQ D _ ys.toList vs hD1 ?_ (by simpa using hpl) hlen hP hF
    refine ⟨let ⟨h, _, e⟩ := S.same; ⟨hh, tk, by rw [e]⟩, hns, fun b o e => hk2 b o ?_ (S.keep b o e), fun n c e => ?_, fun p hp => ?_, fun b hb => ?_, S.new, S.apart, fun f hf => ?_⟩
    · rintro rfl; rw [S.new _ hX] at e; cases e
    · obtain ⟨o, h1, h2⟩ := S.cell n c e; exact ⟨o, hk2 _ _ (S.loc_ne_cell e) h1, h2⟩
    · exact (S.muts p hp).mono fun o e => hk2 _ _ (S.loc_ne_mut (vs := p.2) hp) e
    · by_cases e : b = env.locals
      · subst e; obtain ⟨o, _, _, e, _⟩ := hns; exact ⟨o, e⟩
      · obtain ⟨o, eo⟩ := S.live b hb; exact ⟨o, hk2 _ _ e eo⟩
    · exact (S.facts f hf).mono (fun b o hb e => hk2 b o (fun e' => hb (e' ▸ hX)) e) fun b o hb _ => hb
end
end

section
open PySem PySem.Spec PySem.Calls PyProof.Rows PySem.W

section
variable {prog : Program} {w : World} {A : Around} {E : Value → Shared → Prop} {own : Bool} {s₀ s : Shared} {env : Env} {m cm : Str → Option Value} {mu : List (Addr × MO)} {fs : List Fact} {K : Frag}

/-! calls by name -/
theorem ev_callF {f : Str} {p pos : Pos} {e : Expr} {rest : List Expr} {a : Addr} {o : Obj} {fd : FuncData} {Q : Value → Shared → Prop} (S : St own s₀ env m cm mu fs s) (G : Gl K s₀.heap)
    (he : nsIn K mainGlobals f = some (some (.ref a))) (ho : K.lookup a = some o) (hd : o.data = .func fd)
    (h : wpAny (model prog w) A (spliced (backTo pos (starEach (e :: rest) env))) (fun vs s₁ => s₁.heap.get? a = some o ∧ wpAny (model prog w) A (call (.ref a) vs) Q E s₁) E s)
    (hst : starEach (e :: rest) env = (false, eval e env) :: starEach rest env := by rfl)
    (hg : env.globals = mainGlobals := by rfl) (hk : env.scope.kind = .function := by rfl) (hl : env.kindOf f = some .globalImplicit := by rfl) (hdb : (f == ("__debug__" : Str)) = false := by decide) :
    wpAny (model prog w) A (eval (.Call (.Name f p) (e :: rest) [] pos) env) Q E s :=
  wpAny_Call_Name_kw (ev_glo S G he (callWith_def hd h hst) hg hk hl hdb)
theorem ev_callB {f : Str} {p pos : Pos} {e : Expr} {rest : List Expr} {id : String} {Q : Value → Shared → Prop} (S : St own s₀ env m cm mu fs s) (G : Gl K s₀.heap)
    (he : nsIn K mainGlobals f = some none) (hv : bootBuiltins f = some (.builtin id))
    (h : wpAny (model prog w) A (spliced (backTo pos (starEach (e :: rest) env))) (fun vs s₁ => wpAny (model prog w) A (call (.builtin id) vs) Q E s₁) E s)
    (hn : f ≠ "__name__" := by decide)
    (hst : starEach (e :: rest) env = (false, eval e env) :: starEach rest env := by rfl) (hpl : (backTo pos (starEach rest env)).any (·.1) = false := by rfl)
    (hg : env.globals = mainGlobals := by rfl) (hb : env.builtins = builtinsNs := by rfl) (hk : env.scope.kind = .function := by rfl) (hl : env.kindOf f = some .globalImplicit := by rfl) (hdb : (f == ("__debug__" : Str)) = false := by decide) :
    wpAny (model prog w) A (eval (.Call (.Name f p) (e :: rest) [] pos) env) Q E s :=
  wpAny_Call_Name_kw (ev_bui S G he hv (PyProof.Rows.callWith_builtin1 h hst hpl) hn hg hb hk hl hdb)
theorem ev_callT {f : Str} {p pos : Pos} {e : Expr} {rest : List Expr} {T : String} {Q : Value → Shared → Prop} (S : St own s₀ env m cm mu fs s) (G : Gl K s₀.heap)
    (he : nsIn K mainGlobals f = some none) (hv : bootBuiltins f = some (.type T))
    (h : wpAny (model prog w) A (spliced (backTo pos (starEach (e :: rest) env))) (fun vs s₁ => wpAny (model prog w) A (call (.type T) vs) Q E s₁) E s)
    (hn : f ≠ "__name__" := by decide)
    (hst : starEach (e :: rest) env = (false, eval e env) :: starEach rest env := by rfl) (hpl : (backTo pos (starEach rest env)).any (·.1) = false := by rfl)
    (hg : env.globals = mainGlobals := by rfl) (hb : env.builtins = builtinsNs := by rfl) (hk : env.scope.kind = .function := by rfl) (hl : env.kindOf f = some .globalImplicit := by rfl) (hdb : (f == ("__debug__" : Str)) = false := by decide) :
    wpAny (model prog w) A (eval (.Call (.Name f p) (e :: rest) [] pos) env) Q E s :=
  wpAny_Call_Name_kw (ev_bui S G he hv (Pv.callWith_type1 h hst hpl) hn hg hb hk hl hdb)

/-! a call of a def of the text's -/
theorem cellsFrom_fst : ∀ (names : List (Str × NameKind)) (n n' : Nat) (acc acc' : List (Str × Addr)), acc.map (·.1) = acc'.map (·.1) → (cellsFrom n names acc).map (·.1) = (cellsFrom n' names acc').map (·.1)
  | [], _, _, _, _, h => h
  | (x, k) :: r, n, n', acc, acc', h => by
    unfold cellsFrom
    split
    · exact cellsFrom_fst r _ _ _ _ (by simp [h])
    · exact cellsFrom_fst r _ _ _ _ h
theorem lookup_of_nodup {cs : List (Str × Addr)} (h : (cs.map (·.1)).Nodup) : ∀ {x : Str × Addr}, x ∈ cs → cs.lookup x.1 = some x.2 := by
  induction cs with
  | nil => intro x hx; cases hx
  | cons y r ih =>
    intro x hx
    obtain ⟨k, v⟩ := y
    simp only [List.map_cons, List.nodup_cons] at h
    rw [List.lookup_cons]
    rcases List.mem_cons.mp hx with rfl | hx
    · simp
    · have hne : (x.1 == k) = false := by
        rw [beq_eq_false_iff_ne]; intro e; exact h.1 (e ▸ List.mem_map.mpr ⟨x, hx, rfl⟩)
      rw [hne]; exact ih h.2 hx

theorem c_enter {a : Addr} {o : Obj} {fd : FuncData} {body : List Stmt} {vals : List Value} {binds : List (Str × Value)} {Q : Value → Shared → Prop} (G : Gl K s.heap) (hroom : A.depth < recursionLimit)
    (ho : K.lookup a = some o) (hd : o.data = .func fd) (hcd : codeIn K fd.code fd.qualname = true) (hbody : fd.body = .stmts body) (hbind : bindArgs fd ⟨vals, []⟩ = pure binds) (hclo : fd.closure = [])
    (hkind : ∀ n, ∀ x ∈ binds, fd.scope.names.lookup x.1 = some .local ∨ (fd.scope.names.lookup x.1 = some .cell ∧ ((cellsFrom n fd.scope.names []).lookup x.1).isSome = true))
    (hnm : ((cellsFrom 0 fd.scope.names []).map (·.1)).Nodup)
    (h : ∀ s₁ A', A'.handled = A.handled → A'.depth = A.depth + 1 → A'.units = A.units + 3 → St true s (callEnvC fd s.heap.objs.size a) (bindL (callEnvC fd s.heap.objs.size a).kindOf binds fun _ => none) (bindC (callEnvC fd s.heap.objs.size a).kindOf binds fun _ => none) [] [] s₁ →
      wpAny (model prog w) A' (execs body (callEnvC fd s.heap.objs.size a)) (fun f s' => Q (match f with | .ret v => v | _ => .none) s') (fun _ _ => False) s₁)
    (hco : fd.scope.isCoroutine = false := by rfl) (hgen : fd.scope.isGenerator = false := by rfl) (hk : fd.scope.kind = .function := by rfl) :
    wpAny (model prog w) A (call (.ref a) vals) Q E s := by
  refine wpAny_call (codeAny_call_cells hroom (G.x _ _ ho) hd G.lim (codeRec_of G.x hcd) hbody hbind hclo (hkind _) (fun s₁ I => ?_) hco hgen hk)
  refine wpAny_mono (h s₁ (A.deeper (callEnvC fd s.heap.objs.size a)) rfl rfl rfl ?_) (fun f s' q => q) fun _ _ f => f.elim
  have hL : s.heap.get? s.heap.objs.size = none := none_of_size
  have hcl : ∀ x ∈ (callEnvC fd s.heap.objs.size a).cells, (callEnvC fd s.heap.objs.size a).locals < x.2 := fun x hx => I.above x.1 x.2 hx
  have hL2 : (callEnvC fd s.heap.objs.size a).locals = s.heap.objs.size := rfl
  have hnd : ((callEnvC fd s.heap.objs.size a).cells.map (·.2)).Nodup := by
    rw [List.Nodup, List.pairwise_map]; exact I.apart
  refine ⟨I.toInCall.same, I.toInCall.ns, I.toInCall.keep, I.cell, (fun _ hp => nomatch hp), ?_, ?_, ?_, fun _ hf => nomatch hf⟩
  · intro b hb
    simp only [XS, if_true, List.map_nil, List.append_nil, List.mem_cons, List.mem_map] at hb
    rcases hb with rfl | ⟨x, hx, rfl⟩
    · obtain ⟨o, _, _, e, _⟩ := I.toInCall.ns; exact ⟨o, e⟩
    · have hnd' : ((callEnvC fd s.heap.objs.size a).cells.map (·.1)).Nodup := by
        have e : (callEnvC fd s.heap.objs.size a).cells.map (·.1) = (cellsFrom 0 fd.scope.names []).map (·.1) := cellsFrom_fst fd.scope.names (s.heap.objs.size + 1) 0 [] [] rfl
        rw [e]; exact hnm
      obtain ⟨o, e, _⟩ := I.cell x.1 x.2 (lookup_of_nodup hnd' hx)
      exact ⟨o, e⟩
  · intro b hb
    simp only [XS, if_true, List.map_nil, List.append_nil, List.mem_cons, List.mem_map] at hb
    rcases hb with rfl | ⟨x, hx, rfl⟩
    · exact hL
    · have := hcl x hx
      cases e : s.heap.get? x.2 with
      | none => rfl
      | some o => exact absurd (Nat.lt_trans this (Heap.lt_size e)) (Nat.lt_irrefl _)
  · simp only [XS, if_true, List.map_nil, List.append_nil, List.nodup_cons]
    refine ⟨fun hm => ?_, hnd⟩
    obtain ⟨x, hx, e⟩ := List.mem_map.mp hm
    have := hcl x hx
    rw [e] at this
    exact Nat.lt_irrefl _ this

/-- what stood ahead of the call is none of the frame's own -/
theorem St.arg (S : St true s₀ env m cm mu fs s) {P : Addr → Prop} {v : Value} {d : PyData} (r : Rd s₀.heap P v d) : St true s₀ env m cm mu (.rd v d :: fs) s := by
  refine S.add (f := .rd v d) (Rd.mono (P' := fun a => a ∉ XS true env mu) r (fun b o _ e => S.keep b o e) fun b o _ e hb => ?_)
  rw [S.new b hb] at e; cases e

/-! methods -/
theorem ev_mL {o : Expr} {name : Str} {apos pos : Pos} {args : List Expr} {id : String} {Q : Value → Shared → Prop} (slot : Slot "list" name id) (hty : typeOf (.builtin id) = pure (.type "method_descriptor"))
    (h : wpAny (model prog w) A (eval o env) (fun ov s₁ => ∃ l vs, ov = .ref l ∧ s₁.heap.PlainList l vs ∧ wpAny (model prog w) A (callWith pos (.builtin id) [.ref l] (backTo pos (starEach args env)) []) Q E s₁) E s)
    (hbase : attributeBase o name env (eval o env) = eval o env := by with_unfolding_all rfl)
    (hfew : ((backTo pos (starEach args env)).all (fun x => !x.1) && (backToKw pos (keywordEach [] env)).all (fun x => x.1.isSome)
      && decide (args.length + ([] : List Keyword).length + (if ([] : List Keyword).isEmpty then 0 else 1) < 30)) = true := by with_unfolding_all rfl)
    (hline : (apos.endLine == pos.line) = true := by rfl) :
    wpAny (model prog w) A (eval (.Call (.Attribute o name apos) args [] pos) env) Q E s := by
  refine wpAny_Call_method hbase hfew hline PySem.F.plainAttrs_list slot hty (wpAny_mono h (fun ov s₁ h₁ => ?_) fun _ _ e => e)
  obtain ⟨l, vs, rfl, hl, hc⟩ := h₁
  refine ⟨hl.isList.typeIs, fun a e => ?_, hc⟩
  cases e
  obtain ⟨n, e⟩ := hl
  exact ⟨_, e, rfl⟩
theorem ev_mS {o : Expr} {name : Str} {apos pos : Pos} {args : List Expr} {id : String} {Q : Value → Shared → Prop} (slot : Slot "str" name id) (hty : typeOf (.builtin id) = pure (.type "method_descriptor"))
    (h : wpAny (model prog w) A (eval o env) (fun ov s₁ => ∃ x t, ov = .str x t ∧ wpAny (model prog w) A (callWith pos (.builtin id) [.str x t] (backTo pos (starEach args env)) []) Q E s₁) E s)
    (hbase : attributeBase o name env (eval o env) = eval o env := by with_unfolding_all rfl)
    (hfew : ((backTo pos (starEach args env)).all (fun x => !x.1) && (backToKw pos (keywordEach [] env)).all (fun x => x.1.isSome)
      && decide (args.length + ([] : List Keyword).length + (if ([] : List Keyword).isEmpty then 0 else 1) < 30)) = true := by with_unfolding_all rfl)
    (hline : (apos.endLine == pos.line) = true := by rfl) :
    wpAny (model prog w) A (eval (.Call (.Attribute o name apos) args [] pos) env) Q E s := by
  refine wpAny_Call_method hbase hfew hline PySem.F.plainAttrs_str slot hty (wpAny_mono h (fun ov s₁ h₁ => ?_) fun _ _ e => e)
  obtain ⟨x, t, rfl, hc⟩ := h₁
  exact ⟨typeIs_str _ _ _, (fun a e => by cases e), hc⟩
theorem cw_0 {pos : Pos} {id : String} {first : List Value} {Q : Value → Shared → Prop} (h : wpAny (model prog w) A (call (.builtin id) first) Q E s) :
    wpAny (model prog w) A (callWith pos (.builtin id) first (backTo pos (starEach [] env)) []) Q E s := callWith_method0 h
theorem cw_1 {pos : Pos} {id : String} {first : List Value} {e : Expr} {Q : Value → Shared → Prop} (h : wpAny (model prog w) A (eval e env) (fun v s₁ => wpAny (model prog w) A (call (.builtin id) (first ++ [v])) Q E s₁) E s)
    (hst : starEach [e] env = [(false, eval e env)] := by rfl) : wpAny (model prog w) A (callWith pos (.builtin id) first (backTo pos (starEach [e] env)) []) Q E s := by
  rw [hst]
  exact Calls.callWith_builtin rfl (Calls.evalArgs_plain (Calls.spliced_cons (wpAny_mono h (fun _ _ h₁ => Calls.spliced_nil h₁) fun _ _ e => e)))

/-! comparisons of data -/
theorem op_eqD {a b : Value} {x y : PyData} {Q : Value → Shared → Prop} {P P' : Addr → Prop} (ra : Rd s.heap P a x) (rb : Rd s.heap P' b y) (hx : SeqAt.shaped x = true) (hy : SeqAt.shaped y = true) (hu : A.units + 64 < cLine)
    (h : Q (.bool (PyData.eqv x y)) s) : wpAny (model prog w) A (compareOp .Eq a b) Q E s := by
  obtain ⟨_, ra⟩ := ra.reads
  obtain ⟨_, rb⟩ := rb.reads
  exact eq_dataH ra rb hx hy hu h
theorem op_neD {a b : Value} {x y : PyData} {Q : Value → Shared → Prop} {P P' : Addr → Prop} (ra : Rd s.heap P a x) (rb : Rd s.heap P' b y) (hx : SeqAt.shaped x = true) (hy : SeqAt.shaped y = true) (hu : A.units + 64 < cLine)
    (h : Q (.bool (!PyData.eqv x y)) s) : wpAny (model prog w) A (compareOp .NotEq a b) Q E s := by
  obtain ⟨_, ra⟩ := ra.reads
  obtain ⟨_, rb⟩ := rb.reads
  exact ne_dataH ra rb hx hy hu h
end
end

section
open PySem PySem.Spec PySem.Calls PyProof.Rows PySem.W

noncomputable abbrev ilist (ns : List Int) : PyData := .list (ns.map PyData.int)
noncomputable abbrev Has (fs : List Fact) (v : Value) (d : PyData) : Prop := Fact.rd v d ∈ fs ∨ Fact.nw v d ∈ fs

theorem Rd.inv {h : Heap} {P : Addr → Prop} {v : Value} {xs : List PyData} (r : Rd h P v (.list xs)) : ∃ a vs n, v = .ref a ∧ P a ∧ h.get? a = some (lst vs n) ∧ RdAll h P vs xs := by
  cases r with
  | list p e r => exact ⟨_, _, _, rfl, p, e, r⟩
theorem Rd.intInv {h : Heap} {P : Addr → Prop} {v : Value} {i : Int} (r : Rd h P v (.int i)) : ∃ t, v = .int i t := by
  cases r; exact ⟨_, rfl⟩
theorem Rd.strInv {h : Heap} {P : Addr → Prop} {v : Value} {x : Str} (r : Rd h P v (.str x)) : ∃ t, v = .str x t := by
  cases r; exact ⟨_, rfl⟩
theorem lst_isList {h : Heap} {a : Addr} {vs : List Value} {n : Nat} (e : h.get? a = some (lst vs n)) : h.IsList a vs.toArray := ⟨_, e, rfl, n, rfl⟩

section
variable {prog : Program} {w : World} {A : Around} {E : Value → Shared → Prop} {own : Bool} {s₀ s : Shared} {env : Env} {m cm : Str → Option Value} {mu : List (Addr × MO)} {fs : List Fact} {K : Frag} {value slice : Expr}

theorem St.seq (S : St own s₀ env m cm mu fs s) {a : Addr} {xs : List PyData} (h : Has fs (.ref a) (.list xs)) : ∃ vs n, s.heap.get? a = some (lst vs n) ∧ RdAll s.heap (fun a => a ∉ XS own env mu) vs xs ∧ a ∉ XS own env mu := by
  obtain ⟨b, vs, n, e, hp, hg, r⟩ := (S.data h).inv
  cases e; exact ⟨vs, n, hg, r, hp⟩
theorem St.ints (S : St own s₀ env m cm mu fs s) {a : Addr} {ns : List Int} (h : Has fs (.ref a) (ilist ns)) : ∃ vs n, s.heap.get? a = some (lst vs n) ∧ IntsAre vs ns ∧ vs.length = ns.length ∧ a ∉ XS own env mu := by
  obtain ⟨vs, n, e, r, hp⟩ := S.seq h
  exact ⟨vs, n, e, r.ints, by rw [r.length, List.length_map], hp⟩
theorem ints_take {vs : List Value} {ns : List Int} (i : IntsAre vs ns) (k : Nat) : IntsAre (vs.take k) (ns.take k) := by
  have := (rdAll_of_ints (h := {}) (P := fun _ => True) i).take k
  rw [← List.map_take] at this; exact this.ints
theorem ints_drop {vs : List Value} {ns : List Int} (i : IntsAre vs ns) (k : Nat) : IntsAre (vs.drop k) (ns.drop k) := by
  have := (rdAll_of_ints (h := {}) (P := fun _ => True) i).drop k
  rw [← List.map_drop] at this; exact this.ints
theorem ints_app {vs us : List Value} {ns ms : List Int} (i : IntsAre vs ns) (j : IntsAre us ms) : IntsAre (vs ++ us) (ns ++ ms) := by
  have := (rdAll_of_ints (h := {}) (P := fun _ => True) i).append (rdAll_of_ints j)
  rw [← List.map_append] at this; exact this.ints
theorem ints_len {vs : List Value} {ns : List Int} (i : IntsAre vs ns) : vs.length = ns.length := by
  have := (rdAll_of_ints (h := {}) (P := fun _ => True) i).length; simpa using this
theorem ints_get {vs : List Value} {ns : List Int} (i : IntsAre vs ns) {k : Nat} {n : Int} (e : ns[k]? = some n) : ∃ t, vs[k]? = some (.int n t) := by
  obtain ⟨v, hv, r⟩ := (rdAll_of_ints (h := {}) (P := fun _ => True) i).get k (.int n) (by simp [e])
  obtain ⟨t, rfl⟩ := r.intInv; exact ⟨t, hv⟩

/-- an item of a list of ints -/
theorem tl_int {l : Addr} {ns : List Int} {k : Nat} {i n : Int} {u : Tok} {Q : Value → Shared → Prop} (S : St own s₀ env m cm mu fs s) (hl : Has fs (.ref l) (ilist ns)) (hk : i = k) (hn : ns[k]? = some n) (hz : ns.length ≤ sizeLine) (h : ∀ t, Q (.int n t) s)
    (hs : subscripted slice false (.ref l) (.int i u) = operate [.ref l, .int i u] (getItem (.ref l) (.int i u)) := by with_unfolding_all rfl) :
    wpAny (model prog w) A (subscriptTail value slice (.ref l) (.int i u)) Q E s := by
  obtain ⟨vs, q, e, hi, hlen, _⟩ := S.ints hl
  obtain ⟨t, ht⟩ := ints_get hi hn
  have := (List.getElem?_eq_some_iff.mp hn).1
  rw [sizeLine_eq] at hz
  exact tl_item (lst_isList e) hk (by omega) ht (h t) hs
/-- an item of a list of data -/
theorem tl_dat {l : Addr} {xs : List PyData} {k : Nat} {i : Int} {d : PyData} {u : Tok} {Q : Value → Shared → Prop} (S : St own s₀ env m cm mu fs s) (hl : Has fs (.ref l) (.list xs)) (hk : i = k) (hn : xs[k]? = some d) (hz : xs.length ≤ sizeLine)
    (h : ∀ v, St own s₀ env m cm mu (.rd v d :: fs) s → Q v s)
    (hs : subscripted slice false (.ref l) (.int i u) = operate [.ref l, .int i u] (getItem (.ref l) (.int i u)) := by with_unfolding_all rfl) :
    wpAny (model prog w) A (subscriptTail value slice (.ref l) (.int i u)) Q E s := by
  obtain ⟨vs, q, e, r, _⟩ := S.seq hl
  obtain ⟨v, hv, rv⟩ := r.get k d hn
  have := (List.getElem?_eq_some_iff.mp hn).1
  rw [sizeLine_eq] at hz
  exact tl_item (lst_isList e) hk (by omega) hv (h v (S.add (f := .rd v d) rv)) hs
/-- a cut of a list of ints -/
theorem tl_cutI {l : Addr} {ns : List Int} {vl vu : Value} {lo hi : Option Nat} {Q : Value → Shared → Prop} (S : St own s₀ env m cm mu fs s) (hl : Has fs (.ref l) (ilist ns)) (pl : IsPart vl (lo.map Int.ofNat)) (pu : IsPart vu (hi.map Int.ofNat)) (hz : ns.length ≤ sizeLine)
    (h : ∀ a s', St own s₀ env m cm mu (.nw (.ref a) (ilist ((ns.take (hi.getD ns.length)).drop (lo.getD 0))) :: fs) s' → Q (.ref a) s')
    (hs : subscripted slice false (.ref l) (.ref s.heap.objs.size) = operate [.ref s.heap.objs.size, .ref l] (getItem (.ref l) (.ref s.heap.objs.size)) := by with_unfolding_all rfl) :
    wpAny (model prog w) A (subscriptTail value slice (.ref l) (.ref s.heap.objs.size)) Q E { s with heap := s.heap.push { cls := .type "slice", data := .fields #[vl, vu, .none] } } := by
  obtain ⟨vs, q, e, hint, hlen, _⟩ := S.ints hl
  refine tl_cutL S (lst_isList e) pl pu (by omega) (fun a s' hn S' hk ho => ?_) hs
  refine h a s' (S'.add (f := .nw (.ref a) (ilist ((ns.take (hi.getD ns.length)).drop (lo.getD 0)))) ?_)
  refine .list ⟨notin_of_none S.live hn, ?_⟩ ho ?_
  · cases e : s₀.heap.get? a with
    | none => rfl
    | some o' => rw [S.keep _ o' e] at hn; cases hn
  · rw [hlen]; exact rdAll_of_ints (ints_drop (ints_take hint _) _)

theorem c_sumI {l : Addr} {ns : List Int} {Q : Value → Shared → Prop} (S : St true s₀ env m cm mu fs s) (hh : A.handled = none) (hl : Has fs (.ref l) (ilist ns)) (h : ∀ s' t, St true s₀ env m cm mu fs s' → Q (.int ns.sum t) s') :
    wpAny (model prog w) A (call (.builtin "sum") [.ref l]) Q E s := by
  obtain ⟨vs, q, e, hint, hlen, _⟩ := S.ints hl
  exact c_sum S hh (lst_isList e) hint h
theorem c_minI {l : Addr} {ns : List Int} {Q : Value → Shared → Prop} (S : St true s₀ env m cm mu fs s) (hh : A.handled = none) (hl : Has fs (.ref l) (ilist ns)) (hne : 0 < ns.length)
    (h : ∀ s' M t, M ∈ ns → (∀ a ∈ ns, M ≤ a) → St true s₀ env m cm mu fs s' → Q (.int M t) s') : wpAny (model prog w) A (call (.builtin "min") [.ref l]) Q E s := by
  obtain ⟨vs, q, e, hint, hlen, _⟩ := S.ints hl
  exact c_min S hh (lst_isList e) hint hne h
theorem c_lenD {l : Addr} {xs : List PyData} {Q : Value → Shared → Prop} (S : St own s₀ env m cm mu fs s) (hl : Has fs (.ref l) (.list xs)) (hz : xs.length ≤ sizeLine) (h : ∀ s' t, St own s₀ env m cm mu fs s' → Q (.int xs.length t) s') :
    wpAny (model prog w) A (call (.builtin "len") [.ref l]) Q E s := by
  obtain ⟨vs, q, e, r, _⟩ := S.seq hl
  exact c_lenL S (lst_isList e) (by rw [r.length]; exact hz) (by rw [r.length]; exact h)
theorem c_indexI {l : Addr} {ns : List Int} {k : Int} {t : Tok} {Q : Value → Shared → Prop} (S : St own s₀ env m cm mu fs s) (hl : Has fs (.ref l) (ilist ns)) (hlay : PyData.layable0 (ilist ns) = true) (hk : k ∈ ns)
    (h : ∀ s' t, St own s₀ env m cm mu fs s' → Q (.int (ns.idxOf k) t) s') : wpAny (model prog w) A (call (.builtin "list.index") [.ref l, .int k t]) Q E s := by
  obtain ⟨vs, q, e, hint, hlen, _⟩ := S.ints hl
  exact c_index S (lst_isList e) hint hlay hk h
/-- an empty list -/
theorem nl_nil {Q : Value → Shared → Prop} (S : St own s₀ env m cm mu fs s) (h : ∀ a s', St own s₀ env m cm mu (.nw (.ref a) (.list []) :: fs) s' → Q (.ref a) s') : wpAny (model prog w) A (newList []) Q E s :=
  nl_dat S (Nat.zero_le _) .nil h
/-- a list of ints -/
theorem nl_ints {vs : List Value} {ns : List Int} {Q : Value → Shared → Prop} (S : St own s₀ env m cm mu fs s) (hi : IntsAre vs ns) (hz : ns.length ≤ sizeLine) (h : ∀ a s', St own s₀ env m cm mu (.nw (.ref a) (ilist ns) :: fs) s' → Q (.ref a) s') : wpAny (model prog w) A (newList vs) Q E s :=
  nl_dat S (by rw [ints_len hi]; exact hz) (rdAll_of_ints hi) h
/-- an iteration over a list of data -/
theorem iter_dat (hh : A.handled = none) (S : St own s₀ env m cm mu fs s) {l : Addr} {xs : List PyData} (hl : Has fs (.ref l) (.list xs)) :
    ∃ vs n, s.heap.get? l = some (lst vs n) ∧ RdAll s.heap (fun a => a ∉ XS own env mu) vs xs ∧ l ∉ XS own env mu ∧ Iter prog w A (.ref l) xs.length (fun i v => vs[i]? = some v) [l] s := by
  obtain ⟨vs, q, e, r, hx⟩ := S.seq hl
  refine ⟨vs, q, e, r, hx, ?_⟩
  rw [← r.length]; exact iter_list hh (lst_isList e)
/-- e == [] and such -/
theorem op_eqL {a b : Value} {x y : PyData} {Q : Value → Shared → Prop} (S : St own s₀ env m cm mu fs s) (ha : Has fs a x) (hb : Has fs b y) (hx : SeqAt.shaped x = true) (hy : SeqAt.shaped y = true) (hu : A.units + 64 < cLine)
    (h : Q (.bool (PyData.eqv x y)) s) : wpAny (model prog w) A (compareOp .Eq a b) Q E s := op_eqD (S.data ha) (S.data hb) hx hy hu h
theorem op_neL {a b : Value} {x y : PyData} {Q : Value → Shared → Prop} (S : St own s₀ env m cm mu fs s) (ha : Has fs a x) (hb : Has fs b y) (hx : SeqAt.shaped x = true) (hy : SeqAt.shaped y = true) (hu : A.units + 64 < cLine)
    (h : Q (.bool (!PyData.eqv x y)) s) : wpAny (model prog w) A (compareOp .NotEq a b) Q E s := op_neD (S.data ha) (S.data hb) hx hy hu h
end
end

section
open PySem PySem.Spec PySem.Calls PyProof.Rows PySem.W

/-- a tree of signs: an operand, or a sign with two branches -/
inductive T where
  | lf (k : Int)
  | nd (p : Int) (l r : T)
namespace T
noncomputable def enc : T → PyData
  | .lf k => .list [.int k]
  | .nd p l r => .list [.int p, l.enc, r.enc]
noncomputable def size : T → Nat
  | .lf _ => 0
  | .nd _ l r => l.size + r.size + 1
/-- leaves f, f + 1, .. in order, n signs, each from 0 to 40 -/
noncomputable def Ok : T → Int → Nat → Prop
  | .lf k, f, n => k = f ∧ n = 0
  | .nd p l r, f, n => 0 ≤ p ∧ p < 41 ∧ ∃ n₁ n₂, n = n₁ + n₂ + 1 ∧ l.Ok f n₁ ∧ r.Ok (f + n₁ + 1) n₂
theorem Ok.size {t : T} : ∀ {f : Int} {n : Nat}, t.Ok f n → t.size = n := by
  induction t with
  | lf k => intro f n h; exact h.2.symm
  | nd p l r i1 i2 =>
    rintro f n ⟨_, _, n₁, n₂, rfl, h1, h2⟩
    simp only [T.size, i1 h1, i2 h2]
theorem canLay (t : T) : t.enc.canLay0 = true := by
  induction t with
  | lf k => simp [enc, PyData.canLay0, PyData.canLayAll0]
  | nd p l r i1 i2 => simp [enc, PyData.canLay0, PyData.canLayAll0, i1, i2]
theorem depth_le (t : T) : t.enc.depth ≤ t.size + 1 := by
  induction t with
  | lf k => simp [enc, PyData.depth, PyData.depthAll, T.size]
  | nd p l r i1 i2 => simp only [enc, PyData.depth, PyData.depthAll, T.size]; omega
theorem shaped1 (t : T) (h : t.size ≤ 60) : SeqAt.shaped (.list [t.enc]) = true := by
  have := t.depth_le
  simp only [SeqAt.shaped, PyData.canLay0, PyData.canLayAll0, t.canLay, PyData.depth, PyData.depthAll, Bool.and_true, Bool.true_and]
  exact decide_eq_true (by omega)
open Classical in
theorem eqv_enc : ∀ a b : T, PyData.eqv a.enc b.enc = decide (a = b)
  | .lf j, .lf k => by by_cases h : j = k <;> simp [enc, PyData.eqv, PyData.eqvAll, h]
  | .lf j, .nd p l r => by simp [enc, PyData.eqv, PyData.eqvAll]
  | .nd p l r, .lf k => by simp [enc, PyData.eqv, PyData.eqvAll]
  | .nd p l r, .nd q l' r' => by
    simp only [enc, PyData.eqv, PyData.eqvAll, eqv_enc l l', eqv_enc r r']
    by_cases h1 : p = q <;> by_cases h2 : l = l' <;> by_cases h3 : r = r' <;> simp [h1, h2, h3]
open Classical in
theorem eqv_list : ∀ ts us : List T, PyData.eqvAll (ts.map enc) (us.map enc) = decide (ts = us)
  | [], [] => rfl
  | [], _ :: _ => by simp [PyData.eqvAll]
  | _ :: _, [] => by simp [PyData.eqvAll]
  | a :: ts, b :: us => by
    simp only [List.map_cons, PyData.eqvAll, eqv_enc, eqv_list ts us]
    by_cases h1 : a = b <;> by_cases h2 : ts = us <;> simp [h1, h2]
end T

theorem weight_small : ∀ ns : List Int, (∀ n ∈ ns, 0 ≤ n ∧ n < 8) → PyData.weightAll (ns.map PyData.int) ≤ 4 * ns.length
  | [], _ => by simp [PyData.weightAll]
  | n :: ns, h => by
    have h1 := h n List.mem_cons_self
    have ih := weight_small ns fun x hx => h x (List.mem_cons_of_mem _ hx)
    simp only [List.map_cons, PyData.weightAll, PyData.weight, List.length_cons]
    have : (if (n == 0) = true then 0 else n.natAbs.log2 + 1) ≤ 3 := by
      split
      · omega
      · have : n.natAbs < 8 := by omega
        have h3 : n.natAbs.log2 < 3 := by
          rw [Nat.log2_lt (by simp_all)]; omega
        omega
    omega
theorem layable_small (ns : List Int) (h : ∀ n ∈ ns, 0 ≤ n ∧ n < 8) (hl : ns.length ≤ 100) : PyData.layable0 (ilist ns) = true := by
  have h1 := weight_small ns h
  simp only [PyData.layable0, PyData.canLay0, PyData.depth, PyData.weight, ke_canLayAll0, ke_depthAll, Bool.true_and]
  rw [Bool.and_eq_true]
  exact ⟨rfl, decide_eq_true (by omega)⟩
theorem eqv_nil (ns : List Int) : PyData.eqv (ilist ns) (.list []) = decide (ns = []) := by
  cases ns <;> simp [PyData.eqv, PyData.eqvAll]

/-- the 41 signs -/
noncomputable def signTab : List (List Nat) := [[43], [45], [42], [47], [124], [38], [60], [62], [61], [46], [37], [123], [125], [61, 61], [33, 61], [60, 61], [62, 61], [126], [94], [60, 60], [62, 62], [42, 42], [43, 61], [45, 61], [42, 61], [47, 61], [37, 61], [38, 61], [124, 61], [94, 61], [60, 60, 61], [62, 62, 61], [42, 42, 61], [47, 47], [47, 47, 61], [64], [64, 61], [45, 62], [46, 46, 46], [58, 61], [33]]
noncomputable def sign (p : Int) : List Nat := signTab.getD p.toNat []
/-- a branch wants brackets -/
noncomputable def need (R : Int → Int) (p side : Int) : T → Bool
  | .lf _ => false
  | .nd q _ _ => decide (R q < R p) || ((R q == R p) && (side != 1 + (R p).fmod 2))
noncomputable def brk (b : Bool) (x : List Nat) : List Nat := if b then 40 :: (x ++ [41]) else x
/-- the tree written -/
noncomputable def wr (R : Int → Int) : T → List Nat
  | .lf k => [97 + k.toNat]
  | .nd p l r => brk (need R p 1 l) (wr R l) ++ sign p ++ brk (need R p 2 r) (wr R r)
namespace T
/-- operands a to g, signs 0 to 40 -/
noncomputable def In : T → Prop
  | .lf k => 0 ≤ k ∧ k < 7
  | .nd p l r => 0 ≤ p ∧ p < 41 ∧ l.In ∧ r.In
theorem Ok.in_ {t : T} : ∀ {f : Int} {n : Nat}, t.Ok f n → 0 ≤ f → f + n < 7 → t.In := by
  induction t with
  | lf k => rintro f n ⟨rfl, rfl⟩ h1 h2; exact ⟨h1, by simpa using h2⟩
  | nd p l r i1 i2 =>
    rintro f n ⟨h1, h2, n₁, n₂, rfl, a, b⟩ h3 h4
    exact ⟨h1, h2, i1 a h3 (by omega), i2 b (by omega) (by omega)⟩
end T
theorem sign_len (p : Int) : (sign p).length ≤ 3 := by
  unfold sign
  have h : ∀ x ∈ signTab, x.length ≤ 3 := by decide
  by_cases hp : p.toNat < signTab.length
  · rw [List.getD_eq_getElem?_getD, List.getElem?_eq_getElem hp]; exact h _ (List.getElem_mem _)
  · rw [List.getD_eq_getElem?_getD, List.getElem?_eq_none (by omega)]; simp
theorem brk_len (b : Bool) (x : List Nat) : (brk b x).length ≤ x.length + 2 := by
  unfold brk; split <;> simp
theorem wr_len (R : Int → Int) (t : T) : (wr R t).length ≤ 8 * t.size + 1 := by
  induction t with
  | lf k => simp [wr]
  | nd p l r i1 i2 =>
    simp only [wr, List.length_append, T.size]
    have := sign_len p
    have h1 := brk_len (need R p 1 l) (wr R l)
    have h2 := brk_len (need R p 2 r) (wr R r)
    omega
end

section
open PySem PySem.Spec PySem.Calls PyProof.Rows PySem.W

noncomputable abbrev slist (xs : List (List Nat)) : PyData := .list (xs.map fun x => PyData.str (tx x))

/-- where the bracket at k is closed, sought from to on -/
noncomputable def closeAt (x : List Nat) (k : Nat) : Nat → Nat → Option Nat
  | 0, _ => none
  | f + 1, to => if ((x.take to).drop k).count 40 = ((x.take to).drop k).count 41 then some to else closeAt x k f (to + 1)
/-- the texts with one pair of brackets left out, of those opened ahead of i -/
noncomputable def wo (x : List Nat) : Nat → Option (List (List Nat))
  | 0 => some []
  | i + 1 => match wo x i with
    | none => none
    | some ts => if x[i]? = some 40 then (match closeAt x i (x.length + 1) (i + 1) with
        | none => none
        | some to => some (ts ++ [x.take i ++ (x.take (to - 1)).drop (i + 1) ++ x.drop to]))
      else some ts
theorem wo_prefix {x : List Nat} : ∀ {i : Nat} {ts}, wo x i = some ts → ∀ j, j ≤ i → ∃ us, wo x j = some us
  | 0, ts, h, j, hj => by have : j = 0 := by omega
                          subst this; exact ⟨_, h⟩
  | i + 1, ts, h, j, hj => by
    by_cases e : j = i + 1
    · subst e; exact ⟨_, h⟩
    · rw [wo] at h
      cases hw : wo x i with
      | none => rw [hw] at h; cases h
      | some us => exact wo_prefix hw j (by omega)
end

section
open PySem PySem.Spec PySem.Calls PyProof.Rows PySem.W

/-- the tokens' texts and numbers -/
noncomputable def tokTab : List (List Nat × Int) := [([33], 54), ([33, 61], 28), ([37], 24), ([37, 61], 40), ([38], 19), ([38, 61], 41), ([40], 7), ([41], 8), ([42], 16), ([42, 42], 35), ([42, 42, 61], 46), ([42, 61], 38), ([43], 14), ([43, 61], 36), ([44], 12), ([45], 15), ([45, 61], 37), ([45, 62], 51), ([46], 23), ([46, 46, 46], 52), ([47], 17), ([47, 47], 47), ([47, 47, 61], 48), ([47, 61], 39), ([58], 11), ([58, 61], 53), ([59], 13), ([60], 20), ([60, 60], 33), ([60, 60, 61], 44), ([60, 61], 29), ([61], 22), ([61, 61], 27), ([62], 21), ([62, 61], 30), ([62, 62], 34), ([62, 62, 61], 45), ([64], 49), ([64, 61], 50), ([91], 9), ([93], 10), ([94], 32), ([94, 61], 43), ([123], 25), ([124], 18), ([124, 61], 42), ([125], 26), ([126], 31)]
noncomputable def tokOf (x : List Nat) : Option Int := (tokTab.find? (fun e => e.1 == x)).map (·.2)
/-- the pieces at a text's head, the longest first -/
noncomputable def pcs (x : List Nat) : List (List Nat) := ([3, 2, 1].filter fun n => (tokOf (x.take n)).isSome).map x.take
noncomputable def symb : Nat → List Nat → Option (List Int)
  | _, [] => some [0]
  | 0, _ :: _ => none
  | f + 1, c :: x => match pcs (c :: x) with
    | [] => if 97 ≤ c ∧ c ≤ 103 then (symb f x).map ((256 + ((c : Int) - 97)) :: ·) else none
    | q :: _ => match tokOf q with
      | some v => (symb f ((c :: x).drop q.length)).map (v :: ·)
      | none => none
end

section
open PySem PySem.Spec PySem.Calls PyProof.Rows PySem.W

/-- the waiting sign w stays when y comes -/
noncomputable def stays (R : Int → Int) (w y : Int) : Bool := decide (R (w - 14) - R (y - 14) < 0) || ((R (w - 14) - R (y - 14) == 0) && ((R (y - 14)).fmod 2 == 1))
noncomputable def top2 : List T → Option (T × T × List T)
  | r :: l :: ts => some (r, l, ts)
  | _ => none
theorem top2_some {ts : List T} {r l : T} {ts' : List T} (h : top2 ts = some (r, l, ts')) : ts = r :: l :: ts' := by
  unfold top2 at h
  split at h
  · cases h; rfl
  · cases h
/-- waiting signs are taken off -/
noncomputable def popL (R : Int → Int) (y : Int) : List T → List Int → Option (List T × List Int)
  | ts, [] => some (ts, [])
  | ts, w :: ws => if y = 7 ∨ w = 7 then some (ts, w :: ws) else if (y ≠ 8 ∧ y ≠ 0) ∧ stays R w y = true then some (ts, w :: ws) else
    match top2 ts with
    | some (r, l, ts') => popL R y (.nd (w - 14) l r :: ts') ws
    | none => none
noncomputable def stp (R : Int → Int) (st : List T × List Int) (y : Int) : Option (List T × List Int) :=
  if 256 ≤ y then some (.lf (y - 256) :: st.1, st.2) else match popL R y st.1 st.2 with
    | none => none
    | some (ts, ws) => if y = 8 then (match ws with | [] => none | _ :: ws' => some (ts, ws')) else some (ts, y :: ws)
noncomputable def run (R : Int → Int) : List T × List Int → List Int → Option (List T × List Int)
  | st, [] => some st
  | st, y :: ys => match stp R st y with
    | none => none
    | some st' => run R st' ys
/-- a symbol that may come, a sign that may wait -/
noncomputable def SymOk (y : Int) : Prop := y = 7 ∨ y = 8 ∨ (14 ≤ y ∧ y ≤ 54) ∨ 256 ≤ y
noncomputable def WOk (y : Int) : Prop := y = 7 ∨ (14 ≤ y ∧ y ≤ 54)
end

section
open PySem PySem.Spec PySem.Calls PyProof.Rows PySem.W
open Builtin Builtin.Str

theorem rd_strs {h : Heap} {P : Addr → Prop} : ∀ l : List (Str × Tok), RdAll h P (strValues l) (l.map fun x => PyData.str x.1)
  | [] => .nil
  | (x, t) :: r => .cons (.str x t) (rd_strs r)

section
variable {prog : Program} {w : World} {A : Around} {E : Value → Shared → Prop} {own : Bool} {s₀ s : Shared} {env : Env} {m cm : Str → Option Value} {mu : List (Addr × MO)} {fs : List Fact} {K : Frag}

theorem c_split {x y : Str} {t u : Tok} {ls : List Str} {Q : Value → Shared → Prop} (S : St own s₀ env m cm mu fs s)
    (h1 : (decide (x.length < y.length) || decide (strKind x < strKind y)) = false) (hy : (y.length == 0) = false) (hf : (occurrences x y 0 x.length (x.length + 1)).isEmpty = false)
    (hsz : x.length ≤ sizeLine) (hsz2 : (partsBetween x (occurrences x y 0 x.length (x.length + 1)) y.length).length ≤ sizeLine) (hls : partsBetween x (occurrences x y 0 x.length (x.length + 1)) y.length = ls)
    (h : ∀ a s', St own s₀ env m cm mu (.nw (.ref a) (.list (ls.map PyData.str)) :: fs) s' → Q (.ref a) s') : wpAny (model prog w) A (call (.builtin "str.split") [.str x t, .str y u]) Q E s := by
  refine call_meets F.slot_str_split (typeIs_str _ _ _) F.entry_str_split (F.args_str_split_2 _ _) (meets_str_split_sep x y t u h1 hy hf hsz hsz2) ?_
  show wants Q E _ { s with toks := _, heap := s.heap.push { cls := .type "list", data := .seq (strsFrom s.toks (partsBetween x (occurrences x y 0 x.length (x.length + 1)) y.length)).toArray } }
  rw [strsFrom_eq, hls]
  refine h _ _ (S.growD _ (Heap.push_keeps _ _) ?_)
  refine .list none_of_size (Heap.get?_push_size _ rfl) ?_
  have e : (numbered s.toks ls).map (·.1) = ls := numbered_texts _ _
  have r := rd_strs (h := s.heap.push { cls := .type "list", data := .seq (strValues (numbered s.toks ls)).toArray }) (P := fun a => s.heap.get? a = none) (numbered s.toks ls)
  have e2 : (numbered s.toks ls).map (fun x => PyData.str x.1) = ls.map PyData.str := by
    rw [← e, List.map_map, e]; rfl
  rw [e2] at r
  exact r

/-- an if by what its test comes to -/
theorem ex_if {test : Expr} {body orelse : List Stmt} {pos : Pos} {Q : Flow → Shared → Prop} (nd : Bool) (S : St own s₀ env m cm mu fs s)
    (ht : wpAny (model prog w) A (isTrue test env (eval test env)) (fun b s₂ => b = nd ∧ St own s₀ env m cm mu fs s₂) (fun _ _ => False) s)
    (h1 : nd = true → ∀ s₂, St own s₀ env m cm mu fs s₂ → wpAny (model prog w) A (execs body env) Q E s₂)
    (h0 : nd = false → ∀ s₂, St own s₀ env m cm mu fs s₂ → wpAny (model prog w) A (execs orelse env) Q E s₂) :
    wpAny (model prog w) A (exec (.If test body orelse pos) env) Q E s := by
  refine wpAny_If (wpAny_mono ht (fun b s₂ hb => ?_) fun _ _ f => f.elim)
  obtain ⟨rfl, S2⟩ := hb
  cases b with
  | true => rw [if_pos rfl]; exact h1 rfl s₂ S2
  | false => rw [if_neg Bool.false_ne_true]; exact h0 rfl s₂ S2

/-- a while over the frame's state -/
theorem while_st {test : Expr} {body : List Stmt} {pos : Pos} {Q : Flow → Shared → Prop} (J : Nat → (Str → Option Value) → (Str → Option Value) → List (Addr × MO) → List Fact → Prop)
    (S : St true s₀ env m cm mu fs s) (n : Nat) (h0 : J n m cm mu fs)
    (turn : ∀ n m₁ cm₁ mu₁ fs₁ s₁, J n m₁ cm₁ mu₁ fs₁ → St true s₀ env m₁ cm₁ mu₁ fs₁ s₁ → wpAny (model prog w) A (isTrue test env (eval test env)) (fun b s₂ =>
        if b then wpAny (model prog w) A (execs body env) (Flw Q fun s₃ => ∃ k m₂ cm₂ mu₂ fs₂, k < n ∧ J k m₂ cm₂ mu₂ fs₂ ∧ St true s₀ env m₂ cm₂ mu₂ fs₂ s₃) (fun _ _ => False) s₂
        else Q .next s₂) (fun _ _ => False) s₁) :
    wpAny (model prog w) A (exec (.While test body [] pos) env) Q E s := by
  refine ex_while (fun n s => ∃ m cm mu fs, J n m cm mu fs ∧ St true s₀ env m cm mu fs s) ?_ n ⟨m, cm, mu, fs, h0, S⟩
  rintro n s ⟨m, cm, mu, fs, hJ, S⟩
  refine wpAny_mono (turn n m cm mu fs s hJ S) (fun b s₂ h₂ => ?_) fun _ _ f => f
  cases b with
  | false => exact h₂
  | true =>
    simp only [if_true] at h₂ ⊢
    refine wpAny_mono h₂ (fun f s₃ h₃ => ?_) fun _ _ f => f
    have go : (∃ k m₂ cm₂ mu₂ fs₂, k < n ∧ J k m₂ cm₂ mu₂ fs₂ ∧ St true s₀ env m₂ cm₂ mu₂ fs₂ s₃) → ∃ k, k < n ∧ ∃ m cm mu fs, J k m cm mu fs ∧ St true s₀ env m cm mu fs s₃ := by
      rintro ⟨k, m₂, cm₂, mu₂, fs₂, hk, a, b⟩; exact ⟨k, hk, _, _, _, _, a, b⟩
    cases f with
    | next => exact go h₃
    | cont => exact go h₃
    | brk => exact h₃
    | ret v => exact h₃

/-- a list that a comprehension has made -/
theorem St.made {m' : Str → Option Value} {s' : Shared} {D : Addr} {ys : List Value} {xs : List PyData} (S : St own s₀ env m cm mu fs s) (S' : St own s₀ env m' cm mu fs s') (hD : s.heap.get? D = none) (hl : s'.heap.PlainList D ys.toArray)
    (hr : ∀ (h : Heap) (P : Addr → Prop), RdAll h P ys xs) : St own s₀ env m' cm mu (.nw (.ref D) (.list xs) :: fs) s' := by
  obtain ⟨n, e⟩ := hl
  refine S'.add (f := .nw (.ref D) (.list xs)) (.list ⟨notin_of_none S.live hD, ?_⟩ (vs := ys) (n := n) e (hr _ _))
  cases e : s₀.heap.get? D with
  | none => rfl
  | some o' => rw [S.keep _ o' e] at hD; cases hD

/-- a while, then what holds behind it -/
theorem while_to {test : Expr} {body : List Stmt} {pos : Pos} {Q : Flow → Shared → Prop} (J : Nat → (Str → Option Value) → (Str → Option Value) → List (Addr × MO) → List Fact → Prop) (D : (Str → Option Value) → (Str → Option Value) → List (Addr × MO) → List Fact → Prop)
    (S : St true s₀ env m cm mu fs s) (n : Nat) (h0 : J n m cm mu fs)
    (turn : ∀ n m₁ cm₁ mu₁ fs₁ s₁, J n m₁ cm₁ mu₁ fs₁ → St true s₀ env m₁ cm₁ mu₁ fs₁ s₁ → wpAny (model prog w) A (isTrue test env (eval test env)) (fun b s₂ =>
        if b then wpAny (model prog w) A (execs body env) (fun f s₃ => match f with
            | .next | .cont => ∃ k m₂ cm₂ mu₂ fs₂, k < n ∧ J k m₂ cm₂ mu₂ fs₂ ∧ St true s₀ env m₂ cm₂ mu₂ fs₂ s₃
            | .brk => ∃ m₂ cm₂ mu₂ fs₂, D m₂ cm₂ mu₂ fs₂ ∧ St true s₀ env m₂ cm₂ mu₂ fs₂ s₃
            | .ret _ => False) (fun _ _ => False) s₂
        else ∃ m₂ cm₂ mu₂ fs₂, D m₂ cm₂ mu₂ fs₂ ∧ St true s₀ env m₂ cm₂ mu₂ fs₂ s₂) (fun _ _ => False) s₁)
    (cont : ∀ m₂ cm₂ mu₂ fs₂ s₂, D m₂ cm₂ mu₂ fs₂ → St true s₀ env m₂ cm₂ mu₂ fs₂ s₂ → Q .next s₂) :
    wpAny (model prog w) A (exec (.While test body [] pos) env) Q E s := by
  refine wpAny_mono (while_st (E := fun _ _ => False) (Q := fun f s₂ => f = .next ∧ ∃ m₂ cm₂ mu₂ fs₂, D m₂ cm₂ mu₂ fs₂ ∧ St true s₀ env m₂ cm₂ mu₂ fs₂ s₂) J S n h0 fun n m₁ cm₁ mu₁ fs₁ s₁ hJ S₁ => ?_) (fun f s₂ h => ?_) fun _ _ f => f.elim
  · refine wpAny_mono (turn n m₁ cm₁ mu₁ fs₁ s₁ hJ S₁) (fun b s₂ h₂ => ?_) fun _ _ f => f
    cases b with
    | false => exact ⟨rfl, h₂⟩
    | true =>
      simp only [if_true] at h₂ ⊢
      refine wpAny_mono h₂ (fun f s₃ h₃ => ?_) fun _ _ f => f
      cases f with
      | next => exact h₃
      | cont => exact h₃
      | brk => exact ⟨rfl, h₃⟩
      | ret v => exact h₃.elim
  · obtain ⟨rfl, m₂, cm₂, mu₂, fs₂, hD, S₂⟩ := h
    exact cont _ _ _ _ _ hD S₂
end
end

section
open PySem PySem.Spec PySem.Calls PyProof.Rows PySem.W
open Builtin Builtin.Str

theorem sub_one (x : List Nat) (c i : Nat) : subAt (tx x) (tx [c]) i = decide (x[i]? = some c) := by
  rw [StrLaws.subAt_eq]
  show ((x.drop i).take 1 == [c]) = _
  by_cases hi : i < x.length
  · rw [List.drop_eq_getElem_cons hi, List.take_succ_cons, List.take_zero, List.getElem?_eq_getElem hi]
    by_cases h : x[i] = c <;> simp [h]
  · rw [List.drop_eq_nil_of_le (by omega), List.getElem?_eq_none (by omega)]; simp
theorem occ_one (x : List Nat) (c : Nat) : ∀ (n i : Nat) (arr : Array Nat) (free : Nat), i + n = x.length + 1 → free ≤ i → arr.size ≤ i →
    (forIn (List.range' i n) (arr, free) (StrLaws.occBody (tx x) (tx [c]) x.length (x.length + 1))).run.fst.size = arr.size + (x.drop i).count c := by
  intro n
  induction n with
  | zero => intro i arr free h1 h2 h3; rw [List.drop_eq_nil_of_le (by omega)]; simp
  | succ n ih =>
    intro i arr free h1 h2 h3
    rw [List.range'_succ, List.forIn_cons]
    unfold StrLaws.occBody
    by_cases hc : x[i]? = some c
    · have hi : i < x.length := (List.getElem?_eq_some_iff.mp hc).1
      have hx : x[i] = c := (List.getElem?_eq_some_iff.mp hc).2
      have hcond : ((arr.size < x.length + 1 ∧ free ≤ i) ∧ i + (tx [c]).length ≤ x.length) ∧ subAt (tx x) (tx [c]) i = true := by
        rw [sub_one, tx_len]; exact ⟨⟨⟨by omega, h2⟩, by simp; omega⟩, by simp [hc]⟩
      rw [if_pos hcond]
      have := ih (i + 1) (arr.push i) (i + (tx [c]).length) (by omega) (by rw [tx_len]; simp) (by simp; omega)
      unfold StrLaws.occBody at this
      refine Eq.trans this ?_
      rw [List.drop_eq_getElem_cons hi, List.count_cons, hx]
      simp; omega
    · have hcond : ¬ (((arr.size < x.length + 1 ∧ free ≤ i) ∧ i + (tx [c]).length ≤ x.length) ∧ subAt (tx x) (tx [c]) i = true) := by
        rw [sub_one]; simp [hc]
      rw [if_neg hcond]
      have := ih (i + 1) arr free (by omega) (by omega) (by omega)
      unfold StrLaws.occBody at this
      refine Eq.trans this ?_
      by_cases hi : i < x.length
      · have hx : x[i] ≠ c := fun e => hc (by rw [List.getElem?_eq_getElem hi, e])
        rw [List.drop_eq_getElem_cons hi, List.count_cons_of_ne hx]
      · rw [List.drop_eq_nil_of_le (by omega), List.drop_eq_nil_of_le (by omega)]
theorem count_one (x : List Nat) (c : Nat) : Txt.count (tx x) (tx [c]) = x.count c := by
  unfold Txt.count
  rw [StrLaws.occ_eq, tx_len]
  have := occ_one x c (x.length + 1) 0 #[] 0 (by omega) (Nat.le_refl _) (Nat.le_refl _)
  simp only [List.drop_zero] at this
  simp only [Array.length_toList, Nat.sub_zero]
  rw [this]; simp

section
variable {prog : Program} {w : World} {A : Around} {E : Value → Shared → Prop} {own : Bool} {s₀ s : Shared} {env : Env} {m cm : Str → Option Value} {mu : List (Addr × MO)} {fs : List Fact} {K : Frag}
theorem c_count {x : List Nat} {c : Nat} {t u : Tok} {Q : Value → Shared → Prop} (S : St own s₀ env m cm mu fs s) (h : ∀ s' t, St own s₀ env m cm mu fs s' → Q (.int (x.count c) t) s') :
    wpAny (model prog w) A (call (.builtin "str.count") [.str (tx x) t, .str (tx [c]) u]) Q E s :=
  SC.count (by rw [count_one]; exact h _ _ (S.tok _))
end
end

open PySem PySem.Spec PySem.Calls PyProof.Rows PySem.W
local macro_rules | `(tactic| walk_at "mem") => `(tactic| first | exact List.mem_cons_self | (apply List.mem_cons_of_mem; walk_at "mem"))
local macro_rules | `(tactic| walk_at "has") => `(tactic| first | (apply Or.inr; walk_at "mem") | (apply Or.inl; walk_at "mem"))
local macro_rules | `(tactic| walk_at "sz") => `(tactic| first | (rw [sizeLine_eq]; omega) | (simp only [List.length_cons, List.length_nil, List.length_take, List.length_drop, List.length_append, List.length_map, sizeLine_eq]; omega) | (simp [sizeLine_eq]; done) | (simp [sizeLine_eq]; omega))

section
open PySem PySem.Spec PySem.Calls PyProof.Rows PySem.W

noncomputable abbrev KK (w : World) : Frag := heap0 w.params



section
variable {prog : Program} {w : World} {A : Around} {E : Value → Shared → Prop} {s : Shared}

set_option maxHeartbeats 1000000 in
theorem c_isnt {x : Int} {t : Tok} {Q : Value → Shared → Prop} (G : Gl (KK w) s.heap) (hroom : A.depth < recursionLimit) (h : ∀ s', Keeps s s' → Q (.bool (decide (256 ≤ x))) s') :
    wpAny (model prog w) A (call (.ref 31) [.int x t]) Q E s := by
  refine c_enter (K := KK w) (a := 31) G hroom rfl rfl rfl rfl rfl rfl ?_ ?_ ?_
  · exact fun n => kindsX rfl n
  · decide
  intro s₁ A' hA1 hA2 hA3 S
  refine wpAny_execs_cons (wpAny_Return_some ?_)
  refine wpAny_Compare1 ?_
  refine ev_loc S rfl ?_
  refine ev_glo S G rfl ?_
  refine ge_int ?_
  exact h _ S.done

set_option maxHeartbeats 1000000 in
theorem c_iseof {x : Int} {t : Tok} {Q : Value → Shared → Prop} (G : Gl (KK w) s.heap) (hroom : A.depth < recursionLimit) (h : ∀ s', Keeps s s' → Q (.bool (x == 0)) s') :
    wpAny (model prog w) A (call (.ref 38) [.int x t]) Q E s := by
  refine c_enter (K := KK w) (a := 38) G hroom rfl rfl rfl rfl rfl rfl ?_ ?_ ?_
  · exact fun n => kindsX rfl n
  · decide
  intro s₁ A' hA1 hA2 hA3 S
  refine wpAny_execs_cons (wpAny_Return_some ?_)
  refine wpAny_Compare1 ?_
  refine ev_loc S rfl ?_
  refine ev_glo S G rfl ?_
  refine eq_int ?_
  exact h _ S.done

/-- the rank as _law_rank reckons it -/
noncomputable def rkI (a b c pl kd : Int) : Int :=
  if pl < a + b + c then (([a, a + b, a + b + c].filter fun e => decide (e ≤ pl)).length : Int) else if 1 < kd then 4 else 3 + (pl - (a + b + c)).fdiv c

theorem paired_eq {α : Type} {vs ys : List α} (h : Paired (fun v y => y = v) vs ys) : ys = vs := by
  induction h with
  | nil => rfl
  | cons a _ ih => rw [a, ih]

theorem filter_ints (pl : Int) {vs : List Value} {ns : List Int} (i : IntsAre vs ns) :
    (vs.filter fun v => match v with | .int e _ => decide (e ≤ pl) | _ => false).length = (ns.filter fun e => decide (e ≤ pl)).length := by
  induction i with
  | nil => rfl
  | cons k t _ ih =>
    by_cases hk : k ≤ pl
    · rw [List.filter_cons_of_pos (by simpa using hk), List.filter_cons_of_pos (by simpa using hk), List.length_cons, List.length_cons, ih]
    · rw [List.filter_cons_of_neg (by simpa using hk), List.filter_cons_of_neg (by simpa using hk), ih]

set_option maxHeartbeats 2000000 in
theorem c_rank {pl kd a b c : Int} {t u : Tok} {v : Value} {P : Addr → Prop} {Q : Value → Shared → Prop} (G : Gl (KK w) s.heap) (hroom : A.depth < recursionLimit) (hh : A.handled = none)
    (hs : Rd s.heap P v (ilist [a, b, c])) (hc : 0 < c) (hdv : Builtin.divisionGoesByPylong (pl - (a + b + c)) c = false)
    (h : ∀ s' t, Keeps s s' → Q (.int (rkI a b c pl kd) t) s') :
    wpAny (model prog w) A (call (.ref 43) [.int pl t, v, .int kd u]) Q E s := by
  obtain ⟨la, vs, n, rfl, _⟩ := hs.inv
  refine c_enter (K := KK w) (a := 43) G hroom rfl rfl rfl rfl rfl rfl ?_ ?_ ?_
  · exact fun n => kindsX rfl n
  · decide
  intro s₁ A' hA1 hA2 hA3 S
  have S := S.arg hs
  rw [hh] at hA1
  refine ec ?_
  intro Q101 hn101 _
  refine wpAny_Assign_Name (List_ ?_)
  refine spliced_more ?_
  refine ev_callB (K := KK w) S G rfl rfl ?_
  refine spliced_more ?_
  refine Subscript_ ?_
  refine ev_loc S rfl ?_
  refine wpAny_Slice (evalPart_none_step (evalPart_some_step ?_))
  refine ev_int S ?_
  intro s₁ t₁ S
  refine evalPart_none_step ?_
  refine tl_cutI (lo := none) (hi := some 1) S (by walk_at "has") .none (.int _ _) (by walk_at "sz") ?_
  intro l1 s₁ S
  refine spliced_none ?_
  refine c_sumI S hA1 (by walk_at "has") ?_
  intro s₁ t₁ S
  refine spliced_more ?_
  refine ev_callB (K := KK w) S G rfl rfl ?_
  refine spliced_more ?_
  refine Subscript_ ?_
  refine ev_loc S rfl ?_
  refine wpAny_Slice (evalPart_none_step (evalPart_some_step ?_))
  refine ev_int S ?_
  intro s₁ t₂ S
  refine evalPart_none_step ?_
  refine tl_cutI (lo := none) (hi := some 2) S (by walk_at "has") .none (.int _ _) (by walk_at "sz") ?_
  intro l2 s₁ S
  refine spliced_none ?_
  refine c_sumI S hA1 (by walk_at "has") ?_
  intro s₁ t₂ S
  refine spliced_more ?_
  refine ev_callB (K := KK w) S G rfl rfl ?_
  refine spliced_more ?_
  refine ev_loc S rfl ?_
  refine spliced_none ?_
  refine c_sumI S hA1 (by walk_at "has") ?_
  intro s₁ t₃ S
  refine spliced_none ?_
  have e1 : ((([a, b, c].take ((some 1).getD [a, b, c].length)).drop ((none : Option Nat).getD 0)).sum : Int) = a := by simp
  have e2 : ((([a, b, c].take ((some 2).getD [a, b, c].length)).drop ((none : Option Nat).getD 0)).sum : Int) = a + b := by simp
  have e3 : ([a, b, c].sum : Int) = a + b + c := by simp; omega
  rw [e1, e2, e3]
  refine nl_ints (ns := [a, a + b, a + b + c]) S (.cons _ _ (.cons _ _ (.cons _ _ .nil))) (by walk_at "sz") ?_
  intro le s₁ S
  refine st_loc S ?_
  intro s₁ S
  refine hn101 _ ?_
  -- if place < ends[2]
  refine wpAny_execs_cons (wpAny_If (wpAny_isTrue_Compare1 ?_))
  refine ev_cel S rfl ?_
  refine Subscript_ ?_
  refine ev_loc S rfl ?_
  refine ev_int S ?_
  intro s₁ t₄ S
  refine tl_int (k := 2) S (by walk_at "has") rfl rfl (by walk_at "sz") ?_
  intro t₅
  refine lt_int (wpAny_truthy_bool ?_)
  by_cases hp : pl < a + b + c
  · rw [decide_eq_true hp, if_pos rfl]
    refine wpAny_execs_cons (wpAny_Return_some ?_)
    refine ev_callB (K := KK w) S G rfl rfl ?_
    refine spliced_more ?_
    refine ev_comp (own := true) (s₀ := s) (cl := [(Str.ofString "place", s.heap.objs.size + 1)]) (fun v => match v with | .int e _ => decide (e ≤ pl) | _ => false) (fun v y => y = v) ?_ ?hcl ?hclos ?hcell ?hkind ?hnames ?hx
    case hclos => with_unfolding_all rfl
    case hcell => decide
    case hkind => rfl
    case hnames => decide
    case hx => rfl
    case hcl => exact fun n c e => e
    refine ev_loc S rfl ?_
    obtain ⟨vs', n', he, hr, hX, hit⟩ := iter_dat (prog := prog) (w := w) hA1 S (l := le) (xs := [a, a + b, a + b + c].map PyData.int) (by walk_at "has")
    refine ⟨_, _, _, _, _, _, _, S, hit, by walk_at "sz", ?_, ?_, ?_⟩
    · intro b hb; rw [List.mem_singleton.mp hb]; exact ⟨_, he⟩
    · refine ⟨fun C i v s₃ m₃ E' hv hm hk3 S3 => ?_, fun C i v s₃ m₃ E' hv hp hm hk3 S3 => ?_⟩
      · obtain ⟨d, hd, rv⟩ := hr.get' i v hv
        obtain ⟨e, rfl⟩ : ∃ e, d = .int e := by
          have := List.mem_of_getElem? hd
          obtain ⟨e, _, rfl⟩ := List.mem_map.mp this
          exact ⟨e, rfl⟩
        obtain ⟨te, rfl⟩ := rv.intInv
        refine tests_one (wpAny_isTrue_Compare1 ?_)
        refine ev_loc S3 hm ?_
        refine ev_cel S3 rfl ?_
        refine le_int (wpAny_truthy_bool ?_)
        exact ⟨rfl, S3.done⟩
      · refine ev_loc S3 hm ?_
        exact ⟨rfl, S3.done⟩
    · intro D s' ys us hD S' hl hlen hP hF hk
      refine spliced_none ?_
      have hu : us = vs' := by
        apply List.ext_getElem?
        intro j
        cases hj : us[j]? with
        | some v => exact (hP j v hj).symm
        | none =>
          have h1 := List.getElem?_eq_none_iff.mp hj
          have h2 := hr.length
          exact (List.getElem?_eq_none_iff.mpr (by omega)).symm
      rw [hu] at hF
      have hys := paired_eq hF
      refine c_lenL S' (hl.isList) ?_ ?_
      · rw [hys]; have := List.length_filter_le (fun v => match v with | Value.int e _ => decide (e ≤ pl) | _ => false) vs'; have h2 := hr.length; rw [sizeLine_eq]; simp at h2; omega
      intro s₂ t₆ S2
      have hlen2 : (ys.length : Int) = rkI a b c pl kd := by
        unfold rkI
        rw [if_pos hp, hys]
        congr 1
        exact filter_ints pl hr.ints
      rw [hlen2]
      exact h _ _ S2.done
  · rw [decide_eq_false hp, if_neg Bool.false_ne_true]
    refine wpAny_execs_nil ?_
    refine wpAny_execs_cons (wpAny_If (wpAny_isTrue_Compare1 ?_))
    refine ev_loc S rfl ?_
    refine ev_int S ?_
    intro s₁ t₆ S
    refine gt_int (wpAny_truthy_bool ?_)
    by_cases hk1 : 1 < kd
    · rw [decide_eq_true hk1, if_pos rfl]
      refine wpAny_execs_cons (wpAny_Return_some ?_)
      refine ev_int S ?_
      intro s₁ t₇ S
      have e : rkI a b c pl kd = 4 := by unfold rkI; rw [if_neg hp, if_pos hk1]
      have := h s₁ t₇ S.done
      rw [e] at this; exact this
    · rw [decide_eq_false hk1, if_neg Bool.false_ne_true]
      refine wpAny_execs_nil ?_
      refine wpAny_execs_cons (wpAny_Return_some ?_)
      refine wpAny_BinOp ?_
      refine ev_int S ?_
      intro s₁ t₇ S
      refine wpAny_BinOp ?_
      refine wpAny_BinOp ?_
      refine ev_cel S rfl ?_
      refine Subscript_ ?_
      refine ev_loc S rfl ?_
      refine ev_int S ?_
      intro s₁ t₈ S
      refine tl_int (k := 2) S (by walk_at "has") rfl rfl (by walk_at "sz") ?_
      intro t₉
      refine op_sub S ?_
      intro s₁ t₁₀ S
      refine Subscript_ ?_
      refine ev_loc S rfl ?_
      refine ev_int S ?_
      intro s₁ t₁₁ S
      refine tl_int (k := 2) S (by walk_at "has") rfl rfl (by walk_at "sz") ?_
      intro t₁₂
      refine op_div S (by omega) hdv ?_
      intro s₁ t₁₃ S
      refine op_add S ?_
      intro s₁ t₁₄ S
      have e : rkI a b c pl kd = 3 + (pl - (a + b + c)).fdiv c := by unfold rkI; rw [if_neg hp, if_neg hk1]
      have := h s₁ t₁₄ S.done
      rw [e] at this; exact this
end
end

section
open PySem PySem.Spec PySem.Calls PyProof.Rows PySem.W
open Builtin Builtin.Str

noncomputable def chk : List DictEntry → List (List Nat × Int) → Bool
  | [], [] => true
  | e :: es, (k, v) :: tab => (match e.key, e.val with
      | .str x _, .int i _ => x == tx k && i == v
      | _, _ => false) && chk es tab
  | _, _ => false
theorem chk_find : ∀ {es : List DictEntry} {tab : List (List Nat × Int)}, chk es tab = true → ∀ x : List Nat,
    (match tab.find? (fun e => e.1 == x) with
     | some e => ∃ d t, es.find? (·.key.isStr (tx x)) = some d ∧ d.val = .int e.2 t
     | none => es.find? (·.key.isStr (tx x)) = none)
  | [], [], _, _ => rfl
  | [], _ :: _, h, _ => by cases h
  | _ :: _, [], h, _ => by cases h
  | e :: es, (k, v) :: tab, h, x => by
    obtain ⟨hash, key, val⟩ := e
    simp only [chk, Bool.and_eq_true] at h
    obtain ⟨h1, h2⟩ := h
    cases key <;> (try (simp at h1; done))
    rename_i y ty
    cases val <;> (try (simp at h1; done))
    rename_i i ti
    simp only [Bool.and_eq_true, beq_iff_eq] at h1
    obtain ⟨rfl, rfl⟩ := h1
    have hk : (Value.str (tx k) ty).isStr (tx x) = (k == x) := by
      show ((tx k) == (tx x)) = _
      rw [tx_beq]; by_cases hx : k = x <;> simp [hx]
    simp only [List.find?_cons, hk]
    cases hx : k == x with
    | true => exact ⟨_, _, rfl, rfl⟩
    | false => exact chk_find h2 x
theorem chk_ref : ∀ {es : List DictEntry} {tab : List (List Nat × Int)}, chk es tab = true → es.any (·.refKey) = false
  | [], [], _ => rfl
  | [], _ :: _, h => by cases h
  | _ :: _, [], h => by cases h
  | e :: es, (k, v) :: tab, h => by
    obtain ⟨hash, key, val⟩ := e
    simp only [chk, Bool.and_eq_true] at h
    obtain ⟨h1, h2⟩ := h
    rw [List.any_cons, chk_ref h2]
    cases key <;> (try (simp at h1; done))
    rfl
noncomputable def dictEs (o : Option Obj) : Array DictEntry := match o with
  | some ⟨_, _, .dict es _, _⟩ => es
  | _ => #[]
theorem chk_tab (w : World) : chk (dictEs ((KK w).lookup 22)).toList tokTab = true := by rfl
theorem keys_tab (w : World) : KeysLit w.params (dictEs ((KK w).lookup 22)).toList := by
  with_unfolding_all k_keys
theorem ns_tab (w : World) (x : List Nat) : ∃ r, nsIn (KK w) 22 (tx x) = some r ∧ (match tokOf x with | some n => ∃ t, r = some (.int n t) | none => r = none) := by
  have e : nsIn (KK w) 22 (tx x) = (match (dictEs ((KK w).lookup 22)).toList.find? (·.key.isStr (tx x)) with
      | some e => some (some e.val)
      | none => if (dictEs ((KK w).lookup 22)).toList.any (·.refKey) then none else some none) := by rfl
  have h := chk_find (chk_tab w) x
  rw [e]
  unfold tokOf
  cases ht : tokTab.find? (fun e => e.1 == x) with
  | some d =>
    rw [ht] at h
    obtain ⟨d', t, h1, h2⟩ := h
    rw [h1]
    exact ⟨_, rfl, t, by rw [h2]⟩
  | none =>
    rw [ht] at h
    have h' : (dictEs ((KK w).lookup 22)).toList.find? (·.key.isStr (tx x)) = none := h
    rw [h', chk_ref (chk_tab w)]
    exact ⟨none, rfl, rfl⟩

section
variable {prog : Program} {w : World} {A : Around} {E : Value → Shared → Prop} {own : Bool} {s₀ s : Shared} {env : Env} {m cm : Str → Option Value} {mu : List (Addr × MO)} {fs : List Fact}
theorem d_in {x : List Nat} {t : Tok} {Q : Value → Shared → Prop} (S : St own s₀ env m cm mu fs s) (G : Gl (KK w) s₀.heap) (h : ∀ s', St own s₀ env m cm mu fs s' → Q (.bool (tokOf x).isSome) s') :
    wpAny (model prog w) A (compareOp .In (.str (tx x) t) (.ref 22)) Q E s := by
  obtain ⟨r, e, hr⟩ := ns_tab w x
  refine wpAny_in_of (strKind_is prog w (tx x) t) (by decide) (mapOf_K (K := KK w) (prog := prog) (G.keeps S.keep).x rfl (keys_tab w)) ?_
  rw [find_K (K := KK w) (a := 22) rfl e]
  have e2 : r.isSome = (tokOf x).isSome := by
    cases ht : tokOf x with
    | some n => rw [ht] at hr; obtain ⟨t, rfl⟩ := hr; rfl
    | none => rw [ht] at hr; rw [show r = none from hr]; rfl
  rw [e2]
  exact h _ (S.tok _)
theorem d_item {x : List Nat} {t : Tok} {n : Int} {value slice : Expr} {Q : Value → Shared → Prop} (S : St own s₀ env m cm mu fs s) (G : Gl (KK w) s₀.heap) (hx : tokOf x = some n) (h : ∀ s' t, St own s₀ env m cm mu fs s' → Q (.int n t) s')
    (hs : subscripted slice false (.ref 22) (.str (tx x) t) = operate [.ref 22, .str (tx x) t] (getItem (.ref 22) (.str (tx x) t)) := by with_unfolding_all rfl) :
    wpAny (model prog w) A (subscriptTail value slice (.ref 22) (.str (tx x) t)) Q E s := by
  obtain ⟨r, e, hr⟩ := ns_tab w x
  rw [hx] at hr
  obtain ⟨u, rfl⟩ := hr
  have hm := mapOf_K (K := KK w) (a := 22) (prog := prog) (G.keeps S.keep).x rfl (keys_tab w)
  exact tail_any hm.typeIs slot_dict_getitem.lookup (wpAny_getItem_of (strKind_is prog w (tx x) t) hm (find_K (K := KK w) (a := 22) rfl e) (h _ _ (S.tok _))) hs
/-- 'abcdefg'.index -/
theorem c_letter {c : Nat} {t u : Tok} {Q : Value → Shared → Prop} (S : St own s₀ env m cm mu fs s) (h0 : 97 ≤ c) (h1 : c ≤ 103) (h : ∀ s' t, St own s₀ env m cm mu fs s' → Q (.int ((c : Int) - 97) t) s') :
    wpAny (model prog w) A (call (.builtin "str.index") [.str (tx [97, 98, 99, 100, 101, 102, 103]) t, .str (tx [c]) u]) Q E s := by
  have hc : c = 97 ∨ c = 98 ∨ c = 99 ∨ c = 100 ∨ c = 101 ∨ c = 102 ∨ c = 103 := by omega
  rcases hc with rfl | rfl | rfl | rfl | rfl | rfl | rfl
  · exact SC.index (i := 0) (rest := []) (by decide +kernel) (h _ _ (S.tok _))
  · exact SC.index (i := 1) (rest := []) (by decide +kernel) (h _ _ (S.tok _))
  · exact SC.index (i := 2) (rest := []) (by decide +kernel) (h _ _ (S.tok _))
  · exact SC.index (i := 3) (rest := []) (by decide +kernel) (h _ _ (S.tok _))
  · exact SC.index (i := 4) (rest := []) (by decide +kernel) (h _ _ (S.tok _))
  · exact SC.index (i := 5) (rest := []) (by decide +kernel) (h _ _ (S.tok _))
  · exact SC.index (i := 6) (rest := []) (by decide +kernel) (h _ _ (S.tok _))
end
end

section
open PySem PySem.Spec PySem.Calls PyProof.Rows PySem.W
section
variable {prog : Program} {w : World} {A : Around} {E : Value → Shared → Prop} {s : Shared}

set_option maxHeartbeats 2000000 in
theorem c_tree : ∀ (N : Nat) {A : Around} {E : Value → Shared → Prop} {s : Shared} {ps hs : List Int} {f : Int} {t : Tok} {vp vh : Value} {P P' : Addr → Prop} {Q : Value → Shared → Prop}, Gl (KK w) s.heap → A.depth + N + 1 < recursionLimit → A.handled = none → A.units + 3 * N + 100 < cLine →
    Rd s.heap P vp (ilist ps) → Rd s.heap P' vh (ilist hs) → ps.length = N → hs.length = N → N ≤ 20 → (∀ p ∈ ps, 0 ≤ p ∧ p < 41) → (∀ p ∈ hs, 0 ≤ p ∧ p < 8) →
    (∀ s' v (tr : T), tr.Ok f N → New s s' v tr.enc → Q v s') →
    wpAny (model prog w) A (call (.ref 50) [vp, vh, .int f t]) Q E s := by
  intro N
  induction N using Nat.strongRecOn with
  | ind N IH =>
  intro A E s ps hs f t vp vh P P' Q G hroom hh hu hp hh' hpl hhl hN hpb hhb h
  obtain ⟨lp, vs, n, rfl, _⟩ := hp.inv
  obtain ⟨lh, us, n', rfl, _⟩ := hh'.inv
  refine c_enter (K := KK w) (a := 50) G (by omega) rfl rfl rfl rfl rfl rfl ?_ ?_ ?_
  · exact fun n => kindsX rfl n
  · decide
  intro s₁ A' hA1 hA2 hA3 S
  have S := (S.arg hp).arg hh'
  rw [hh] at hA1
  -- if places == []
  refine wpAny_execs_cons (wpAny_If (wpAny_isTrue_Compare1 ?_))
  refine ev_loc S rfl ?_
  refine List_ ?_
  refine spliced_none ?_
  refine nl_nil S ?_
  intro l0 s₁ S
  refine op_eqL S (x := ilist ps) (y := .list []) (by walk_at "has") (by walk_at "has") (ke_shaped_ints _) rfl (by omega) ?_
  rw [eqv_nil]
  refine wpAny_truthy_bool ?_
  by_cases h0 : ps = []
  · rw [decide_eq_true h0, if_pos rfl]
    refine wpAny_execs_cons (wpAny_Return_some (List_ (spliced_more ?_)))
    refine ev_loc S rfl ?_
    refine spliced_none ?_
    refine nl_ints (ns := [f]) S (.cons _ _ .nil) (by walk_at "sz") ?_
    intro a s₂ S
    subst h0
    exact h s₂ (.ref a) (T.lf f) ⟨rfl, by simpa using hpl.symm⟩ (S.doneD (by walk_at "mem"))
  · rw [decide_eq_false h0, if_neg Bool.false_ne_true]
    have hN0 : 0 < N := by rw [← hpl]; exact List.length_pos_iff.mpr h0
    refine wpAny_execs_nil ?_
    -- k = heights.index(min(heights))
    refine ec ?_
    intro Q101 hn101 _
    refine wpAny_Assign_Name ?_
    refine ev_mL PySem.F.slot_list_index PySem.F.type_list_index ?_
    refine ev_loc S rfl ?_
    obtain ⟨us', n'', eh, _, _, _⟩ := S.ints (a := lh) (ns := hs) (by walk_at "has")
    refine ⟨lh, _, rfl, ⟨_, eh⟩, ?_⟩
    refine cw_1 ?_
    refine ev_callB (K := KK w) S G rfl rfl ?_
    refine spliced_more ?_
    refine ev_loc S rfl ?_
    refine spliced_none ?_
    refine c_minI S hA1 (ns := hs) (by walk_at "has") (by omega) ?_
    intro s₁ M t₁ hM _ S
    refine c_indexI (ns := hs) S (by walk_at "has") (layable_small hs hhb (by omega)) hM ?_
    intro s₁ t₂ S
    refine st_loc S ?_
    intro s₁ S
    refine hn101 _ ?_
    have hk : hs.idxOf M < N := by rw [← hhl]; exact List.idxOf_lt_length_of_mem hM
    generalize hs.idxOf M = k at hk S ⊢
    -- return [places[k], tree(..), tree(..)]
    refine wpAny_execs_cons (wpAny_Return_some (List_ (spliced_more (Subscript_ ?_))))
    refine ev_loc S rfl ?_
    refine ev_loc S rfl ?_
    have hpk : ps[k]? = some ps[k] := List.getElem?_eq_getElem (by omega)
    refine tl_int (k := k) S (ns := ps) (by walk_at "has") rfl hpk (by walk_at "sz") ?_
    intro t₃
    have hpkb := hpb ps[k] (List.getElem_mem _)
    refine spliced_more ?_
    refine ev_callF (K := KK w) S G rfl rfl rfl ?_
    refine spliced_more ?_
    refine Subscript_ ?_
    refine ev_loc S rfl ?_
    refine wpAny_Slice (evalPart_none_step (evalPart_some_step ?_))
    refine ev_loc S rfl ?_
    refine evalPart_none_step ?_
    refine tl_cutI (lo := none) (hi := some k) (ns := ps) S (by walk_at "has") .none (.int _ _) (by walk_at "sz") ?_
    intro l1 s₁ S
    refine spliced_more ?_
    refine Subscript_ ?_
    refine ev_loc S rfl ?_
    refine wpAny_Slice (evalPart_none_step (evalPart_some_step ?_))
    refine ev_loc S rfl ?_
    refine evalPart_none_step ?_
    refine tl_cutI (lo := none) (hi := some k) (ns := hs) S (by walk_at "has") .none (.int _ _) (by walk_at "sz") ?_
    intro l2 s₁ S
    refine spliced_more ?_
    refine ev_loc S rfl ?_
    refine spliced_none ⟨(G.keeps S.keep).x _ _ rfl, ?_⟩
    simp only [Option.getD_some, Option.getD_none, List.drop_zero] at S
    refine IH k (by omega) (G.keeps S.keep) (by omega) hA1 (by omega) (S.data (v := .ref l1) (d := ilist (ps.take k)) (by walk_at "has")) (S.data (v := .ref l2) (d := ilist (hs.take k)) (by walk_at "has")) (by simp; omega) (by simp; omega) (by omega) (fun p hp => hpb p (List.mem_of_mem_take hp)) (fun p hp => hhb p (List.mem_of_mem_take hp)) ?_
    intro s₁ v1 T1 hT1 hN1
    have S := S.newD hN1
    refine spliced_more ?_
    refine ev_callF (K := KK w) S G rfl rfl rfl ?_
    refine spliced_more ?_
    refine Subscript_ ?_
    refine ev_loc S rfl ?_
    refine wpAny_Slice (evalPart_some_step (wpAny_BinOp ?_))
    refine ev_loc S rfl ?_
    refine ev_int S ?_
    intro s₁ t₄ S
    refine op_add S ?_
    intro s₁ t₅ S
    refine evalPart_none_step (evalPart_none_step ?_)
    refine tl_cutI (lo := some (k + 1)) (hi := none) (ns := ps) S (by walk_at "has") (.int _ _) .none (by walk_at "sz") ?_
    intro l3 s₁ S
    refine spliced_more ?_
    refine Subscript_ ?_
    refine ev_loc S rfl ?_
    refine wpAny_Slice (evalPart_some_step (wpAny_BinOp ?_))
    refine ev_loc S rfl ?_
    refine ev_int S ?_
    intro s₁ t₆ S
    refine op_add S ?_
    intro s₁ t₇ S
    refine evalPart_none_step (evalPart_none_step ?_)
    refine tl_cutI (lo := some (k + 1)) (hi := none) (ns := hs) S (by walk_at "has") (.int _ _) .none (by walk_at "sz") ?_
    intro l4 s₁ S
    refine spliced_more ?_
    refine wpAny_BinOp ?_
    refine wpAny_BinOp ?_
    refine ev_loc S rfl ?_
    refine ev_loc S rfl ?_
    refine op_add S ?_
    intro s₁ t₈ S
    refine ev_int S ?_
    intro s₁ t₉ S
    refine op_add S ?_
    intro s₁ t₁₀ S
    refine spliced_none ⟨(G.keeps S.keep).x _ _ rfl, ?_⟩
    simp only [Option.getD_some, Option.getD_none, List.take_length] at S
    refine IH (N - (k + 1)) (by omega) (G.keeps S.keep) (by omega) hA1 (by omega) (S.data (v := .ref l3) (d := ilist (ps.drop (k + 1))) (by walk_at "has")) (S.data (v := .ref l4) (d := ilist (hs.drop (k + 1))) (by walk_at "has")) (by simp; omega) (by simp; omega) (by omega) (fun p hp => hpb p (List.mem_of_mem_drop hp)) (fun p hp => hhb p (List.mem_of_mem_drop hp)) ?_
    intro s₁ v2 T2 hT2 hN2
    have S := S.newD hN2
    refine spliced_none ?_
    refine nl_dat (xs := [.int ps[k], T1.enc, T2.enc]) S (by walk_at "sz") ?_ ?_
    · exact .cons (.int _ _) (.cons (S.nw (by walk_at "mem")) (.cons (S.nw (by walk_at "mem")) .nil))
    intro a s₁ S
    exact h s₁ (.ref a) (T.nd ps[k] T1 T2) ⟨hpkb.1, hpkb.2, k, N - (k + 1), by omega, hT1, hT2⟩ (S.doneD (d := (T.nd ps[k] T1 T2).enc) (by walk_at "mem"))
end
end

section
open PySem PySem.Spec PySem.Calls PyProof.Rows PySem.W
section
variable {prog : Program} {w : World} {A : Around} {E : Value → Shared → Prop} {s : Shared}

theorem dv_small {x c : Int} (h0 : 0 < c) (h1 : c < 1000) : Builtin.divisionGoesByPylong x c = false := by
  unfold Builtin.divisionGoesByPylong
  have hc : ¬ ((c == 0) = true) := by simp; omega
  have : c.natAbs.log2 < 10 := by
    rw [Nat.log2_lt (by omega)]; omega
  have h2 : c.natAbs.log2 / 30 = 0 := by omega
  simp [hc, h2]

noncomputable def sideVals (R : Int → Int) (p : Int) (l r : T) (i : Nat) (u₀ u₁ u₂ : Tok) : List Value :=
  [.str (tx []) u₀, .str (tx (if 1 ≤ i then brk (need R p 1 l) (wr R l) else wr R l)) u₁, .str (tx (if 2 ≤ i then brk (need R p 2 r) (wr R r) else wr R r)) u₂]
theorem side_step (R : Int → Int) (p : Int) (l r : T) (i : Nat) (u₀ u₁ u₂ : Tok) (hi : i < 2) : ∃ (ch : T) (wch : List Nat) (uch : Tok), [PyData.int p, l.enc, r.enc][i + 1]? = some ch.enc ∧ (ch = l ∨ ch = r) ∧
    (sideVals R p l r i u₀ u₁ u₂)[i + 1]? = some (.str (tx wch) uch) ∧ wch = wr R ch ∧
    (∀ u', ∃ v₀ v₁ v₂, (sideVals R p l r i u₀ u₁ u₂).set (i + 1) (.str (tx (brk (need R p ((i : Int) + 1) ch) wch)) u') = sideVals R p l r (i + 1) v₀ v₁ v₂) ∧
    (need R p ((i : Int) + 1) ch = false → sideVals R p l r i u₀ u₁ u₂ = sideVals R p l r (i + 1) u₀ u₁ u₂) := by
  match i, hi with
  | 0, _ =>
    refine ⟨l, wr R l, u₁, rfl, .inl rfl, rfl, rfl, fun u' => ⟨u₀, u', u₂, rfl⟩, fun h => ?_⟩
    have h' : need R p 1 l = false := h
    simp [sideVals, h', brk]
  | 1, _ =>
    refine ⟨r, wr R r, u₂, rfl, .inr rfl, rfl, rfl, fun u' => ⟨u₀, u₁, u', rfl⟩, fun h => ?_⟩
    have h' : need R p 2 r = false := h
    simp [sideVals, h', brk]

/-- what is known in the loop -/
noncomputable def WF (lt lz lsg : Addr) (p : Int) (l r : T) (a b c : Int) : List Fact :=
  [.rd (.ref lt) (.list [.int p, l.enc, r.enc]), .rd (.ref lz) (ilist [a, b, c]), .nw (.ref lsg) (.list ((signTab.map tx).map PyData.str))]
/-- ahead of the i-th side -/
noncomputable def WJ (lt lz lsg aS : Addr) (p : Int) (l r : T) (a b c kd : Int) (R : Int → Int) : Nat → (Str → Option Value) → (Str → Option Value) → List (Addr × MO) → List Fact → Prop :=
  fun i m₁ cm₁ mu₁ fs₁ => fs₁ = WF lt lz lsg p l r a b c ∧
        m₁ (Str.ofString "tree") = some (.ref lt) ∧ m₁ (Str.ofString "sizes") = some (.ref lz) ∧ (∃ u, m₁ (Str.ofString "kind") = some (.int kd u)) ∧ m₁ (Str.ofString "signs") = some (.ref lsg) ∧ (∃ u, m₁ (Str.ofString "rank") = some (.int (R p) u)) ∧ m₁ (Str.ofString "sides") = some (.ref aS) ∧
        ∃ u₀ u₁ u₂, mu₁ = [(aS, .l (sideVals R p l r i u₀ u₁ u₂))]
set_option maxHeartbeats 4000000 in
theorem c_written {a b c kd : Int} (hc0 : 0 < c) (hc1 : c < 1000) : ∀ (tr : T) {A : Around} {E : Value → Shared → Prop} {s : Shared} {u : Tok} {vt vz : Value} {P P' : Addr → Prop} {Q : Value → Shared → Prop}, Gl (KK w) s.heap → A.depth + tr.size + 3 < recursionLimit → A.handled = none →
    Rd s.heap P vt tr.enc → Rd s.heap P' vz (ilist [a, b, c]) → tr.In → tr.size ≤ 20 →
    (∀ s' t, Keeps s s' → Q (.str (tx (wr (fun p => rkI a b c p kd) tr)) t) s') →
    wpAny (model prog w) A (call (.ref 57) [vt, vz, .int kd u]) Q E s := by
  intro tr
  induction tr with
  | lf k =>
    intro A E s u vt vz P P' Q G hroom hh ht hz hin hsz h
    obtain ⟨lt, vs, n, rfl, _⟩ := ht.inv
    obtain ⟨lz, us, n', rfl, _⟩ := hz.inv
    refine c_enter (K := KK w) (a := 57) G (by omega) rfl rfl rfl rfl rfl rfl ?_ ?_ ?_
    · exact fun n => kindsX rfl n
    · decide
    intro s₁ A' hA1 hA2 hA3 S
    have S := (S.arg ht).arg hz
    rw [hh] at hA1
    refine wpAny_execs_cons (wpAny_If (wpAny_isTrue_Compare1 ?_))
    refine ev_callB (K := KK w) S G rfl rfl ?_
    refine spliced_more ?_
    refine ev_loc S rfl ?_
    refine spliced_none ?_
    refine c_lenD S (xs := [.int k]) (by walk_at "has") (by walk_at "sz") ?_
    intro s₁ t₁ S
    refine ev_int S ?_
    intro s₁ t₂ S
    refine eq_int (wpAny_truthy_bool ?_)
    rw [if_pos (by rfl)]
    refine wpAny_execs_cons (wpAny_Return_some (Subscript_ ?_))
    refine ev_str (l := [97, 98, 99, 100, 101, 102, 103]) S (by decide +kernel) ?_
    intro s₁ t₃ S
    refine Subscript_ ?_
    refine ev_loc S rfl ?_
    refine ev_int S ?_
    intro s₁ t₄ S
    refine tl_int (ns := [k]) (k := 0) S (by walk_at "has") rfl rfl (by walk_at "sz") ?_
    intro t₅
    obtain ⟨hk0, hk7⟩ := hin
    refine tl_char (k := k.toNat) (c := 97 + k.toNat) S (by omega) (by walk_at "sz") ?_ ?_
    · have : k.toNat < 7 := by omega
      generalize k.toNat = j at this
      match j, this with
      | 0, _ => rfl
      | 1, _ => rfl
      | 2, _ => rfl
      | 3, _ => rfl
      | 4, _ => rfl
      | 5, _ => rfl
      | 6, _ => rfl
    intro s₁ t₆ S
    exact h s₁ t₆ S.done
  | nd p l r ihl ihr =>
    intro A E s u vt vz P P' Q G hroom hh ht hz hin hsz h
    obtain ⟨lt, vs, n, rfl, _⟩ := ht.inv
    obtain ⟨lz, us, n', rfl, _⟩ := hz.inv
    obtain ⟨hp0, hp41, hinl, hinr⟩ := hin
    simp only [T.size] at hroom hsz
    refine c_enter (K := KK w) (a := 57) G (by omega) rfl rfl rfl rfl rfl rfl ?_ ?_ ?_
    · exact fun n => kindsX rfl n
    · decide
    intro s₁ A' hA1 hA2 hA3 S
    have S := (S.arg ht).arg hz
    rw [hh] at hA1
    refine ec ?_
    intro Q1 hn1 _
    refine wpAny_If (wpAny_isTrue_Compare1 ?_)
    refine ev_callB (K := KK w) S G rfl rfl ?_
    refine spliced_more ?_
    refine ev_loc S rfl ?_
    refine spliced_none ?_
    refine c_lenD S (xs := [.int p, l.enc, r.enc]) (by walk_at "has") (by walk_at "sz") ?_
    intro s₁ t₁ S
    refine ev_int S ?_
    intro s₁ t₂ S
    refine eq_int (wpAny_truthy_bool ?_)
    rw [if_neg (by simp)]
    refine wpAny_execs_nil ?_
    refine hn1 _ ?_
    -- signs
    refine ec ?_
    intro Q101 hn101 _
    refine wpAny_Assign_Name ?_
    refine ev_mS PySem.F.slot_str_split PySem.F.type_str_split ?_ (hbase := base_const)
    refine Calls.Constant_str ?_
    refine ⟨_, _, rfl, ?_⟩
    have S := S.tok (s₁.toks + 1)
    refine cw_1 ?_
    refine Calls.Constant_str ?_
    refine c_split (ls := signTab.map tx) (S.tok _) (by decide +kernel) (by decide +kernel) (by decide +kernel) (by decide +kernel) (by decide +kernel) (by decide +kernel) ?_
    intro lsg s₁ S
    refine st_loc S ?_
    intro s₁ S
    refine hn101 _ ?_
    -- rank
    refine ec ?_
    intro Q102 hn102 _
    refine wpAny_Assign_Name ?_
    refine ev_callF (K := KK w) S G rfl rfl rfl ?_
    refine spliced_more ?_
    refine Subscript_ ?_
    refine ev_loc S rfl ?_
    refine ev_int S ?_
    intro s₁ t₃ S
    refine tl_dat (xs := [.int p, l.enc, r.enc]) (k := 0) S (by walk_at "has") rfl rfl (by walk_at "sz") ?_
    intro vp S
    obtain ⟨tp, rfl⟩ := (S.data (v := vp) (d := .int p) (by walk_at "has")).intInv
    refine spliced_more ?_
    refine ev_loc S rfl ?_
    refine spliced_more ?_
    refine ev_loc S rfl ?_
    refine spliced_none ⟨(G.keeps S.keep).x _ _ rfl, ?_⟩
    refine c_rank (G.keeps S.keep) (by omega) hA1 (S.data (v := .ref lz) (d := ilist [a, b, c]) (by walk_at "has")) hc0 (dv_small hc0 hc1) ?_
    intro s₁ t₄ k₁
    have S := S.keeps k₁
    refine st_loc S ?_
    intro s₁ S
    refine hn102 _ ?_
    -- sides
    refine ec ?_
    intro Q103 hn103 _
    refine wpAny_Assign_Name ?_
    refine List_ ?_
    refine spliced_more ?_
    refine ev_str (l := []) S (by decide +kernel) ?_
    intro s₁ t₅ S
    refine spliced_more ?_
    refine ev_callF (K := KK w) S G rfl rfl rfl ?_
    refine spliced_more ?_
    refine Subscript_ ?_
    refine ev_loc S rfl ?_
    refine ev_int S ?_
    intro s₁ t₆ S
    refine tl_dat (xs := [.int p, l.enc, r.enc]) (k := 1) S (by walk_at "has") rfl rfl (by walk_at "sz") ?_
    intro vl S
    refine spliced_more ?_
    refine ev_loc S rfl ?_
    refine spliced_more ?_
    refine ev_loc S rfl ?_
    refine spliced_none ⟨(G.keeps S.keep).x _ _ rfl, ?_⟩
    refine ihl (G.keeps S.keep) (by omega) hA1 (S.data (v := vl) (d := l.enc) (by walk_at "has")) (S.data (v := .ref lz) (d := ilist [a, b, c]) (by walk_at "has")) hinl (by omega) ?_
    intro s₁ t₇ k₂
    have S := S.keeps k₂
    refine spliced_more ?_
    refine ev_callF (K := KK w) S G rfl rfl rfl ?_
    refine spliced_more ?_
    refine Subscript_ ?_
    refine ev_loc S rfl ?_
    refine ev_int S ?_
    intro s₁ t₈ S
    refine tl_dat (xs := [.int p, l.enc, r.enc]) (k := 2) S (by walk_at "has") rfl rfl (by walk_at "sz") ?_
    intro vr S
    refine spliced_more ?_
    refine ev_loc S rfl ?_
    refine spliced_more ?_
    refine ev_loc S rfl ?_
    refine spliced_none ⟨(G.keeps S.keep).x _ _ rfl, ?_⟩
    refine ihr (G.keeps S.keep) (by omega) hA1 (S.data (v := vr) (d := r.enc) (by walk_at "has")) (S.data (v := .ref lz) (d := ilist [a, b, c]) (by walk_at "has")) hinr (by omega) ?_
    intro s₁ t₉ k₃
    have S := S.keeps k₃
    refine spliced_none ?_
    refine nl_mut S (by walk_at "sz") ?_
    intro aS s₁ S
    refine st_loc S ?_
    intro s₁ S
    refine hn103 _ ?_
    -- the loop
    refine ec ?_
    intro QF hnF _
    refine wpAny_For (Tuple_ ?_)
    refine spliced_more ?_
    refine ev_int S ?_
    intro s₁ t₁₀ S
    refine spliced_more ?_
    refine ev_int S ?_
    intro s₁ t₁₁ S
    refine spliced_none ?_
    refine wpAny_newObj_type ?_ (by show ([Value.int 1 t₁₀, Value.int 2 t₁₁].toArray).size ≤ sizeLine; simp [sizeLine_eq])
    have hTn := notin_of_none S.live (none_of_size (h := s₁.heap))
    have S := S.grow s₁.toks (Heap.push_keeps s₁.heap { cls := .type "tuple", data := .seq [Value.int 1 t₁₀, Value.int 2 t₁₁].toArray })
    have hTu : (s₁.heap.push { cls := .type "tuple", data := .seq [Value.int 1 t₁₀, Value.int 2 t₁₁].toArray }).IsTuple s₁.heap.objs.size [Value.int 1 t₁₀, Value.int 2 t₁₁].toArray := ⟨_, Heap.get?_push_size _ rfl, rfl, _, rfl⟩
    have S := S.sub (fs' := WF lt lz lsg p l r a b c)
      (by repeat (first | exact List.forall_mem_nil _ | refine List.forall_mem_cons.mpr ⟨by walk_at "mem", ?_⟩))
    generalize hR : (fun p => rkI a b c p kd) = R
    have hRp : ∀ q, R q = rkI a b c q kd := fun q => by rw [← hR]
    refine for_iter (WJ lt lz lsg aS p l r a b c kd R)
      S (iter_tuple hA1 hTu) ?_ ⟨rfl, rfl, rfl, ⟨_, rfl⟩, rfl, ⟨_, by rw [hRp]; rfl⟩, rfl, _, _, _, by rw [← hR]; rfl⟩ ?_ ?_
    · intro b hb
      rw [List.mem_singleton.mp hb]
      exact ⟨hTn, _, Heap.get?_push_size _ rfl⟩
    · intro i v m₁ cm₁ mu₁ fs₁ s₁ y ex hi hP hJ S
      obtain ⟨rfl, hm1, hm2, ⟨u3, hm3⟩, hm4, ⟨u5, hm5⟩, hm6, u₀, u₁, u₂, rfl⟩ := hJ
      have hi2 : i < 2 := hi
      obtain ⟨tv, rfl⟩ : ∃ tv, v = .int ((i : Int) + 1) tv := by
        match i, hi2 with
        | 0, _ => exact ⟨_, (Option.some.inj hP).symm⟩
        | 1, _ => exact ⟨_, (Option.some.inj hP).symm⟩
      obtain ⟨ch, wch, uch, hch, hlr, hwch, hwl, hset, hno⟩ := side_step R p l r i u₀ u₁ u₂ hi2
      have hwlen : wch.length ≤ 200 := by
        rw [hwl]
        have := wr_len R ch
        rcases hlr with rfl | rfl <;> omega
      refine wp_gen ?_
      intro Qb hQb
      refine ec ?_
      intro Q2 hn2 _
      refine wpAny_If (wpAny_isTrue_Compare1 ?_)
      refine ev_callB (K := KK w) S G rfl rfl ?_
      refine spliced_more ?_
      refine Subscript_ ?_
      refine ev_loc S hm1 ?_
      refine ev_loc S rfl ?_
      refine tl_dat (xs := [.int p, l.enc, r.enc]) (k := i + 1) S (by walk_at "has") (by omega) hch (by walk_at "sz") ?_
      intro vc S
      refine spliced_none ?_
      cases ch with
      | lf q =>
        obtain ⟨lc, _, _, rfl, _⟩ := (S.data (v := vc) (d := (T.lf q).enc) (by walk_at "has")).inv
        refine c_lenD S (xs := [.int q]) (by walk_at "has") (by walk_at "sz") ?_
        intro s₁ t₁₂ S
        refine ev_int S ?_
        intro s₁ t₁₃ S
        refine eq_int (wpAny_truthy_bool ?_)
        rw [if_neg (by simp)]
        refine wpAny_execs_nil ?_
        refine hn2 _ ?_
        refine wpAny_execs_nil ?_
        refine hQb _ _ ?_
        have hnd : need R p ((i : Int) + 1) (T.lf q) = false := rfl
        refine ⟨_, _, [_], [_, _, _], ?_, S.sub fun f hf => List.mem_cons_of_mem _ hf⟩
        exact ⟨rfl, hm1, hm2, ⟨_, hm3⟩, hm4, ⟨_, hm5⟩, hm6, _, _, _, by rw [← hno hnd]⟩
      | nd q l' r' =>
        obtain ⟨lc, _, _, rfl, _⟩ := (S.data (v := vc) (d := (T.nd q l' r').enc) (by walk_at "has")).inv
        refine c_lenD S (xs := [.int q, l'.enc, r'.enc]) (by walk_at "has") (by walk_at "sz") ?_
        intro s₁ t₁₂ S
        refine ev_int S ?_
        intro s₁ t₁₃ S
        refine eq_int (wpAny_truthy_bool ?_)
        rw [if_pos (by simp)]
        -- other
        refine ec ?_
        intro Q104 hn104 _
        refine wpAny_Assign_Name ?_
        refine ev_callF (K := KK w) S G rfl rfl rfl ?_
        refine spliced_more ?_
        refine Subscript_ ?_
        refine Subscript_ ?_
        refine ev_loc S hm1 ?_
        refine ev_loc S rfl ?_
        refine tl_dat (xs := [.int p, l.enc, r.enc]) (k := i + 1) S (by walk_at "has") (by omega) hch (by walk_at "sz") ?_
        intro vc S
        obtain ⟨ld, _, _, rfl, _⟩ := (S.data (v := vc) (d := (T.nd q l' r').enc) (by walk_at "has")).inv
        refine ev_int S ?_
        intro s₁ t₁₄ S
        refine tl_dat (xs := [.int q, l'.enc, r'.enc]) (k := 0) S (by walk_at "has") rfl rfl (by walk_at "sz") ?_
        intro vq S
        obtain ⟨tq, rfl⟩ := (S.data (v := vq) (d := .int q) (by walk_at "has")).intInv
        refine spliced_more ?_
        refine ev_loc S hm2 ?_
        refine spliced_more ?_
        refine ev_loc S hm3 ?_
        refine spliced_none ⟨(G.keeps S.keep).x _ _ rfl, ?_⟩
        refine c_rank (G.keeps S.keep) (by omega) hA1 (S.data (v := .ref lz) (d := ilist [a, b, c]) (by walk_at "has")) hc0 (dv_small hc0 hc1) ?_
        intro s₁ t₁₅ k₄
        rw [← hRp]
        have S := S.keeps k₄
        refine st_loc S ?_
        intro s₁ S
        refine hn104 _ ?_
        have S := S.sub (fs' := WF lt lz lsg p l r a b c ++ ex)
          (fun f hf => List.mem_cons_of_mem _ (List.mem_cons_of_mem _ (List.mem_cons_of_mem _ hf)))
        refine ec ?_
        intro Q3 hn3 _
        refine ex_if (need R p ((i : Int) + 1) (T.nd q l' r')) S ?_ ?_ ?_
        · refine isTrue_or (wpAny_isTrue_Compare1 ?_)
          refine ev_loc S rfl ?_
          refine ev_loc S hm5 ?_
          refine lt_int (wpAny_truthy_bool ?_)
          by_cases h1 : R q < R p
          · rw [decide_eq_true h1, if_pos rfl]
            exact ⟨by simp [need, h1], S⟩
          · rw [decide_eq_false h1, if_neg Bool.false_ne_true]
            refine isTrue_or (isTrue_and (wpAny_isTrue_Compare1 ?_))
            refine ev_loc S rfl ?_
            refine ev_loc S hm5 ?_
            refine eq_int (wpAny_truthy_bool ?_)
            by_cases h2 : R q = R p
            · rw [if_pos (by simpa using h2)]
              refine isTrue_and (wpAny_isTrue_Compare1 ?_)
              refine ev_loc S rfl ?_
              refine wpAny_BinOp ?_
              refine ev_int S ?_
              intro s₁ t₁₆ S
              refine wpAny_BinOp ?_
              refine ev_loc S hm5 ?_
              refine ev_int S ?_
              intro s₁ t₁₇ S
              refine op_mod S (by decide) ?_
              intro s₁ t₁₈ S
              refine op_add S ?_
              intro s₁ t₁₉ S
              refine ne_int (wpAny_truthy_bool ?_)
              by_cases h3 : ((i : Int) + 1) = 1 + (R p).fmod 2
              · rw [if_neg (by simpa using h3)]
                refine (if_neg Bool.false_ne_true).mpr ?_
                refine isTrue_or_nil ?_
                exact ⟨by simp [need, h1, h2, h3], S⟩
              · rw [if_pos (by simpa using h3)]
                refine isTrue_and_nil ?_
                refine (if_pos rfl).mpr ?_
                exact ⟨by simp [need, h2, h3], S⟩
            · rw [if_neg (by simpa using h2)]
              refine (if_neg Bool.false_ne_true).mpr ?_
              refine isTrue_or_nil ?_
              exact ⟨by simp [need, h1, h2], S⟩
        · intro hyes s₁ S
          refine ec ?_
          intro Q4 hn4 _
          refine wpAny_Assign_Subscript ?_
          refine wpAny_BinOp ?_
          refine wpAny_BinOp ?_
          refine ev_str (l := [40]) S (by decide +kernel) ?_
          intro s₁ t₁₆ S
          refine Subscript_ ?_
          refine ev_loc S hm6 ?_
          refine ev_loc S rfl ?_
          refine tl_item (k := i + 1) (S.list (a := aS) List.mem_cons_self).isList (by omega) (by omega) hwch ?_
          refine op_cat S (by walk_at "sz") ?_
          intro s₁ t₁₇ S
          refine ev_str (l := [41]) S (by decide +kernel) ?_
          intro s₁ t₁₈ S
          refine op_cat S (by walk_at "sz") ?_
          intro s₁ t₁₉ S
          refine ev_loc S hm6 ?_
          refine ev_loc S rfl ?_
          refine c_set0 (k := i + 1) S (by omega) (by simp [sideVals]; omega) (by omega) ?_
          intro s₁ S
          refine hn4 _ ?_
          refine wpAny_execs_nil ?_
          refine hn3 _ ?_
          refine wpAny_execs_nil ?_
          refine hn2 _ ?_
          refine wpAny_execs_nil ?_
          refine hQb _ _ ?_
          obtain ⟨v₀, v₁, v₂, hv⟩ := hset t₁₉
          have e : [40] ++ wch ++ [41] = brk (need R p ((i : Int) + 1) (T.nd q l' r')) wch := by rw [hyes]; simp [brk]
          rw [e, hv] at S
          refine ⟨_, _, [_], [_, _, _], ?_, S⟩
          exact ⟨rfl, hm1, hm2, ⟨_, hm3⟩, hm4, ⟨_, hm5⟩, hm6, _, _, _, rfl⟩
        · intro hno' s₁ S
          refine wpAny_execs_nil ?_
          refine hn3 _ ?_
          refine wpAny_execs_nil ?_
          refine hn2 _ ?_
          refine wpAny_execs_nil ?_
          refine hQb _ _ ?_
          rw [hno hno'] at S
          refine ⟨_, _, [_], [_, _, _], ?_, S⟩
          exact ⟨rfl, hm1, hm2, ⟨_, hm3⟩, hm4, ⟨_, hm5⟩, hm6, _, _, _, rfl⟩
    · intro m₁ cm₁ mu₁ fs₁ s₁ hJ S
      obtain ⟨rfl, hm1, hm2, ⟨u3, hm3⟩, hm4, ⟨u5, hm5⟩, hm6, u₀, u₁, u₂, rfl⟩ := hJ
      refine hnF _ ?_
      refine wpAny_execs_cons (wpAny_Return_some (wpAny_BinOp (wpAny_BinOp ?_)))
      refine Subscript_ ?_
      refine ev_loc S hm6 ?_
      refine ev_int S ?_
      intro s₁ t₁₂ S
      refine tl_item (k := 1) (S.list (a := aS) List.mem_cons_self).isList rfl (by decide) rfl ?_
      refine Subscript_ ?_
      refine ev_loc S hm4 ?_
      refine Subscript_ ?_
      refine ev_loc S hm1 ?_
      refine ev_int S ?_
      intro s₁ t₁₃ S
      refine tl_dat (xs := [.int p, l.enc, r.enc]) (k := 0) S (by walk_at "has") rfl rfl (by walk_at "sz") ?_
      intro vp' S
      obtain ⟨tp', rfl⟩ := (S.data (v := vp') (d := .int p) (by walk_at "has")).intInv
      have hsg : ((signTab.map tx).map PyData.str)[p.toNat]? = some (.str (tx (sign p))) := by
        have hp : p.toNat < signTab.length := by show p.toNat < 41; omega
        simp only [List.getElem?_map, List.getElem?_eq_getElem hp, Option.map_some, sign, List.getD_eq_getElem?_getD, Option.getD_some]
      refine tl_dat (k := p.toNat) (xs := (signTab.map tx).map PyData.str) S (by walk_at "has") (by omega) hsg (by rw [List.length_map, List.length_map, sizeLine_eq]; show 41 ≤ 16777216; decide) ?_
      intro vsg S
      obtain ⟨tsg, rfl⟩ := (S.data (v := vsg) (d := .str (tx (sign p))) (by walk_at "has")).strInv
      have hl1 := wr_len R l
      have hl2 := wr_len R r
      have hl3 := sign_len p
      have hl4 := brk_len (need R p 1 l) (wr R l)
      have hl5 := brk_len (need R p 2 r) (wr R r)
      simp only [show (1 ≤ [Value.int 1 t₁₀, Value.int 2 t₁₁].length) from (by show 1 ≤ 2; decide), show (2 ≤ [Value.int 1 t₁₀, Value.int 2 t₁₁].length) from (by show 2 ≤ 2; decide), if_true]
      refine op_cat S (by walk_at "sz") ?_
      intro s₁ t₁₄ S
      refine Subscript_ ?_
      refine ev_loc S hm6 ?_
      refine ev_int S ?_
      intro s₁ t₁₅ S
      refine tl_item (k := 2) (S.list (a := aS) List.mem_cons_self).isList rfl (by decide) rfl ?_
      simp only [show (2 ≤ [Value.int 1 t₁₀, Value.int 2 t₁₁].length) from (by show 2 ≤ 2; decide), if_true]
      refine op_cat S (by walk_at "sz") ?_
      intro s₁ t₁₆ S
      rw [hR] at h
      exact h s₁ t₁₆ S.done
end
end

section
open PySem PySem.Spec PySem.Calls PyProof.Rows PySem.W
section
variable {prog : Program} {w : World} {A : Around} {E : Value → Shared → Prop} {s : Shared}

/-- ahead of the i-th sign -/
noncomputable def OJ (x : List Nat) (aT : Addr) : Nat → (Str → Option Value) → (Str → Option Value) → List (Addr × MO) → List Fact → Prop :=
  fun i m₁ cm₁ mu₁ fs₁ => fs₁ = [] ∧ (∃ u, m₁ (Str.ofString "text") = some (.str (tx x) u)) ∧ m₁ (Str.ofString "texts") = some (.ref aT) ∧
      ∃ us vs, wo x i = some us ∧ us.length ≤ i ∧ mu₁ = [(aT, .l vs)] ∧ ∀ (h : Heap) (P : Addr → Prop), RdAll h P vs (us.map fun x => PyData.str (tx x))
/-- ahead of a turn of the while -/
noncomputable def OW (x : List Nat) (i to : Nat) (aT : Addr) (vs : List Value) (y : Addr × MO) (ex : List Fact) : Nat → (Str → Option Value) → (Str → Option Value) → List (Addr × MO) → List Fact → Prop :=
  fun n m₂ cm₂ mu₂ fs₂ => ∃ q u, n ≤ x.length + 1 ∧ closeAt x i n q = some to ∧ i + 1 ≤ q ∧ (∃ u, m₂ (Str.ofString "text") = some (.str (tx x) u)) ∧ m₂ (Str.ofString "texts") = some (.ref aT) ∧ (∃ u, m₂ (Str.ofString "k") = some (.int i u)) ∧ m₂ (Str.ofString "to") = some (.int (q : Nat) u) ∧
          mu₂ = [(aT, .l vs)] ++ [y] ∧ fs₂ = [] ++ ex
set_option maxHeartbeats 4000000 in
theorem c_without {x : List Nat} {t : Tok} {ts : List (List Nat)} {Q : Value → Shared → Prop} (G : Gl (KK w) s.heap) (hroom : A.depth < recursionLimit) (hh : A.handled = none)
    (hx : x.length ≤ 1000) (hwo : wo x x.length = some ts)
    (h : ∀ s' v, New s s' v (slist ts) → Q v s') :
    wpAny (model prog w) A (call (.ref 64) [.str (tx x) t]) Q E s := by
  refine c_enter (K := KK w) (a := 64) G hroom rfl rfl rfl rfl rfl rfl ?_ ?_ ?_
  · exact fun n => kindsX rfl n
  · decide
  intro s₁ A' hA1 hA2 hA3 S
  rw [hh] at hA1
  refine ec ?_
  intro Q101 hn101 _
  refine wpAny_Assign_Name ?_
  refine List_ ?_
  refine spliced_none ?_
  refine nl_mut S (by walk_at "sz") ?_
  intro aT s₁ S
  refine st_loc S ?_
  intro s₁ S
  refine hn101 _ ?_
  refine ec ?_
  intro QF hnF _
  refine wpAny_For ?_
  refine ev_callT (K := KK w) S G rfl rfl ?_
  refine spliced_more ?_
  refine ev_callB (K := KK w) S G rfl rfl ?_
  refine spliced_more ?_
  refine ev_loc S rfl ?_
  refine spliced_none ?_
  refine len_tx S (by walk_at "sz") ?_
  intro s₁ t₁ S
  refine spliced_none ?_
  refine call_range_1 ?_
  have hrg := IsRange.new s₁.heap 0 x.length 1 s₁.toks t₁ (s₁.toks + 1)
  have S := S.grow (s₁.toks + 1 + 1) (Heap.push_keeps s₁.heap { cls := .type "range", data := .fields #[.int 0 s₁.toks, .int (x.length : Int) t₁, .int 1 (s₁.toks + 1)] })
  refine for_iter (OJ x aT)
    S (iter_range hA1 hrg (by omega)) (fun b hb => nomatch hb) ⟨rfl, ⟨_, rfl⟩, rfl, [], [], rfl, by simp, rfl, fun _ _ => .nil⟩ ?_ ?_
  · intro i v m₁ cm₁ mu₁ fs₁ s₁ y ex hi hP hJ S
    obtain ⟨rfl, ⟨u1, hm1⟩, hm2, us, vs, hus, hul, rfl, hvs⟩ := hJ
    obtain ⟨tv, rfl⟩ := hP
    have hxi : x[i]? = some x[i] := List.getElem?_eq_getElem hi
    refine wp_gen ?_
    intro Qb hQb
    refine ec ?_
    intro Q1 hn1 _
    refine ex_if (decide (x[i] = 40)) S ?_ ?_ ?_
    · refine wpAny_isTrue_Compare1 (Subscript_ ?_)
      refine ev_loc S hm1 ?_
      refine ev_loc S rfl ?_
      refine tl_char (k := i) (c := x[i]) S rfl (by walk_at "sz") hxi ?_
      intro s₁ t₂ S
      refine ev_str (l := [40]) S (by decide +kernel) ?_
      intro s₁ t₃ S
      refine op_seq (wpAny_truthy_bool ?_)
      exact ⟨by simp, S⟩
    · intro h40 s₁ S
      have h40 : x[i] = 40 := of_decide_eq_true h40
      obtain ⟨us', hus'⟩ := wo_prefix hwo (i + 1) hi
      have hcl : ∃ to, closeAt x i (x.length + 1) (i + 1) = some to ∧ us' = us ++ [x.take i ++ (x.take (to - 1)).drop (i + 1) ++ x.drop to] := by
        rw [wo, hus] at hus'
        simp only [hxi, h40, if_true] at hus'
        cases hc : closeAt x i (x.length + 1) (i + 1) with
        | none => rw [hc] at hus'; cases hus'
        | some to => rw [hc] at hus'; exact ⟨to, rfl, (Option.some.inj hus').symm⟩
      obtain ⟨to, hto, rfl⟩ := hcl
      refine ec ?_
      intro Q102 hn102 _
      refine wpAny_Assign_Name ?_
      refine wpAny_BinOp ?_
      refine ev_loc S rfl ?_
      refine ev_int S ?_
      intro s₁ t₂ S
      refine op_add S ?_
      intro s₁ t₃ S
      refine st_loc S ?_
      intro s₁ S
      refine hn102 _ ?_
      refine ec ?_
      intro Qw hnw _
      refine while_st (OW x i to aT vs y ex) S (x.length + 1) ?_ ?_
      · exact ⟨i + 1, _, Nat.le_refl _, hto, Nat.le_refl _, ⟨_, hm1⟩, hm2, ⟨_, rfl⟩, by rfl, rfl, rfl⟩
      · rintro n m₂ cm₂ mu₂ fs₂ s₁ ⟨q, u, hn, hq, hiq, ⟨u2, hk1⟩, hk2, ⟨u3, hk3⟩, hk4, rfl, rfl⟩ S
        cases n with
        | zero => cases hq
        | succ n =>
        refine wp_gen ?_
        intro Qt hQt
        refine wpAny_isTrue_Compare1 ?_
        refine ev_mS PySem.F.slot_str_count PySem.F.type_str_count ?_
        refine Subscript_ ?_
        refine ev_loc S hk1 ?_
        refine wpAny_Slice (evalPart_some_step ?_)
        refine ev_loc S hk3 ?_
        refine evalPart_some_step ?_
        refine ev_loc S hk4 ?_
        refine evalPart_none_step ?_
        refine tl_cut (lo := some i) (hi := some q) S (.int _ _) (.int _ _) (by walk_at "sz") ?_
        intro s₁ t₄ S
        refine ⟨_, _, rfl, ?_⟩
        refine cw_1 ?_
        refine ev_str (l := [40]) S (by decide +kernel) ?_
        intro s₁ t₅ S
        refine c_count S ?_
        intro s₁ t₆ S
        refine ev_mS PySem.F.slot_str_count PySem.F.type_str_count ?_
        refine Subscript_ ?_
        refine ev_loc S hk1 ?_
        refine wpAny_Slice (evalPart_some_step ?_)
        refine ev_loc S hk3 ?_
        refine evalPart_some_step ?_
        refine ev_loc S hk4 ?_
        refine evalPart_none_step ?_
        refine tl_cut (lo := some i) (hi := some q) S (.int _ _) (.int _ _) (by walk_at "sz") ?_
        intro s₁ t₇ S
        refine ⟨_, _, rfl, ?_⟩
        refine cw_1 ?_
        refine ev_str (l := [41]) S (by decide +kernel) ?_
        intro s₁ t₈ S
        refine c_count S ?_
        intro s₁ t₉ S
        refine ne_int (wpAny_truthy_bool ?_)
        refine hQt _ _ ?_
        simp only [Option.getD_some]
        rw [closeAt] at hq
        by_cases hb : ((x.take q).drop i).count 40 = ((x.take q).drop i).count 41
        · rw [if_pos hb] at hq
          cases hq
          rw [if_neg (by simp [hb])]
          refine hnw _ ?_
          refine ec ?_
          intro Q4 hn4 _
          refine wpAny_Expr ?_
          refine ev_mL PySem.F.slot_list_append PySem.F.type_list_append ?_
          refine ev_loc S hk2 ?_
          refine ⟨aT, _, rfl, S.list (a := aT) List.mem_cons_self, ?_⟩
          refine cw_1 ?_
          refine wpAny_BinOp ?_
          refine wpAny_BinOp ?_
          refine Subscript_ ?_
          refine ev_loc S hk1 ?_
          refine wpAny_Slice (evalPart_none_step (evalPart_some_step ?_))
          refine ev_loc S hk3 ?_
          refine evalPart_none_step ?_
          refine tl_cut (lo := none) (hi := some i) S .none (.int _ _) (by walk_at "sz") ?_
          intro s₁ t₁₀ S
          refine Subscript_ ?_
          refine ev_loc S hk1 ?_
          refine wpAny_Slice (evalPart_some_step (wpAny_BinOp ?_))
          refine ev_loc S hk3 ?_
          refine ev_int S ?_
          intro s₁ t₁₁ S
          refine op_add S ?_
          intro s₁ t₁₂ S
          refine evalPart_some_step (wpAny_BinOp ?_)
          refine ev_loc S hk4 ?_
          refine ev_int S ?_
          intro s₁ t₁₃ S
          refine op_sub S ?_
          intro s₁ t₁₄ S
          refine evalPart_none_step ?_
          have eto : ((to : Int) - 1) = ((to - 1 : Nat) : Int) := by omega
          refine tl_cut (lo := some (i + 1)) (hi := some (to - 1)) S (.int _ _) (by rw [eto]; exact .int _ _) (by walk_at "sz") ?_
          intro s₁ t₁₅ S
          simp only [Option.getD_some, Option.getD_none, List.drop_zero]
          refine op_cat S (by walk_at "sz") ?_
          intro s₁ t₁₆ S
          refine Subscript_ ?_
          refine ev_loc S hk1 ?_
          refine wpAny_Slice (evalPart_some_step ?_)
          refine ev_loc S hk4 ?_
          refine evalPart_none_step (evalPart_none_step ?_)
          refine tl_cut (lo := some to) (hi := none) S (.int _ _) .none (by walk_at "sz") ?_
          intro s₁ t₁₇ S
          simp only [Option.getD_some, Option.getD_none, List.take_length]
          refine op_cat S (by walk_at "sz") ?_
          intro s₁ t₁₈ S
          have hvl : vs.length = us.length := by have := (hvs {} fun _ => True).length; simpa using this
          refine c_append0 S (by walk_at "sz") ?_
          intro s₁ S
          refine hn4 _ ?_
          refine wpAny_execs_nil ?_
          refine hn1 _ ?_
          refine wpAny_execs_nil ?_
          refine hQb _ _ ?_
          refine ⟨_, _, [_], [], ?_, S⟩
          refine ⟨rfl, ⟨_, hk1⟩, hk2, _, _, hus', by simp; omega, rfl, fun h P => ?_⟩
          rw [List.map_append]
          exact (hvs h P).snoc (.str _ _)
        · rw [if_neg hb] at hq
          rw [if_pos (by simp; omega)]
          refine ec ?_
          intro Q103 hn103 _
          refine wpAny_Assign_Name ?_
          refine wpAny_BinOp ?_
          refine ev_loc S hk4 ?_
          refine ev_int S ?_
          intro s₁ t₁₀ S
          refine op_add S ?_
          intro s₁ t₁₁ S
          refine st_loc S ?_
          intro s₁ S
          refine hn103 _ ?_
          refine wpAny_execs_nil ?_
          refine ⟨n, _, _, _, _, Nat.lt_succ_self _, ?_, S⟩
          exact ⟨q + 1, _, by omega, hq, by omega, ⟨_, hk1⟩, hk2, ⟨_, hk3⟩, by rfl, rfl, rfl⟩
    · intro h40 s₁ S
      have h40 : x[i] ≠ 40 := of_decide_eq_false h40
      refine wpAny_execs_nil ?_
      refine hn1 _ ?_
      refine wpAny_execs_nil ?_
      refine hQb _ _ ?_
      refine ⟨_, _, [_], [], ?_, S⟩
      refine ⟨rfl, ⟨_, hm1⟩, hm2, us, vs, ?_, by omega, rfl, hvs⟩
      rw [wo, hus]; simp [hxi, h40]
  · intro m₁ cm₁ mu₁ fs₁ s₁ hJ S
    obtain ⟨rfl, ⟨u1, hm1⟩, hm2, us, vs, hus, hul, rfl, hvs⟩ := hJ
    rw [hwo] at hus; cases hus
    refine hnF _ ?_
    refine wpAny_execs_cons (wpAny_Return_some ?_)
    refine ev_loc S hm2 ?_
    have S := S.freeze (xs := ts.map fun x => PyData.str (tx x)) (hvs _ _)
    exact h s₁ (.ref aT) (S.doneD (by walk_at "mem"))
end
end

section
open PySem PySem.Spec PySem.Calls PyProof.Rows PySem.W
section
variable {prog : Program} {w : World} {A : Around} {E : Value → Shared → Prop} {s : Shared}

theorem sym_small {n : Nat} {x : List Nat} {r : List Int} (h : symb n x = some r) : r.length ≤ x.length + 1 := by
  induction n generalizing x r with
  | zero => cases x with
    | nil => cases h; simp
    | cons c x => cases h
  | succ n ih => cases x with
    | nil => cases h; simp
    | cons c x =>
      rw [symb] at h
      split at h
      · split at h
        · obtain ⟨r', hr, rfl⟩ := Option.map_eq_some_iff.mp h
          have := ih hr; simp; omega
        · cases h
      · rename_i q qs hq
        split at h
        · obtain ⟨r', hr, rfl⟩ := Option.map_eq_some_iff.mp h
          have h1 := ih hr
          have : 1 ≤ q.length := by
            have hm : q ∈ pcs (c :: x) := by rw [hq]; exact List.mem_cons_self
            obtain ⟨k, hk, rfl⟩ := List.mem_map.mp hm
            have hk' := (List.mem_filter.mp hk).1
            have : 1 ≤ k := by simp at hk'; omega
            simp; omega
          simp at h1 ⊢; omega
        · cases h
theorem pc_pos {x : List Nat} {c : Nat} {q : List Nat} (hm : q ∈ pcs (c :: x)) : 1 ≤ q.length ∧ q.length ≤ 3 := by
  obtain ⟨k, hk, rfl⟩ := List.mem_map.mp hm
  have hk' := (List.mem_filter.mp hk).1
  have : 1 ≤ k ∧ k ≤ 3 := by simp at hk'; omega
  simp; omega
theorem shaped_strs (xs : List (List Nat)) (h : ∀ x ∈ xs, ∀ c ∈ x, c < 128) : SeqAt.shaped (slist xs) = true := by
  have h1 : PyData.canLayAll0 (xs.map fun x => PyData.str (tx x)) = true := by
    induction xs with
    | nil => rfl
    | cons x xs ih =>
      simp only [List.map_cons, PyData.canLayAll0, PyData.canLay0, Bool.and_eq_true]
      refine ⟨?_, ih fun y hy => h y (List.mem_cons_of_mem _ hy)⟩
      unfold PyData.strOk
      simp only [List.all_toArray, List.all_eq_true, decide_eq_true_eq]
      intro c hc
      have := h x List.mem_cons_self c hc
      omega
  have h2 : PyData.depthAll (xs.map fun x => PyData.str (tx x)) = 0 := by
    clear h h1
    induction xs with
    | nil => rfl
    | cons x xs ih => simp [PyData.depthAll, PyData.depth, ih]
  simp [SeqAt.shaped, PyData.canLay0, PyData.depth, h1, h2]
theorem shaped_pcs (x : List Nat) (h : ∀ c ∈ x, c < 128) : SeqAt.shaped (slist (pcs x)) = true := by
  refine shaped_strs _ fun q hq c hc => ?_
  obtain ⟨n, _, rfl⟩ := List.mem_map.mp hq
  exact h c (List.mem_of_mem_take hc)
theorem eqv_snil (xs : List (List Nat)) : PyData.eqv (slist xs) (.list []) = decide (xs = []) := by
  cases xs <;> simp [PyData.eqv, PyData.eqvAll]
noncomputable def toN : Value → Nat
  | .int n _ => n.toNat
  | _ => 0
theorem paired_cut {h : Heap} {P : Addr → Prop} {x : List Nat} {vs ys : List Value} (hF : Paired (fun v y => ∃ u, y = .str (tx (x.take (toN v))) u) vs ys) : RdAll h P ys ((vs.map toN).map fun n => PyData.str (tx (x.take n))) := by
  induction hF with
  | nil => exact .nil
  | cons a _ ih => obtain ⟨u, rfl⟩ := a; exact .cons (.str _ _) ih
theorem pcs_vals (x : List Nat) (t1 t2 t3 : Tok) : (([Value.int 3 t1, .int 2 t2, .int 1 t3].filter fun v => (tokOf (x.take (toN v))).isSome).map toN).map (fun n => PyData.str (tx (x.take n))) = (pcs x).map fun q => PyData.str (tx q) := by
  unfold pcs
  have e : ([Value.int 3 t1, .int 2 t2, .int 1 t3].filter fun v => (tokOf (x.take (toN v))).isSome).map toN = [3, 2, 1].filter fun n => (tokOf (x.take n)).isSome := by
    have h := List.filter_map (f := toN) (p := fun n => (tokOf (x.take n)).isSome) (l := [Value.int 3 t1, .int 2 t2, .int 1 t3])
    exact h.symm
  rw [e, List.map_map]; rfl

/-- ahead of a turn -/
noncomputable def SJ (r : List Int) (aS : Addr) : Nat → (Str → Option Value) → (Str → Option Value) → List (Addr × MO) → List Fact → Prop :=
  fun n m₁ cm₁ mu₁ fs₁ => ∃ x' acc rest vs, (∃ u, cm₁ (Str.ofString "text") = some (.str (tx x') u)) ∧ m₁ (Str.ofString "symbols") = some (.ref aS) ∧ symb n x' = some rest ∧ acc ++ rest = r ∧ x'.length ≤ 1000 ∧ (∀ c ∈ x', c < 128) ∧ mu₁ = [(aS, .l vs)] ∧ IntsAre vs acc ∧ fs₁ = []
set_option maxHeartbeats 4000000 in
theorem c_symbols {x : List Nat} {t : Tok} {r : List Int} {Q : Value → Shared → Prop} (G : Gl (KK w) s.heap) (hroom : A.depth < recursionLimit) (hh : A.handled = none) (hu : A.units + 100 < cLine)
    (hx : x.length ≤ 1000) (hasc : ∀ c ∈ x, c < 128) (hsy : symb x.length x = some r)
    (h : ∀ s' v, New s s' v (ilist r) → Q v s') :
    wpAny (model prog w) A (call (.ref 76) [.str (tx x) t]) Q E s := by
  refine c_enter (K := KK w) (a := 76) G hroom rfl rfl rfl rfl rfl rfl ?_ ?_ ?_
  · exact fun n => kindsX rfl n
  · decide
  intro s₁ A' hA1 hA2 hA3 S
  rw [hh] at hA1
  refine ec ?_
  intro Q101 hn101 _
  refine wpAny_Assign_Name ?_
  refine List_ ?_
  refine spliced_none ?_
  refine nl_mut S (by walk_at "sz") ?_
  intro aS s₁ S
  refine st_loc S ?_
  intro s₁ S
  refine hn101 _ ?_
  refine ec ?_
  intro Qw hnw _
  refine while_st (SJ r aS) S x.length ?_ ?_
  · exact ⟨x, [], r, [], ⟨_, rfl⟩, rfl, hsy, rfl, hx, hasc, rfl, .nil, rfl⟩
  · rintro n m₁ cm₁ mu₁ fs₁ s₁ ⟨x', acc, rest, vs, ⟨u1, hm1⟩, hm2, hr, hacc, hxl, hx128, rfl, hvs, rfl⟩ S
    refine wp_gen ?_
    intro Qt hQt
    refine wpAny_isTrue_Compare1 ?_
    refine ev_cel S hm1 ?_
    refine ev_str (l := []) S (by decide +kernel) ?_
    intro s₁ t₁ S
    refine op_sne (wpAny_truthy_bool ?_)
    refine hQt _ _ ?_
    have hrl := sym_small hsy
    have haccl : acc.length + rest.length = r.length := by rw [← hacc]; simp
    have hvl := ints_len hvs
    cases x' with
    | nil =>
      rw [if_neg (by simp)]
      have hr0 : rest = [0] := by cases n <;> exact (Option.some.inj hr).symm
      subst hr0
      refine hnw _ ?_
      refine wpAny_execs_cons (wpAny_Return_some (wpAny_BinOp ?_))
      refine ev_loc S hm2 ?_
      refine List_ ?_
      refine spliced_more ?_
      refine ev_glo S G rfl ?_
      refine spliced_none ?_
      refine nl_ints (ns := [0]) S (.cons _ _ .nil) (by walk_at "sz") ?_
      intro l0 s₁ S
      obtain ⟨ws, n0, e0, hi0, hl0, _⟩ := S.ints (a := l0) (ns := [0]) (by walk_at "has")
      have hwl : ws.length = 1 := hl0
      refine op_addL (xs := r.map PyData.int) S (S.list (a := aS) List.mem_cons_self).isList (lst_isList e0) (by walk_at "sz") ?_ ?_
      · rw [← hacc]; exact rdAll_of_ints (ints_app hvs hi0)
      intro a s₁ S
      exact h s₁ (.ref a) (S.doneD (by walk_at "mem"))
    | cons c x' =>
      rw [if_pos (by simp)]
      cases n with
      | zero => cases hr
      | succ n =>
      rw [symb] at hr
      -- pieces
      refine wp_gen ?_
      intro Qb hQb
      refine ec ?_
      intro Q1 hn1 _
      refine ex_comp (s₀ := s) (cl := [(Str.ofString "text", s.heap.objs.size + 1)]) (fun v => (tokOf ((c :: x').take (toN v))).isSome) (fun v y => ∃ u, y = .str (tx ((c :: x').take (toN v))) u) ?_ ?hcl ?hsw ?hclos ?hcell ?hkind ?hnames ?hx ?hy ?hk
      case hsw => with_unfolding_all rfl
      case hclos => with_unfolding_all rfl
      case hcell => decide
      case hkind => rfl
      case hnames => decide
      case hx => rfl
      case hcl => exact fun n c e => e
      case hy => rfl
      case hk => rfl
      refine Tuple_ ?_
      refine spliced_more ?_
      refine ev_int S ?_
      intro s₁ t₂ S
      refine spliced_more ?_
      refine ev_int S ?_
      intro s₁ t₃ S
      refine spliced_more ?_
      refine ev_int S ?_
      intro s₁ t₄ S
      refine spliced_none ?_
      refine wpAny_newObj_type ?_ (by show ([Value.int 3 t₂, Value.int 2 t₃, Value.int 1 t₄].toArray).size ≤ sizeLine; simp [sizeLine_eq])
      have S := S.grow s₁.toks (Heap.push_keeps s₁.heap { cls := .type "tuple", data := .seq [Value.int 3 t₂, Value.int 2 t₃, Value.int 1 t₄].toArray })
      have hTu : (s₁.heap.push { cls := .type "tuple", data := .seq [Value.int 3 t₂, Value.int 2 t₃, Value.int 1 t₄].toArray }).IsTuple s₁.heap.objs.size [Value.int 3 t₂, Value.int 2 t₃, Value.int 1 t₄].toArray := ⟨_, Heap.get?_push_size _ rfl, rfl, _, rfl⟩
      refine ⟨_, _, _, _, _, _, _, S, iter_tuple hA1 hTu, by walk_at "sz", ?_, ?_, ?_⟩
      · intro b hb; rw [List.mem_singleton.mp hb]; exact ⟨_, Heap.get?_push_size _ rfl⟩
      · have hv3 : ∀ {i : Nat} {v : Value}, [Value.int 3 t₂, Value.int 2 t₃, Value.int 1 t₄][i]? = some v → ∃ (k : Nat) (u : Tok), v = .int k u := by
          intro i v hv
          have := List.mem_of_getElem? hv
          simp at this
          rcases this with rfl | rfl | rfl
          · exact ⟨3, _, rfl⟩
          · exact ⟨2, _, rfl⟩
          · exact ⟨1, _, rfl⟩
        refine ⟨fun C i v s₃ m₃ E' hv hm hk3 S3 => ?_, fun C i v s₃ m₃ E' hv hp hm hk3 S3 => ?_⟩
        · obtain ⟨k, u, rfl⟩ := hv3 hv
          refine tests_one (wpAny_isTrue_Compare1 (Subscript_ ?_))
          refine ev_cel S3 hm1 ?_
          refine wpAny_Slice (evalPart_none_step (evalPart_some_step ?_))
          refine ev_loc S3 hm ?_
          refine evalPart_none_step ?_
          refine tl_cut (lo := none) (hi := some k) S3 .none (.int _ _) (by walk_at "sz") ?_
          intro s₄ t₅ S3
          have G3 := (G.keeps S.keep).keeps hk3
          refine ev_glo (K := KK w) S3 G3 rfl ?_
          refine d_in S3 G3 ?_
          intro s₅ S3
          refine wpAny_truthy_bool ?_
          exact ⟨rfl, S3.done⟩
        · obtain ⟨k, u, rfl⟩ := hv3 hv
          refine Subscript_ ?_
          refine ev_cel S3 hm1 ?_
          refine wpAny_Slice (evalPart_none_step (evalPart_some_step ?_))
          refine ev_loc S3 hm ?_
          refine evalPart_none_step ?_
          refine tl_cut (lo := none) (hi := some k) S3 .none (.int _ _) (by walk_at "sz") ?_
          intro s₄ t₅ S3
          exact ⟨⟨_, rfl⟩, S3.done⟩
      · intro D s' ys us hD S' hl hlen hP hF
        have hus : us = [Value.int 3 t₂, Value.int 2 t₃, Value.int 1 t₄] := by
          apply List.ext_getElem?
          intro j
          cases hj : us[j]? with
          | some v => exact (hP j v hj).symm
          | none =>
            have h1 := List.getElem?_eq_none_iff.mp hj
            exact (List.getElem?_eq_none_iff.mpr (by rw [hlen] at h1; exact h1)).symm
        rw [hus] at hF
        have S := S.made (xs := (pcs (c :: x')).map fun q => PyData.str (tx q)) S' hD hl (fun h P => by
          have := paired_cut (h := h) (P := P) hF
          rwa [pcs_vals] at this)
        have hplen : (pcs (c :: x')).length ≤ 3 := by
          unfold pcs; rw [List.length_map]; exact List.length_filter_le _ _
        -- if pieces == []
        refine hn1 _ ?_
        refine ec ?_
        intro Q2 hn2 _
        refine ex_if (decide (pcs (c :: x') = [])) S ?_ ?_ ?_
        · refine wpAny_isTrue_Compare1 ?_
          refine ev_loc S rfl ?_
          refine List_ ?_
          refine spliced_none ?_
          refine nl_nil S ?_
          intro l0 s₁ S
          refine op_eqL S (x := slist (pcs (c :: x'))) (y := .list []) (by walk_at "has") (by walk_at "has") (shaped_pcs _ hx128) rfl (by omega) ?_
          rw [eqv_snil]
          refine wpAny_truthy_bool ⟨rfl, S.sub fun f hf => List.mem_cons_of_mem _ hf⟩
        · intro hp s₁ S
          have hp := of_decide_eq_true hp
          rw [hp] at hr
          simp only at hr
          split at hr
          case isFalse => cases hr
          rename_i hc
          obtain ⟨rest', hr', rfl⟩ := Option.map_eq_some_iff.mp hr
          refine ec ?_
          intro Q3 hn3 _
          refine wpAny_Expr ?_
          refine ev_mL PySem.F.slot_list_append PySem.F.type_list_append ?_
          refine ev_loc S hm2 ?_
          refine ⟨aS, _, rfl, S.list (a := aS) List.mem_cons_self, ?_⟩
          refine cw_1 ?_
          refine wpAny_BinOp ?_
          refine ev_int S ?_
          intro s₁ t₅ S
          refine ev_mS PySem.F.slot_str_index PySem.F.type_str_index ?_ (hbase := base_const)
          refine ev_str (l := [97, 98, 99, 100, 101, 102, 103]) S (by decide +kernel) ?_
          intro s₁ t₆ S
          refine ⟨_, _, rfl, ?_⟩
          refine cw_1 ?_
          refine Subscript_ ?_
          refine ev_cel S hm1 ?_
          refine ev_int S ?_
          intro s₁ t₇ S
          refine tl_char (k := 0) (c := c) S rfl (by walk_at "sz") rfl ?_
          intro s₁ t₈ S
          refine c_letter S hc.1 hc.2 ?_
          intro s₁ t₉ S
          refine op_add S ?_
          intro s₁ t₁₀ S
          refine c_append0 S (by simp only [List.length_cons] at haccl; walk_at "sz") ?_
          intro s₁ S
          refine hn3 _ ?_
          refine ec ?_
          intro Q102 hn102 _
          refine wpAny_Assign_Name ?_
          refine Subscript_ ?_
          refine ev_cel S hm1 ?_
          refine wpAny_Slice (evalPart_some_step (ev_int S ?_))
          intro s₁ t₁₁ S
          refine evalPart_none_step (evalPart_none_step ?_)
          refine tl_cut (lo := some 1) (hi := none) S (.int _ _) .none (by walk_at "sz") ?_
          intro s₁ t₁₂ S
          refine st_cel S ?_
          intro s₁ S
          refine hn102 _ ?_
          refine wpAny_execs_nil ?_
          refine hn2 _ ?_
          refine wpAny_execs_nil ?_
          refine hQb _ _ ?_
          refine ⟨n, _, _, [_], [], Nat.lt_succ_self _, ?_, S.sub fun f hf => nomatch hf⟩
          refine ⟨x', acc ++ [256 + ((c : Int) - 97)], rest', _, ⟨t₁₂, ?_⟩, hm2, hr', by rw [← hacc]; simp, by simp at hxl; omega, fun c hc => hx128 c (List.mem_cons_of_mem _ hc), rfl, ints_app hvs (.cons _ _ .nil), rfl⟩
          simp only [Option.getD_some, Option.getD_none, List.take_length, List.drop_succ_cons, List.drop_zero]
          rfl
        · intro hp s₁ S
          have hp := of_decide_eq_false hp
          obtain ⟨q, qs, hq⟩ : ∃ q qs, pcs (c :: x') = q :: qs := by
            cases hq : pcs (c :: x') with
            | nil => exact absurd hq hp
            | cons q qs => exact ⟨q, qs, rfl⟩
          have hqm : q ∈ pcs (c :: x') := by rw [hq]; exact List.mem_cons_self
          have hql := pc_pos hqm
          rw [hq] at hr S
          simp only at hr
          cases htk : tokOf q with
          | none => rw [htk] at hr; cases hr
          | some v =>
          rw [htk] at hr
          obtain ⟨rest', hr', rfl⟩ := Option.map_eq_some_iff.mp hr
          refine ec ?_
          intro Q3 hn3 _
          refine wpAny_Expr ?_
          refine ev_mL PySem.F.slot_list_append PySem.F.type_list_append ?_
          refine ev_loc S hm2 ?_
          refine ⟨aS, _, rfl, S.list (a := aS) List.mem_cons_self, ?_⟩
          refine cw_1 ?_
          refine Subscript_ ?_
          refine ev_glo (K := KK w) S G rfl ?_
          refine Subscript_ ?_
          refine ev_loc S rfl ?_
          refine ev_int S ?_
          intro s₁ t₅ S
          have hqsl : qs.length ≤ 2 := by rw [hq] at hplen; simp at hplen; omega
          refine tl_dat (k := 0) (d := .str (tx q)) (xs := (q :: qs).map fun q => PyData.str (tx q)) S (by walk_at "has") rfl rfl (by walk_at "sz") ?_
          intro vq S
          obtain ⟨tq, rfl⟩ := (S.data (v := vq) (d := .str (tx q)) (by walk_at "has")).strInv
          refine d_item S G htk ?_
          intro s₁ t₆ S
          refine c_append0 S (by simp only [List.length_cons] at haccl; walk_at "sz") ?_
          intro s₁ S
          refine hn3 _ ?_
          refine ec ?_
          intro Q103 hn103 _
          refine wpAny_Assign_Name ?_
          refine Subscript_ ?_
          refine ev_cel S hm1 ?_
          refine wpAny_Slice (evalPart_some_step ?_)
          refine ev_callB (K := KK w) S G rfl rfl ?_
          refine spliced_more ?_
          refine Subscript_ ?_
          refine ev_loc S rfl ?_
          refine ev_int S ?_
          intro s₁ t₇ S
          refine tl_dat (k := 0) (d := .str (tx q)) (xs := (q :: qs).map fun q => PyData.str (tx q)) S (by walk_at "has") rfl rfl (by walk_at "sz") ?_
          intro vq S
          obtain ⟨tq', rfl⟩ := (S.data (v := vq) (d := .str (tx q)) (by walk_at "has")).strInv
          refine spliced_none ?_
          refine len_tx S (by walk_at "sz") ?_
          intro s₁ t₈ S
          refine evalPart_none_step (evalPart_none_step ?_)
          refine tl_cut (lo := some q.length) (hi := none) S (.int _ _) .none (by walk_at "sz") ?_
          intro s₁ t₉ S
          refine st_cel S ?_
          intro s₁ S
          refine hn103 _ ?_
          refine wpAny_execs_nil ?_
          refine hn2 _ ?_
          refine wpAny_execs_nil ?_
          refine hQb _ _ ?_
          refine ⟨n, _, _, [_], [], Nat.lt_succ_self _, ?_, S.sub fun f hf => nomatch hf⟩
          refine ⟨(c :: x').drop q.length, acc ++ [v], rest', _, ⟨t₉, ?_⟩, hm2, hr', by rw [← hacc]; simp, by simp at hxl ⊢; omega, fun c hc => hx128 c (List.mem_of_mem_drop hc), rfl, ints_app hvs (.cons _ _ .nil), rfl⟩
          simp only [Option.getD_some, Option.getD_none, List.take_length]
          rfl
end
end

section
open PySem PySem.Spec PySem.Calls PyProof.Rows PySem.W
section
variable {prog : Program} {w : World} {A : Around} {E : Value → Shared → Prop} {s : Shared}

theorem run_cons {R : Int → Int} {st : List T × List Int} {y : Int} {ys : List Int} {fin} (h : run R st (y :: ys) = some fin) : ∃ st', stp R st y = some st' ∧ run R st' ys = some fin := by
  rw [run] at h
  cases hs : stp R st y with
  | none => rw [hs] at h; cases h
  | some st' => rw [hs] at h; exact ⟨st', rfl, h⟩

theorem ints_snoc {vs : List Value} {l : List Int} {n : Int} (i : IntsAre vs (l ++ [n])) : ∃ us t, vs = us ++ [Value.int n t] ∧ IntsAre us l := by
  have h := ints_len i
  have h1 := ints_take i l.length
  have h2 := ints_drop i l.length
  rw [List.take_left] at h1
  rw [List.drop_left] at h2
  generalize hd : vs.drop l.length = ds at h2
  cases h2 with
  | cons k t r =>
    cases r
    exact ⟨vs.take l.length, t, by rw [← hd]; exact (List.take_append_drop l.length vs).symm, h1⟩
/-- an if whose ways meet behind it -/
theorem ex_ifJ {own : Bool} {s₀ s : Shared} {env : Env} {m cm : Str → Option Value} {mu : List (Addr × MO)} {fs : List Fact} {test : Expr} {body orelse : List Stmt} {pos : Pos} {Q : Flow → Shared → Prop} (nd : Bool) (D : (Str → Option Value) → (Str → Option Value) → List (Addr × MO) → List Fact → Prop) (S : St own s₀ env m cm mu fs s)
    (ht : wpAny (model prog w) A (isTrue test env (eval test env)) (fun b s₂ => b = nd ∧ St own s₀ env m cm mu fs s₂) (fun _ _ => False) s)
    (h1 : nd = true → ∀ s₂, St own s₀ env m cm mu fs s₂ → wpAny (model prog w) A (execs body env) (fun f s₃ => match f with | .next => ∃ m₂ cm₂ mu₂ fs₂, D m₂ cm₂ mu₂ fs₂ ∧ St own s₀ env m₂ cm₂ mu₂ fs₂ s₃ | f => Q f s₃) E s₂)
    (h0 : nd = false → ∀ s₂, St own s₀ env m cm mu fs s₂ → wpAny (model prog w) A (execs orelse env) (fun f s₃ => match f with | .next => ∃ m₂ cm₂ mu₂ fs₂, D m₂ cm₂ mu₂ fs₂ ∧ St own s₀ env m₂ cm₂ mu₂ fs₂ s₃ | f => Q f s₃) E s₂)
    (cont : ∀ m₂ cm₂ mu₂ fs₂ s₃, D m₂ cm₂ mu₂ fs₂ → St own s₀ env m₂ cm₂ mu₂ fs₂ s₃ → Q .next s₃) :
    wpAny (model prog w) A (exec (.If test body orelse pos) env) Q E s := by
  have fin : ∀ f s₃, (match f with | .next => ∃ m₂ cm₂ mu₂ fs₂, D m₂ cm₂ mu₂ fs₂ ∧ St own s₀ env m₂ cm₂ mu₂ fs₂ s₃ | f => Q f s₃) → Q f s₃ := by
    intro f s₃ h
    cases f with
    | next => obtain ⟨m₂, cm₂, mu₂, fs₂, hD, S₂⟩ := h; exact cont _ _ _ _ _ hD S₂
    | cont => exact h
    | brk => exact h
    | ret v => exact h
  exact ex_if nd S ht (fun e s₂ S₂ => wpAny_mono (h1 e s₂ S₂) fin fun _ _ e => e) fun e s₂ S₂ => wpAny_mono (h0 e s₂ S₂) fin fun _ _ e => e
theorem rdAll_rev {h : Heap} {P : Addr → Prop} : ∀ {vs ds}, RdAll h P vs ds → RdAll h P vs.reverse ds.reverse
  | _, _, .nil => .nil
  | _, _, .cons a b => by rw [List.reverse_cons, List.reverse_cons]; exact (rdAll_rev b).snoc a
theorem rdAll_tv {h : Heap} {P : Addr → Prop} : ∀ {tv : List (Value × T)}, (∀ p ∈ tv, Rd h P p.1 p.2.enc) → RdAll h P (tv.map (·.1)) (tv.map fun p => p.2.enc)
  | [], _ => .nil
  | p :: tv, hp => .cons (hp p List.mem_cons_self) (rdAll_tv fun q hq => hp q (List.mem_cons_of_mem _ hq))
theorem St.dropHead {s₀ s : Shared} {env : Env} {m cm : Str → Option Value} {mu : List (Addr × MO)} {fs : List Fact} {a : Addr} {x : MO} (S : St true s₀ env m cm ((a, x) :: mu) fs s) : St true s₀ env m cm mu fs s := by
  have hsub : ∀ b, b ∈ XS true env mu → b ∈ XS true env ((a, x) :: mu) := fun b hb => (XS_cons env a x mu b).mpr (.inr hb)
  refine ⟨S.same, S.ns, S.keep, S.cell, fun p hp => S.muts p (List.mem_cons_of_mem _ hp), fun b hb => S.live b (hsub b hb), fun b hb => S.new b (hsub b hb), ?_, fun f hf => (S.facts f hf).mono (fun _ _ _ e => e) fun b _ hb _ hb' => hb (hsub b hb')⟩
  have := S.apart
  simp only [XS, if_true, List.map_cons] at this ⊢
  have p : (env.locals :: (env.cells.map (·.2) ++ a :: mu.map (·.1))).Perm (a :: env.locals :: (env.cells.map (·.2) ++ mu.map (·.1))) := (List.Perm.cons _ List.perm_middle).trans (List.Perm.swap _ _ _)
  exact (List.nodup_cons.mp (p.nodup_iff.mp this)).2

/-- ahead of the i-th symbol -/
noncomputable def RJ (aW0 aT0 lr : Addr) (rs : List Int) (R : Int → Int) (pre : List Int) (ts : List T) (ws : List Int) : Nat → (Str → Option Value) → (Str → Option Value) → List (Addr × MO) → List Fact → Prop :=
  fun i m₁ cm₁ mu₁ fs₁ => m₁ (Str.ofString "trees") = some (.ref aW0) ∧ m₁ (Str.ofString "waiting") = some (.ref aT0) ∧ m₁ (Str.ofString "ranks") = some (.ref lr) ∧ Fact.rd (.ref lr) (ilist rs) ∈ fs₁ ∧
      ∃ (tv : List (Value × T)) (ws₁ : List Int) (vws : List Value), run R (tv.map (·.2), ws₁) ((pre ++ [0]).drop i) = some (ts, ws) ∧ (∀ p ∈ tv, Fact.nw p.1 p.2.enc ∈ fs₁) ∧ IntsAre vws ws₁.reverse ∧
        (i < (pre ++ [0]).length → ∀ y ∈ ws₁, WOk y) ∧ tv.length ≤ i ∧ ws₁.length ≤ i ∧ mu₁ = [(aT0, .l vws), (aW0, .l (tv.map (·.1)).reverse)]
/-- ahead of a turn of the while -/
noncomputable def RJw (aW0 aT0 lr : Addr) (rs : List Int) (R : Int → Int) (y : Int) (ts' : List T) (ws' : List Int) (i : Nat) (ex : List Fact) (yy : Addr × MO) : Nat → (Str → Option Value) → (Str → Option Value) → List (Addr × MO) → List Fact → Prop :=
  fun n m₂ cm₂ mu₂ fs₂ => m₂ (Str.ofString "trees") = some (.ref aW0) ∧ m₂ (Str.ofString "waiting") = some (.ref aT0) ∧ m₂ (Str.ofString "ranks") = some (.ref lr) ∧ (∃ u, m₂ (Str.ofString "symbol") = some (.int y u)) ∧
          ∃ (tv : List (Value × T)) (ws₁ : List Int) (vws : List Value) (fs₁ : List Fact), fs₂ = fs₁ ++ ex ∧ Fact.rd (.ref lr) (ilist rs) ∈ fs₁ ∧ n = ws₁.length ∧ popL R y (tv.map (·.2)) ws₁ = some (ts', ws') ∧ (∀ p ∈ tv, Fact.nw p.1 p.2.enc ∈ fs₁) ∧ IntsAre vws ws₁.reverse ∧
            (∀ y ∈ ws₁, WOk y) ∧ tv.length ≤ i ∧ ws₁.length ≤ i ∧ mu₂ = [(aT0, .l vws), (aW0, .l (tv.map (·.1)).reverse)] ++ [yy]
/-- behind the while -/
noncomputable def RJd (aW0 aT0 lr : Addr) (rs : List Int) (y : Int) (ts' : List T) (ws' : List Int) (i : Nat) (ex : List Fact) (yy : Addr × MO) : (Str → Option Value) → (Str → Option Value) → List (Addr × MO) → List Fact → Prop :=
  fun m₂ cm₂ mu₂ fs₂ => m₂ (Str.ofString "trees") = some (.ref aW0) ∧ m₂ (Str.ofString "waiting") = some (.ref aT0) ∧ m₂ (Str.ofString "ranks") = some (.ref lr) ∧ (∃ u, m₂ (Str.ofString "symbol") = some (.int y u)) ∧
          ∃ (tv : List (Value × T)) (vws : List Value) (fs₁ : List Fact), fs₂ = fs₁ ++ ex ∧ Fact.rd (.ref lr) (ilist rs) ∈ fs₁ ∧ tv.map (·.2) = ts' ∧ (∀ p ∈ tv, Fact.nw p.1 p.2.enc ∈ fs₁) ∧ IntsAre vws ws'.reverse ∧
            (∀ y ∈ ws', WOk y) ∧ tv.length ≤ i ∧ ws'.length ≤ i ∧ mu₂ = [(aT0, .l vws), (aW0, .l (tv.map (·.1)).reverse)] ++ [yy]
/-- behind the if in the while -/
noncomputable def RJi (aW0 aT0 lr : Addr) (R : Int → Int) (y w1 : Int) (t1 : Tok) (vws' : List Value) (tv : List (Value × T)) (fs₁ ex : List Fact) (yy : Addr × MO) : (Str → Option Value) → (Str → Option Value) → List (Addr × MO) → List Fact → Prop :=
  fun m₃ cm₃ mu₃ fs₃ => m₃ (Str.ofString "trees") = some (.ref aW0) ∧ m₃ (Str.ofString "waiting") = some (.ref aT0) ∧ m₃ (Str.ofString "ranks") = some (.ref lr) ∧ (∃ u, m₃ (Str.ofString "symbol") = some (.int y u)) ∧ fs₃ = fs₁ ++ ex ∧
            mu₃ = [(aT0, .l (vws' ++ [.int w1 t1])), (aW0, .l (tv.map (·.1)).reverse)] ++ [yy] ∧ ¬ ((y ≠ 8 ∧ y ≠ 0) ∧ stays R w1 y = true)

set_option maxHeartbeats 8000000 in
theorem c_read {x : List Nat} {t : Tok} {pre rs : List Int} {ts : List T} {ws : List Int} {vr : Value} {P : Addr → Prop} {Q : Value → Shared → Prop} (G : Gl (KK w) s.heap) (hroom : A.depth + 2 < recursionLimit) (hh : A.handled = none) (hu : A.units + 200 < cLine)
    (hx : x.length ≤ 1000) (hasc : ∀ c ∈ x, c < 128) (hsy : symb x.length x = some (pre ++ [0])) (hpre : ∀ y ∈ pre, SymOk y) (hr : Rd s.heap P vr (ilist rs)) (hrl : 41 ≤ rs.length) (hrl2 : rs.length ≤ 1000)
    (hrun : run (fun p => rs.getD p.toNat 0) ([], []) (pre ++ [0]) = some (ts, ws))
    (h : ∀ s' v, New s s' v (.list (ts.reverse.map T.enc)) → Q v s') :
    wpAny (model prog w) A (call (.ref 83) [.str (tx x) t, vr]) Q E s := by
  obtain ⟨lr, vrs, nr, rfl, _⟩ := hr.inv
  refine c_enter (K := KK w) (a := 83) G (by omega) rfl rfl rfl rfl rfl rfl ?_ ?_ ?_
  · exact fun n => kindsX rfl n
  · decide
  intro s₁ A' hA1 hA2 hA3 S
  have S := S.arg hr
  rw [hh] at hA1
  have hsl := sym_small hsy
  generalize hR : (fun p : Int => rs.getD p.toNat 0) = R at hrun
  have hRk : ∀ p : Int, 0 ≤ p → p < 41 → rs[p.toNat]? = some (R p) := fun p h0 h1 => by
    rw [← hR]; simp only [List.getD_eq_getElem?_getD]; rw [List.getElem?_eq_getElem (by omega)]; rfl
  refine wpAny_execs_cons (wpAny_Assign_Name (List_ (spliced_none (nl_mut S (by walk_at "sz") ?_))))
  intro aW0 s₁ S
  refine st_loc S ?_
  intro s₁ S
  refine wpAny_execs_cons (wpAny_Assign_Name (List_ (spliced_none (nl_mut S (by walk_at "sz") ?_))))
  intro aT0 s₁ S
  refine st_loc S ?_
  intro s₁ S
  refine wpAny_execs_cons (wpAny_For ?_)
  refine ev_callF (K := KK w) S G rfl rfl rfl ?_
  refine spliced_more ?_
  refine ev_loc S rfl ?_
  refine spliced_none ⟨(G.keeps S.keep).x _ _ rfl, ?_⟩
  refine c_symbols (G.keeps S.keep) (by omega) hA1 (by omega) hx hasc hsy ?_
  intro s₁ vsy hnew
  have S := S.newD hnew
  obtain ⟨lsy, _, _, rfl, _⟩ := (S.data (v := vsy) (d := ilist (pre ++ [0])) (by walk_at "has")).inv
  obtain ⟨vss, nss, hes, hrs, hXs, hit⟩ := iter_dat (prog := prog) (w := w) hA1 S (l := lsy) (xs := (pre ++ [0]).map PyData.int) (by walk_at "has")
  have hints := hrs.ints
  rw [List.length_map] at hit
  refine for_iter (RJ aW0 aT0 lr rs R pre ts ws)
    S hit ?_ ?_ ?_ ?_
  · intro b hb; rw [List.mem_singleton.mp hb]; exact ⟨hXs, _, hes⟩
  · exact ⟨rfl, rfl, rfl, by walk_at "mem", [], [], [], hrun, (fun _ h => nomatch h), .nil, (fun _ _ h => nomatch h), Nat.le_refl _, Nat.le_refl _, rfl⟩
  · intro i v m₁ cm₁ mu₁ fs₁ s₁ yy ex hi hP hJ S
    obtain ⟨hm1, hm2, hm3, hf1, tv, ws₁, vws, hrn, hft, hvw, hwok, htl, hwl, rfl⟩ := hJ
    have hyi : (pre ++ [0])[i]? = some (pre ++ [0])[i] := List.getElem?_eq_getElem hi
    obtain ⟨ty, hty⟩ := ints_get hints hyi
    rw [hty] at hP
    cases hP
    rw [List.drop_eq_getElem_cons hi] at hrn
    generalize hyy : (pre ++ [0])[i] = y at hrn S
    obtain ⟨st', hst, hrn'⟩ := run_cons hrn
    have hwok := hwok hi
    have hyok : y = 0 ∨ SymOk y := by
      have : y ∈ pre ++ [0] := hyy ▸ List.getElem_mem hi
      rcases List.mem_append.mp this with h1 | h1
      · exact .inr (hpre y h1)
      · exact .inl (by simpa using h1)
    have hy0 : y = 0 → ¬ (i + 1 < (pre ++ [0]).length) := by
      intro h0 hlt
      have hip : i < pre.length := by simp at hlt; omega
      have : (pre ++ [0])[i] = pre[i] := List.getElem_append_left hip
      rw [hyy, h0] at this
      have h2 := hpre pre[i] (List.getElem_mem hip)
      rw [← this] at h2
      unfold SymOk at h2; omega
    have hil : i ≤ 1001 := by simp at hi hsl; omega
    unfold stp at hst
    refine wp_gen ?_
    intro Qb hQb
    refine ec ?_
    intro Q1 hn1 hq1
    refine ex_if (decide (256 ≤ y)) S ?_ ?_ ?_
    · refine isTrue_plain ?_
      refine ev_callF (K := KK w) S G rfl rfl rfl ?_
      refine spliced_more ?_
      refine ev_loc S rfl ?_
      refine spliced_none ⟨(G.keeps S.keep).x _ _ rfl, ?_⟩
      refine c_isnt (G.keeps S.keep) (by omega) ?_
      intro s₂ k₁
      have S := S.keeps k₁
      exact wpAny_truthy_bool ⟨rfl, S⟩
    · intro h256 s₁ S
      have h256 := of_decide_eq_true h256
      rw [if_pos h256] at hst
      cases hst
      refine ec ?_
      intro Q2 hn2 hq2
      refine wpAny_Expr ?_
      refine ev_mL PySem.F.slot_list_append PySem.F.type_list_append ?_
      refine ev_loc S hm1 ?_
      refine ⟨aW0, _, rfl, S.list (a := aW0) (by walk_at "mem"), ?_⟩
      refine cw_1 ?_
      refine List_ ?_
      refine spliced_more ?_
      refine wpAny_BinOp ?_
      refine ev_loc S rfl ?_
      refine ev_int S ?_
      intro s₁ t₁ S
      refine op_sub S ?_
      intro s₁ t₂ S
      refine spliced_none ?_
      refine nl_dat (xs := [.int (y - 256)]) S (by walk_at "sz") (.cons (.int _ _) .nil) ?_
      intro la s₁ S
      refine c_append1 S (by walk_at "sz") ?_
      intro s₁ S
      refine hn2 _ ?_
      refine wpAny_execs_cons (wpAny_Continue ?_)
      refine hq1 _ _ nofun ?_
      refine hQb _ _ ?_
      refine ⟨_, _, [_, _], _ :: fs₁, ?_, S⟩
      refine ⟨hm1, hm2, hm3, List.mem_cons_of_mem _ hf1, (.ref la, T.lf (y - 256)) :: tv, ws₁, vws, hrn', ?_, hvw, fun _ => hwok, by simp; omega, by omega, ?_⟩
      · intro p hp
        rcases List.mem_cons.mp hp with rfl | hp
        · exact List.mem_cons_self
        · exact List.mem_cons_of_mem _ (hft p hp)
      · simp
    · intro h256 s₁ S
      have h256 := of_decide_eq_false h256
      rw [if_neg h256] at hst
      refine wpAny_execs_nil ?_
      refine hn1 _ ?_
      cases hpop : popL R y (tv.map (·.2)) ws₁ with
      | none => rw [hpop] at hst; cases hst
      | some tw =>
      obtain ⟨ts', ws'⟩ := tw
      rw [hpop] at hst
      refine ec ?_
      intro Q3 hn3 hq3
      refine while_to (RJw aW0 aT0 lr rs R y ts' ws' i ex yy)
        (RJd aW0 aT0 lr rs y ts' ws' i ex yy)
        S ws₁.length ?_ ?_ ?_
      · exact ⟨hm1, hm2, hm3, ⟨_, rfl⟩, tv, ws₁, vws, fs₁, rfl, hf1, rfl, hpop, hft, hvw, hwok, htl, hwl, rfl⟩
      · clear hpop hrn' hft hvw hwok htl hwl hf1 hm1 hm2 hm3 S hst hrn
        rintro n m₂ cm₂ mu₂ fs₂ s₁ ⟨hm1, hm2, hm3, ⟨u, hm4⟩, tv, ws₁, vws, fs₁, rfl, hf1, rfl, hpop, hft, hvw, hwok, htl, hwl, rfl⟩ S
        have hvl := ints_len hvw
        rw [List.length_reverse] at hvl
        refine wp_gen ?_
        intro Qt hQt
        -- symbol != LPAR
        refine isTrue_and (wpAny_isTrue_Compare1 ?_)
        refine ev_loc S hm4 ?_
        refine ev_glo (K := KK w) S G rfl ?_
        refine ne_int (wpAny_truthy_bool ?_)
        by_cases h7 : y = 7
        · rw [if_neg (by simp [h7])]
          refine hQt _ _ ?_
          rw [if_neg Bool.false_ne_true]
          have hp : popL R y (tv.map (·.2)) ws₁ = some (tv.map (·.2), ws₁) := by
            cases ws₁ with
            | nil => rfl
            | cons w1 ws2 => rw [popL, if_pos (.inl h7)]
          rw [hp] at hpop
          cases hpop
          exact ⟨_, _, _, _, ⟨hm1, hm2, hm3, ⟨_, hm4⟩, tv, vws, fs₁, rfl, hf1, rfl, hft, hvw, hwok, htl, hwl, rfl⟩, S⟩
        rw [if_pos (by simpa using h7)]
        -- waiting != []
        refine isTrue_and (wpAny_isTrue_Compare1 ?_)
        refine ev_loc S hm2 ?_
        refine List_ ?_
        refine spliced_none ?_
        refine nl_nil S ?_
        intro l0 s₁ S
        obtain ⟨nw0, ew0⟩ := S.muts (aT0, .l vws) List.mem_cons_self
        refine op_neD (x := ilist ws₁.reverse) (y := .list []) (P := fun _ => True) (.list trivial ew0 (rdAll_of_ints hvw)) (S.data (v := .ref l0) (d := .list []) (by walk_at "has")) (ke_shaped_ints _) rfl (by omega) ?_
        rw [eqv_nil]
        refine wpAny_truthy_bool ?_
        have S := S.sub (fs' := fs₁ ++ ex) fun f hf => List.mem_cons_of_mem _ hf
        cases ws₁ with
        | nil =>
          rw [if_neg (by simp)]
          refine hQt _ _ ?_
          rw [if_neg Bool.false_ne_true]
          rw [popL] at hpop
          cases hpop
          exact ⟨_, _, _, _, ⟨hm1, hm2, hm3, ⟨_, hm4⟩, tv, vws, fs₁, rfl, hf1, rfl, hft, hvw, hwok, htl, hwl, rfl⟩, S⟩
        | cons w1 ws2 =>
        rw [if_pos (by simp)]
        rw [List.reverse_cons] at hvw
        obtain ⟨vws', t1, rfl, hvw'⟩ := ints_snoc hvw
        have hvl' := ints_len hvw'
        rw [List.length_reverse] at hvl'
        simp only [List.length_cons] at hwl
        -- waiting[-1] != LPAR
        refine isTrue_and (wpAny_isTrue_Compare1 (Subscript_ ?_))
        refine ev_loc S hm2 ?_
        refine ev_neg (ev_int S ?_)
        intro s₁ t₁ S
        refine op_neg S ?_
        intro s₁ t₂ S
        refine tl_last (S.list (a := aT0) List.mem_cons_self).isList rfl ?_
        refine ev_glo (K := KK w) S G rfl ?_
        refine ne_int (wpAny_truthy_bool ?_)
        by_cases hw7 : w1 = 7
        · rw [if_neg (by simp [hw7])]
          refine hQt _ _ ?_
          rw [if_neg Bool.false_ne_true]
          rw [popL, if_pos (.inr hw7)] at hpop
          cases hpop
          exact ⟨_, _, _, _, ⟨hm1, hm2, hm3, ⟨_, hm4⟩, tv, _, fs₁, rfl, hf1, rfl, hft, by rw [List.reverse_cons]; exact hvw, hwok, htl, by simp; omega, rfl⟩, S⟩
        rw [if_pos (by simpa using hw7)]
        refine isTrue_and_nil ?_
        refine hQt _ _ ?_
        rw [if_pos rfl]
        refine wp_gen ?_
        intro Qw hQw
        rw [popL, if_neg (by simp [h7, hw7])] at hpop
        have hw1 : 14 ≤ w1 ∧ w1 ≤ 54 := by
          have := hwok w1 List.mem_cons_self; unfold WOk at this; omega
        refine ec ?_
        intro Q4 hn4 hq4
        refine ex_ifJ (decide (y ≠ 8 ∧ y ≠ 0)) (RJi aW0 aT0 lr R y w1 t1 vws' tv fs₁ ex yy) S ?_ ?_ ?_ ?_
        · -- the test
          refine isTrue_and (wpAny_isTrue_Compare1 ?_)
          refine ev_loc S hm4 ?_
          refine ev_glo (K := KK w) S G rfl ?_
          refine ne_int (wpAny_truthy_bool ?_)
          by_cases h8 : y = 8
          · rw [if_neg (by simp [h8])]
            exact ⟨by simp [h8], S⟩
          · rw [if_pos (by simpa using h8)]
            refine isTrue_and (isTrue_not (isTrue_plain ?_))
            refine ev_callF (K := KK w) S G rfl rfl rfl ?_
            refine spliced_more ?_
            refine ev_loc S hm4 ?_
            refine spliced_none ⟨(G.keeps S.keep).x _ _ rfl, ?_⟩
            refine c_iseof (G.keeps S.keep) (by omega) ?_
            intro s₂ k₁
            have S := S.keeps k₁
            refine wpAny_truthy_bool ?_
            by_cases h0 : y = 0
            · rw [if_neg (by simp [h0])]
              exact ⟨by simp [h0], S⟩
            · rw [if_pos (by simpa using h0)]
              refine isTrue_and_nil ⟨by simp [h8, h0], S⟩
        · -- the gap
          intro hnd s₁ S
          have hnd := of_decide_eq_true hnd
          have hyr : 14 ≤ y ∧ y ≤ 54 := by
            rcases hyok with h0 | h0
            · exact absurd h0 hnd.2
            · unfold SymOk at h0; omega
          have hRw := hRk (w1 - 14) (by omega) (by omega)
          have hRy := hRk (y - 14) (by omega) (by omega)
          refine ec ?_
          intro Q5 hn5 hq5
          refine wpAny_Assign_Name ?_
          refine wpAny_BinOp ?_
          refine Subscript_ ?_
          refine ev_loc S hm3 ?_
          refine wpAny_BinOp ?_
          refine Subscript_ ?_
          refine ev_loc S hm2 ?_
          refine ev_neg (ev_int S ?_)
          intro s₁ t₃ S
          refine op_neg S ?_
          intro s₁ t₄ S
          refine tl_last (S.list (a := aT0) List.mem_cons_self).isList rfl ?_
          refine ev_int S ?_
          intro s₁ t₅ S
          refine op_sub S ?_
          intro s₁ t₆ S
          refine tl_int (k := (w1 - 14).toNat) S (.inl (List.mem_append_left _ hf1)) (by omega) hRw (by walk_at "sz") ?_
          intro t₇
          refine Subscript_ ?_
          refine ev_loc S hm3 ?_
          refine wpAny_BinOp ?_
          refine ev_loc S hm4 ?_
          refine ev_int S ?_
          intro s₁ t₈ S
          refine op_sub S ?_
          intro s₁ t₉ S
          refine tl_int (k := (y - 14).toNat) S (.inl (List.mem_append_left _ hf1)) (by omega) hRy (by walk_at "sz") ?_
          intro t₁₀
          refine op_sub S ?_
          intro s₁ t₁₁ S
          refine st_loc S ?_
          intro s₁ S
          refine hn5 _ ?_
          refine ec ?_
          intro Q6 hn6 hq6
          refine ex_if (stays R w1 y) S ?_ ?_ ?_
          · refine isTrue_or (wpAny_isTrue_Compare1 ?_)
            refine ev_loc S rfl ?_
            refine ev_int S ?_
            intro s₁ t₁₂ S
            refine lt_int (wpAny_truthy_bool ?_)
            by_cases h1 : R (w1 - 14) - R (y - 14) < 0
            · rw [decide_eq_true h1, if_pos rfl]
              exact ⟨by simp [stays, h1], S⟩
            · rw [decide_eq_false h1, if_neg Bool.false_ne_true]
              refine isTrue_or (isTrue_and (wpAny_isTrue_Compare1 ?_))
              refine ev_loc S rfl ?_
              refine ev_int S ?_
              intro s₁ t₁₃ S
              refine eq_int (wpAny_truthy_bool ?_)
              by_cases h2 : R (w1 - 14) - R (y - 14) = 0
              · rw [if_pos (by simpa using h2)]
                refine isTrue_and (wpAny_isTrue_Compare1 (wpAny_BinOp (Subscript_ ?_)))
                refine ev_loc S hm3 ?_
                refine wpAny_BinOp ?_
                refine ev_loc S hm4 ?_
                refine ev_int S ?_
                intro s₁ t₁₄ S
                refine op_sub S ?_
                intro s₁ t₁₅ S
                refine tl_int (k := (y - 14).toNat) S (.inl (List.mem_append_left _ hf1)) (by omega) hRy (by walk_at "sz") ?_
                intro t₁₆
                refine ev_int S ?_
                intro s₁ t₁₇ S
                refine op_mod S (by decide) ?_
                intro s₁ t₁₈ S
                refine ev_int S ?_
                intro s₁ t₁₉ S
                refine eq_int (wpAny_truthy_bool ?_)
                by_cases h3 : (R (y - 14)).fmod 2 = 1
                · rw [if_pos (by simpa using h3)]
                  refine isTrue_and_nil ?_
                  refine (if_pos rfl).mpr ?_
                  exact ⟨by simp [stays, h2, h3], S⟩
                · rw [if_neg (by simpa using h3)]
                  refine (if_neg Bool.false_ne_true).mpr ?_
                  refine isTrue_or_nil ?_
                  exact ⟨by simp [stays, h1, h2, h3], S⟩
              · rw [if_neg (by simpa using h2)]
                refine (if_neg Bool.false_ne_true).mpr ?_
                refine isTrue_or_nil ?_
                exact ⟨by simp [stays, h1, h2], S⟩
          · intro hst s₁ S
            refine wpAny_execs_cons (wpAny_Break ?_)
            rw [if_pos ⟨hnd, hst⟩] at hpop
            cases hpop
            refine hq6 _ _ nofun ?_
            refine hq4 _ _ nofun ?_
            refine hQw _ _ ?_
            refine ⟨_, _, _, _, ?_, S⟩
            exact ⟨hm1, hm2, hm3, ⟨_, hm4⟩, tv, _, fs₁, rfl, hf1, rfl, hft, by rw [List.reverse_cons]; exact hvw, hwok, htl, by simp; omega, rfl⟩
          · intro hst s₁ S
            refine wpAny_execs_nil ?_
            refine hn6 _ ?_
            refine wpAny_execs_nil ?_
            refine ⟨_, _, _, _, ?_, S⟩
            exact ⟨hm1, hm2, hm3, ⟨_, hm4⟩, rfl, rfl, by rw [hst]; simp⟩
        · intro hnd s₁ S
          have hnd := of_decide_eq_false hnd
          refine wpAny_execs_nil ?_
          exact ⟨_, _, _, _, ⟨hm1, hm2, hm3, ⟨_, hm4⟩, rfl, rfl, fun hc => hnd hc.1⟩, S⟩
        · -- the pops
          clear hm1 hm2 hm3 hm4 S
          rintro m₃ cm₃ mu₃ fs₃ s₁ ⟨hm1, hm2, hm3, ⟨u, hm4⟩, rfl, rfl, hns⟩ S
          rw [if_neg hns] at hpop
          refine hn4 _ ?_
          cases ht2 : top2 (tv.map (·.2)) with
          | none => rw [ht2] at hpop; cases hpop
          | some rl =>
          obtain ⟨r, l, ts₂⟩ := rl
          rw [ht2] at hpop
          have htv := top2_some ht2
          obtain ⟨vr, vl, tv₂, rfl, rfl⟩ : ∃ vr vl tv₂, tv = (vr, r) :: (vl, l) :: tv₂ ∧ ts₂ = tv₂.map (·.2) := by
            cases tv with
            | nil => cases htv
            | cons p tv =>
              cases tv with
              | nil => simp at htv
              | cons q tv =>
                obtain ⟨p1, p2⟩ := p
                obtain ⟨q1, q2⟩ := q
                simp only [List.map_cons, List.cons.injEq] at htv
                obtain ⟨rfl, rfl, rfl⟩ := htv
                exact ⟨p1, q1, tv, rfl, rfl⟩
          simp only [List.length_cons] at htl
          simp only [List.map_cons, List.reverse_cons] at S
          refine ec ?_
          intro Q7 hn7 hq7
          refine wpAny_Assign_Name ?_
          refine ev_mL PySem.F.slot_list_pop PySem.F.type_list_pop ?_
          refine ev_loc S hm1 ?_
          refine ⟨aW0, _, rfl, S.list (a := aW0) (by walk_at "mem"), ?_⟩
          refine cw_0 ?_
          refine c_pop1 S (by walk_at "sz") ?_
          intro s₁ S
          refine st_loc S ?_
          intro s₁ S
          refine hn7 _ ?_
          refine ec ?_
          intro Q8 hn8 hq8
          refine wpAny_Assign_Name ?_
          refine ev_mL PySem.F.slot_list_pop PySem.F.type_list_pop ?_
          refine ev_loc S hm1 ?_
          refine ⟨aW0, _, rfl, S.list (a := aW0) (by walk_at "mem"), ?_⟩
          refine cw_0 ?_
          refine c_pop1 S (by walk_at "sz") ?_
          intro s₁ S
          refine st_loc S ?_
          intro s₁ S
          refine hn8 _ ?_
          refine ec ?_
          intro Q9 hn9 hq9
          refine wpAny_Expr ?_
          refine ev_mL PySem.F.slot_list_append PySem.F.type_list_append ?_
          refine ev_loc S hm1 ?_
          refine ⟨aW0, _, rfl, S.list (a := aW0) (by walk_at "mem"), ?_⟩
          refine cw_1 ?_
          refine List_ ?_
          refine spliced_more ?_
          refine wpAny_BinOp ?_
          refine ev_mL PySem.F.slot_list_pop PySem.F.type_list_pop ?_
          refine ev_loc S hm2 ?_
          refine ⟨aT0, _, rfl, S.list (a := aT0) List.mem_cons_self, ?_⟩
          refine cw_0 ?_
          refine c_pop0 S (by walk_at "sz") ?_
          intro s₁ S
          refine ev_int S ?_
          intro s₁ t₃ S
          refine op_sub S ?_
          intro s₁ t₄ S
          refine spliced_more ?_
          refine ev_loc S rfl ?_
          refine spliced_more ?_
          refine ev_loc S rfl ?_
          refine spliced_none ?_
          refine nl_dat (xs := [.int (w1 - 14), l.enc, r.enc]) S (by walk_at "sz") ?_ ?_
          · exact .cons (.int _ _) (.cons (S.nw (List.mem_append_left _ (hft (vl, l) (by simp)))) (.cons (S.nw (List.mem_append_left _ (hft (vr, r) (by simp)))) .nil))
          intro la s₁ S
          refine c_append1 S (by walk_at "sz") ?_
          intro s₁ S
          refine hn9 _ ?_
          refine wpAny_execs_nil ?_
          refine hQw _ _ ?_
          refine ⟨ws2.length, _, _, _, _, by simp, ?_, S⟩
          refine ⟨hm1, hm2, hm3, ⟨_, hm4⟩, (.ref la, T.nd (w1 - 14) l r) :: tv₂, ws2, vws', _ :: fs₁, rfl, List.mem_cons_of_mem _ hf1, rfl, hpop, ?_, hvw', fun z hz => hwok z (List.mem_cons_of_mem _ hz), by simp; omega, by omega, ?_⟩
          · intro p hp
            rcases List.mem_cons.mp hp with rfl | hp
            · exact List.mem_cons_self
            · exact List.mem_cons_of_mem _ (hft p (List.mem_cons_of_mem _ (List.mem_cons_of_mem _ hp)))
          · simp
      · clear hpop hft hvw hwok htl hwl hf1 hm1 hm2 hm3 S
        rintro m₂ cm₂ mu₂ fs₂ s₁ ⟨hm1, hm2, hm3, ⟨u, hm4⟩, tv, vws, fs₁, rfl, hf1, htv, hft, hvw, hwok, htl, hwl, rfl⟩ S
        subst htv
        refine hn3 _ ?_
        refine wpAny_execs_cons (ex_if (decide (y = 8)) S ?_ ?_ ?_)
        · refine wpAny_isTrue_Compare1 ?_
          refine ev_loc S hm4 ?_
          refine ev_glo (K := KK w) S G rfl ?_
          refine eq_int (wpAny_truthy_bool ⟨?_, S⟩)
          by_cases h8 : y = 8 <;> simp [h8]
        · intro h8 s₁ S
          have h8 := of_decide_eq_true h8
          simp only [h8, if_true] at hst
          cases hws : ws' with
          | nil => rw [hws] at hst; cases hst
          | cons w1 ws2 =>
          rw [hws] at hst hvw hwok hwl
          cases hst
          rw [List.reverse_cons] at hvw
          obtain ⟨vws', t1, rfl, hvw'⟩ := ints_snoc hvw
          have hvl := ints_len hvw'
          rw [List.length_reverse] at hvl
          simp only [List.length_cons] at hwl
          refine wpAny_execs_cons (wpAny_Expr ?_)
          refine ev_mL PySem.F.slot_list_pop PySem.F.type_list_pop ?_
          refine ev_loc S hm2 ?_
          refine ⟨aT0, _, rfl, S.list (a := aT0) List.mem_cons_self, ?_⟩
          refine cw_0 ?_
          refine c_pop0 S (by walk_at "sz") ?_
          intro s₁ S
          refine wpAny_execs_nil (wpAny_execs_nil ?_)
          refine hQb _ _ ?_
          refine ⟨_, _, [_, _], fs₁, ?_, S⟩
          exact ⟨hm1, hm2, hm3, hf1, tv, ws2, _, hrn', hft, hvw', fun _ z hz => hwok z (List.mem_cons_of_mem _ hz), by omega, by omega, rfl⟩
        · intro h8 s₁ S
          have h8 := of_decide_eq_false h8
          simp only [h8, if_false] at hst
          cases hst
          refine wpAny_execs_cons (wpAny_Expr ?_)
          refine ev_mL PySem.F.slot_list_append PySem.F.type_list_append ?_
          refine ev_loc S hm2 ?_
          refine ⟨aT0, _, rfl, S.list (a := aT0) List.mem_cons_self, ?_⟩
          refine cw_1 ?_
          refine ev_loc S hm4 ?_
          have hvl := ints_len hvw
          rw [List.length_reverse] at hvl
          refine c_append0 S (by walk_at "sz") ?_
          intro s₁ S
          refine wpAny_execs_nil (wpAny_execs_nil ?_)
          refine hQb _ _ ?_
          refine ⟨_, _, [_, _], fs₁, ?_, S⟩
          refine ⟨hm1, hm2, hm3, hf1, tv, y :: ws', _, hrn', hft, ?_, fun hlt => ?_, by omega, by simp; omega, rfl⟩
          · rw [List.reverse_cons]; exact ints_app hvw (.cons _ _ .nil)
          · intro z hz
            rcases List.mem_cons.mp hz with rfl | hz
            · rcases hyok with h0 | h0
              · exact absurd hlt (hy0 h0)
              · unfold SymOk at h0; unfold WOk; omega
            · exact hwok z hz
  · intro m₁ cm₁ mu₁ fs₁ s₁ hJ S
    obtain ⟨hm1, hm2, hm3, hf1, tv, ws₁, vws, hrn, hft, hvw, hwok, htl, hwl, rfl⟩ := hJ
    rw [List.drop_length, run] at hrn
    cases hrn
    refine wpAny_execs_cons (wpAny_Return_some ?_)
    refine ev_loc S hm1 ?_
    have hrd := rdAll_rev (rdAll_tv fun p hp => S.nw (hft p hp))
    have e : (tv.map fun p => p.2.enc).reverse = (tv.map (·.2)).reverse.map T.enc := by
      rw [← List.map_reverse, ← List.map_reverse, List.map_map]; rfl
    rw [e] at hrd
    have S2 := S.dropHead
    have S3 := S2.freeze (hrd.mono (fun _ _ _ e => e) fun b o p _ => ⟨fun hb => p.1 ((XS_cons _ _ _ _ b).mpr (.inr hb)), p.2⟩)
    exact h s₁ (.ref aW0) (S3.doneD (by walk_at "mem"))
end
end

section
open PySem PySem.Spec PySem.Calls PyProof.Rows PySem.W

section
variable {prog : Program} {w : World} {A : Around} {R : GenEnd} {Y : Protocol} {n : Nat} {s₀ : Shared} {c : Code} {fs : List Frame} {s : Shared} {env : Env}
  {K : Flow → Sem Fin} {H : Value → Sem Fin} {gd : Bool → Bool} {lv : List Value → List Value}

/-- a part that yields nothing and raises nothing -/
theorem seg_do {α : Type} {m : Sem α} {K : α → Sem Fin} {H : Value → Sem Fin} {gd : Bool → Bool} {lv : List Value → List Value}
    (h : wpAny (model prog w) (A.over c fs) m (fun a s' => Seg (model prog w) A R Y n s₀ c (K a) fs s') (fun _ _ => False) s) : Seg (model prog w) A R Y n s₀ c (m.wrap K H gd lv) fs s :=
  seg_wrap (wpAny_mono h (fun _ _ q => q) fun _ _ f => f.elim)

theorem seg_If {test : Expr} {body orelse : List Stmt} {pos : Pos}
    (h : wpAny (model prog w) (A.over c fs) (isTrue test env (eval test env)) (fun b s' => if b = true then Seg (model prog w) A R Y n s₀ c ((execs body env).wrap K H gd lv) fs s' else Seg (model prog w) A R Y n s₀ c ((execs orelse env).wrap K H gd lv) fs s') (fun _ _ => False) s) :
    Seg (model prog w) A R Y n s₀ c ((exec (.If test body orelse pos) env).wrap K H gd lv) fs s := by
  have e : (exec (.If test body orelse pos) env).wrap K H gd lv = .at pos fun _ => (isTrue test env (eval test env) >>= fun b => if b = true then execs body env else execs orelse env).wrap K H gd lv := rfl
  rw [e]
  refine seg_at ?_
  rw [Sem.bind_eq_wrap', Sem.wrap_wrap]
  refine seg_do (wpAny_mono h (fun b s' hb => ?_) fun _ _ f => f)
  cases b with
  | true => rw [if_pos rfl] at hb ⊢; exact hb
  | false => rw [if_neg Bool.false_ne_true] at hb ⊢; exact hb

/-- what stands behind a loop's own activation -/
noncomputable def backK (env : Env) (K : Flow → Sem Fin) (H : Value → Sem Fin) (gd : Bool → Bool) (lv : List Value → List Value) : Result → Sem Fin := fun r =>
  ((match r with | .ok f => (.pure f : Sem Flow) | .error e => .raise e).onRaise fun (x : Value) => do
    if (← field x 1) == Value.none then unsupported "frame.own-activation:exception-without-traceback"
    setFlight x env.frame).wrap K H gd lv

theorem seg_For {target iter : Expr} {body : List Stmt} {pos : Pos} 
    (h : wpAny (model prog w) (A.over c fs) (eval iter env) (fun x s₁ => wpAny (model prog w) (A.over c fs) (pyIter x) (fun it s₂ =>
      ∀ p, Seg (model prog w) A R Y n s₀ (.forLoop target it body [] env) ((model prog w).den (.forLoop target it body [] env)) (.ret (backK env K H gd lv) none (gd false) (lv []) c p [] :: fs) s₂) (fun _ _ => False) s₁) (fun _ _ => False) s)
    (hs : ∀ x, foldedSetIterable iter env x = pure x := by intro _; rfl) :
    Seg (model prog w) A R Y n s₀ c ((exec (.For target iter body [] pos) env).wrap K H gd lv) fs s := by
  rw [exec_For]
  show Seg (model prog w) A R Y n s₀ c (.at pos fun _ => (eval iter env >>= fun v => foldedSetIterable iter env v >>= fun x => standAt iter.pos >>= fun _ => holding [x] (pyIter x) >>= fun it => runOwn (.forLoop target it body [] env) env).wrap K H gd lv) fs s
  refine seg_at ?_
  rw [Sem.bind_eq_wrap', Sem.wrap_wrap]
  refine seg_do (wpAny_mono h (fun x s₁ h₁ => ?_) fun _ _ f => f)
  rw [hs]
  show Seg (model prog w) A R Y n s₀ c (.at iter.pos fun _ => (holding [x] (pyIter x) >>= fun it => runOwn (.forLoop target it body [] env) env).wrap K H gd lv) fs s₁
  refine seg_at ?_
  rw [Sem.bind_eq_wrap', Sem.wrap_wrap]
  refine seg_do (wpAny_holding (wpAny_mono h₁ (fun it s₂ h₂ => ?_) fun _ _ f => f))
  exact seg_call h₂

/-- what a turn of a for goes on with -/
noncomputable def turnK (target : Expr) (it : Value) (body : List Stmt) (env : Env) : Flow → Sem Fin := fun f => match f with
  | .next | .cont => .pure (.again (.forLoop target it body [] env))
  | .brk => .pure (.done .next)
  | .ret v => .pure (.done (.ret v))
noncomputable def noteH (env : Env) : Value → Sem Fin := fun e => (do noteFrame e env; theTreesLotGoes e : Sem Unit).wrap (fun _ => .raise e) .raise id id

theorem seg_forLoop {x : Str} {px : Pos} {it : Value} {body : List Stmt}
    (h : wpAny (model prog w) (A.over (.forLoop (.Name x px) it body [] env) fs) (pyNext it) (fun r s₁ => match r with
        | none => Seg (model prog w) A R Y n s₀ (.forLoop (.Name x px) it body [] env) (.pure (.again (.block [] env))) fs s₁
        | some v => wpAny (model prog w) (A.over (.forLoop (.Name x px) it body [] env) fs) (assign (.Name x px) env v) (fun _ s₂ =>
            Seg (model prog w) A R Y n s₀ (.forLoop (.Name x px) it body [] env) ((execs body env).wrap (turnK (.Name x px) it body env) (noteH env) id id) fs s₂) (fun _ _ => False) s₁) (fun _ _ => False) s) :
    Seg (model prog w) A R Y n s₀ (.forLoop (.Name x px) it body [] env) ((model prog w).den (.forLoop (.Name x px) it body [] env)) fs s := by
  show Seg _ A R Y n s₀ _ ((forTurn (.Name x px) it body [] env).onRaise (fun x => do noteFrame x env; theTreesLotGoes x)) fs s
  unfold forTurn
  rw [Sem.onRaise_eq_wrap]
  show Seg _ A R Y n s₀ _ (.at px fun _ => ((pyNext it).onRaise (fun _ => standAt { px with line := 0 }) >>= fun r => match r with
    | none => again (.block [] env)
    | some v => letOwnedTupleGo (.Name x px) it v >>= fun _ => assign (.Name x px) env v >>= fun _ => execs body env >>= fun f => match f with
      | .next | .cont => again (.forLoop (.Name x px) it body [] env)
      | .brk => pure (.done .next)
      | .ret v => pure (.done (.ret v)) : Sem Fin).wrap .pure (fun e => (do noteFrame e env; theTreesLotGoes e : Sem Unit).bind fun _ => .raise e) id id) fs s
  refine seg_at ?_
  rw [Sem.bind_eq_wrap', Sem.wrap_wrap]
  refine seg_do (wpAny_onRaise (wpAny_mono h (fun r s₁ h₁ => ?_) fun _ _ f => f.elim))
  cases r with
  | none => exact h₁
  | some v =>
    show Seg _ A R Y n s₀ _ (Sem.wrap .pure _ id id (letOwnedTupleGo (.Name x px) it v >>= fun _ => assign (.Name x px) env v >>= fun _ => execs body env >>= _)) fs s₁
    rw [show letOwnedTupleGo (.Name x px) it v = pure () from rfl]
    show Seg _ A R Y n s₀ _ (Sem.wrap .pure _ id id (assign (.Name x px) env v >>= fun _ => execs body env >>= _)) fs s₁
    rw [Sem.bind_eq_wrap', Sem.wrap_wrap]
    refine seg_do (wpAny_mono h₁ (fun _ s₂ h₂ => ?_) fun _ _ f => f)
    rw [Sem.bind_eq_wrap', Sem.wrap_wrap]
    rw [Sem.wrap_congr (execs body env) _ _ (K' := turnK (.Name x px) it body env) (H' := noteH env)
      (fun f => by cases f <;> rfl)
      (fun e => by unfold noteH; rw [← Sem.bind_eq_wrap]; rfl)]
    exact h₂
theorem seg_block (h : Seg (model prog w) A R Y n s₀ (.block [] env) (.pure (.done .next)) fs s) :
    Seg (model prog w) A R Y n s₀ c (.pure (.again (.block [] env))) fs s := by
  refine seg_again rfl ?_
  exact h
end
end

section
open PySem PySem.Spec PySem.Calls PyProof.Rows PySem.W

section
variable {prog : Program} {w : World} {A : Around} {E : Value → Shared → Prop} {own : Bool} {s₀ s : Shared} {env : Env} {m cm : Str → Option Value} {mu mu' : List (Addr × MO)} {fs : List Fact} {K : Frag}

/-- the generators are none of the frame's business -/
theorem St.gens (S : St own s₀ env m cm mu fs s) (g : Array GenState) : St own { s₀ with gens := g } env m cm mu fs { s with gens := g } :=
  ⟨let ⟨h, t, e⟩ := S.same; ⟨h, t, by rw [e]⟩, S.ns, S.keep, S.cell, S.muts, S.live, S.new, S.apart, S.facts⟩

theorem mem_XS_head (env : Env) (p : Addr × MO) (mu : List (Addr × MO)) (b : Addr) : b ∈ XS true env (p :: mu) ↔ b ∈ XS true env [p] ∨ b ∈ mu.map (·.1) := by
  simp only [XS, if_true, List.map_cons, List.map_nil, List.mem_cons, List.mem_append, List.not_mem_nil, or_false]
  constructor
  · rintro (h | h | h | h)
    · exact .inl (.inl h)
    · exact .inl (.inr (.inl h))
    · exact .inl (.inr (.inr h))
    · exact .inr h
  · rintro ((h | h | h) | h)
    · exact .inl h
    · exact .inr (.inl h)
    · exact .inr (.inr (.inl h))
    · exact .inr (.inr (.inr h))
theorem XS_head_nodup (env : Env) (p : Addr × MO) (mu : List (Addr × MO)) : (XS true env (p :: mu)).Nodup ↔ (XS true env [p]).Nodup ∧ (mu.map (·.1)).Nodup ∧ ∀ b ∈ XS true env [p], b ∉ mu.map (·.1) := by
  have e : XS true env (p :: mu) = XS true env [p] ++ mu.map (·.1) := by simp [XS]
  rw [e, List.nodup_append]
  constructor
  · rintro ⟨a, b, c⟩; exact ⟨a, b, fun x hx hy => c x hx x hy rfl⟩
  · rintro ⟨a, b, c⟩; exact ⟨a, b, fun x hx y hy e => c x hx (e ▸ hy)⟩

/-- others have changed the own objects behind the first -/
theorem St.chg {p : Addr × MO} {h' : Heap} {t : Nat} (S : St true s₀ env m cm (p :: mu) fs s) (hk : ∀ b o, b ∉ mu.map (·.1) → s.heap.get? b = some o → h'.get? b = some o)
    (ho : ∀ q ∈ mu', q.2.At h' q.1) (hm : ∀ q ∈ mu', q.1 ∈ mu.map (·.1) ∨ s.heap.get? q.1 = none) (hn : (mu'.map (·.1)).Nodup) :
    St true s₀ env m cm (p :: mu') fs { s with heap := h', toks := t } := by
  obtain ⟨n1, n2, n3⟩ := (XS_head_nodup env p mu).mp S.apart
  have hX : ∀ b ∈ XS true env [p], ∀ o, s.heap.get? b = some o → h'.get? b = some o := fun b hb o e => hk b o (n3 b hb) e
  have hin : ∀ b ∈ XS true env [p], b ∈ XS true env (p :: mu) := fun b hb => (mem_XS_head env p mu b).mpr (.inl hb)
  have hmu : ∀ b ∈ mu.map (·.1), b ∈ XS true env (p :: mu) := fun b hb => (mem_XS_head env p mu b).mpr (.inr hb)
  have hmm : ∀ b ∈ mu'.map (·.1), b ∈ mu.map (·.1) ∨ s.heap.get? b = none := fun b hb => by
    obtain ⟨q, hq, rfl⟩ := List.mem_map.mp hb; exact hm q hq
  refine ⟨let ⟨h, _, e⟩ := S.same; ⟨h', t, by rw [e]⟩, S.ns.at' fun o e => hX _ (mem_XS_loc env _) o e, fun b o e => hk b o (fun hb => ?_) (S.keep b o e), fun n c e => ?_, fun q hq => ?_, fun b hb => ?_, fun b hb => ?_, ?_, fun f hf => ?_⟩
  · rw [S.new b (hmu b hb)] at e; cases e
  · obtain ⟨o, h1, h2⟩ := S.cell n c e; exact ⟨o, hX _ (mem_XS_cell e _) _ h1, h2⟩
  · rcases List.mem_cons.mp hq with rfl | hq
    · exact (S.muts q List.mem_cons_self).mono fun o e => hX q.1 (mem_XS_mut (vs := q.2) List.mem_cons_self) o e
    · exact ho q hq
  · rcases (mem_XS_head env p mu' b).mp hb with hb | hb
    · obtain ⟨o, e⟩ := S.live b (hin b hb); exact ⟨o, hX b hb o e⟩
    · obtain ⟨q, hq, rfl⟩ := List.mem_map.mp hb; exact (ho q hq).live
  · rcases (mem_XS_head env p mu' b).mp hb with hb | hb
    · exact S.new b (hin b hb)
    · rcases hmm b hb with hb | hb
      · exact S.new b (hmu b hb)
      · cases e : s₀.heap.get? b with
        | none => rfl
        | some o => rw [S.keep b o e] at hb; cases hb
  · refine (XS_head_nodup env p mu').mpr ⟨n1, hn, fun b hb hb' => ?_⟩
    rcases hmm b hb' with h | h
    · exact n3 b hb h
    · obtain ⟨o, e⟩ := S.live b (hin b hb); rw [h] at e; cases e
  · refine (S.facts f hf).mono (fun b o hb e => hk b o (fun h => hb (hmu b h)) e) fun b o hb e hb' => ?_
    rcases (mem_XS_head env p mu' b).mp hb' with h | h
    · exact hb (hin b h)
    · rcases hmm b h with h | h
      · exact hb (hmu b h)
      · rw [h] at e; cases e

/-- the next of a def's generator, with what is left bare -/
theorem next_gen {a : Addr} {g n : Nat} {gs : GenState} {P : Nat → Shared → Shared → Prop} {Y : Protocol} {Q : Option Value → Shared → Prop} (hh : A.handled = none) (hl : s.heap.NoLimit) (hroom : A.depth < recursionLimit)
    (hg : s.heap.IsGen a g) (hgs : s.gens[g]? = some gs) (hgo : gs.Goes (model prog w) A.in1 (fun n s₀ r s₁ => r = .ok (.ret .none) ∧ P n s₀ s₁) Y n (.send .none) (s.setGen g .running))
    (hY : ∀ v s₁ gs', gs'.bare = true → Y (n - 1) (s.setGen g .running) v s₁ (fun r' s'' => match n with
        | 0 => False
        | m + 1 => gs'.Goes (model prog w) A.in1 (fun n s₀ r s₁ => r = .ok (.ret .none) ∧ P n s₀ s₁) Y m r' s'') → Q (some v) (s₁.setGen g gs'))
    (hP : ∀ s₁, P n (s.setGen g .running) s₁ → ∀ h', (∀ b o, s₁.heap.get? b = some o → h'.get? b = some o) → Q none { s₁.setGen g .finished with heap := h' }) :
    wpAny (model prog w) A (pyNext (.ref a)) Q E s := by
  unfold pyNext
  refine wpAny_bind (wpAny_attempt (wpAny_callSpecial?_slot (name := Str.ofString "__next__") hg.typeIs slot_gen_next (wpAny_call_entry slot_gen_next hg.typeIs entry_gen_next ?_ (args_gen_next _))))
  show wpAny _ A.in1 (Builtin.Generator.genWake (.ref a) (.send .none)) _ _ s
  unfold Builtin.Generator.genWake
  refine wpAny_bind (wpAny_holding (wpAny_genNumber hg (wpAny_bind (wpAny_genState hgs ?_))))
  have go : ∀ {α : Type} {k : GenResult → Sem α} {l : List Value} {Q' : α → Shared → Prop} {E' : Value → Shared → Prop},
      (∀ v s₁ gs', gs'.bare = true → Y (n - 1) (s.setGen g .running) v s₁ (fun r' s'' => match n with
        | 0 => False
        | m + 1 => gs'.Goes (model prog w) A.in1 (fun n s₀ r s₁ => r = .ok (.ret .none) ∧ P n s₀ s₁) Y m r' s'') → wpAny (model prog w) A.in1 (k (.yielded v)) Q' E' (s₁.setGen g gs')) →
      (∀ s₁, P n (s.setGen g .running) s₁ → wpAny (model prog w) A.in1 (k (End.ret (.ok (.ret .none))).result) Q' E' (s₁.setGen g .finished)) →
      wpAny (model prog w) A.in1 (.resume g (.send .none) l k) Q' E' s := fun h1 h2 =>
    wpAny_resumeQ hgs hgo (fun x s₁ hx => by obtain ⟨rfl, hp⟩ := hx; exact h2 s₁ hp) h1
  have stop : ∀ s₁, P n (s.setGen g .running) s₁ → ∀ h', (∀ b o, s₁.heap.get? b = some o → h'.get? b = some o) → Q none { s₁.setGen g .finished with heap := h' } := hP
  cases gs with
  | running => exact hgo.elim
  | finished => exact hgo.elim
  | _ =>
    refine wpAny_bind (wpAny_roomToWake hl hroom ?_)
    show wpAny _ A.in1 (.resume g (.send .none) [] _) _ _ s
    refine go (fun v s₁ gs' hb hv => ?_) fun s₁ hp => ?_
    · exact wpAny_pure ⟨v, rfl, wpAny_pure (hY v s₁ gs' hb hv)⟩
    show wpAny _ A.in1 (newExc (.type "StopIteration") [] >>= _) _ _ _
    simp only [newExc, newTuple, raiseNew]
    refine wpAny_bind (wpAny_bind (wpAny_newObj_type (wpAny_bind (m := firstArgMember _ _) (wpAny_of_eq (a := Value.none) (by first | rfl | (simp only [firstArgMember]; rfl)) (wpAny_newObj_type ?_ (by size_fits)))) (by size_fits)))
    refine wpAny_bind (wpAny_bind (wpAny_handled ?_))
    first | rw [show A.in1.handled = none from hh] | rw [hh]
    refine wpAny_throw (wpAny_bind (wpAny_isInstance (T := "StopIteration") (b := true) ⟨_, Heap.get?_push_size _ rfl, rfl⟩ isSubtype_stop (wpAny_pure ?_)))
    exact stop s₁ hp _ fun b o hb => Heap.get?_push_of_some _ (Heap.get?_push_of_some _ hb)

/-- a call of a def that yields -/
theorem c_makeG {a : Addr} {o : Obj} {fd : FuncData} {body : List Stmt} {vals : List Value} {binds : List (Str × Value)} {Q : Value → Shared → Prop} (G : Gl K s.heap) (hroom : A.depth < recursionLimit)
    (ho : K.lookup a = some o) (hd : o.data = .func fd) (hcd : codeIn K fd.code fd.qualname = true) (hbody : fd.body = .stmts body) (hbind : bindArgs fd ⟨vals, []⟩ = pure binds) (hclo : fd.closure = [])
    (hkind : ∀ n, ∀ x ∈ binds, fd.scope.names.lookup x.1 = some .local ∨ (fd.scope.names.lookup x.1 = some .cell ∧ ((cellsFrom n fd.scope.names []).lookup x.1).isSome = true))
    (h : ∀ h' tk b, (∀ b o, s.heap.get? b = some o → h'.get? b = some o) → h'.Ns s.heap.objs.size (bindL (callEnvC fd s.heap.objs.size a).kindOf binds fun _ => none) → h'.IsGen b s.gens.size → b ≠ s.heap.objs.size → s.heap.get? b = none →
      Q (.ref b) { s with heap := h', toks := tk, gens := s.gens.push (.fresh (.func body (callEnvC fd s.heap.objs.size a))) })
    (hco : fd.scope.isCoroutine = false := by rfl) (hgen : fd.scope.isGenerator = true := by rfl) (hk : fd.scope.kind = .function := by rfl) :
    wpAny (model prog w) A (call (.ref a) vals) Q E s := by
  refine wpAny_call (codeAny_call_generator hroom (G.x _ _ ho) hd hco hgen hbody (codeRec_of G.x hcd) ?_)
  rw [hbind, hclo]
  refine wpAny_pure (wpAny_newFunctionEnv_cells hk (hkind _) fun env he s' x => ?_)
  subst he
  refine ⟨G.lim.keeps x.toInCall.keep, ?_⟩
  obtain ⟨hh, tt, rfl⟩ := x.toInCall.same
  have hlt : s.heap.objs.size < hh.objs.size := by
    obtain ⟨o, _, _, e, _⟩ := x.toInCall.ns; exact Heap.lt_size e
  refine h _ _ _ (fun b o e => Heap.get?_push_of_some _ (x.toInCall.keep b o e)) (x.toInCall.ns.push _) ⟨_, _, _, Heap.get?_push_size _ rfl, rfl, rfl, rfl⟩ (by show hh.objs.size ≠ _; omega) ?_
  cases e : s.heap.get? hh.objs.size with
  | none => rfl
  | some o => exact absurd (Nat.lt_trans hlt (Heap.lt_size e)) (Nat.lt_irrefl _)
end
end

section
open PySem PySem.Spec PySem.Calls PyProof.Rows PySem.W

/-- what the k-th yield of the generator is -/
noncomputable def gval (pre rest : List Int) (k : Nat) : Option Int := if k < pre.length then pre[k]? else if rest.head? = some 0 then pre.getLast? else none

/-- only the generator's own two objects have changed -/
noncomputable def Chg (L I : Addr) (s₀ s₁ : Shared) : Prop := ∃ h tk, s₁ = { s₀ with heap := h, toks := tk } ∧ ∀ b o, b ≠ L → b ≠ I → s₀.heap.get? b = some o → h.get? b = some o

noncomputable def PG (N : Nat) (pre rest : List Int) (L I : Addr) (n : Nat) (s₀ s₁ : Shared) : Prop :=
  gval pre rest (N - n) = none ∧ Chg L I s₀ s₁
noncomputable def YG (N : Nat) (pre rest : List Int) (hb : Heap) (L I : Addr) : Protocol := fun n s₀ v s₁ κ =>
  (∃ i t, v = .int i t ∧ gval pre rest (N - 1 - n) = some i) ∧ Chg L I s₀ s₁ ∧ ∃ oL oI, s₁.heap.get? L = some oL ∧ s₁.heap.get? I = some oI ∧
    (0 < n → ∀ s'' : Shared, (∀ b o, hb.get? b = some o → s''.heap.get? b = some o) → s''.heap.get? L = some oL → s''.heap.get? I = some oI → κ (.send .none) s'')

/-- all other objects, as facts -/
noncomputable def obs (L I : Addr) (h : Heap) : List Fact := (List.range h.objs.size).filterMap fun b => if b = L ∨ b = I then none else (h.get? b).map (Fact.ob b)
theorem mem_obs {L I : Addr} {h : Heap} {f : Fact} : f ∈ obs L I h ↔ ∃ b o, b ≠ L ∧ b ≠ I ∧ h.get? b = some o ∧ f = .ob b o := by
  unfold obs
  rw [List.mem_filterMap]
  constructor
  · rintro ⟨b, hb, e⟩
    by_cases hx : b = L ∨ b = I
    · rw [if_pos hx] at e; cases e
    · rw [if_neg hx] at e
      obtain ⟨o, ho, e⟩ := Option.map_eq_some_iff.mp e
      exact ⟨b, o, fun h => hx (.inl h), fun h => hx (.inr h), ho, e.symm⟩
  · rintro ⟨b, o, h1, h2, ho, rfl⟩
    exact ⟨b, List.mem_range.mpr (Heap.lt_size ho), by rw [if_neg (fun h => h.elim h1 h2), ho]; rfl⟩

section
variable {prog : Program} {w : World} {A : Around} {E : Value → Shared → Prop} {s₀ s : Shared} {env : Env} {m cm : Str → Option Value} {hb : Heap} {L I : Addr}

theorem St.mkG {oI : Obj} (hk : ∀ b o, hb.get? b = some o → s.heap.get? b = some o) (c : Chg L I s₀ s) (hL : hb.get? L = none) (hI : hb.get? I = none) (hLI : L ≠ I) (ns : s.heap.Ns L m) (ho : s.heap.get? I = some oI)
    (el : env.locals = L) (ec : env.cells = []) : St true { s₀ with heap := hb } env m cm [(I, .o oI)] (obs L I s₀.heap) s := by
  obtain ⟨h, tk, rfl, hc⟩ := c
  have hX : XS true env [(I, MO.o oI)] = [L, I] := by simp [XS, el, ec]
  refine ⟨⟨h, tk, rfl⟩, el ▸ ns, hk, fun n c e => ?_, fun p hp => ?_, fun a ha => ?_, fun a ha => ?_, ?_, fun f hf => ?_⟩
  · rw [ec] at e; cases e
  · rw [List.mem_singleton.mp hp]; exact ho
  · rw [hX] at ha
    rcases List.mem_cons.mp ha with rfl | ha
    · obtain ⟨o, _, _, e, _⟩ := ns; exact ⟨o, e⟩
    · rw [List.mem_singleton.mp ha]; exact ⟨oI, ho⟩
  · rw [hX] at ha
    rcases List.mem_cons.mp ha with rfl | ha
    · exact hL
    · rw [List.mem_singleton.mp ha]; exact hI
  · rw [hX]; simp [hLI]
  · obtain ⟨b, o, h1, h2, ho, rfl⟩ := mem_obs.mp hf
    rw [hX]
    exact ⟨hc b o h1 h2 ho, by simp [h1, h2]⟩
theorem St.outG {mu : List (Addr × MO)} (S : St true { s₀ with heap := hb } env m cm mu (obs L I s₀.heap) s) : Chg L I s₀ s := by
  obtain ⟨h, tk, e⟩ := S.same
  refine ⟨h, tk, e, fun b o h1 h2 ho => ?_⟩
  have := (S.facts (.ob b o) (mem_obs.mpr ⟨b, o, h1, h2, ho, rfl⟩)).1
  rw [e] at this; exact this
theorem St.liveG {oI : Obj} {fs : List Fact} (S : St true { s₀ with heap := hb } env m cm [(I, .o oI)] fs s) (el : env.locals = L) : (∃ oL, s.heap.get? L = some oL) ∧ s.heap.get? I = some oI :=
  ⟨el ▸ S.live _ (mem_XS_loc env _), S.muts (I, .o oI) List.mem_cons_self⟩
theorem Chg.refl (s : Shared) : Chg L I s s := ⟨s.heap, s.toks, rfl, fun _ _ _ _ e => e⟩

theorem St.backG {oL oI : Obj} {fs : List Fact} {s' : Shared} (S : St true { s₀ with heap := hb } env m cm [(I, .o oI)] fs s) (ho : s.heap.get? L = some oL) (hk : ∀ b o, hb.get? b = some o → s'.heap.get? b = some o)
    (hL : s'.heap.get? L = some oL) (hI : s'.heap.get? I = some oI) (el : env.locals = L) (ec : env.cells = []) : St true { s' with heap := hb } env m cm [(I, .o oI)] (obs L I s'.heap) s' := by
  have hX : XS true env [(I, MO.o oI)] = [L, I] := by simp [XS, el, ec]
  have h1 := S.new
  have h2 := S.apart
  rw [hX] at h1 h2
  refine St.mkG hk (Chg.refl _) (h1 L (by simp)) (h1 I (by simp)) ?_ ((el ▸ S.ns : s.heap.Ns L m).at' fun o e => ?_) hI el ec
  · simpa using h2
  · rw [ho] at e; cases e; exact hL

theorem seg_ind {M : Model} {R : GenEnd} {Y : Protocol} {c : Code} {fs : List Frame} (Inv : Nat → Shared → Shared → Prop)
    (turn : ∀ n s₀ s, Inv n s₀ s → (∀ m s₀' s', m < n → Inv m s₀' s' → Seg M A R Y m s₀' c (M.den c) fs s') → Seg M A R Y n s₀ c (M.den c) fs s) :
    ∀ n s₀ s, Inv n s₀ s → Seg M A R Y n s₀ c (M.den c) fs s := by
  intro n
  induction n using Nat.strongRecOn with
  | ind n IH => exact fun s₀ s h => turn n s₀ s h fun m s₀' s' hm hI => IH m hm s₀' s' hI

theorem seg_for_ind {M : Model} {R : GenEnd} {Y : Protocol} {x it body els env} {fs : List Frame} (Inv : Env → Nat → Shared → Shared → Prop)
    (turn : ∀ n s₀ s, Inv env n s₀ s → (∀ m s₀' s', m < n → Inv env m s₀' s' → Seg M A R Y m s₀' (.forLoop x it body els env) (M.den (.forLoop x it body els env)) fs s') → Seg M A R Y n s₀ (.forLoop x it body els env) (M.den (.forLoop x it body els env)) fs s) :
    ∀ n s₀ s, Inv env n s₀ s → Seg M A R Y n s₀ (.forLoop x it body els env) (M.den (.forLoop x it body els env)) fs s := seg_ind (Inv env) turn
theorem seg_while_ind {M : Model} {R : GenEnd} {Y : Protocol} {x body els env} {fs : List Frame} (Inv : Env → Nat → Shared → Shared → Prop)
    (turn : ∀ n s₀ s, Inv env n s₀ s → (∀ m s₀' s', m < n → Inv env m s₀' s' → Seg M A R Y m s₀' (.whileLoop x body els env) (M.den (.whileLoop x body els env)) fs s') → Seg M A R Y n s₀ (.whileLoop x body els env) (M.den (.whileLoop x body els env)) fs s) :
    ∀ n s₀ s, Inv env n s₀ s → Seg M A R Y n s₀ (.whileLoop x body els env) (M.den (.whileLoop x body els env)) fs s := seg_ind (Inv env) turn

set_option maxHeartbeats 4000000 in
theorem gen_goes {o : Obj} {fd : FuncData} {body : List Stmt} {N : Nat} {ra : Addr} {vs : List Value} {nr : Nat} {pre rest : List Int}
    (ho : (KK w).lookup 21 = some o) (hd : o.data = .func fd) (hbd : fd.body = .stmts body) (G : Gl (KK w) hb) (hrow : hb.get? ra = some (lst vs nr)) (hints : IntsAre vs (pre ++ rest)) (hpre : ∀ x ∈ pre, 0 < x ∧ x < 127) (hne : pre ≠ [])
    (hrest : rest = [] ∨ rest.head? = some 0 ∨ rest.head? = some 127) (hL : hb.get? L = none) (hI : hb.get? I = none) (hLI : L ≠ I) (hh : A.handled = none) (hIs : I = s.heap.objs.size)
    (hk : ∀ b o, hb.get? b = some o → s.heap.get? b = some o) (ns : s.heap.Ns L m) (hm : m (Str.ofString "grouping") = some (.ref ra)) (hN : 0 < N) :
    (GenState.fresh (.func body (callEnvC fd L 21))).Goes (model prog w) A (fun n s₀ r s₁ => r = .ok (.ret .none) ∧ PG N pre rest L I n s₀ s₁) (YG N pre rest hb L I) N (.send .none) s := by
  have ho' : (KK w).lookup 21 = some _ := rfl
  obtain rfl := Option.some.inj (ho.symm.trans ho')
  clear ho ho'
  cases hd
  cases hbd
  refine ⟨rfl, ?_⟩
  refine seg_func ?_
  refine seg_execs_cons (seg_do (wpAny_Assign_Name (Constant_none ?_)))
  refine wpAny_storeName_local rfl ns fun h' ns' hs' => ?_
  have hs' : Heap.SameBut L s.heap h' := hs'
  refine seg_execs_cons (seg_For ?_)
  refine wpAny_Name (wpAny_loadName_local rfl rfl ns' hm ?_) (by decide)
  have hra : ra ≠ L := fun e => by rw [e, hL] at hrow; cases hrow
  have hraI : ra ≠ I := fun e => by rw [e, hI] at hrow; cases hrow
  have hk' : ∀ b o, hb.get? b = some o → h'.get? b = some o := fun b o e => (hs'.2 b (fun h => by rw [h, hL] at e; cases e)).trans (hk b o e)
  have hsz : h'.objs.size = I := by rw [hs'.1]; exact hIs.symm
  have hl' : h'.IsList ra vs.toArray := ⟨_, hk' _ _ hrow, rfl, _, rfl⟩
  refine wpAny_pyIter_list hl' ?_
  intro p
  have hlen : vs.length = (pre ++ rest).length := ints_len hints
  have e0 : (({ s with heap := h', toks := s.toks + 1 } : Shared).heap.objs.size) = I := hsz
  rw [e0]
  have W : ∀ A' : Around, A'.handled = none → Walks prog w A' I [I, ra] [I] vs.length (fun i v => vs[i]? = some v) (fun i h => h.IsListIter I ra i ∧ h.IsList ra vs.toArray) := fun A' hA => by
    have := Walks.list (prog := prog) (w := w) hA I ra hraI vs.toArray
    simpa only [List.size_toArray, List.getElem?_toArray] using this
  refine seg_for_ind (fun env n s₀ s₁ => ∃ k oI m₁, k ≤ pre.length ∧ N = n + k ∧ 0 < n ∧ oI.cls = .type "list_iterator" ∧ oI.data = .fields #[.ref ra, .int k 0] ∧ m₁ (Str.ofString "grouping") = some (.ref ra) ∧
      (0 < k → ∃ x t, pre[k - 1]? = some x ∧ m₁ (Str.ofString "last_interval") = some (.int x t)) ∧ St true { s₀ with heap := hb } env m₁ (fun _ => none) [(I, .o oI)] (obs L I s₀.heap) s₁) ?_ N s _ ?_
  · rintro n s₀ s₁ ⟨k, oI, m₁, hkp, hNk, hn, hoc, hod, hm1, hlast, S⟩ IH
    obtain ⟨n, rfl⟩ : ∃ n', n = n' + 1 := ⟨n - 1, by omega⟩
    refine seg_forLoop ?_
    have hls : s₁.heap.IsList ra vs.toArray := ⟨_, S.keep _ _ hrow, rfl, _, rfl⟩
    have hit : s₁.heap.IsListIter I ra k := ⟨oI, S.muts (I, .o oI) List.mem_cons_self, hoc, hod⟩
    by_cases hkl : k < vs.length
    · refine (W _ ?_).item k s₁ _ _ hkl ⟨hit, hls⟩ fun v hh' tk hv hw hkk => ?_
      · exact hh
      obtain ⟨⟨oI', hoI', hoc', hod'⟩, _⟩ := hw
      have S := St.next (mu := []) (t := tk) S hkk (y := .o oI') hoI'
      have hkl' : k < (pre ++ rest).length := hlen ▸ hkl
      obtain ⟨ty, hty⟩ := ints_get hints (List.getElem?_eq_getElem hkl')
      rw [hty] at hv
      cases hv
      generalize hy : (pre ++ rest)[k] = y at S ⊢
      refine wpAny_assign_Name (st_loc S ?_)
      intro s₁ S
      refine seg_execs_cons (seg_If (wpAny_isTrue_Compare1 ?_))
      refine ev_loc S rfl ?_
      refine ev_glo S G rfl ?_
      refine eq_int (wpAny_truthy_bool ?_)
      have hite : ∀ {p : Prop} [Decidable p] {a b : Prop}, ¬ p → b → (if p then a else b) := fun hp hb => by rw [if_neg hp]; exact hb
      have hyy : (pre ++ rest)[k]? = some y := by rw [List.getElem?_eq_getElem hkl', hy]
      by_cases hkq : k < pre.length
      · rw [List.getElem?_append_left hkq] at hyy
        have hyb := hpre y (List.mem_of_getElem? hyy)
        refine hite (by simp; omega) ?_
        refine seg_execs_nil ?_
        refine seg_execs_cons (seg_If (wpAny_isTrue_Compare1 ?_))
        refine ev_loc S rfl ?_
        refine ev_int S ?_
        intro s₁ _ S
        refine eq_int (wpAny_truthy_bool (hite (by simp; omega) ?_))
        refine seg_execs_nil ?_
        refine seg_execs_cons (seg_Expr_Yield rfl rfl rfl ?_)
        refine ev_loc S rfl ?_
        intro kap hkap
        obtain ⟨⟨oL, hoL⟩, hoI⟩ := S.liveG (L := L) rfl
        refine ⟨⟨y, ty, rfl, ?_⟩, S.outG, oL, oI', hoL, hoI, fun hn0 s₂ h1 h2 h3 => hkap .none s₂ ?_⟩
        · unfold gval
          have : N - 1 - n = k := by omega
          rw [this, if_pos hkq]; exact hyy
        have S := S.backG hoL h1 h2 h3 rfl rfl
        refine seg_execs_cons (seg_do (wpAny_Assign_Name ?_))
        refine ev_loc S rfl ?_
        refine st_loc S ?_
        intro s₃ S
        refine seg_execs_nil ?_
        refine seg_again rfl (IH n s₂ s₃ (by omega) ⟨k + 1, oI', _, by omega, by omega, hn0, hoc', hod', ?_, ?_, S⟩)
        · exact hm1
        · intro _; exact ⟨y, ty, hyy, rfl⟩
      · have hkp' : k = pre.length := by omega
        subst hkp'
        rw [List.getElem?_append_right (Nat.le_refl _), Nat.sub_self] at hyy
        have hhd : rest.head? = some y := by rw [List.head?_eq_getElem?]; exact hyy
        rcases hrest with hr | hr | hr
        · rw [hr] at hhd; cases hhd
        · rw [hr] at hhd
          cases hhd
          refine hite (by decide) ?_
          refine seg_execs_nil ?_
          refine seg_execs_cons (seg_If (wpAny_isTrue_Compare1 ?_))
          refine ev_loc S rfl ?_
          refine ev_int S ?_
          intro s₁ _ S
          refine eq_int (wpAny_truthy_bool ?_)
          show Seg _ _ _ _ _ _ _ _ _ _
          obtain ⟨x, tx, hx, hmx⟩ := hlast (List.length_pos_iff.mpr hne)
          refine seg_execs_cons (seg_If (wpAny_isTrue_Compare1 ?_))
          refine ev_loc S hmx ?_
          refine Constant_none ?_
          refine is_int_none (wpAny_truthy_bool (hite (by decide) ?_))
          refine seg_execs_nil ?_
          refine seg_execs_cons (seg_While ?_)
          intro p'
          refine seg_while_ind (fun env n s₀ s₁ => ∃ oI m₁, pre.length + n ≤ N ∧ 0 < n ∧ m₁ (Str.ofString "last_interval") = some (.int x tx) ∧ St true { s₀ with heap := hb } env m₁ (fun _ => none) [(I, .o oI)] (obs L I s₀.heap) s₁) ?_ _ s₀ s₁ ⟨oI', _, by omega, hn, hmx, S⟩
          rintro n s₀ s₁ ⟨oI, m₁, hNn, hn, hmx, S⟩ IH
          obtain ⟨n, rfl⟩ : ∃ n', n = n' + 1 := ⟨n - 1, by omega⟩
          refine seg_whileLoop (isTrue_plain (Constant_bool (wpAny_truthy_bool ?_)))
          show Seg _ _ _ _ _ _ _ _ _ _
          refine seg_execs_cons (seg_Expr_Yield rfl rfl rfl ?_)
          refine ev_loc S hmx ?_
          intro kap hkap
          obtain ⟨⟨oL, hoL⟩, hoI⟩ := S.liveG (L := L) rfl
          refine ⟨⟨x, tx, rfl, ?_⟩, S.outG, oL, oI, hoL, hoI, fun hn0 s₂ h1 h2 h3 => hkap .none s₂ ?_⟩
          · unfold gval
            rw [if_neg (by omega), if_pos hr, List.getLast?_eq_getElem?]; exact hx
          have S := S.backG hoL h1 h2 h3 rfl rfl
          refine seg_execs_nil ?_
          exact seg_again rfl (IH n s₂ s₂ (by omega) ⟨oI, m₁, by omega, hn0, hmx, S⟩)
        · rw [hr] at hhd
          cases hhd
          show Seg _ _ _ _ _ _ _ _ _ _
          refine seg_execs_cons (seg_do (wpAny_Return_none ?_))
          refine seg_leaf (.ok (.ret .none)) ?_
          refine seg_end (.ok (.ret .none)) ⟨rfl, ?_, S.outG⟩
          unfold gval
          rw [if_neg (by omega), if_neg (by rw [hr]; decide)]
    · have hkp' : k = pre.length := by rw [hlen, List.length_append] at hkl; omega
      have hr0 : rest = [] := by rw [hlen, List.length_append] at hkl; exact List.eq_nil_of_length_eq_zero (by omega)
      have hke : k = vs.length := by rw [hlen, List.length_append, hr0]; simpa using hkp'
      refine (W _ ?_).done s₁ _ _ (hke ▸ ⟨hit, hls⟩) fun hh' tk hkk => ?_
      · exact hh
      have S := St.nextDrop (mu := []) (t := tk) S hkk
      refine seg_block (seg_leaf (.ok .next) ?_)
      refine seg_end (.ok (.ret .none)) ⟨rfl, ?_, S.outG⟩
      unfold gval
      rw [if_neg (by omega), if_neg (by rw [hr0]; decide)]
  · have hp := Heap.get?_push_size h' (o := { cls := .type "list_iterator", data := .fields #[.ref ra, .int 0 0] }) rfl
    rw [hsz] at hp
    refine ⟨0, _, _, Nat.zero_le _, rfl, hN, rfl, rfl, ?_, (fun h => absurd h (Nat.lt_irrefl _)), St.mkG (fun b o e => Heap.get?_push_of_some _ (hk' b o e)) ⟨_, _, rfl, fun b o h1 h2 e => Heap.get?_push_of_some _ ((hs'.2 b h1).trans e)⟩ hL hI hLI (ns'.push _) hp rfl rfl⟩
    exact hm
end
end

section
open PySem PySem.Spec PySem.Calls PyProof.Rows PySem.W
local macro_rules | `(tactic| walk_at "sz") => `(tactic| first | (rw [sizeLine_eq]; omega) | (simp only [List.length_cons, List.length_nil, List.length_take, List.length_drop, List.length_append, List.length_map, List.length_replicate, sizeLine_eq]; omega) | (simp [sizeLine_eq]; done) | (simp [sizeLine_eq]; omega))

/-- the blocks that the first k yields write -/
noncomputable def gblk (pre rest : List Int) : Nat → List Int
  | 0 => []
  | k + 1 => gblk pre rest k ++ List.replicate ((gval pre rest k).getD 0).toNat (k : Int)

theorem gval_pos {pre rest : List Int} (hpre : ∀ x ∈ pre, 0 < x ∧ x < 127) {k : Nat} {i : Int} (h : gval pre rest k = some i) : 0 < i ∧ i < 127 := by
  unfold gval at h
  split at h
  · exact hpre i (List.mem_of_getElem? h)
  · split at h
    · exact hpre i (List.mem_of_getLast? h)
    · cases h

theorem gblk_ge {pre rest : List Int} : ∀ {k : Nat}, (∀ j < k, ∃ i, gval pre rest j = some i ∧ 0 < i) → k ≤ (gblk pre rest k).length
  | 0, _ => Nat.zero_le _
  | k + 1, h => by
    obtain ⟨i, hi, h0⟩ := h k (Nat.lt_succ_self k)
    have := gblk_ge (k := k) fun j hj => h j (Nat.lt_succ_of_lt hj)
    simp only [gblk, List.length_append, List.length_replicate, hi, Option.getD_some]
    omega
theorem ints_rep (v : Value) (n : Int) (t : Tok) (hv : v = .int n t) : ∀ k : Nat, IntsAre (List.replicate k v) (List.replicate k n)
  | 0 => .nil
  | k + 1 => by rw [List.replicate_succ, List.replicate_succ, hv]; exact .cons _ _ (hv ▸ ints_rep v n t hv k)

theorem allBare_set {gens : Array GenState} {g : Nat} {x : GenState} (h : AllBare gens) (hx : x.bare = true) : AllBare (gens.setIfInBounds g x) := by
  intro y hy
  obtain ⟨i, hi, rfl⟩ := Array.mem_iff_getElem.mp hy
  rw [Array.getElem_setIfInBounds (by simpa using hi)]
  split
  · exact hx
  · exact h _ (Array.getElem_mem (by simpa using hi))

section
variable {prog : Program} {w : World} {A : Around} {E : Value → Shared → Prop} {s : Shared}

@[reducible] noncomputable def envOf {own : Bool} {s₀ s : Shared} {env : Env} {m cm : Str → Option Value} {mu : List (Addr × MO)} {fs : List Fact} (_ : St own s₀ env m cm mu fs s) : Env := env
theorem St.sameG {own : Bool} {s₀ s : Shared} {env : Env} {m cm : Str → Option Value} {mu : List (Addr × MO)} {fs : List Fact} (S : St own s₀ env m cm mu fs s) : s.gens = s₀.gens := by obtain ⟨_, _, e⟩ := S.same; rw [e]
theorem St.reG {own : Bool} {s₀ s : Shared} {env : Env} {m cm : Str → Option Value} {mu : List (Addr × MO)} {fs : List Fact} (S : St own s₀ env m cm mu fs s) : St own { s₀ with gens := s.gens } env m cm mu fs s := by rw [S.sameG]; exact S
theorem ex_by {st : Stmt} {env : Env} {Q : Flow → Shared → Prop} (D : Env → Flow → Shared → Prop) (h : wpAny (model prog w) A (exec st env) (D env) (fun _ _ => False) s) (h' : ∀ f s', D env f s' → Q f s') : wpAny (model prog w) A (exec st env) Q E s :=
  wpAny_mono h h' fun _ _ f => f.elim

/-- behind the loop -/
noncomputable def GD (pre rest : List Int) (aR : Addr) (s : Shared) : Env → Flow → Shared → Prop :=
  fun env f s' => f = .next ∧ ∃ m₁ cm₁ vsR k t mu' fs', k ≤ 41 ∧ (gval pre rest k = none ∨ 40 < (gblk pre rest k).length) ∧ (∀ j < k, (gblk pre rest j).length ≤ 40 ∧ gval pre rest j ≠ none) ∧ AllBare s'.gens ∧
      IntsAre vsR (gblk pre rest k) ∧ m₁ (Str.ofString "ranks") = some (.ref aR) ∧ m₁ (Str.ofString "rank") = some (.int k t) ∧ St true { s with gens := s'.gens } env m₁ cm₁ ((aR, .l vsR) :: mu') fs' s'
/-- ahead of a turn -/
noncomputable def GI (prog : Program) (w : World) (A' : Around) (pre rest : List Int) (aR : Addr) (s s₁ : Shared) (env : Env) (h' : Heap) (b : Addr) (og : Obj) : Nat → Shared → Prop :=
  fun n s' => ∃ k m₁ cm₁ vsR t mu₁ gs, n + k = 50 ∧ k ≤ 41 ∧ (∀ j < k, (gblk pre rest j).length ≤ 40 ∧ gval pre rest j ≠ none) ∧ AllBare s'.gens ∧ IntsAre vsR (gblk pre rest k) ∧
      m₁ (Str.ofString "ranks") = some (.ref aR) ∧ m₁ (Str.ofString "rank") = some (.int k t) ∧ s'.gens[s₁.gens.size]? = some gs ∧
      St true { s with gens := s'.gens } env m₁ cm₁ ((aR, .l vsR) :: mu₁) [.ob b og] s' ∧ mu₁.map (·.1) ⊆ [s₁.heap.objs.size, h'.objs.size] ∧ (h'.objs.size ∈ mu₁.map (·.1) ∨ s'.heap.objs.size = h'.objs.size) ∧ s₁.heap.objs.size ∈ mu₁.map (·.1) ∧
      gs.Goes (model prog w) A'.in1 (fun n s₀ r s₁' => r = .ok (.ret .none) ∧ PG 50 pre rest s₁.heap.objs.size h'.objs.size n s₀ s₁') (YG 50 pre rest s.heap s₁.heap.objs.size h'.objs.size) n (.send .none) (s'.setGen s₁.gens.size .running)
set_option maxHeartbeats 8000000 in
theorem c_ranks {pre rest : List Int} {vr : Value} {P : Addr → Prop} {Q : Value → Shared → Prop} (G : Gl (KK w) s.heap) (hroom : A.depth + 2 < recursionLimit) (hh : A.handled = none) (hab : AllBare s.gens)
    (hr : Rd s.heap P vr (ilist (pre ++ rest))) (hpre : ∀ x ∈ pre, 0 < x ∧ x < 127) (hne : pre ≠ []) (hrest : rest = [] ∨ rest.head? = some 0 ∨ rest.head? = some 127)
    (h : ∀ s' v k, k ≤ 41 → (gval pre rest k = none ∨ 40 < (gblk pre rest k).length) → (∀ j < k, (gblk pre rest j).length ≤ 40 ∧ gval pre rest j ≠ none) → AllBare s'.gens →
      New { s with gens := s'.gens } s' v (ilist (gblk pre rest k ++ List.replicate 41 ((k : Int) + 1))) → Q v s') :
    wpAny (model prog w) A (call (.ref 71) [vr]) Q E s := by
  obtain ⟨lr, vrs, nr, rfl, _⟩ := hr.inv
  refine c_enter (K := KK w) (a := 71) G (by omega) rfl rfl rfl rfl rfl rfl ?_ ?_ ?_
  · exact fun n => kindsX rfl n
  · decide
  intro s₁ A' hA1 hA2 hA3 S
  have S := S.arg hr
  rw [hh] at hA1
  refine ec ?_
  intro Q101 hn101 _
  refine wpAny_Assign_Name ?_
  refine List_ ?_
  refine spliced_none ?_
  refine nl_mut S (by walk_at "sz") ?_
  intro aR s₁ S
  refine st_loc S ?_
  intro s₁ S
  refine hn101 _ ?_
  refine ec ?_
  intro Q102 hn102 _
  refine wpAny_Assign_Name ?_
  refine ev_int S ?_
  intro s₁ t0 S
  refine st_loc S ?_
  intro s₁ S
  refine hn102 _ ?_
  refine ec ?_
  intro Q3 hn3 _
  refine ex_by (GD pre rest aR s) (wpAny_For ?_) ?_
  · refine ev_callF (K := KK w) S G rfl rfl rfl ?_
    refine spliced_more ?_
    refine ev_loc S rfl ?_
    have G₁ := G.keeps S.keep
    refine spliced_none ⟨G₁.x _ _ rfl, ?_⟩
    refine c_makeG (K := KK w) G₁ (by omega) rfl rfl rfl rfl rfl rfl ?_ ?_
    · exact fun n => kindsX rfl n
    intro h' tk b hk hns hgen hbL hb0
    refine wpAny_pyIter_gen (g := s₁.gens.size) hgen ?_
    have hL0 : s₁.heap.get? s₁.heap.objs.size = none := none_of_size
    have hLI : s₁.heap.objs.size < h'.objs.size := by obtain ⟨o, _, _, e, _⟩ := hns; exact Heap.lt_size e
    have hI0 : s₁.heap.get? h'.objs.size = none := by
      cases e : s₁.heap.get? h'.objs.size with
      | none => rfl
      | some o => exact absurd (Nat.lt_trans hLI (Heap.lt_size e)) (Nat.lt_irrefl _)
    obtain ⟨oL, hoL⟩ : ∃ o, h'.get? s₁.heap.objs.size = some o := by obtain ⟨o, _, _, e, _⟩ := hns; exact ⟨o, e⟩
    obtain ⟨og, nm, qn, hog, hgc, hgd, hgs⟩ := hgen
    obtain ⟨vrow, nrow, hrow, hrints, _, hrX⟩ := S.ints (a := lr) (ns := pre ++ rest) (by walk_at "has")
    have hgl : s₁.gens = s.gens := by obtain ⟨_, _, e⟩ := S.same; rw [e]
    have hgenAt : ∀ {h₂ : Heap}, h₂.get? b = some og → h₂.IsGen b s₁.gens.size := fun e => ⟨og, nm, qn, e, hgc, hgd, hgs⟩
    -- the state at the loop's start
    have SL := ((S.growLast (t := tk) hk hL0 (x := .o oL) hoL).add (f := .ob b og) ⟨hog, by
      rw [XS_snoc, List.mem_append, List.mem_singleton]
      rintro (hb | hb)
      · obtain ⟨o, e⟩ := S.live b hb; rw [hb0] at e; cases e
      · exact hbL hb⟩)
    refine codeAny_forLoop (GI prog w A' pre rest aR s s₁ (envOf S) h' b og) ?_ 50 ?_
    · rintro n s' ⟨k, m₁, cm₁, vsR, t, mu₁, gs, hnk, hk41, hprev, hbare, hints, hm1, hm2, hgs', S', hmu, hIin, hLin, hgo⟩
      obtain ⟨n, rfl⟩ : ∃ n', n = n' + 1 := ⟨n - 1, by omega⟩
      have hlen : (gblk pre rest k).length ≤ 200 := by
        cases k with
        | zero => simp [gblk]
        | succ j =>
          have h1 := (hprev j (Nat.lt_succ_self j)).1
          simp only [gblk, List.length_append, List.length_replicate]
          cases hg : gval pre rest j with
          | none => simp; omega
          | some i => have := gval_pos hpre hg; simp; omega
      have hl2 := ints_len hints
      have hkk : ∀ {h₂ : Heap}, (∀ b o, b ≠ s₁.heap.objs.size → b ≠ h'.objs.size → s'.heap.get? b = some o → h₂.get? b = some o) → ∀ b o, b ∉ mu₁.map (·.1) → s'.heap.get? b = some o → h₂.get? b = some o := fun hch b o hb e => by
        refine hch b o (fun e' => hb (e' ▸ hLin)) (fun e' => ?_) e
        rcases hIin with hI | hI
        · exact hb (e' ▸ hI)
        · rw [e', ← hI, none_of_size] at e; cases e
      refine next_gen (g := s₁.gens.size) hA1 (G.keeps S'.keep).lim (by omega) (hgenAt (S'.facts (.ob b og) List.mem_cons_self).1) hgs' hgo ?_ ?_
      · rintro v s₂ gs' hbr ⟨⟨i, ti, rfl, hgv⟩, ⟨h₂, tk₂, rfl, hch⟩, oL', oI', hL', hI', hnext⟩
        have hgk : gval pre rest k = some i := by rw [← hgv]; congr 1; omega
        have hib := gval_pos hpre hgk
        have hno : (([(s₁.heap.objs.size, .o oL'), (h'.objs.size, .o oI')] : List (Addr × MO)).map (·.1)).Nodup := by
          simp only [List.map_cons, List.map_nil, List.nodup_cons, List.mem_singleton, List.not_mem_nil, not_false_eq_true, List.nodup_nil, and_true]
          exact Nat.ne_of_lt hLI
        have S2 := (S'.chg (t := tk₂) (h' := h₂) (mu' := [(s₁.heap.objs.size, .o oL'), (h'.objs.size, .o oI')]) (hkk hch) (fun q hq => by
            rcases List.mem_cons.mp hq with rfl | hq
            · exact hL'
            · rw [List.mem_singleton.mp hq]; exact hI') (fun q hq => by
            rcases List.mem_cons.mp hq with rfl | hq
            · exact .inl hLin
            · rw [List.mem_singleton.mp hq]
              rcases hIin with hI | hI
              · exact .inl hI
              · exact .inr (hI ▸ none_of_size)) hno).gens (((s'.gens.setIfInBounds s₁.gens.size .running)).setIfInBounds s₁.gens.size gs')
        have hb2 : AllBare ((s'.gens.setIfInBounds s₁.gens.size .running).setIfInBounds s₁.gens.size gs') := allBare_set (allBare_set hbare rfl) hbr
        have hg2 : ((s'.gens.setIfInBounds s₁.gens.size .running).setIfInBounds s₁.gens.size gs')[s₁.gens.size]? = some gs' := setGen_self (s := s'.setGen s₁.gens.size .running) (gs := .running) (setGen_self hgs')
        refine wpAny_assign_Name (st_loc S2 ?_)
        intro s₂ S
        have hsg : s₂.gens = (s'.gens.setIfInBounds s₁.gens.size .running).setIfInBounds s₁.gens.size gs' := S.sameG
        rw [← hsg] at S hb2 hg2
        clear S2 hsg
        refine wp_gen ?_
        intro Qb hQb
        refine ec ?_
        intro Q4 hn4 hq4
        refine wpAny_If (wpAny_isTrue_Compare1 ?_)
        refine ev_callB (K := KK w) S G rfl rfl ?_
        refine spliced_more ?_
        refine ev_loc S hm1 ?_
        refine spliced_none ?_
        refine c_lenL S (S.list List.mem_cons_self).isList (by walk_at "sz") ?_
        intro s₃ t₁ S
        refine ev_int S ?_
        intro s₃ t₂ S
        refine gt_int (wpAny_truthy_bool ?_)
        rw [hl2]
        by_cases h40 : 40 < (gblk pre rest k).length
        · rw [if_pos (by simp; omega)]
          refine wpAny_execs_cons (wpAny_Break ?_)
          refine hq4 _ _ nofun ?_
          refine hQb _ _ ?_
          have hsg : s₃.gens = s₂.gens := S.sameG
          have S9 := S.reG
          refine ⟨rfl, _, _, vsR, k, t, _, _, hk41, .inr h40, hprev, ?_, hints, ?_, ?_, S9⟩
          · rw [hsg]; exact hb2
          · exact hm1
          · exact hm2
        · rw [if_neg (by simp; omega)]
          refine wpAny_execs_nil ?_
          refine hn4 _ ?_
          refine ec ?_
          intro Q5 hn5 _
          refine wpAny_Expr ?_
          refine ev_mL PySem.F.slot_list_extend PySem.F.type_list_extend ?_
          refine ev_loc S hm1 ?_
          refine ⟨aR, _, rfl, S.list (a := aR) List.mem_cons_self, ?_⟩
          refine cw_1 ?_
          refine wpAny_BinOp ?_
          refine List_ ?_
          refine spliced_more ?_
          refine ev_loc S hm2 ?_
          refine spliced_none ?_
          refine nl_ints (ns := [(k : Int)]) S (.cons _ _ .nil) (by walk_at "sz") ?_
          intro a1 s₃ S
          refine ev_loc S rfl ?_
          obtain ⟨v1, n1, e1, r1, _, _⟩ := S.ints (a := a1) (ns := [(k : Int)]) (by walk_at "has")
          cases r1 with
          | cons _ tt r1 =>
          cases r1
          refine op_rep (k := i.toNat) S e1 (by omega) (by omega) ?_
          intro a2 s₄ ha2 S e2 hk2
          refine c_extend0 S e2 (by walk_at "sz") ?_
          intro s₅ S
          refine hn5 _ ?_
          refine ec ?_
          intro Q6 hn6 _
          refine wpAny_Assign_Name ?_
          refine wpAny_BinOp ?_
          refine ev_loc S hm2 ?_
          refine ev_int S ?_
          intro s₆ t₄ S
          refine op_add S ?_
          intro s₇ t₅ S
          refine st_loc S ?_
          intro s₈ S
          refine hn6 _ ?_
          refine wpAny_execs_nil ?_
          refine hQb _ _ ?_
          have hsg : s₈.gens = s₂.gens := S.sameG
          have S9 := (S.sub (fs' := [.ob b og]) fun f hf => List.mem_cons_of_mem _ hf).reG
          have hlk : k ≤ (gblk pre rest k).length := gblk_ge fun j hj => by
            obtain ⟨i, hi⟩ := Option.ne_none_iff_exists'.mp (hprev j hj).2
            exact ⟨i, hi, (gval_pos hpre hi).1⟩
          have hke : ((k : Int) + 1) = ((k + 1 : Nat) : Int) := by omega
          refine ⟨n, Nat.lt_succ_self _, k + 1, _, _, _, t₅, _, gs', by omega, by omega, ?_, ?_, ?_, ?_, ?_, ?_, S9, ?_, ?_, ?_, ?_⟩
          · intro j hj
            rcases Nat.lt_succ_iff_lt_or_eq.mp hj with hj | rfl
            · exact hprev j hj
            · exact ⟨by omega, by rw [hgk]; simp⟩
          · rw [hsg]; exact hb2
          · rw [gblk, hgk]; exact ints_app hints (ints_rep _ _ _ rfl _)
          · exact hm1
          · rw [← hke]; rfl
          · rw [hsg]; exact hg2
          · simp
          · exact .inl (by simp)
          · simp
          · have hL9 := S9.muts (s₁.heap.objs.size, .o oL') (by simp)
            have hI9 := S9.muts (h'.objs.size, .o oI') (by simp)
            exact hnext (by omega) (s₈.setGen s₁.gens.size .running) S9.keep hL9 hI9
      · rintro s₂ ⟨hgv, h₂, tk₂, rfl, hch⟩ h₃ hk₃
        have hgk : gval pre rest k = none := by rw [← hgv]; congr 1; omega
        have S2 := (S'.chg (t := tk₂) (h' := h₃) (mu' := []) (fun b o hb e => hk₃ b o (hkk hch b o hb e)) (fun _ hq => nomatch hq) (fun _ hq => nomatch hq) List.nodup_nil).gens (((s'.gens.setIfInBounds s₁.gens.size .running)).setIfInBounds s₁.gens.size .finished)
        refine wpAny_execs_nil ?_
        refine ⟨rfl, _, _, vsR, k, t, _, _, hk41, .inl hgk, hprev, ?_, hints, ?_, ?_, S2⟩
        · exact allBare_set (allBare_set hbare rfl) rfl
        · exact hm1
        · exact hm2
    · have S3 := ((SL.sub (fs' := [.ob b og]) fun f hf => by rw [List.mem_singleton.mp hf]; exact List.mem_cons_self).gens)
      refine ⟨0, _, _, [], t0, _, _, rfl, Nat.zero_le _, (fun j hj => absurd hj (Nat.not_lt_zero j)), ?_, .nil, ?_, ?_, Array.getElem?_push_size, S3 _, ?_, .inr rfl, ?_, ?_⟩
      · exact AllBare.push (hgl ▸ hab) rfl
      · rfl
      · rfl
      · simp
      · simp
      · obtain ⟨_, vr2, nr2, e2, _, hrow2, _⟩ := hr.inv
        cases e2
        have hs0 : ∀ a, s₁.heap.get? a = none → s.heap.get? a = none := fun a ha => by
          cases e : s.heap.get? a with
          | none => rfl
          | some o => rw [S.keep a o e] at ha; cases ha
        have he2 : vr2 = vrow := by
          have := S.keep _ _ hrow2
          rw [hrow] at this; cases this; rfl
        refine gen_goes (w := w) (hb := s.heap) (m := _) rfl rfl rfl G hrow2 (he2 ▸ hrints) hpre hne hrest (hs0 _ hL0) (hs0 _ hI0) (Nat.ne_of_lt hLI) hA1 rfl SL.keep hns ?_ (by decide)
        rfl
  · rintro f s' ⟨rfl, m₁, cm₁, vsR, k, t, mu', fs', hk, hc1, hc2, hb, hints, hm1, hm2, S⟩
    have hlen : (gblk pre rest k).length ≤ 200 := by
      cases k with
      | zero => simp [gblk]
      | succ j =>
        have h1 := (hc2 j (Nat.lt_succ_self j)).1
        simp only [gblk, List.length_append, List.length_replicate]
        cases hg : gval pre rest j with
        | none => simp; omega
        | some i => have := gval_pos hpre hg; simp; omega
    have hl2 := ints_len hints
    refine hn3 _ ?_
    refine wpAny_execs_cons (wpAny_Return_some (wpAny_BinOp ?_))
    refine ev_loc S hm1 ?_
    refine wpAny_BinOp ?_
    refine List_ ?_
    refine spliced_more ?_
    refine wpAny_BinOp ?_
    refine ev_loc S hm2 ?_
    refine ev_int S ?_
    intro s₁ t₁ S
    refine op_add S ?_
    intro s₁ t₂ S
    refine spliced_none ?_
    refine nl_ints (ns := [(k : Int) + 1]) S (.cons _ _ .nil) (by walk_at "sz") ?_
    intro a1 s₁ S
    refine ev_int S ?_
    intro s₁ t₃ S
    obtain ⟨v1, n1, e1, r1, _, _⟩ := S.ints (a := a1) (ns := [(k : Int) + 1]) (by walk_at "has")
    cases r1 with
    | cons _ tt r1 =>
    cases r1
    refine op_rep (k := 41) S e1 rfl (by decide) ?_
    intro a2 s₂ ha2 S e2 hk2
    refine op_addL (xs := (gblk pre rest k ++ List.replicate 41 ((k : Int) + 1)).map PyData.int) S (S.list List.mem_cons_self).isList (lst_isList e2) (by walk_at "sz") (rdAll_of_ints (ints_app hints (ints_rep _ _ _ rfl _))) ?_
    intro a3 s₃ S
    have hsg : s₃.gens = s'.gens := by obtain ⟨_, _, e⟩ := S.same; rw [e]
    refine h s₃ _ k hk hc1 hc2 (hsg ▸ hb) ?_
    rw [hsg]
    exact S.doneD (by walk_at "mem")
end
end

section
open PySem PySem.Spec PySem.Calls PyProof.Rows PySem.W

/-- a tree with its brackets -/
inductive X where
  | lf (k : Int)
  | nd (p : Int) (bl : Bool) (l : X) (br : Bool) (r : X)
namespace X
noncomputable def bk (b : Bool) (x : List Int) : List Int := if b then 7 :: (x ++ [8]) else x
noncomputable def tk : X → List Int
  | .lf k => [256 + k]
  | .nd p bl l br r => bk bl l.tk ++ (p + 14) :: bk br r.tk
noncomputable def tw : X → List Nat
  | .lf k => [97 + k.toNat]
  | .nd p bl l br r => brk bl l.tw ++ sign p ++ brk br r.tw
noncomputable def In : X → Prop
  | .lf k => 0 ≤ k ∧ k < 7
  | .nd p _ l _ r => 0 ≤ p ∧ p < 41 ∧ l.In ∧ r.In
noncomputable def size : X → Nat
  | .lf _ => 0
  | .nd _ _ l _ r => l.size + r.size + 1
noncomputable def fl : X → Nat
  | .lf _ => 0
  | .nd _ bl l br r => bl.toNat + l.fl + br.toNat + r.fl
end X
noncomputable def ann (R : Int → Int) : T → X
  | .lf k => .lf k
  | .nd p l r => .nd p (need R p 1 l) (ann R l) (need R p 2 r) (ann R r)
/-- how many brackets a tree needs -/
noncomputable def nb (R : Int → Int) : T → Nat
  | .lf _ => 0
  | .nd p l r => (need R p 1 l).toNat + nb R l + (need R p 2 r).toNat + nb R r
theorem wr_ann (R : Int → Int) (t : T) : wr R t = (ann R t).tw := by
  induction t with
  | lf k => rfl
  | nd p l r i1 i2 => simp only [wr, ann, X.tw, i1, i2]
theorem fl_ann (R : Int → Int) (t : T) : (ann R t).fl = nb R t := by
  induction t with
  | lf k => rfl
  | nd p l r i1 i2 => simp only [nb, ann, X.fl, i1, i2]
theorem size_ann (R : Int → Int) (t : T) : (ann R t).size = t.size := by
  induction t with
  | lf k => rfl
  | nd p l r i1 i2 => simp only [T.size, ann, X.size, i1, i2]
theorem in_ann (R : Int → Int) (t : T) (h : t.In) : (ann R t).In := by
  induction t with
  | lf k => exact h
  | nd p l r i1 i2 => exact ⟨h.1, h.2.1, i1 h.2.2.1, i2 h.2.2.2⟩

/-! the machine on a written tree -/
section
variable {R : Int → Int}
theorem fmod_two (a : Int) : a.fmod 2 = 0 ∨ a.fmod 2 = 1 := by
  rw [Int.fmod_eq_emod_of_nonneg _ (by decide)]; omega
theorem stays_iff {q p : Int} : stays R (p + 14) (q + 14) = true ↔ R p < R q ∨ (R p = R q ∧ (R q).fmod 2 = 1) := by
  simp only [stays, Bool.or_eq_true, Bool.and_eq_true, decide_eq_true_eq, beq_iff_eq, Int.add_sub_cancel]
  omega
theorem need2_iff {p q : Int} {l r : T} : need R p 2 (.nd q l r) = false ↔ stays R (p + 14) (q + 14) = true := by
  rw [stays_iff]
  simp only [need, Bool.or_eq_false_iff, Bool.and_eq_false_iff, decide_eq_false_iff_not, beq_eq_false_iff_ne, bne_eq_false_iff_eq]
  have := fmod_two (R p)
  constructor
  · rintro ⟨h1, h2⟩
    by_cases h : R p = R q
    · rw [← h]; omega
    · omega
  · rintro (h | ⟨h, h'⟩)
    · omega
    · rw [← h] at h'; omega
theorem need1_iff {p q : Int} {l r : T} : need R p 1 (.nd q l r) = false ↔ stays R (q + 14) (p + 14) = false := by
  rw [← Bool.not_eq_true, ← Bool.not_eq_true]
  refine not_congr ?_
  rw [stays_iff]
  simp only [need, Bool.or_eq_true, Bool.and_eq_true, decide_eq_true_eq, beq_iff_eq, bne_iff_ne]
  have := fmod_two (R p)
  constructor
  · rintro (h | ⟨h, h'⟩)
    · exact .inl h
    · exact .inr ⟨h, by omega⟩
  · rintro (h | ⟨h, h'⟩)
    · exact .inl h
    · exact .inr ⟨h, by omega⟩

/-- each sign down the left side comes to stay above w -/
noncomputable def upL (R : Int → Int) (w : Int) : T → Prop
  | .lf _ => True
  | .nd q l _ => stays R w (q + 14) = true ∧ (need R q 1 l = false → upL R w l)
/-- each sign down the right side goes when y comes -/
noncomputable def dnR (R : Int → Int) (y : Int) : T → Prop
  | .lf _ => True
  | .nd q _ r => stays R (q + 14) y = false ∧ (need R q 2 r = false → dnR R y r)
theorem upL_of {p : Int} : ∀ {t : T}, need R p 2 t = false → upL R (p + 14) t
  | .lf _, _ => trivial
  | .nd q l r, h => by
    have h0 := need2_iff.mp h
    refine ⟨h0, fun h1 => upL_of ?_⟩
    cases l with
    | lf _ => rfl
    | nd q' l' r' =>
      rw [need2_iff, stays_iff]
      rw [need1_iff, ← Bool.not_eq_true, stays_iff] at h1
      rw [stays_iff] at h0
      have := fmod_two (R q)
      have := fmod_two (R q')
      by_cases e : R q' = R q
      · rw [e]; omega
      · omega
theorem dnR_of {p : Int} : ∀ {t : T}, need R p 1 t = false → dnR R (p + 14) t
  | .lf _, _ => trivial
  | .nd q l r, h => by
    have h0 := need1_iff.mp h
    refine ⟨h0, fun h1 => dnR_of ?_⟩
    cases r with
    | lf _ => rfl
    | nd q' l' r' =>
      rw [need1_iff, ← Bool.not_eq_true, stays_iff]
      rw [need2_iff, stays_iff] at h1
      rw [← Bool.not_eq_true, stays_iff] at h0
      have := fmod_two (R q)
      have := fmod_two (R q')
      by_cases e : R q' = R q
      · rw [e] at h1 ⊢; omega
      · omega

/-- the state behind a tree's symbols: its right side waits -/
noncomputable def pend (R : Int → Int) : T → List T × List Int → List T × List Int
  | .lf k, st => (.lf k :: st.1, st.2)
  | .nd p l r, st => if need R p 2 r then (r :: l :: st.1, (p + 14) :: st.2) else pend R r (l :: st.1, (p + 14) :: st.2)
theorem popL_pend {y : Int} (hy : y ≠ 7) : ∀ {t : T} {ts ws}, t.In → (y = 8 ∨ y = 0 ∨ dnR R y t) → popL R y (pend R t (ts, ws)).1 (pend R t (ts, ws)).2 = popL R y (t :: ts) ws
  | .lf k, ts, ws, _, _ => rfl
  | .nd p l r, ts, ws, hin, hd => by
    have key : popL R y (r :: l :: ts) ((p + 14) :: ws) = popL R y (.nd p l r :: ts) ws := by
      rw [popL, if_neg (by have := hin.1; omega), if_neg, top2]
      · simp only [Int.add_sub_cancel]
      · rintro ⟨⟨h8, h0⟩, hs⟩
        rcases hd with h | h | h
        · exact h8 h
        · exact h0 h
        · rw [h.1] at hs; cases hs
    rw [pend]
    by_cases hn : need R p 2 r = true
    · rw [if_pos hn]; exact key
    · rw [if_neg hn]
      rw [popL_pend hy hin.2.2.2 ?_]
      · exact key
      · rcases hd with h | h | h
        · exact .inl h
        · exact .inr (.inl h)
        · exact .inr (.inr (h.2 (by simpa using hn)))
noncomputable def Top (R : Int → Int) (ws : List Int) (t : T) : Prop := ws = [] ∨ (∃ ws', ws = 7 :: ws') ∨ ∃ w ws', ws = w :: ws' ∧ upL R w t
theorem run_one {st st' : List T × List Int} {y : Int} {v : List Int} (h : stp R st y = some st') : run R st (y :: v) = run R st' v := by
  rw [run, h]
theorem popL_stay {y : Int} {ts : List T} {ws : List Int} (h : ws = [] ∨ (∃ ws', ws = 7 :: ws') ∨ ∃ w ws', ws = w :: ws' ∧ stays R w y = true) (hy : y ≠ 8 ∧ y ≠ 0) : popL R y ts ws = some (ts, ws) := by
  rcases h with rfl | ⟨ws', rfl⟩ | ⟨w, ws', rfl, hs⟩
  · rfl
  · rw [popL, if_pos (.inr rfl)]
  · rw [popL]
    split
    · rfl
    · rw [if_pos ⟨hy, hs⟩]
theorem stp_open {ts : List T} {ws : List Int} : stp R (ts, ws) 7 = some (ts, 7 :: ws) := by
  rw [stp, if_neg (by decide)]
  have : popL R 7 ts ws = some (ts, ws) := by
    cases ws with
    | nil => rfl
    | cons w ws => rw [popL, if_pos (.inl rfl)]
  simp only [this]
  rfl
theorem stp_close {st : List T × List Int} {ts : List T} {ws : List Int} (h : popL R 8 st.1 st.2 = popL R 8 ts (7 :: ws)) : stp R st 8 = some (ts, ws) := by
  rw [stp, if_neg (by decide), h, popL, if_pos (.inr rfl)]
  rfl
theorem stp_sign {st : List T × List Int} {ts : List T} {ws : List Int} {p : Int} (h0 : 0 ≤ p) (h1 : p < 41) (h : popL R (p + 14) st.1 st.2 = some (ts, ws)) : stp R st (p + 14) = some (ts, (p + 14) :: ws) := by
  rw [stp, if_neg (by omega), h]
  simp only
  rw [if_neg (by omega)]
theorem run_tree : ∀ {t : T} {ts ws} {v : List Int}, t.In → Top R ws t → run R (ts, ws) ((ann R t).tk ++ v) = run R (pend R t (ts, ws)) v
  | .lf k, ts, ws, v, hin, _ => by
    refine run_one ?_
    rw [stp, if_pos (by have := hin.1; omega)]
    simp only [pend, show (256 + k) - 256 = k by omega]
  | .nd p l r, ts, ws, v, hin, ht => by
    obtain ⟨h0, h1, hl, hr⟩ := hin
    have hstay : ws = [] ∨ (∃ ws', ws = 7 :: ws') ∨ ∃ w ws', ws = w :: ws' ∧ stays R w (p + 14) = true := by
      rcases ht with h | h | ⟨w, ws', e, h⟩
      · exact .inl h
      · exact .inr (.inl h)
      · exact .inr (.inr ⟨w, ws', e, h.1⟩)
    have hsign : ∀ {v : List Int}, run R (l :: ts, ws) ((p + 14) :: v) = run R (l :: ts, (p + 14) :: ws) v := fun {v} => run_one (stp_sign h0 h1 (popL_stay hstay (by omega)))
    have hleft : ∀ {v : List Int}, run R (ts, ws) (X.bk (need R p 1 l) (ann R l).tk ++ (p + 14) :: v) = run R (l :: ts, (p + 14) :: ws) v := by
      intro v
      by_cases hn : need R p 1 l = true
      · rw [X.bk, if_pos hn]
        simp only [List.cons_append, List.append_assoc]
        rw [run_one stp_open, run_tree hl (.inr (.inl ⟨_, rfl⟩))]
        simp only [List.nil_append]
        rw [run_one (stp_close (popL_pend (by decide) hl (.inl rfl)))]
        exact hsign
      · have hn : need R p 1 l = false := by simpa using hn
        rw [X.bk, if_neg (by rw [hn]; decide)]
        have ht' : Top R ws l := by
          rcases ht with h | h | ⟨w, ws', e, h⟩
          · exact .inl h
          · exact .inr (.inl h)
          · exact .inr (.inr ⟨w, ws', e, h.2 hn⟩)
        rw [run_tree hl ht']
        refine run_one (stp_sign h0 h1 ?_)
        rw [popL_pend (by omega) hl (.inr (.inr (dnR_of hn)))]
        exact popL_stay hstay (by omega)
    rw [ann, X.tk, List.append_assoc, List.cons_append, hleft, pend]
    by_cases hn : need R p 2 r = true
    · rw [X.bk, if_pos hn, if_pos hn]
      simp only [List.cons_append, List.append_assoc]
      rw [run_one stp_open, run_tree hr (.inr (.inl ⟨_, rfl⟩))]
      simp only [List.nil_append]
      rw [run_one (stp_close (popL_pend (by decide) hr (.inl rfl)))]
    · have hn : need R p 2 r = false := by simpa using hn
      rw [X.bk, if_neg (by rw [hn]; decide), if_neg (by rw [hn]; decide)]
      exact run_tree hr (.inr (.inr ⟨_, _, rfl, upL_of hn⟩))
theorem run_ann {t : T} (h : t.In) : run R ([], []) ((ann R t).tk ++ [0]) = some ([t], [0]) := by
  rw [run_tree h (.inl rfl)]
  refine run_one (st' := ([t], [0])) ?_
  rw [stp, if_neg (by decide), popL_pend (by decide) h (.inr (.inl rfl))]
  rfl
end
end

section
open PySem PySem.Spec PySem.Calls PyProof.Rows PySem.W

/-! the machine on any bracketed text: what needs brackets has had them -/
/-- what waits: an open bracket, or a sign with its left branch (b: the branch stood in brackets) -/
inductive Wt where
  | par
  | op (p : Int) (l : T) (b : Bool)
noncomputable def lefts : List Wt → List T
  | [] => []
  | .par :: g => lefts g
  | .op _ l _ :: g => l :: lefts g
noncomputable def syms : List Wt → List Int
  | [] => []
  | .par :: g => 7 :: syms g
  | .op p _ _ :: g => (p + 14) :: syms g
section
variable {R : Int → Int}
noncomputable def hdOk (R : Int → Int) (y : Int) : List Wt → Prop
  | [] => True
  | .par :: _ => True
  | .op p _ _ :: _ => stays R (p + 14) (y + 14) = true
noncomputable def Gd (R : Int → Int) : List Wt → Prop
  | [] => True
  | .par :: g => Gd R g
  | .op p l b :: g => Gd R g ∧ (b = true ∨ need R p 1 l = false) ∧ hdOk R p g ∧ 0 ≤ p ∧ p < 41
noncomputable def bud (R : Int → Int) : List Wt → Nat
  | [] => 0
  | .par :: g => 1 + bud R g
  | .op _ l b :: g => nb R l + b.toNat + bud R g
noncomputable def pars : List Wt → Nat
  | [] => 0
  | .par :: g => pars g + 1
  | .op _ _ _ :: g => pars g
noncomputable def siz : List Wt → Nat
  | [] => 0
  | .par :: g => siz g
  | .op _ l _ :: g => l.size + 1 + siz g
/-- the top tree as a right branch of what waits -/
noncomputable def up (R : Int → Int) (t : T) (b : Bool) : List Wt → Prop
  | .op p _ _ :: _ => b = true ∨ need R p 2 t = false
  | _ => True

theorem red_nb {p : Int} {l t : T} {bl b : Bool} (h1 : bl = true ∨ need R p 1 l = false) (h2 : b = true ∨ need R p 2 t = false) : nb R (.nd p l t) ≤ nb R l + bl.toNat + nb R t + b.toNat := by
  have e1 : (need R p 1 l).toNat ≤ bl.toNat := by
    rcases h1 with rfl | h1
    · cases need R p 1 l <;> decide
    · rw [h1]; exact Nat.zero_le _
  have e2 : (need R p 2 t).toNat ≤ b.toNat := by
    rcases h2 with rfl | h2
    · cases need R p 2 t <;> decide
    · rw [h2]; exact Nat.zero_le _
  simp only [nb]; omega
theorem up_red {p : Int} {l t : T} {b : Bool} {g : List Wt} (h : hdOk R p g) : up R (.nd p l t) b g := by
  cases g with
  | nil => trivial
  | cons x g =>
    cases x with
    | par => trivial
    | op q l' b' => exact .inr (need2_iff.mpr h)

/-- a sign comes -/
theorem pop_sign {y : Int} (h0 : 0 ≤ y) (h1 : y < 41) : ∀ {g : List Wt} {t : T} {b : Bool}, Gd R g → up R t b g → (b = true ∨ need R y 1 t = false) →
    ∃ t' b' g', popL R (y + 14) (t :: lefts g) (syms g) = some (t' :: lefts g', syms g') ∧ Gd R (.op y t' b' :: g') ∧ bud R g' + nb R t' + b'.toNat ≤ bud R g + nb R t + b.toNat ∧ pars g' = pars g ∧ siz g' + t'.size = siz g + t.size
  | [], t, b, hg, hu, hd => ⟨t, b, [], rfl, ⟨trivial, hd, trivial, h0, h1⟩, Nat.le_refl _, rfl, rfl⟩
  | .par :: g, t, b, hg, hu, hd => ⟨t, b, .par :: g, by simp only [syms, lefts]; rw [popL, if_pos (.inr rfl)], ⟨hg, hd, trivial, h0, h1⟩, Nat.le_refl _, rfl, rfl⟩
  | .op p l bl :: g, t, b, hg, hu, hd => by
    obtain ⟨hg', hl, hh, hp0, hp1⟩ := id hg
    by_cases hs : stays R (p + 14) (y + 14) = true
    · refine ⟨t, b, .op p l bl :: g, ?_, ⟨hg, hd, hs, h0, h1⟩, Nat.le_refl _, rfl, rfl⟩
      simp only [syms, lefts]
      rw [popL, if_neg (by omega), if_pos ⟨by omega, hs⟩]
    · obtain ⟨t', b', g', e, h2, h3, h4, h5⟩ := pop_sign h0 h1 (g := g) (t := .nd p l t) (b := false) hg' (up_red hh) (.inr (need1_iff.mpr (by simpa using hs)))
      refine ⟨t', b', g', ?_, h2, ?_, h4, ?_⟩
      · simp only [syms, lefts]
        rw [popL, if_neg (by omega), if_neg (fun h => hs h.2), top2]
        simp only [Int.add_sub_cancel]
        exact e
      · have := red_nb (bl := bl) (b := b) hl hu
        simp only [bud, Bool.toNat_false] at h3 ⊢
        omega
      · simp only [siz, T.size] at h5 ⊢; omega
/-- a closing bracket or the end comes -/
theorem pop_all {y : Int} (hy : y = 8 ∨ y = 0) : ∀ {g : List Wt} {t : T} {b : Bool}, Gd R g → up R t b g →
    ∃ t' g', popL R y (t :: lefts g) (syms g) = some (t' :: lefts g', syms g') ∧ Gd R g' ∧ (g' = [] ∨ ∃ g'', g' = .par :: g'') ∧ bud R g' + nb R t' ≤ bud R g + nb R t + b.toNat ∧ pars g' = pars g ∧ siz g' + t'.size = siz g + t.size
  | [], t, b, hg, hu => ⟨t, [], rfl, trivial, .inl rfl, Nat.le_add_right _ _, rfl, rfl⟩
  | .par :: g, t, b, hg, hu => ⟨t, .par :: g, by simp only [syms, lefts]; rw [popL, if_pos (.inr rfl)], hg, .inr ⟨_, rfl⟩, Nat.le_add_right _ _, rfl, rfl⟩
  | .op p l bl :: g, t, b, hg, hu => by
    obtain ⟨hg', hl, hh, hp0, hp1⟩ := id hg
    obtain ⟨t', g', e, h2, h3, h4, h5, h6⟩ := pop_all hy (g := g) (t := .nd p l t) (b := false) hg' (up_red hh)
    refine ⟨t', g', ?_, h2, h3, ?_, h5, ?_⟩
    · simp only [syms, lefts]
      rw [popL, if_neg (by omega), if_neg (by rintro ⟨⟨a, b⟩, _⟩; omega), top2]
      simp only [Int.add_sub_cancel]
      exact e
    · have := red_nb (bl := bl) (b := b) hl hu
      simp only [bud, Bool.toNat_false] at h4 ⊢
      omega
    · simp only [siz, T.size] at h6 ⊢; omega

noncomputable def isLf : T → Bool
  | .lf _ => true
  | _ => false
theorem up_of {t : T} {b : Bool} (h : isLf t = true ∨ b = true) (g : List Wt) : up R t b g := by
  cases g with
  | nil => trivial
  | cons x g =>
    cases x with
    | par => trivial
    | op p l bl =>
      rcases h with h | h
      · cases t with
        | lf k => exact .inr rfl
        | nd p l r => cases h
      · exact .inl h
theorem dn_of {y : Int} {t : T} {b : Bool} (h : isLf t = true ∨ b = true) : b = true ∨ need R y 1 t = false := by
  rcases h with h | h
  · cases t with
    | lf k => exact .inr rfl
    | nd p l r => cases h
  · exact .inl h

/-- what is read of a part: n brackets, z signs -/
noncomputable def Reads1 (R : Int → Int) (u : List Int) (n z : Nat) : Prop := ∀ (g : List Wt) (v : List Int), Gd R g →
  ∃ t b g', run R (lefts g, syms g) (u ++ v) = run R (t :: lefts g', syms g') v ∧ Gd R g' ∧ (isLf t = true ∨ b = true) ∧ bud R g' + nb R t + b.toNat ≤ bud R g + n ∧ pars g' = pars g ∧ siz g' + t.size = siz g + z
theorem reads_bk {u : List Int} {n z : Nat} (h : Reads1 R u n z) (b : Bool) : Reads1 R (X.bk b u) (n + b.toNat) z := by
  cases b with
  | false => exact h
  | true =>
    intro g v hg
    obtain ⟨t, b, g₁, e, hg1, hb, hbud, hp, hsz⟩ := h (.par :: g) ([8] ++ v) hg
    obtain ⟨t', g₂, e2, hg2, hor, hbud2, hp2, hsz2⟩ := pop_all (y := 8) (.inl rfl) hg1 (up_of hb g₁)
    simp only [pars, bud, siz] at hp hp2 hbud hsz
    obtain ⟨g₃, rfl⟩ : ∃ g₃, g₂ = .par :: g₃ := by
      rcases hor with rfl | h
      · simp [pars] at hp2; omega
      · exact h
    refine ⟨t', true, g₃, ?_, hg2, .inr rfl, ?_, ?_, ?_⟩
    · rw [X.bk, if_pos rfl, List.cons_append, List.append_assoc, run_one stp_open]
      refine e.trans ?_
      refine run_one ?_
      rw [stp, if_neg (by decide), e2]
      rfl
    · simp only [bud, Bool.toNat_true] at hbud2 ⊢; omega
    · simp only [pars] at hp2; omega
    · simp only [siz] at hsz2; omega
theorem reads_X : ∀ {x : X}, x.In → Reads1 R x.tk x.fl x.size
  | .lf k, hin => fun g v hg => ⟨.lf k, false, g, by
      refine run_one ?_
      rw [stp, if_pos (by have := hin.1; omega)]
      simp only [show (256 + k) - 256 = k by omega], hg, .inl rfl, Nat.le_refl _, rfl, rfl⟩
  | .nd p bl l br r, hin => fun g v hg => by
    obtain ⟨h0, h1, hl, hr⟩ := hin
    obtain ⟨t, b, g₁, e, hg1, hb, hbud, hp, hsz⟩ := reads_bk (reads_X hl) bl g ((p + 14) :: (X.bk br r.tk ++ v)) hg
    obtain ⟨t', b', g₂, e2, hg2, hbud2, hp2, hsz2⟩ := pop_sign h0 h1 hg1 (up_of hb g₁) (dn_of (y := p) hb)
    obtain ⟨t₃, b₃, g₃, e3, hg3, hb3, hbud3, hp3, hsz3⟩ := reads_bk (reads_X hr) br (.op p t' b' :: g₂) v hg2
    refine ⟨t₃, b₃, g₃, ?_, hg3, hb3, ?_, ?_, ?_⟩
    · rw [X.tk, List.append_assoc, List.cons_append, e, run_one (stp_sign h0 h1 e2)]
      exact e3
    · simp only [bud, X.fl] at hbud3 ⊢; omega
    · simp only [pars] at hp3; omega
    · simp only [siz, X.size] at hsz3 ⊢; omega
theorem run_X {x : X} (h : x.In) : ∃ t, run R ([], []) (x.tk ++ [0]) = some ([t], [0]) ∧ nb R t ≤ x.fl ∧ t.size = x.size := by
  obtain ⟨t, b, g₁, e, hg1, hb, hbud, hp, hsz⟩ := reads_X (R := R) h [] [0] trivial
  obtain ⟨t', g₂, e2, hg2, hor, hbud2, hp2, hsz2⟩ := pop_all (y := 0) (.inr rfl) hg1 (up_of hb g₁)
  simp only [pars, bud, siz] at hp hbud hsz
  obtain rfl : g₂ = [] := by
    rcases hor with rfl | ⟨g, rfl⟩
    · rfl
    · simp only [pars] at hp2; omega
  refine ⟨t', ?_, ?_, ?_⟩
  · refine e.trans (run_one (v := []) ?_)
    rw [stp, if_neg (by decide), e2]
    rfl
  · simp only [bud] at hbud2; omega
  · simp only [siz] at hsz2; omega
end
end

section
open PySem PySem.Spec PySem.Calls PyProof.Rows PySem.W

/-! the text's symbols -/
inductive Sy : List Nat → List Int → Prop
  | nil : Sy [] [0]
  | letter {c x r} : pcs (c :: x) = [] → 97 ≤ c → c ≤ 103 → Sy x r → Sy (c :: x) ((256 + ((c : Int) - 97)) :: r)
  | tok {c x q qs v r} : pcs (c :: x) = q :: qs → tokOf q = some v → Sy ((c :: x).drop q.length) r → Sy (c :: x) (v :: r)
theorem tokOf_nil : tokOf [] = none := by decide
theorem Sy.symb {x : List Nat} {r : List Int} (h : Sy x r) : ∀ f, x.length ≤ f → symb f x = some r := by
  induction h with
  | nil => intro f _; cases f <;> rfl
  | letter hp h1 h2 _ ih =>
    intro f hf
    cases f with
    | zero => simp at hf
    | succ f =>
      rw [Mine.symb, hp]
      simp only
      rw [if_pos ⟨h1, h2⟩, ih f (by simpa using hf)]
      rfl
  | @tok c x q qs v r hp ht _ ih =>
    intro f hf
    cases f with
    | zero => simp at hf
    | succ f =>
      have hq : 0 < q.length := by
        cases q with
        | nil => rw [tokOf_nil] at ht; cases ht
        | cons a q => simp
      rw [Mine.symb, hp]
      simp only
      rw [ht]
      simp only
      rw [ih f (by simp only [List.length_drop, List.length_cons] at hf ⊢; omega)]
      rfl

theorem tokOf_none {x : List Nat} (h : ∀ e ∈ tokTab, e.1 ≠ x) : tokOf x = none := by
  unfold tokOf
  rw [Option.map_eq_none_iff, List.find?_eq_none]
  intro e he
  simpa using h e he
theorem tok_letter {c : Nat} (h1 : 97 ≤ c) (h2 : c ≤ 103) (x : List Nat) : tokOf (c :: x) = none := by
  refine tokOf_none fun e he hx => ?_
  have : ∀ e ∈ tokTab, ∀ d ∈ e.1.head?, d < 97 ∨ 103 < d := by decide
  have := this e he c (by rw [hx]; rfl)
  omega
theorem tok_inner {u : List Nat} {c : Nat} (hu : u ≠ []) (h : c = 40 ∨ (97 ≤ c ∧ c ≤ 103)) (x : List Nat) : tokOf (u ++ c :: x) = none := by
  refine tokOf_none fun e he hx => ?_
  have : ∀ e ∈ tokTab, ∀ d ∈ e.1.tail, d ≠ 40 ∧ d < 97 := by decide
  cases u with
  | nil => exact hu rfl
  | cons a u =>
    have := this e he c (by rw [hx]; simp)
    omega
theorem tok_brk {c : Nat} (h : c = 40 ∨ c = 41) {x : List Nat} (hx : x ≠ []) : tokOf (c :: x) = none := by
  refine tokOf_none fun e he hx' => ?_
  have : ∀ e ∈ tokTab, ∀ d ∈ e.1.head?, (d = 40 ∨ d = 41) → e.1.tail = [] := by decide
  have := this e he c (by rw [hx']; rfl) h
  rw [hx'] at this
  exact hx this
theorem pcs_letter {c : Nat} (h1 : 97 ≤ c) (h2 : c ≤ 103) (x : List Nat) : pcs (c :: x) = [] := by
  simp only [pcs, List.filter_cons, List.filter_nil, List.take_succ_cons, tok_letter h1 h2, Option.isSome_none, Bool.false_eq_true, if_false, List.map_nil]
theorem pcs_first {x q : List Nat} (hq : 0 < q.length) (h3 : q.length ≤ 3) (ht : x.take q.length = q) (hs : (tokOf q).isSome = true) (hn : ∀ n, q.length < n → n ≤ 3 → tokOf (x.take n) = none ∨ x.take n = q) : ∃ qs, pcs x = q :: qs := by
  have key : ∀ n, q.length ≤ n → n ≤ 3 → (tokOf (x.take n)).isSome = true → x.take n = q := fun n h1 h2 h => by
    rcases Nat.lt_or_eq_of_le h1 with h1 | h1
    · rcases hn n h1 h2 with e | e
      · rw [e] at h; cases h
      · exact e
    · rw [← h1]; exact ht
  unfold pcs
  simp only [List.filter_cons, List.filter_nil]
  by_cases e3 : (tokOf (x.take 3)).isSome = true
  · rw [if_pos e3]; exact ⟨_, by rw [List.map_cons, key 3 h3 (Nat.le_refl _) e3]⟩
  · rw [if_neg e3]
    have l3 : q.length ≠ 3 := fun e => by rw [← e, ht] at e3; exact e3 hs
    by_cases e2 : (tokOf (x.take 2)).isSome = true
    · rw [if_pos e2]; exact ⟨_, by rw [List.map_cons, key 2 (by omega) (by decide) e2]⟩
    · rw [if_neg e2]
      have l2 : q.length ≠ 2 := fun e => by rw [← e, ht] at e2; exact e2 hs
      have l1 : q.length = 1 := by omega
      have e1 : (tokOf (x.take 1)).isSome = true := by rw [← l1, ht]; exact hs
      rw [if_pos e1]
      exact ⟨_, by rw [List.map_cons, key 1 (by omega) (by decide) e1]⟩
theorem sy_brk {c : Nat} {v : Int} (h : c = 40 ∧ v = 7 ∨ c = 41 ∧ v = 8) {x : List Nat} {r : List Int} (s : Sy x r) : Sy (c :: x) (v :: r) := by
  have hc : c = 40 ∨ c = 41 := h.elim (fun h => .inl h.1) fun h => .inr h.1
  have ht : tokOf [c] = some v := by rcases h with ⟨rfl, rfl⟩ | ⟨rfl, rfl⟩ <;> decide
  obtain ⟨qs, hq⟩ := pcs_first (x := c :: x) (q := [c]) (by simp) (by simp) rfl (by rw [ht]; rfl) fun n h1 h2 => by
    cases n with
    | zero => simp at h1
    | succ n =>
      rw [List.take_succ_cons]
      by_cases hx : x.take n = []
      · rw [hx]; exact .inr rfl
      · exact .inl (tok_brk hc hx)
  exact .tok hq ht s
theorem sign_ok {p : Int} (h0 : 0 ≤ p) (h1 : p < 41) : tokOf (sign p) = some (p + 14) ∧ 0 < (sign p).length ∧ (sign p).length ≤ 3 ∧ ∀ c ∈ sign p, c ≠ 40 ∧ c ≠ 41 ∧ c < 128 := by
  have key : ∀ i < 41, tokOf (signTab.getD i []) = some ((i : Int) + 14) ∧ 0 < (signTab.getD i []).length ∧ (signTab.getD i []).length ≤ 3 ∧ ∀ c ∈ signTab.getD i [], c ≠ 40 ∧ c ≠ 41 ∧ c < 128 := by decide
  have := key p.toNat (by omega)
  unfold sign
  rw [Int.toNat_of_nonneg h0] at this
  exact this
theorem sy_sign {p : Int} (h0 : 0 ≤ p) (h1 : p < 41) {c : Nat} (hc : c = 40 ∨ (97 ≤ c ∧ c ≤ 103)) {x : List Nat} {r : List Int} (s : Sy (c :: x) r) : Sy (sign p ++ c :: x) ((p + 14) :: r) := by
  obtain ⟨ht, hl, hl3, _⟩ := sign_ok h0 h1
  generalize sign p = q at ht hl hl3
  obtain ⟨qs, hq⟩ := pcs_first (x := q ++ c :: x) (q := q) hl hl3 (by simp) (by rw [ht]; rfl) fun n h1 h2 => by
    left
    rw [List.take_append, List.take_of_length_le (by omega)]
    obtain ⟨k, hk⟩ : ∃ k, n - q.length = k + 1 := ⟨n - q.length - 1, by omega⟩
    rw [hk, List.take_succ_cons]
    exact tok_inner (by intro e; rw [e] at hl; simp at hl) hc _
  cases q with
  | nil => simp at hl
  | cons a q =>
    refine .tok hq ht ?_
    have e : (a :: (q ++ c :: x)).drop (a :: q).length = c :: x := by
      rw [← List.cons_append, List.drop_left]
    exact e.symm ▸ s
/-- what a bracketed tree begins with -/
theorem tw_head {x : X} (h : x.In) : ∃ c y, x.tw = c :: y ∧ (c = 40 ∨ (97 ≤ c ∧ c ≤ 103)) := by
  induction x with
  | lf k => exact ⟨_, _, rfl, .inr (by obtain ⟨h0, h1⟩ := h; omega)⟩
  | nd p bl l br r i1 i2 =>
    cases bl with
    | true => exact ⟨40, _, rfl, .inl rfl⟩
    | false =>
      obtain ⟨c, y, e, hc⟩ := i1 h.2.2.1
      refine ⟨c, y ++ sign p ++ brk br r.tw, ?_, hc⟩
      simp only [X.tw, brk, Bool.false_eq_true, if_false, e, List.cons_append]
theorem sy_bk {x : X} (h : ∀ {v r}, Sy v r → Sy (x.tw ++ v) (x.tk ++ r)) (b : Bool) {v : List Nat} {r : List Int} (s : Sy v r) : Sy (brk b x.tw ++ v) (X.bk b x.tk ++ r) := by
  cases b with
  | false => exact h s
  | true =>
    simp only [brk, X.bk, if_true, List.cons_append, List.append_assoc, List.nil_append]
    exact sy_brk (.inl ⟨rfl, rfl⟩) (h (sy_brk (.inr ⟨rfl, rfl⟩) s))
theorem sy_X : ∀ {x : X}, x.In → ∀ {v r}, Sy v r → Sy (x.tw ++ v) (x.tk ++ r)
  | .lf k, h, v, r, s => by
    obtain ⟨h0, h1⟩ := h
    have : Sy ((97 + k.toNat) :: v) ((256 + (((97 + k.toNat : Nat) : Int) - 97)) :: r) := .letter (pcs_letter (by omega) (by omega) _) (by omega) (by omega) s
    have e : (256 + (((97 + k.toNat : Nat) : Int) - 97)) = 256 + k := by omega
    rw [e] at this
    exact this
  | .nd p bl l br r, h, v, rr, s => by
    obtain ⟨h0, h1, hl, hr⟩ := h
    simp only [X.tw, X.tk, List.append_assoc, List.cons_append]
    refine sy_bk (fun s => sy_X hl s) bl ?_
    have s2 := sy_bk (fun s => sy_X hr s) br s
    have : ∃ c y, brk br r.tw ++ v = c :: y ∧ (c = 40 ∨ (97 ≤ c ∧ c ≤ 103)) := by
      cases br with
      | true => exact ⟨40, _, rfl, .inl rfl⟩
      | false =>
        obtain ⟨c, y, e, hc⟩ := tw_head hr
        exact ⟨c, y ++ v, by simp only [brk, Bool.false_eq_true, if_false, e, List.cons_append], hc⟩
    obtain ⟨c, y, e, hc⟩ := this
    rw [e] at s2 ⊢
    exact sy_sign h0 h1 hc s2
theorem symb_X {x : X} (h : x.In) : symb x.tw.length x.tw = some (x.tk ++ [0]) := by
  have := sy_X h .nil
  rw [List.append_nil] at this
  exact this.symb _ (Nat.le_refl _)
theorem tk_ok : ∀ {x : X}, x.In → ∀ y ∈ x.tk, SymOk y := by
  have bk : ∀ {b : Bool} {u : List Int}, (∀ y ∈ u, SymOk y) → ∀ y ∈ X.bk b u, SymOk y := by
    intro b u h y hy
    cases b with
    | false => exact h y hy
    | true =>
      simp only [X.bk, if_true, List.mem_cons, List.mem_append, List.not_mem_nil, or_false] at hy
      rcases hy with rfl | hy | rfl
      · exact .inl rfl
      · exact h y hy
      · exact .inr (.inl rfl)
  intro x
  induction x with
  | lf k =>
    intro h y hy
    rw [X.tk, List.mem_singleton] at hy
    have := h.1
    exact .inr (.inr (.inr (by omega)))
  | nd p bl l br r i1 i2 =>
    intro h y hy
    rw [X.tk, List.mem_append, List.mem_cons] at hy
    rcases hy with hy | rfl | hy
    · exact bk (i1 h.2.2.1) y hy
    · have := h.1; have := h.2.1; exact .inr (.inr (.inl (by omega)))
    · exact bk (i2 h.2.2.2) y hy
theorem tw_asc : ∀ {x : X}, x.In → ∀ c ∈ x.tw, c < 128 := by
  have bk : ∀ {b : Bool} {u : List Nat}, (∀ y ∈ u, y < 128) → ∀ y ∈ brk b u, y < 128 := by
    intro b u h y hy
    cases b with
    | false => exact h y hy
    | true =>
      simp only [brk, if_true, List.mem_cons, List.mem_append, List.not_mem_nil, or_false] at hy
      rcases hy with rfl | hy | rfl
      · decide
      · exact h y hy
      · decide
  intro x
  induction x with
  | lf k =>
    intro h c hc
    rw [X.tw, List.mem_singleton] at hc
    have := h.1; have := h.2
    omega
  | nd p bl l br r i1 i2 =>
    intro h c hc
    rw [X.tw, List.mem_append, List.mem_append] at hc
    rcases hc with (hc | hc) | hc
    · exact bk (i1 h.2.2.1) c hc
    · exact ((sign_ok h.1 h.2.1).2.2.2 c hc).2.2
    · exact bk (i2 h.2.2.2) c hc
theorem tw_len (x : X) : x.tw.length ≤ 8 * x.size + 1 := by
  induction x with
  | lf k => simp [X.tw]
  | nd p bl l br r i1 i2 =>
    simp only [X.tw, List.length_append, X.size]
    have := sign_len p
    have h1 := brk_len bl l.tw
    have h2 := brk_len br r.tw
    omega
end

section
open PySem PySem.Spec PySem.Calls PyProof.Rows PySem.W

/-! one pair of brackets left out -/
/-- one bracket of x is off in y -/
inductive Rem : X → X → Prop
  | l {p l br r} : Rem (.nd p true l br r) (.nd p false l br r)
  | r {p bl l r} : Rem (.nd p bl l true r) (.nd p bl l false r)
  | inl {p bl l l' br r} : Rem l l' → Rem (.nd p bl l br r) (.nd p bl l' br r)
  | inr {p bl l br r r'} : Rem r r' → Rem (.nd p bl l br r) (.nd p bl l br r')
theorem Rem.fl {x y : X} (h : Rem x y) : y.fl + 1 = x.fl := by
  induction h <;> simp only [X.fl, Bool.toNat_true, Bool.toNat_false] <;> omega
theorem Rem.size {x y : X} (h : Rem x y) : y.size = x.size := by
  induction h <;> simp only [X.size] <;> omega
theorem Rem.in_ {x y : X} (h : Rem x y) : x.In → y.In := by
  induction h with
  | l => exact id
  | r => exact id
  | inl _ ih => exact fun h => ⟨h.1, h.2.1, ih h.2.2.1, h.2.2.2⟩
  | inr _ ih => exact fun h => ⟨h.1, h.2.1, h.2.2.1, ih h.2.2.2⟩

/-- as many closed as opened, and no prefix closes more -/
noncomputable def Bal (x : List Nat) : Prop := x.count 40 = x.count 41 ∧ ∀ n, (x.take n).count 41 ≤ (x.take n).count 40
theorem Bal.app {x y : List Nat} (a : Bal x) (b : Bal y) : Bal (x ++ y) := by
  refine ⟨by rw [List.count_append, List.count_append, a.1, b.1], fun n => ?_⟩
  rw [List.take_append, List.count_append, List.count_append]
  have := a.2 n
  have := b.2 (n - x.length)
  omega
theorem bal_plain {x : List Nat} (h : ∀ c ∈ x, c ≠ 40 ∧ c ≠ 41) : Bal x := by
  have key : ∀ y : List Nat, (∀ c ∈ y, c ≠ 40 ∧ c ≠ 41) → y.count 40 = 0 ∧ y.count 41 = 0 := fun y hy =>
    ⟨List.count_eq_zero.mpr fun hm => (hy 40 hm).1 rfl, List.count_eq_zero.mpr fun hm => (hy 41 hm).2 rfl⟩
  refine ⟨by rw [(key x h).1, (key x h).2], fun n => ?_⟩
  rw [(key (x.take n) fun c hc => h c (List.mem_of_mem_take hc)).2]
  exact Nat.zero_le _
theorem Bal.brk {x : List Nat} (h : Bal x) (b : Bool) : Bal (brk b x) := by
  cases b with
  | false => exact h
  | true =>
    refine ⟨?_, fun n => ?_⟩
    · simp only [Mine.brk, if_true, List.count_cons, List.count_append, List.count_nil, h.1]; simp
    · simp only [Mine.brk, if_true]
      cases n with
      | zero => simp
      | succ n =>
        rw [List.take_succ_cons, List.take_append]
        have := h.2 n
        have h2 : ((([41] : List Nat).take (n - x.length))).count 41 ≤ 1 := by
          cases n - x.length <;> simp
        simp only [List.count_cons, List.count_append]
        simp
        omega
theorem tw_bal {x : X} (h : x.In) : Bal x.tw := by
  induction x with
  | lf k => exact bal_plain fun c hc => by rw [X.tw, List.mem_singleton] at hc; omega
  | nd p bl l br r i1 i2 => exact (((i1 h.2.2.1).brk bl).app (bal_plain fun c hc => ⟨((sign_ok h.1 h.2.1).2.2.2 c hc).1, ((sign_ok h.1 h.2.1).2.2.2 c hc).2.1⟩)).app ((i2 h.2.2.2).brk br)

theorem app_split {u v A D : List Nat} {c : Nat} (h : u ++ v = A ++ c :: D) : (∃ D', u = A ++ c :: D' ∧ D = D' ++ v) ∨ ∃ A', A = u ++ A' ∧ v = A' ++ c :: D := by
  induction u generalizing A with
  | nil => exact .inr ⟨A, rfl, h⟩
  | cons a u ih =>
    cases A with
    | nil =>
      simp only [List.cons_append, List.nil_append, List.cons.injEq] at h
      exact .inl ⟨u, by rw [h.1]; rfl, h.2.symm⟩
    | cons a' A =>
      simp only [List.cons_append, List.cons.injEq] at h
      rcases ih h.2 with ⟨D', e1, e2⟩ | ⟨A', e1, e2⟩
      · exact .inl ⟨D', by rw [h.1, e1]; rfl, e2⟩
      · exact .inr ⟨A', by rw [h.1, e1]; rfl, e2⟩

/-- a bracket in the text is one of the tree's -/
theorem open_brk {x : X} (hin : x.In) {b : Bool} {A D : List Nat} (ih : ∀ {A D}, x.tw = A ++ 40 :: D → ∃ B C x', D = B ++ 41 :: C ∧ Bal B ∧ Rem x x' ∧ x'.tw = A ++ B ++ C) (h : brk b x.tw = A ++ 40 :: D) :
    ∃ B C, D = B ++ 41 :: C ∧ Bal B ∧ ((∃ x', Rem x x' ∧ brk b x'.tw = A ++ B ++ C) ∨ (b = true ∧ x.tw = A ++ B ++ C)) := by
  cases b with
  | false =>
    obtain ⟨B, C, x', e, hb, hr, e2⟩ := ih h
    exact ⟨B, C, e, hb, .inl ⟨x', hr, e2⟩⟩
  | true =>
    simp only [brk, if_true] at h ⊢
    cases A with
    | nil =>
      simp only [List.nil_append, List.cons.injEq, true_and] at h
      exact ⟨x.tw, [], h.symm, tw_bal hin, .inr ⟨trivial, by simp⟩⟩
    | cons a A =>
      simp only [List.cons_append, List.cons.injEq] at h
      obtain ⟨rfl, h⟩ := h
      rcases app_split h with ⟨D', e1, e2⟩ | ⟨A', e1, e2⟩
      · obtain ⟨B, C, x', e, hb, hr, e3⟩ := ih e1
        refine ⟨B, C ++ [41], by rw [e2, e]; simp, hb, .inl ⟨x', hr, ?_⟩⟩
        rw [e3]; simp
      · exfalso
        cases A' with
        | nil => simp at e2
        | cons a' A' => simp at e2
theorem open_X : ∀ {x : X}, x.In → ∀ {A D}, x.tw = A ++ 40 :: D → ∃ B C x', D = B ++ 41 :: C ∧ Bal B ∧ Rem x x' ∧ x'.tw = A ++ B ++ C
  | .lf k, hin, A, D, h => by
    exfalso
    have : (40 : Nat) ∈ X.tw (.lf k) := by rw [h]; simp
    rw [X.tw, List.mem_singleton] at this
    omega
  | .nd p bl l br r, hin, A, D, h => by
    obtain ⟨h0, h1, hl, hr⟩ := hin
    rw [X.tw, List.append_assoc] at h
    rcases app_split h with ⟨D', e1, e2⟩ | ⟨A', e1, e2⟩
    · obtain ⟨B, C, e3, hb, hor⟩ := open_brk hl (fun h => open_X hl h) e1
      refine ⟨B, C ++ (sign p ++ brk br r.tw), ?_⟩
      rcases hor with ⟨l', hrem, e4⟩ | ⟨rfl, e4⟩
      · refine ⟨.nd p bl l' br r, by rw [e2, e3]; simp, hb, .inl hrem, ?_⟩
        rw [X.tw, e4]; simp
      · refine ⟨.nd p false l br r, by rw [e2, e3]; simp, hb, .l, ?_⟩
        rw [X.tw, brk, if_neg (by decide), e4]; simp
    · rcases app_split e2 with ⟨D', e3, e4⟩ | ⟨A'', e3, e4⟩
      · exfalso
        have : (40 : Nat) ∈ sign p := by rw [e3]; simp
        exact ((sign_ok h0 h1).2.2.2 40 this).1 rfl
      · obtain ⟨B, C, e5, hb, hor⟩ := open_brk hr (fun h => open_X hr h) e4
        refine ⟨B, C, ?_⟩
        rcases hor with ⟨r', hrem, e6⟩ | ⟨rfl, e6⟩
        · refine ⟨.nd p bl l br r', e5, hb, .inr hrem, ?_⟩
          rw [X.tw, e6, e1, e3]; simp
        · refine ⟨.nd p bl l false r, e5, hb, .r, ?_⟩
          rw [X.tw, e1, e3]
          rw [show brk false r.tw = r.tw from rfl, e6]; simp
theorem closeAt_bal {A B C : List Nat} (hb : Bal B) : ∀ (f j : Nat), j ≤ B.length + 1 → B.length + 1 < f + j → closeAt (A ++ 40 :: (B ++ 41 :: C)) A.length f (A.length + 1 + j) = some (A.length + B.length + 2)
  | 0, j, h1, h2 => by omega
  | f + 1, j, h1, h2 => by
    have e : ((A ++ 40 :: (B ++ 41 :: C)).take (A.length + 1 + j)).drop A.length = 40 :: (B ++ 41 :: C).take j := by
      rw [List.take_append, List.take_of_length_le (by omega), List.drop_left, show A.length + 1 + j - A.length = j + 1 by omega, List.take_succ_cons]
    rw [closeAt, e]
    by_cases hj : j ≤ B.length
    · have e2 : (B ++ 41 :: C).take j = B.take j := by rw [List.take_append_of_le_length hj]
      have := hb.2 j
      rw [e2, if_neg (by simp only [List.count_cons]; simp; omega)]
      have := closeAt_bal (A := A) (C := C) hb f (j + 1) (by omega) (by omega)
      rw [show A.length + 1 + (j + 1) = A.length + 1 + j + 1 by omega] at this
      exact this
    · have hj : j = B.length + 1 := by omega
      subst hj
      have e2 : (B ++ 41 :: C).take (B.length + 1) = B ++ [41] := by
        rw [List.take_append, List.take_of_length_le (by omega), show B.length + 1 - B.length = 1 by omega]; rfl
      have := hb.1
      rw [e2, if_pos (by simp only [List.count_cons, List.count_append]; simp; omega)]
      congr 1; omega
theorem wo_X {x : X} (hin : x.In) : ∀ i, i ≤ x.tw.length → ∃ ts, wo x.tw i = some ts ∧ ∀ y ∈ ts, ∃ x', Rem x x' ∧ y = x'.tw
  | 0, _ => ⟨[], rfl, fun _ h => nomatch h⟩
  | i + 1, hi => by
    obtain ⟨ts, e, ht⟩ := wo_X hin i (by omega)
    rw [wo, e]
    simp only
    by_cases hx : x.tw[i]? = some 40
    · rw [if_pos hx]
      have hs : x.tw = x.tw.take i ++ 40 :: x.tw.drop (i + 1) := by
        obtain ⟨hlt, he⟩ := List.getElem?_eq_some_iff.mp hx
        have := List.take_append_drop i x.tw
        rw [List.drop_eq_getElem_cons hlt, he] at this
        exact this.symm
      obtain ⟨B, C, x', e1, hb, hr, e2⟩ := open_X hin hs
      have hA : (x.tw.take i).length = i := by rw [List.length_take]; omega
      rw [e1] at hs
      generalize x.tw.take i = A at hs e2 hA
      have hc := closeAt_bal (A := A) (C := C) hb (x.tw.length + 1) 0 (by omega) (by rw [hs]; simp; omega)
      rw [← hs, hA, Nat.add_zero] at hc
      rw [hc]
      refine ⟨_, rfl, fun y hy => ?_⟩
      rcases List.mem_append.mp hy with hy | hy
      · exact ht y hy
      · refine ⟨x', hr, ?_⟩
        rw [List.mem_singleton.mp hy, e2, hs]
        subst hA
        have t1 : (A ++ 40 :: (B ++ 41 :: C)).take A.length = A := by simp
        have t2 : ((A ++ 40 :: (B ++ 41 :: C)).take (A.length + B.length + 2 - 1)).drop (A.length + 1) = B := by
          rw [List.take_append, List.take_of_length_le (by omega), show A.length + B.length + 2 - 1 - A.length = B.length + 1 by omega, List.take_succ_cons, List.take_append_of_le_length (Nat.le_refl _), List.take_length]
          rw [show A ++ 40 :: B = (A ++ [40]) ++ B by simp, show A.length + 1 = (A ++ [40]).length by simp, List.drop_left]
        have t3 : (A ++ 40 :: (B ++ 41 :: C)).drop (A.length + B.length + 2) = C := by
          rw [show A ++ 40 :: (B ++ 41 :: C) = (A ++ 40 :: (B ++ [41])) ++ C by simp, show A.length + B.length + 2 = (A ++ 40 :: (B ++ [41])).length by simp; omega, List.drop_left]
        rw [t2, t3]
    · rw [if_neg hx]; exact ⟨ts, rfl, ht⟩
end

section
open PySem PySem.Spec PySem.Calls PyProof.Rows PySem.W

/-- what a text reads to -/
structure RdTo (R : Int → Int) (x : List Nat) (t : T) : Prop where
  len : x.length ≤ 1000
  asc : ∀ c ∈ x, c < 128
  rd : ∃ pre, symb x.length x = some (pre ++ [0]) ∧ (∀ y ∈ pre, SymOk y) ∧ run R ([], []) (pre ++ [0]) = some ([t], [0])
theorem plain_same {R : Int → Int} {t : T} (h : t.In) (hs : t.size ≤ 60) : RdTo R (wr R t) t := by
  rw [wr_ann]
  have hi := in_ann R t h
  have := tw_len (ann R t)
  rw [size_ann] at this
  exact ⟨by omega, tw_asc hi, _, symb_X hi, tk_ok hi, run_ann h⟩
theorem plain_other {R : Int → Int} {t : T} (h : t.In) (hs : t.size ≤ 60) : ∃ ts, wo (wr R t) (wr R t).length = some ts ∧ ∀ y ∈ ts, ∃ t', RdTo R y t' ∧ t' ≠ t ∧ t'.size ≤ 60 := by
  rw [wr_ann]
  have hi := in_ann R t h
  obtain ⟨ts, e, ht⟩ := wo_X hi _ (Nat.le_refl _)
  refine ⟨ts, e, fun y hy => ?_⟩
  obtain ⟨x', hr, rfl⟩ := ht y hy
  have hi' := hr.in_ hi
  obtain ⟨t', hrun, hnb, hsz⟩ := run_X (R := R) hi'
  have h1 := hr.size
  rw [size_ann] at h1
  have h2 := hr.fl
  rw [fl_ann] at h2
  have := tw_len x'
  refine ⟨t', ⟨by omega, tw_asc hi', _, symb_X hi', tk_ok hi', hrun⟩, ?_, by omega⟩
  rintro rfl
  omega

theorem need_congr {R R' : Int → Int} (hR : ∀ p, 0 ≤ p → p < 41 → R p = R' p) {p side : Int} (h0 : 0 ≤ p) (h1 : p < 41) {t : T} (h : t.In) : need R p side t = need R' p side t := by
  cases t with
  | lf k => rfl
  | nd q l r => simp only [need, hR p h0 h1, hR q h.1 h.2.1]
theorem wr_congr {R R' : Int → Int} (hR : ∀ p, 0 ≤ p → p < 41 → R p = R' p) : ∀ {t : T}, t.In → wr R t = wr R' t
  | .lf k, _ => rfl
  | .nd p l r, h => by
    simp only [wr, need_congr hR h.1 h.2.1 h.2.2.1, need_congr hR h.1 h.2.1 h.2.2.2, wr_congr hR h.2.2.1, wr_congr hR h.2.2.2]

/-! the list of ranks -/
section
variable {a b c kd : Int} {rest : List Int}
theorem gval_0 : gval [a, b, c] rest 0 = some a := rfl
theorem gval_1 : gval [a, b, c] rest 1 = some b := rfl
theorem gval_2 : gval [a, b, c] rest 2 = some c := rfl
theorem gval_3 (k : Nat) : gval [a, b, c] rest (k + 3) = if rest.head? = some 0 then some c else none := by
  unfold gval
  rw [if_neg (by simp)]
  rfl
theorem rkI_0 {p : Int} (ha : 0 < a) (hb : 0 < b) (hc : 0 < c) (h : p < a) : rkI a b c p kd = 0 := by
  unfold rkI
  rw [if_pos (by omega)]
  simp only [List.filter_cons, List.filter_nil]
  rw [if_neg (by simp; omega), if_neg (by simp; omega), if_neg (by simp; omega)]; rfl
theorem rkI_1 {p : Int} (ha : 0 < a) (hb : 0 < b) (hc : 0 < c) (h0 : a ≤ p) (h : p < a + b) : rkI a b c p kd = 1 := by
  unfold rkI
  rw [if_pos (by omega)]
  simp only [List.filter_cons, List.filter_nil]
  rw [if_pos (by simp; omega), if_neg (by simp; omega), if_neg (by simp; omega)]; rfl
theorem rkI_2 {p : Int} (ha : 0 < a) (hb : 0 < b) (hc : 0 < c) (h0 : a + b ≤ p) (h : p < a + b + c) : rkI a b c p kd = 2 := by
  unfold rkI
  rw [if_pos (by omega)]
  simp only [List.filter_cons, List.filter_nil]
  rw [if_pos (by simp; omega), if_pos (by simp; omega), if_neg (by simp; omega)]; rfl
theorem rkI_3 {p : Int} (hc : 0 < c) (hk : kd ≤ 1) (k : Nat) (h0 : a + b + c + k * c ≤ p) (h : p < a + b + c + k * c + c) : rkI a b c p kd = k + 3 := by
  unfold rkI
  have hkc : 0 ≤ (k : Int) * c := Int.mul_nonneg (Int.natCast_nonneg k) (by omega)
  rw [if_neg (by omega), if_neg (by omega), Int.fdiv_eq_ediv_of_nonneg _ (by omega)]
  have : (p - (a + b + c)) / c = k := by
    have e : p - (a + b + c) = (p - (a + b + c) - k * c) + k * c := by omega
    rw [e, Int.add_mul_ediv_right _ _ (by omega), Int.ediv_eq_zero_of_lt (by omega) (by omega)]; omega
  rw [this]; omega
theorem rkI_4 {p : Int} (hk : 1 < kd) (h0 : a + b + c ≤ p) : rkI a b c p kd = 4 := by
  unfold rkI
  rw [if_neg (by omega), if_pos hk]

theorem gblk_len : ∀ k : Nat, rest.head? = some 0 → 0 < a → 0 < b → 0 < c → ((gblk [a, b, c] rest (k + 3)).length : Int) = a + b + c + k * c
  | 0, h, ha, hb, hc => by
    simp only [gblk, gval_0, gval_1, gval_2, List.length_append, List.length_replicate, List.length_nil, Option.getD_some]
    omega
  | k + 1, h, ha, hb, hc => by
    have ih := gblk_len k h ha hb hc
    rw [show k + 1 + 3 = (k + 3) + 1 by omega, gblk, List.length_append, List.length_replicate, gval_3, if_pos h, Option.getD_some]
    have : ((k + 1 : Nat) : Int) * c = k * c + c := by rw [Int.natCast_add, Int.add_mul]; simp
    omega
theorem gblk_3 (ha : 0 < a) (hb : 0 < b) (hc : 0 < c) : ((gblk [a, b, c] rest 3).length : Int) = a + b + c := by
  simp only [gblk, gval_0, gval_1, gval_2, List.length_append, List.length_replicate, List.length_nil, Option.getD_some]
  omega
theorem gblk_get (ha : 0 < a) (hb : 0 < b) (hc : 0 < c) (hr : rest.head? = some 0 → kd ≤ 1) : ∀ (k p : Nat), (∀ j < k, gval [a, b, c] rest j ≠ none) → p < (gblk [a, b, c] rest k).length → (gblk [a, b, c] rest k)[p]? = some (rkI a b c p kd)
  | 0, p, _, h => by simp [gblk] at h
  | k + 1, p, hg, h => by
    by_cases hp : p < (gblk [a, b, c] rest k).length
    · rw [gblk, List.getElem?_append_left hp]; exact gblk_get ha hb hc hr k p (fun j hj => hg j (by omega)) hp
    · rw [gblk, List.length_append, List.length_replicate] at h
      rw [gblk, List.getElem?_append_right (by omega), List.getElem?_replicate, if_pos (by omega)]
      congr 1
      match k, hg, hp, h with
      | 0, hg, hp, h =>
        simp only [gblk, gval_0, Option.getD_some, List.length_nil] at h hp
        rw [rkI_0 ha hb hc (by omega)]; rfl
      | 1, hg, hp, h =>
        simp only [gblk, gval_0, gval_1, Option.getD_some, List.length_nil, List.length_append, List.length_replicate] at h hp
        rw [rkI_1 ha hb hc (by omega) (by omega)]; rfl
      | 2, hg, hp, h =>
        simp only [gblk, gval_0, gval_1, gval_2, Option.getD_some, List.length_nil, List.length_append, List.length_replicate] at h hp
        rw [rkI_2 ha hb hc (by omega) (by omega)]; rfl
      | k + 3, hg, hp, h =>
        have hz : rest.head? = some 0 := by
          have := hg (k + 3) (by omega)
          rw [gval_3] at this
          by_cases e : rest.head? = some 0
          · exact e
          · rw [if_neg e] at this; exact absurd rfl this
        rw [gval_3, if_pos hz, Option.getD_some] at h
        have hl := gblk_len k hz ha hb hc
        rw [rkI_3 hc (hr hz) k (by omega) (by omega)]; omega
/-- the list of ranks is as the rank says -/
theorem ranks_get (ha : 0 < a) (hb : 0 < b) (hc : 0 < c) (ha7 : a ≤ 7) (hb7 : b ≤ 7) (hc7 : c ≤ 7) (hr : rest.head? = some 0 ↔ kd ≤ 1) {k : Nat} (hk : k ≤ 41) (hend : gval [a, b, c] rest k = none ∨ 40 < (gblk [a, b, c] rest k).length)
    (hprev : ∀ j < k, (gblk [a, b, c] rest j).length ≤ 40 ∧ gval [a, b, c] rest j ≠ none) {p : Int} (h0 : 0 ≤ p) (h1 : p < 41) :
    (gblk [a, b, c] rest k ++ List.replicate 41 ((k : Int) + 1)).getD p.toNat 0 = rkI a b c p kd := by
  have hpn : ((p.toNat : Nat) : Int) = p := by omega
  by_cases hp : p.toNat < (gblk [a, b, c] rest k).length
  · rw [List.getD_eq_getElem?_getD, List.getElem?_append_left hp, gblk_get ha hb hc hr.mp k _ (fun j hj => (hprev j hj).2) hp, Option.getD_some, hpn]
  · rcases hend with hend | hend
    · have hk3 : k = 3 ∧ rest.head? ≠ some 0 := by
        match k, hend, hprev with
        | 0, hend, _ => rw [gval_0] at hend; cases hend
        | 1, hend, _ => rw [gval_1] at hend; cases hend
        | 2, hend, _ => rw [gval_2] at hend; cases hend
        | k + 3, hend, hprev =>
          rw [gval_3] at hend
          by_cases e : rest.head? = some 0
          · rw [if_pos e] at hend; cases hend
          · refine ⟨?_, e⟩
            cases k with
            | zero => rfl
            | succ k =>
              have := (hprev (k + 3) (by omega)).2
              rw [gval_3, if_neg e] at this
              exact absurd rfl this
      obtain ⟨rfl, hz⟩ := hk3
      have hl := gblk_3 (rest := rest) ha hb hc
      have hkd : 1 < kd := by
        by_cases e : kd ≤ 1
        · exact absurd (hr.mpr e) hz
        · omega
      rw [rkI_4 hkd (by omega), List.getD_eq_getElem?_getD, List.getElem?_append_right (by omega), List.getElem?_replicate, if_pos (by omega)]
      rfl
    · omega
theorem gblk_small (ha7 : a ≤ 7) (hb7 : b ≤ 7) (hc7 : c ≤ 7) {k : Nat} (hprev : ∀ j < k, (gblk [a, b, c] rest j).length ≤ 40 ∧ gval [a, b, c] rest j ≠ none) : (gblk [a, b, c] rest k).length ≤ 100 := by
  cases k with
  | zero => simp [gblk]
  | succ k =>
    have := (hprev k (by omega)).1
    rw [gblk, List.length_append, List.length_replicate]
    have : (gval [a, b, c] rest k).getD 0 ≤ 7 := by
      match k with
      | 0 => exact ha7
      | 1 => exact hb7
      | 2 => exact hc7
      | k + 3 =>
        rw [gval_3]
        by_cases e : rest.head? = some 0
        · rw [if_pos e]; exact hc7
        · rw [if_neg e]; decide
    omega
end
end

section
open PySem PySem.Spec PySem.Calls PyProof.Rows PySem.W

theorem ints_of_get : ∀ {us : List Value} {ns : List Int}, us.length = ns.length → (∀ (j : Nat) v, us[j]? = some v → ∃ n t, ns[j]? = some n ∧ v = .int n t) → IntsAre us ns
  | [], [], _, _ => .nil
  | [], _ :: _, h, _ => by cases h
  | _ :: _, [], h, _ => by cases h
  | u :: us, n :: ns, h, hg => by
    obtain ⟨n', t, e1, e2⟩ := hg 0 u rfl
    cases e1
    subst e2
    exact .cons _ _ (ints_of_get (by simpa using h) fun j v e => by simpa using hg (j + 1) v (by simpa using e))
theorem paired_map {f : Int → Int} {vs ys : List Value} (p : Paired (fun v y => ∀ n t, v = .int n t → ∃ u, y = .int (f n) u) vs ys) : ∀ {ns : List Int}, IntsAre vs ns → IntsAre ys (ns.map f) := by
  induction p with
  | nil => intro ns i; cases i; exact .nil
  | cons h _ ih =>
    intro ns i
    cases i with
    | cons n t i =>
      obtain ⟨u, rfl⟩ := h n t rfl
      exact .cons _ _ (ih i)
theorem filter_all {α : Type} (l : List α) : l.filter (fun _ => true) = l := List.filter_eq_self.mpr fun _ _ => rfl

section
variable {prog : Program} {w : World} {A : Around} {E : Value → Shared → Prop} {own : Bool} {s₀ s : Shared} {env : Env} {m cm : Str → Option Value} {mu : List (Addr × MO)} {fs : List Fact} {K : Frag}

/-- an iteration over ints -/
noncomputable def IterI (prog : Program) (w : World) (A : Around) (xv : Value) (ns : List Int) (s : Shared) : Prop :=
  ∃ P R, Iter prog w A xv ns.length P R s ∧ (∀ i v, P i v → ∃ n t, ns[i]? = some n ∧ v = .int n t) ∧ ∀ b ∈ R, ∃ o, s.heap.get? b = some o
theorem iterI_list (hh : A.handled = none) (S : St own s₀ env m cm mu fs s) {l : Addr} {ns : List Int} (hl : Has fs (.ref l) (ilist ns)) : IterI prog w A (.ref l) ns s := by
  obtain ⟨vs, n, he, hr, hX, hit⟩ := iter_dat (prog := prog) (w := w) hh S hl
  rw [List.length_map] at hit
  refine ⟨_, _, hit, fun i v hv => ?_, fun b hb => by rw [List.mem_singleton.mp hb]; exact ⟨_, he⟩⟩
  obtain ⟨d, hd, rv⟩ := hr.get' i v hv
  rw [List.getElem?_map] at hd
  obtain ⟨n, hn, rfl⟩ := Option.map_eq_some_iff.mp hd
  obtain ⟨t, rfl⟩ := rv.intInv
  exact ⟨n, t, hn, rfl⟩
theorem iterI_range (hh : A.handled = none) {r : Addr} {n : Nat} {t u v : Tok} (hr : IsRange s.heap r 0 n 1 t u v) (hn : n < 2 ^ 62) : IterI prog w A (.ref r) ((List.range n).map Int.ofNat) s := by
  have it := iter_range (prog := prog) (w := w) hh hr hn
  have e : ((List.range n).map Int.ofNat).length = n := by simp
  -- the walk gives i below n alone
  refine ⟨fun i v => i < n ∧ ∃ t, v = .int i t, [], ?_, fun i v hv => ?_, fun b hb => nomatch hb⟩
  · rw [e]
    intro Q E h
    refine it Q E fun I fp h' W hW hW0 hfp hfl hIn hIl hk => h I fp h' W ?_ hW0 hfp hfl hIn hIl hk
    exact ⟨hW.sub, hW.frame, fun i s Q E hi hw hQ => hW.item i s Q E hi hw fun v h' tk hP => hQ v h' tk ⟨hi, hP⟩, hW.done, hW.self⟩
  · obtain ⟨hi, t, rfl⟩ := hv
    exact ⟨i, t, by simp [List.getElem?_range hi], rfl⟩

theorem ev_mapI {elt iter : Expr} {x : Str} {px : Pos} {scope : Scope} {cl : List (Str × Addr)} {pos : Pos} {Q : Value → Shared → Prop} (f : Int → Int)
    (h : wpAny (model prog w) A (eval iter env) (fun xv s₁ => ∃ ns m cm mu fs, St own s₀ env m cm mu fs s₁ ∧ IterI prog w A xv ns s₁ ∧ ns.length ≤ sizeLine ∧
      (∀ C n t s₃ m₃ (E' : Value → Shared → Prop), n ∈ ns → m₃ x = some (.int n t) → (∀ b o, s₁.heap.get? b = some o → s₃.heap.get? b = some o) → St false s₃ (compEnvC scope cl C env) m₃ cm [] (fs.map Fact.toRd) s₃ →
        wpAny (model prog w) A (eval elt (compEnvC scope cl C env)) (fun y s₄ => (∃ u, y = .int (f n) u) ∧ Keeps s₃ s₄) E' s₃) ∧
      (∀ D s', St own s₀ env m cm mu (.nw (.ref D) (ilist (ns.map f)) :: fs) s' → Q (.ref D) s')) E s)
    (hcl : ∀ n c, cl.lookup n = some c → env.cells.lookup n = some c)
    (hclos : closureFor scope env = pure cl) (hcell : ∀ y ∈ scope.names, y.2 ≠ .cell) (hkind : scope.kind = .function)
    (hnames : ∀ y ∈ scope.names, y.2 = .local → scope.names.lookup y.1 = some .local) (hx : scope.names.lookup x = some .local)
    (hs : ∀ x, foldedSetIterable iter env x = pure x := by intro _; rfl) :
    wpAny (model prog w) A (eval (.ListComp elt [⟨.Name x px, iter, [], 0⟩] scope pos) env) Q E s := by
  refine ev_comp (own := own) (s₀ := s₀) (fun _ => true) (fun v y => ∀ n t, v = .int n t → ∃ u, y = .int (f n) u) (wpAny_mono h (fun xv s₁ h₁ => ?_) fun _ _ e => e) hcl hclos hcell hkind hnames hx hs
  obtain ⟨ns, m, cm, mu, fs, S, ⟨P, R, it, hP, hR⟩, hn, hel, hQ⟩ := h₁
  refine ⟨_, P, R, m, cm, mu, fs, S, it, hn, hR, ⟨fun C i v s₃ m₃ E' hv hm hk3 S3 => tests_nil ⟨rfl, S3.done⟩, fun C i v s₃ m₃ E' hv _ hm hk3 S3 => ?_⟩, fun D s' ys us hD S' hl hlen hPs hF hk => ?_⟩
  · obtain ⟨n, t, hn, rfl⟩ := hP i v hv
    refine wpAny_mono (hel C n t s₃ m₃ E' (List.mem_of_getElem? hn) hm hk3 S3) (fun y s₄ hy => ⟨fun n' t' e => ?_, hy.2⟩) fun _ _ e => e
    cases e; exact hy.1
  · rw [filter_all] at hF
    have hi := paired_map hF (ints_of_get hlen fun j v e => hP j v (hPs j v e))
    exact hQ D s' (S.made S' hD hl fun h P => rdAll_of_ints hi)

theorem ex_mapI {elt iter : Expr} {x y : Str} {px py : Pos} {scope : Scope} {cl : List (Str × Addr)} {pos spos : Pos} {Q : Flow → Shared → Prop} (f : Int → Int)
    (h : wpAny (model prog w) A (eval iter env) (fun xv s₁ => ∃ ns m cm mu fs, St true s₀ env m cm mu fs s₁ ∧ IterI prog w A xv ns s₁ ∧ ns.length ≤ sizeLine ∧
      (∀ C n t s₃ m₃ (E' : Value → Shared → Prop), n ∈ ns → m₃ x = some (.int n t) → (∀ b o, s₁.heap.get? b = some o → s₃.heap.get? b = some o) → St false s₃ (compEnvC scope cl C env) m₃ cm [] (fs.map Fact.toRd) s₃ →
        wpAny (model prog w) A (eval elt (compEnvC scope cl C env)) (fun y s₄ => (∃ u, y = .int (f n) u) ∧ Keeps s₃ s₄) E' s₃) ∧
      (∀ D s', St true s₀ env (fun z => if z = y then some (.ref D) else m z) cm mu (.nw (.ref D) (ilist (ns.map f)) :: fs) s' → Q .next s')) E s)
    (hcl : ∀ n c, cl.lookup n = some c → env.cells.lookup n = some c)
    (hsw : swapsWith (.ListComp elt [⟨.Name x px, iter, [], 0⟩] scope pos) (some (.Name y py)) spos.line env = pure true)
    (hclos : closureFor scope env = pure cl) (hcell : ∀ y ∈ scope.names, y.2 ≠ .cell) (hkind : scope.kind = .function)
    (hnames : ∀ y ∈ scope.names, y.2 = .local → scope.names.lookup y.1 = some .local) (hx : scope.names.lookup x = some .local)
    (hy : env.kindOf y = some .local) (hk : env.scope.kind = .function)
    (hs : ∀ x, foldedSetIterable iter env x = pure x := by intro _; rfl) :
    wpAny (model prog w) A (exec (.Assign [.Name y py] (.ListComp elt [⟨.Name x px, iter, [], 0⟩] scope pos) spos) env) Q E s := by
  refine ex_comp (s₀ := s₀) (fun _ => true) (fun v y => ∀ n t, v = .int n t → ∃ u, y = .int (f n) u) (wpAny_mono h (fun xv s₁ h₁ => ?_) fun _ _ e => e) hcl hsw hclos hcell hkind hnames hx hy hk hs
  obtain ⟨ns, m, cm, mu, fs, S, ⟨P, R, it, hP, hR⟩, hn, hel, hQ⟩ := h₁
  refine ⟨_, P, R, m, cm, mu, fs, S, it, hn, hR, ⟨fun C i v s₃ m₃ E' hv hm hk3 S3 => tests_nil ⟨rfl, S3.done⟩, fun C i v s₃ m₃ E' hv _ hm hk3 S3 => ?_⟩, fun D s' ys us hD S' hl hlen hPs hF => ?_⟩
  · obtain ⟨n, t, hn, rfl⟩ := hP i v hv
    refine wpAny_mono (hel C n t s₃ m₃ E' (List.mem_of_getElem? hn) hm hk3 S3) (fun y s₄ hy => ⟨fun n' t' e => ?_, hy.2⟩) fun _ _ e => e
    cases e; exact hy.1
  · rw [filter_all] at hF
    have hi := paired_map hF (ints_of_get hlen fun j v e => hP j v (hPs j v e))
    exact hQ D s' (S.made S' hD hl fun h P => rdAll_of_ints hi)
end
end

section
open PySem PySem.Spec PySem.Calls PyProof.Rows PySem.W
local macro_rules | `(tactic| walk_at "sz") => `(tactic| first | (rw [sizeLine_eq]; omega) | (simp only [List.length_cons, List.length_nil, List.length_take, List.length_drop, List.length_append, List.length_map, List.length_range, sizeLine_eq]; omega) | (simp [sizeLine_eq]; done) | (simp [sizeLine_eq]; omega))

section
variable {prog : Program} {w : World} {A : Around} {E : Value → Shared → Prop} {s : Shared}

/-- a new list of data, old or new -/
theorem nl_rd {own : Bool} {s₀ : Shared} {env : Env} {m cm : Str → Option Value} {mu : List (Addr × MO)} {fs : List Fact} {vs : List Value} {xs : List PyData} {Q : Value → Shared → Prop} (S : St own s₀ env m cm mu fs s) (hz : vs.length ≤ sizeLine)
    (r : RdAll s.heap (fun a => a ∉ XS own env mu) vs xs)
    (h : ∀ a s', St own s₀ env m cm mu (.rd (.ref a) (.list xs) :: fs) s' → Q (.ref a) s') : wpAny (model prog w) A (newList vs) Q E s := by
  have hn : s.heap.get? s.heap.objs.size = none := none_of_size
  refine wpAny_newObj_type (h _ _ ((S.grow s.toks (Heap.push_keeps _ _)).add (f := .rd _ _) ?_)) (by show vs.toArray.size ≤ sizeLine; rw [List.size_toArray]; exact hz)
  exact .list (notin_of_none S.live hn) (Heap.get?_push_size _ rfl) (r.mono (fun b o _ e => Heap.get?_push_of_some _ e) fun b o p _ => p)

theorem wo_len {x : List Nat} : ∀ {i : Nat} {ts}, wo x i = some ts → ts.length ≤ i
  | 0, ts, h => by cases h; exact Nat.le_refl _
  | i + 1, ts, h => by
    rw [wo] at h
    cases hw : wo x i with
    | none => rw [hw] at h; cases h
    | some us =>
      have ih := wo_len hw
      rw [hw] at h
      dsimp only at h
      split at h
      · split at h
        · cases h
        · cases h; rw [List.length_append]; simp; omega
      · cases h; omega

set_option maxHeartbeats 16000000 in
theorem c_law {ns : List Int} {v : Value} {P : Addr → Prop} {Q : Value → Shared → Prop} (G : Gl (KK w) s.heap) (hroom : A.depth + 60 < recursionLimit) (hh : A.handled = none) (hu : A.units + 1000 < cLine) (hab : AllBare s.gens)
    (hr : Rd s.heap P v (ilist ns)) (hns : ns.length ≤ 63)
    (h : ∀ s', AllBare s'.gens → Keeps { s with gens := s'.gens } s' → Q (.bool true) s') :
    wpAny (model prog w) A (call (.ref 88) [v]) Q E s := by
  obtain ⟨l, vs, n, rfl, _⟩ := hr.inv
  refine c_enter (K := KK w) (a := 88) G (by omega) rfl rfl rfl rfl rfl rfl ?_ ?_ ?_
  · exact fun n => kindsX rfl n
  · decide
  intro s₁ A' hA1 hA2 hA3 S
  have S := S.arg hr
  rw [hh] at hA1
  -- given
  refine ec ?_
  intro Q101 hn101 _
  refine wpAny_Assign_Name ?_
  refine wpAny_BinOp ?_
  refine ev_mapI (own := true) (s₀ := s) (cl := []) (fun x : Int => x.fmod 4305) ?_ ?hcl ?hclos ?hcell ?hkind ?hnames ?hx
  case hclos => with_unfolding_all rfl
  case hcell => decide
  case hkind => rfl
  case hnames => decide
  case hx => rfl
  case hcl => exact fun n c e => by cases e
  refine Subscript_ ?_
  refine ev_loc S rfl ?_
  refine wpAny_Slice (evalPart_none_step (evalPart_some_step ?_))
  refine ev_int S ?_
  intro s₁ t₁ S
  refine evalPart_none_step ?_
  refine tl_cutI (lo := none) (hi := some 16) S (by walk_at "has") .none (.int _ _) (by walk_at "sz") ?_
  intro l1 s₁ S
  refine ⟨_, _, _, _, _, S, iterI_list hA1 S (by walk_at "has"), by walk_at "sz", ?_, ?_⟩
  · intro C n t s₃ m₃ E' hn hm hk3 S3
    refine wpAny_BinOp ?_
    refine ev_loc S3 hm (ev_int S3 ?_)
    intro s₄ t₄ S3
    refine op_mod S3 (by decide) ?_
    intro s₅ t₅ S3
    exact ⟨⟨_, rfl⟩, S3.done⟩
  intro D s₁ S
  simp only [Option.getD_some, Option.getD_none, List.drop_zero] at S
  refine List_ ?_
  refine spliced_more ?_
  refine ev_int S ?_
  intro s₁ t₁ S
  refine spliced_more ?_
  refine ev_int S ?_
  intro s₁ t₂ S
  refine spliced_more ?_
  refine ev_int S ?_
  intro s₁ t₃ S
  refine spliced_more ?_
  refine ev_int S ?_
  intro s₁ t₄ S
  refine spliced_more ?_
  refine ev_int S ?_
  intro s₁ t₅ S
  refine spliced_more ?_
  refine ev_int S ?_
  intro s₁ t₆ S
  refine spliced_more ?_
  refine ev_int S ?_
  intro s₁ t₇ S
  refine spliced_none ?_
  refine nl_ints (ns := [2, 0, 0, 1, 1, 2, 3]) S (.cons _ _ (.cons _ _ (.cons _ _ (.cons _ _ (.cons _ _ (.cons _ _ (.cons _ _ .nil))))))) (by walk_at "sz") ?_
  intro l2 s₁ S
  obtain ⟨v1, n1, e1, i1, len1, _⟩ := S.ints (a := D) (ns := (ns.take 16).map fun x : Int => x.fmod 4305) (by walk_at "has")
  obtain ⟨v2, n2, e2, i2, len2, _⟩ := S.ints (a := l2) (ns := [2, 0, 0, 1, 1, 2, 3]) (by walk_at "has")
  simp only [List.length_map, List.length_take, List.length_cons, List.length_nil] at len1 len2
  refine op_addL (xs := ((ns.take 16).map (fun x : Int => x.fmod 4305) ++ [2, 0, 0, 1, 1, 2, 3]).map PyData.int) S (lst_isList e1) (lst_isList e2) (by walk_at "sz") (rdAll_of_ints (ints_app i1 i2)) ?_
  intro lg s₁ S
  have hgl : ((ns.take 16).map (fun x : Int => x.fmod 4305) ++ [2, 0, 0, 1, 1, 2, 3]).length = min 16 ns.length + 7 := by simp
  generalize hgv : (ns.take 16).map (fun x : Int => x.fmod 4305) ++ [2, 0, 0, 1, 1, 2, 3] = gv at S hgl
  refine st_cel S ?_
  intro s₁ S
  have S := S.sub (fs' := [.rd (.ref l) (ilist ns), .nw (.ref lg) (ilist gv)]) (by repeat (first | exact List.forall_mem_nil _ | refine List.forall_mem_cons.mpr ⟨by walk_at "mem", ?_⟩))
  refine hn101 _ ?_
  -- count
  refine ec ?_
  intro Q102 hn102 _
  refine wpAny_Assign_Name ?_
  refine ev_callB (K := KK w) S G rfl rfl ?_
  refine spliced_more ?_
  refine ev_int S ?_
  intro s₁ t₁ S
  refine spliced_more ?_
  refine ev_callB (K := KK w) S G rfl rfl ?_
  refine spliced_more ?_
  refine ev_int S ?_
  intro s₁ t₂ S
  refine spliced_more ?_
  refine wpAny_BinOp ?_
  refine ev_callB (K := KK w) S G rfl rfl ?_
  refine spliced_more ?_
  refine ev_loc S rfl ?_
  refine spliced_none ?_
  refine c_lenD (xs := ns.map PyData.int) S (by walk_at "has") (by walk_at "sz") ?_
  intro s₁ t₃ S
  refine ev_int S ?_
  intro s₁ t₄ S
  refine op_div S (by decide) (dv_small (by decide) (by decide)) ?_
  intro s₁ t₅ S
  refine spliced_none ?_
  refine c_min2 S hA1 ?_
  intro s₁ t₆ S
  refine spliced_none ?_
  refine c_max2 S hA1 ?_
  intro s₁ t₇ S
  obtain ⟨cn, hcn, hc2, hc6, hcg⟩ : ∃ cn : Nat, max 2 (min 6 (((ns.map PyData.int).length : Int).fdiv 2)) = (cn : Int) ∧ 2 ≤ cn ∧ cn ≤ 6 ∧ 2 * cn + 3 ≤ gv.length := by
    rw [List.length_map, Int.fdiv_eq_ediv_of_nonneg _ (by decide)]
    refine ⟨(max 2 (min 6 ((ns.length : Int) / 2))).toNat, ?_, ?_, ?_, ?_⟩
    · omega
    · omega
    · omega
    · rw [hgl]; omega
  rw [hcn]
  refine st_loc S ?_
  intro s₁ S
  refine hn102 _ ?_
  -- places
  refine ec ?_
  intro Qp hnp _
  refine ex_mapI (s₀ := s) (cl := [(Str.ofString "given", s.heap.objs.size + 1)]) (fun k => (gv.getD (2 * k).toNat 0).fmod 41) ?_ ?hcl ?hsw ?hclos ?hcell ?hkind ?hnames ?hx ?hy ?hk
  case hsw => with_unfolding_all rfl
  case hclos => with_unfolding_all rfl
  case hcell => decide
  case hkind => rfl
  case hnames => decide
  case hx => rfl
  case hcl =>
    intro n c e
    rw [List.lookup_cons] at e
    split at e
    · rename_i hb; rw [beq_iff_eq.mp hb]; cases e; rfl
    · cases e
  case hy => rfl
  case hk => rfl
  refine ev_callT (K := KK w) S G rfl rfl ?_
  refine spliced_more ?_
  refine ev_loc S rfl ?_
  refine spliced_none ?_
  refine call_range_1 ?_
  have hrg := IsRange.new s₁.heap 0 cn 1 s₁.toks t₇ (s₁.toks + 1)
  have S := S.grow (s₁.toks + 1 + 1) (Heap.push_keeps s₁.heap { cls := .type "range", data := .fields #[.int 0 s₁.toks, .int (cn : Int) t₇, .int 1 (s₁.toks + 1)] })
  refine ⟨_, _, _, _, _, S, iterI_range hA1 hrg (by omega), by walk_at "sz", ?_, ?_⟩
  · intro C n t s₃ m₃ E' hn hm hk3 S3
    obtain ⟨k, hk, rfl⟩ := List.mem_map.mp hn
    have hk := List.mem_range.mp hk
    refine wpAny_BinOp ?_
    refine Subscript_ ?_
    refine ev_cel S3 rfl ?_
    refine wpAny_BinOp ?_
    refine ev_int S3 ?_
    intro s₄ t₄ S3
    refine ev_loc S3 hm ?_
    refine op_mul S3 (.of_left (by decide)) ?_
    intro s₄ t₅ S3
    refine tl_int (ns := gv) (k := 2 * k) (n := gv.getD (2 * k) 0) S3 (by apply Or.inl; walk_at "mem") (by simp) ?_ (by walk_at "sz") ?_
    · rw [List.getD_eq_getElem?_getD, List.getElem?_eq_getElem (by omega)]; rfl
    intro t₆
    refine ev_int S3 ?_
    intro s₅ t₇ S3
    refine op_mod S3 (by decide) ?_
    intro s₅ t₈ S3
    refine ⟨⟨t₈, ?_⟩, S3.done⟩
    rw [show (2 * Int.ofNat k).toNat = 2 * k by simp; omega]
  intro lp s₁ S
  refine hnp _ ?_
  generalize hps : List.map (fun k => (gv.getD (2 * k).toNat 0).fmod 41) (List.map Int.ofNat (List.range cn)) = ps at S
  -- heights
  refine ec ?_
  intro Qh hnh _
  refine ex_mapI (s₀ := s) (cl := [(Str.ofString "given", s.heap.objs.size + 1)]) (fun k => (gv.getD (2 * k + 1).toNat 0).fmod 7) ?_ ?hcl ?hsw ?hclos ?hcell ?hkind ?hnames ?hx ?hy ?hk
  case hsw => with_unfolding_all rfl
  case hclos => with_unfolding_all rfl
  case hcell => decide
  case hkind => rfl
  case hnames => decide
  case hx => rfl
  case hcl =>
    intro n c e
    rw [List.lookup_cons] at e
    split at e
    · rename_i hb; rw [beq_iff_eq.mp hb]; cases e; rfl
    · cases e
  case hy => rfl
  case hk => rfl
  refine ev_callT (K := KK w) S G rfl rfl ?_
  refine spliced_more ?_
  refine ev_loc S rfl ?_
  refine spliced_none ?_
  refine call_range_1 ?_
  have hrg := IsRange.new s₁.heap 0 cn 1 s₁.toks t₇ (s₁.toks + 1)
  have S := S.grow (s₁.toks + 1 + 1) (Heap.push_keeps s₁.heap { cls := .type "range", data := .fields #[.int 0 s₁.toks, .int (cn : Int) t₇, .int 1 (s₁.toks + 1)] })
  refine ⟨_, _, _, _, _, S, iterI_range hA1 hrg (by omega), by walk_at "sz", ?_, ?_⟩
  · intro C n t s₃ m₃ E' hn hm hk3 S3
    obtain ⟨k, hk, rfl⟩ := List.mem_map.mp hn
    have hk := List.mem_range.mp hk
    refine wpAny_BinOp ?_
    refine Subscript_ ?_
    refine ev_cel S3 rfl ?_
    refine wpAny_BinOp ?_
    refine wpAny_BinOp ?_
    refine ev_int S3 ?_
    intro s₄ t₄ S3
    refine ev_loc S3 hm ?_
    refine op_mul S3 (.of_left (by decide)) ?_
    intro s₄ t₅ S3
    refine ev_int S3 ?_
    intro s₄ t₅ S3
    refine op_add S3 ?_
    intro s₄ t₅ S3
    refine tl_int (ns := gv) (k := 2 * k + 1) (n := gv.getD (2 * k + 1) 0) S3 (by apply Or.inl; walk_at "mem") (by simp) ?_ (by walk_at "sz") ?_
    · rw [List.getD_eq_getElem?_getD, List.getElem?_eq_getElem (by omega)]; rfl
    intro t₆
    refine ev_int S3 ?_
    intro s₅ t₇ S3
    refine op_mod S3 (by decide) ?_
    intro s₅ t₈ S3
    refine ⟨⟨t₈, ?_⟩, S3.done⟩
    rw [show (2 * Int.ofNat k + 1).toNat = 2 * k + 1 by simp; omega]
  intro lh s₁ S
  refine hnh _ ?_
  generalize hhs : List.map (fun k => (gv.getD (2 * k + 1).toNat 0).fmod 7) (List.map Int.ofNat (List.range cn)) = hs at S
  -- sizes
  refine ec ?_
  intro Qz hnz _
  refine ex_mapI (s₀ := s) (cl := []) (fun x => x.fmod 7 + 1) ?_ ?hcl ?hsw ?hclos ?hcell ?hkind ?hnames ?hx ?hy ?hk
  case hsw => with_unfolding_all rfl
  case hclos => with_unfolding_all rfl
  case hcell => decide
  case hkind => rfl
  case hnames => decide
  case hx => rfl
  case hcl => exact fun n c e => by cases e
  case hy => rfl
  case hk => rfl
  refine Subscript_ ?_
  refine ev_cel S rfl ?_
  refine wpAny_Slice (evalPart_some_step (wpAny_BinOp (ev_int S ?_)))
  intro s₁ t₁ S
  refine ev_loc S rfl ?_
  refine op_mul S (.of_left (by decide)) ?_
  intro s₁ t₂ S
  refine evalPart_some_step (wpAny_BinOp (wpAny_BinOp (ev_int S ?_)))
  intro s₁ t₃ S
  refine ev_loc S rfl ?_
  refine op_mul S (.of_left (by decide)) ?_
  intro s₁ t₄ S
  refine ev_int S ?_
  intro s₁ t₅ S
  refine op_add S ?_
  intro s₁ t₆ S
  refine evalPart_none_step ?_
  rw [show (2 : Int) * (cn : Int) + 3 = Int.ofNat (2 * cn + 3) from by simp, show (2 : Int) * (cn : Int) = Int.ofNat (2 * cn) from by simp]
  refine tl_cutI (ns := gv) (lo := some (2 * cn)) (hi := some (2 * cn + 3)) S (by walk_at "has") (.int _ _) (.int _ _) (by walk_at "sz") ?_
  intro l3 s₁ S
  simp only [Option.getD_some] at S
  obtain ⟨x1, x2, x3, hx3⟩ : ∃ x1 x2 x3, (gv.take (2 * cn + 3)).drop (2 * cn) = [x1, x2, x3] := by
    have hl3 : ((gv.take (2 * cn + 3)).drop (2 * cn)).length = 3 := by rw [List.length_drop, List.length_take]; omega
    match (gv.take (2 * cn + 3)).drop (2 * cn), hl3 with
    | [x1, x2, x3], _ => exact ⟨x1, x2, x3, rfl⟩
  rw [hx3] at S
  refine ⟨_, _, _, _, _, S, iterI_list hA1 S (ns := [x1, x2, x3]) (by walk_at "has"), by walk_at "sz", ?_, ?_⟩
  · intro C n t s₃ m₃ E' hn hm hk3 S3
    refine wpAny_BinOp ?_
    refine wpAny_BinOp ?_
    refine ev_loc S3 hm (ev_int S3 ?_)
    intro s₄ t₄ S3
    refine op_mod S3 (by decide) ?_
    intro s₅ t₅ S3
    refine ev_int S3 ?_
    intro s₄ t₄ S3
    refine op_add S3 ?_
    intro s₅ t₅ S3
    exact ⟨⟨_, rfl⟩, S3.done⟩
  intro lz s₁ S
  have hm7 : ∀ x : Int, 0 < x.fmod 7 + 1 ∧ x.fmod 7 + 1 ≤ 7 := fun x => by rw [Int.fmod_eq_emod_of_nonneg _ (by decide)]; omega
  obtain ⟨a, ha, ha0, ha7⟩ : ∃ a, x1.fmod 7 + 1 = a ∧ 0 < a ∧ a ≤ 7 := ⟨_, rfl, hm7 x1⟩
  obtain ⟨b, hb, hb0, hb7⟩ : ∃ a, x2.fmod 7 + 1 = a ∧ 0 < a ∧ a ≤ 7 := ⟨_, rfl, hm7 x2⟩
  obtain ⟨c, hc, hc0, hc7⟩ : ∃ a, x3.fmod 7 + 1 = a ∧ 0 < a ∧ a ≤ 7 := ⟨_, rfl, hm7 x3⟩
  simp only [List.map_cons, List.map_nil, ha, hb, hc] at S
  refine hnz _ ?_
  have S := S.sub (fs' := [.rd (.ref l) (ilist ns), .nw (.ref lp) (ilist ps), .nw (.ref lh) (ilist hs), .nw (.ref lz) (ilist [a, b, c])]) (by repeat (first | exact List.forall_mem_nil _ | refine List.forall_mem_cons.mpr ⟨by walk_at "mem", ?_⟩))
  -- kind
  refine ec ?_
  intro Q103 hn103 _
  refine wpAny_Assign_Name ?_
  refine wpAny_BinOp ?_
  refine ev_callB (K := KK w) S G rfl rfl ?_
  refine spliced_more ?_
  refine ev_mapI (own := true) (s₀ := s) (cl := []) (fun x => x.fmod 5) ?_ ?hcl ?hclos ?hcell ?hkind ?hnames ?hx
  case hclos => with_unfolding_all rfl
  case hcell => decide
  case hkind => rfl
  case hnames => decide
  case hx => rfl
  case hcl => exact fun n c e => by cases e
  refine Subscript_ ?_
  refine ev_loc S rfl ?_
  refine wpAny_Slice (evalPart_none_step (evalPart_some_step ?_))
  refine ev_int S ?_
  intro s₁ t₁ S
  refine evalPart_none_step ?_
  refine tl_cutI (ns := ns) (lo := none) (hi := some 60) S (by walk_at "has") .none (.int _ _) (by walk_at "sz") ?_
  intro l4 s₁ S
  refine ⟨_, _, _, _, _, S, iterI_list hA1 S (by walk_at "has"), by walk_at "sz", ?_, ?_⟩
  · intro C n t s₃ m₃ E' hn hm hk3 S3
    refine wpAny_BinOp ?_
    refine ev_loc S3 hm (ev_int S3 ?_)
    intro s₄ t₄ S3
    refine op_mod S3 (by decide) ?_
    intro s₅ t₅ S3
    exact ⟨⟨_, rfl⟩, S3.done⟩
  intro l5 s₁ S
  refine spliced_none ?_
  refine c_sumI S hA1 (by walk_at "has") ?_
  intro s₁ t₂ S
  refine ev_int S ?_
  intro s₁ t₃ S
  refine op_mod S (by decide) ?_
  intro s₁ tk S
  have hm5 : ∀ x : Int, 0 ≤ x.fmod 5 ∧ x.fmod 5 < 5 := fun x => by rw [Int.fmod_eq_emod_of_nonneg _ (by decide)]; omega
  generalize hkd : (List.sum _ : Int).fmod 5 = kd
  have hkd5 : 0 ≤ kd ∧ kd < 5 := hkd ▸ hm5 _
  refine st_loc S ?_
  intro s₁ S
  have S := S.sub (fs' := [.nw (.ref lp) (ilist ps), .nw (.ref lh) (ilist hs), .nw (.ref lz) (ilist [a, b, c])]) (by repeat (first | exact List.forall_mem_nil _ | refine List.forall_mem_cons.mpr ⟨by walk_at "mem", ?_⟩))
  refine hn103 _ ?_
  -- tree
  refine ec ?_
  intro Q104 hn104 _
  refine wpAny_Assign_Name ?_
  refine ev_callF (K := KK w) S G rfl rfl rfl ?_
  refine spliced_more ?_
  refine ev_loc S rfl ?_
  refine spliced_more ?_
  refine ev_loc S rfl ?_
  refine spliced_more ?_
  refine ev_int S ?_
  intro s₁ t₁ S
  refine spliced_none ⟨(G.keeps S.keep).x _ _ rfl, ?_⟩
  refine c_tree cn (ps := ps) (hs := hs)
    (G.keeps S.keep) (by omega) hA1 (by omega) (S.data (by walk_at "has")) (S.data (by walk_at "has")) (by rw [← hps]; simp) (by rw [← hhs]; simp) (by omega) ?_ ?_ ?_
  · intro p hp
    rw [← hps] at hp
    obtain ⟨k, _, rfl⟩ := List.mem_map.mp hp
    rw [Int.fmod_eq_emod_of_nonneg _ (by decide)]; omega
  · intro p hp
    rw [← hhs] at hp
    obtain ⟨k, _, rfl⟩ := List.mem_map.mp hp
    rw [Int.fmod_eq_emod_of_nonneg _ (by decide)]; omega
  intro s₁ vt tr hok hnew
  have S := S.newD hnew
  have hin : tr.In := hok.in_ (by decide) (by omega)
  have hsz : tr.size = cn := hok.size
  refine st_cel S ?_
  intro s₁ S
  have S := S.sub (fs' := [.nw vt tr.enc, .nw (.ref lz) (ilist [a, b, c])]) (by repeat (first | exact List.forall_mem_nil _ | refine List.forall_mem_cons.mpr ⟨by walk_at "mem", ?_⟩))
  refine hn104 _ ?_
  -- text
  refine ec ?_
  intro Q105 hn105 _
  refine wpAny_Assign_Name ?_
  refine ev_callF (K := KK w) S G rfl rfl rfl ?_
  refine spliced_more ?_
  refine ev_cel S rfl ?_
  refine spliced_more ?_
  refine ev_loc S rfl ?_
  refine spliced_more ?_
  refine ev_loc S rfl ?_
  refine spliced_none ⟨(G.keeps S.keep).x _ _ rfl, ?_⟩
  refine c_written (a := a) (b := b) hc0 (by omega) tr (G.keeps S.keep) (by omega) hA1 (S.data (by walk_at "has")) (S.data (by walk_at "has")) hin (by omega) ?_
  intro s₁ tt hkeep
  have S := S.keeps hkeep
  refine st_loc S ?_
  intro s₁ S
  refine hn105 _ ?_
  -- ranks
  refine ec ?_
  intro Q106 hn106 _
  refine wpAny_Assign_Name ?_
  refine ev_callF (K := KK w) S G rfl rfl rfl ?_
  refine spliced_more ?_
  refine wpAny_BinOp ?_
  refine ev_loc S rfl ?_
  refine Subscript_ ?_
  refine List_ ?_
  refine spliced_more ?_
  refine List_ ?_
  refine spliced_more ?_
  refine ev_int S ?_
  intro s₁ t₁ S
  refine spliced_none ?_
  refine nl_ints (ns := [0]) S (.cons _ _ .nil) (by walk_at "sz") ?_
  intro q0 s₁ S
  refine spliced_more ?_
  refine List_ ?_
  refine spliced_more ?_
  refine ev_int S ?_
  intro s₁ t₁ S
  refine spliced_more ?_
  refine ev_int S ?_
  intro s₁ t₂ S
  refine spliced_none ?_
  refine nl_ints (ns := [0, 5]) S (.cons _ _ (.cons _ _ .nil)) (by walk_at "sz") ?_
  intro q1 s₁ S
  refine spliced_more ?_
  refine List_ ?_
  refine spliced_more ?_
  refine ev_int S ?_
  intro s₁ t₁ S
  refine spliced_none ?_
  refine nl_ints (ns := [127]) S (.cons _ _ .nil) (by walk_at "sz") ?_
  intro q2 s₁ S
  refine spliced_more ?_
  refine List_ ?_
  refine spliced_more ?_
  refine ev_int S ?_
  intro s₁ t₁ S
  refine spliced_more ?_
  refine ev_int S ?_
  intro s₁ t₂ S
  refine spliced_none ?_
  refine nl_ints (ns := [127, 5]) S (.cons _ _ (.cons _ _ .nil)) (by walk_at "sz") ?_
  intro q3 s₁ S
  refine spliced_more ?_
  refine List_ ?_
  refine spliced_none ?_
  refine nl_ints (ns := []) S .nil (by walk_at "sz") ?_
  intro q4 s₁ S
  refine spliced_none ?_
  refine nl_dat (xs := [ilist [0], ilist [0, 5], ilist [127], ilist [127, 5], ilist []]) S (by walk_at "sz") (.cons (S.nw (by walk_at "mem")) (.cons (S.nw (by walk_at "mem")) (.cons (S.nw (by walk_at "mem")) (.cons (S.nw (by walk_at "mem")) (.cons (S.nw (by walk_at "mem")) .nil))))) ?_
  intro q5 s₁ S
  refine ev_loc S rfl ?_
  obtain ⟨rest, hrk, hrest, hr0, hrl⟩ : ∃ rest, ([ilist [0], ilist [0, 5], ilist [127], ilist [127, 5], ilist []] : List PyData)[kd.toNat]? = some (ilist rest) ∧ (rest = [] ∨ rest.head? = some 0 ∨ rest.head? = some 127) ∧ (rest.head? = some 0 ↔ kd ≤ 1) ∧ rest.length ≤ 5 := by
    have : kd = 0 ∨ kd = 1 ∨ kd = 2 ∨ kd = 3 ∨ kd = 4 := by omega
    rcases this with rfl | rfl | rfl | rfl | rfl
    · exact ⟨[0], rfl, by decide, by decide, by decide⟩
    · exact ⟨[0, 5], rfl, by decide, by decide, by decide⟩
    · exact ⟨[127], rfl, by decide, by decide, by decide⟩
    · exact ⟨[127, 5], rfl, by decide, by decide, by decide⟩
    · exact ⟨[], rfl, by decide, by decide, by decide⟩
  refine tl_dat (xs := [ilist [0], ilist [0, 5], ilist [127], ilist [127, 5], ilist []]) (k := kd.toNat) (d := ilist rest) S (by walk_at "has") (by omega) hrk (by walk_at "sz") ?_
  intro vrest S
  obtain ⟨lrest, _, _, rfl, _⟩ := (S.data (v := vrest) (d := ilist rest) (by walk_at "has")).inv
  obtain ⟨v1, n1, e1, i1, len1, _⟩ := S.ints (a := lz) (ns := [a, b, c]) (by walk_at "has")
  obtain ⟨v2, n2, e2, i2, len2, _⟩ := S.ints (a := lrest) (ns := rest) (by walk_at "has")
  simp only [List.length_cons, List.length_nil] at len1
  refine op_addL (xs := ([a, b, c] ++ rest).map PyData.int) S (lst_isList e1) (lst_isList e2) (by walk_at "sz") (rdAll_of_ints (ints_app i1 i2)) ?_
  intro lrow s₁ S
  refine spliced_none ⟨(G.keeps S.keep).x _ _ rfl, ?_⟩
  refine c_ranks (pre := [a, b, c]) (rest := rest) (G.keeps S.keep) (by omega) hA1 (S.sameG ▸ hab) (S.data (by walk_at "has")) ?_ (by simp) hrest ?_
  · intro x hx
    simp only [List.mem_cons, List.not_mem_nil, or_false] at hx
    omega
  intro s₂ vr k hk41 hend hprev hbare hnew
  have S := (S.gens s₂.gens).newD hnew
  have hrsl := gblk_small (a := a) (b := b) (c := c) (rest := rest) ha7 hb7 hc7 hprev
  have hR : ∀ p, 0 ≤ p → p < 41 → rkI a b c p kd = (gblk [a, b, c] rest k ++ List.replicate 41 ((k : Int) + 1)).getD p.toNat 0 := fun p h0 h1 => (ranks_get ha0 hb0 hc0 ha7 hb7 hc7 hr0 hk41 hend hprev h0 h1).symm
  have hrs1 : 41 ≤ (gblk [a, b, c] rest k ++ List.replicate 41 ((k : Int) + 1)).length := by simp
  have hrs2 : (gblk [a, b, c] rest k ++ List.replicate 41 ((k : Int) + 1)).length ≤ 1000 := by simp; omega
  generalize hrs : gblk [a, b, c] rest k ++ List.replicate 41 ((k : Int) + 1) = rs at S hR hrs1 hrs2
  obtain ⟨lrs, _, _, rfl, _⟩ := (S.data (v := vr) (d := ilist rs) (by walk_at "has")).inv
  refine st_cel S ?_
  intro s₁ S
  have S := S.sub (fs' := [.nw vt tr.enc, .nw (.ref lrs) (ilist rs)]) (by repeat (first | exact List.forall_mem_nil _ | refine List.forall_mem_cons.mpr ⟨by walk_at "mem", ?_⟩))
  refine hn106 _ ?_
  have hbs : AllBare s₂.gens := hbare
  -- the first reading
  have htx : wr (fun p => rkI a b c p kd) tr = wr (fun p => rs.getD p.toNat 0) tr := wr_congr hR hin
  rw [htx] at S
  have hsame := plain_same (R := fun p => rs.getD p.toNat 0) hin (by omega)
  obtain ⟨others, hwo, hoth⟩ := plain_other (R := fun p => rs.getD p.toNat 0) hin (by omega)
  generalize hx : wr (fun p => rs.getD p.toNat 0) tr = x at S hsame hwo
  refine ec ?_
  intro Qi hni _
  refine wpAny_If (wpAny_isTrue_Compare1 ?_)
  refine ev_callF (K := KK w) S G rfl rfl rfl ?_
  refine spliced_more ?_
  refine ev_loc S rfl ?_
  refine spliced_more ?_
  refine ev_cel S rfl ?_
  refine spliced_none ⟨(G.keeps S.keep).x _ _ rfl, ?_⟩
  obtain ⟨pr, hsy, hpo, hrun⟩ := hsame.rd
  refine c_read (rs := rs) (G.keeps S.keep) (by omega) hA1 (by omega) hsame.len hsame.asc hsy hpo (S.data (by walk_at "has")) hrs1 hrs2 hrun ?_
  intro s₁ vread hnew
  have S := S.newD hnew
  refine List_ ?_
  refine spliced_more ?_
  refine ev_cel S rfl ?_
  refine spliced_none ?_
  refine nl_dat (xs := [tr.enc]) S (by walk_at "sz") (.cons (S.nw (by walk_at "mem")) .nil) ?_
  intro q6 s₁ S
  refine op_neL (x := .list ([tr].reverse.map T.enc)) (y := .list [tr.enc]) S (by walk_at "has") (by walk_at "has") (T.shaped1 tr (by omega)) (T.shaped1 tr (by omega)) (by omega) ?_
  have heq : PyData.eqv (.list ([tr].reverse.map T.enc)) (.list [tr.enc]) = true := by
    have := T.eqv_list [tr] [tr]
    simpa [PyData.eqv] using this
  rw [heq]
  refine wpAny_truthy_bool ?_
  rw [show (!true) = false from rfl, if_neg Bool.false_ne_true]
  refine wpAny_execs_nil ?_
  refine hni _ ?_
  have S := S.sub (fs' := [.nw vt tr.enc, .nw (.ref lrs) (ilist rs)]) (by repeat (first | exact List.forall_mem_nil _ | refine List.forall_mem_cons.mpr ⟨by walk_at "mem", ?_⟩))
  -- the others
  refine wpAny_execs_cons (wpAny_Return_some (wpAny_Compare1 ?_))
  refine ev_comp (own := true) (s₀ := { s with gens := s₂.gens }) (cl := [(Str.ofString "tree", s.heap.objs.size + 2), (Str.ofString "ranks", s.heap.objs.size + 3)]) (fun _ => false) (fun _ _ => True) ?_ ?hcl ?hclos ?hcell ?hkind ?hnames ?hx
  case hclos => with_unfolding_all rfl
  case hcell => decide
  case hkind => rfl
  case hnames => decide
  case hx => rfl
  case hcl =>
    intro n c e
    rw [List.lookup_cons] at e
    split at e
    · rename_i hb; rw [beq_iff_eq.mp hb]; cases e; rfl
    · rw [List.lookup_cons] at e
      split at e
      · rename_i hb; rw [beq_iff_eq.mp hb]; cases e; rfl
      · cases e
  refine ev_callF (K := KK w) S G rfl rfl rfl ?_
  refine spliced_more ?_
  refine ev_loc S rfl ?_
  refine spliced_none ⟨(G.keeps S.keep).x _ _ rfl, ?_⟩
  refine c_without (G.keeps S.keep) (by omega) hA1 hsame.len hwo ?_
  intro s₁ vo hnew
  have S := S.newD hnew
  have hol := wo_len hwo
  have hxl := hsame.len
  obtain ⟨lo, _, _, rfl, _⟩ := (S.data (v := vo) (d := slist others) (by walk_at "has")).inv
  obtain ⟨vss, nss, hes, hrds, hXs, hit⟩ := iter_dat (prog := prog) (w := w) hA1 S (l := lo) (xs := others.map fun x => PyData.str (tx x)) (by walk_at "has")
  rw [List.length_map] at hit
  refine ⟨_, _, _, _, _, _, _, S, hit, by walk_at "sz", ?_, ⟨?_, ?_⟩, ?_⟩
  · intro b hb; rw [List.mem_singleton.mp hb]; exact ⟨_, hes⟩
  · intro C i v s₃ m₃ E' hP hm hk3 S3
    obtain ⟨d, hd, rv⟩ := hrds.get' i v hP
    rw [List.getElem?_map] at hd
    obtain ⟨y, hy, rfl⟩ := Option.map_eq_some_iff.mp hd
    obtain ⟨ty, rfl⟩ := rv.strInv
    obtain ⟨t', hrd', hne', hsz'⟩ := hoth y (List.mem_of_getElem? hy)
    have G3 : Gl (KK w) s₃.heap := (G.keeps S.keep).keeps hk3
    refine tests_one (wpAny_isTrue_Compare1 ?_)
    refine ev_callF (K := KK w) S3 G3 rfl rfl rfl ?_
    refine spliced_more ?_
    refine ev_loc S3 hm ?_
    refine spliced_more ?_
    refine ev_cel S3 rfl ?_
    refine spliced_none ⟨G3.x _ _ rfl, ?_⟩
    obtain ⟨pr', hsy', hpo', hrun'⟩ := hrd'.rd
    refine c_read (rs := rs) G3 (by omega) hA1 (by omega) hrd'.len hrd'.asc hsy' hpo' (S3.data (by walk_at "has")) hrs1 hrs2 hrun' ?_
    intro s₄ vread' hnew'
    have S3 := S3.newD hnew'
    refine List_ ?_
    refine spliced_more ?_
    refine ev_cel S3 rfl ?_
    refine spliced_none ?_
    refine nl_rd (xs := [tr.enc]) S3 (by walk_at "sz") (.cons (S3.data (by walk_at "has")) .nil) ?_
    intro q7 s₅ S3
    refine op_eqL (x := .list ([t'].reverse.map T.enc)) (y := .list [tr.enc]) S3 (by walk_at "has") (by walk_at "has") (T.shaped1 t' (by omega)) (T.shaped1 tr (by omega)) (by omega) ?_
    have heq' : PyData.eqv (.list ([t'].reverse.map T.enc)) (.list [tr.enc]) = false := by
      have := T.eqv_list [t'] [tr]
      simpa [PyData.eqv, hne'] using this
    rw [heq']
    exact wpAny_truthy_bool ⟨rfl, S3.done⟩
  · intro C i v s₃ m₃ E' hP hf
    cases hf
  intro D s₁ ys vs hD S' hl hlen hPs hF hk
  have hys : ys = [] := by
    have hf : vs.filter (fun _ => false) = [] := List.filter_eq_nil_iff.mpr fun _ _ h => by cases h
    rw [hf] at hF
    cases hF; rfl
  subst hys
  have S := S.made S' hD hl (xs := []) fun _ _ => .nil
  refine List_ ?_
  refine spliced_none ?_
  refine nl_nil S ?_
  intro q8 s₁ S
  refine op_eqL (x := .list []) (y := .list []) S (by walk_at "has") (by walk_at "has") rfl rfl (by omega) ?_
  have hsg : s₁.gens = s₂.gens := S.sameG
  refine h s₁ (hsg ▸ hbs) ?_
  rw [hsg]
  exact S.done
end
end

section
open PySem PySem.Spec PySem.Calls PyProof.Rows PySem.W

theorem rd_script {h : Heap} {P : Params} {l : Addr} {vs : List Value} {ns : List Int} (hl : h.IsList l vs.toArray) (hw : Well P h (.ref l) (ofPy (PyData.list (ns.map PyData.int)))) (hi : IntsAre vs ns) :
    Rd h (fun _ => True) (.ref l) (ilist ns) := by
  have hw' : Well P h (.ref l) (.list (ofPys (ns.map PyData.int))) := hw
  obtain ⟨o, e, _, n, hd⟩ := hl
  cases hw' with
  | list e2 _ =>
    rw [e] at e2
    cases e2
    cases hd
    exact .list trivial e (rdAll_of_ints hi)
theorem gl_top {w : World} {p : Program} {loose : List Str} {mean : ExcName → Option Value} {mg mb : Str → Option Value} {h : Heap} (X : (KK w).In h) (T : PyProof.Rows.Top p loose mean mg mb h) : Gl (KK w) h :=
  ⟨X, ⟨_, T.g⟩, ⟨_, T.b, T.builtins⟩, T.nolimit⟩
theorem law_88 {w : World} {p : Program} {loose : List Str} {mean : ExcName → Option Value} {mg mb : Str → Option Value} {h : Heap} {fa : Addr} (X : (KK w).In h) (T : PyProof.Rows.Top p loose mean mg mb h) (e : mg (Str.ofString "law") = some (.ref fa)) : fa = 88 := by
  have e2 : mg (Str.ofString "law") = some (.ref 88) := mg_of X T.g rfl
  rw [e] at e2
  cases e2; rfl
theorem oldK_keeps {s s' : Shared} {g : Array GenState} (k : Keeps { s with gens := g } s') : OldK s.heap s'.heap := by
  obtain ⟨h', tk, rfl, hk⟩ := k
  exact .of_keep hk
theorem os_keeps {s s' : Shared} {g : Array GenState} (k : Keeps { s with gens := g } s') : s'.os = s.os := by
  obtain ⟨h', tk, rfl, hk⟩ := k
  rfl

set_option maxHeartbeats 8000000 in
theorem fin0 : row0.Holds := by
  w_on
  o_law
  o_head (kHook heap0 [2, 3, 6, 15, 17, 18, 20, 21, 22, 25, 27, 28, 30, 31, 32, 34, 35, 37, 38, 39, 42, 43, 44, 46, 47, 49, 50, 51, 53, 54, 56, 57, 58, 60, 61, 63, 64, 65, 67, 68, 70, 71, 72, 75, 76, 77, 79, 80, 82, 83, 84, 87, 88] (fun _ => by kernel_rfl))
  case hw => w_witness2
  k_fill
  intro w s₀ s₁ mg mb G Y fa o pm cd doc dV kV ho hd hcd hD hmg hg args vals as hpre hlay hrd hwl hlo
  have KX := kIn_of Y
  clear hd hcd hD
  have hmg : mg (Str.ofString "law") = some (.ref fa) := hmg
  refine Ground.open G ?_
  intro T B D TE TW
  try (refine guard_noD D (by decide +kernel) ?_; clear D)
  wrow_args hpre hlay hrd hwl hlo
  rename_i hmg0 ns _ _ _ _ _ _ _ l vs _ hL _ hW _ hI _ hlen _
  clear hmg0
  have hfa := law_88 (w := w) KX T hmg
  subst hfa
  refine c_law (ns := ns) (gl_top KX T) (by decide +kernel) rfl (by decide +kernel) (.of_eq hg) (rd_script hL hW hI) (by omega) ?_
  intro s' hb hk
  exact ⟨.inl ⟨_, _, [], rfl, fun _ => rfl, ReadsW.bool true, by wrow_post, fun _ => ⟨List.nodup_nil, fun _ hm => nomatch hm⟩⟩, oldK_keeps hk, os_keeps hk, hb⟩
theorem fin : PySem.Challenge.rw_pg0123_01.Holds := row0_eq ▸ fin0
end

end Mine

theorem PySem.Challenge.cw_pg0123_01_holds : PySem.Challenge.rw_pg0123_01.Holds :=
  Mine.fin
