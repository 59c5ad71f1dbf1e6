import PyProof.Rows.All
import Wide.All
import OpenK.AllK
import Wide.FinOn
import Lean
import PySem.Challenge.RW_tr0056_01
set_option maxRecDepth 100000
set_option Elab.async false
set_option linter.unusedVariables false

namespace Mine
open PySem PySem.W PySem.Calls PyProof.Rows

/-! the program's parts by their places -/
noncomputable abbrev pw : Program := PySem.Challenge.pw_tr0056_01
noncomputable def nthS : List Stmt → Nat → Stmt
  | [], _ => default
  | s :: _, 0 => s
  | _ :: r, n + 1 => nthS r n
noncomputable def stAt (i : Nat) : Stmt := nthS pw.main.body i
noncomputable def clsBody : Stmt → List Stmt
  | .ClassDef _ _ _ b _ _ _ _ _ _ _ => b
  | _ => []
noncomputable def stIn (i j : Nat) : Stmt := nthS (clsBody (stAt i)) j
noncomputable def defP : Stmt → Arguments
  | .FunctionDef _ a _ _ _ _ _ _ _ _ => a
  | _ => default
noncomputable def defB : Stmt → List Stmt
  | .FunctionDef _ _ b _ _ _ _ _ _ _ => b
  | _ => []
noncomputable def defS : Stmt → Scope
  | .FunctionDef _ _ _ _ _ _ s _ _ _ => s
  | _ => default

/-! the long table: its pairs, as the text has them; its entries, as the run lays them -/
noncomputable def pairs1 : List (Option Expr) → List Expr → List (Int × Str)
  | some (.Constant (.int k) _ _) :: r, .Constant (.str x) _ _ :: q => (k, x) :: pairs1 r q
  | _, _ => []
noncomputable def pairsOf : Stmt → List (Int × Str)
  | .Assign _ (.Dict ks vs _) _ => pairs1 ks vs
  | _ => []
noncomputable def b3Pairs : List (Int × Str) := pairsOf (stAt 11)
noncomputable def ent3 : Nat → List (Int × Str) → List DictEntry
  | _, [] => []
  | t, (k, x) :: r => ⟨k, .int k t, .str x (t + 1)⟩ :: ent3 (t + 3) r
noncomputable def ent2 : Nat → List (Int × Str) → List DictEntry
  | _, [] => []
  | t, (k, x) :: r => ⟨k, .int k t, .str x (t + 1)⟩ :: ent2 (t + 2) r
noncomputable def dOb (es : List DictEntry) : Obj := ⟨.type "dict", none, .dict es.toArray es.length, #[]⟩
/-- the parts of a long table: each seventeen pairs -/
noncomputable def subs : Nat → Nat → List (Int × Str) → List Obj
  | 0, _, _ => []
  | c + 1, t, L => dOb (ent3 t (L.take 17)) :: subs c (t + 51) (L.drop 17)
noncomputable def bL0 : List (Int × Str) := b3Pairs.take 17
noncomputable def bL : List (Int × Str) := (b3Pairs.drop 17).take 629
noncomputable def bR : List (Int × Str) := b3Pairs.drop 646
noncomputable def b3M : List DictEntry := ent3 390 bL0 ++ ent3 441 bL ++ ent2 2328 bR
noncomputable def b3S : List Obj := subs 37 441 bL ++ [dOb (ent2 2328 bR)]
@[reducible] noncomputable def b3Sub (j : Nat) (_ : Params) : Obj := b3S.getD (j - 1) default
@[reducible] noncomputable def b3Main (_ : Params) : Obj := dOb b3M

/-! the heap's objects -/
@[reducible] noncomputable def o1 (P : Params) : Obj := ⟨(.type "dict"), none, (.dict (List.toArray [⟨PyData.keyHash P (Str.ofString "builtins"), (.str (Str.ofString "builtins") 162), (.ref 4)⟩, ⟨PyData.keyHash P (Str.ofString "__main__"), (.str (Str.ofString "__main__") 163), (.ref 5)⟩]) 2), #[]⟩
@[reducible] noncomputable def o2 (P : Params) : Obj := ⟨.none, none, (.dict (List.toArray []) 0), #[]⟩
@[reducible] noncomputable def o3 (P : Params) : Obj := ⟨(.type "dict"), none, (.dict (List.toArray [⟨PyData.keyHash P (Str.ofString "__name__"), (.str (Str.ofString "__name__") 165), (.str (Str.ofString "__main__") 164)⟩, ⟨PyData.keyHash P (Str.ofString "__doc__"), (.str (Str.ofString "__doc__") 166), .none⟩, ⟨PyData.keyHash P (Str.ofString "__package__"), (.str (Str.ofString "__package__") 167), .none⟩, ⟨PyData.keyHash P (Str.ofString "__loader__"), (.str (Str.ofString "__loader__") 168), (.builtin "__main__.__loader__#opaque")⟩, ⟨PyData.keyHash P (Str.ofString "__spec__"), (.str (Str.ofString "__spec__") 169), .none⟩, ⟨PyData.keyHash P (Str.ofString "__annotations__"), (.str (Str.ofString "__annotations__") 170), (.ref 6)⟩, ⟨PyData.keyHash P (Str.ofString "__builtins__"), (.str (Str.ofString "__builtins__") 171), (.ref 4)⟩, ⟨PyData.keyHash P (Str.ofString "__file__"), (.str (Str.ofString "__file__") 173), (.str (Str.ofString "/claim/cut.py") 172)⟩, ⟨PyData.keyHash P (Str.ofString "__cached__"), (.str (Str.ofString "__cached__") 174), .none⟩]) 9), #[]⟩
@[reducible] noncomputable def o4 (P : Params) : Obj := ⟨(.type "module"), (some 0), .plain, #[]⟩
@[reducible] noncomputable def o5 (P : Params) : Obj := ⟨(.type "module"), (some 3), .plain, #[]⟩
@[reducible] noncomputable def o6 (P : Params) : Obj := ⟨(.type "dict"), none, (.dict (List.toArray []) 0), #[]⟩
@[reducible] noncomputable def o7 (P : Params) : Obj := ⟨(.type "tuple"), none, (.seq #[] 0), #[]⟩
@[reducible] noncomputable def o8 (P : Params) : Obj := ⟨.none, none, (.fields #[]), #[]⟩
@[reducible] noncomputable def o9 (P : Params) : Obj := ⟨(.type "code"), none, (.fields #[(.str (Str.ofString "<module>") 176), (.str (Str.ofString "<module>") 177), (.str (Str.ofString "/claim/cut.py") 178), (.int 1 0), (.int 0 0), (.int 0 0), (.int 0 0), (.int 0 0), (.ref 7), (.bool false), (.int 175 0), (.ref 8), .none, .none, .none, .none, (.int 179 0), (.int 1 0), (.str (Str.ofString "/claim/cut.py") 180)]), #[]⟩
@[reducible] noncomputable def o10 (P : Params) : Obj := ⟨(.type "frame"), none, .plain, #[(some (.ref 9)), (some (.ref 3)), (some (.ref 3)), none, (some (.str (Str.ofString "__main__") 164)), none, (some (.ref 0))]⟩
@[reducible] noncomputable def o11 (P : Params) : Obj := ⟨(.type "tuple"), none, (.seq #[] 0), #[]⟩
@[reducible] noncomputable def o12 (P : Params) : Obj := ⟨.none, none, (.fields #[]), #[]⟩
@[reducible] noncomputable def o13 (P : Params) : Obj := ⟨(.type "code"), none, (.fields #[(.str (Str.ofString "<module>") 182), (.str (Str.ofString "<module>") 183), (.str (Str.ofString "/claim/cut.py") 184), (.int 1 0), (.int 0 0), (.int 0 0), (.int 0 0), (.int 0 0), (.ref 11), (.bool false), (.int 181 0), (.ref 12), .none, .none, .none, .none, (.int 185 0), (.int 1 0), (.str (Str.ofString "/claim/cut.py") 186)]), #[]⟩
@[reducible] noncomputable def o14 (P : Params) : Obj := ⟨(.type "frame"), none, .plain, #[(some (.ref 13)), (some (.ref 3)), (some (.ref 3)), none, (some (.str (Str.ofString "__main__") 164)), none, (some (.ref 0))]⟩
@[reducible] noncomputable def o2v1 (P : Params) : Obj := ⟨.none, none, (.dict (List.toArray [⟨PyData.keyHash P (Str.ofString "type.__subclasses__.Exception.0"), (.str (Str.ofString "type.__subclasses__.Exception.0") 212), (.int 31 0)⟩, ⟨PyData.keyHash P (Str.ofString "type.__subclasses__.Exception.n"), (.str (Str.ofString "type.__subclasses__.Exception.n") 213), (.int 1 0)⟩]) 2), #[]⟩
@[reducible] noncomputable def o3v1 (P : Params) : Obj := ⟨(.type "dict"), none, (.dict (List.toArray [⟨PyData.keyHash P (Str.ofString "__name__"), (.str (Str.ofString "__name__") 165), (.str (Str.ofString "cpy313.ftplib") 194)⟩, ⟨PyData.keyHash P (Str.ofString "__doc__"), (.str (Str.ofString "__doc__") 166), .none⟩, ⟨PyData.keyHash P (Str.ofString "__package__"), (.str (Str.ofString "__package__") 167), .none⟩, ⟨PyData.keyHash P (Str.ofString "__loader__"), (.str (Str.ofString "__loader__") 168), (.builtin "__main__.__loader__#opaque")⟩, ⟨PyData.keyHash P (Str.ofString "__spec__"), (.str (Str.ofString "__spec__") 169), .none⟩, ⟨PyData.keyHash P (Str.ofString "__annotations__"), (.str (Str.ofString "__annotations__") 170), (.ref 6)⟩, ⟨PyData.keyHash P (Str.ofString "__builtins__"), (.str (Str.ofString "__builtins__") 171), (.ref 4)⟩, ⟨PyData.keyHash P (Str.ofString "__file__"), (.str (Str.ofString "__file__") 173), (.str (Str.ofString "/claim/cut.py") 172)⟩, ⟨PyData.keyHash P (Str.ofString "__cached__"), (.str (Str.ofString "__cached__") 174), .none⟩, ⟨PyData.keyHash P (Str.ofString "_wall"), (.str (Str.ofString "_wall") 193), (.ref 21)⟩, ⟨PyData.keyHash P (Str.ofString "Error"), (.str (Str.ofString "Error") 215), (.ref 31)⟩]) 11), #[]⟩
@[reducible] noncomputable def o12v1 (P : Params) : Obj := ⟨.none, none, (.fields #[(.int 1 0), (.int 0 0), (.ref 20), (.int 5 0), (.int 0 0), (.ref 27)]), #[]⟩
@[reducible] noncomputable def o15 (P : Params) : Obj := ⟨(.type "tuple"), none, (.seq #[] 0), #[]⟩
@[reducible] noncomputable def o16 (P : Params) : Obj := ⟨.none, none, (.fields #[]), #[]⟩
@[reducible] noncomputable def o17 (P : Params) : Obj := ⟨(.type "tuple"), none, (.seq #[(.str (Str.ofString "k") 190)] 0), #[]⟩
@[reducible] noncomputable def o18 (P : Params) : Obj := ⟨(.type "tuple"), none, (.seq #[] 0), #[]⟩
@[reducible] noncomputable def o19 (P : Params) : Obj := ⟨.none, none, (.func { name := (Str.ofString "_wall"), qualname := (Str.ofString "_wall"), params := defP (stAt 0), body := .stmts (defB (stAt 0)), scope := defS (stAt 0), globals := 0, closure := [], defaults := .none, kwdefaults := .none, doc := .none, pyModule := .none, annotations := none, code := .none, closureTuple := .none, builtins := 0 }), #[]⟩
@[reducible] noncomputable def o20 (P : Params) : Obj := ⟨(.type "code"), none, (.fields #[(.str (Str.ofString "_wall") 187), (.str (Str.ofString "_wall") 188), (.str (Str.ofString "/claim/cut.py") 189), (.int 1 0), (.int 1 0), (.int 0 0), (.int 0 0), (.int 3 0), (.ref 15), (.bool true), (.int 181 0), (.ref 16), .none, (.ref 17), (.ref 18), (.ref 19), (.int 191 0), (.int 1 0), (.str (Str.ofString "/claim/cut.py") 192)]), #[]⟩
@[reducible] noncomputable def o21 (P : Params) : Obj := ⟨(.type "function"), none, (.func { name := (Str.ofString "_wall"), qualname := (Str.ofString "_wall"), params := defP (stAt 0), body := .stmts (defB (stAt 0)), scope := defS (stAt 0), globals := 3, closure := [], defaults := .none, kwdefaults := .none, doc := .none, pyModule := (.str (Str.ofString "__main__") 164), annotations := none, code := (.ref 20), closureTuple := .none, builtins := 0 }), #[]⟩
@[reducible] noncomputable def o22 (P : Params) : Obj := ⟨(.type "tuple"), none, (.seq #[(.type "Exception")] 0), #[]⟩
@[reducible] noncomputable def o23 (P : Params) : Obj := ⟨(.type "builtin_function_or_method"), none, (.fields #[(.builtin "type.__prepare__"), (.type "type")]), #[]⟩
@[reducible] noncomputable def o24 (P : Params) : Obj := ⟨(.type "dict"), none, (.dict (List.toArray [⟨PyData.keyHash P (Str.ofString "__module__"), (.str (Str.ofString "__module__") 203), (.str (Str.ofString "cpy313.ftplib") 194)⟩, ⟨PyData.keyHash P (Str.ofString "__qualname__"), (.str (Str.ofString "__qualname__") 205), (.str (Str.ofString "Error") 204)⟩, ⟨PyData.keyHash P (Str.ofString "__firstlineno__"), (.str (Str.ofString "__firstlineno__") 207), (.int 5 206)⟩, ⟨PyData.keyHash P (Str.ofString "__static_attributes__"), (.str (Str.ofString "__static_attributes__") 208), (.ref 29)⟩]) 4), #[]⟩
@[reducible] noncomputable def o25 (P : Params) : Obj := ⟨(.type "tuple"), none, (.seq #[] 0), #[]⟩
@[reducible] noncomputable def o26 (P : Params) : Obj := ⟨.none, none, (.fields #[]), #[]⟩
@[reducible] noncomputable def o27 (P : Params) : Obj := ⟨(.type "code"), none, (.fields #[(.str (Str.ofString "Error") 198), (.str (Str.ofString "Error") 199), (.str (Str.ofString "/claim/cut.py") 200), (.int 5 0), (.int 0 0), (.int 0 0), (.int 0 0), (.int 0 0), (.ref 25), (.bool false), (.int 181 0), (.ref 26), .none, .none, .none, .none, (.int 201 0), (.int 5 0), (.str (Str.ofString "/claim/cut.py") 202)]), #[]⟩
@[reducible] noncomputable def o28 (P : Params) : Obj := ⟨(.type "frame"), none, .plain, #[(some (.ref 27)), (some (.ref 3)), (some (.ref 24)), none, (some (.str (Str.ofString "cpy313.ftplib") 194)), none, (some (.ref 0))]⟩
@[reducible] noncomputable def o29 (P : Params) : Obj := ⟨(.type "tuple"), none, (.seq #[] 0), #[]⟩
@[reducible] noncomputable def o30 (P : Params) : Obj := ⟨(.type "dict"), none, (.dict (List.toArray [⟨PyData.keyHash P (Str.ofString "__module__"), (.str (Str.ofString "__module__") 203), (.str (Str.ofString "cpy313.ftplib") 194)⟩, ⟨PyData.keyHash P (Str.ofString "__firstlineno__"), (.str (Str.ofString "__firstlineno__") 207), (.int 5 206)⟩, ⟨PyData.keyHash P (Str.ofString "__static_attributes__"), (.str (Str.ofString "__static_attributes__") 208), (.ref 29)⟩, ⟨PyData.keyHash P (Str.ofString "__weakref__"), (.str (Str.ofString "__weakref__") 210), (.ref 32)⟩, ⟨PyData.keyHash P (Str.ofString "__doc__"), (.str (Str.ofString "__doc__") 211), .none⟩]) 3), #[]⟩
@[reducible] noncomputable def o31 (P : Params) : Obj := ⟨(.type "type"), none, (.cls { name := (Str.ofString "Error"), bases := [(.type "Exception")], mro := [(.ref 31), (.type "Exception"), (.type "BaseException"), (.type "object")], ns := 30, qualname := (Str.ofString "Error"), hasDict := true, slotNames := [], subclasses := [], abstract := false, collection := none, hasDel := false }), #[(some (.ref 22)), none, (some (.str (Str.ofString "Error") 196)), (some (.str (Str.ofString "Error") 204)), (some (.builtin "Exception.__new__")), (some (.bool true))]⟩
@[reducible] noncomputable def o32 (P : Params) : Obj := ⟨(.type "getset_descriptor"), none, (.fields #[(.str (Str.ofString "__weakref__") 209), (.ref 31), (.builtin "ExceptionGroup.__weakref__"), .none]), #[]⟩
@[reducible] noncomputable def o33 (P : Params) : Obj := ⟨(.type "super"), none, (.fields #[(.ref 31), (.ref 31), (.ref 31)]), #[]⟩
@[reducible] noncomputable def o34 (P : Params) : Obj := ⟨(.type "builtin_function_or_method"), none, (.fields #[(.builtin "object.__init_subclass__"), (.ref 31)]), #[]⟩
@[reducible] noncomputable def o3v2 (P : Params) : Obj := ⟨(.type "dict"), none, (.dict (List.toArray [⟨PyData.keyHash P (Str.ofString "__name__"), (.str (Str.ofString "__name__") 165), (.str (Str.ofString "cpy313.ftplib") 194)⟩, ⟨PyData.keyHash P (Str.ofString "__doc__"), (.str (Str.ofString "__doc__") 166), .none⟩, ⟨PyData.keyHash P (Str.ofString "__package__"), (.str (Str.ofString "__package__") 167), .none⟩, ⟨PyData.keyHash P (Str.ofString "__loader__"), (.str (Str.ofString "__loader__") 168), (.builtin "__main__.__loader__#opaque")⟩, ⟨PyData.keyHash P (Str.ofString "__spec__"), (.str (Str.ofString "__spec__") 169), .none⟩, ⟨PyData.keyHash P (Str.ofString "__annotations__"), (.str (Str.ofString "__annotations__") 170), (.ref 6)⟩, ⟨PyData.keyHash P (Str.ofString "__builtins__"), (.str (Str.ofString "__builtins__") 171), (.ref 4)⟩, ⟨PyData.keyHash P (Str.ofString "__file__"), (.str (Str.ofString "__file__") 173), (.str (Str.ofString "/claim/cut.py") 172)⟩, ⟨PyData.keyHash P (Str.ofString "__cached__"), (.str (Str.ofString "__cached__") 174), .none⟩, ⟨PyData.keyHash P (Str.ofString "_wall"), (.str (Str.ofString "_wall") 193), (.ref 21)⟩, ⟨PyData.keyHash P (Str.ofString "Error"), (.str (Str.ofString "Error") 215), (.ref 31)⟩, ⟨PyData.keyHash P (Str.ofString "error_reply"), (.str (Str.ofString "error_reply") 231), (.ref 44)⟩]) 12), #[]⟩
@[reducible] noncomputable def o12v2 (P : Params) : Obj := ⟨.none, none, (.fields #[(.int 1 0), (.int 0 0), (.ref 20), (.int 5 0), (.int 0 0), (.ref 27), (.int 7 0), (.int 0 0), (.ref 40)]), #[]⟩
@[reducible] noncomputable def o31v1 (P : Params) : Obj := ⟨(.type "type"), none, (.cls { name := (Str.ofString "Error"), bases := [(.type "Exception")], mro := [(.ref 31), (.type "Exception"), (.type "BaseException"), (.type "object")], ns := 30, qualname := (Str.ofString "Error"), hasDict := true, slotNames := [], subclasses := [(.ref 44)], abstract := false, collection := none, hasDel := false }), #[(some (.ref 22)), none, (some (.str (Str.ofString "Error") 196)), (some (.str (Str.ofString "Error") 204)), (some (.builtin "Exception.__new__")), (some (.bool true))]⟩
@[reducible] noncomputable def o35 (P : Params) : Obj := ⟨(.type "tuple"), none, (.seq #[(.ref 31)] 0), #[]⟩
@[reducible] noncomputable def o36 (P : Params) : Obj := ⟨(.type "builtin_function_or_method"), none, (.fields #[(.builtin "type.__prepare__"), (.type "type")]), #[]⟩
@[reducible] noncomputable def o37 (P : Params) : Obj := ⟨(.type "dict"), none, (.dict (List.toArray [⟨PyData.keyHash P (Str.ofString "__module__"), (.str (Str.ofString "__module__") 223), (.str (Str.ofString "cpy313.ftplib") 194)⟩, ⟨PyData.keyHash P (Str.ofString "__qualname__"), (.str (Str.ofString "__qualname__") 225), (.str (Str.ofString "error_reply") 224)⟩, ⟨PyData.keyHash P (Str.ofString "__firstlineno__"), (.str (Str.ofString "__firstlineno__") 227), (.int 7 226)⟩, ⟨PyData.keyHash P (Str.ofString "__static_attributes__"), (.str (Str.ofString "__static_attributes__") 228), (.ref 42)⟩]) 4), #[]⟩
@[reducible] noncomputable def o38 (P : Params) : Obj := ⟨(.type "tuple"), none, (.seq #[] 0), #[]⟩
@[reducible] noncomputable def o39 (P : Params) : Obj := ⟨.none, none, (.fields #[]), #[]⟩
@[reducible] noncomputable def o40 (P : Params) : Obj := ⟨(.type "code"), none, (.fields #[(.str (Str.ofString "error_reply") 218), (.str (Str.ofString "error_reply") 219), (.str (Str.ofString "/claim/cut.py") 220), (.int 7 0), (.int 0 0), (.int 0 0), (.int 0 0), (.int 0 0), (.ref 38), (.bool false), (.int 181 0), (.ref 39), .none, .none, .none, .none, (.int 221 0), (.int 7 0), (.str (Str.ofString "/claim/cut.py") 222)]), #[]⟩
@[reducible] noncomputable def o41 (P : Params) : Obj := ⟨(.type "frame"), none, .plain, #[(some (.ref 40)), (some (.ref 3)), (some (.ref 37)), none, (some (.str (Str.ofString "cpy313.ftplib") 194)), none, (some (.ref 0))]⟩
@[reducible] noncomputable def o42 (P : Params) : Obj := ⟨(.type "tuple"), none, (.seq #[] 0), #[]⟩
@[reducible] noncomputable def o43 (P : Params) : Obj := ⟨(.type "dict"), none, (.dict (List.toArray [⟨PyData.keyHash P (Str.ofString "__module__"), (.str (Str.ofString "__module__") 223), (.str (Str.ofString "cpy313.ftplib") 194)⟩, ⟨PyData.keyHash P (Str.ofString "__firstlineno__"), (.str (Str.ofString "__firstlineno__") 227), (.int 7 226)⟩, ⟨PyData.keyHash P (Str.ofString "__static_attributes__"), (.str (Str.ofString "__static_attributes__") 228), (.ref 42)⟩, ⟨PyData.keyHash P (Str.ofString "__doc__"), (.str (Str.ofString "__doc__") 229), .none⟩]) 2), #[]⟩
@[reducible] noncomputable def o44 (P : Params) : Obj := ⟨(.type "type"), none, (.cls { name := (Str.ofString "error_reply"), bases := [(.ref 31)], mro := [(.ref 44), (.ref 31), (.type "Exception"), (.type "BaseException"), (.type "object")], ns := 43, qualname := (Str.ofString "error_reply"), hasDict := true, slotNames := [], subclasses := [], abstract := false, collection := none, hasDel := false }), #[(some (.ref 35)), none, (some (.str (Str.ofString "error_reply") 216)), (some (.str (Str.ofString "error_reply") 224)), (some (.builtin "Exception.__new__")), (some (.bool true))]⟩
@[reducible] noncomputable def o45 (P : Params) : Obj := ⟨(.type "super"), none, (.fields #[(.ref 44), (.ref 44), (.ref 44)]), #[]⟩
@[reducible] noncomputable def o46 (P : Params) : Obj := ⟨(.type "builtin_function_or_method"), none, (.fields #[(.builtin "object.__init_subclass__"), (.ref 44)]), #[]⟩
@[reducible] noncomputable def o3v3 (P : Params) : Obj := ⟨(.type "dict"), none, (.dict (List.toArray [⟨PyData.keyHash P (Str.ofString "__name__"), (.str (Str.ofString "__name__") 165), (.str (Str.ofString "cpy313.netrc") 261)⟩, ⟨PyData.keyHash P (Str.ofString "__doc__"), (.str (Str.ofString "__doc__") 166), .none⟩, ⟨PyData.keyHash P (Str.ofString "__package__"), (.str (Str.ofString "__package__") 167), .none⟩, ⟨PyData.keyHash P (Str.ofString "__loader__"), (.str (Str.ofString "__loader__") 168), (.builtin "__main__.__loader__#opaque")⟩, ⟨PyData.keyHash P (Str.ofString "__spec__"), (.str (Str.ofString "__spec__") 169), .none⟩, ⟨PyData.keyHash P (Str.ofString "__annotations__"), (.str (Str.ofString "__annotations__") 170), (.ref 6)⟩, ⟨PyData.keyHash P (Str.ofString "__builtins__"), (.str (Str.ofString "__builtins__") 171), (.ref 4)⟩, ⟨PyData.keyHash P (Str.ofString "__file__"), (.str (Str.ofString "__file__") 173), (.str (Str.ofString "/claim/cut.py") 172)⟩, ⟨PyData.keyHash P (Str.ofString "__cached__"), (.str (Str.ofString "__cached__") 174), .none⟩, ⟨PyData.keyHash P (Str.ofString "_wall"), (.str (Str.ofString "_wall") 193), (.ref 21)⟩, ⟨PyData.keyHash P (Str.ofString "Error"), (.str (Str.ofString "Error") 215), (.ref 31)⟩, ⟨PyData.keyHash P (Str.ofString "error_reply"), (.str (Str.ofString "error_reply") 231), (.ref 44)⟩, ⟨PyData.keyHash P (Str.ofString "error_proto"), (.str (Str.ofString "error_proto") 247), (.ref 56)⟩, ⟨PyData.keyHash P (Str.ofString "parse229"), (.str (Str.ofString "parse229") 260), (.ref 65)⟩]) 14), #[]⟩
@[reducible] noncomputable def o12v3 (P : Params) : Obj := ⟨.none, none, (.fields #[(.int 1 0), (.int 0 0), (.ref 20), (.int 5 0), (.int 0 0), (.ref 27), (.int 7 0), (.int 0 0), (.ref 40), (.int 9 0), (.int 0 0), (.ref 52), (.int 11 0), (.int 0 0), (.ref 64)]), #[]⟩
@[reducible] noncomputable def o31v2 (P : Params) : Obj := ⟨(.type "type"), none, (.cls { name := (Str.ofString "Error"), bases := [(.type "Exception")], mro := [(.ref 31), (.type "Exception"), (.type "BaseException"), (.type "object")], ns := 30, qualname := (Str.ofString "Error"), hasDict := true, slotNames := [], subclasses := [(.ref 44), (.ref 56)], abstract := false, collection := none, hasDel := false }), #[(some (.ref 22)), none, (some (.str (Str.ofString "Error") 196)), (some (.str (Str.ofString "Error") 204)), (some (.builtin "Exception.__new__")), (some (.bool true))]⟩
@[reducible] noncomputable def o47 (P : Params) : Obj := ⟨(.type "tuple"), none, (.seq #[(.ref 31)] 0), #[]⟩
@[reducible] noncomputable def o48 (P : Params) : Obj := ⟨(.type "builtin_function_or_method"), none, (.fields #[(.builtin "type.__prepare__"), (.type "type")]), #[]⟩
@[reducible] noncomputable def o49 (P : Params) : Obj := ⟨(.type "dict"), none, (.dict (List.toArray [⟨PyData.keyHash P (Str.ofString "__module__"), (.str (Str.ofString "__module__") 239), (.str (Str.ofString "cpy313.ftplib") 194)⟩, ⟨PyData.keyHash P (Str.ofString "__qualname__"), (.str (Str.ofString "__qualname__") 241), (.str (Str.ofString "error_proto") 240)⟩, ⟨PyData.keyHash P (Str.ofString "__firstlineno__"), (.str (Str.ofString "__firstlineno__") 243), (.int 9 242)⟩, ⟨PyData.keyHash P (Str.ofString "__static_attributes__"), (.str (Str.ofString "__static_attributes__") 244), (.ref 54)⟩]) 4), #[]⟩
@[reducible] noncomputable def o50 (P : Params) : Obj := ⟨(.type "tuple"), none, (.seq #[] 0), #[]⟩
@[reducible] noncomputable def o51 (P : Params) : Obj := ⟨.none, none, (.fields #[]), #[]⟩
@[reducible] noncomputable def o52 (P : Params) : Obj := ⟨(.type "code"), none, (.fields #[(.str (Str.ofString "error_proto") 234), (.str (Str.ofString "error_proto") 235), (.str (Str.ofString "/claim/cut.py") 236), (.int 9 0), (.int 0 0), (.int 0 0), (.int 0 0), (.int 0 0), (.ref 50), (.bool false), (.int 181 0), (.ref 51), .none, .none, .none, .none, (.int 237 0), (.int 9 0), (.str (Str.ofString "/claim/cut.py") 238)]), #[]⟩
@[reducible] noncomputable def o53 (P : Params) : Obj := ⟨(.type "frame"), none, .plain, #[(some (.ref 52)), (some (.ref 3)), (some (.ref 49)), none, (some (.str (Str.ofString "cpy313.ftplib") 194)), none, (some (.ref 0))]⟩
@[reducible] noncomputable def o54 (P : Params) : Obj := ⟨(.type "tuple"), none, (.seq #[] 0), #[]⟩
@[reducible] noncomputable def o55 (P : Params) : Obj := ⟨(.type "dict"), none, (.dict (List.toArray [⟨PyData.keyHash P (Str.ofString "__module__"), (.str (Str.ofString "__module__") 239), (.str (Str.ofString "cpy313.ftplib") 194)⟩, ⟨PyData.keyHash P (Str.ofString "__firstlineno__"), (.str (Str.ofString "__firstlineno__") 243), (.int 9 242)⟩, ⟨PyData.keyHash P (Str.ofString "__static_attributes__"), (.str (Str.ofString "__static_attributes__") 244), (.ref 54)⟩, ⟨PyData.keyHash P (Str.ofString "__doc__"), (.str (Str.ofString "__doc__") 245), .none⟩]) 2), #[]⟩
@[reducible] noncomputable def o56 (P : Params) : Obj := ⟨(.type "type"), none, (.cls { name := (Str.ofString "error_proto"), bases := [(.ref 31)], mro := [(.ref 56), (.ref 31), (.type "Exception"), (.type "BaseException"), (.type "object")], ns := 55, qualname := (Str.ofString "error_proto"), hasDict := true, slotNames := [], subclasses := [], abstract := false, collection := none, hasDel := false }), #[(some (.ref 47)), none, (some (.str (Str.ofString "error_proto") 232)), (some (.str (Str.ofString "error_proto") 240)), (some (.builtin "Exception.__new__")), (some (.bool true))]⟩
@[reducible] noncomputable def o57 (P : Params) : Obj := ⟨(.type "super"), none, (.fields #[(.ref 56), (.ref 56), (.ref 56)]), #[]⟩
@[reducible] noncomputable def o58 (P : Params) : Obj := ⟨(.type "builtin_function_or_method"), none, (.fields #[(.builtin "object.__init_subclass__"), (.ref 56)]), #[]⟩
@[reducible] noncomputable def o59 (P : Params) : Obj := ⟨(.type "tuple"), none, (.seq #[] 0), #[]⟩
@[reducible] noncomputable def o60 (P : Params) : Obj := ⟨.none, none, (.fields #[]), #[]⟩
@[reducible] noncomputable def o61 (P : Params) : Obj := ⟨(.type "tuple"), none, (.seq #[(.str (Str.ofString "resp") 251), (.str (Str.ofString "peer") 252), (.str (Str.ofString "left") 253), (.str (Str.ofString "right") 254), (.str (Str.ofString "parts") 255), (.str (Str.ofString "host") 256), (.str (Str.ofString "port") 257)] 0), #[]⟩
@[reducible] noncomputable def o62 (P : Params) : Obj := ⟨(.type "tuple"), none, (.seq #[] 0), #[]⟩
@[reducible] noncomputable def o63 (P : Params) : Obj := ⟨.none, none, (.func { name := (Str.ofString "parse229"), qualname := (Str.ofString "parse229"), params := defP (stAt 5), body := .stmts (defB (stAt 5)), scope := defS (stAt 5), globals := 0, closure := [], defaults := .none, kwdefaults := .none, doc := .none, pyModule := .none, annotations := none, code := .none, closureTuple := .none, builtins := 0 }), #[]⟩
@[reducible] noncomputable def o64 (P : Params) : Obj := ⟨(.type "code"), none, (.fields #[(.str (Str.ofString "parse229") 248), (.str (Str.ofString "parse229") 249), (.str (Str.ofString "/claim/cut.py") 250), (.int 11 0), (.int 2 0), (.int 0 0), (.int 0 0), (.int 3 0), (.ref 59), (.bool true), (.int 181 0), (.ref 60), .none, (.ref 61), (.ref 62), (.ref 63), (.int 258 0), (.int 11 0), (.str (Str.ofString "/claim/cut.py") 259)]), #[]⟩
@[reducible] noncomputable def o65 (P : Params) : Obj := ⟨(.type "function"), none, (.func { name := (Str.ofString "parse229"), qualname := (Str.ofString "parse229"), params := defP (stAt 5), body := .stmts (defB (stAt 5)), scope := defS (stAt 5), globals := 3, closure := [], defaults := .none, kwdefaults := .none, doc := .none, pyModule := (.str (Str.ofString "cpy313.ftplib") 194), annotations := none, code := (.ref 64), closureTuple := .none, builtins := 0 }), #[]⟩
@[reducible] noncomputable def o3v4 (P : Params) : Obj := ⟨(.type "dict"), none, (.dict (List.toArray [⟨PyData.keyHash P (Str.ofString "__name__"), (.str (Str.ofString "__name__") 165), (.str (Str.ofString "cpy313.stringprep") 321)⟩, ⟨PyData.keyHash P (Str.ofString "__doc__"), (.str (Str.ofString "__doc__") 166), .none⟩, ⟨PyData.keyHash P (Str.ofString "__package__"), (.str (Str.ofString "__package__") 167), .none⟩, ⟨PyData.keyHash P (Str.ofString "__loader__"), (.str (Str.ofString "__loader__") 168), (.builtin "__main__.__loader__#opaque")⟩, ⟨PyData.keyHash P (Str.ofString "__spec__"), (.str (Str.ofString "__spec__") 169), .none⟩, ⟨PyData.keyHash P (Str.ofString "__annotations__"), (.str (Str.ofString "__annotations__") 170), (.ref 6)⟩, ⟨PyData.keyHash P (Str.ofString "__builtins__"), (.str (Str.ofString "__builtins__") 171), (.ref 4)⟩, ⟨PyData.keyHash P (Str.ofString "__file__"), (.str (Str.ofString "__file__") 173), (.str (Str.ofString "/claim/cut.py") 172)⟩, ⟨PyData.keyHash P (Str.ofString "__cached__"), (.str (Str.ofString "__cached__") 174), .none⟩, ⟨PyData.keyHash P (Str.ofString "_wall"), (.str (Str.ofString "_wall") 193), (.ref 21)⟩, ⟨PyData.keyHash P (Str.ofString "Error"), (.str (Str.ofString "Error") 215), (.ref 31)⟩, ⟨PyData.keyHash P (Str.ofString "error_reply"), (.str (Str.ofString "error_reply") 231), (.ref 44)⟩, ⟨PyData.keyHash P (Str.ofString "error_proto"), (.str (Str.ofString "error_proto") 247), (.ref 56)⟩, ⟨PyData.keyHash P (Str.ofString "parse229"), (.str (Str.ofString "parse229") 260), (.ref 65)⟩, ⟨PyData.keyHash P (Str.ofString "_netrclex"), (.str (Str.ofString "_netrclex") 320), (.ref 103)⟩]) 15), #[]⟩
@[reducible] noncomputable def o12v4 (P : Params) : Obj := ⟨.none, none, (.fields #[(.int 1 0), (.int 0 0), (.ref 20), (.int 5 0), (.int 0 0), (.ref 27), (.int 7 0), (.int 0 0), (.ref 40), (.int 9 0), (.int 0 0), (.ref 52), (.int 11 0), (.int 0 0), (.ref 64), (.int 29 0), (.int 0 0), (.ref 71)]), #[]⟩
@[reducible] noncomputable def o66 (P : Params) : Obj := ⟨(.type "tuple"), none, (.seq #[] 0), #[]⟩
@[reducible] noncomputable def o67 (P : Params) : Obj := ⟨(.type "builtin_function_or_method"), none, (.fields #[(.builtin "type.__prepare__"), (.type "type")]), #[]⟩
@[reducible] noncomputable def o68 (P : Params) : Obj := ⟨(.type "dict"), none, (.dict (List.toArray [⟨PyData.keyHash P (Str.ofString "__module__"), (.str (Str.ofString "__module__") 270), (.str (Str.ofString "cpy313.netrc") 261)⟩, ⟨PyData.keyHash P (Str.ofString "__qualname__"), (.str (Str.ofString "__qualname__") 272), (.str (Str.ofString "_netrclex") 271)⟩, ⟨PyData.keyHash P (Str.ofString "__firstlineno__"), (.str (Str.ofString "__firstlineno__") 274), (.int 29 273)⟩, ⟨PyData.keyHash P (Str.ofString "__init__"), (.str (Str.ofString "__init__") 282), (.ref 79)⟩, ⟨PyData.keyHash P (Str.ofString "_read_char"), (.str (Str.ofString "_read_char") 290), (.ref 86)⟩, ⟨PyData.keyHash P (Str.ofString "get_token"), (.str (Str.ofString "get_token") 300), (.ref 93)⟩, ⟨PyData.keyHash P (Str.ofString "push_token"), (.str (Str.ofString "push_token") 308), (.ref 100)⟩, ⟨PyData.keyHash P (Str.ofString "__static_attributes__"), (.str (Str.ofString "__static_attributes__") 313), (.ref 101)⟩]) 8), #[]⟩
@[reducible] noncomputable def o69 (P : Params) : Obj := ⟨(.type "tuple"), none, (.seq #[] 0), #[]⟩
@[reducible] noncomputable def o70 (P : Params) : Obj := ⟨.none, none, (.fields #[(.int 31 0), (.int 4 0), (.ref 78), (.int 37 0), (.int 4 0), (.ref 85), (.int 43 0), (.int 4 0), (.ref 92), (.int 70 0), (.int 4 0), (.ref 99)]), #[]⟩
@[reducible] noncomputable def o71 (P : Params) : Obj := ⟨(.type "code"), none, (.fields #[(.str (Str.ofString "_netrclex") 265), (.str (Str.ofString "_netrclex") 266), (.str (Str.ofString "/claim/cut.py") 267), (.int 29 0), (.int 0 0), (.int 0 0), (.int 0 0), (.int 0 0), (.ref 69), (.bool false), (.int 181 0), (.ref 70), .none, .none, .none, .none, (.int 268 0), (.int 29 0), (.str (Str.ofString "/claim/cut.py") 269)]), #[]⟩
@[reducible] noncomputable def o72 (P : Params) : Obj := ⟨(.type "frame"), none, .plain, #[(some (.ref 71)), (some (.ref 3)), (some (.ref 68)), none, (some (.str (Str.ofString "cpy313.netrc") 261)), none, (some (.ref 0))]⟩
@[reducible] noncomputable def o73 (P : Params) : Obj := ⟨(.type "tuple"), none, (.seq #[] 0), #[]⟩
@[reducible] noncomputable def o74 (P : Params) : Obj := ⟨.none, none, (.fields #[]), #[]⟩
@[reducible] noncomputable def o75 (P : Params) : Obj := ⟨(.type "tuple"), none, (.seq #[(.str (Str.ofString "self") 278), (.str (Str.ofString "fp") 279)] 0), #[]⟩
@[reducible] noncomputable def o76 (P : Params) : Obj := ⟨(.type "tuple"), none, (.seq #[] 0), #[]⟩
@[reducible] noncomputable def o77 (P : Params) : Obj := ⟨.none, none, (.func { name := (Str.ofString "__init__"), qualname := (Str.ofString "_netrclex.__init__"), params := defP (stIn 7 0), body := .stmts (defB (stIn 7 0)), scope := defS (stIn 7 0), globals := 0, closure := [], defaults := .none, kwdefaults := .none, doc := .none, pyModule := .none, annotations := none, code := .none, closureTuple := .none, builtins := 0 }), #[]⟩
@[reducible] noncomputable def o78 (P : Params) : Obj := ⟨(.type "code"), none, (.fields #[(.str (Str.ofString "__init__") 275), (.str (Str.ofString "_netrclex.__init__") 276), (.str (Str.ofString "/claim/cut.py") 277), (.int 31 0), (.int 2 0), (.int 0 0), (.int 0 0), (.int 3 0), (.ref 73), (.bool true), (.int 181 0), (.ref 74), .none, (.ref 75), (.ref 76), (.ref 77), (.int 280 0), (.int 31 0), (.str (Str.ofString "/claim/cut.py") 281)]), #[]⟩
@[reducible] noncomputable def o79 (P : Params) : Obj := ⟨(.type "function"), none, (.func { name := (Str.ofString "__init__"), qualname := (Str.ofString "_netrclex.__init__"), params := defP (stIn 7 0), body := .stmts (defB (stIn 7 0)), scope := defS (stIn 7 0), globals := 3, closure := [], defaults := .none, kwdefaults := .none, doc := .none, pyModule := (.str (Str.ofString "cpy313.netrc") 261), annotations := none, code := (.ref 78), closureTuple := .none, builtins := 0 }), #[]⟩
@[reducible] noncomputable def o80 (P : Params) : Obj := ⟨(.type "tuple"), none, (.seq #[] 0), #[]⟩
@[reducible] noncomputable def o81 (P : Params) : Obj := ⟨.none, none, (.fields #[]), #[]⟩
@[reducible] noncomputable def o82 (P : Params) : Obj := ⟨(.type "tuple"), none, (.seq #[(.str (Str.ofString "self") 286), (.str (Str.ofString "ch") 287)] 0), #[]⟩
@[reducible] noncomputable def o83 (P : Params) : Obj := ⟨(.type "tuple"), none, (.seq #[] 0), #[]⟩
@[reducible] noncomputable def o84 (P : Params) : Obj := ⟨.none, none, (.func { name := (Str.ofString "_read_char"), qualname := (Str.ofString "_netrclex._read_char"), params := defP (stIn 7 1), body := .stmts (defB (stIn 7 1)), scope := defS (stIn 7 1), globals := 0, closure := [], defaults := .none, kwdefaults := .none, doc := .none, pyModule := .none, annotations := none, code := .none, closureTuple := .none, builtins := 0 }), #[]⟩
@[reducible] noncomputable def o85 (P : Params) : Obj := ⟨(.type "code"), none, (.fields #[(.str (Str.ofString "_read_char") 283), (.str (Str.ofString "_netrclex._read_char") 284), (.str (Str.ofString "/claim/cut.py") 285), (.int 37 0), (.int 1 0), (.int 0 0), (.int 0 0), (.int 3 0), (.ref 80), (.bool true), (.int 181 0), (.ref 81), .none, (.ref 82), (.ref 83), (.ref 84), (.int 288 0), (.int 37 0), (.str (Str.ofString "/claim/cut.py") 289)]), #[]⟩
@[reducible] noncomputable def o86 (P : Params) : Obj := ⟨(.type "function"), none, (.func { name := (Str.ofString "_read_char"), qualname := (Str.ofString "_netrclex._read_char"), params := defP (stIn 7 1), body := .stmts (defB (stIn 7 1)), scope := defS (stIn 7 1), globals := 3, closure := [], defaults := .none, kwdefaults := .none, doc := .none, pyModule := (.str (Str.ofString "cpy313.netrc") 261), annotations := none, code := (.ref 85), closureTuple := .none, builtins := 0 }), #[]⟩
@[reducible] noncomputable def o87 (P : Params) : Obj := ⟨(.type "tuple"), none, (.seq #[] 0), #[]⟩
@[reducible] noncomputable def o88 (P : Params) : Obj := ⟨.none, none, (.fields #[]), #[]⟩
@[reducible] noncomputable def o89 (P : Params) : Obj := ⟨(.type "tuple"), none, (.seq #[(.str (Str.ofString "self") 294), (.str (Str.ofString "token") 295), (.str (Str.ofString "fiter") 296), (.str (Str.ofString "ch") 297)] 0), #[]⟩
@[reducible] noncomputable def o90 (P : Params) : Obj := ⟨(.type "tuple"), none, (.seq #[] 0), #[]⟩
@[reducible] noncomputable def o91 (P : Params) : Obj := ⟨.none, none, (.func { name := (Str.ofString "get_token"), qualname := (Str.ofString "_netrclex.get_token"), params := defP (stIn 7 2), body := .stmts (defB (stIn 7 2)), scope := defS (stIn 7 2), globals := 0, closure := [], defaults := .none, kwdefaults := .none, doc := .none, pyModule := .none, annotations := none, code := .none, closureTuple := .none, builtins := 0 }), #[]⟩
@[reducible] noncomputable def o92 (P : Params) : Obj := ⟨(.type "code"), none, (.fields #[(.str (Str.ofString "get_token") 291), (.str (Str.ofString "_netrclex.get_token") 292), (.str (Str.ofString "/claim/cut.py") 293), (.int 43 0), (.int 1 0), (.int 0 0), (.int 0 0), (.int 3 0), (.ref 87), (.bool true), (.int 181 0), (.ref 88), .none, (.ref 89), (.ref 90), (.ref 91), (.int 298 0), (.int 43 0), (.str (Str.ofString "/claim/cut.py") 299)]), #[]⟩
@[reducible] noncomputable def o93 (P : Params) : Obj := ⟨(.type "function"), none, (.func { name := (Str.ofString "get_token"), qualname := (Str.ofString "_netrclex.get_token"), params := defP (stIn 7 2), body := .stmts (defB (stIn 7 2)), scope := defS (stIn 7 2), globals := 3, closure := [], defaults := .none, kwdefaults := .none, doc := .none, pyModule := (.str (Str.ofString "cpy313.netrc") 261), annotations := none, code := (.ref 92), closureTuple := .none, builtins := 0 }), #[]⟩
@[reducible] noncomputable def o94 (P : Params) : Obj := ⟨(.type "tuple"), none, (.seq #[] 0), #[]⟩
@[reducible] noncomputable def o95 (P : Params) : Obj := ⟨.none, none, (.fields #[]), #[]⟩
@[reducible] noncomputable def o96 (P : Params) : Obj := ⟨(.type "tuple"), none, (.seq #[(.str (Str.ofString "self") 304), (.str (Str.ofString "token") 305)] 0), #[]⟩
@[reducible] noncomputable def o97 (P : Params) : Obj := ⟨(.type "tuple"), none, (.seq #[] 0), #[]⟩
@[reducible] noncomputable def o98 (P : Params) : Obj := ⟨.none, none, (.func { name := (Str.ofString "push_token"), qualname := (Str.ofString "_netrclex.push_token"), params := defP (stIn 7 3), body := .stmts (defB (stIn 7 3)), scope := defS (stIn 7 3), globals := 0, closure := [], defaults := .none, kwdefaults := .none, doc := .none, pyModule := .none, annotations := none, code := .none, closureTuple := .none, builtins := 0 }), #[]⟩
@[reducible] noncomputable def o99 (P : Params) : Obj := ⟨(.type "code"), none, (.fields #[(.str (Str.ofString "push_token") 301), (.str (Str.ofString "_netrclex.push_token") 302), (.str (Str.ofString "/claim/cut.py") 303), (.int 70 0), (.int 2 0), (.int 0 0), (.int 0 0), (.int 3 0), (.ref 94), (.bool true), (.int 181 0), (.ref 95), .none, (.ref 96), (.ref 97), (.ref 98), (.int 306 0), (.int 70 0), (.str (Str.ofString "/claim/cut.py") 307)]), #[]⟩
@[reducible] noncomputable def o100 (P : Params) : Obj := ⟨(.type "function"), none, (.func { name := (Str.ofString "push_token"), qualname := (Str.ofString "_netrclex.push_token"), params := defP (stIn 7 3), body := .stmts (defB (stIn 7 3)), scope := defS (stIn 7 3), globals := 3, closure := [], defaults := .none, kwdefaults := .none, doc := .none, pyModule := (.str (Str.ofString "cpy313.netrc") 261), annotations := none, code := (.ref 99), closureTuple := .none, builtins := 0 }), #[]⟩
@[reducible] noncomputable def o101 (P : Params) : Obj := ⟨(.type "tuple"), none, (.seq #[(.str (Str.ofString "instream") 309), (.str (Str.ofString "lineno") 310), (.str (Str.ofString "pushback") 311), (.str (Str.ofString "whitespace") 312)] 0), #[]⟩
@[reducible] noncomputable def o102 (P : Params) : Obj := ⟨(.type "dict"), none, (.dict (List.toArray [⟨PyData.keyHash P (Str.ofString "__module__"), (.str (Str.ofString "__module__") 270), (.str (Str.ofString "cpy313.netrc") 261)⟩, ⟨PyData.keyHash P (Str.ofString "__firstlineno__"), (.str (Str.ofString "__firstlineno__") 274), (.int 29 273)⟩, ⟨PyData.keyHash P (Str.ofString "__init__"), (.str (Str.ofString "__init__") 282), (.ref 79)⟩, ⟨PyData.keyHash P (Str.ofString "_read_char"), (.str (Str.ofString "_read_char") 290), (.ref 86)⟩, ⟨PyData.keyHash P (Str.ofString "get_token"), (.str (Str.ofString "get_token") 300), (.ref 93)⟩, ⟨PyData.keyHash P (Str.ofString "push_token"), (.str (Str.ofString "push_token") 308), (.ref 100)⟩, ⟨PyData.keyHash P (Str.ofString "__static_attributes__"), (.str (Str.ofString "__static_attributes__") 313), (.ref 101)⟩, ⟨PyData.keyHash P (Str.ofString "__dict__"), (.str (Str.ofString "__dict__") 315), (.ref 104)⟩, ⟨PyData.keyHash P (Str.ofString "__weakref__"), (.str (Str.ofString "__weakref__") 317), (.ref 105)⟩, ⟨PyData.keyHash P (Str.ofString "__doc__"), (.str (Str.ofString "__doc__") 318), .none⟩]) 4), #[]⟩
@[reducible] noncomputable def o103 (P : Params) : Obj := ⟨(.type "type"), none, (.cls { name := (Str.ofString "_netrclex"), bases := [(.type "object")], mro := [(.ref 103), (.type "object")], ns := 102, qualname := (Str.ofString "_netrclex"), hasDict := true, slotNames := [], subclasses := [], abstract := false, collection := none, hasDel := false }), #[none, none, (some (.str (Str.ofString "_netrclex") 263)), (some (.str (Str.ofString "_netrclex") 271)), (some (.builtin "object.__new__")), (some (.bool true))]⟩
@[reducible] noncomputable def o104 (P : Params) : Obj := ⟨(.type "getset_descriptor"), none, (.fields #[(.str (Str.ofString "__dict__") 314), (.ref 103), (.builtin "function.__dict__"), (.builtin "function.__dict__#set")]), #[]⟩
@[reducible] noncomputable def o105 (P : Params) : Obj := ⟨(.type "getset_descriptor"), none, (.fields #[(.str (Str.ofString "__weakref__") 316), (.ref 103), (.builtin "ExceptionGroup.__weakref__"), .none]), #[]⟩
@[reducible] noncomputable def o106 (P : Params) : Obj := ⟨(.type "super"), none, (.fields #[(.ref 103), (.ref 103), (.ref 103)]), #[]⟩
@[reducible] noncomputable def o107 (P : Params) : Obj := ⟨(.type "builtin_function_or_method"), none, (.fields #[(.builtin "object.__init_subclass__"), (.ref 103)]), #[]⟩
@[reducible] noncomputable def o3v5 (P : Params) : Obj := ⟨(.type "dict"), none, (.dict (List.toArray [⟨PyData.keyHash P (Str.ofString "__name__"), (.str (Str.ofString "__name__") 165), (.str (Str.ofString "cpy313.stringprep") 321)⟩, ⟨PyData.keyHash P (Str.ofString "__doc__"), (.str (Str.ofString "__doc__") 166), .none⟩, ⟨PyData.keyHash P (Str.ofString "__package__"), (.str (Str.ofString "__package__") 167), .none⟩, ⟨PyData.keyHash P (Str.ofString "__loader__"), (.str (Str.ofString "__loader__") 168), (.builtin "__main__.__loader__#opaque")⟩, ⟨PyData.keyHash P (Str.ofString "__spec__"), (.str (Str.ofString "__spec__") 169), .none⟩, ⟨PyData.keyHash P (Str.ofString "__annotations__"), (.str (Str.ofString "__annotations__") 170), (.ref 6)⟩, ⟨PyData.keyHash P (Str.ofString "__builtins__"), (.str (Str.ofString "__builtins__") 171), (.ref 4)⟩, ⟨PyData.keyHash P (Str.ofString "__file__"), (.str (Str.ofString "__file__") 173), (.str (Str.ofString "/claim/cut.py") 172)⟩, ⟨PyData.keyHash P (Str.ofString "__cached__"), (.str (Str.ofString "__cached__") 174), .none⟩, ⟨PyData.keyHash P (Str.ofString "_wall"), (.str (Str.ofString "_wall") 193), (.ref 21)⟩, ⟨PyData.keyHash P (Str.ofString "Error"), (.str (Str.ofString "Error") 215), (.ref 31)⟩, ⟨PyData.keyHash P (Str.ofString "error_reply"), (.str (Str.ofString "error_reply") 231), (.ref 44)⟩, ⟨PyData.keyHash P (Str.ofString "error_proto"), (.str (Str.ofString "error_proto") 247), (.ref 56)⟩, ⟨PyData.keyHash P (Str.ofString "parse229"), (.str (Str.ofString "parse229") 260), (.ref 65)⟩, ⟨PyData.keyHash P (Str.ofString "_netrclex"), (.str (Str.ofString "_netrclex") 320), (.ref 103)⟩, ⟨PyData.keyHash P (Str.ofString "b1_set"), (.str (Str.ofString "b1_set") 382), (.ref 115)⟩]) 16), #[]⟩
@[reducible] noncomputable def o108 (P : Params) : Obj := ⟨(.type "list"), none, (.seq #[(.int 173 323), (.int 847 324), (.int 6150 325), (.int 6155 326), (.int 6156 327), (.int 6157 328), (.int 8203 329), (.int 8204 330), (.int 8205 331), (.int 8288 332), (.int 65279 333)] 0), #[]⟩
@[reducible] noncomputable def o109 (P : Params) : Obj := ⟨(.type "range"), none, (.fields #[(.int 65024 334), (.int 65040 335), (.int 1 336)]), #[]⟩
@[reducible] noncomputable def o110 (P : Params) : Obj := ⟨(.type "list"), none, (.seq #[(.int 65024 339), (.int 65025 340), (.int 65026 341), (.int 65027 342), (.int 65028 343), (.int 65029 344), (.int 65030 345), (.int 65031 346), (.int 65032 347), (.int 65033 348), (.int 65034 349), (.int 65035 350), (.int 65036 351), (.int 65037 352), (.int 65038 353), (.int 65039 354)] 18), #[]⟩
@[reducible] noncomputable def o111 (P : Params) : Obj := ⟨(.type "range_iterator"), none, (.fields #[(.int 65040 0), (.int 0 0), (.int 1 0)]), #[]⟩
@[reducible] noncomputable def o112 (P : Params) : Obj := ⟨(.type "tuple"), none, (.seq #[] 0), #[]⟩
@[reducible] noncomputable def o113 (P : Params) : Obj := ⟨(.type "StopIteration"), none, (.fields #[(.ref 112), .none, .none, .none, (.bool false), .none]), #[]⟩
@[reducible] noncomputable def o114 (P : Params) : Obj := ⟨(.type "list"), none, (.seq #[(.int 173 323), (.int 847 324), (.int 6150 325), (.int 6155 326), (.int 6156 327), (.int 6157 328), (.int 8203 329), (.int 8204 330), (.int 8205 331), (.int 8288 332), (.int 65279 333), (.int 65024 339), (.int 65025 340), (.int 65026 341), (.int 65027 342), (.int 65028 343), (.int 65029 344), (.int 65030 345), (.int 65031 346), (.int 65032 347), (.int 65033 348), (.int 65034 349), (.int 65035 350), (.int 65036 351), (.int 65037 352), (.int 65038 353), (.int 65039 354)] 0), #[]⟩
@[reducible] noncomputable def o115 (P : Params) : Obj := ⟨(.type "set"), none, (.set #[(65024, (.int 65024 339)), (65025, (.int 65025 340)), (65026, (.int 65026 341)), (65027, (.int 65027 342)), (65028, (.int 65028 343)), (65029, (.int 65029 344)), (6150, (.int 6150 325)), (65030, (.int 65030 345)), (65031, (.int 65031 346)), (65032, (.int 65032 347)), (65033, (.int 65033 348)), (6155, (.int 6155 326)), (6156, (.int 6156 327)), (6157, (.int 6157 328)), (8203, (.int 8203 329)), (8204, (.int 8204 330)), (8205, (.int 8205 331)), (65034, (.int 65034 349)), (65035, (.int 65035 350)), (65036, (.int 65036 351)), (65037, (.int 65037 352)), (65038, (.int 65038 353)), (65039, (.int 65039 354)), (173, (.int 173 323)), (847, (.int 847 324)), (8288, (.int 8288 332)), (65279, (.int 65279 333))] 29 { mask := 127, place := #[0, 1, 2, 3, 4, 5, 6, 7, 8, 9, 10, 11, 12, 13, 14, 15, 16, 17, 18, 19, 20, 21, 22, 45, 79, 96, 127], dummies := #[], finger := 0, led := !(P.followText "set-order"), moves := 2, plain := true }), #[]⟩
@[reducible] noncomputable def o116 (P : Params) : Obj := ⟨(.type "list_iterator"), none, (.fields #[.none, (.int 27 0)]), #[]⟩
@[reducible] noncomputable def o117 (P : Params) : Obj := ⟨(.type "tuple"), none, (.seq #[] 0), #[]⟩
@[reducible] noncomputable def o118 (P : Params) : Obj := ⟨(.type "StopIteration"), none, (.fields #[(.ref 117), .none, .none, .none, (.bool false), .none]), #[]⟩
@[reducible] noncomputable def o3v6 (P : Params) : Obj := ⟨(.type "dict"), none, (.dict (List.toArray [⟨PyData.keyHash P (Str.ofString "__name__"), (.str (Str.ofString "__name__") 165), (.str (Str.ofString "cpy313.stringprep") 321)⟩, ⟨PyData.keyHash P (Str.ofString "__doc__"), (.str (Str.ofString "__doc__") 166), .none⟩, ⟨PyData.keyHash P (Str.ofString "__package__"), (.str (Str.ofString "__package__") 167), .none⟩, ⟨PyData.keyHash P (Str.ofString "__loader__"), (.str (Str.ofString "__loader__") 168), (.builtin "__main__.__loader__#opaque")⟩, ⟨PyData.keyHash P (Str.ofString "__spec__"), (.str (Str.ofString "__spec__") 169), .none⟩, ⟨PyData.keyHash P (Str.ofString "__annotations__"), (.str (Str.ofString "__annotations__") 170), (.ref 6)⟩, ⟨PyData.keyHash P (Str.ofString "__builtins__"), (.str (Str.ofString "__builtins__") 171), (.ref 4)⟩, ⟨PyData.keyHash P (Str.ofString "__file__"), (.str (Str.ofString "__file__") 173), (.str (Str.ofString "/claim/cut.py") 172)⟩, ⟨PyData.keyHash P (Str.ofString "__cached__"), (.str (Str.ofString "__cached__") 174), .none⟩, ⟨PyData.keyHash P (Str.ofString "_wall"), (.str (Str.ofString "_wall") 193), (.ref 21)⟩, ⟨PyData.keyHash P (Str.ofString "Error"), (.str (Str.ofString "Error") 215), (.ref 31)⟩, ⟨PyData.keyHash P (Str.ofString "error_reply"), (.str (Str.ofString "error_reply") 231), (.ref 44)⟩, ⟨PyData.keyHash P (Str.ofString "error_proto"), (.str (Str.ofString "error_proto") 247), (.ref 56)⟩, ⟨PyData.keyHash P (Str.ofString "parse229"), (.str (Str.ofString "parse229") 260), (.ref 65)⟩, ⟨PyData.keyHash P (Str.ofString "_netrclex"), (.str (Str.ofString "_netrclex") 320), (.ref 103)⟩, ⟨PyData.keyHash P (Str.ofString "b1_set"), (.str (Str.ofString "b1_set") 382), (.ref 115)⟩, ⟨PyData.keyHash P (Str.ofString "in_table_b1"), (.str (Str.ofString "in_table_b1") 389), (.ref 125)⟩]) 17), #[]⟩
@[reducible] noncomputable def o12v5 (P : Params) : Obj := ⟨.none, none, (.fields #[(.int 1 0), (.int 0 0), (.ref 20), (.int 5 0), (.int 0 0), (.ref 27), (.int 7 0), (.int 0 0), (.ref 40), (.int 9 0), (.int 0 0), (.ref 52), (.int 11 0), (.int 0 0), (.ref 64), (.int 29 0), (.int 0 0), (.ref 71), (.int 74 0), (.int 0 0), (.ref 124)]), #[]⟩
@[reducible] noncomputable def o119 (P : Params) : Obj := ⟨(.type "tuple"), none, (.seq #[] 0), #[]⟩
@[reducible] noncomputable def o120 (P : Params) : Obj := ⟨.none, none, (.fields #[]), #[]⟩
@[reducible] noncomputable def o121 (P : Params) : Obj := ⟨(.type "tuple"), none, (.seq #[(.str (Str.ofString "code") 386)] 0), #[]⟩
@[reducible] noncomputable def o122 (P : Params) : Obj := ⟨(.type "tuple"), none, (.seq #[] 0), #[]⟩
@[reducible] noncomputable def o123 (P : Params) : Obj := ⟨.none, none, (.func { name := (Str.ofString "in_table_b1"), qualname := (Str.ofString "in_table_b1"), params := defP (stAt 10), body := .stmts (defB (stAt 10)), scope := defS (stAt 10), globals := 0, closure := [], defaults := .none, kwdefaults := .none, doc := .none, pyModule := .none, annotations := none, code := .none, closureTuple := .none, builtins := 0 }), #[]⟩
@[reducible] noncomputable def o124 (P : Params) : Obj := ⟨(.type "code"), none, (.fields #[(.str (Str.ofString "in_table_b1") 383), (.str (Str.ofString "in_table_b1") 384), (.str (Str.ofString "/claim/cut.py") 385), (.int 74 0), (.int 1 0), (.int 0 0), (.int 0 0), (.int 3 0), (.ref 119), (.bool true), (.int 181 0), (.ref 120), .none, (.ref 121), (.ref 122), (.ref 123), (.int 387 0), (.int 74 0), (.str (Str.ofString "/claim/cut.py") 388)]), #[]⟩
@[reducible] noncomputable def o125 (P : Params) : Obj := ⟨(.type "function"), none, (.func { name := (Str.ofString "in_table_b1"), qualname := (Str.ofString "in_table_b1"), params := defP (stAt 10), body := .stmts (defB (stAt 10)), scope := defS (stAt 10), globals := 3, closure := [], defaults := .none, kwdefaults := .none, doc := .none, pyModule := (.str (Str.ofString "cpy313.stringprep") 321), annotations := none, code := (.ref 124), closureTuple := .none, builtins := 0 }), #[]⟩
@[reducible] noncomputable def o3v7 (P : Params) : Obj := ⟨(.type "dict"), none, (.dict (List.toArray [⟨PyData.keyHash P (Str.ofString "__name__"), (.str (Str.ofString "__name__") 165), (.str (Str.ofString "cpy313.stringprep") 321)⟩, ⟨PyData.keyHash P (Str.ofString "__doc__"), (.str (Str.ofString "__doc__") 166), .none⟩, ⟨PyData.keyHash P (Str.ofString "__package__"), (.str (Str.ofString "__package__") 167), .none⟩, ⟨PyData.keyHash P (Str.ofString "__loader__"), (.str (Str.ofString "__loader__") 168), (.builtin "__main__.__loader__#opaque")⟩, ⟨PyData.keyHash P (Str.ofString "__spec__"), (.str (Str.ofString "__spec__") 169), .none⟩, ⟨PyData.keyHash P (Str.ofString "__annotations__"), (.str (Str.ofString "__annotations__") 170), (.ref 6)⟩, ⟨PyData.keyHash P (Str.ofString "__builtins__"), (.str (Str.ofString "__builtins__") 171), (.ref 4)⟩, ⟨PyData.keyHash P (Str.ofString "__file__"), (.str (Str.ofString "__file__") 173), (.str (Str.ofString "/claim/cut.py") 172)⟩, ⟨PyData.keyHash P (Str.ofString "__cached__"), (.str (Str.ofString "__cached__") 174), .none⟩, ⟨PyData.keyHash P (Str.ofString "_wall"), (.str (Str.ofString "_wall") 193), (.ref 21)⟩, ⟨PyData.keyHash P (Str.ofString "Error"), (.str (Str.ofString "Error") 215), (.ref 31)⟩, ⟨PyData.keyHash P (Str.ofString "error_reply"), (.str (Str.ofString "error_reply") 231), (.ref 44)⟩, ⟨PyData.keyHash P (Str.ofString "error_proto"), (.str (Str.ofString "error_proto") 247), (.ref 56)⟩, ⟨PyData.keyHash P (Str.ofString "parse229"), (.str (Str.ofString "parse229") 260), (.ref 65)⟩, ⟨PyData.keyHash P (Str.ofString "_netrclex"), (.str (Str.ofString "_netrclex") 320), (.ref 103)⟩, ⟨PyData.keyHash P (Str.ofString "b1_set"), (.str (Str.ofString "b1_set") 382), (.ref 115)⟩, ⟨PyData.keyHash P (Str.ofString "in_table_b1"), (.str (Str.ofString "in_table_b1") 389), (.ref 125)⟩, ⟨PyData.keyHash P (Str.ofString "b3_exceptions"), (.str (Str.ofString "b3_exceptions") 2340), (.ref 126)⟩]) 18), #[]⟩
@[reducible] noncomputable def o3v8 (P : Params) : Obj := ⟨(.type "dict"), none, (.dict (List.toArray [⟨PyData.keyHash P (Str.ofString "__name__"), (.str (Str.ofString "__name__") 165), (.str (Str.ofString "law_tr0056_01") 2349)⟩, ⟨PyData.keyHash P (Str.ofString "__doc__"), (.str (Str.ofString "__doc__") 166), .none⟩, ⟨PyData.keyHash P (Str.ofString "__package__"), (.str (Str.ofString "__package__") 167), .none⟩, ⟨PyData.keyHash P (Str.ofString "__loader__"), (.str (Str.ofString "__loader__") 168), (.builtin "__main__.__loader__#opaque")⟩, ⟨PyData.keyHash P (Str.ofString "__spec__"), (.str (Str.ofString "__spec__") 169), .none⟩, ⟨PyData.keyHash P (Str.ofString "__annotations__"), (.str (Str.ofString "__annotations__") 170), (.ref 6)⟩, ⟨PyData.keyHash P (Str.ofString "__builtins__"), (.str (Str.ofString "__builtins__") 171), (.ref 4)⟩, ⟨PyData.keyHash P (Str.ofString "__file__"), (.str (Str.ofString "__file__") 173), (.str (Str.ofString "/claim/cut.py") 172)⟩, ⟨PyData.keyHash P (Str.ofString "__cached__"), (.str (Str.ofString "__cached__") 174), .none⟩, ⟨PyData.keyHash P (Str.ofString "_wall"), (.str (Str.ofString "_wall") 193), (.ref 21)⟩, ⟨PyData.keyHash P (Str.ofString "Error"), (.str (Str.ofString "Error") 215), (.ref 31)⟩, ⟨PyData.keyHash P (Str.ofString "error_reply"), (.str (Str.ofString "error_reply") 231), (.ref 44)⟩, ⟨PyData.keyHash P (Str.ofString "error_proto"), (.str (Str.ofString "error_proto") 247), (.ref 56)⟩, ⟨PyData.keyHash P (Str.ofString "parse229"), (.str (Str.ofString "parse229") 260), (.ref 65)⟩, ⟨PyData.keyHash P (Str.ofString "_netrclex"), (.str (Str.ofString "_netrclex") 320), (.ref 103)⟩, ⟨PyData.keyHash P (Str.ofString "b1_set"), (.str (Str.ofString "b1_set") 382), (.ref 115)⟩, ⟨PyData.keyHash P (Str.ofString "in_table_b1"), (.str (Str.ofString "in_table_b1") 389), (.ref 125)⟩, ⟨PyData.keyHash P (Str.ofString "b3_exceptions"), (.str (Str.ofString "b3_exceptions") 2340), (.ref 126)⟩, ⟨PyData.keyHash P (Str.ofString "map_table_b3"), (.str (Str.ofString "map_table_b3") 2348), (.ref 171)⟩, ⟨PyData.keyHash P (Str.ofString "_law_prepared"), (.str (Str.ofString "_law_prepared") 2356), (.ref 176)⟩, ⟨PyData.keyHash P (Str.ofString "_law_stream"), (.str (Str.ofString "_law_stream") 2365), (.ref 183)⟩, ⟨PyData.keyHash P (Str.ofString "_law_drawn"), (.str (Str.ofString "_law_drawn") 2379), (.ref 190)⟩, ⟨PyData.keyHash P (Str.ofString "_law_stranger"), (.str (Str.ofString "_law_stranger") 2386), (.ref 197)⟩, ⟨PyData.keyHash P (Str.ofString "_law_spelled"), (.str (Str.ofString "_law_spelled") 2392), (.ref 202)⟩, ⟨PyData.keyHash P (Str.ofString "_law_reply"), (.str (Str.ofString "_law_reply") 2408), (.ref 209)⟩, ⟨PyData.keyHash P (Str.ofString "_law_due"), (.str (Str.ofString "_law_due") 2424), (.ref 216)⟩, ⟨PyData.keyHash P (Str.ofString "_law_told"), (.str (Str.ofString "_law_told") 2432), (.ref 223)⟩, ⟨PyData.keyHash P (Str.ofString "law"), (.str (Str.ofString "law") 2438), (.ref 228)⟩]) 28), #[]⟩
@[reducible] noncomputable def o12v6 (P : Params) : Obj := ⟨.none, none, (.fields #[(.int 1 0), (.int 0 0), (.ref 20), (.int 5 0), (.int 0 0), (.ref 27), (.int 7 0), (.int 0 0), (.ref 40), (.int 9 0), (.int 0 0), (.ref 52), (.int 11 0), (.int 0 0), (.ref 64), (.int 29 0), (.int 0 0), (.ref 71), (.int 74 0), (.int 0 0), (.ref 124), (.int 77 0), (.int 0 0), (.ref 170), (.int 83 0), (.int 0 0), (.ref 175), (.int 85 0), (.int 0 0), (.ref 182), (.int 90 0), (.int 0 0), (.ref 189), (.int 102 0), (.int 0 0), (.ref 196), (.int 104 0), (.int 0 0), (.ref 201), (.int 108 0), (.int 0 0), (.ref 208), (.int 114 0), (.int 0 0), (.ref 215), (.int 129 0), (.int 0 0), (.ref 222), (.int 138 0), (.int 0 0), (.ref 227)]), #[]⟩
@[reducible] noncomputable def o165 (P : Params) : Obj := ⟨(.type "tuple"), none, (.seq #[] 0), #[]⟩
@[reducible] noncomputable def o166 (P : Params) : Obj := ⟨.none, none, (.fields #[]), #[]⟩
@[reducible] noncomputable def o167 (P : Params) : Obj := ⟨(.type "tuple"), none, (.seq #[(.str (Str.ofString "code") 2344), (.str (Str.ofString "r") 2345)] 0), #[]⟩
@[reducible] noncomputable def o168 (P : Params) : Obj := ⟨(.type "tuple"), none, (.seq #[] 0), #[]⟩
@[reducible] noncomputable def o169 (P : Params) : Obj := ⟨.none, none, (.func { name := (Str.ofString "map_table_b3"), qualname := (Str.ofString "map_table_b3"), params := defP (stAt 12), body := .stmts (defB (stAt 12)), scope := defS (stAt 12), globals := 0, closure := [], defaults := .none, kwdefaults := .none, doc := .none, pyModule := .none, annotations := none, code := .none, closureTuple := .none, builtins := 0 }), #[]⟩
@[reducible] noncomputable def o170 (P : Params) : Obj := ⟨(.type "code"), none, (.fields #[(.str (Str.ofString "map_table_b3") 2341), (.str (Str.ofString "map_table_b3") 2342), (.str (Str.ofString "/claim/cut.py") 2343), (.int 77 0), (.int 1 0), (.int 0 0), (.int 0 0), (.int 3 0), (.ref 165), (.bool true), (.int 181 0), (.ref 166), .none, (.ref 167), (.ref 168), (.ref 169), (.int 2346 0), (.int 77 0), (.str (Str.ofString "/claim/cut.py") 2347)]), #[]⟩
@[reducible] noncomputable def o171 (P : Params) : Obj := ⟨(.type "function"), none, (.func { name := (Str.ofString "map_table_b3"), qualname := (Str.ofString "map_table_b3"), params := defP (stAt 12), body := .stmts (defB (stAt 12)), scope := defS (stAt 12), globals := 3, closure := [], defaults := .none, kwdefaults := .none, doc := .none, pyModule := (.str (Str.ofString "cpy313.stringprep") 321), annotations := none, code := (.ref 170), closureTuple := .none, builtins := 0 }), #[]⟩
@[reducible] noncomputable def o172 (P : Params) : Obj := ⟨(.type "tuple"), none, (.seq #[] 0), #[]⟩
@[reducible] noncomputable def o173 (P : Params) : Obj := ⟨.none, none, (.fields #[]), #[]⟩
@[reducible] noncomputable def o174 (P : Params) : Obj := ⟨.none, none, (.func { name := (Str.ofString "_law_prepared"), qualname := (Str.ofString "_law_prepared"), params := defP (stAt 14), body := .stmts (defB (stAt 14)), scope := defS (stAt 14), globals := 0, closure := [], defaults := .none, kwdefaults := .none, doc := .none, pyModule := .none, annotations := none, code := .none, closureTuple := .none, builtins := 0 }), #[]⟩
@[reducible] noncomputable def o175 (P : Params) : Obj := ⟨(.type "code"), none, (.fields #[(.str (Str.ofString "_law_prepared") 2351), (.str (Str.ofString "_law_prepared") 2352), (.str (Str.ofString "/claim/cut.py") 2353), (.int 83 0), (.int 1 0), (.int 0 0), (.int 0 0), (.int 3 0), (.ref 172), (.bool true), (.int 181 0), (.ref 173), .none, .none, .none, (.ref 174), (.int 2354 0), (.int 83 0), (.str (Str.ofString "/claim/cut.py") 2355)]), #[]⟩
@[reducible] noncomputable def o176 (P : Params) : Obj := ⟨(.type "function"), none, (.func { name := (Str.ofString "_law_prepared"), qualname := (Str.ofString "_law_prepared"), params := defP (stAt 14), body := .stmts (defB (stAt 14)), scope := defS (stAt 14), globals := 3, closure := [], defaults := .none, kwdefaults := .none, doc := .none, pyModule := (.str (Str.ofString "law_tr0056_01") 2349), annotations := none, code := (.ref 175), closureTuple := .none, builtins := 0 }), #[]⟩
@[reducible] noncomputable def o177 (P : Params) : Obj := ⟨(.type "tuple"), none, (.seq #[] 0), #[]⟩
@[reducible] noncomputable def o178 (P : Params) : Obj := ⟨.none, none, (.fields #[]), #[]⟩
@[reducible] noncomputable def o179 (P : Params) : Obj := ⟨(.type "tuple"), none, (.seq #[(.str (Str.ofString "text") 2360), (.str (Str.ofString "stream") 2361)] 0), #[]⟩
@[reducible] noncomputable def o180 (P : Params) : Obj := ⟨(.type "tuple"), none, (.seq #[(.str (Str.ofString "signs") 2362)] 0), #[]⟩
@[reducible] noncomputable def o181 (P : Params) : Obj := ⟨.none, none, (.func { name := (Str.ofString "_law_stream"), qualname := (Str.ofString "_law_stream"), params := defP (stAt 15), body := .stmts (defB (stAt 15)), scope := defS (stAt 15), globals := 0, closure := [], defaults := .none, kwdefaults := .none, doc := .none, pyModule := .none, annotations := none, code := .none, closureTuple := .none, builtins := 0 }), #[]⟩
@[reducible] noncomputable def o182 (P : Params) : Obj := ⟨(.type "code"), none, (.fields #[(.str (Str.ofString "_law_stream") 2357), (.str (Str.ofString "_law_stream") 2358), (.str (Str.ofString "/claim/cut.py") 2359), (.int 85 0), (.int 1 0), (.int 0 0), (.int 0 0), (.int 3 0), (.ref 177), (.bool true), (.int 181 0), (.ref 178), .none, (.ref 179), (.ref 180), (.ref 181), (.int 2363 0), (.int 85 0), (.str (Str.ofString "/claim/cut.py") 2364)]), #[]⟩
@[reducible] noncomputable def o183 (P : Params) : Obj := ⟨(.type "function"), none, (.func { name := (Str.ofString "_law_stream"), qualname := (Str.ofString "_law_stream"), params := defP (stAt 15), body := .stmts (defB (stAt 15)), scope := defS (stAt 15), globals := 3, closure := [], defaults := .none, kwdefaults := .none, doc := .none, pyModule := (.str (Str.ofString "law_tr0056_01") 2349), annotations := none, code := (.ref 182), closureTuple := .none, builtins := 0 }), #[]⟩
@[reducible] noncomputable def o184 (P : Params) : Obj := ⟨(.type "tuple"), none, (.seq #[] 0), #[]⟩
@[reducible] noncomputable def o185 (P : Params) : Obj := ⟨.none, none, (.fields #[]), #[]⟩
@[reducible] noncomputable def o186 (P : Params) : Obj := ⟨(.type "tuple"), none, (.seq #[(.str (Str.ofString "number") 2369), (.str (Str.ofString "rest") 2370), (.str (Str.ofString "one") 2371), (.str (Str.ofString "two") 2372), (.str (Str.ofString "three") 2373), (.str (Str.ofString "four") 2374), (.str (Str.ofString "front") 2375), (.str (Str.ofString "back") 2376)] 0), #[]⟩
@[reducible] noncomputable def o187 (P : Params) : Obj := ⟨(.type "tuple"), none, (.seq #[] 0), #[]⟩
@[reducible] noncomputable def o188 (P : Params) : Obj := ⟨.none, none, (.func { name := (Str.ofString "_law_drawn"), qualname := (Str.ofString "_law_drawn"), params := defP (stAt 16), body := .stmts (defB (stAt 16)), scope := defS (stAt 16), globals := 0, closure := [], defaults := .none, kwdefaults := .none, doc := .none, pyModule := .none, annotations := none, code := .none, closureTuple := .none, builtins := 0 }), #[]⟩
@[reducible] noncomputable def o189 (P : Params) : Obj := ⟨(.type "code"), none, (.fields #[(.str (Str.ofString "_law_drawn") 2366), (.str (Str.ofString "_law_drawn") 2367), (.str (Str.ofString "/claim/cut.py") 2368), (.int 90 0), (.int 1 0), (.int 0 0), (.int 0 0), (.int 3 0), (.ref 184), (.bool true), (.int 181 0), (.ref 185), .none, (.ref 186), (.ref 187), (.ref 188), (.int 2377 0), (.int 90 0), (.str (Str.ofString "/claim/cut.py") 2378)]), #[]⟩
@[reducible] noncomputable def o190 (P : Params) : Obj := ⟨(.type "function"), none, (.func { name := (Str.ofString "_law_drawn"), qualname := (Str.ofString "_law_drawn"), params := defP (stAt 16), body := .stmts (defB (stAt 16)), scope := defS (stAt 16), globals := 3, closure := [], defaults := .none, kwdefaults := .none, doc := .none, pyModule := (.str (Str.ofString "law_tr0056_01") 2349), annotations := none, code := (.ref 189), closureTuple := .none, builtins := 0 }), #[]⟩
@[reducible] noncomputable def o191 (P : Params) : Obj := ⟨(.type "tuple"), none, (.seq #[] 0), #[]⟩
@[reducible] noncomputable def o192 (P : Params) : Obj := ⟨.none, none, (.fields #[]), #[]⟩
@[reducible] noncomputable def o193 (P : Params) : Obj := ⟨(.type "tuple"), none, (.seq #[(.str (Str.ofString "port") 2383)] 0), #[]⟩
@[reducible] noncomputable def o194 (P : Params) : Obj := ⟨(.type "tuple"), none, (.seq #[] 0), #[]⟩
@[reducible] noncomputable def o195 (P : Params) : Obj := ⟨.none, none, (.func { name := (Str.ofString "_law_stranger"), qualname := (Str.ofString "_law_stranger"), params := defP (stAt 17), body := .stmts (defB (stAt 17)), scope := defS (stAt 17), globals := 0, closure := [], defaults := .none, kwdefaults := .none, doc := .none, pyModule := .none, annotations := none, code := .none, closureTuple := .none, builtins := 0 }), #[]⟩
@[reducible] noncomputable def o196 (P : Params) : Obj := ⟨(.type "code"), none, (.fields #[(.str (Str.ofString "_law_stranger") 2380), (.str (Str.ofString "_law_stranger") 2381), (.str (Str.ofString "/claim/cut.py") 2382), (.int 102 0), (.int 1 0), (.int 0 0), (.int 0 0), (.int 3 0), (.ref 191), (.bool true), (.int 181 0), (.ref 192), .none, (.ref 193), (.ref 194), (.ref 195), (.int 2384 0), (.int 102 0), (.str (Str.ofString "/claim/cut.py") 2385)]), #[]⟩
@[reducible] noncomputable def o197 (P : Params) : Obj := ⟨(.type "function"), none, (.func { name := (Str.ofString "_law_stranger"), qualname := (Str.ofString "_law_stranger"), params := defP (stAt 17), body := .stmts (defB (stAt 17)), scope := defS (stAt 17), globals := 3, closure := [], defaults := .none, kwdefaults := .none, doc := .none, pyModule := (.str (Str.ofString "law_tr0056_01") 2349), annotations := none, code := (.ref 196), closureTuple := .none, builtins := 0 }), #[]⟩
@[reducible] noncomputable def o198 (P : Params) : Obj := ⟨(.type "tuple"), none, (.seq #[] 0), #[]⟩
@[reducible] noncomputable def o199 (P : Params) : Obj := ⟨.none, none, (.fields #[]), #[]⟩
@[reducible] noncomputable def o200 (P : Params) : Obj := ⟨.none, none, (.func { name := (Str.ofString "_law_spelled"), qualname := (Str.ofString "_law_spelled"), params := defP (stAt 18), body := .stmts (defB (stAt 18)), scope := defS (stAt 18), globals := 0, closure := [], defaults := .none, kwdefaults := .none, doc := .none, pyModule := .none, annotations := none, code := .none, closureTuple := .none, builtins := 0 }), #[]⟩
@[reducible] noncomputable def o201 (P : Params) : Obj := ⟨(.type "code"), none, (.fields #[(.str (Str.ofString "_law_spelled") 2387), (.str (Str.ofString "_law_spelled") 2388), (.str (Str.ofString "/claim/cut.py") 2389), (.int 104 0), (.int 3 0), (.int 0 0), (.int 0 0), (.int 3 0), (.ref 198), (.bool true), (.int 181 0), (.ref 199), .none, .none, .none, (.ref 200), (.int 2390 0), (.int 104 0), (.str (Str.ofString "/claim/cut.py") 2391)]), #[]⟩
@[reducible] noncomputable def o202 (P : Params) : Obj := ⟨(.type "function"), none, (.func { name := (Str.ofString "_law_spelled"), qualname := (Str.ofString "_law_spelled"), params := defP (stAt 18), body := .stmts (defB (stAt 18)), scope := defS (stAt 18), globals := 3, closure := [], defaults := .none, kwdefaults := .none, doc := .none, pyModule := (.str (Str.ofString "law_tr0056_01") 2349), annotations := none, code := (.ref 201), closureTuple := .none, builtins := 0 }), #[]⟩
@[reducible] noncomputable def o203 (P : Params) : Obj := ⟨(.type "tuple"), none, (.seq #[] 0), #[]⟩
@[reducible] noncomputable def o204 (P : Params) : Obj := ⟨.none, none, (.fields #[]), #[]⟩
@[reducible] noncomputable def o205 (P : Params) : Obj := ⟨(.type "tuple"), none, (.seq #[(.str (Str.ofString "drawn") 2396), (.str (Str.ofString "stage") 2397), (.str (Str.ofString "front") 2398), (.str (Str.ofString "port") 2399), (.str (Str.ofString "back") 2400), (.str (Str.ofString "hidden") 2401), (.str (Str.ofString "dress") 2402), (.str (Str.ofString "code") 2403), (.str (Str.ofString "left") 2404), (.str (Str.ofString "right") 2405)] 0), #[]⟩
@[reducible] noncomputable def o206 (P : Params) : Obj := ⟨(.type "tuple"), none, (.seq #[] 0), #[]⟩
@[reducible] noncomputable def o207 (P : Params) : Obj := ⟨.none, none, (.func { name := (Str.ofString "_law_reply"), qualname := (Str.ofString "_law_reply"), params := defP (stAt 19), body := .stmts (defB (stAt 19)), scope := defS (stAt 19), globals := 0, closure := [], defaults := .none, kwdefaults := .none, doc := .none, pyModule := .none, annotations := none, code := .none, closureTuple := .none, builtins := 0 }), #[]⟩
@[reducible] noncomputable def o208 (P : Params) : Obj := ⟨(.type "code"), none, (.fields #[(.str (Str.ofString "_law_reply") 2393), (.str (Str.ofString "_law_reply") 2394), (.str (Str.ofString "/claim/cut.py") 2395), (.int 108 0), (.int 2 0), (.int 0 0), (.int 0 0), (.int 3 0), (.ref 203), (.bool true), (.int 181 0), (.ref 204), .none, (.ref 205), (.ref 206), (.ref 207), (.int 2406 0), (.int 108 0), (.str (Str.ofString "/claim/cut.py") 2407)]), #[]⟩
@[reducible] noncomputable def o209 (P : Params) : Obj := ⟨(.type "function"), none, (.func { name := (Str.ofString "_law_reply"), qualname := (Str.ofString "_law_reply"), params := defP (stAt 19), body := .stmts (defB (stAt 19)), scope := defS (stAt 19), globals := 3, closure := [], defaults := .none, kwdefaults := .none, doc := .none, pyModule := (.str (Str.ofString "law_tr0056_01") 2349), annotations := none, code := (.ref 208), closureTuple := .none, builtins := 0 }), #[]⟩
@[reducible] noncomputable def o210 (P : Params) : Obj := ⟨(.type "tuple"), none, (.seq #[] 0), #[]⟩
@[reducible] noncomputable def o211 (P : Params) : Obj := ⟨.none, none, (.fields #[]), #[]⟩
@[reducible] noncomputable def o212 (P : Params) : Obj := ⟨(.type "tuple"), none, (.seq #[(.str (Str.ofString "drawn") 2412), (.str (Str.ofString "stage") 2413), (.str (Str.ofString "host") 2414), (.str (Str.ofString "front") 2415), (.str (Str.ofString "port") 2416), (.str (Str.ofString "back") 2417), (.str (Str.ofString "hidden") 2418), (.str (Str.ofString "dress") 2419), (.str (Str.ofString "ahead") 2420), (.str (Str.ofString "behind") 2421)] 0), #[]⟩
@[reducible] noncomputable def o213 (P : Params) : Obj := ⟨(.type "tuple"), none, (.seq #[] 0), #[]⟩
@[reducible] noncomputable def o214 (P : Params) : Obj := ⟨.none, none, (.func { name := (Str.ofString "_law_due"), qualname := (Str.ofString "_law_due"), params := defP (stAt 20), body := .stmts (defB (stAt 20)), scope := defS (stAt 20), globals := 0, closure := [], defaults := .none, kwdefaults := .none, doc := .none, pyModule := .none, annotations := none, code := .none, closureTuple := .none, builtins := 0 }), #[]⟩
@[reducible] noncomputable def o215 (P : Params) : Obj := ⟨(.type "code"), none, (.fields #[(.str (Str.ofString "_law_due") 2409), (.str (Str.ofString "_law_due") 2410), (.str (Str.ofString "/claim/cut.py") 2411), (.int 114 0), (.int 3 0), (.int 0 0), (.int 0 0), (.int 3 0), (.ref 210), (.bool true), (.int 181 0), (.ref 211), .none, (.ref 212), (.ref 213), (.ref 214), (.int 2422 0), (.int 114 0), (.str (Str.ofString "/claim/cut.py") 2423)]), #[]⟩
@[reducible] noncomputable def o216 (P : Params) : Obj := ⟨(.type "function"), none, (.func { name := (Str.ofString "_law_due"), qualname := (Str.ofString "_law_due"), params := defP (stAt 20), body := .stmts (defB (stAt 20)), scope := defS (stAt 20), globals := 3, closure := [], defaults := .none, kwdefaults := .none, doc := .none, pyModule := (.str (Str.ofString "law_tr0056_01") 2349), annotations := none, code := (.ref 215), closureTuple := .none, builtins := 0 }), #[]⟩
@[reducible] noncomputable def o217 (P : Params) : Obj := ⟨(.type "tuple"), none, (.seq #[] 0), #[]⟩
@[reducible] noncomputable def o218 (P : Params) : Obj := ⟨.none, none, (.fields #[]), #[]⟩
@[reducible] noncomputable def o219 (P : Params) : Obj := ⟨(.type "tuple"), none, (.seq #[(.str (Str.ofString "reply") 2428), (.str (Str.ofString "host") 2429)] 0), #[]⟩
@[reducible] noncomputable def o220 (P : Params) : Obj := ⟨(.type "tuple"), none, (.seq #[] 0), #[]⟩
@[reducible] noncomputable def o221 (P : Params) : Obj := ⟨.none, none, (.func { name := (Str.ofString "_law_told"), qualname := (Str.ofString "_law_told"), params := defP (stAt 21), body := .stmts (defB (stAt 21)), scope := defS (stAt 21), globals := 0, closure := [], defaults := .none, kwdefaults := .none, doc := .none, pyModule := .none, annotations := none, code := .none, closureTuple := .none, builtins := 0 }), #[]⟩
@[reducible] noncomputable def o222 (P : Params) : Obj := ⟨(.type "code"), none, (.fields #[(.str (Str.ofString "_law_told") 2425), (.str (Str.ofString "_law_told") 2426), (.str (Str.ofString "/claim/cut.py") 2427), (.int 129 0), (.int 2 0), (.int 0 0), (.int 0 0), (.int 3 0), (.ref 217), (.bool true), (.int 181 0), (.ref 218), .none, (.ref 219), (.ref 220), (.ref 221), (.int 2430 0), (.int 129 0), (.str (Str.ofString "/claim/cut.py") 2431)]), #[]⟩
@[reducible] noncomputable def o223 (P : Params) : Obj := ⟨(.type "function"), none, (.func { name := (Str.ofString "_law_told"), qualname := (Str.ofString "_law_told"), params := defP (stAt 21), body := .stmts (defB (stAt 21)), scope := defS (stAt 21), globals := 3, closure := [], defaults := .none, kwdefaults := .none, doc := .none, pyModule := (.str (Str.ofString "law_tr0056_01") 2349), annotations := none, code := (.ref 222), closureTuple := .none, builtins := 0 }), #[]⟩
@[reducible] noncomputable def o224 (P : Params) : Obj := ⟨(.type "tuple"), none, (.seq #[] 0), #[]⟩
@[reducible] noncomputable def o225 (P : Params) : Obj := ⟨.none, none, (.fields #[]), #[]⟩
@[reducible] noncomputable def o226 (P : Params) : Obj := ⟨.none, none, (.func { name := (Str.ofString "law"), qualname := (Str.ofString "law"), params := defP (stAt 22), body := .stmts (defB (stAt 22)), scope := defS (stAt 22), globals := 0, closure := [], defaults := .none, kwdefaults := .none, doc := .none, pyModule := .none, annotations := none, code := .none, closureTuple := .none, builtins := 0 }), #[]⟩
@[reducible] noncomputable def o227 (P : Params) : Obj := ⟨(.type "code"), none, (.fields #[(.str (Str.ofString "law") 2433), (.str (Str.ofString "law") 2434), (.str (Str.ofString "/claim/cut.py") 2435), (.int 138 0), (.int 1 0), (.int 0 0), (.int 0 0), (.int 3 0), (.ref 224), (.bool true), (.int 181 0), (.ref 225), .none, .none, .none, (.ref 226), (.int 2436 0), (.int 138 0), (.str (Str.ofString "/claim/cut.py") 2437)]), #[]⟩
@[reducible] noncomputable def o228 (P : Params) : Obj := ⟨(.type "function"), none, (.func { name := (Str.ofString "law"), qualname := (Str.ofString "law"), params := defP (stAt 22), body := .stmts (defB (stAt 22)), scope := defS (stAt 22), globals := 3, closure := [], defaults := .none, kwdefaults := .none, doc := .none, pyModule := (.str (Str.ofString "law_tr0056_01") 2349), annotations := none, code := (.ref 227), closureTuple := .none, builtins := 0 }), #[]⟩

/-! the trees at the cuts -/
@[reducible] noncomputable def trp (P : Params) : BT := (.node (boot_o_0 P) (.node (o1 P) (.node (o3 P) (.node (o7 P) .nil .nil) (.node (o11 P) .nil .nil)) (.node (o5 P) (.node (o9 P) .nil .nil) (.node (o13 P) .nil .nil))) (.node (o2 P) (.node (o4 P) (.node (o8 P) .nil .nil) (.node (o12 P) .nil .nil)) (.node (o6 P) (.node (o10 P) .nil .nil) (.node (o14 P) .nil .nil))))
@[reducible] noncomputable def tr0 (P : Params) : BT := (.node (boot_o_0 P) (.node (o1 P) (.node (o3v1 P) (.node (o7 P) (.node (o15 P) (.node (o31 P) .nil .nil) .nil) (.node (o23 P) .nil .nil)) (.node (o11 P) (.node (o19 P) .nil .nil) (.node (o27 P) .nil .nil))) (.node (o5 P) (.node (o9 P) (.node (o17 P) (.node (o33 P) .nil .nil) .nil) (.node (o25 P) .nil .nil)) (.node (o13 P) (.node (o21 P) .nil .nil) (.node (o29 P) .nil .nil)))) (.node (o2v1 P) (.node (o4 P) (.node (o8 P) (.node (o16 P) (.node (o32 P) .nil .nil) .nil) (.node (o24 P) .nil .nil)) (.node (o12v1 P) (.node (o20 P) .nil .nil) (.node (o28 P) .nil .nil))) (.node (o6 P) (.node (o10 P) (.node (o18 P) (.node (o34 P) .nil .nil) .nil) (.node (o26 P) .nil .nil)) (.node (o14 P) (.node (o22 P) .nil .nil) (.node (o30 P) .nil .nil)))))
@[reducible] noncomputable def tr1 (P : Params) : BT := (.node (boot_o_0 P) (.node (o1 P) (.node (o3v2 P) (.node (o7 P) (.node (o15 P) (.node (o31v1 P) .nil .nil) .nil) (.node (o23 P) (.node (o39 P) .nil .nil) .nil)) (.node (o11 P) (.node (o19 P) (.node (o35 P) .nil .nil) .nil) (.node (o27 P) (.node (o43 P) .nil .nil) .nil))) (.node (o5 P) (.node (o9 P) (.node (o17 P) (.node (o33 P) .nil .nil) .nil) (.node (o25 P) (.node (o41 P) .nil .nil) .nil)) (.node (o13 P) (.node (o21 P) (.node (o37 P) .nil .nil) .nil) (.node (o29 P) (.node (o45 P) .nil .nil) .nil)))) (.node (o2v1 P) (.node (o4 P) (.node (o8 P) (.node (o16 P) (.node (o32 P) .nil .nil) .nil) (.node (o24 P) (.node (o40 P) .nil .nil) .nil)) (.node (o12v2 P) (.node (o20 P) (.node (o36 P) .nil .nil) .nil) (.node (o28 P) (.node (o44 P) .nil .nil) .nil))) (.node (o6 P) (.node (o10 P) (.node (o18 P) (.node (o34 P) .nil .nil) .nil) (.node (o26 P) (.node (o42 P) .nil .nil) .nil)) (.node (o14 P) (.node (o22 P) (.node (o38 P) .nil .nil) .nil) (.node (o30 P) (.node (o46 P) .nil .nil) .nil)))))
@[reducible] noncomputable def tr2 (P : Params) : BT := (.node (boot_o_0 P) (.node (o1 P) (.node (o3v3 P) (.node (o7 P) (.node (o15 P) (.node (o31v2 P) (.node (o63 P) .nil .nil) .nil) (.node (o47 P) .nil .nil)) (.node (o23 P) (.node (o39 P) .nil .nil) (.node (o55 P) .nil .nil))) (.node (o11 P) (.node (o19 P) (.node (o35 P) .nil .nil) (.node (o51 P) .nil .nil)) (.node (o27 P) (.node (o43 P) .nil .nil) (.node (o59 P) .nil .nil)))) (.node (o5 P) (.node (o9 P) (.node (o17 P) (.node (o33 P) (.node (o65 P) .nil .nil) .nil) (.node (o49 P) .nil .nil)) (.node (o25 P) (.node (o41 P) .nil .nil) (.node (o57 P) .nil .nil))) (.node (o13 P) (.node (o21 P) (.node (o37 P) .nil .nil) (.node (o53 P) .nil .nil)) (.node (o29 P) (.node (o45 P) .nil .nil) (.node (o61 P) .nil .nil))))) (.node (o2v1 P) (.node (o4 P) (.node (o8 P) (.node (o16 P) (.node (o32 P) (.node (o64 P) .nil .nil) .nil) (.node (o48 P) .nil .nil)) (.node (o24 P) (.node (o40 P) .nil .nil) (.node (o56 P) .nil .nil))) (.node (o12v3 P) (.node (o20 P) (.node (o36 P) .nil .nil) (.node (o52 P) .nil .nil)) (.node (o28 P) (.node (o44 P) .nil .nil) (.node (o60 P) .nil .nil)))) (.node (o6 P) (.node (o10 P) (.node (o18 P) (.node (o34 P) .nil .nil) (.node (o50 P) .nil .nil)) (.node (o26 P) (.node (o42 P) .nil .nil) (.node (o58 P) .nil .nil))) (.node (o14 P) (.node (o22 P) (.node (o38 P) .nil .nil) (.node (o54 P) .nil .nil)) (.node (o30 P) (.node (o46 P) .nil .nil) (.node (o62 P) .nil .nil))))))
@[reducible] noncomputable def tr3 (P : Params) : BT := (.node (boot_o_0 P) (.node (o1 P) (.node (o3v4 P) (.node (o7 P) (.node (o15 P) (.node (o31v2 P) (.node (o63 P) .nil .nil) (.node (o95 P) .nil .nil)) (.node (o47 P) (.node (o79 P) .nil .nil) .nil)) (.node (o23 P) (.node (o39 P) (.node (o71 P) .nil .nil) (.node (o103 P) .nil .nil)) (.node (o55 P) (.node (o87 P) .nil .nil) .nil))) (.node (o11 P) (.node (o19 P) (.node (o35 P) (.node (o67 P) .nil .nil) (.node (o99 P) .nil .nil)) (.node (o51 P) (.node (o83 P) .nil .nil) .nil)) (.node (o27 P) (.node (o43 P) (.node (o75 P) .nil .nil) (.node (o107 P) .nil .nil)) (.node (o59 P) (.node (o91 P) .nil .nil) .nil)))) (.node (o5 P) (.node (o9 P) (.node (o17 P) (.node (o33 P) (.node (o65 P) .nil .nil) (.node (o97 P) .nil .nil)) (.node (o49 P) (.node (o81 P) .nil .nil) .nil)) (.node (o25 P) (.node (o41 P) (.node (o73 P) .nil .nil) (.node (o105 P) .nil .nil)) (.node (o57 P) (.node (o89 P) .nil .nil) .nil))) (.node (o13 P) (.node (o21 P) (.node (o37 P) (.node (o69 P) .nil .nil) (.node (o101 P) .nil .nil)) (.node (o53 P) (.node (o85 P) .nil .nil) .nil)) (.node (o29 P) (.node (o45 P) (.node (o77 P) .nil .nil) .nil) (.node (o61 P) (.node (o93 P) .nil .nil) .nil))))) (.node (o2v1 P) (.node (o4 P) (.node (o8 P) (.node (o16 P) (.node (o32 P) (.node (o64 P) .nil .nil) (.node (o96 P) .nil .nil)) (.node (o48 P) (.node (o80 P) .nil .nil) .nil)) (.node (o24 P) (.node (o40 P) (.node (o72 P) .nil .nil) (.node (o104 P) .nil .nil)) (.node (o56 P) (.node (o88 P) .nil .nil) .nil))) (.node (o12v4 P) (.node (o20 P) (.node (o36 P) (.node (o68 P) .nil .nil) (.node (o100 P) .nil .nil)) (.node (o52 P) (.node (o84 P) .nil .nil) .nil)) (.node (o28 P) (.node (o44 P) (.node (o76 P) .nil .nil) .nil) (.node (o60 P) (.node (o92 P) .nil .nil) .nil)))) (.node (o6 P) (.node (o10 P) (.node (o18 P) (.node (o34 P) (.node (o66 P) .nil .nil) (.node (o98 P) .nil .nil)) (.node (o50 P) (.node (o82 P) .nil .nil) .nil)) (.node (o26 P) (.node (o42 P) (.node (o74 P) .nil .nil) (.node (o106 P) .nil .nil)) (.node (o58 P) (.node (o90 P) .nil .nil) .nil))) (.node (o14 P) (.node (o22 P) (.node (o38 P) (.node (o70 P) .nil .nil) (.node (o102 P) .nil .nil)) (.node (o54 P) (.node (o86 P) .nil .nil) .nil)) (.node (o30 P) (.node (o46 P) (.node (o78 P) .nil .nil) .nil) (.node (o62 P) (.node (o94 P) .nil .nil) .nil))))))
@[reducible] noncomputable def tr4 (P : Params) : BT := (.node (boot_o_0 P) (.node (o1 P) (.node (o3v5 P) (.node (o7 P) (.node (o15 P) (.node (o31v2 P) (.node (o63 P) .nil .nil) (.node (o95 P) .nil .nil)) (.node (o47 P) (.node (o79 P) .nil .nil) (.node (o111 P) .nil .nil))) (.node (o23 P) (.node (o39 P) (.node (o71 P) .nil .nil) (.node (o103 P) .nil .nil)) (.node (o55 P) (.node (o87 P) .nil .nil) .nil))) (.node (o11 P) (.node (o19 P) (.node (o35 P) (.node (o67 P) .nil .nil) (.node (o99 P) .nil .nil)) (.node (o51 P) (.node (o83 P) .nil .nil) (.node (o115 P) .nil .nil))) (.node (o27 P) (.node (o43 P) (.node (o75 P) .nil .nil) (.node (o107 P) .nil .nil)) (.node (o59 P) (.node (o91 P) .nil .nil) .nil)))) (.node (o5 P) (.node (o9 P) (.node (o17 P) (.node (o33 P) (.node (o65 P) .nil .nil) (.node (o97 P) .nil .nil)) (.node (o49 P) (.node (o81 P) .nil .nil) (.node (o113 P) .nil .nil))) (.node (o25 P) (.node (o41 P) (.node (o73 P) .nil .nil) (.node (o105 P) .nil .nil)) (.node (o57 P) (.node (o89 P) .nil .nil) .nil))) (.node (o13 P) (.node (o21 P) (.node (o37 P) (.node (o69 P) .nil .nil) (.node (o101 P) .nil .nil)) (.node (o53 P) (.node (o85 P) .nil .nil) (.node (o117 P) .nil .nil))) (.node (o29 P) (.node (o45 P) (.node (o77 P) .nil .nil) (.node (o109 P) .nil .nil)) (.node (o61 P) (.node (o93 P) .nil .nil) .nil))))) (.node (o2v1 P) (.node (o4 P) (.node (o8 P) (.node (o16 P) (.node (o32 P) (.node (o64 P) .nil .nil) (.node (o96 P) .nil .nil)) (.node (o48 P) (.node (o80 P) .nil .nil) (.node (o112 P) .nil .nil))) (.node (o24 P) (.node (o40 P) (.node (o72 P) .nil .nil) (.node (o104 P) .nil .nil)) (.node (o56 P) (.node (o88 P) .nil .nil) .nil))) (.node (o12v4 P) (.node (o20 P) (.node (o36 P) (.node (o68 P) .nil .nil) (.node (o100 P) .nil .nil)) (.node (o52 P) (.node (o84 P) .nil .nil) (.node (o116 P) .nil .nil))) (.node (o28 P) (.node (o44 P) (.node (o76 P) .nil .nil) (.node (o108 P) .nil .nil)) (.node (o60 P) (.node (o92 P) .nil .nil) .nil)))) (.node (o6 P) (.node (o10 P) (.node (o18 P) (.node (o34 P) (.node (o66 P) .nil .nil) (.node (o98 P) .nil .nil)) (.node (o50 P) (.node (o82 P) .nil .nil) (.node (o114 P) .nil .nil))) (.node (o26 P) (.node (o42 P) (.node (o74 P) .nil .nil) (.node (o106 P) .nil .nil)) (.node (o58 P) (.node (o90 P) .nil .nil) .nil))) (.node (o14 P) (.node (o22 P) (.node (o38 P) (.node (o70 P) .nil .nil) (.node (o102 P) .nil .nil)) (.node (o54 P) (.node (o86 P) .nil .nil) (.node (o118 P) .nil .nil))) (.node (o30 P) (.node (o46 P) (.node (o78 P) .nil .nil) (.node (o110 P) .nil .nil)) (.node (o62 P) (.node (o94 P) .nil .nil) .nil))))))
@[reducible] noncomputable def tr5 (P : Params) : BT := (.node (boot_o_0 P) (.node (o1 P) (.node (o3v6 P) (.node (o7 P) (.node (o15 P) (.node (o31v2 P) (.node (o63 P) .nil .nil) (.node (o95 P) .nil .nil)) (.node (o47 P) (.node (o79 P) .nil .nil) (.node (o111 P) .nil .nil))) (.node (o23 P) (.node (o39 P) (.node (o71 P) .nil .nil) (.node (o103 P) .nil .nil)) (.node (o55 P) (.node (o87 P) .nil .nil) (.node (o119 P) .nil .nil)))) (.node (o11 P) (.node (o19 P) (.node (o35 P) (.node (o67 P) .nil .nil) (.node (o99 P) .nil .nil)) (.node (o51 P) (.node (o83 P) .nil .nil) (.node (o115 P) .nil .nil))) (.node (o27 P) (.node (o43 P) (.node (o75 P) .nil .nil) (.node (o107 P) .nil .nil)) (.node (o59 P) (.node (o91 P) .nil .nil) (.node (o123 P) .nil .nil))))) (.node (o5 P) (.node (o9 P) (.node (o17 P) (.node (o33 P) (.node (o65 P) .nil .nil) (.node (o97 P) .nil .nil)) (.node (o49 P) (.node (o81 P) .nil .nil) (.node (o113 P) .nil .nil))) (.node (o25 P) (.node (o41 P) (.node (o73 P) .nil .nil) (.node (o105 P) .nil .nil)) (.node (o57 P) (.node (o89 P) .nil .nil) (.node (o121 P) .nil .nil)))) (.node (o13 P) (.node (o21 P) (.node (o37 P) (.node (o69 P) .nil .nil) (.node (o101 P) .nil .nil)) (.node (o53 P) (.node (o85 P) .nil .nil) (.node (o117 P) .nil .nil))) (.node (o29 P) (.node (o45 P) (.node (o77 P) .nil .nil) (.node (o109 P) .nil .nil)) (.node (o61 P) (.node (o93 P) .nil .nil) (.node (o125 P) .nil .nil)))))) (.node (o2v1 P) (.node (o4 P) (.node (o8 P) (.node (o16 P) (.node (o32 P) (.node (o64 P) .nil .nil) (.node (o96 P) .nil .nil)) (.node (o48 P) (.node (o80 P) .nil .nil) (.node (o112 P) .nil .nil))) (.node (o24 P) (.node (o40 P) (.node (o72 P) .nil .nil) (.node (o104 P) .nil .nil)) (.node (o56 P) (.node (o88 P) .nil .nil) (.node (o120 P) .nil .nil)))) (.node (o12v5 P) (.node (o20 P) (.node (o36 P) (.node (o68 P) .nil .nil) (.node (o100 P) .nil .nil)) (.node (o52 P) (.node (o84 P) .nil .nil) (.node (o116 P) .nil .nil))) (.node (o28 P) (.node (o44 P) (.node (o76 P) .nil .nil) (.node (o108 P) .nil .nil)) (.node (o60 P) (.node (o92 P) .nil .nil) (.node (o124 P) .nil .nil))))) (.node (o6 P) (.node (o10 P) (.node (o18 P) (.node (o34 P) (.node (o66 P) .nil .nil) (.node (o98 P) .nil .nil)) (.node (o50 P) (.node (o82 P) .nil .nil) (.node (o114 P) .nil .nil))) (.node (o26 P) (.node (o42 P) (.node (o74 P) .nil .nil) (.node (o106 P) .nil .nil)) (.node (o58 P) (.node (o90 P) .nil .nil) (.node (o122 P) .nil .nil)))) (.node (o14 P) (.node (o22 P) (.node (o38 P) (.node (o70 P) .nil .nil) (.node (o102 P) .nil .nil)) (.node (o54 P) (.node (o86 P) .nil .nil) (.node (o118 P) .nil .nil))) (.node (o30 P) (.node (o46 P) (.node (o78 P) .nil .nil) (.node (o110 P) .nil .nil)) (.node (o62 P) (.node (o94 P) .nil .nil) .nil))))))
@[reducible] noncomputable def tr6 (P : Params) : BT := (.node (boot_o_0 P) (.node (o1 P) (.node (o3v7 P) (.node (o7 P) (.node (o15 P) (.node (o31v2 P) (.node (o63 P) (.node (b3Sub 1 P) .nil .nil) .nil) (.node (o95 P) (.node (b3Sub 33 P) .nil .nil) .nil)) (.node (o47 P) (.node (o79 P) (.node (b3Sub 17 P) .nil .nil) .nil) (.node (o111 P) .nil .nil))) (.node (o23 P) (.node (o39 P) (.node (o71 P) (.node (b3Sub 9 P) .nil .nil) .nil) (.node (o103 P) .nil .nil)) (.node (o55 P) (.node (o87 P) (.node (b3Sub 25 P) .nil .nil) .nil) (.node (o119 P) .nil .nil)))) (.node (o11 P) (.node (o19 P) (.node (o35 P) (.node (o67 P) (.node (b3Sub 5 P) .nil .nil) .nil) (.node (o99 P) (.node (b3Sub 37 P) .nil .nil) .nil)) (.node (o51 P) (.node (o83 P) (.node (b3Sub 21 P) .nil .nil) .nil) (.node (o115 P) .nil .nil))) (.node (o27 P) (.node (o43 P) (.node (o75 P) (.node (b3Sub 13 P) .nil .nil) .nil) (.node (o107 P) .nil .nil)) (.node (o59 P) (.node (o91 P) (.node (b3Sub 29 P) .nil .nil) .nil) (.node (o123 P) .nil .nil))))) (.node (o5 P) (.node (o9 P) (.node (o17 P) (.node (o33 P) (.node (o65 P) (.node (b3Sub 3 P) .nil .nil) .nil) (.node (o97 P) (.node (b3Sub 35 P) .nil .nil) .nil)) (.node (o49 P) (.node (o81 P) (.node (b3Sub 19 P) .nil .nil) .nil) (.node (o113 P) .nil .nil))) (.node (o25 P) (.node (o41 P) (.node (o73 P) (.node (b3Sub 11 P) .nil .nil) .nil) (.node (o105 P) .nil .nil)) (.node (o57 P) (.node (o89 P) (.node (b3Sub 27 P) .nil .nil) .nil) (.node (o121 P) .nil .nil)))) (.node (o13 P) (.node (o21 P) (.node (o37 P) (.node (o69 P) (.node (b3Sub 7 P) .nil .nil) .nil) (.node (o101 P) .nil .nil)) (.node (o53 P) (.node (o85 P) (.node (b3Sub 23 P) .nil .nil) .nil) (.node (o117 P) .nil .nil))) (.node (o29 P) (.node (o45 P) (.node (o77 P) (.node (b3Sub 15 P) .nil .nil) .nil) (.node (o109 P) .nil .nil)) (.node (o61 P) (.node (o93 P) (.node (b3Sub 31 P) .nil .nil) .nil) (.node (o125 P) .nil .nil)))))) (.node (o2v1 P) (.node (o4 P) (.node (o8 P) (.node (o16 P) (.node (o32 P) (.node (o64 P) (.node (b3Sub 2 P) .nil .nil) .nil) (.node (o96 P) (.node (b3Sub 34 P) .nil .nil) .nil)) (.node (o48 P) (.node (o80 P) (.node (b3Sub 18 P) .nil .nil) .nil) (.node (o112 P) .nil .nil))) (.node (o24 P) (.node (o40 P) (.node (o72 P) (.node (b3Sub 10 P) .nil .nil) .nil) (.node (o104 P) .nil .nil)) (.node (o56 P) (.node (o88 P) (.node (b3Sub 26 P) .nil .nil) .nil) (.node (o120 P) .nil .nil)))) (.node (o12v5 P) (.node (o20 P) (.node (o36 P) (.node (o68 P) (.node (b3Sub 6 P) .nil .nil) .nil) (.node (o100 P) (.node (b3Sub 38 P) .nil .nil) .nil)) (.node (o52 P) (.node (o84 P) (.node (b3Sub 22 P) .nil .nil) .nil) (.node (o116 P) .nil .nil))) (.node (o28 P) (.node (o44 P) (.node (o76 P) (.node (b3Sub 14 P) .nil .nil) .nil) (.node (o108 P) .nil .nil)) (.node (o60 P) (.node (o92 P) (.node (b3Sub 30 P) .nil .nil) .nil) (.node (o124 P) .nil .nil))))) (.node (o6 P) (.node (o10 P) (.node (o18 P) (.node (o34 P) (.node (o66 P) (.node (b3Sub 4 P) .nil .nil) .nil) (.node (o98 P) (.node (b3Sub 36 P) .nil .nil) .nil)) (.node (o50 P) (.node (o82 P) (.node (b3Sub 20 P) .nil .nil) .nil) (.node (o114 P) .nil .nil))) (.node (o26 P) (.node (o42 P) (.node (o74 P) (.node (b3Sub 12 P) .nil .nil) .nil) (.node (o106 P) .nil .nil)) (.node (o58 P) (.node (o90 P) (.node (b3Sub 28 P) .nil .nil) .nil) (.node (o122 P) .nil .nil)))) (.node (o14 P) (.node (o22 P) (.node (o38 P) (.node (o70 P) (.node (b3Sub 8 P) .nil .nil) .nil) (.node (o102 P) .nil .nil)) (.node (o54 P) (.node (o86 P) (.node (b3Sub 24 P) .nil .nil) .nil) (.node (o118 P) .nil .nil))) (.node (o30 P) (.node (o46 P) (.node (o78 P) (.node (b3Sub 16 P) .nil .nil) .nil) (.node (o110 P) .nil .nil)) (.node (o62 P) (.node (o94 P) (.node (b3Sub 32 P) .nil .nil) .nil) (.node (b3Main P) .nil .nil)))))))
@[reducible] noncomputable def tr7 (P : Params) : BT := (.node (boot_o_0 P) (.node (o1 P) (.node (o3v8 P) (.node (o7 P) (.node (o15 P) (.node (o31v2 P) (.node (o63 P) (.node (b3Sub 1 P) .nil .nil) (.node (o191 P) .nil .nil)) (.node (o95 P) (.node (b3Sub 33 P) .nil .nil) (.node (o223 P) .nil .nil))) (.node (o47 P) (.node (o79 P) (.node (b3Sub 17 P) .nil .nil) (.node (o207 P) .nil .nil)) (.node (o111 P) (.node (o175 P) .nil .nil) .nil))) (.node (o23 P) (.node (o39 P) (.node (o71 P) (.node (b3Sub 9 P) .nil .nil) (.node (o199 P) .nil .nil)) (.node (o103 P) (.node (o167 P) .nil .nil) .nil)) (.node (o55 P) (.node (o87 P) (.node (b3Sub 25 P) .nil .nil) (.node (o215 P) .nil .nil)) (.node (o119 P) (.node (o183 P) .nil .nil) .nil)))) (.node (o11 P) (.node (o19 P) (.node (o35 P) (.node (o67 P) (.node (b3Sub 5 P) .nil .nil) (.node (o195 P) .nil .nil)) (.node (o99 P) (.node (b3Sub 37 P) .nil .nil) (.node (o227 P) .nil .nil))) (.node (o51 P) (.node (o83 P) (.node (b3Sub 21 P) .nil .nil) (.node (o211 P) .nil .nil)) (.node (o115 P) (.node (o179 P) .nil .nil) .nil))) (.node (o27 P) (.node (o43 P) (.node (o75 P) (.node (b3Sub 13 P) .nil .nil) (.node (o203 P) .nil .nil)) (.node (o107 P) (.node (o171 P) .nil .nil) .nil)) (.node (o59 P) (.node (o91 P) (.node (b3Sub 29 P) .nil .nil) (.node (o219 P) .nil .nil)) (.node (o123 P) (.node (o187 P) .nil .nil) .nil))))) (.node (o5 P) (.node (o9 P) (.node (o17 P) (.node (o33 P) (.node (o65 P) (.node (b3Sub 3 P) .nil .nil) (.node (o193 P) .nil .nil)) (.node (o97 P) (.node (b3Sub 35 P) .nil .nil) (.node (o225 P) .nil .nil))) (.node (o49 P) (.node (o81 P) (.node (b3Sub 19 P) .nil .nil) (.node (o209 P) .nil .nil)) (.node (o113 P) (.node (o177 P) .nil .nil) .nil))) (.node (o25 P) (.node (o41 P) (.node (o73 P) (.node (b3Sub 11 P) .nil .nil) (.node (o201 P) .nil .nil)) (.node (o105 P) (.node (o169 P) .nil .nil) .nil)) (.node (o57 P) (.node (o89 P) (.node (b3Sub 27 P) .nil .nil) (.node (o217 P) .nil .nil)) (.node (o121 P) (.node (o185 P) .nil .nil) .nil)))) (.node (o13 P) (.node (o21 P) (.node (o37 P) (.node (o69 P) (.node (b3Sub 7 P) .nil .nil) (.node (o197 P) .nil .nil)) (.node (o101 P) (.node (o165 P) .nil .nil) .nil)) (.node (o53 P) (.node (o85 P) (.node (b3Sub 23 P) .nil .nil) (.node (o213 P) .nil .nil)) (.node (o117 P) (.node (o181 P) .nil .nil) .nil))) (.node (o29 P) (.node (o45 P) (.node (o77 P) (.node (b3Sub 15 P) .nil .nil) (.node (o205 P) .nil .nil)) (.node (o109 P) (.node (o173 P) .nil .nil) .nil)) (.node (o61 P) (.node (o93 P) (.node (b3Sub 31 P) .nil .nil) (.node (o221 P) .nil .nil)) (.node (o125 P) (.node (o189 P) .nil .nil) .nil)))))) (.node (o2v1 P) (.node (o4 P) (.node (o8 P) (.node (o16 P) (.node (o32 P) (.node (o64 P) (.node (b3Sub 2 P) .nil .nil) (.node (o192 P) .nil .nil)) (.node (o96 P) (.node (b3Sub 34 P) .nil .nil) (.node (o224 P) .nil .nil))) (.node (o48 P) (.node (o80 P) (.node (b3Sub 18 P) .nil .nil) (.node (o208 P) .nil .nil)) (.node (o112 P) (.node (o176 P) .nil .nil) .nil))) (.node (o24 P) (.node (o40 P) (.node (o72 P) (.node (b3Sub 10 P) .nil .nil) (.node (o200 P) .nil .nil)) (.node (o104 P) (.node (o168 P) .nil .nil) .nil)) (.node (o56 P) (.node (o88 P) (.node (b3Sub 26 P) .nil .nil) (.node (o216 P) .nil .nil)) (.node (o120 P) (.node (o184 P) .nil .nil) .nil)))) (.node (o12v6 P) (.node (o20 P) (.node (o36 P) (.node (o68 P) (.node (b3Sub 6 P) .nil .nil) (.node (o196 P) .nil .nil)) (.node (o100 P) (.node (b3Sub 38 P) .nil .nil) (.node (o228 P) .nil .nil))) (.node (o52 P) (.node (o84 P) (.node (b3Sub 22 P) .nil .nil) (.node (o212 P) .nil .nil)) (.node (o116 P) (.node (o180 P) .nil .nil) .nil))) (.node (o28 P) (.node (o44 P) (.node (o76 P) (.node (b3Sub 14 P) .nil .nil) (.node (o204 P) .nil .nil)) (.node (o108 P) (.node (o172 P) .nil .nil) .nil)) (.node (o60 P) (.node (o92 P) (.node (b3Sub 30 P) .nil .nil) (.node (o220 P) .nil .nil)) (.node (o124 P) (.node (o188 P) .nil .nil) .nil))))) (.node (o6 P) (.node (o10 P) (.node (o18 P) (.node (o34 P) (.node (o66 P) (.node (b3Sub 4 P) .nil .nil) (.node (o194 P) .nil .nil)) (.node (o98 P) (.node (b3Sub 36 P) .nil .nil) (.node (o226 P) .nil .nil))) (.node (o50 P) (.node (o82 P) (.node (b3Sub 20 P) .nil .nil) (.node (o210 P) .nil .nil)) (.node (o114 P) (.node (o178 P) .nil .nil) .nil))) (.node (o26 P) (.node (o42 P) (.node (o74 P) (.node (b3Sub 12 P) .nil .nil) (.node (o202 P) .nil .nil)) (.node (o106 P) (.node (o170 P) .nil .nil) .nil)) (.node (o58 P) (.node (o90 P) (.node (b3Sub 28 P) .nil .nil) (.node (o218 P) .nil .nil)) (.node (o122 P) (.node (o186 P) .nil .nil) .nil)))) (.node (o14 P) (.node (o22 P) (.node (o38 P) (.node (o70 P) (.node (b3Sub 8 P) .nil .nil) (.node (o198 P) .nil .nil)) (.node (o102 P) (.node (o166 P) .nil .nil) .nil)) (.node (o54 P) (.node (o86 P) (.node (b3Sub 24 P) .nil .nil) (.node (o214 P) .nil .nil)) (.node (o118 P) (.node (o182 P) .nil .nil) .nil))) (.node (o30 P) (.node (o46 P) (.node (o78 P) (.node (b3Sub 16 P) .nil .nil) (.node (o206 P) .nil .nil)) (.node (o110 P) (.node (o174 P) .nil .nil) .nil)) (.node (o62 P) (.node (o94 P) (.node (b3Sub 32 P) .nil .nil) (.node (o222 P) .nil .nil)) (.node (b3Main P) (.node (o190 P) .nil .nil) .nil)))))))
@[reducible] noncomputable def trM (P : Params) : BT := (.node (boot_o_0 P) (.node (o1 P) (.node (o3v6 P) (.node (o7 P) (.node (o15 P) (.node (o31v2 P) (.node (o63 P) (.node (b3Sub 1 P) .nil .nil) .nil) (.node (o95 P) (.node (b3Sub 33 P) .nil .nil) .nil)) (.node (o47 P) (.node (o79 P) (.node (b3Sub 17 P) .nil .nil) .nil) (.node (o111 P) .nil .nil))) (.node (o23 P) (.node (o39 P) (.node (o71 P) (.node (b3Sub 9 P) .nil .nil) .nil) (.node (o103 P) .nil .nil)) (.node (o55 P) (.node (o87 P) (.node (b3Sub 25 P) .nil .nil) .nil) (.node (o119 P) .nil .nil)))) (.node (o11 P) (.node (o19 P) (.node (o35 P) (.node (o67 P) (.node (b3Sub 5 P) .nil .nil) .nil) (.node (o99 P) (.node (b3Sub 37 P) .nil .nil) .nil)) (.node (o51 P) (.node (o83 P) (.node (b3Sub 21 P) .nil .nil) .nil) (.node (o115 P) .nil .nil))) (.node (o27 P) (.node (o43 P) (.node (o75 P) (.node (b3Sub 13 P) .nil .nil) .nil) (.node (o107 P) .nil .nil)) (.node (o59 P) (.node (o91 P) (.node (b3Sub 29 P) .nil .nil) .nil) (.node (o123 P) .nil .nil))))) (.node (o5 P) (.node (o9 P) (.node (o17 P) (.node (o33 P) (.node (o65 P) (.node (b3Sub 3 P) .nil .nil) .nil) (.node (o97 P) (.node (b3Sub 35 P) .nil .nil) .nil)) (.node (o49 P) (.node (o81 P) (.node (b3Sub 19 P) .nil .nil) .nil) (.node (o113 P) .nil .nil))) (.node (o25 P) (.node (o41 P) (.node (o73 P) (.node (b3Sub 11 P) .nil .nil) .nil) (.node (o105 P) .nil .nil)) (.node (o57 P) (.node (o89 P) (.node (b3Sub 27 P) .nil .nil) .nil) (.node (o121 P) .nil .nil)))) (.node (o13 P) (.node (o21 P) (.node (o37 P) (.node (o69 P) (.node (b3Sub 7 P) .nil .nil) .nil) (.node (o101 P) .nil .nil)) (.node (o53 P) (.node (o85 P) (.node (b3Sub 23 P) .nil .nil) .nil) (.node (o117 P) .nil .nil))) (.node (o29 P) (.node (o45 P) (.node (o77 P) (.node (b3Sub 15 P) .nil .nil) .nil) (.node (o109 P) .nil .nil)) (.node (o61 P) (.node (o93 P) (.node (b3Sub 31 P) .nil .nil) .nil) (.node (o125 P) .nil .nil)))))) (.node (o2v1 P) (.node (o4 P) (.node (o8 P) (.node (o16 P) (.node (o32 P) (.node (o64 P) (.node (b3Sub 2 P) .nil .nil) .nil) (.node (o96 P) (.node (b3Sub 34 P) .nil .nil) .nil)) (.node (o48 P) (.node (o80 P) (.node (b3Sub 18 P) .nil .nil) .nil) (.node (o112 P) .nil .nil))) (.node (o24 P) (.node (o40 P) (.node (o72 P) (.node (b3Sub 10 P) .nil .nil) .nil) (.node (o104 P) .nil .nil)) (.node (o56 P) (.node (o88 P) (.node (b3Sub 26 P) .nil .nil) .nil) (.node (o120 P) .nil .nil)))) (.node (o12v5 P) (.node (o20 P) (.node (o36 P) (.node (o68 P) (.node (b3Sub 6 P) .nil .nil) .nil) (.node (o100 P) (.node (b3Sub 38 P) .nil .nil) .nil)) (.node (o52 P) (.node (o84 P) (.node (b3Sub 22 P) .nil .nil) .nil) (.node (o116 P) .nil .nil))) (.node (o28 P) (.node (o44 P) (.node (o76 P) (.node (b3Sub 14 P) .nil .nil) .nil) (.node (o108 P) .nil .nil)) (.node (o60 P) (.node (o92 P) (.node (b3Sub 30 P) .nil .nil) .nil) (.node (o124 P) .nil .nil))))) (.node (o6 P) (.node (o10 P) (.node (o18 P) (.node (o34 P) (.node (o66 P) (.node (b3Sub 4 P) .nil .nil) .nil) (.node (o98 P) (.node (b3Sub 36 P) .nil .nil) .nil)) (.node (o50 P) (.node (o82 P) (.node (b3Sub 20 P) .nil .nil) .nil) (.node (o114 P) .nil .nil))) (.node (o26 P) (.node (o42 P) (.node (o74 P) (.node (b3Sub 12 P) .nil .nil) .nil) (.node (o106 P) .nil .nil)) (.node (o58 P) (.node (o90 P) (.node (b3Sub 28 P) .nil .nil) .nil) (.node (o122 P) .nil .nil)))) (.node (o14 P) (.node (o22 P) (.node (o38 P) (.node (o70 P) (.node (b3Sub 8 P) .nil .nil) .nil) (.node (o102 P) .nil .nil)) (.node (o54 P) (.node (o86 P) (.node (b3Sub 24 P) .nil .nil) .nil) (.node (o118 P) .nil .nil))) (.node (o30 P) (.node (o46 P) (.node (o78 P) (.node (b3Sub 16 P) .nil .nil) .nil) (.node (o110 P) .nil .nil)) (.node (o62 P) (.node (o94 P) (.node (b3Sub 32 P) .nil .nil) .nil) (.node (b3Main P) .nil .nil)))))))

/-! the written part, the view -/
noncomputable def K : Params → Frag := fun P => (nat_lit 2, o2v1 P) :: (nat_lit 3, o3v8 P) :: (nat_lit 15, o15 P) :: (nat_lit 17, o17 P) :: (nat_lit 18, o18 P) :: (nat_lit 20, o20 P) :: (nat_lit 21, o21 P) :: (nat_lit 22, o22 P) :: (nat_lit 29, o29 P) :: (nat_lit 30, o30 P) :: (nat_lit 31, o31v2 P) :: (nat_lit 32, o32 P) :: (nat_lit 35, o35 P) :: (nat_lit 42, o42 P) :: (nat_lit 43, o43 P) :: (nat_lit 44, o44 P) :: (nat_lit 47, o47 P) :: (nat_lit 54, o54 P) :: (nat_lit 55, o55 P) :: (nat_lit 56, o56 P) :: (nat_lit 59, o59 P) :: (nat_lit 61, o61 P) :: (nat_lit 62, o62 P) :: (nat_lit 64, o64 P) :: (nat_lit 65, o65 P) :: (nat_lit 73, o73 P) :: (nat_lit 75, o75 P) :: (nat_lit 76, o76 P) :: (nat_lit 78, o78 P) :: (nat_lit 79, o79 P) :: (nat_lit 80, o80 P) :: (nat_lit 82, o82 P) :: (nat_lit 83, o83 P) :: (nat_lit 85, o85 P) :: (nat_lit 86, o86 P) :: (nat_lit 87, o87 P) :: (nat_lit 89, o89 P) :: (nat_lit 90, o90 P) :: (nat_lit 92, o92 P) :: (nat_lit 93, o93 P) :: (nat_lit 94, o94 P) :: (nat_lit 96, o96 P) :: (nat_lit 97, o97 P) :: (nat_lit 99, o99 P) :: (nat_lit 100, o100 P) :: (nat_lit 101, o101 P) :: (nat_lit 102, o102 P) :: (nat_lit 103, o103 P) :: (nat_lit 104, o104 P) :: (nat_lit 105, o105 P) :: (nat_lit 115, o115 P) :: (nat_lit 119, o119 P) :: (nat_lit 121, o121 P) :: (nat_lit 122, o122 P) :: (nat_lit 124, o124 P) :: (nat_lit 125, o125 P) :: (nat_lit 126, b3Main P) :: (nat_lit 165, o165 P) :: (nat_lit 167, o167 P) :: (nat_lit 168, o168 P) :: (nat_lit 170, o170 P) :: (nat_lit 171, o171 P) :: (nat_lit 172, o172 P) :: (nat_lit 175, o175 P) :: (nat_lit 176, o176 P) :: (nat_lit 177, o177 P) :: (nat_lit 179, o179 P) :: (nat_lit 180, o180 P) :: (nat_lit 182, o182 P) :: (nat_lit 183, o183 P) :: (nat_lit 184, o184 P) :: (nat_lit 186, o186 P) :: (nat_lit 187, o187 P) :: (nat_lit 189, o189 P) :: (nat_lit 190, o190 P) :: (nat_lit 191, o191 P) :: (nat_lit 193, o193 P) :: (nat_lit 194, o194 P) :: (nat_lit 196, o196 P) :: (nat_lit 197, o197 P) :: (nat_lit 198, o198 P) :: (nat_lit 201, o201 P) :: (nat_lit 202, o202 P) :: (nat_lit 203, o203 P) :: (nat_lit 205, o205 P) :: (nat_lit 206, o206 P) :: (nat_lit 208, o208 P) :: (nat_lit 209, o209 P) :: (nat_lit 210, o210 P) :: (nat_lit 212, o212 P) :: (nat_lit 213, o213 P) :: (nat_lit 215, o215 P) :: (nat_lit 216, o216 P) :: (nat_lit 217, o217 P) :: (nat_lit 219, o219 P) :: (nat_lit 220, o220 P) :: (nat_lit 222, o222 P) :: (nat_lit 223, o223 P) :: (nat_lit 224, o224 P) :: (nat_lit 227, o227 P) :: (nat_lit 228, o228 P) :: []
noncomputable def Kas : List Addr := [2, 3, 15, 17, 18, 20, 21, 22, 29, 30, 31, 32, 35, 42, 43, 44, 47, 54, 55, 56, 59, 61, 62, 64, 65, 73, 75, 76, 78, 79, 80, 82, 83, 85, 86, 87, 89, 90, 92, 93, 94, 96, 97, 99, 100, 101, 102, 103, 104, 105, 115, 119, 121, 122, 124, 125, 126, 165, 167, 168, 170, 171, 172, 175, 176, 177, 179, 180, 182, 183, 184, 186, 187, 189, 190, 191, 193, 194, 196, 197, 198, 201, 202, 203, 205, 206, 208, 209, 210, 212, 213, 215, 216, 217, 219, 220, 222, 223, 224, 227, 228]
noncomputable def q : Program := { pw with main := { pw.main with body := [0, 2, 3, 4, 5, 7, 10, 12, 14, 15, 16, 17, 18, 19, 20, 21, 22].map stAt } }
noncomputable abbrev loose : List Str := [Str.ofString "b1_set", Str.ofString "b3_exceptions"]
end Mine

namespace Mine
open PySem PySem.W PySem.Calls PyProof.Rows

noncomputable abbrev envT : Env := { scope := pw.main.scope, locals := mainNs, globals := mainNs, cells := [], code := .ref 13, frame := some 14 }
noncomputable abbrev cE : Code := .body (behindTheImports pw) envT
noncomputable abbrev qT : Pos := ⟨0, 0, 0, 0⟩
noncomputable abbrev BT0 : List Frame := [topFrame qT]
noncomputable abbrev annT : Option Value := some (.ref 6)
noncomputable abbrev stT (t : Params → BT) (n toks : Nat) (w : World) (os : OsState) : SharedT := ⟨t w.params, n, {}, #[], {}, toks, os⟩
noncomputable def sts (i n : Nat) : List Stmt := (List.range n).map fun j => stAt (i + j)
noncomputable abbrev thT (l : List Stmt) (pos : Pos) : Thread := ⟨(execs l envT).wrap doneF deadEnd id id, cE, pos, BT0⟩
noncomputable def Seg (i n N : Nat) (t : Params → BT) (m k : Nat) (p : Pos) (t' : Params → BT) (m' k' : Nat) (p' : Pos) (w : World) : Prop :=
  (fun os => segRunT treeTable pw w 11 annT 1 N (stT t m k w os) (thT (sts i n) p)) = fun os => some (Flow.next, stT t' m' k' w os, cE, p')

set_option maxHeartbeats 0

theorem pre0 (w : World) : (fun os => topGo treeTable pw w 11 annT 12 ⟨boot_heap w.params, #[], boot_drawn, boot_toks, os⟩ (topStub pw)) =
    fun os => some ((stT trp 15 187 w os).abs, ⟨denote treeTable cE, cE, ⟨0, 0, 0, 0⟩, BT0⟩) := by
  rw [Fast.te15667345088766844465, Fast.te14364793385576792824, Fast.te11892475500146522536]
  kernel_rfl
theorem block0 (w : World) : (fun os => segRunT treeTable pw w 11 annT 1 1 (stT trp 15 187 w os) (blockOf (behindTheImports pw) envT cE ⟨0, 0, 0, 0⟩ BT0)) =
    fun os => some (Flow.next, stT trp 15 187 w os, cE, ⟨0, 0, 0, 0⟩) := by
  kernel_rfl
theorem fin0 (w : World) : (fun os => topRun treeTable pw w 11 annT 2 (stT tr7 229 2439 w os).abs ⟨doneF .next, cE, ⟨138, 0, 154, 15⟩, BT0⟩) = fun os => some (stT tr7 229 2439 w os).abs := by
  kernel_rfl

theorem seg0 (w : World) : Seg 0 3 235 trp 15 187 ⟨0, 0, 0, 0⟩ tr0 35 216 ⟨5, 0, 6, 8⟩ w := by
  unfold Seg; delta thT
  rw [Fast.te10110043849684766642, Fast.te14364793385576792824, Fast.te12563942051412417395]
  kernel_rfl
theorem seg1 (w : World) : Seg 3 1 214 tr0 35 216 ⟨5, 0, 6, 8⟩ tr1 47 232 ⟨7, 0, 8, 8⟩ w := by
  unfold Seg; delta thT
  rw [Fast.te10110043849684766642, Fast.te14364793385576792824, Fast.te12563942051412417395]
  kernel_rfl
theorem seg2 (w : World) : Seg 4 3 258 tr1 47 232 ⟨7, 0, 8, 8⟩ tr2 66 263 ⟨28, 0, 28, 8⟩ w := by
  unfold Seg; delta thT
  rw [Fast.te10110043849684766642, Fast.te14364793385576792824, Fast.te12563942051412417395]
  kernel_rfl
theorem seg3 (w : World) : Seg 7 2 333 tr2 66 263 ⟨28, 0, 28, 8⟩ tr3 108 323 ⟨72, 0, 72, 8⟩ w := by
  unfold Seg; delta thT
  rw [Fast.te10110043849684766642, Fast.te14364793385576792824, Fast.te12563942051412417395]
  kernel_rfl
theorem seg5 (w : World) : Seg 10 1 30 tr4 119 383 ⟨73, 0, 73, 6⟩ tr5 126 390 ⟨74, 0, 75, 30⟩ w := by
  unfold Seg; delta thT
  rw [Fast.te10110043849684766642, Fast.te14364793385576792824, Fast.te12563942051412417395]
  kernel_rfl
theorem seg7 (w : World) : Seg 12 11 320 tr6 165 2341 ⟨76, 0, 76, 13⟩ tr7 229 2439 ⟨138, 0, 154, 15⟩ w := by
  unfold Seg; delta thT
  rw [Fast.te10110043849684766642, Fast.te14364793385576792824, Fast.te12563942051412417395]
  kernel_rfl
end Mine

namespace Mine
open PySem PySem.W PySem.Calls PyProof.Rows
set_option maxHeartbeats 0
theorem seg4_ (b c : Bool) : ∀ w : World, Seg 9 1 999 tr3 108 323 ⟨72, 0, 72, 8⟩ tr4 119 383 ⟨73, 0, 73, 6⟩ ((w.withFollow "special-get-raises" b).withFollow "set-order" c) := by
  intro w
  unfold Seg; delta thT
  rw [Fast.te10110043849684766642, Fast.te14364793385576792824, Fast.te12563942051412417395]
  cases b <;> cases c
  · kernel_rfl
  · kernel_rfl
  · kernel_rfl
  · kernel_rfl
theorem seg4 (w : World) : Seg 9 1 999 tr3 108 323 ⟨72, 0, 72, 8⟩ tr4 119 383 ⟨73, 0, 73, 6⟩ w := by
  have h := seg4_ (w.params.followText "special-get-raises") (w.params.followText "set-order") w
  rwa [World.withFollow_self, World.withFollow_self] at h
end Mine

namespace Mine
open PySem PySem.W PySem.Calls PyProof.Rows
set_option maxHeartbeats 0
noncomputable def H1 (P : Params) : Heap := ⟨List.toArray [boot_o_0 P, o1 P, o2v1 P, o3v8 P, o4 P, o5 P, o6 P, o7 P, o8 P, o9 P, o10 P, o11 P, o12v6 P, o13 P, o14 P, o15 P, o16 P, o17 P, o18 P, o19 P, o20 P, o21 P, o22 P, o23 P, o24 P, o25 P, o26 P, o27 P, o28 P, o29 P, o30 P, o31v2 P, o32 P, o33 P, o34 P, o35 P, o36 P, o37 P, o38 P, o39 P, o40 P, o41 P, o42 P, o43 P, o44 P, o45 P, o46 P, o47 P, o48 P, o49 P, o50 P, o51 P, o52 P, o53 P, o54 P, o55 P, o56 P, o57 P, o58 P, o59 P, o60 P, o61 P, o62 P, o63 P, o64 P, o65 P, o66 P, o67 P, o68 P, o69 P, o70 P, o71 P, o72 P, o73 P, o74 P, o75 P, o76 P, o77 P, o78 P, o79 P, o80 P, o81 P, o82 P, o83 P, o84 P, o85 P, o86 P, o87 P, o88 P, o89 P, o90 P, o91 P, o92 P, o93 P, o94 P, o95 P, o96 P, o97 P, o98 P, o99 P, o100 P, o101 P, o102 P, o103 P, o104 P, o105 P, o106 P, o107 P, o108 P, o109 P, o110 P, o111 P, o112 P, o113 P, o114 P, o115 P, o116 P, o117 P, o118 P, o119 P, o120 P, o121 P, o122 P, o123 P, o124 P, o125 P, b3Main P, b3Sub 1 P, b3Sub 2 P, b3Sub 3 P, b3Sub 4 P, b3Sub 5 P, b3Sub 6 P, b3Sub 7 P, b3Sub 8 P, b3Sub 9 P, b3Sub 10 P, b3Sub 11 P, b3Sub 12 P, b3Sub 13 P, b3Sub 14 P, b3Sub 15 P, b3Sub 16 P, b3Sub 17 P, b3Sub 18 P, b3Sub 19 P, b3Sub 20 P, b3Sub 21 P, b3Sub 22 P, b3Sub 23 P, b3Sub 24 P, b3Sub 25 P, b3Sub 26 P, b3Sub 27 P, b3Sub 28 P, b3Sub 29 P, b3Sub 30 P, b3Sub 31 P, b3Sub 32 P, b3Sub 33 P, b3Sub 34 P, b3Sub 35 P, b3Sub 36 P, b3Sub 37 P, b3Sub 38 P, o165 P, o166 P, o167 P, o168 P, o169 P, o170 P, o171 P, o172 P, o173 P, o174 P, o175 P, o176 P, o177 P, o178 P, o179 P, o180 P, o181 P, o182 P, o183 P, o184 P, o185 P, o186 P, o187 P, o188 P, o189 P, o190 P, o191 P, o192 P, o193 P, o194 P, o195 P, o196 P, o197 P, o198 P, o199 P, o200 P, o201 P, o202 P, o203 P, o204 P, o205 P, o206 P, o207 P, o208 P, o209 P, o210 P, o211 P, o212 P, o213 P, o214 P, o215 P, o216 P, o217 P, o218 P, o219 P, o220 P, o221 P, o222 P, o223 P, o224 P, o225 P, o226 P, o227 P, o228 P], {}⟩
noncomputable abbrev rw1 : RowW := PySem.Challenge.rw_tr0056_01.row.toRowW
noncomputable abbrev hkK : Hook := kmHook K Kas (fun _ => by kernel_rfl) [178]
noncomputable abbrev XtT : Shared → Bool := fun s => xlAt q [] s && recOk rw1.records s
noncomputable abbrev s1 (w : World) (os : OsState) : Shared := ⟨H1 w.params, #[], {}, 2439, os⟩
theorem fin1 (w : World) : (fun os => topRun treeTable pw w 11 annT 2 (stT tr7 229 2439 w os).abs ⟨doneF .next, cE, ⟨138, 0, 154, 15⟩, BT0⟩) = fun os => some (s1 w os) := by
  kernel_rfl
theorem size1 (w : World) : ((boot_heap w.params).isNs mainGlobals && (#[] : Array GenState).size == 0, (boot_heap w.params).objs.size, (boot_heap w.params).nsMap mainGlobals "__annotations__") = (true, 11, annT) := by
  kernel_rfl
theorem look1 (w : World) : (fun os => (staticsOk (importedModules pw.main.body) (boot_heap w.params) (H1 w.params) && namesBound pw (H1 w.params) && gensDone (s1 w os) && laidKept (boot_heap w.params) (H1 w.params))) = fun _ => true := by
  kernel_rfl
theorem look2 (w : World) : (fun os => openSeen q loose (importedModules pw.main.body) XtT true (s1 w os)) = fun _ => openGood q loose := by
  rw [Fast.te4187177175401517315]
  unfold openGood expectedOf pinGoodD plainGoodE plainGoodD wideGood clsGoodW
  rw [Fast.te3399658132070893891, Fast.te3247288618530077131, Fast.te210736558901404530, Fast.te12515865711710729776, Fast.te821141287760084731, Fast.te4354255287344443571, Fast.te694669760492028198, Fast.te1571739515156823405]
  kernel_rfl
theorem look3 (w : World) : (fun os => hkK.obs (s1 w os)) = fun _ => hkK.val w := by
  kernel_rfl
end Mine

namespace Mine
open PySem PySem.W PySem.Calls PyProof.Rows

/-! runs of a part of a statement at the top -/
section
variable {w : World}
noncomputable abbrev sr (w : World) (N : Nat) (s : Shared) (t : Thread) := segRun treeTable pw w 11 annT 1 N s t
noncomputable def Go (w : World) {α : Type} (m : Sem α) (s : Shared) (p : Pos) (a : α) (s' : Shared) (p' : Pos) (n : Nat) : Prop :=
  ∀ (K : α → Sem Fin) (H : Value → Sem Fin) (gd : Bool → Bool) (lv : List Value → List Value) (N : Nat),
    sr w (N + n) s ⟨m.wrap K H gd lv, cE, p, BT0⟩ = sr w N s' ⟨K a, cE, p', BT0⟩

theorem go_pure {α : Type} {a : α} {s : Shared} {p : Pos} : Go w (pure a) s p a s p 0 := fun _ _ _ _ _ => rfl
theorem go_bind {α β : Type} {m : Sem α} {f : α → Sem β} {s s₁ s₂ : Shared} {p p₁ p₂ : Pos} {a : α} {b : β} {n₁ n₂ n : Nat}
    (h : Go w m s p a s₁ p₁ n₁) (k : Go w (f a) s₁ p₁ b s₂ p₂ n₂) (hn : n₂ + n₁ = n := by first | rfl | omega) : Go w (m >>= f) s p b s₂ p₂ n := fun K H gd lv N => by
  rw [Sem.bind_eq_wrap', Sem.wrap_wrap, ← hn, ← Nat.add_assoc]
  exact (h _ _ _ _ _).trans (k K H gd lv N)
theorem go_keep {α : Type} {m : Sem α} {vs : List Value} {s s' : Shared} {p p' : Pos} {a : α} {n : Nat} (h : Go w m s p a s' p' n) : Go w (m.keep vs) s p a s' p' n := fun K H gd lv N => by
  rw [Sem.keep_eq_wrap, Sem.wrap_wrap]
  exact h _ _ _ _ _
theorem go_holding {α : Type} {m : Sem α} {vs : List Value} {s s' : Shared} {p p' : Pos} {a : α} {n : Nat} (h : Go w m s p a s' p' n) : Go w (holding vs m) s p a s' p' n := by
  unfold holding
  split
  · exact h
  · exact go_keep h
theorem go_rule {tag : String} {s : Shared} {p : Pos} : Go w (rule tag) s p () s p 1 := fun K H gd lv N => by cases s; rfl
theorem go_at {q : Pos} {s : Shared} {p : Pos} : Go w (standAt q) s p () s q 1 := fun K H gd lv N => by cases s; rfl
theorem sr_step {N : Nat} {s s' : Shared} {t t' : Thread} (he : endAt 1 t = none) (hk : stepOk 11 annT t = true) (hs : step (denote treeTable) pw w s t = .go s' t') : sr w (N + 1) s t = sr w N s' t' := by
  simp only [sr, segRun, he, hk, hs]
theorem go_load {a : Addr} {part : Option Value} {o : Obj} {s : Shared} {p : Pos} (h : s.heap.get? a = some o) : Go w (loadPart a part) s p o s p 1 := fun K H gd lv N => by
  obtain ⟨heap, gens, drawn, toks, os⟩ := s
  have h : heap.get? a = some o := h
  exact sr_step (t := ⟨.load a part _, cE, p, BT0⟩) rfl rfl (by simp only [step, h]; rfl)
theorem go_update {a : Addr} {part : Option Value} {f : Obj → Obj} {o : Obj} {s : Shared} {p : Pos} (h : s.heap.get? a = some o) (ha : Nat.ble 11 a = true) :
    Go w (updatePart a part f) s p () { s with heap := s.heap.update a f } p 1 := fun K H gd lv N => by
  obtain ⟨heap, gens, drawn, toks, os⟩ := s
  have h : heap.get? a = some o := h
  refine sr_step (t := ⟨.update a part f _, cE, p, BT0⟩) rfl ?_ (by simp only [step, h, Option.isSome_some, if_true]; rfl)
  show (true && (Nat.ble 11 a || a == mainNs || a == cStatics || _)) = true
  rw [ha]; rfl
theorem go_alloc {o : Obj} {s : Shared} {p : Pos} : Go w (alloc o) s p s.heap.objs.size { s with heap := s.heap.push o } p 1 := fun K H gd lv N => by cases s; rfl
theorem go_fresh {s : Shared} {p : Pos} : Go w fresh s p s.toks { s with toks := s.toks + 1 } p 1 := fun K H gd lv N => by cases s; rfl
theorem go_ask {s : Shared} {p : Pos} : Go w PySem.ask s p ⟨pw, w.params⟩ s p 1 := fun K H gd lv N => by cases s; rfl

theorem go_const {k : Int} {s : Shared} {p q : Pos} : Go w (eval (.Constant (.int k) 0 q) envT) s p (.int k s.toks) { s with toks := s.toks + 1 } p 1 := fun K H gd lv N => by cases s; rfl

theorem go_hash0 (b : Bool) (k : Int) (t : Tok) (s : Shared) (p : Pos) (w : World) (K : Int → Sem PySem.Fin) (H : Value → Sem PySem.Fin) (gd : Bool → Bool) (lv : List Value → List Value) (N : Nat) :
    sr (w.withFollow "special-get-raises" b) (N + 5) s ⟨(pyHash (.int k t)).wrap K H gd lv, cE, p, BT0⟩ =
    sr (w.withFollow "special-get-raises" b) N { s with toks := s.toks + 1 } ⟨(pyHashByItsType.reduced (rawHash k)).wrap K H gd lv, cE, p, BT0⟩ := by
  cases s; cases b
  · kernel_rfl
  · kernel_rfl
theorem go_hash {k : Int} {t : Tok} {s : Shared} {p : Pos} (hk : 0 ≤ k ∧ k < 2 ^ 40) : Go w (pyHash (.int k t)) s p k { s with toks := s.toks + 1 } p 5 := fun K H gd lv N => by
  have h := go_hash0 (w.params.followText "special-get-raises") k t s p w K H gd lv N
  rw [World.withFollow_self] at h
  rw [h]
  have hr : rawHash k = k := by
    have e : ((k.natAbs : Int) % ((2 ^ 61 - 1 : Nat) : Int)) = k := by
      rw [show ((2 ^ 61 - 1 : Nat) : Int) = 2305843009213693951 from rfl]; omega
    unfold rawHash
    simp only [e]
    rw [if_neg (show ¬ k < 0 by omega)]
    have : (k == -1) = false := by simp; omega
    rw [this]; rfl
  have hd : pyHashByItsType.reduced k = pure k := by
    show (if (decide (-(2 : Int) ^ 63 ≤ k) && decide (k < 2 ^ 63)) = true then (pure (if (k == -1) = true then -2 else k) : Sem Int) else _) = _
    rw [if_pos (by rw [decide_eq_true (by omega), decide_eq_true (by omega)]; rfl)]
    have : (k == -1) = false := by simp; omega
    rw [this]; rfl
  rw [hr, hd]; rfl


theorem places_none {es : List DictEntry} {k : Int} (hn : ∀ e ∈ es, e.hash ≠ k) : placesWithHash es.toArray.size (fun i => es.toArray[i]?.map (·.hash)) k = [] := by
  unfold placesWithHash
  refine List.filter_eq_nil_iff.mpr fun i hi => ?_
  simp only [List.getElem?_toArray]
  cases h : es[i]? with
  | none => simp
  | some e =>
    have := hn e (List.mem_of_getElem? h)
    simpa using this

theorem go_entries {d : Addr} {part : Option Value} {es : List DictEntry} {s : Shared} {p : Pos} (ho : s.heap.get? d = some (dOb es)) : Go w (dictEntries d part) s p es.toArray s p 1 := by
  unfold dictEntries
  exact go_bind (n₂ := 0) (go_load ho) go_pure
theorem go_epoch {d : Addr} {part : Option Value} {es : List DictEntry} {s : Shared} {p : Pos} (ho : s.heap.get? d = some (dOb es)) : Go w (dictEpoch d part) s p es.length s p 1 := by
  unfold dictEpoch
  exact go_bind (n₂ := 0) (go_load ho) go_pure
theorem go_find {d : Addr} {es : List DictEntry} {k : Int} {t : Tok} {s : Shared} {p : Pos} (ho : s.heap.get? d = some (dOb es)) (hn : ∀ e ∈ es, e.hash ≠ k) : Go w (dictFind d (.int k t) k) s p none s p 1 := by
  unfold dictFind
  refine go_holding (go_bind (n₂ := 0) (go_entries ho) ?_)
  dsimp only
  rw [places_none hn]
  exact go_bind (n₁ := 0) (n₂ := 0) go_pure go_pure
theorem go_keys {d : Addr} {part : Option Value} {es : List DictEntry} {e : DictEntry} {s : Shared} {p : Pos} (ho : s.heap.get? d = some (dOb es)) (ha : Nat.ble 11 d = true) (hz : es.length ≤ 1000)
    (h' : (s.heap.update d (Obj.mapDictKeys (·.push e))).get? d = some (dOb (es ++ [e]))) :
    Go w (updateDictKeys d (·.push e) part) s p () { s with heap := s.heap.update d (Obj.mapDictKeys (·.push e)) } p 3 := by
  unfold updateDictKeys
  refine go_bind (n₁ := 1) (n₂ := 2) (go_load ho) ?_
  refine go_bind (n₁ := 1) (n₂ := 1) (go_update ho ha) ?_
  unfold lookBehind
  refine go_bind (n₁ := 1) (n₂ := 0) (go_load h') ?_
  have : (dOb (es ++ [e])).data.pastItsLine = none := by
    show (if (es ++ [e]).toArray.size > sizeLine + 1 then some "dict:memory" else none) = none
    rw [if_neg]
    rw [List.size_toArray, List.length_append, sizeLine_eq]
    simp only [List.length_cons, List.length_nil]; omega
  rw [this]
  exact go_pure
theorem go_set {d : Addr} {es : List DictEntry} {k : Int} {t : Tok} {v : Value} {s : Shared} {p : Pos} (hk : 0 ≤ k ∧ k < 2 ^ 40) (ho : s.heap.get? d = some (dOb es)) (hn : ∀ e ∈ es, e.hash ≠ k) (ha : Nat.ble 11 d = true) (hz : es.length ≤ 1000)
    (h' : (s.heap.update d (Obj.mapDictKeys (·.push ⟨k, .int k t, v⟩))).get? d = some (dOb (es ++ [⟨k, .int k t, v⟩]))) :
    Go w (dictSet d (.int k t) v) s p () { s with heap := s.heap.update d (Obj.mapDictKeys (·.push ⟨k, .int k t, v⟩)), toks := s.toks + 1 } p 10 := by
  unfold dictSet
  refine go_holding (go_bind (n₁ := 5) (n₂ := 5) (go_hash hk) ?_)
  unfold dictSetHashed
  refine go_holding (go_bind (n₁ := 1) (n₂ := 4) (go_find ho hn) ?_)
  refine go_bind (n₁ := 1) (n₂ := 3) go_rule ?_
  exact go_keys (s := { s with toks := s.toks + 1 }) ho ha hz h'
end
end Mine

namespace Mine
open PySem PySem.W PySem.Calls PyProof.Rows

/-! the heap while the long table is laid -/
section
variable {w : World}
noncomputable abbrev hpL (l : List Obj) (life : Life) : Heap := ⟨l.toArray, life⟩
theorem hp_get {l : List Obj} {life : Life} {a : Nat} {es : List DictEntry} (h : l[a]? = some (dOb es)) : (hpL l life).get? a = some (dOb es) := by
  unfold Heap.get?
  simp only [List.getElem?_toArray, h]
  rfl
theorem hp_push {l : List Obj} {life : Life} {o : Obj} : (hpL l life).push o = hpL (l ++ [o]) life := by
  unfold Heap.push
  simp [hpL]
theorem hp_upd {X T : List Obj} {life : Life} {es : List DictEntry} {e : DictEntry} :
    (hpL (X ++ dOb es :: T) life).update X.length (Obj.mapDictKeys (·.push e)) = hpL (X ++ dOb (es ++ [e]) :: T) life := by
  unfold Heap.update
  simp only [hpL, Heap.mk.injEq, and_true]
  apply Array.ext_getElem?
  intro i
  rw [Array.getElem?_modify]
  simp only [List.getElem?_toArray, List.getElem?_append]
  by_cases h : i < X.length
  · simp only [h, if_true]
    rw [if_neg (by omega)]
  · simp only [h, if_false]
    by_cases h2 : X.length = i
    · subst h2
      simp [dOb, Obj.mapDictKeys]
    · rw [if_neg h2]
      obtain ⟨k, hk⟩ : ∃ k, i - X.length = k + 1 := ⟨i - X.length - 1, by omega⟩
      simp [hk]
theorem hp_at {X T : List Obj} {life : Life} {es : List DictEntry} : (hpL (X ++ dOb es :: T) life).get? X.length = some (dOb es) :=
  hp_get (by simp)

theorem go_text {x : Str} {s : Shared} {p : Pos} : Go w (mkText x) s p (.str x s.toks) { s with toks := s.toks + 1 } p 1 := fun K H gd lv N => by cases s; rfl
theorem go_int {k : Int} {s : Shared} {p : Pos} : Go w (mkInt k) s p (.int k s.toks) { s with toks := s.toks + 1 } p 1 := fun K H gd lv N => by cases s; rfl

/-- an entry of the display: its key's tree, its value's -/
noncomputable abbrev pr (q : Pos) (y : Int × Str) : Sem Value × Sem Value := (mkInt y.1, do let x ← mkText y.2; standAt q; pure x)
theorem go_val {q : Pos} {x : Str} {s : Shared} {p : Pos} : Go w (do let x ← mkText x; standAt q; pure x : Sem Value) s p (.str x s.toks) { s with toks := s.toks + 1 } q 2 :=
  go_bind (n₁ := 1) (n₂ := 1) go_text (go_bind (n₁ := 1) (n₂ := 0) go_at go_pure)

noncomputable def endP (q p : Pos) : List (Int × Str) → Pos
  | [] => p
  | _ :: _ => q

/-- a turn of a display's long road -/
noncomputable abbrev longT (d : Addr) (y : Sem Value × Sem Value) : Sem (ForInStep PUnit) := match y with
  | (k, v) => do
    let kv ← k
    let vv ← holding [kv] v
    holding [kv, vv] (dictSet d kv vv)
    pure (ForInStep.yield PUnit.unit)

noncomputable def Fresh (es : List DictEntry) (L : List (Int × Str)) : Prop := (es.map (·.hash) ++ L.map (·.1)).Nodup ∧ (∀ y ∈ L, 0 ≤ y.1 ∧ y.1 < 2 ^ 40) ∧ es.length + L.length ≤ 1000
theorem Fresh.head {es : List DictEntry} {y : Int × Str} {L : List (Int × Str)} (h : Fresh es (y :: L)) : ∀ e ∈ es, e.hash ≠ y.1 := fun e he q => by
  have := h.1
  rw [List.nodup_append] at this
  exact this.2.2 _ (List.mem_map_of_mem he) _ (by simp) q
theorem Fresh.tail {es : List DictEntry} {y : Int × Str} {L : List (Int × Str)} {e : DictEntry} (h : Fresh es (y :: L)) (he : e.hash = y.1) : Fresh (es ++ [e]) L := by
  obtain ⟨h1, h2, h3⟩ := h
  refine ⟨?_, fun z hz => h2 z (.tail _ hz), by simp only [List.length_append, List.length_cons, List.length_nil] at h3 ⊢; omega⟩
  simpa [he] using h1

theorem go_one {X T : List Obj} {life : Life} {es : List DictEntry} {y : Int × Str} {q p : Pos} {gens : Array GenState} {drawn : Drawn} {tk : Nat} {os : OsState}
    (hX : 11 ≤ X.length) (hf : Fresh es (y :: [])) :
    Go w (longT X.length (pr q y)) ⟨hpL (X ++ dOb es :: T) life, gens, drawn, tk, os⟩ p (.yield ()) ⟨hpL (X ++ dOb (es ++ [⟨y.1, .int y.1 tk, .str y.2 (tk + 1)⟩]) :: T) life, gens, drawn, tk + 3, os⟩ q 13 := by
  have h := go_set (w := w) (d := X.length) (es := es) (k := y.1) (t := tk) (v := .str y.2 (tk + 1)) (s := ⟨hpL (X ++ dOb es :: T) life, gens, drawn, tk + 2, os⟩) (p := q)
    (hf.2.1 y (.head _)) hp_at hf.head (Nat.ble_eq_true_of_le hX) (by have := hf.2.2; simp only [List.length_cons, List.length_nil] at this; omega) (by
      show ((hpL (X ++ dOb es :: T) life).update _ _).get? _ = _
      rw [hp_upd]; exact hp_at)
  have e : (hpL (X ++ dOb es :: T) life).update X.length (Obj.mapDictKeys (·.push ⟨y.1, .int y.1 tk, .str y.2 (tk + 1)⟩)) = hpL (X ++ dOb (es ++ [⟨y.1, .int y.1 tk, .str y.2 (tk + 1)⟩]) :: T) life := hp_upd
  simp only [e] at h
  refine go_bind (n₁ := 1) (n₂ := 12) go_int ?_
  exact go_bind (n₁ := 2) (n₂ := 10) (go_holding go_val) (go_bind (n₁ := 10) (n₂ := 0) (go_holding h) go_pure)

theorem go_long {X T : List Obj} {life : Life} {q : Pos} {gens : Array GenState} {drawn : Drawn} {os : OsState} (hX : 11 ≤ X.length) :
    ∀ (L : List (Int × Str)) (es : List DictEntry) (tk : Nat) (p : Pos), Fresh es L →
    Go w (forIn (L.map (pr q)) PUnit.unit (fun y (_ : PUnit) => longT X.length y))
      ⟨hpL (X ++ dOb es :: T) life, gens, drawn, tk, os⟩ p PUnit.unit ⟨hpL (X ++ dOb (es ++ ent3 tk L) :: T) life, gens, drawn, tk + 3 * L.length, os⟩ (endP q p L) (13 * L.length)
  | [], es, tk, p, _ => by
    simp only [List.map_nil, List.forIn_nil, ent3, List.append_nil, endP, List.length_nil, Nat.mul_zero, Nat.add_zero]
    exact go_pure
  | y :: L, es, tk, p, hf => by
    simp only [List.map_cons, List.forIn_cons, endP]
    have hf1 : Fresh es [y] := ⟨by
        have := hf.1
        simp only [List.map_cons] at this
        rw [show es.map (·.hash) ++ y.1 :: L.map (·.1) = (es.map (·.hash) ++ [y.1]) ++ L.map (·.1) by simp] at this
        exact (List.nodup_append.mp this).1, fun z hz => hf.2.1 z (by cases hz with | head => exact .head _ | tail _ h => cases h), by have := hf.2.2; simp only [List.length_cons, List.length_nil] at this ⊢; omega⟩
    have h1 := go_one (w := w) (X := X) (T := T) (life := life) (q := q) (p := p) (gens := gens) (drawn := drawn) (tk := tk) (os := os) hX hf1
    have h2 := go_long (T := T) (life := life) (q := q) (gens := gens) (drawn := drawn) (os := os) hX L (es ++ [⟨y.1, .int y.1 tk, .str y.2 (tk + 1)⟩]) (tk + 3) q (hf.tail rfl)
    have e3 : es ++ ent3 tk (y :: L) = (es ++ [⟨y.1, .int y.1 tk, .str y.2 (tk + 1)⟩]) ++ ent3 (tk + 3) L := by simp [ent3]
    have e4 : tk + 3 * (y :: L).length = tk + 3 + 3 * L.length := by simp only [List.length_cons]; omega
    have e5 : 13 * (y :: L).length = 13 * L.length + 13 := by simp only [List.length_cons]; omega
    have e6 : endP q q L = q := by cases L <;> rfl
    rw [e6] at h2
    rw [e3, e4, e5]
    exact go_bind (n₁ := 13) (n₂ := 13 * L.length) h1 h2

/-- the short road: first the pairs' values, then the entries -/
noncomputable def vals : Nat → List (Int × Str) → List (Value × Value)
  | _, [] => []
  | t, (k, x) :: r => (.int k t, .str x (t + 1)) :: vals (t + 2) r
theorem go_evals {q : Pos} {heap : Heap} {gens : Array GenState} {drawn : Drawn} {os : OsState} : ∀ (L : List (Int × Str)) (tk : Nat) (p : Pos),
    Go w (evalPairs (L.map (pr q))) ⟨heap, gens, drawn, tk, os⟩ p (vals tk L) ⟨heap, gens, drawn, tk + 2 * L.length, os⟩ (endP q p L) (3 * L.length)
  | [], tk, p => go_pure
  | y :: L, tk, p => by
    have h := go_evals (q := q) (heap := heap) (gens := gens) (drawn := drawn) (os := os) L (tk + 2) q
    have e6 : endP q q L = q := by cases L <;> rfl
    rw [e6] at h
    have e4 : tk + 2 * (y :: L).length = tk + 2 + 2 * L.length := by simp only [List.length_cons]; omega
    have e5 : 3 * (y :: L).length = ((0 + 3 * L.length) + 2) + 1 := by simp only [List.length_cons]; omega
    rw [e4, e5]
    show Go w (do
      let kv ← mkInt y.1
      let vv ← holding [kv] (do let x ← mkText y.2; standAt q; pure x)
      return (kv, vv) :: (← holding [kv, vv] (evalPairs (L.map (pr q))))) _ _ _ _ _ _
    refine go_bind (n₁ := 1) (n₂ := (0 + 3 * L.length) + 2) go_int ?_
    refine go_bind (n₁ := 2) (n₂ := 0 + 3 * L.length) (go_holding go_val) ?_
    refine go_bind (n₁ := 3 * L.length) (n₂ := 0) (go_holding h) ?_
    exact go_pure
theorem go_puts {X T : List Obj} {life : Life} {gens : Array GenState} {drawn : Drawn} {os : OsState} {p : Pos} (hX : 11 ≤ X.length) :
    ∀ (L : List (Int × Str)) (es : List DictEntry) (tv tk : Nat), Fresh es L →
    Go w (forIn (vals tv L) PUnit.unit (fun x (_ : PUnit) => (match x with | (k, v) => do dictSet X.length k v; pure (ForInStep.yield PUnit.unit) : Sem (ForInStep PUnit))))
      ⟨hpL (X ++ dOb es :: T) life, gens, drawn, tk, os⟩ p PUnit.unit ⟨hpL (X ++ dOb (es ++ ent2 tv L) :: T) life, gens, drawn, tk + L.length, os⟩ p (10 * L.length)
  | [], es, tv, tk, _ => by
    simp only [vals, List.forIn_nil, ent2, List.append_nil, List.length_nil, Nat.mul_zero, Nat.add_zero]
    exact go_pure
  | y :: L, es, tv, tk, hf => by
    simp only [vals, List.forIn_cons]
    have h := go_set (w := w) (d := X.length) (es := es) (k := y.1) (t := tv) (v := .str y.2 (tv + 1)) (s := ⟨hpL (X ++ dOb es :: T) life, gens, drawn, tk, os⟩) (p := p)
      (hf.2.1 y (.head _)) hp_at hf.head (Nat.ble_eq_true_of_le hX) (by have := hf.2.2; simp only [List.length_cons] at this; omega) (by
        show ((hpL (X ++ dOb es :: T) life).update _ _).get? _ = _
        rw [hp_upd]; exact hp_at)
    have e : (hpL (X ++ dOb es :: T) life).update X.length (Obj.mapDictKeys (·.push ⟨y.1, .int y.1 tv, .str y.2 (tv + 1)⟩)) = hpL (X ++ dOb (es ++ [⟨y.1, .int y.1 tv, .str y.2 (tv + 1)⟩]) :: T) life := hp_upd
    simp only [e] at h
    have h2 := go_puts (T := T) (life := life) (gens := gens) (drawn := drawn) (os := os) (p := p) hX L (es ++ [⟨y.1, .int y.1 tv, .str y.2 (tv + 1)⟩]) (tv + 2) (tk + 1) (hf.tail rfl)
    have e3 : es ++ ent2 tv (y :: L) = (es ++ [⟨y.1, .int y.1 tv, .str y.2 (tv + 1)⟩]) ++ ent2 (tv + 2) L := by simp [ent2]
    have e4 : tk + (y :: L).length = tk + 1 + L.length := by simp only [List.length_cons]; omega
    have e5 : 10 * (y :: L).length = 10 * L.length + 10 := by simp only [List.length_cons]; omega
    rw [e3, e4, e5]
    exact go_bind (n₁ := 10) (n₂ := 10 * L.length) (go_bind (n₁ := 10) (n₂ := 0) h go_pure) h2

/-- a display's part of more than fifteen pairs; of fifteen at most -/
theorem go_sub {X : List Obj} {life : Life} {gens : Array GenState} {drawn : Drawn} {os : OsState} {q p : Pos} {tk : Nat} {L : List (Int × Str)} (hX : 11 ≤ X.length) (hf : Fresh [] L) (hl : ¬ L.length ≤ 15) (hne : L ≠ []) :
    Go w (subDict (L.map (pr q))) ⟨hpL X life, gens, drawn, tk, os⟩ p X.length ⟨hpL (X ++ [dOb (ent3 tk L)]) life, gens, drawn, tk + 3 * L.length, os⟩ q (13 * L.length + 2) := by
  have h := go_long (w := w) (T := []) (life := life) (q := q) (gens := gens) (drawn := drawn) (os := os) hX L [] tk p hf
  rw [show endP q p L = q by cases L with | nil => exact absurd rfl hne | cons => rfl, List.nil_append] at h
  unfold subDict
  refine go_bind (n₁ := 1) (n₂ := 13 * L.length + 1) go_alloc ?_
  have e : (hpL X life).objs.size = X.length := by simp
  show Go w (holding [.ref (hpL X life).objs.size] _ >>= _) ⟨(hpL X life).push _, gens, drawn, tk, os⟩ _ _ _ _ _
  rw [e, hp_push]
  refine go_bind (a := ()) (n₁ := 13 * L.length + 1) (n₂ := 0) (go_holding ?_) go_pure
  rw [if_neg (by rw [List.length_map]; exact hl)]
  refine go_bind (n₁ := 1) (n₂ := 13 * L.length) go_rule ?_
  exact go_bind (n₁ := 13 * L.length) (n₂ := 0) h go_pure
theorem go_sub2 {X : List Obj} {life : Life} {gens : Array GenState} {drawn : Drawn} {os : OsState} {q p : Pos} {tk : Nat} {L : List (Int × Str)} (hX : 11 ≤ X.length) (hf : Fresh [] L) (hl : L.length ≤ 15) (hne : L ≠ []) :
    Go w (subDict (L.map (pr q))) ⟨hpL X life, gens, drawn, tk, os⟩ p X.length ⟨hpL (X ++ [dOb (ent2 tk L)]) life, gens, drawn, tk + 3 * L.length, os⟩ q (13 * L.length + 1) := by
  have h1 := go_evals (w := w) (q := q) (heap := hpL (X ++ [dOb []]) life) (gens := gens) (drawn := drawn) (os := os) L tk p
  have h2 := go_puts (w := w) (T := []) (life := life) (gens := gens) (drawn := drawn) (os := os) (p := q) hX L [] tk (tk + 2 * L.length) hf
  rw [show endP q p L = q by cases L with | nil => exact absurd rfl hne | cons => rfl] at h1
  rw [List.nil_append, show tk + 2 * L.length + L.length = tk + 3 * L.length by omega] at h2
  unfold subDict
  have e5 : 13 * L.length + 1 = (10 * L.length + 3 * L.length) + 1 := by omega
  rw [e5]
  refine go_bind (n₁ := 1) (n₂ := 10 * L.length + 3 * L.length) go_alloc ?_
  have e : (hpL X life).objs.size = X.length := by simp
  show Go w (holding [.ref (hpL X life).objs.size] _ >>= _) ⟨(hpL X life).push _, gens, drawn, tk, os⟩ _ _ _ _ _
  rw [e, hp_push]
  refine go_bind (a := ()) (n₁ := 10 * L.length + 3 * L.length) (n₂ := 0) (go_holding ?_) go_pure
  rw [if_pos (by rw [List.length_map]; exact hl)]
  refine go_bind (n₁ := 3 * L.length) (n₂ := 10 * L.length) h1 (go_holding ?_)
  exact go_bind (n₁ := 10 * L.length) (n₂ := 0) h2 go_pure
end
end Mine

namespace Mine
open PySem PySem.W PySem.Calls PyProof.Rows
section
variable {w : World}
theorem go_typeOf {a : Addr} {es : List DictEntry} {s : Shared} {p : Pos} (ho : s.heap.get? a = some (dOb es)) : Go w (typeOf (.ref a)) s p (.type "dict") s p 1 :=
  go_bind (n₁ := 1) (n₂ := 0) (go_load ho) go_pure
theorem isSub_dict : isSubtype (.type "dict") (.type "dict") = pure true := by rw [isSubtype_type]; kernel_rfl
theorem iter_dict : typeLookup (.type "dict") "__iter__" = pure (some (.builtin "dict.__iter__")) := by rw [typeLookup_type, builtinLookup_eq_fast]; kernel_rfl
theorem go_inst {a : Addr} {es : List DictEntry} {s : Shared} {p : Pos} (ho : s.heap.get? a = some (dOb es)) : Go w (isInstance (.ref a) (.type "dict")) s p true s p 1 := by
  unfold isInstance
  refine go_bind (n₁ := 1) (n₂ := 0) (go_typeOf ho) ?_
  rw [isSub_dict]; exact go_pure
theorem go_iterOf {a : Addr} {es : List DictEntry} {s : Shared} {p : Pos} (ho : s.heap.get? a = some (dOb es)) : Go w (specialOf (.ref a) "__iter__") s p (some (.builtin "dict.__iter__")) s p 1 := by
  unfold specialOf
  refine go_bind (n₁ := 1) (n₂ := 0) (go_typeOf ho) ?_
  rw [iter_dict]; exact go_pure

/-- an entry of this table: an int of no great size for its key, its hash the int -/
noncomputable def Plain (e : DictEntry) : Prop := (∃ t, e.key = .int e.hash t) ∧ 0 ≤ e.hash ∧ e.hash < 2 ^ 40
theorem plain3 : ∀ (L : List (Int × Str)) (t : Nat), (∀ y ∈ L, 0 ≤ y.1 ∧ y.1 < 2 ^ 40) → ∀ e ∈ ent3 t L, Plain e
  | [], _, _, e, h => by cases h
  | y :: L, t, h, e, he => by
    cases he with
    | head => exact ⟨⟨t, rfl⟩, h y (.head _)⟩
    | tail _ he => exact plain3 L (t + 3) (fun z hz => h z (.tail _ hz)) e he
theorem plain2 : ∀ (L : List (Int × Str)) (t : Nat), (∀ y ∈ L, 0 ≤ y.1 ∧ y.1 < 2 ^ 40) → ∀ e ∈ ent2 t L, Plain e
  | [], _, _, e, h => by cases h
  | y :: L, t, h, e, he => by
    cases he with
    | head => exact ⟨⟨t, rfl⟩, h y (.head _)⟩
    | tail _ he => exact plain2 L (t + 2) (fun z hz => h z (.tail _ hz)) e he
theorem hash3 : ∀ (L : List (Int × Str)) (t : Nat), (ent3 t L).map (·.hash) = L.map (·.1)
  | [], _ => rfl
  | y :: L, t => by simp only [ent3, List.map_cons, hash3 L]
theorem hash2 : ∀ (L : List (Int × Str)) (t : Nat), (ent2 t L).map (·.hash) = L.map (·.1)
  | [], _ => rfl
  | y :: L, t => by simp only [ent2, List.map_cons, hash2 L]

theorem go_dput {X T : List Obj} {life : Life} {gens : Array GenState} {drawn : Drawn} {os : OsState} {p : Pos} {tk : Nat} {m : List DictEntry} {e : DictEntry} (hX : 11 ≤ X.length) (he : Plain e) (hn : ∀ x ∈ m, x.hash ≠ e.hash) (hz : m.length ≤ 1000) :
    Go w (dictPut X.length e.hash e.key e.val) ⟨hpL (X ++ dOb m :: T) life, gens, drawn, tk, os⟩ p () ⟨hpL (X ++ dOb (m ++ [e]) :: T) life, gens, drawn, tk, os⟩ p 4 := by
  obtain ⟨hs, ky, vl⟩ := e
  obtain ⟨⟨t, ht⟩, _⟩ := he
  dsimp only at ht hn
  subst ht
  unfold dictPut
  refine go_bind (n₁ := 1) (n₂ := 3) (go_find (s := ⟨hpL (X ++ dOb m :: T) life, gens, drawn, tk, os⟩) hp_at hn) ?_
  have h := go_keys (w := w) (d := X.length) (part := none) (es := m) (e := ⟨hs, .int hs t, vl⟩) (s := ⟨hpL (X ++ dOb m :: T) life, gens, drawn, tk, os⟩) (p := p) hp_at (Nat.ble_eq_true_of_le hX) hz (by
      show ((hpL (X ++ dOb m :: T) life).update _ _).get? _ = _
      rw [hp_upd]; exact hp_at)
  have e2 : (hpL (X ++ dOb m :: T) life).update X.length (Obj.mapDictKeys (·.push ⟨hs, .int hs t, vl⟩)) = hpL (X ++ dOb (m ++ [⟨hs, .int hs t, vl⟩]) :: T) life := hp_upd
  simp only [e2] at h
  exact h

theorem hp_in {X T : List Obj} {life : Life} {m es : List DictEntry} {j : Nat} (hj : T[j]? = some (dOb es)) : (hpL (X ++ dOb m :: T) life).get? (X.length + 1 + j) = some (dOb es) := by
  refine hp_get ?_
  rw [List.getElem?_append_right (by omega), show X.length + 1 + j - X.length = j + 1 by omega, List.getElem?_cons_succ]
  exact hj

noncomputable abbrev mergeT (d a : Addr) (epoch : Nat) (i : Nat) : Sem (ForInStep PUnit) := do
  match (← dictEntries a)[i]? with
  | some e => do
    holding [e.key, e.val] (dictPut d e.hash e.key e.val)
    if (← dictEpoch a) != epoch then do
      unsupported "dict.changed-during-merge"
      pure (ForInStep.yield PUnit.unit)
    else pure (ForInStep.yield PUnit.unit)
  | _ => do
    unsupported "dict.changed-during-merge"
    pure (ForInStep.yield PUnit.unit)

theorem go_mloop {X T : List Obj} {life : Life} {gens : Array GenState} {drawn : Drawn} {os : OsState} {p : Pos} {tk j : Nat} {es : List DictEntry} (hX : 11 ≤ X.length) (hj : T[j]? = some (dOb es)) :
    ∀ (todo done m : List DictEntry), es = done ++ todo → (∀ e ∈ es, Plain e) → (m.map (·.hash) ++ todo.map (·.hash)).Nodup → m.length + todo.length ≤ 1000 →
    Go w (forIn (List.range' done.length todo.length) PUnit.unit (fun i (_ : PUnit) => mergeT X.length (X.length + 1 + j) es.length i))
      ⟨hpL (X ++ dOb m :: T) life, gens, drawn, tk, os⟩ p PUnit.unit ⟨hpL (X ++ dOb (m ++ todo) :: T) life, gens, drawn, tk, os⟩ p (6 * todo.length)
  | [], done, m, he, hp, hn, hz => by
    simp only [List.length_nil, List.range'_zero, List.forIn_nil, List.append_nil, Nat.mul_zero]
    exact go_pure
  | e :: todo, done, m, he, hp, hn, hz => by
    simp only [List.length_cons, List.range'_succ, List.forIn_cons]
    have hm : ∀ x ∈ m, x.hash ≠ e.hash := fun x hx q => by
      rw [List.nodup_append] at hn
      exact hn.2.2 _ (List.mem_map_of_mem hx) _ (by simp) q
    have h2 := go_mloop (X := X) (T := T) (life := life) (gens := gens) (drawn := drawn) (os := os) (p := p) (tk := tk) hX hj todo (done ++ [e]) (m ++ [e]) (by rw [he]; simp) hp (by simpa using hn) (by simp only [List.length_append, List.length_cons, List.length_nil] at hz ⊢; omega)
    have e1 : m ++ e :: todo = (m ++ [e]) ++ todo := by simp
    have e2 : (done ++ [e]).length = done.length + 1 := by simp
    rw [e2] at h2
    rw [e1]
    refine go_bind (a := ForInStep.yield PUnit.unit) (n₁ := 6) (n₂ := 6 * todo.length) ?_ h2
    have hg : es.toArray[done.length]? = some e := by rw [he]; simp
    refine go_bind (n₁ := 1) (n₂ := 5) (go_entries (s := ⟨hpL (X ++ dOb m :: T) life, gens, drawn, tk, os⟩) (hp_in hj)) ?_
    rw [hg]
    refine go_bind (a := ()) (n₁ := 4) (n₂ := 1) (go_holding (go_dput hX (hp e (by rw [he]; simp)) hm (by simp only [List.length_cons] at hz; omega))) ?_
    refine go_bind (n₁ := 1) (n₂ := 0) (go_epoch (s := ⟨hpL (X ++ dOb (m ++ [e]) :: T) life, gens, drawn, tk, os⟩) (hp_in hj)) ?_
    rw [if_neg (by simp)]
    exact go_pure

theorem go_merge {X T : List Obj} {life : Life} {gens : Array GenState} {drawn : Drawn} {os : OsState} {p : Pos} {tk j : Nat} {m es : List DictEntry} (hX : 11 ≤ X.length) (hj : T[j]? = some (dOb es)) (hp : ∀ e ∈ es, Plain e)
    (hn : (m.map (·.hash) ++ es.map (·.hash)).Nodup) (hz : m.length + es.length ≤ 1000) (hm : m ≠ []) :
    Go w (mergeMapping X.length (.ref (X.length + 1 + j)) false) ⟨hpL (X ++ dOb m :: T) life, gens, drawn, tk, os⟩ p () ⟨hpL (X ++ dOb (m ++ es) :: T) life, gens, drawn, tk, os⟩ p (6 * es.length + 5) := by
  have hg : (hpL (X ++ dOb m :: T) life).get? (X.length + 1 + j) = some (dOb es) := hp_in hj
  unfold mergeMapping
  refine go_bind (n₁ := 1) (n₂ := 6 * es.length + 4) (go_inst (s := ⟨hpL (X ++ dOb m :: T) life, gens, drawn, tk, os⟩) hg) ?_
  simp only [if_true]
  refine go_bind (n₁ := 1) (n₂ := 6 * es.length + 3) (go_iterOf (s := ⟨hpL (X ++ dOb m :: T) life, gens, drawn, tk, os⟩) hg) ?_
  refine go_bind (n₁ := 0) (n₂ := 6 * es.length + 3) go_pure ?_
  have e1 : (some (Value.builtin "dict.__iter__") == some (Value.builtin "dict.__iter__")) = true := by simp
  rw [e1]
  have e2 : ((X.length + 1 + j : Addr) == sysModules) = false := by
    have : (X.length + 1 + j : Nat) ≠ sysModules := by show _ ≠ 1; omega
    simpa using this
  dsimp only
  rw [e2]
  simp only [Bool.false_eq_true, if_false]
  refine go_bind (n₁ := 1) (n₂ := 6 * es.length + 2) (go_entries (s := ⟨hpL (X ++ dOb m :: T) life, gens, drawn, tk, os⟩) hp_at) ?_
  have e3 : m.toArray.isEmpty = false := by cases m with | nil => exact absurd rfl hm | cons => rfl
  rw [e3]
  simp only [Bool.false_eq_true, if_false]
  refine go_bind (n₁ := 1) (n₂ := 6 * es.length + 1) (go_entries (s := ⟨hpL (X ++ dOb m :: T) life, gens, drawn, tk, os⟩) hg) ?_
  refine go_bind (n₁ := 1) (n₂ := 6 * es.length) (go_epoch (s := ⟨hpL (X ++ dOb m :: T) life, gens, drawn, tk, os⟩) hg) ?_
  have h := go_mloop (w := w) (X := X) (T := T) (life := life) (gens := gens) (drawn := drawn) (os := os) (p := p) (tk := tk) hX hj es [] m rfl hp hn hz
  refine go_bind (a := PUnit.unit) (n₁ := 6 * es.length) (n₂ := 0) ?_ go_pure
  rw [List.range_eq_range', List.size_toArray]
  exact h
end
end Mine

namespace Mine
open PySem PySem.W PySem.Calls PyProof.Rows
section
variable {w : World}
noncomputable abbrev PL := List (Sem Value × Sem Value)
noncomputable abbrev itm (q : Pos) (y : Int × Str) : Option (Sem Value) × Sem Value := (some (pr q y).1, (pr q y).2)
noncomputable abbrev FT := Option (Sem Value) × Sem Value → Option Addr × PL → Sem (ForInStep (Option Addr × PL))
/-- a display's loop: a pair is kept; at the seventeenth the kept ones are laid -/
noncomputable def Turns (q : Pos) (fl : PL → Option Addr → Sem (Option Addr)) (f : FT) : Prop :=
  ∀ y m r, f (itm q y) (m, r) = if ((r ++ [pr q y]).length == 17) = true then (fl (r ++ [pr q y]) m >>= fun m' => pure (.yield (m', []))) else pure (.yield (m, r ++ [pr q y]))

theorem go_acc {q : Pos} {fl : PL → Option Addr → Sem (Option Addr)} {f : FT} (hf : Turns q fl f) {R : List (Option (Sem Value) × Sem Value)} {m : Option Addr} {s s' : Shared} {p p' : Pos} {a : Option Addr × PL} {n : Nat} :
    ∀ (l : List (Int × Str)) (r : PL), r.length + l.length < 17 → Go w (forIn R (m, r ++ l.map (pr q)) f) s p a s' p' n → Go w (forIn (l.map (itm q) ++ R) (m, r) f) s p a s' p' n
  | [], r, _, h => by simpa using h
  | y :: l, r, hl, h => by
    simp only [List.map_cons, List.cons_append, List.forIn_cons]
    simp only [List.length_cons] at hl
    have e : ((r ++ [pr q y]).length == 17) = false := by
      rw [List.length_append]; simp only [List.length_cons, List.length_nil]
      simp; omega
    rw [hf, e]
    have h2 : Go w (forIn (l.map (itm q) ++ R) (m, r ++ [pr q y]) f) s p a s' p' n := go_acc hf l (r ++ [pr q y]) (by rw [List.length_append]; simp only [List.length_cons, List.length_nil]; omega) (by simpa using h)
    exact go_bind (n₁ := 0) (n₂ := n) go_pure h2
theorem go_full {q : Pos} {fl : PL → Option Addr → Sem (Option Addr)} {f : FT} (hf : Turns q fl f) {R : List (Option (Sem Value) × Sem Value)} {m m' : Option Addr} {s s₁ s' : Shared} {p p₁ p' : Pos} {a : Option Addr × PL} {n₁ n₂ : Nat}
    {l : List (Int × Str)} (hl : l.length = 17) (h1 : Go w (fl (l.map (pr q)) m) s p m' s₁ p₁ n₁) (h2 : Go w (forIn R (m', []) f) s₁ p₁ a s' p' n₂) : Go w (forIn (l.map (itm q) ++ R) (m, []) f) s p a s' p' (n₂ + n₁) := by
  obtain ⟨l0, y, rfl⟩ : ∃ l0 y, l = l0 ++ [y] := ⟨l.dropLast, l.getLast (fun q => by subst q; simp at hl), (List.dropLast_concat_getLast _).symm⟩
  rw [List.map_append, List.append_assoc]
  have hl0 : l0.length = 16 := by simpa using hl
  refine go_acc hf l0 [] (by simp [hl0]) ?_
  simp only [List.nil_append, List.map_cons, List.map_nil, List.cons_append, List.forIn_cons]
  have e : ((l0.map (pr q) ++ [pr q y]).length == 17) = true := by simp [hl0]
  rw [hf, e]
  rw [List.map_append] at h1
  exact go_bind (n₁ := n₁) (n₂ := n₂) (go_bind (n₁ := n₁) (n₂ := 0) h1 go_pure) h2

/-- what laying the kept pairs does: ahead of a first table, and behind it -/
structure Lays (fl : PL → Option Addr → Sem (Option Addr)) : Prop where
  nil : ∀ m, fl [] m = pure m
  first : ∀ r, r ≠ [] → fl r none = (subDict r >>= fun d => pure (some d))
  more : ∀ r d, r ≠ [] → ∃ H : Addr → Value → Sem Unit, fl r (some d) = (holding [.ref d] (subDict r) >>= fun sub => ((holding [.ref d, .ref sub] (mergeMapping d (.ref sub) false)).onRaise (H sub)) >>= fun _ => pure (some d))
theorem go_onRaise {α : Type} {m : Sem α} {H : Value → Sem Unit} {s s' : Shared} {p p' : Pos} {a : α} {n : Nat} (h : Go w m s p a s' p' n) : Go w (m.onRaise H) s p a s' p' n := fun K H gd lv N => by
  rw [Sem.onRaise_eq_wrap, Sem.wrap_wrap]
  exact h _ _ _ _ _

theorem go_first {fl : PL → Option Addr → Sem (Option Addr)} (hl : Lays fl) {B : List Obj} {life : Life} {gens : Array GenState} {drawn : Drawn} {os : OsState} {q p : Pos} {tk : Nat} {L : List (Int × Str)} (hB : 11 ≤ B.length) (hf : Fresh [] L) (h15 : ¬ L.length ≤ 15) :
    Go w (fl (L.map (pr q)) none) ⟨hpL B life, gens, drawn, tk, os⟩ p (some B.length) ⟨hpL (B ++ [dOb (ent3 tk L)]) life, gens, drawn, tk + 3 * L.length, os⟩ q (13 * L.length + 2) := by
  have hne : L ≠ [] := fun q => by subst q; simp at h15
  rw [hl.first _ (by simpa using hne)]
  exact go_bind (n₁ := 13 * L.length + 2) (n₂ := 0) (go_sub hB hf h15 hne) go_pure

theorem len_ent3 : ∀ (L : List (Int × Str)) (t : Nat), (ent3 t L).length = L.length
  | [], _ => rfl
  | y :: L, t => by simp only [ent3, List.length_cons, len_ent3 L]
theorem len_ent2 : ∀ (L : List (Int × Str)) (t : Nat), (ent2 t L).length = L.length
  | [], _ => rfl
  | y :: L, t => by simp only [ent2, List.length_cons, len_ent2 L]

theorem go_more {fl : PL → Option Addr → Sem (Option Addr)} (hl : Lays fl) {B T : List Obj} {life : Life} {gens : Array GenState} {drawn : Drawn} {os : OsState} {q p : Pos} {tk : Nat} {L : List (Int × Str)} {m es : List DictEntry} {n : Nat}
    (hB : 11 ≤ B.length) (hf : Fresh m L) (hne : L ≠ []) (hm : m ≠ []) (hes : es.map (·.hash) = L.map (·.1)) (hlen : es.length = L.length) (hp : ∀ e ∈ es, Plain e)
    (hs : Go w (subDict (L.map (pr q))) ⟨hpL (B ++ dOb m :: T) life, gens, drawn, tk, os⟩ p (B ++ dOb m :: T).length ⟨hpL ((B ++ dOb m :: T) ++ [dOb es]) life, gens, drawn, tk + 3 * L.length, os⟩ q n) :
    Go w (fl (L.map (pr q)) (some B.length)) ⟨hpL (B ++ dOb m :: T) life, gens, drawn, tk, os⟩ p (some B.length) ⟨hpL (B ++ dOb (m ++ es) :: (T ++ [dOb es])) life, gens, drawn, tk + 3 * L.length, os⟩ q (6 * L.length + 5 + n) := by
  obtain ⟨H, e⟩ := hl.more (L.map (pr q)) B.length (by simpa using hne)
  rw [e]
  refine go_bind (n₁ := n) (n₂ := 6 * L.length + 5) (go_holding hs) ?_
  refine go_bind (a := ()) (n₁ := 6 * L.length + 5) (n₂ := 0) (go_onRaise (go_holding ?_)) go_pure
  have h := go_merge (w := w) (X := B) (T := T ++ [dOb es]) (life := life) (gens := gens) (drawn := drawn) (os := os) (p := q) (tk := tk + 3 * L.length) (j := T.length) (m := m) (es := es) hB (by simp) hp
    (by rw [hes]; exact hf.1) (by rw [hlen]; exact hf.2.2) hm
  rw [hlen] at h
  rw [show (B ++ dOb m :: T).length = B.length + 1 + T.length by simp; omega, List.append_assoc, List.cons_append]
  exact h

theorem ent3_app : ∀ (a b : List (Int × Str)) (t : Nat), ent3 t (a ++ b) = ent3 t a ++ ent3 (t + 3 * a.length) b
  | [], b, t => by simp [ent3]
  | y :: a, b, t => by
    simp only [List.cons_append, ent3, ent3_app a b, List.length_cons]
    rw [show t + 3 * (a.length + 1) = t + 3 + 3 * a.length by omega]
theorem Fresh.split {es : List DictEntry} {a b : List (Int × Str)} (h : Fresh es (a ++ b)) : Fresh es a := by
  obtain ⟨h1, h2, h3⟩ := h
  refine ⟨?_, fun y hy => h2 y (List.mem_append_left _ hy), by rw [List.length_append] at h3; omega⟩
  rw [List.map_append, ← List.append_assoc] at h1
  exact (List.nodup_append.mp h1).1
theorem Fresh.next {es fs : List DictEntry} {a b : List (Int × Str)} (h : Fresh es (a ++ b)) (hh : fs.map (·.hash) = a.map (·.1)) : Fresh (es ++ fs) b := by
  obtain ⟨h1, h2, h3⟩ := h
  have hl : fs.length = a.length := by simpa using congrArg List.length hh
  refine ⟨?_, fun y hy => h2 y (List.mem_append_right _ hy), by rw [List.length_append] at h3 ⊢; omega⟩
  rw [List.map_append, hh, List.append_assoc, ← List.map_append]
  exact h1
theorem Fresh.nil {es : List DictEntry} {a : List (Int × Str)} (h : Fresh es a) : Fresh [] a :=
  ⟨(List.nodup_append.mp h.1).2.1, h.2.1, by have := h.2.2; simp only [List.length_nil]; omega⟩

theorem go_chunks {q : Pos} {fl : PL → Option Addr → Sem (Option Addr)} {f : FT} (hf : Turns q fl f) (hl : Lays fl) {B : List Obj} {life : Life} {gens : Array GenState} {drawn : Drawn} {os : OsState} (hB : 11 ≤ B.length) :
    ∀ (c : Nat) (L R : List (Int × Str)) (T : List Obj) (m : List DictEntry) (tk : Nat) , L.length = 17 * c → R.length < 17 → m ≠ [] → Fresh m (L ++ R) →
    Go w (forIn ((L ++ R).map (itm q)) (some B.length, []) f) ⟨hpL (B ++ dOb m :: T) life, gens, drawn, tk, os⟩ q (some B.length, R.map (pr q)) ⟨hpL (B ++ dOb (m ++ ent3 tk L) :: (T ++ subs c tk L)) life, gens, drawn, tk + 51 * c, os⟩ q (330 * c)
  | 0, L, R, T, m, tk, hL, hR, hm, hfr => by
    have : L = [] := List.eq_nil_of_length_eq_zero (by omega)
    subst this
    simp only [List.nil_append, ent3, List.append_nil, subs, Nat.mul_zero, Nat.add_zero]
    have := go_acc (w := w) hf (R := []) (m := some B.length) (s := ⟨hpL (B ++ dOb m :: T) life, gens, drawn, tk, os⟩) (s' := ⟨hpL (B ++ dOb m :: T) life, gens, drawn, tk, os⟩) (p := q) (p' := q) (a := (some B.length, R.map (pr q))) (n := 0) R [] (by simpa using hR)
      (by simp only [List.nil_append, List.forIn_nil]; exact go_pure)
    simpa using this
  | c + 1, L, R, T, m, tk, hL, hR, hm, hfr => by
    obtain ⟨l, L', rfl, h17⟩ : ∃ l L', L = l ++ L' ∧ l.length = 17 := ⟨L.take 17, L.drop 17, (List.take_append_drop 17 L).symm, by rw [List.length_take]; omega⟩
    have hL' : L'.length = 17 * c := by rw [List.length_append] at hL; omega
    have hne : l ≠ [] := fun q => by subst q; simp at h17
    rw [List.append_assoc] at hfr
    have hf1 : Fresh m l := hfr.split
    have hf2 : Fresh (m ++ ent3 tk l) (L' ++ R) := hfr.next (hash3 l tk)
    have hs := go_sub (w := w) (X := B ++ dOb m :: T) (life := life) (gens := gens) (drawn := drawn) (os := os) (q := q) (p := q) (tk := tk) (L := l) (by simp; omega) hf1.nil (by omega) hne
    have h1 := go_more hl (T := T) (m := m) hB hf1 hne hm (hash3 l tk) (len_ent3 l tk) (plain3 l tk hf1.2.1) hs
    have h2 := go_chunks hf hl (life := life) (gens := gens) (drawn := drawn) (os := os) hB c L' R (T ++ [dOb (ent3 tk l)]) (m ++ ent3 tk l) (tk + 3 * l.length) hL' hR (by simp [hm]) hf2
    have e1 : m ++ ent3 tk (l ++ L') = (m ++ ent3 tk l) ++ ent3 (tk + 3 * l.length) L' := by rw [ent3_app, List.append_assoc]
    have e2 : T ++ subs (c + 1) tk (l ++ L') = (T ++ [dOb (ent3 tk l)]) ++ subs c (tk + 3 * l.length) L' := by
      simp only [subs]
      rw [List.take_left' h17, List.drop_left' h17, h17]
      simp
    have e3 : tk + 51 * (c + 1) = tk + 3 * l.length + 51 * c := by omega
    rw [e1, e2, e3, List.append_assoc l, List.map_append]
    have h := go_full hf h17 h1 h2
    rw [h17] at h ⊢
    rw [show 330 * (c + 1) = 330 * c + (6 * 17 + 5 + (13 * 17 + 2)) by omega]
    exact h
end
end Mine

namespace Mine
open PySem PySem.W PySem.Calls PyProof.Rows
section
variable {w : World}
theorem go_display {B : List Obj} {life : Life} {gens : Array GenState} {drawn : Drawn} {os : OsState} {q p : Pos} {tk c : Nat} {L0 L R : List (Int × Str)} (hB : 11 ≤ B.length)
    (h0 : L0.length = 17) (hL : L.length = 17 * c) (hR : R.length ≤ 15) (hR0 : R ≠ []) (hfr : Fresh [] (L0 ++ (L ++ R))) :
    Go w (dictDisplay ((L0 ++ (L ++ R)).map (itm q))) ⟨hpL B life, gens, drawn, tk, os⟩ p (.ref B.length)
      ⟨hpL (B ++ dOb (ent3 tk L0 ++ ent3 (tk + 51) L ++ ent2 (tk + 51 + 51 * c) R) :: (subs c (tk + 51) L ++ [dOb (ent2 (tk + 51 + 51 * c) R)])) life, gens, drawn, tk + 51 + 51 * c + 3 * R.length, os⟩ q
      (19 * R.length + 330 * c + 229) := by
  unfold dictDisplay
  extract_lets flush main run
  have hl : Lays flush := ⟨fun m => rfl, fun r hr => by cases r with | nil => exact absurd rfl hr | cons => rfl, fun r d hr => by
    cases r with
    | nil => exact absurd rfl hr
    | cons => exact ⟨_, rfl⟩⟩
  have hne0 : L0 ≠ [] := fun q => by subst q; simp at h0
  have hf0 : Fresh [] L0 := hfr.split
  have hf1 : Fresh (ent3 tk L0) (L ++ R) := by have := hfr.next (hash3 L0 tk); simpa using this
  have hf2 : Fresh (ent3 tk L0 ++ ent3 (tk + 51) L) R := hf1.next (hash3 L (tk + 51))
  have hm0 : ent3 tk L0 ≠ [] := fun q => by have := congrArg List.length q; rw [len_ent3, h0] at this; cases this
  have hm1 : ent3 tk L0 ++ ent3 (tk + 51) L ≠ [] := by simp [hm0]
  have h1 := go_first (w := w) hl (life := life) (gens := gens) (drawn := drawn) (os := os) (q := q) (p := p) (tk := tk) hB hf0 (by omega)
  rw [h0] at h1
  have hs := go_sub2 (w := w) (X := B ++ dOb (ent3 tk L0 ++ ent3 (tk + 51) L) :: (subs c (tk + 51) L)) (life := life) (gens := gens) (drawn := drawn) (os := os) (q := q) (p := q) (tk := tk + 51 + 51 * c) (L := R) (by simp; omega) hf2.nil hR hR0
  have h3 := go_more hl (T := subs c (tk + 51) L) (m := ent3 tk L0 ++ ent3 (tk + 51) L) hB hf2 hR0 hm1 (hash2 R _) (len_ent2 R _) (plain2 R _ hf2.2.1) hs
  rw [List.map_append]
  refine go_bind (a := (some B.length, R.map (pr q))) (n₁ := 330 * c + 223) (n₂ := 19 * R.length + 6) (go_full (w := w) (q := q) (fl := flush) (fun y m r => rfl) h0 h1
    (go_chunks (w := w) (q := q) (fl := flush) (fun y m r => rfl) hl (T := []) (life := life) (gens := gens) (drawn := drawn) (os := os) hB c L R (ent3 tk L0) (tk + 3 * 17) hL (by omega) hm0 hf1)) ?_
  refine go_bind (a := some B.length) (n₁ := 19 * R.length + 6) (n₂ := 0) ?_ go_pure
  rw [List.nil_append, show 19 * R.length + 6 = 6 * R.length + 5 + (13 * R.length + 1) by omega]
  exact h3

/-- a display's trees out of its keys and values -/
theorem items_of (q : Pos) : ∀ (ks : List (Option PySem.Expr)) (vs : List PySem.Expr), (pairs1 ks vs).length = ks.length → (pairs1 ks vs).length = vs.length →
    (evalEachOpt ks envT).zip ((evalEach vs envT).map fun v => do let x ← v; standAt q; pure x) = (pairs1 ks vs).map (itm q)
  | [], [], _, _ => rfl
  | [], v :: vs, _, h => by simp [pairs1] at h
  | k :: ks, [], h, _ => by
    exfalso; revert h
    unfold pairs1
    split <;> simp_all
  | k :: ks, v :: vs, h1, h2 => by
    unfold pairs1 at h1 h2 ⊢
    split at h1
    · rename_i k' _ _ r x _ _ q' e1 e2
      cases e1; cases e2
      simp only [List.length_cons, Nat.add_right_cancel_iff] at h1 h2
      have ih := items_of q ks vs h1 h2
      simp only [List.map_cons, evalEachOpt, evalEach, List.zip_cons_cons, ih]
      rfl
    · simp at h1
end
end Mine

namespace Mine
open PySem PySem.W PySem.Calls PyProof.Rows

noncomputable def aTs : Stmt → List PySem.Expr
  | .Assign t _ _ => t
  | _ => []
noncomputable def aPos : Stmt → Pos
  | .Assign _ _ p => p
  | _ => default
noncomputable def dKs : Stmt → List (Option PySem.Expr)
  | .Assign _ (.Dict k _ _) _ => k
  | _ => []
noncomputable def dVs : Stmt → List PySem.Expr
  | .Assign _ (.Dict _ v _) _ => v
  | _ => []
noncomputable def dPos : Stmt → Pos
  | .Assign _ (.Dict _ _ p) _ => p
  | _ => default
noncomputable abbrev tgs : List PySem.Expr := aTs (stAt 11)
noncomputable abbrev dxp : PySem.Expr := .Dict (dKs (stAt 11)) (dVs (stAt 11)) (dPos (stAt 11))
theorem st11 : stAt 11 = .Assign tgs dxp (aPos (stAt 11)) := by kernel_rfl

noncomputable def incB : List (Int × Str) → Bool
  | [] => true
  | [a] => decide (0 ≤ a.1) && decide (a.1 < 2 ^ 40)
  | a :: b :: r => decide (0 ≤ a.1) && decide (a.1 < 2 ^ 40) && decide (a.1 < b.1) && incB (b :: r)
theorem incB_spec : ∀ (L : List (Int × Str)), incB L = true → (∀ y ∈ L, 0 ≤ y.1 ∧ y.1 < 2 ^ 40) ∧ L.Pairwise (fun a b => a.1 < b.1)
  | [], _ => ⟨fun _ h => (by cases h), .nil⟩
  | [a], h => by
    simp only [incB, Bool.and_eq_true, decide_eq_true_eq] at h
    exact ⟨fun y hy => (by cases hy with | head => exact h | tail _ q => cases q), List.pairwise_singleton ..⟩
  | a :: b :: r, h => by
    simp only [incB, Bool.and_eq_true, decide_eq_true_eq] at h
    obtain ⟨⟨⟨h1, h2⟩, h3⟩, h4⟩ := h
    obtain ⟨i1, i2⟩ := incB_spec (b :: r) h4
    refine ⟨fun y hy => (by cases hy with | head => exact ⟨h1, h2⟩ | tail _ q => exact i1 y q), List.pairwise_cons.mpr ⟨fun y hy => ?_, i2⟩⟩
    cases hy with
    | head => exact h3
    | tail _ q => exact Int.lt_trans h3 ((List.pairwise_cons.mp i2).1 y q)
theorem b3_inc : incB b3Pairs = true := by decide +kernel
theorem b3_len : b3Pairs.length = 650 := by decide +kernel
theorem b3_lens : (pairs1 (dKs (stAt 11)) (dVs (stAt 11))).length = (dKs (stAt 11)).length ∧ (pairs1 (dKs (stAt 11)) (dVs (stAt 11))).length = (dVs (stAt 11)).length := by decide +kernel
theorem b3_is : b3Pairs = pairs1 (dKs (stAt 11)) (dVs (stAt 11)) := by
  unfold b3Pairs
  rw [st11]
  rfl
theorem b3_split : b3Pairs = bL0 ++ (bL ++ bR) := by
  have h : bR = (b3Pairs.drop 17).drop 629 := by unfold bR; rw [List.drop_drop]
  rw [h]
  unfold bL0 bL
  rw [List.take_append_drop, List.take_append_drop]
theorem b3_fresh : Fresh [] (bL0 ++ (bL ++ bR)) := by
  rw [← b3_split]
  obtain ⟨h1, h2⟩ := incB_spec _ b3_inc
  refine ⟨?_, h1, by simp only [List.length_nil, b3_len]; omega⟩
  simp only [List.map_nil, List.nil_append]
  exact (List.pairwise_map.mpr (h2.imp (fun h => Int.ne_of_lt h)))

section
variable {w : World}
theorem sr_bind {α β : Type} {m : Sem α} {f : α → Sem β} {s s₁ : Shared} {p p₁ : Pos} {a : α} {n N : Nat} {K : β → Sem PySem.Fin} {H : Value → Sem PySem.Fin} {gd : Bool → Bool} {lv : List Value → List Value} (h : Go w m s p a s₁ p₁ n) :
    sr w (N + n) s ⟨(m >>= f).wrap K H gd lv, cE, p, BT0⟩ = sr w N s₁ ⟨(f a).wrap K H gd lv, cE, p₁, BT0⟩ := by
  rw [Sem.bind_eq_wrap', Sem.wrap_wrap]
  exact h _ _ _ _ _
end
noncomputable abbrev tailT : Sem Flow := do
  match ← (do assignStores envT (.ref 126) (← swappedStores tgs dxp envT) ((assignEach tgs envT).map (·.2)) : Sem Flow) with
  | .next => execs [] envT
  | f => pure f
set_option maxHeartbeats 0
theorem tail6 (w : World) : (fun os => segRunT treeTable pw w 11 annT 1 20 (stT trM 165 2340 w os) ⟨tailT.wrap doneF deadEnd id id, cE, dPos (stAt 11), BT0⟩) =
    fun os => some (Flow.next, stT tr6 165 2341 w os, cE, ⟨76, 0, 76, 13⟩) := by
  rw [Fast.te10110043849684766642, Fast.te14364793385576792824]
  kernel_rfl

theorem heapM (w : World) : hpL ((tr5 w.params).list 126 ++ dOb (ent3 390 bL0 ++ ent3 (390 + 51) bL ++ ent2 (390 + 51 + 51 * 37) bR) :: (subs 37 (390 + 51) bL ++ [dOb (ent2 (390 + 51 + 51 * 37) bR)])) {} = absHeap (trM w.params) 165 {} := by
  kernel_rfl
theorem items11 : (evalEachOpt (dKs (stAt 11)) envT).zip ((evalEach (dVs (stAt 11)) envT).map fun v => do let x ← v; standAt (dPos (stAt 11)); pure x) = (bL0 ++ (bL ++ bR)).map (itm (dPos (stAt 11))) := by
  rw [items_of _ _ _ b3_lens.1 b3_lens.2, ← b3_is, ← b3_split]
theorem swaps11 (l : Nat) : swapsWithSole tgs dxp l envT = pure false := by
  unfold tgs
  rw [st11]
  kernel_rfl
theorem go_dict {w : World} {os : OsState} {p : Pos} : Go w (eval dxp envT) ⟨hpL ((tr5 w.params).list 126) {}, #[], {}, 390, os⟩ p (.ref 126)
    ⟨absHeap (trM w.params) 165 {}, #[], {}, 2340, os⟩ (dPos (stAt 11)) 12516 := by
  have hl : ((tr5 w.params).list 126).length = 126 := by unfold BT.list; rw [List.length_map, List.length_range]
  have hR : bR.length = 4 := by unfold bR; rw [List.length_drop, b3_len]
  have h := go_display (w := w) (B := (tr5 w.params).list 126) (life := {}) (gens := #[]) (drawn := {}) (os := os) (q := dPos (stAt 11)) (p := dPos (stAt 11)) (tk := 390) (c := 37) (L0 := bL0) (L := bL) (R := bR)
    (by rw [hl]; omega) (by unfold bL0; rw [List.length_take, b3_len]; rfl) (by unfold bL; rw [List.length_take, List.length_drop, b3_len]; rfl) (by rw [hR]; omega) (fun q => by rw [q] at hR; cases hR) b3_fresh
  rw [heapM, hl, hR, ← items11] at h
  show Go w (standAt (dPos (stAt 11)) >>= fun _ => dictDisplay ((evalEachOpt (dKs (stAt 11)) envT).zip ((evalEach (dVs (stAt 11)) envT).map fun v => do let x ← v; standAt (dPos (stAt 11)); pure x))) _ _ _ _ _ _
  exact go_bind (n₁ := 1) (n₂ := 12515) go_at h
theorem seg6 (w : World) (os : OsState) : sr w 12537 (stT tr5 126 390 w os).abs (thT (sts 11 1) ⟨74, 0, 75, 30⟩) = some (Flow.next, (stT tr6 165 2341 w os).abs, cE, ⟨76, 0, 76, 13⟩) := by
  have e0 : sts 11 1 = [.Assign tgs dxp (aPos (stAt 11))] := by rw [← st11]; rfl
  delta thT
  rw [e0]
  show sr w _ _ ⟨((exec (.Assign tgs dxp (aPos (stAt 11))) envT) >>= fun f => match f with | .next => execs [] envT | f => pure f).wrap doneF deadEnd id id, cE, _, BT0⟩ = _
  rw [Sem.bind_eq_wrap', Sem.wrap_wrap]
  show sr w _ _ ⟨(standAt (aPos (stAt 11)) >>= fun _ => swapsWithSole tgs dxp (aPos (stAt 11)).line envT >>= fun b => if b then _ else eval dxp envT >>= fun v => swappedStores tgs dxp envT >>= fun st => assignStores envT v st ((assignEach tgs envT).map (·.2))).wrap _ _ _ _, cE, _, BT0⟩ = _
  rw [show 12537 = 12536 + 1 from rfl, sr_bind (a := ()) (s₁ := (stT tr5 126 390 w os).abs) (p₁ := aPos (stAt 11)) go_at, swaps11]
  rw [show (12536 : Nat) = 12536 + 0 from rfl, sr_bind (a := false) (s₁ := (stT tr5 126 390 w os).abs) (p₁ := aPos (stAt 11)) go_pure]
  rw [if_neg Bool.false_ne_true]
  rw [show (12536 : Nat) = 20 + 12516 from rfl, sr_bind (s₁ := ⟨absHeap (trM w.params) 165 {}, #[], {}, 2340, os⟩) (p₁ := dPos (stAt 11)) (a := .ref 126) go_dict]
  have h := segRun_of (congrFun (tail6 w) os)
  rw [← h]
  unfold tailT
  rw [Sem.bind_eq_wrap', Sem.wrap_wrap]
  rfl
end Mine

namespace Mine
open PySem PySem.W PySem.Calls PyProof.Rows
set_option maxHeartbeats 0
noncomputable abbrev rest7 : List Stmt := []
theorem body_is : sts 0 3 ++ (sts 3 1 ++ (sts 4 3 ++ (sts 7 2 ++ (sts 9 1 ++ (sts 10 1 ++ (sts 11 1 ++ (sts 12 11 ++ []))))))) = behindTheImports pw := by
  kernel_rfl
theorem run1 (w : World) (os : OsState) : topRun treeTable pw w 11 annT 40000 ⟨boot_heap w.params, #[], boot_drawn, boot_toks, os⟩ (topStub pw) = some (s1 w os) := by
  have k7 := piece_nil (env := envT) (congrFun (fin1 w) os)
  have g (i n N t m k p t' m' k' p') (h : Seg i n N t m k p t' m' k' p' w) := segRun_of (congrFun h os)
  have k6 := piece_app (g _ _ _ _ _ _ _ _ _ _ _ (seg7 w)) k7
  have k5 := piece_app (seg6 w os) k6
  have k4 := piece_app (g _ _ _ _ _ _ _ _ _ _ _ (seg5 w)) k5
  have k3 := piece_app (g _ _ _ _ _ _ _ _ _ _ _ (seg4 w)) k4
  have k2 := piece_app (g _ _ _ _ _ _ _ _ _ _ _ (seg3 w)) k3
  have k1 := piece_app (g _ _ _ _ _ _ _ _ _ _ _ (seg2 w)) k2
  have k0 := piece_app (g _ _ _ _ _ _ _ _ _ _ _ (seg1 w)) k1
  have ka := piece_app (g _ _ _ _ _ _ _ _ _ _ _ (seg0 w)) k0
  rw [body_is] at ka
  have kb := piece_block (segRun_of (congrFun (block0 w) os)) ka
  have kc := go_top (congrFun (pre0 w) os) kb
  have e : 12 + (1 + (235 + (214 + (258 + (333 + (999 + (30 + (12537 + (320 + 2))))))))) + 25059 = 40000 := by decide
  have kd := topRun_mono 25059 _ _ _ _ kc
  rw [e] at kd
  exact kd
end Mine

namespace Mine
open PySem PySem.W PySem.Calls PyProof.Rows
set_option maxHeartbeats 400000
theorem open1 : ∀ w : World, (fencedOpening treeTable pw w 40000).map (fun s => (s.heap, s.gens, s.drawn, s.toks)) = some (boot_heap w.params, Array.mk [], boot_drawn, boot_toks) :=
  boot_open (p := pw) (N := 40000) (by kernel_rfl) (by decide) (fun s => rfl)
theorem looks1 (w : World) : (fun os => ((staticsOk (importedModules pw.main.body) (boot_heap w.params) (H1 w.params) && namesBound pw (H1 w.params) && gensDone (s1 w os) && laidKept (boot_heap w.params) (H1 w.params)),
        openSeen q loose (importedModules pw.main.body) XtT true (s1 w os), hkK.obs (s1 w os))) = fun _ => (true, openGood q loose, hkK.val w) := by
  have l1 := look1 w
  have l2 := look2 w
  have l3 := look3 w
  funext os
  have l1 := congrFun l1 os
  have l2 := congrFun l2 os
  have l3 := congrFun l3 os
  rw [l1, l2, l3]
theorem left1 : LeftO pw q loose XtT hkK.obs hkK.val 40000 :=
  LeftO.of_pieces (H₀ := boot_heap) (H₁ := H1) (gs₀ := #[]) (gs₁ := #[]) (d₀ := boot_drawn) (d₁ := {}) (k₀ := boot_toks) (k₁ := 2439) (m₀ := 11) (ann := annT) (M := 40000)
    open1 size1 run1 (by decide) looks1
end Mine

namespace Mine

/-! the plain law: a text of marks, figures and marks between brackets, cut at its first mark -/
noncomputable def splitL (c : Nat) : List Nat → List (List Nat)
  | [] => [[]]
  | a :: r => if a = c then [] :: splitL c r else match splitL c r with
    | p :: ps => (a :: p) :: ps
    | [] => [[a]]
theorem splitL_ne (c : Nat) : ∀ l, splitL c l ≠ []
  | [] => by simp [splitL]
  | a :: r => by
    unfold splitL
    split
    · simp
    · split <;> simp
theorem splitL_len (c : Nat) : ∀ l, (splitL c l).length = l.count c + 1
  | [] => rfl
  | a :: r => by
    have ih := splitL_len c r
    unfold splitL
    by_cases h : a = c
    · subst h; simp [ih]
    · rw [if_neg h]
      have hc : (a :: r).count c = r.count c := by rw [List.count_cons]; simp [h]
      rw [hc]
      split
      · rename_i p ps e; rw [e] at ih; simpa using ih
      · rename_i e; exact absurd e (splitL_ne c r)
theorem splitL_free (c : Nat) : ∀ l, c ∉ l → splitL c l = [l]
  | [], _ => rfl
  | a :: r, h => by
    have h1 : a ≠ c := fun q => h (q ▸ List.mem_cons_self)
    have h2 : c ∉ r := fun q => h (List.mem_cons_of_mem _ q)
    unfold splitL
    rw [if_neg h1, splitL_free c r h2]
theorem splitL_app (c : Nat) : ∀ (l r : List Nat), c ∉ l → splitL c (l ++ c :: r) = l :: splitL c r
  | [], r, _ => by simp [splitL]
  | a :: l, r, h => by
    have h1 : a ≠ c := fun q => h (q ▸ List.mem_cons_self)
    have h2 : c ∉ l := fun q => h (List.mem_cons_of_mem _ q)
    rw [List.cons_append]
    conv => lhs; unfold splitL
    rw [if_neg h1, splitL_app c l r h2]

/-- cut at the first c -/
theorem cut_first (c : Nat) : ∀ l : List Nat, c ∈ l → ∃ a b, l = a ++ c :: b ∧ c ∉ a
  | [], h => by cases h
  | x :: l, h => by
    by_cases e : x = c
    · subst e; exact ⟨[], l, rfl, by simp⟩
    · have : c ∈ l := by
        rcases List.mem_cons.mp h with q | q
        · exact absurd q.symm e
        · exact q
      obtain ⟨a, b, rfl, hn⟩ := cut_first c l this
      exact ⟨x :: a, b, rfl, fun q => by
        rcases List.mem_cons.mp q with q | q
        · exact e q.symm
        · exact hn q⟩
theorem mem_of_count {c : Nat} {l : List Nat} {n : Nat} (h : l.count c = n + 1) : c ∈ l := List.count_pos_iff.mp (by omega)
theorem count_cut {c : Nat} {a b : List Nat} (h : c ∉ a) : (a ++ c :: b).count c = b.count c + 1 := by
  rw [List.count_append, List.count_eq_zero.mpr h]
  simp

/-- what int() takes for no number: nothing, or a text with a mark in it -/
noncomputable def NoInt (F : Nat → Bool) (l : List Nat) : Prop := l = [] ∨ ∃ c ∈ l, F c = false

section
variable {F : Nat → Bool} {A B D : List Nat} {c : Nat}
/-- marks: no figure among them -/
noncomputable def Marks (F : Nat → Bool) (l : List Nat) : Prop := ∀ x ∈ l, F x = false
noncomputable def Figs (F : Nat → Bool) (l : List Nat) : Prop := l ≠ [] ∧ (∀ x ∈ l, F x = true)

theorem noInt_marks {l : List Nat} (h : Marks F l) : NoInt F l := by
  cases l with
  | nil => exact .inl rfl
  | cons x l => exact .inr ⟨x, List.mem_cons_self, h x List.mem_cons_self⟩

theorem fig_free (hD : Figs F D) (hc : F c = false) : c ∉ D := fun q => by have := hD.2 c q; rw [hc] at this; cases this
theorem count_inner (hD : Figs F D) (hc : F c = false) : (A ++ D ++ B).count c = (A ++ B).count c := by
  simp only [List.count_append, List.count_eq_zero.mpr (fig_free hD hc)]; omega

/-- the fourth part, where the first sign is there four times in all and stands at the end -/
theorem fourth (hA : Marks F A) (hB : Marks F B) (hD : Figs F D) (hc : F c = false) (h4 : (A ++ B).count c = 4) (hBl : ∃ b, B = b ++ [c]) (hAh : c ∈ A) :
    (A.count c = 3 ∧ A.getLast? = some c ∧ B.length = 1 ∧ (splitL c (A ++ D ++ B))[3]? = some D) ∨
    (¬ (A.count c = 3 ∧ A.getLast? = some c ∧ B.length = 1) ∧ ∃ p, (splitL c (A ++ D ++ B))[3]? = some p ∧ NoInt F p) := by
  obtain ⟨b, rfl⟩ := hBl
  have hcD := fig_free hD hc
  have hsum : A.count c + (b.count c + 1) = 4 := by
    rw [List.count_append, List.count_append] at h4
    simpa using h4
  obtain ⟨a1, r1, rfl, n1⟩ := cut_first c A hAh
  have hr1 : r1.count c + 1 = (a1 ++ c :: r1).count c := (count_cut n1).symm
  have split1 : splitL c ((a1 ++ c :: r1) ++ D ++ (b ++ [c])) = a1 :: splitL c (r1 ++ D ++ (b ++ [c])) := by
    rw [show (a1 ++ c :: r1) ++ D ++ (b ++ [c]) = a1 ++ c :: (r1 ++ D ++ (b ++ [c])) by simp]
    exact splitL_app c _ _ n1
  have hb' : Marks F b := fun x hx => hB x (List.mem_append_left _ hx)
  rw [split1]
  by_cases k0 : r1.count c = 0
  · -- one in front, three behind
    have nr : c ∉ r1 := List.count_eq_zero.mp k0
    have kb : b.count c = 2 := by omega
    obtain ⟨b1, r2, rfl, m1⟩ := cut_first c b (mem_of_count kb)
    have kr2 : r2.count c = 1 := by have := count_cut (b := r2) m1; omega
    obtain ⟨b2, r3, rfl, m2⟩ := cut_first c r2 (mem_of_count kr2)
    have kr3 : r3.count c = 0 := by have := count_cut (b := r3) m2; omega
    have m3 : c ∉ r3 := List.count_eq_zero.mp kr3
    refine .inr ⟨fun h => by omega, r3, ?_, noInt_marks fun x hx => hb' x (by simp [hx])⟩
    rw [show r1 ++ D ++ ((b1 ++ c :: (b2 ++ c :: r3)) ++ [c]) = (r1 ++ D ++ b1) ++ c :: (b2 ++ c :: (r3 ++ c :: [])) by simp]
    rw [splitL_app c _ _ (by simp [nr, hcD, m1]), splitL_app c _ _ m2, splitL_app c _ _ m3]
    rfl
  · obtain ⟨k, hk⟩ : ∃ k, r1.count c = k + 1 := ⟨r1.count c - 1, by omega⟩
    obtain ⟨a2, r2, rfl, n2⟩ := cut_first c r1 (mem_of_count hk)
    have hr2 := count_cut (b := r2) n2
    rw [show (a2 ++ c :: r2) ++ D ++ (b ++ [c]) = a2 ++ c :: (r2 ++ D ++ (b ++ [c])) by simp, splitL_app c _ _ n2]
    by_cases k1 : r2.count c = 0
    · -- two in front, two behind
      have nr : c ∉ r2 := List.count_eq_zero.mp k1
      have kb : b.count c = 1 := by omega
      obtain ⟨b1, r3, rfl, m1⟩ := cut_first c b (mem_of_count kb)
      have kr3 : r3.count c = 0 := by have := count_cut (b := r3) m1; omega
      have m3 : c ∉ r3 := List.count_eq_zero.mp kr3
      refine .inr ⟨fun h => by omega, r3, ?_, noInt_marks fun x hx => hb' x (by simp [hx])⟩
      rw [show r2 ++ D ++ ((b1 ++ c :: r3) ++ [c]) = (r2 ++ D ++ b1) ++ c :: (r3 ++ c :: []) by simp]
      rw [splitL_app c _ _ (by simp [nr, hcD, m1]), splitL_app c _ _ m3]
      rfl
    · -- three in front, one behind
      obtain ⟨k', hk'⟩ : ∃ k, r2.count c = k + 1 := ⟨r2.count c - 1, by omega⟩
      obtain ⟨a3, r3, rfl, n3⟩ := cut_first c r2 (mem_of_count hk')
      have hr3 := count_cut (b := r3) n3
      have k3 : r3.count c = 0 := by omega
      have kb : b.count c = 0 := by omega
      have n4 : c ∉ r3 := List.count_eq_zero.mp k3
      have m1 : c ∉ b := List.count_eq_zero.mp kb
      rw [show (a3 ++ c :: r3) ++ D ++ (b ++ [c]) = a3 ++ c :: ((r3 ++ D ++ b) ++ c :: []) by simp, splitL_app c _ _ n3, splitL_app c _ _ (by simp [n4, hcD, m1])]
      have h3 : (a1 ++ c :: (a2 ++ c :: (a3 ++ c :: r3))).count c = 3 := by omega
      by_cases e1 : r3 = []
      · subst e1
        by_cases e2 : b = []
        · subst e2
          exact .inl ⟨h3, by rw [show a1 ++ c :: (a2 ++ c :: (a3 ++ [c])) = (a1 ++ c :: (a2 ++ c :: a3)) ++ [c] by simp, List.getLast?_concat], rfl, by simp⟩
        · refine .inr ⟨fun h => e2 (by have := h.2.2; simpa using this), D ++ b, by simp, ?_⟩
          obtain ⟨x, l, rfl⟩ : ∃ x l, b = x :: l := by cases b with | nil => exact absurd rfl e2 | cons x l => exact ⟨x, l, rfl⟩
          exact .inr ⟨x, by simp, hb' x (by simp)⟩
      · refine .inr ⟨fun h => ?_, r3 ++ D ++ b, by simp, ?_⟩
        · have h2 := h.2.1
          have : (a1 ++ c :: (a2 ++ c :: (a3 ++ c :: r3))).getLast? = r3.getLast? := by
            rw [show a1 ++ c :: (a2 ++ c :: (a3 ++ c :: r3)) = (a1 ++ c :: (a2 ++ c :: (a3 ++ [c]))) ++ r3 by simp, List.getLast?_append]
            cases hr : r3.getLast? with
            | none => exact absurd (List.getLast?_eq_none_iff.mp hr) e1
            | some x => simp
          rw [this] at h2
          exact n4 (List.mem_of_getLast? h2)
        · obtain ⟨x, l, rfl⟩ : ∃ x l, r3 = x :: l := by cases r3 with | nil => exact absurd rfl e1 | cons x l => exact ⟨x, l, rfl⟩
          exact .inr ⟨x, by simp, hA x (by simp)⟩

/-- nothing in front, nothing behind, or unlike ends: the cut is none of five -/
theorem unlike (hA : Marks F A) (hB : Marks F B) (hD : Figs F D) (hl : D.length ≤ 3) (h : A = [] ∨ B = [] ∨ A.head? ≠ B.getLast?) :
    (A ++ D ++ B).head? ≠ (A ++ D ++ B).getLast? ∨ ∃ x, (A ++ D ++ B).head? = some x ∧ (splitL x (A ++ D ++ B)).length ≠ 5 := by
  obtain ⟨hd, hf⟩ := hD
  obtain ⟨d, D', rfl⟩ : ∃ d D', D = d :: D' := by cases D with | nil => exact absurd rfl hd | cons x l => exact ⟨x, l, rfl⟩
  cases A with
  | nil =>
    rcases (show B = [] ∨ ∃ B' b, B = B' ++ [b] by simpa using List.eq_nil_or_concat B) with rfl | ⟨B, b, rfl⟩
    · refine .inr ⟨d, rfl, ?_⟩
      rw [splitL_len]
      have := List.count_le_length (a := d) (l := ([] ++ d :: D') ++ [])
      simp only [List.nil_append, List.append_nil] at this ⊢
      omega
    · refine .inl ?_
      rw [show ([] ++ (d :: D') ++ (B ++ [b])) = d :: (D' ++ B ++ [b]) by simp]
      rw [show (d :: (D' ++ B ++ [b])).getLast? = some b by rw [show d :: (D' ++ B ++ [b]) = (d :: (D' ++ B)) ++ [b] by simp, List.getLast?_concat]]
      intro q
      have q : d = b := by simpa using q
      have h1 := hf d (by simp)
      have h2 := hB b (by simp)
      rw [q] at h1; rw [h1] at h2; cases h2
  | cons a A =>
    rcases (show B = [] ∨ ∃ B' b, B = B' ++ [b] by simpa using List.eq_nil_or_concat B) with rfl | ⟨B, b, rfl⟩
    · refine .inl ?_
      intro q
      rw [List.append_nil] at q
      have hlast : (a :: A ++ d :: D').getLast? = (d :: D').getLast? := by rw [List.getLast?_append]; cases hh : (d :: D').getLast? with
        | none => simp at hh
        | some x => simp
      rw [hlast] at q
      have q2 : (d :: D').getLast? = some a := by rw [← q]; rfl
      have h1 := hf a (List.mem_of_getLast? q2)
      have h2 := hA a (by simp)
      rw [h1] at h2; cases h2
    · refine .inl ?_
      have hne : a ≠ b := by
        rcases h with h | h | h
        · cases h
        · simp at h
        · simpa using h
      rw [show (a :: A ++ d :: D' ++ (B ++ [b])) = (a :: A ++ d :: D' ++ B) ++ [b] by simp]
      rw [List.getLast?_concat]
      simpa using hne
theorem five (hD : Figs F D) (hc : F c = false) : (splitL c (A ++ D ++ B)).length = (A ++ B).count c + 1 := by
  rw [splitL_len, count_inner hD hc]
end
end Mine

namespace Mine
open PySem PySem.W PySem.Calls PyProof.Rows
local macro_rules | `(tactic| k_is) => `(tactic| assumption)
section

set_option maxHeartbeats 8000000
noncomputable abbrev pr0 : Program := PySem.Challenge.rw_tr0056_01.row.prog
/-- a def's contract: what a call of it asks (P), what it hands on -/
noncomputable abbrev Tells0 (w : World) (f : Addr) (vs : List Value) (dep un0 : Nat) (ret : Heap → Heap → Addr → (Str → Option Value) → List (Addr × Obj) → Shared → (Value → Shared → Prop) → Prop) : Prop :=
  ∀ (loose : List Str) (mean : ExcName → Option Value) (mg mb : Str → Option Value) (dp un : Nat) (gd : Option (List Code)) (cn : Str) (cs : Scope) (a : Addr) (ccd : Value) (cl : List (Str × Addr)) (outer : List Env) (A₀ : Around) (base h₀ : Heap) (L : Addr) (m : Str → Option Value) (news : List (Addr × Obj)) (s : Shared) (Q E : Value → Shared → Prop),
    Below A₀ base outer h₀ → Fr h₀ L s.heap m → (K w.params).In h₀ → News h₀ L s.heap news → Top topProg loose mean mg mb h₀ → cs.kind = .function → dp + dep < recursionLimit → un + un0 < cLine →
    ret base h₀ L m news s Q → wpAny (model PySem.Challenge.rw_tr0056_01.row.prog w) (ktrTop dp un gd cn cs L a ccd cl outer) (call (.ref f) vs) Q E s

/-- the stranger of a number -/
noncomputable def strC (port : Int) : Str := if port.fmod 4 = 0 then Str.ofString "\u00ad" else if port.fmod 4 = 1 then Str.ofString "\u200b" else if port.fmod 4 = 2 then Str.ofString "\u2060" else Str.ofString "\ufe0f"
theorem stranger_ (w : World) (port : Int) (t : Tok) : Tells0 w 197 [.int port t] 1 8 (fun base h₀ L m news s Q => ∀ (t : Tok) (h' : Heap) (tk' : Nat), Fr h₀ L h' m → News h₀ L h' news → Q (.str (strC port) t) { s with heap := h', toks := tk' }) := by
  delta Tells0; k_fill
  intro loose mean mg mb dp un gd cn cs a ccd cl outer A₀ base h₀ L m news s Q E B F X N T hk hd hu hret
  have hlk : (K w.params).lookup 197 = some (o197 w.params) := by kernel_rfl
  have eP := (rfl : defP (stAt 17) = defP (stAt 17)); conv at eP => rhs; whnf
  have eB := (rfl : defB (stAt 17) = defB (stAt 17)); conv at eB => rhs; whnf
  have eS := (rfl : defS (stAt 17) = defS (stAt 17)); conv at eS => rhs; whnf
  unfold o197 at hlk
  rw [eP, eB, eS] at hlk
  clear eP eB eS
  refine wpAny_call ?_
  k_dflt cell_enter
  clear hlk
  k_steps
  have hc : port.fmod 4 = 0 ∨ port.fmod 4 = 1 ∨ port.fmod 4 = 2 ∨ port.fmod 4 = 3 := by rw [Int.fmod_eq_emod_of_nonneg _ (by omega)]; omega
  rcases hc with hc | hc | hc | hc <;> rw [hc]
  all_goals k_steps
  all_goals (refine cb_retS hret ?_ (by assumption) (cb_drop (by assumption) (fun p hp => by simp [hp])))
  all_goals (unfold strC; simp [hc])
end

local macro_rules | `(tactic| walk1) => `(tactic| ((with_reducible show wpAny _ _ (call (Value.ref 197) [Value.int _ _]) _ _ _); (k_dflt (refine' stranger_ _ _ _ _ _ _ _ _ _ _ _ _ _ _ _ _ _ _ _ _ _ _ _ _ _ ?k1 ?k2 ?k3 ?k4 ?k5 ?k6 ?k7 ?k8 ?kR)); (case k1 => k_asm); (case k2 => k_asm); (case k3 => k_asm); (case k4 => k_asm); (case k5 => k_asm); (case k6 => first | exact rfl | assumption); (case k7 => ktr_room); (case k8 => ktr_units); (intro t9 h9 tk9 F9 N9); (try dsimp only); (try k_fold); walk_say "CONTRACT stranger_"))
section

set_option maxHeartbeats 8000000
/-- a mark as it is at a stage -/
noncomputable def sign1 (port stage k : Int) : Str :=
  if k = 0 then Str.ofString "s" else if k = 1 then (if stage = 0 then Str.ofString "S" else Str.ofString "s") else if k = 2 then (if stage = 0 then Str.ofString "ſ" else Str.ofString "s")
  else if k = 3 then (if stage = 0 then Str.ofString "ß" else Str.ofString "ss") else if k = 4 then (if stage = 0 then Str.ofString "ẞ" else if stage = 1 then Str.ofString "ß" else Str.ofString "ss")
  else if stage = 0 then strC port else Str.ofString ""
theorem strC_len (port : Int) : (strC port).length = 1 := by
  unfold strC; repeat' split
  all_goals rfl
theorem sign1_len (port stage k : Int) : (sign1 port stage k).length ≤ 2 := by
  unfold sign1; repeat' split
  all_goals first | (rw [strC_len]; decide) | decide
noncomputable def spellS (port stage : Int) (ks : List Int) : Str := PySem.Txt.join (Str.ofString "") (ks.map (sign1 port stage))
local macro_rules | `(tactic| walk1) => `(tactic| ((with_reducible show wpAny _ _ (call (Value.builtin "str.join") [_, _]) _ _ _); (rename CarriedAll _ _ => hc9); (refine KT.join_B (g := sign1 _ _) 2 (News.isList (by k_asm) (by k_mem)) hc9 (fun _ _ => sign1_len _ _ _) ?kl (by decide) ?_); (case kl => omega); intro t9 k9))
theorem spelled_ (w : World) (ka : Addr) (vs : List Value) (ks : List Int) (kn : Nat) (hi : IntsAre vs ks) (hb : ∀ k ∈ ks, 0 ≤ k ∧ k ≤ 5) (hl : ks.length ≤ 4) (port stage : Int) (hs : 0 ≤ stage ∧ stage ≤ 2) (tp ts : Tok) : Tells0 w 202 [.ref ka, .int port tp, .int stage ts] 3 20 (fun base h₀ L m news s Q => (ka, listOf vs.toArray kn) ∈ news ∧ (∀ (t : Tok) (h' : Heap) (tk' : Nat), Fr h₀ L h' m → News h₀ L h' news → Q (.str (spellS port stage ks) t) { s with heap := h', toks := tk' })) := by
  delta Tells0; k_fill
  intro loose mean mg mb dp un gd cn cs a ccd cl outer A₀ base h₀ L m news s Q E B F X N T hk hd hu hret
  obtain ⟨hm, hret⟩ := hret
  have hlk : (K w.params).lookup 202 = some (o202 w.params) := by kernel_rfl
  have eP := (rfl : defP (stAt 18) = defP (stAt 18)); conv at eP => rhs; whnf
  have eB := (rfl : defB (stAt 18) = defB (stAt 18)); conv at eB => rhs; whnf
  have eS := (rfl : defS (stAt 18) = defS (stAt 18)); conv at eS => rhs; whnf
  unfold o202 at hlk
  rw [eP, eB, eS] at hlk
  clear eP eB eS
  refine wpAny_call ?_
  k_dflt (refine' code_defC ?k1 ?k2 ?k3 ?k4 ?k5 ?kA ?kF ?kK ?k6 ?k7 ?k8 ?k9 ?kB ?kD ?_ ?c2 ?c3 ?c4; (case kA => exact rfl); (case kF => exact rfl); (case kK => assumption); (case k1 => k_asm); (case k2 => k_asm); (case k3 => k_asm); (case k4 => k_asm); (case k5 => k_asm); (case k6 => k_is); (case k7 => k_is); (case k8 => ktr_room); (case k9 => exact BindsTo.of_eq rfl); (case kB => exact rfl); (case kD => decide +kernel); (case c2 => exact rfl); (case c3 => exact rfl); (case c4 => exact rfl); k_whole; intro g' L' h' tk' cells' FG' F' N' Y' B' X' T' l1; (have l1a : ∀ p ∈ news, p.1 < L' + 1 := fun p hp => Nat.lt_succ_of_lt (l1 p hp)); (have l1b : ∀ p ∈ news, p.1 < L' + 1 + 1 := fun p hp => Nat.lt_succ_of_lt (l1a p hp)); k_cells Y'; (try simp only [List.cons_append, List.nil_append] at N'); (try dsimp only); (try k_lift B'); (try k_fold))
  clear hlk
  replace hret := hret
  k_steps
  have hvl : vs.length = ks.length := hi.length
  refine LCg.CompSrc.ledger (its := vs.toArray) (k := kn) (by rfl) (by k_asm) (by k_asm) (by simp [hm]) (by rw [PySem.sizeLine_eq]; simp; omega) ?_
  intro g'
  refine' kct_list (sign1 port stage) (by first | assumption | l_ints) (fun k' t' I' oI' C' oC' D' m' ys' h' tk' E' hk' hC' hx' F' N' off' ne' hMark' => ?_) ?_
  case refine'_1 =>
    have hkk := hb k' hk'
    have c1 : k' = 0 ∨ k' = 1 ∨ k' = 2 ∨ k' = 3 ∨ k' = 4 ∨ k' = 5 := by omega
    have c2 : stage = 0 ∨ stage = 1 ∨ stage = 2 := by omega
    clear hkk hk' hs
    rcases c1 with c1 | c1 | c1 | c1 | c1 | c1 <;> subst c1 <;> rcases c2 with c2 | c2 | c2 <;> subst c2
    all_goals k_steps
    all_goals (refine LCg.CompEnd.intro (by k_asm) (by k_asm) _ (fun p hp => hp) off' (.inr ⟨_, (by repeat (first | exact hm | apply List.Mem.tail)), rfl, _, rfl⟩) (kct_el (by unfold sign1; simp) rfl rfl))
  unfold KPfDone
  intro ys hc hlen
  k_steps
  refine hret _ _ _ (by assumption) (cb_drop (by assumption) (fun p hp => by simp [hp]))
end

section

set_option maxHeartbeats 8000000
noncomputable def restN (n : Int) : Int := n.fmod 25920000
noncomputable def frontN (n : Int) : List Int :=
  if (n.fmod 25920000).fmod 4 = 0 then [((n.fmod 25920000).fdiv 4).fmod 6, ((n.fmod 25920000).fdiv 4).fmod 6, ((n.fmod 25920000).fdiv 4).fmod 6]
  else if (n.fmod 25920000).fmod 4 = 1 then [3 + (((n.fmod 25920000).fdiv 4).fmod 6).fmod 2, (((n.fmod 25920000).fdiv 24).fmod 6).fmod 3]
  else if (n.fmod 25920000).fmod 4 = 2 then [((n.fmod 25920000).fdiv 4).fmod 6, 5, ((n.fmod 25920000).fdiv 24).fmod 6, ((n.fmod 25920000).fdiv 144).fmod 6]
  else [((n.fmod 25920000).fdiv 4).fmod 6, ((n.fmod 25920000).fdiv 24).fmod 6]
noncomputable def backN (n : Int) : List Int :=
  if (n.fmod 25920000).fmod 4 = 0 then [((n.fmod 25920000).fdiv 4).fmod 6]
  else if (n.fmod 25920000).fmod 4 = 1 then [(((n.fmod 25920000).fdiv 144).fmod 6).fmod 3]
  else if (n.fmod 25920000).fmod 4 = 2 then [(((n.fmod 25920000).fdiv 864).fmod 6).fmod 3]
  else [((n.fmod 25920000).fdiv 144).fmod 6, ((n.fmod 25920000).fdiv 864).fmod 6]
noncomputable def portN (n : Int) : Int := ((n.fmod 25920000).fdiv 5184).fmod 1000
noncomputable def hidN (n : Int) : Bool := ((n.fmod 25920000).fdiv 864).fmod 6 == 5
noncomputable def dressN (n : Int) : Int := (n.fmod 25920000).fdiv 5184000
/-- the tuple that _law_drawn makes -/
noncomputable abbrev drObj (fa ba : Addr) (port : Int) (hid : Bool) (dress : Int) (tp td : Tok) : Obj := { cls := .type "tuple", data := .seq #[.ref fa, .int port tp, .ref ba, .bool hid, .int dress td] }
theorem drawn_end {number : Int} {h₀ h' : Heap} {L D D1 D2 fa ba : Addr} {o1 o2 : Obj} {m : Str → Option Value} {news : List (Addr × Obj)} {s : Shared} {Q : Value → Shared → Prop} {vf vb : List Value} {nf nb : Nat} {tp td : Tok} {tk' : Nat}
  (hret : ∀ (D fa ba : Addr) (vf vb : List Value) (nf nb : Nat) (tp td : Tok) (h' : Heap) (tk' : Nat), Fr h₀ L h' m → News h₀ L h' ((D, drObj fa ba (portN number) (hidN number) (dressN number) tp td) :: (ba, listOf vb.toArray nb) :: (fa, listOf vf.toArray nf) :: news) → IntsAre vf (frontN number) → IntsAre vb (backN number) → AllLt fa news → @LT.lt Nat _ fa ba → @LT.lt Nat _ ba D → Q (.ref D) { s with heap := h', toks := tk' })
  (F : Fr h₀ L h' m) (N : News h₀ L h' ((D, drObj fa ba (portN number) (hidN number) (dressN number) tp td) :: (D1, o1) :: (ba, listOf vb.toArray nb) :: (fa, listOf vf.toArray nf) :: (D2, o2) :: news))
  (lfa : AllLt fa news) (i1 : IntsAre vf (frontN number)) (i2 : IntsAre vb (backN number)) (l1 : @LT.lt Nat _ fa ba) (l2 : @LT.lt Nat _ ba D) : Q (.ref D) { s with heap := h', toks := tk' } :=
  hret D fa ba vf vb nf nb tp td h' tk' F (cb_drop N fun p hp => by
    rcases List.mem_cons.mp hp with h | hp
    · exact h ▸ .head _
    · rcases List.mem_cons.mp hp with h | hp
      · exact h ▸ .tail _ (.tail _ (.head _))
      · rcases List.mem_cons.mp hp with h | hp
        · exact h ▸ .tail _ (.tail _ (.tail _ (.head _)))
        · exact .tail _ (.tail _ (.tail _ (.tail _ (.tail _ hp))))) i1 i2 lfa l1 l2
theorem drawn_ (w : World) (number : Int) (t : Tok) : Tells0 w 190 [.int number t] 1 20 (fun base h₀ L m news s Q => ∀ (D fa ba : Addr) (vf vb : List Value) (nf nb : Nat) (tp td : Tok) (h' : Heap) (tk' : Nat), Fr h₀ L h' m → News h₀ L h' ((D, drObj fa ba (portN number) (hidN number) (dressN number) tp td) :: (ba, listOf vb.toArray nb) :: (fa, listOf vf.toArray nf) :: news) → IntsAre vf (frontN number) → IntsAre vb (backN number) → AllLt fa news → @LT.lt Nat _ fa ba → @LT.lt Nat _ ba D → Q (.ref D) { s with heap := h', toks := tk' }) := by
  delta Tells0; k_fill
  intro loose mean mg mb dp un gd cn cs a ccd cl outer A₀ base h₀ L m news s Q E B F X N T hk hd hu hret
  have hlk : (K w.params).lookup 190 = some (o190 w.params) := by kernel_rfl
  have eP := (rfl : defP (stAt 16) = defP (stAt 16)); conv at eP => rhs; whnf
  have eB := (rfl : defB (stAt 16) = defB (stAt 16)); conv at eB => rhs; whnf
  have eS := (rfl : defS (stAt 16) = defS (stAt 16)); conv at eS => rhs; whnf
  unfold o190 at hlk
  rw [eP, eB, eS] at hlk
  clear eP eB eS
  refine wpAny_call ?_
  k_dflt cell_enter
  clear hlk
  k_steps
  all_goals (rename @LT.lt Nat _ _ _ ∧ AllLt _ news => lfa)
  all_goals (k_dflt (exact drawn_end hret (by assumption) (by assumption) lfa.2 (by unfold frontN; (repeat (first | rw [if_pos (by assumption)] | rw [if_neg (by assumption)])); repeat constructor) (by unfold backN; (repeat (first | rw [if_pos (by assumption)] | rw [if_neg (by assumption)])); repeat constructor) (by omega) (by omega)))
end

section
open PySem.Builtin PySem.Builtin.Str

section
variable {prog : Program} {w : World} {A : Around} {E : Value → Shared → Prop} {s : Shared} {value slice : Expr} {x : Str} {t : Tok} {h₀ h : Heap} {L a : Addr} {m : Str → Option Value} {news : List (Addr × Obj)} {Q : Value → Shared → Prop}
theorem sh_eq {s : Shared} {h h' : Heap} (e : s.heap = h') : ({ ({ s with heap := h } : Shared) with heap := h' } : Shared) = s := by subst e; rfl
theorem sliceP_ns {j : Int} {uj : Tok} (F : Fr h₀ L h m) (N : News h₀ L h news) (he : s.heap = h.push { cls := .type "slice", data := .fields #[.none, .int j uj, .none] }) (ha : a = h.objs.size)
    (hsz : x.length ≤ sizeLine) (hq : ∀ h' t' k, Fr h₀ L h' m → News h₀ L h' news → Q (.str (Txt.slice x none (some j)) t') { s with heap := h', toks := k }) (ht : ∀ r, letTemporaryGo value (.str x t) r = pure () := by intro _; with_unfolding_all rfl)
    (hs : subscripted slice false (.str x t) (.ref a) = operate [.ref a, .str x t] (getItem (.str x t) (.ref a)) := by with_unfolding_all rfl) :
    wpAny (model prog w) A (subscriptTail value slice (.str x t) (.ref a)) Q E s := by
  subst ha
  have := slice_strN_ns (prog := prog) (w := w) (A := A) (E := E) (Q := Q) (s := { s with heap := h }) (value := value) (slice := slice) (x := x) (t := t) (j := j) (uj := uj) F N hq hs ht hsz
  rwa [sh_eq he] at this
theorem sliceP_ss {i j : Int} {ui uj : Tok} (F : Fr h₀ L h m) (N : News h₀ L h news) (he : s.heap = h.push { cls := .type "slice", data := .fields #[.int i ui, .int j uj, .none] }) (ha : a = h.objs.size)
    (hsz : x.length ≤ sizeLine) (hq : ∀ h' t' k, Fr h₀ L h' m → News h₀ L h' news → Q (.str (Txt.slice x (some i) (some j)) t') { s with heap := h', toks := k }) (ht : ∀ r, letTemporaryGo value (.str x t) r = pure () := by intro _; with_unfolding_all rfl)
    (hs : subscripted slice false (.str x t) (.ref a) = operate [.ref a, .str x t] (getItem (.str x t) (.ref a)) := by with_unfolding_all rfl) :
    wpAny (model prog w) A (subscriptTail value slice (.str x t) (.ref a)) Q E s := by
  subst ha
  have := slice_strN_ss (prog := prog) (w := w) (A := A) (E := E) (Q := Q) (s := { s with heap := h }) (value := value) (slice := slice) (x := x) (t := t) (i := i) (ui := ui) (j := j) (uj := uj) F N hq hs ht hsz
  rwa [sh_eq he] at this
theorem sliceP_rev {k : Int} {uk : Tok} (F : Fr h₀ L h m) (N : News h₀ L h news) (he : s.heap = h.push { cls := .type "slice", data := .fields #[.none, .none, .int k uk] }) (ha : a = h.objs.size) (hk : (k == 0) = false)
    (hsz : x.length ≤ sizeLine) (hq : ∀ h' t' k', Fr h₀ L h' m → News h₀ L h' news → Q (.str (Txt.sliceBy x none none (k, uk)) t') { s with heap := h', toks := k' }) (ht : ∀ r, letTemporaryGo value (.str x t) r = pure () := by intro _; with_unfolding_all rfl)
    (hs : subscripted slice false (.str x t) (.ref a) = operate [.ref a, .str x t] (getItem (.str x t) (.ref a)) := by with_unfolding_all rfl) :
    wpAny (model prog w) A (subscriptTail value slice (.str x t) (.ref a)) Q E s := by
  subst ha
  have := slice_strK_nn (prog := prog) (w := w) (A := A) (E := E) (Q := Q) (s := { s with heap := h }) (value := value) (slice := slice) (x := x) (t := t) (k := k) (uk := uk) F N hk hq hs ht hsz
  rwa [sh_eq he] at this
end
end
section
open PySem.Builtin PySem.Builtin.Str
/-- where the two brackets lie -/
theorem pos_find (x : Str) (c : Nat) : -1 ≤ Txt.find x ⟨#[c]⟩ ∧ Txt.find x ⟨#[c]⟩ < x.length ∨ Txt.find x ⟨#[c]⟩ = -1 := by
  rcases PyProof.Rows.find_spec x ⟨#[c]⟩ with h | ⟨i, h, h1, _⟩
  · exact .inr h
  · left
    have e : (⟨#[c]⟩ : Str).length = 1 := rfl
    rw [h]; omega
theorem pos_find3 (x : Str) (c : Nat) (i : Int) (h0 : 0 ≤ i) : (i ≤ Txt.find3 x ⟨#[c]⟩ i ∧ Txt.find3 x ⟨#[c]⟩ i < x.length) ∨ Txt.find3 x ⟨#[c]⟩ i = -1 := by
  rcases StrLaws.find3_spec x c i with ⟨h, _⟩ | ⟨k, h, h1, h2, _⟩
  · exact .inr h
  · left
    rw [h]
    unfold fromIndex at h1
    refine ⟨?_, by omega⟩
    split at h1 <;> omega
end

section
open PySem.Builtin PySem.Builtin.Str
theorem cps_append (a b : Str) : (a ++ b).cps.toList = a.cps.toList ++ b.cps.toList := by
  show (a.cps ++ b.cps).toList = _
  simp
theorem sjoin_cps : ∀ ts : List Str, (Str.join (Str.ofString "") ts).cps.toList = ts.flatMap (·.cps.toList)
  | [] => by rw [join_nil]; rfl
  | [x] => by rw [PyProof.Rows.join_one]; simp
  | x :: y :: r => by
    rw [PyProof.Rows.join_cons_cons, cps_append, cps_append, sjoin_cps (y :: r)]
    have e : (Str.ofString "").cps.toList = [] := by decide
    rw [e]
    simp
theorem join_cps (ts : List Str) : (Txt.join (Str.ofString "") ts).cps.toList = ts.flatMap (·.cps.toList) := by
  rw [← sjoin_cps]
  exact congrArg (fun s : Str => s.cps.toList) (PySem.StrLaws.glued_eq_join _ ts)
theorem flat_len {α : Type} (f : α → List Nat) (n : Nat) : ∀ l : List α, (∀ a ∈ l, (f a).length ≤ n) → (l.flatMap f).length ≤ l.length * n
  | [], _ => by simp
  | a :: l, h => by
    have h1 := h a (by simp)
    have h2 := flat_len f n l fun b hb => h b (by simp [hb])
    simp only [List.flatMap_cons, List.length_append, List.length_cons]
    rw [Nat.add_mul]; omega
theorem spellS_len (port stage : Int) (ks : List Int) (h : ks.length ≤ 4) : (spellS port stage ks).length ≤ 8 := by
  have e : (spellS port stage ks).length = (spellS port stage ks).cps.toList.length := by simp [Str.length]
  rw [e]
  unfold spellS
  rw [join_cps]
  have := flat_len (fun s : Str => s.cps.toList) 2 (ks.map (sign1 port stage)) (fun a ha => by
    obtain ⟨k, _, rfl⟩ := List.mem_map.mp ha
    have := sign1_len port stage k
    simpa [Str.length] using this)
  simp only [List.length_map] at this
  omega
noncomputable def sel5 {α : Type} (d : Int) (a b c e f : α) : α := if d = 0 then a else if d = 1 then b else if d = 2 then c else if d = 3 then e else f
theorem pick5 {d : Int} (h : 0 ≤ d ∧ d ≤ 4) (x0 x1 x2 x3 x4 : Str) (t0 t1 t2 t3 t4 : Tok) :
    (#[Value.str x0 t0, .str x1 t1, .str x2 t2, .str x3 t3, .str x4 t4] : Array Value)[d.toNat]? = some (.str (sel5 d x0 x1 x2 x3 x4) (sel5 d t0 t1 t2 t3 t4)) := by
  have c : d = 0 ∨ d = 1 ∨ d = 2 ∨ d = 3 ∨ d = 4 := by omega
  rcases c with rfl | rfl | rfl | rfl | rfl <;> rfl
theorem sel5_len {d : Int} {n : Nat} {x0 x1 x2 x3 x4 : Str} (h0 : x0.length ≤ n) (h1 : x1.length ≤ n) (h2 : x2.length ≤ n) (h3 : x3.length ≤ n) (h4 : x4.length ≤ n) : (sel5 d x0 x1 x2 x3 x4).length ≤ n := by
  unfold sel5; repeat' split
  all_goals assumption
end

local macro_rules | `(tactic| walk1) => `(tactic| ((with_reducible show wpAny _ _ (call (Value.ref 202) [Value.ref _, Value.int _ _, Value.int _ _]) _ _ _); (k_dflt (refine' spelled_ _ _ _ _ _ ?hi ?hb ?hl _ _ ?hs _ _ _ _ _ _ _ _ _ _ _ _ _ _ _ _ _ _ _ _ _ _ _ _ ?k1 ?k2 ?k3 ?k4 ?k5 ?k6 ?k7 ?k8 (And.intro ?hm ?kQ))); (case k1 => k_asm); (case k2 => k_asm); (case k3 => k_asm); (case k4 => k_asm); (case k5 => k_asm); (case k6 => first | exact rfl | assumption); (case k7 => ktr_room); (case k8 => ktr_units); (case hm => first | assumption | (repeat (first | assumption | apply List.Mem.tail))); (case hi => assumption); (case hb => assumption); (case hl => assumption); (case hs => first | assumption | omega); (intro t9 h9 tk9 F9 N9); (try dsimp only); (try k_fold); walk_say "CONTRACT spelled"))
section

set_option maxHeartbeats 8000000
noncomputable def leftS (d : Int) : Str := sel5 d (Str.ofString "(") (Str.ofString "(") (Str.ofString "(") (Str.ofString "") (Str.ofString ")(")
noncomputable def rightS (d : Int) : Str := sel5 d (Str.ofString ")") (Str.ofString ") (s)") (Str.ofString "") (Str.ofString ")") (Str.ofString "))")
noncomputable def codeS (hid : Bool) (stage port : Int) : Str := if hid = true ∧ stage = 0 then Str.ofString "2" ++ strC port ++ Str.ofString "29 " else Str.ofString "229 "
noncomputable def replyS (kf kb : List Int) (port : Int) (hid : Bool) (dress stage : Int) : Str := codeS hid stage port ++ leftS dress ++ spellS port stage kf ++ Str.ofString (toString port) ++ spellS port stage kb ++ rightS dress
theorem codeS_pos {hid : Bool} {stage port : Int} (h1 : hid = true) (h2 : stage = 0) : codeS hid stage port = Str.ofString "2" ++ strC port ++ Str.ofString "29 " := if_pos ⟨h1, h2⟩
theorem codeS_neg {hid : Bool} {stage port : Int} (h2 : stage ≠ 0) : codeS hid stage port = Str.ofString "229 " := if_neg fun h => h2 h.2
theorem codeS_no {hid : Bool} {stage port : Int} (h1 : hid = false) : codeS hid stage port = Str.ofString "229 " := if_neg fun h => by rw [h1] at h; cases h.1
/-- a conditional expression that gives a text: its arms end alike, what follows is walked once -/
structure CutMark (x : Str) : Prop where
noncomputable def StrAt (h₀ : Heap) (L : Addr) (m : Str → Option Value) (news : List (Addr × Obj)) (x : Str) (s : Shared) (v : Value) (s' : Shared) : Prop :=
  ∃ (t : Tok) (h' : Heap) (tk : Nat), v = .str x t ∧ s' = { s with heap := h', toks := tk } ∧ Fr h₀ L h' m ∧ News h₀ L h' news
theorem strAt_end {h₀ h' : Heap} {L : Addr} {m : Str → Option Value} {news : List (Addr × Obj)} {x y : Str} {s : Shared} {t : Tok} {tk : Nat} (e : y = x) (F : Fr h₀ L h' m) (N : News h₀ L h' news) : StrAt h₀ L m news x s (.str y t) { s with heap := h', toks := tk } := by
  subst e; exact ⟨t, h', tk, rfl, rfl, F, N⟩
theorem cut_if {prog : Program} {w : World} {A : Around} {E : Value → Shared → Prop} {s : Shared} {env : Env} {test body orelse : Expr} {pos : Pos} {h₀ : Heap} {L : Addr} {m : Str → Option Value} {news : List (Addr × Obj)} {Q : Value → Shared → Prop} (x : Str) (_ : CutMark x) (_ : Fr h₀ L s.heap m) (_ : News h₀ L s.heap news)
    (h : wpAny (model prog w) A (isTrue test env (eval test env)) (fun c s₂ => if c then wpAny (model prog w) A (eval body env) (StrAt h₀ L m news x s) E s₂ else wpAny (model prog w) A (eval orelse env) (StrAt h₀ L m news x s) E s₂) E s)
    (h2 : ∀ (t : Tok) (h' : Heap) (tk : Nat), Fr h₀ L h' m → News h₀ L h' news → Q (.str x t) { s with heap := h', toks := tk }) : wpAny (model prog w) A (eval (.IfExp test body orelse pos) env) Q E s := by
  have k : wpAny (model prog w) A (eval (.IfExp test body orelse pos) env) (StrAt h₀ L m news x s) E s := IfExp_ h
  refine wpAny_mono k (fun v s' h' => ?_) fun _ _ e => e
  obtain ⟨t, h1, tk, rfl, rfl, F, N⟩ := h'
  exact h2 t h1 tk F N
local macro_rules | `(tactic| walk1) => `(tactic| ((with_reducible show wpAny _ _ (eval (Expr.IfExp _ _ _ _) _) _ _ _); (refine' cut_if _ ?mk ?cF ?cN ?cH ?cK; (case mk => assumption); (case cF => k_asm); (case cN => k_asm)); (case' cK => (intro t9 h9 tk9 F9 N9; (try dsimp only); (try k_fold))); walk_say "CUT"))
local macro_rules | `(tactic| walk1) => `(tactic| ((with_reducible show wpAny _ _ (binaryOp Operator.Add (Value.str _ _) (Value.str _ _)) _ _ _); (refine KLn.add_n (m := 300) (k := 300) ?x ?y (by decide) ?_); (case x => (simp only [PySem.Str.length_append]; first | done | omega)); (case y => first | omega | (simp only [PySem.Str.length_append]; omega)); (intro t9 tk9 _ _ _ _); walk_say "ADD"))
local macro_rules | `(tactic| walk1) => `(tactic| ((with_reducible show wpAny _ _ (subscriptTail _ _ (Value.ref _) (Value.int _ _)) _ _ _); (k_dflt (refine' item_list (News.isList ?N ?m) ?h0 ?h1 (pick5 ?h5 _ _ _ _ _ _ _ _ _ _) ?_ ?hs ?hg)); (case N => k_asm); (case m => k_mem); (case h0 => omega); (case h1 => omega); (case h5 => omega); (case hs => with_unfolding_all rfl); (case hg => (intro _; with_unfolding_all rfl)); walk_say "ITEM5"))
theorem reply_ (w : World) (D fa ba : Addr) (vf vb : List Value) (nf nb : Nat) (kf kb : List Int) (port dress stage : Int) (hid : Bool) (tp td ts : Tok) (if_ : IntsAre vf kf) (ib : IntsAre vb kb) (bf : ∀ k ∈ kf, 0 ≤ k ∧ k ≤ 5) (bb : ∀ k ∈ kb, 0 ≤ k ∧ k ≤ 5) (lf : kf.length ≤ 4) (lb : kb.length ≤ 4) (hp : 0 ≤ port ∧ port ≤ 999) (hd5 : 0 ≤ dress ∧ dress ≤ 4) (hs : 0 ≤ stage ∧ stage ≤ 2) : Tells0 w 209 [.ref D, .int stage ts] 5 40 (fun base h₀ L m news s Q => (D, drObj fa ba port hid dress tp td) ∈ news ∧ (fa, listOf vf.toArray nf) ∈ news ∧ (ba, listOf vb.toArray nb) ∈ news ∧ (∀ (t : Tok) (h' : Heap) (tk' : Nat), Fr h₀ L h' m → News h₀ L h' news → Q (.str (replyS kf kb port hid dress stage) t) { s with heap := h', toks := tk' })) := by
  delta Tells0; k_fill
  intro loose mean mg mb dp un gd cn cs a ccd cl outer A₀ base h₀ L m news s Q E B F X N T hk hd hu hret
  obtain ⟨hm1, hm2, hm3, hret⟩ := hret
  have q1 : (Str.ofString "2").length = 1 := by decide
  have q2 : (Str.ofString "29 ").length = 3 := by decide
  have q3 : (Str.ofString "229 ").length = 4 := by decide
  have q4 := strC_len port
  have q0 : (codeS hid stage port).length ≤ 6 := by
    unfold codeS; split
    · rw [PySem.Str.length_append, PySem.Str.length_append, strC_len]; decide
    · decide
  have q5 := spellS_len port stage kf lf
  have q6 := spellS_len port stage kb lb
  have q7 : (sel5 dress (Str.ofString "(") (Str.ofString "(") (Str.ofString "(") (Str.ofString "") (Str.ofString ")(")).length ≤ 7 := sel5_len (by decide) (by decide) (by decide) (by decide) (by decide)
  have q8 : (sel5 dress (Str.ofString ")") (Str.ofString ") (s)") (Str.ofString "") (Str.ofString ")") (Str.ofString "))")).length ≤ 7 := sel5_len (by decide) (by decide) (by decide) (by decide) (by decide)
  have q9 : (Str.ofString (toString port)).length ≤ 10 := KT.len_num hp.1 (by omega)
  have hlk : (K w.params).lookup 209 = some (o209 w.params) := by kernel_rfl
  have eP := (rfl : defP (stAt 19) = defP (stAt 19)); conv at eP => rhs; whnf
  have eB := (rfl : defB (stAt 19) = defB (stAt 19)); conv at eB => rhs; whnf
  have eS := (rfl : defS (stAt 19) = defS (stAt 19)); conv at eS => rhs; whnf
  unfold o209 at hlk
  rw [eP, eB, eS] at hlk
  clear eP eB eS
  refine wpAny_call ?_
  k_dflt cell_enter
  clear hlk
  have hcm : CutMark (codeS hid stage port) := ⟨⟩
  k_steps
  all_goals (first
    | refine strAt_end ?_ (by assumption) (cb_drop (by assumption) (fun p hp => by first | exact hp | exact List.Mem.tail _ hp | exact List.Mem.tail _ (List.Mem.tail _ hp)))
    | refine cb_retS hret ?_ (by assumption) (cb_drop (by assumption) (fun p hp => by first | exact hp | exact List.Mem.tail _ hp | exact List.Mem.tail _ (List.Mem.tail _ hp))))
  all_goals (first | rw [codeS_pos (by assumption) (by assumption)] | rw [codeS_neg (by assumption)] | rw [codeS_no (by assumption)] | rfl)
end

section

open Sem (wp)

/-- some code below is the claim's caller -/
noncomputable def Under (l : List (Code × Pos)) : Prop := (l.map (·.1)).any Code.isCaller = true
noncomputable def Over (Γ : Ctx) : Prop := Under ((Γ.code, default) :: Γ.below)
theorem Under.cons {c : Code} {p : Pos} {l : List (Code × Pos)} (h : Under l) : Under ((c, p) :: l) := by
  unfold Under at *
  simp only [List.map_cons, List.any_cons, h, Bool.or_true]
theorem Under.any {c : Code} {p p' : Pos} {l : List (Code × Pos)} (h : Under ((c, p) :: l)) : Under ((c, p') :: l) := h

noncomputable def wpC {α : Type} (M : Model) (A : Around) (t : Sem α) (Q : α → Shared → Prop) (E : Value → Shared → Prop) (s : Shared) : Prop :=
  ∀ Γ p, Γ.In A → Over Γ → wp M Γ t (fun a _ s' => Q a s') (fun e _ s' => E e s') p s
noncomputable def codeC (M : Model) (A : Around) (c : Code) (R : Result → Shared → Prop) (s : Shared) : Prop :=
  ∀ Γ p, Γ.code = c → Γ.Below A → Under Γ.below → wpCode M Γ R p s

section
variable {α β : Type} {M : Model} {A : Around} {E : Value → Shared → Prop} {s : Shared}
theorem C_any {t : Sem α} {Q : α → Shared → Prop} (h : wpAny M A t Q E s) : wpC M A t Q E s := fun Γ p hΓ _ => h Γ p hΓ
theorem C_pure {a : α} {Q : α → Shared → Prop} (h : Q a s) : wpC M A (pure a) Q E s := fun _ _ _ _ => h
theorem C_mono {t : Sem α} {Q Q' : α → Shared → Prop} {E' : Value → Shared → Prop} (h : wpC M A t Q E s) (hQ : ∀ a s, Q a s → Q' a s) (hE : ∀ e s, E e s → E' e s) :
    wpC M A t Q' E' s := fun Γ p hΓ ho => Sem.wp_mono M Γ t (fun a _ s => hQ a s) (fun e _ s => hE e s) p s (h Γ p hΓ ho)
theorem C_bind {m : Sem α} {f : α → Sem β} {Q : β → Shared → Prop} (h : wpC M A m (fun a s' => wpC M A (f a) Q E s') E s) : wpC M A (m >>= f) Q E s := by
  intro Γ p hΓ ho
  rw [Sem.wp_bind']
  exact Sem.wp_mono M Γ m (fun a p' s' h' => h' Γ p' hΓ ho) (fun _ _ _ y => y) p s (h Γ p hΓ ho)
theorem C_attempt {m : Sem α} {Q : Except Value α → Shared → Prop} (h : wpC M A m (fun a => Q (.ok a)) (fun e => Q (.error e)) s) : wpC M A m.attempt Q E s :=
  fun Γ p hΓ ho => by rw [Sem.wp_attempt]; exact h Γ p hΓ ho
theorem C_onRaise {m : Sem α} {k : Value → Sem Unit} {Q : α → Shared → Prop} (h : wpC M A m Q (fun e s' => wpC M A (k e) (fun _ s'' => E e s'') E s') s) : wpC M A (m.onRaise k) Q E s := by
  intro Γ p hΓ ho
  rw [Sem.wp_onRaise]
  exact Sem.wp_mono M Γ m (fun _ _ _ y => y) (fun e p' s' h' => h' Γ p' hΓ ho) p s (h Γ p hΓ ho)
theorem C_tryCatch {m : Sem α} {k : Value → Sem α} {Q : α → Shared → Prop} (h : wpC M A m Q (fun e s' => wpC M A (k e) Q E s') s) : wpC M A (tryCatch m k) Q E s := by
  intro Γ p hΓ ho
  rw [Sem.wp_tryCatch']
  exact Sem.wp_mono M Γ m (fun _ _ _ y => y) (fun e p' s' h' => h' Γ p' hΓ ho) p s (h Γ p hΓ ho)
theorem C_holding {vs : List Value} {m : Sem α} {Q : α → Shared → Prop} (h : wpC M A m Q E s) : wpC M A (holding vs m) Q E s :=
  fun Γ p hΓ ho => by rw [Sem.wp_holding]; exact h Γ p hΓ ho
theorem codeC_any {c : Code} {R : Result → Shared → Prop} (h : codeAny M A c R s) : codeC M A c R s := fun Γ p hc hΓ _ => h Γ p hc hΓ
theorem codeC_mono {c : Code} {R R' : Result → Shared → Prop} (h : codeC M A c R s) (hR : ∀ r s, R r s → R' r s) : codeC M A c R' s :=
  fun Γ p hc hΓ ho => wpCode_mono hR (h Γ p hc hΓ ho)
theorem C_run {c : Code} {h : Option Value} {Q : Flow → Shared → Prop} (hc : codeC M (A.mark h) c (fun r s' => match r with | .ok f => Q f s' | .error e => E e s') s)
    (hnb : h ≠ some byPass := by intro x; cases x) : wpC M A (run c h) Q E s := fun Γ p hΓ ho => by
  rw [Sem.wp_run]; exact hc _ p rfl (hΓ.enter c h p hnb) ho
theorem C_runValue {c : Code} {Q : Value → Shared → Prop} (hc : codeC M A c (fun r s' => match r with | .ok (.ret v) => Q v s' | .ok _ => False | .error e => E e s') s) :
    wpC M A (runValue c) Q E s := fun Γ p hΓ ho => by
  rw [Sem.wp_runValue]; exact hc _ p rfl (hΓ.enter c none p (by intro x; cases x)) ho
theorem C_call {f : Value} {pos : List Value} {kw : List (Str × Value)} {Q : Value → Shared → Prop}
    (hc : codeC M A (.call f ⟨pos, kw⟩) (fun r s' => match r with | .ok (.ret v) => Q v s' | .ok _ => False | .error e => E e s') s) : wpC M A (call f pos kw) Q E s := C_runValue hc
theorem codeC_tree {c : Code} {R : Result → Shared → Prop}
    (h : wpC M (A.under c) (M.den c) (fun fin s' => match fin with | .done f => R (.ok f) s' | .again c' => c'.quiet = true ∧ codeC M A c' R s') (fun e s' => R (.error e) s') s) :
    codeC M A c R s := by
  intro Γ p hc hΓ ho
  rw [wpCode_iff_wp, hc]
  refine Sem.wp_mono M Γ _ (fun fin p' s' h' => ?_) (fun _ _ _ y => y) p s (h Γ p (hc ▸ hΓ.in) ho.cons)
  cases fin with
  | done f => exact h'
  | again c' => exact ⟨h'.1, h'.2 (Γ.goto c') p' rfl (hΓ.goto c') ho⟩
end

/-! the mark is not set under the caller -/
section
variable {M : Model} {A : Around} {E : Value → Shared → Prop} {s : Shared}
theorem C_mark {own : List String} {e : Value} {Q : Unit → Shared → Prop} (h : Q () s) : wpC M A (markTheRefusal own e) Q E s := by
  intro Γ p hΓ ho
  unfold markTheRefusal
  have hc : ∀ codes : List Code, codes.any Code.isCaller = true → pythonCodeMadeTheCall own codes = false := by
    intro codes h
    show ((!(codes.any Code.isCaller)) && _ && _) = false
    rw [h]; rfl
  have hm := hc ((((Γ.code, p) :: Γ.below)).map (fun x => x.1)) (show ((((Γ.code, p) :: Γ.below)).map (fun x => x.1)).any Code.isCaller = true from ho)
  show wp M Γ (if pythonCodeMadeTheCall own ((((Γ.code, p) :: Γ.below)).map (·.1)) = true then _ else _) _ _ p s
  rw [hm]
  exact h
end

/-! the guard: asks for the caller, then goes on -/
noncomputable def guarded {α : Type} (t d : Sem α) : Sem α := .stack fun st => if (st.map (·.1)).any Code.isCaller then t else d
section
variable {α : Type} {M : Model} {A : Around} {E : Value → Shared → Prop} {s : Shared}
theorem any_guarded {t : Sem α} {a : α} {Q : α → Shared → Prop} (h : wpC M A t Q E s) (hd : Q a s) : wpAny M A (guarded t (pure a)) Q E s := by
  intro Γ p hΓ
  unfold guarded
  rw [Sem.wp_stack]
  by_cases hc : ((((Γ.code, p) :: Γ.below)).map (·.1)).any Code.isCaller = true
  · rw [if_pos hc]; exact h Γ p hΓ hc
  · rw [if_neg hc]; exact hd
theorem C_of_guarded {t d : Sem α} {Q : α → Shared → Prop} (h : wpAny M A (guarded t d) Q E s) : wpC M A t Q E s := by
  intro Γ p hΓ ho
  have h' := h Γ p hΓ
  unfold guarded at h'
  rw [Sem.wp_stack, if_pos (show ((((Γ.code, p) :: Γ.below)).map (fun x => x.1)).any Code.isCaller = true from ho)] at h'
  exact h'
end

theorem sched_guarded {p : Program} {w : World} {s s' : Shared} {t d : Sem Fin} {o : Outcome} {n : Nat} (hz : s.asleep)
    (h : schedN (denote table) p w n (.single s ⟨guarded t d, .builtin "claim.caller" {}, default, []⟩) = .halted o s') :
    ∃ m, schedN (denote table) p w m (.single s ⟨t, .builtin "claim.caller" {}, default, []⟩) = .halted o s' := by
  cases n with
  | zero => cases h
  | succ n =>
    refine ⟨n, ?_⟩
    have e := sstep_single (denote table) p w s ⟨guarded t d, .builtin "claim.caller" {}, default, []⟩ rfl hz
    have hs : step (denote table) p w s ⟨guarded t d, .builtin "claim.caller" {}, default, []⟩ = .go s ⟨t, .builtin "claim.caller" {}, default, []⟩ := rfl
    rw [hs] at e
    rcases e with e | e
    · unfold schedN at h
      rw [e] at h
      exact h
    · cases e

theorem open_guarded {c : ClaimW} {tree : List Value → Sem Fin} {d : Sem Fin} {defs keeps : List Str} {writes : Bool}
    (H : c.HoldsOpenBy (fun vs => ⟨guarded (tree vs) d, .builtin "claim.caller" {}, default, []⟩) defs keeps writes) :
    c.HoldsOpenBy (fun vs => ⟨tree vs, .builtin "claim.caller" {}, default, []⟩) defs keeps writes := by
  refine ⟨H.1, H.2.1, fun w => ⟨(H.2.2 w).1, fun s hs => ?_⟩⟩
  obtain ⟨s₀, hf, hg, s₁, hT, hp, h1, h2, h3⟩ := (H.2.2 w).2 s hs
  refine ⟨s₀, hf, hg, s₁, hT, hp, h1, h2, fun args ha hl ord ho => ?_⟩
  obtain ⟨vs, s₂, e, n, o, s', hn, r⟩ := h3 args ha hl ord ho
  have hz : s₁.asleep := Shared.asleep_of_life (hT.2.1.trans (fence_lifeW hf)) (AfterImport.life hs)
  obtain ⟨m, hm⟩ := sched_guarded (Shared.asleep_of_life (layAllW_rest _ _ _ e).2.2.2 hz) hn
  exact ⟨vs, s₂, e, m, o, s', hm, r⟩
end

section


/-- the walk of a law, under the caller; the first half says that an answer True, at once, would do -/
noncomputable abbrev WalkC (q : Program) (loose : List Str) (XP : (Str → Option Value) → Heap → Prop) (YP : World → Heap → Prop) (r : RowW) (d : DefRec) (kwd : List (Str × Expr)) : Prop :=
  ∀ (w : World) (s₀ s₁ : Shared) (mg mb : Str → Option Value), Ground q loose r.records XP w s₀ mg mb s₁.heap → YP w s₁.heap → ∀ (a : Addr) (o : Obj) (pm cd doc dV kV : Value), s₁.heap.get? a = some o →
    o.data = .func { docDef d.name d.params d.body d.scope pm cd doc with defaults := dV, kwdefaults := kV } → s₁.heap.CodeRec cd d.name → Dflts mg s₁.heap d.params kwd dV kV → mg d.name = some (.ref a) → s₁.gens = #[] →
    ∀ (args : List WData) (vals : List Value) (as : List Addr), r.claim.pre args = true → WData.layableAll args = true → ReadsAllW r.records (classAt s₀.heap) s₁.heap vals args as → WellAll w.params s₁.heap vals args → (∀ a ∈ as, (a == sysModules) = false) →
      GoodWG r.claim (classAt s₀.heap) (ExcName.means s₀.heap) args s₁ (.ok (.ret (.bool true))) s₁ ∧
      wpC (model r.prog w) callerA (call (.ref a) vals) (fun v s' => GoodWG r.claim (classAt s₀.heap) (ExcName.means s₀.heap) args s₁ (.ok (.ret v)) s')
        (fun e s' => GoodWG r.claim (classAt s₀.heap) (ExcName.means s₀.heap) args s₁ (.error e) s') s₁

theorem holds_under {r : OpenRow} {q : Program} {loose : List Str} {Xt : Shared → Bool} {XP : (Str → Option Value) → Heap → Prop} {α : Type} {Yf : Shared → α} {Ya : World → α} {YP : World → Heap → Prop} {d : DefRec} {kwd : List (Str × Expr)} {N : Nat}
    (left : LeftO r.prog q loose Xt Yf Ya N) (hY : ∀ w s, Yf s = Ya w → YP w s.heap) (hYk : ∀ w h h', YP w h → (∀ b o, h.get? b = some o → h'.get? b = some o) → YP w h')
    (hX : ∀ s, Xt s = true → XP (s.heap.nsMap mainGlobals) s.heap) (hXk : ∀ mg h h', XP mg h → (∀ b o, h.get? b = some o → h'.get? b = some o) → XP mg h')
    (hdef : defOf q r.name = some (d, kwd)) (hp : r.prog.theDef r.name = some (d.params, d.body, d.scope)) (hk : kwWritten? d.params.kwonlyargs d.params.kw_defaults = some kwd) (hRf : ∀ s, Xt s = true → RecFacts r.records s.heap) (hwr : (!r.writes || r.records.isEmpty) = true)
    (k1 : r.wellSaid = true) (ok : (chainsOk q && opensWell r.prog && (frees r.toRowW && r.within.isEmpty)) = true) (hb : r.prog.bare) (hw : r.toRowW.promised)
    (walk : WalkC q loose XP YP r.toRowW d kwd) : r.Holds := by
  refine ⟨k1, hw, open_guarded (d := ret (.bool true)) (open_anyG (r := r.toRowW) (run := fun f vs => guarded (call f vs) (pure (.bool true)))
    (tree := fun vs => guarded (do match ← nsGet mainNs r.name with
      | some f => do ret (← call f vs)
      | none => unsupported "claim.caller:no-such-global") (ret (.bool true))) left hY hYk hX hXk hRf hwr ok hb hw ?_ ?_ ?_)⟩
  · intro vs w s mg f Q E hg hf h Γ p hΓ
    have h0 := h Γ p hΓ
    unfold guarded at h0 ⊢
    rw [Sem.wp_stack] at h0 ⊢
    by_cases hc : ((((Γ.code, p) :: Γ.below)).map (fun x => x.1)).any Code.isCaller = true
    · rw [if_pos hc] at h0 ⊢
      refine (C_bind (M := model r.prog w) (C_any (wpAny_nsGet hg (?_ : wpC (model r.prog w) callerA _ Q E s)))) Γ p hΓ hc
      rw [hf]
      exact C_bind (C_mono (C_of_guarded h) (fun _ _ x => C_pure x) fun _ _ x => x)
    · rw [if_neg hc] at h0 ⊢
      exact h0
  · intro w s hg G n hn
    obtain rfl : n = r.name := by split at hn <;> simp_all
    exact pinned_of_view hg G hdef hp hk
  · intro w s₀ s₁ mg mb G Y args vs as hpre hlay L low
    obtain ⟨a, o, pm, cd, doc, dV, kV, h1, h2, h3, h4, h5⟩ := G.fn hdef
    obtain ⟨g, c⟩ := walk w s₀ s₁ mg mb G Y a o pm cd doc dV kV h2 h3 h4 h5 (defOf_name hdef ▸ h1) L.gens args vs as hpre hlay L.reads L.well (L.low low)
    exact ⟨.ref a, h1, any_guarded c g⟩
end

section
open PySem.NumText
open Sem (wp)
section
variable {prog : Program} {w : World} {A : Around} {E : Value → Shared → Prop} {s : Shared}
theorem codeC_builtin {id : String} {args : Args} {b : Builtin} {R : Result → Shared → Prop} (hb : entryFor table id = some b)
    (h : wpC (model prog w) (A.under (.builtin id args)) (b args) (fun fin s' => match fin with | .done f => R (.ok f) s' | .again c' => c'.quiet = true ∧ codeC (model prog w) A c' R s') (fun e s' => R (.error e) s') s) :
    codeC (model prog w) A (.builtin id args) R s := by
  refine codeC_tree ?_
  show wpC _ _ (match entryFor table id with | some b => b args | none => unsupported ((withoutEnding? id "#data").getD id)) _ _ s
  rw [hb]; exact h
theorem codeC_call_builtin {id : String} {args : Args} {b : Builtin} {R : Result → Shared → Prop} (hq : plainId id = true) (hb : entryFor table id = some b) (hc : checkBuiltinCall id args = pure ())
    (h : wpC (model prog w) A.in1 (b args) (fun fin s' => match fin with | .done f => R (.ok f) s' | .again c' => c'.quiet = true ∧ codeC (model prog w) A c' R s') (fun e s' => R (.error e) s') s) :
    codeC (model prog w) A (.call (.builtin id) args) R s := by
  refine codeC_tree ?_
  show wpC _ A.in1 (do checkBuiltinCall id args; again (.builtin id args)) _ _ s
  rw [hc]
  refine C_bind (C_pure (C_pure (And.intro (plainId_quiet hq args) (codeC_builtin hb ?_))))
  rw [Around.under_plainId hq]; exact h

theorem C_int_new {x : Value} {Q : Value → Shared → Prop}
    (h : wpC (model prog w) A.in1.in1 (Builtin.«int.__new__» ⟨[.type "int", x], []⟩) (fun _ _ => False) E s) : wpC (model prog w) A (call (.type "int") [x]) Q E s := by
  obtain ⟨c, tl, hmro⟩ := F.called_int.mro
  have hmade := F.called_int.made
  refine C_call (codeC_tree ?_)
  show wpC _ _ (callAny (.type "int") _) _ _ _
  refine C_pure ⟨Code.quiet_builtin _ (by decide +kernel), codeC_builtin F.entry_type_call ?_⟩
  rw [Around.under_plain (weight_type_call_type "int" [x] []) (units_type_call_type "int" [x] [])]
  have h1 := F.called_int.notType
  have h2 := F.called_int.canCreate
  unfold Builtin.«type.__call__»
  simp only [h1, h2, hmro, hmade, F.typeCall_int_1, pure_bind, Bool.false_eq_true, if_false, List.isEmpty_cons]
  exact C_bind (C_holding (C_call (codeC_call_builtin F.called_int.plain F.entry_int_new (F.newCall_int_1 x) (C_mono h (fun _ _ y => y.elim) fun _ _ y => y))))

theorem cut_len (y : PySem.Str) : (((PySem.Str.ofString (toString "invalid literal for int() with base " ++ toString 10 ++ toString ": ") : PySem.Str) ++ (⟨y.cps.extract 0 200⟩ : PySem.Str)) : PySem.Str).length ≤ sizeLine := by
  show ((PySem.Str.ofString (toString "invalid literal for int() with base " ++ toString 10 ++ toString ": ")).cps ++ y.cps.extract 0 200).size ≤ sizeLine
  rw [Array.size_append, Array.size_extract]
  have h1 : (PySem.Str.ofString (toString "invalid literal for int() with base " ++ toString 10 ++ toString ": ")).cps.size = 40 := by decide +kernel
  rw [h1, sizeLine_eq]
  omega

theorem C_text {x : PySem.Str} {t : Tok} (hs : (numSeenOf x).length ≤ 640) (hr : (int_private% "readNumeral") 0 10 (numSeenOf x) = int_private% "Numeral.invalid" ∨
      ∃ i, (int_private% "readNumeral") 0 10 (numSeenOf x) = (int_private% "Numeral.value") i ∧ ¬ ((numSeenOf x).length == (numTextOf x).length) = true) (hh : A.handled = none)
    (hz : (reprText x).length ≤ sizeLine)
    (h : ∀ h' e tk args, Heap.MadeExc s.heap h' e "ValueError" args → E (.ref e) { s with heap := h', toks := tk }) :
    wpC (model prog w) A ((int_private% "intFromText") (.str x t) (numTextOf x) 10) (fun _ _ => False) E s := by
  have tail : wpC (model prog w) A (α := Value) (do
      rule "int.__new__.invalid-literal"
      let shown ← pyRepr (.str x t)
      let v ← mkStr ((PySem.Str.ofString (toString "invalid literal for int() with base " ++ toString 10 ++ toString ": ") : PySem.Str) ++ (⟨shown.cps.extract 0 200⟩ : PySem.Str))
      let refusal ← newExc (.type "ValueError") [v]
      markTheRefusal ["int.__new__"] refusal
      raiseNew refusal) (fun _ _ => False) E s := by
    refine C_bind (C_any (wpAny_rule ?_))
    refine C_bind (C_any (wpAny_pyRepr_str ?_ hz))
    refine C_bind (C_any (wpAny_mkStr ?_ (cut_len _)))
    refine C_bind (C_any (wpAny_newExc_plain plainExc_ValueError (fun h' e hm => ?_) (by show 1 ≤ sizeLine; rw [sizeLine_eq]; decide)))
    refine C_bind (C_mark ?_)
    exact C_any (wpAny_raiseNew_none hh (h h' e _ _ hm))
  show wpC _ _ (ite ((numSeenOf x).length ≤ 640) _ _) _ _ _
  rw [if_pos hs]
  refine C_bind (C_pure ?_)
  rcases hr with e | ⟨i, e, hne⟩
  · dsimp only
    rw [e]
    exact tail
  · dsimp only
    rw [e]
    show wpC _ _ (ite (((numSeenOf x).length == (numTextOf x).length) = true) _ _) _ _ _
    rw [if_neg hne]
    exact tail

theorem C_int_text {x : PySem.Str} {t : Tok} (hn : PySem.intText? x = none) (hl : x.length ≤ 640) (hz : (reprText x).length ≤ sizeLine) (hh : A.handled = none)
    (h : ∀ h' e tk args, Heap.MadeExc s.heap h' e "ValueError" args → E (.ref e) { s with heap := h', toks := tk }) :
    wpC (model prog w) A (Builtin.«int.__new__» ⟨[.type "int", .str x t], []⟩) (fun _ _ => False) E s := by
  have f1 := F.conv_sub_int
  have f2 := F.madeHere_int
  have f3 := KIN.str_int
  have f4 := KIN.str_idx
  have f5 := KIN.str_trunc
  unfold Builtin.«int.__new__»
  have g1 : isType (.type "int") = pure true := rfl
  have g2 : (Value.type "int" == Value.type "int" && ([] : List (PySem.Str × Value)).isEmpty && decide ([Value.str x t].length > 2)) = false := rfl
  have g3 : ¬ ([Value.str x t].length + ([] : List (PySem.Str × Value)).length > 2) := by simp
  simp only [f1, f2, g1, g2, if_neg g3, pure_bind, Bool.not_true, Bool.false_eq_true, if_false, List.forIn_nil, List.head?_cons, List.head?_nil, Option.map_none]
  refine C_bind (C_mono (?_ : wpC _ _ _ (fun _ _ => False) E s) (fun _ _ y => y.elim) fun _ _ y => y)
  have f6 : typeOf (.str x t) = pure (.type "str") := rfl
  refine C_bind (m := callSpecial? (.str x t) "__int__") (C_any ?_)
  obtain ⟨hp, g, d, tk, os⟩ := s
  repeat (any_goals (first | assumption | wp_step))
  refine C_bind (m := specialOf (.str x t) "__index__") (C_any ?_)
  repeat (any_goals (first | assumption | wp_step))
  refine C_bind (m := specialOf (.str x t) "__trunc__") (C_any ?_)
  repeat (any_goals (first | assumption | wp_step))
  refine C_bind (m := (int_private% "numeralText?") (.str x t)) (C_any ?_)
  repeat (any_goals (first | assumption | wp_step))
  show wpC _ _ ((int_private% "intFromText") (.str x t) (numTextOf x) 10) _ _ _
  have hs : (numSeenOf x).length ≤ 640 := Nat.le_trans (seen_length x) hl
  refine C_text hs ?_ hh hz h
  rcases read0 x hs with ⟨m, e, _⟩ | ⟨_, e | e⟩
  · rw [hn] at e; cases e
  · exact .inl e
  · exact .inr e
end
end

section

section
variable {M : Model} {A : Around} {E : Value → Shared → Prop} {s : Shared} {env : Env}
theorem C_execs_cons {st : Stmt} {rest : List Stmt} {Q : Flow → Shared → Prop}
    (h : wpC M A (exec st env) (fun f s' => match f with | .next => wpC M A (execs rest env) Q E s' | f => Q f s') E s) : wpC M A (execs (st :: rest) env) Q E s := by
  show wpC M A (exec st env >>= fun f => match f with | .next => execs rest env | f => pure f) Q E s
  refine C_bind (C_mono h (fun f s' h' => ?_) fun _ _ y => y)
  cases f <;> first | exact h' | exact C_pure h'
theorem C_execs_nil {Q : Flow → Shared → Prop} (h : Q .next s) : wpC M A (execs [] env) Q E s := C_pure h
theorem execs_app (env : Env) (ys : List Stmt) : ∀ xs : List Stmt, execs (xs ++ ys) env = (execs xs env >>= fun f => match f with | .next => execs ys env | f => pure f)
  | [] => by
    show execs ys env = (pure Flow.next >>= _)
    rw [pure_bind]
  | x :: xs => by
    show (exec x env >>= fun f => match f with | .next => execs (xs ++ ys) env | f => pure f) = ((exec x env >>= fun f => match f with | .next => execs xs env | f => pure f) >>= _)
    rw [bind_assoc]
    refine bind_congr fun f => ?_
    cases f with
    | next => exact execs_app env ys xs
    | _ => simp only [pure_bind]
/-- the first statements are walked by the kit, the rest under the caller -/
theorem C_cut {xs ys : List Stmt} {Q : Flow → Shared → Prop}
    (h : wpAny M A (execs xs env) (fun f s' => match f with | .next => wpC M A (execs ys env) Q E s' | f => Q f s') E s) : wpC M A (execs (xs ++ ys) env) Q E s := by
  rw [execs_app]
  refine C_bind (C_any (wpAny_mono h (fun f s' h' => ?_) fun _ _ y => y))
  cases f <;> first | exact h' | exact C_pure h'

theorem C_Return {e : Expr} {pos : Pos} {Q : Flow → Shared → Prop} (h : wpC M A (eval e env) (fun v s' => Q (.ret v) s') E s) : wpC M A (exec (.Return (some e) pos) env) Q E s := by
  rw [arm_exec_Return]
  refine C_bind (C_any (wpAny_standAt ?_))
  exact C_bind (C_mono h (fun _ _ y => C_pure y) fun _ _ y => y)

theorem C_Try {body : List Stmt} {h₀ : ExceptHandler} {hs : List ExceptHandler} {pos : Pos} {Q : Flow → Shared → Prop}
    (h : wpC M A (execs body env) (fun f s₁ => Q f s₁)
      (fun e s₁ => wpAny M A (noteFrame e env) (fun _ s₂ => wpAny M A (setFlight e none) (fun _ s₃ => wpAny M A (handleBy e env (h₀ :: hs)) Q E s₃) E s₂) E s₁) s) :
    wpC M A (exec (.Try body (h₀ :: hs) [] [] pos) env) Q E s := by
  rw [arm_exec_Try]
  refine C_bind (C_any (wpAny_standAt ?_))
  unfold tryStmt
  simp only [List.isEmpty_nil, if_true, List.isEmpty_cons, Bool.false_eq_true, if_false, Bool.false_and]
  refine C_bind (C_attempt (C_mono h (fun f s' h' => ?_) fun e s' h' => ?_))
  · cases f <;> exact C_pure h'
  · exact C_any (wpAny_bind (wpAny_mono h' (fun _ _ h₂ => wpAny_bind (wpAny_mono h₂ (fun _ _ h₃ => h₃) fun _ _ y => y)) fun _ _ y => y))

theorem C_If_ne {l r : Expr} {body orelse : List Stmt} {p p' : Pos} {Q : Flow → Shared → Prop} (hm : ∀ t, markedEach [.NotEq] [r] [t] = [t])
    (h : wpC M A (eval l env) (fun v s₁ => wpAny M A (testChain p v [.NotEq] [eval r env]) (fun b s₂ => wpC M A (if b then execs body env else execs orelse env) Q E s₂) E s₁) E s) :
    wpC M A (exec (.If (.Compare l [.NotEq] [r] p) body orelse p') env) Q E s := by
  rw [arm_exec_If]
  refine C_bind (C_any (wpAny_standAt ?_))
  rw [arm_isTrue_Compare]
  refine C_bind (C_bind (C_mono h (fun v s₁ h₁ => ?_) fun _ _ y => y))
  rw [arm_evalEach_cons, arm_evalEach_nil, hm]
  exact C_any (wpAny_mono h₁ (fun b s₂ h₂ => by cases b <;> exact h₂) fun _ _ y => y)

theorem C_Assign {x : Str} {e : Expr} {p p' : Pos} {Q : Flow → Shared → Prop} (hs : ∀ n, swapsWith e (some (.Name x p)) n env = pure false) (hw : swappedStores [.Name x p] e env = pure none)
    (h : wpC M A (eval e env) (fun v s₁ => wpAny M A (storeName env x v) (fun _ s₂ => Q .next s₂) E s₁) E s) :
    wpC M A (exec (.Assign [.Name x p] e p') env) Q E s := by
  rw [arm_exec_Assign]
  refine C_bind (C_any (wpAny_standAt ?_))
  simp only [swapsWithSole, hs, hw, pure_bind, Bool.false_eq_true, if_false]
  refine C_bind (C_mono h (fun v s₁ h₁ => ?_) fun _ _ y => y)
  show wpC M A (assignAll v _ >>= fun _ => pure Flow.next) Q E s₁
  refine C_any (wpAny_bind (wpAny_mono (Q := fun _ s₂ => Q .next s₂) ?_ (fun _ _ h₂ => wpAny_pure h₂) fun _ _ y => y))
  show wpAny M A (assignAll v [fun v => do standAt p; bindName env x v]) _ E s₁
  simp only [assignAll]
  exact wpAny_bind (wpAny_standAt (wpAny_bindName h₁))

theorem args_plain {f : Value} {x : Sem Value} {rest : List (Bool × Sem Value)} {Q : Args → Shared → Prop} (h : wpAny M A (spliced ((false, x) :: rest)) (fun vs s₁ => Q ⟨vs, []⟩ s₁) E s) :
    wpAny M A (evalArgs f true ((false, x) :: rest) []) Q E s :=
  evalArgs_kw (keywords := []) rfl (wpAny_mono h (fun _ _ h₁ => wpAny_evalAll_nil h₁) fun _ _ y => y)
structure CallReady (a : Addr) (s : Shared) (P : Prop) : Prop where
  fn : ∃ o fd, s.heap.get? a = some o ∧ o.data = .func fd
  go : P
/-- a call of a written function, all arguments plain -/
theorem C_callWith_def {a : Addr} {pos : Pos} {x : Sem Value} {rest : List (Bool × Sem Value)} {Q : Value → Shared → Prop} (hp : rest.any (·.1) = false) (hl : rest.length ≤ 29)
    (h : wpAny M A (spliced ((false, x) :: rest)) (fun vs s₁ => CallReady a s₁ (wpC M A (call (.ref a) vs) Q E s₁)) E s) :
    wpC M A (callWith pos (.ref a) [] ((false, x) :: rest) []) Q E s := by
  unfold callWith
  refine C_bind (C_holding (C_mono (C_any (args_plain (Q := fun y s₁ => y.kw = [] ∧ (∃ o fd, s₁.heap.get? a = some o ∧ o.data = .func fd) ∧ wpC M A (call (.ref a) y.pos) Q E s₁) (wpAny_mono h (fun _ _ y => ⟨rfl, y.fn, y.go⟩) fun _ _ y => y)))
    (fun y s₁ h₁ => C_bind (C_any (wpAny_standAt ?_))) fun _ _ y => y))
  have tail : ∀ {t : Sem Value}, wpC M A t Q E s₁ → wpC M A (t >>= fun r => holding [r] point >>= fun _ => pure r) Q E s₁ := fun ht =>
    C_bind (C_mono ht (fun r s₂ hr => C_any (wpAny_bind (wpAny_holding (wpAny_point (wpAny_pure hr))))) fun _ _ y => y)
  refine C_bind (m := keeperOf (.ref a)) (C_any ?_)
  unfold keeperOf
  obtain ⟨hkw, ⟨o, fd, ho, hd⟩, hc⟩ := h₁
  refine wpAny_bind (wpAny_load ho ?_)
  rw [hd]
  refine wpAny_pure ?_
  have hl' : ¬ (rest.length + 1 + 2 * ([] : List (Option Str × Sem Value)).length > 30) := by simp only [List.length_nil]; omega
  simp only [List.any_cons, hp, List.any_nil, Bool.or_false, List.length_cons, if_neg hl', hkw]
  refine tail ?_
  intro Γ p hΓ ho'
  unfold callMarked
  rw [Sem.wp_keep]
  exact hc Γ p hΓ ho'

theorem C_callWith_type {T : String} {pos : Pos} {x : Sem Value} {rest : List (Bool × Sem Value)} {Q : Value → Shared → Prop} (hp : rest.any (·.1) = false)
    (h : wpAny M A (spliced ((false, x) :: rest)) (fun vs s₁ => wpC M A (call (.type T) vs) Q E s₁) E s) :
    wpC M A (callWith pos (.type T) [] ((false, x) :: rest) []) Q E s := by
  unfold callWith
  refine C_bind (C_holding (C_mono (C_any (args_plain (Q := fun y s₁ => y.kw = [] ∧ wpC M A (call (.type T) y.pos) Q E s₁) (wpAny_mono h (fun _ _ y => ⟨rfl, y⟩) fun _ _ y => y)))
    (fun y s₁ h₁ => C_bind (C_any (wpAny_standAt ?_))) fun _ _ y => y))
  obtain ⟨hkw, hc⟩ := h₁
  simp only [List.any_cons, hp, List.any_nil, Bool.or_false, hkw]
  refine C_bind (m := keeperOf (.type T)) (C_pure ?_)
  exact C_bind (C_mono hc (fun r s₂ hr => C_any (wpAny_bind (wpAny_holding (wpAny_point (wpAny_pure hr))))) fun _ _ y => y)

theorem C_eval_Call {f : Str} {p pos : Pos} {args : List Expr} {kws : List Keyword} {Q : Value → Shared → Prop}
    (h : wpAny M A (eval (.Name f p) env) (fun v s₁ => wpC M A (callWith pos v [] (backTo pos (starEach args env)) (backToKw pos (keywordEach kws env))) Q E s₁) E s) :
    wpC M A (eval (.Call (.Name f p) args kws pos) env) Q E s := by
  show wpC M A (eval (.Name f p) env >>= fun v => callWith pos v [] (backTo pos (starEach args env)) (backToKw pos (keywordEach kws env))) Q E s
  exact C_bind (C_any h)
end

section
variable {prog : Program} {w : World} {A : Around} {s : Shared} {R : Result → Shared → Prop}
theorem codeC_func {body : List Stmt} {env : Env}
    (h : wpC (model prog w) (A.deeper env) (execs body env) (fun f s' => R (.ok (.ret (match f with | .ret v => v | _ => .none))) s')
      (fun e s' => wpAny (model prog w) (A.deeper env) (leaving env e) (fun _ s'' => R (.error e) s'') (fun e' s'' => R (.error e') s'') s') s) :
    codeC (model prog w) A (.func body env) R s := by
  refine codeC_tree ?_
  show wpC _ (A.deeper env) (do point; match ← (execs body env).onRaise (leaving env) with | .ret v => ret v | _ => ret .none) _ _ s
  refine C_bind (C_any (wpAny_point ?_))
  refine C_bind (C_onRaise (C_mono h (fun f s' h' => ?_) fun _ _ y => C_any y))
  cases f <;> exact C_pure h'

theorem codeC_call_def {a : Addr} {o : Obj} {fd : FuncData} {body : List Stmt} {args : Args} {binds : List (Str × Value)}
    (hroom : A.depth < recursionLimit) (ho : s.heap.get? a = some o) (hdata : o.data = .func fd) (hlim : s.heap.NoLimit) (hcd : s.heap.CodeRec fd.code fd.qualname)
    (hbody : fd.body = .stmts body) (hbind : BindsTo s fd args binds)
    (hcell : ∀ x ∈ fd.scope.names, x.2 ≠ .cell) (hloc : ∀ x ∈ binds, fd.scope.names.lookup x.1 = some .local)
    (h : ∀ h₀, h₀.Ns s.heap.objs.size (fun x => binds.reverse.lookup x) → (∀ b o, s.heap.get? b = some o → h₀.get? b = some o) →
      wpC (model prog w) (A.deeper (callEnv fd s.heap.objs.size a)) (execs body (callEnv fd s.heap.objs.size a)) (fun f s' => R (.ok (.ret (match f with | .ret v => v | _ => .none))) s')
        (fun e s' => wpAny (model prog w) (A.deeper (callEnv fd s.heap.objs.size a)) (leaving (callEnv fd s.heap.objs.size a) e) (fun _ s'' => R (.error e) s'') (fun e' s'' => R (.error e') s'') s')
        { s with heap := h₀, toks := s.toks + binds.length })
    (hco : fd.scope.isCoroutine = false := by rfl) (hgen : fd.scope.isGenerator = false := by rfl) (hk : fd.scope.kind = .function := by rfl) :
    codeC (model prog w) A (.call (.ref a) args) R s := by
  refine codeC_tree ?_
  show wpC _ A.in1 (callAny (.ref a) args) _ _ s
  simp only [callAny]
  refine C_bind (C_any (wpAny_load ho ?_))
  obtain ⟨c, oc, vs, tq, hc, hoc, hdc, hq⟩ := hcd
  simp only [hdata, callFunction, hco, hgen, hbody, hc]
  refine C_bind (m := field (.ref c) 1) (C_any (wpAny_field hoc hdc hq (?_ : wpC _ _ _ _ _ _)))
  refine C_bind (C_pure ?_)
  refine C_bind (C_any (hbind _ _ _ _ ?_))
  rw [← hc]
  refine C_bind (C_any (wpAny_newFunctionEnv hcell hloc (fun h₁ hns hsb => ?_) hk))
  refine C_bind (C_any (wpAny_enterFrame (hlim.fresh _ hsb) hroom ?_))
  refine C_pure ⟨rfl, codeC_func (h h₁ hns fun b o e => ?_)⟩
  exact hsb.extBut b o (Nat.ne_of_lt (Heap.lt_size e)) (Heap.get?_push_of_some _ e)

/-- a loop of n turns; nothing is raised in it -/
theorem codeC_for {x : Str} {p : Pos} {it : Value} {body : List Stmt} {env : Env} (n : Nat) (I : Nat → Shared → Prop)
    (turn : ∀ i s, i < n → I i s → wpAny (model prog w) A (pyNext it) (fun r s₁ => ∃ v, r = some v ∧
      wpAny (model prog w) A (assign (.Name x p) env v) (fun _ s₂ => wpC (model prog w) A (execs body env) (fun f s₃ => match f with
        | .next | .cont => I (i + 1) s₃
        | .brk => False
        | .ret v => R (.ok (.ret v)) s₃) (fun _ _ => False) s₂) (fun _ _ => False) s₁) (fun _ _ => False) s)
    (done : ∀ s, I n s → wpAny (model prog w) A (pyNext it) (fun r s₁ => r = none ∧ R (.ok .next) s₁) (fun _ _ => False) s) :
    ∀ (k i : Nat) (s : Shared), i + k = n → I i s → codeC (model prog w) A (.forLoop (.Name x p) it body [] env) R s := by
  intro k
  induction k with
  | zero =>
    intro i s hi hI
    refine codeC_tree ?_
    show wpC _ A ((forTurn (.Name x p) it body [] env).onRaise (fun x => do noteFrame x env; theTreesLotGoes x)) _ _ s
    refine C_onRaise ?_
    refine C_mono (E := fun _ _ => False) ?_ (fun _ _ y => y) fun _ _ y => y.elim
    simp only [forTurn]
    refine C_bind (C_any (wpAny_standAt ?_))
    subst hi
    refine C_bind (C_any (wpAny_onRaise (wpAny_mono (done s (by rw [Nat.add_zero] at *; exact hI)) (fun r s₁ h₁ => ?_) fun _ _ y => y.elim)))
    obtain ⟨rfl, hR⟩ := h₁
    exact C_pure ⟨rfl, codeC_any (codeAny_block (wpAny_pure hR))⟩
  | succ k ih =>
    intro i s hi hI
    refine codeC_tree ?_
    show wpC _ A ((forTurn (.Name x p) it body [] env).onRaise (fun x => do noteFrame x env; theTreesLotGoes x)) _ _ s
    refine C_onRaise ?_
    refine C_mono (E := fun _ _ => False) ?_ (fun _ _ y => y) fun _ _ y => y.elim
    simp only [forTurn]
    refine C_bind (C_any (wpAny_standAt ?_))
    refine C_bind (C_any (wpAny_onRaise (wpAny_mono (turn i s (by omega) hI) (fun r s₁ h₁ => ?_) fun _ _ y => y.elim)))
    obtain ⟨v, rfl, h₂⟩ := h₁
    refine C_bind (m := letOwnedTupleGo (.Name x p) it v) (C_pure ?_)
    refine C_bind (C_any (wpAny_mono h₂ (fun _ s₂ h₂ => ?_) fun _ _ y => y))
    refine C_bind (C_mono h₂ (fun f s₃ h₃ => ?_) fun _ _ y => y)
    cases f with
    | next => exact C_pure ⟨rfl, ih (i + 1) s₃ (by omega) h₃⟩
    | cont => exact C_pure ⟨rfl, ih (i + 1) s₃ (by omega) h₃⟩
    | brk => exact h₃.elim
    | ret v => exact C_pure h₃

theorem C_For {E : Value → Shared → Prop} {x : Str} {p pos : Pos} {iter : Expr} {body : List Stmt} {env : Env} {Q : Flow → Shared → Prop} (hs : ∀ v, foldedSetIterable iter env v = pure v)
    (h : wpAny (model prog w) A (eval iter env) (fun v s₁ => wpAny (model prog w) A (pyIter v) (fun it s₂ =>
      codeC (model prog w) A (.forLoop (.Name x p) it body [] env) (fun r s₃ => match r with | .ok f => Q f s₃ | .error _ => False) s₂) E s₁) E s) :
    wpC (model prog w) A (exec (.For (.Name x p) iter body [] pos) env) Q E s := by
  rw [arm_exec_For]
  refine C_bind (C_any (wpAny_standAt ?_))
  refine C_bind (C_any (wpAny_mono h (fun v s₁ h₁ => ?_) fun _ _ y => y))
  rw [hs]
  refine C_bind (C_pure ?_)
  refine C_bind (C_any (wpAny_standAt ?_))
  refine C_bind (C_any (wpAny_holding (wpAny_mono h₁ (fun it s₂ h₂ => ?_) fun _ _ y => y)))
  unfold runOwn
  refine C_onRaise (C_run (codeC_mono h₂ fun r s₃ h₃ => ?_))
  cases r with
  | ok f => exact h₃
  | error e => exact h₃.elim
end
end

section

section
variable {prog : Program} {w : World} {A₀ A : Around} {s : Shared} {base h₀ : Heap} {outer : List Env} {L a : Addr} {m : Str → Option Value} {cn : Str} {cs : Scope} {ccd : Value} {news : List (Addr × Obj)} {K : Frag} {p : Program} {loose : List Str} {mean : ExcName → Option Value} {mg mb : Str → Option Value}
    {R : Result → Shared → Prop} {name qual : Str} {params : Arguments} {body : List Stmt} {scope : Scope} {dV kV doc pm cdv ct oc : Value} {an od : Option Addr} {osl : Array (Option Value)} {f : Addr} {args : Args} {binds : List (Str × Value)}

theorem codeC_def {env : Env} (B : Below A₀ base outer h₀) (F : Fr h₀ L s.heap m) (X₀ : K.In h₀) (N : News h₀ L s.heap news) (T : Top p loose mean mg mb h₀) (hA : A.frames = some (env :: outer)) (hf : env.frame = some L) (hke : env.scope.kind = .function)
    (ho : K.lookup f = some ⟨oc, od, .func (fnOf name qual params body scope dV kV doc pm an cdv ct), osl⟩) (hcd : codeIn K cdv qual = true) (hroom : A.depth < recursionLimit)
    (hbind : BindsTo s (fnOf name qual params body scope dV kV doc pm an cdv ct) args binds) (hloc : ∀ y ∈ binds, scope.names.lookup y.1 = some .local)
    (h : ∀ g L' h₁, Fr h₀ L g m → Fr g L' h₁ (fun y => binds.reverse.lookup y) → News g L' h₁ news → Below A base (env :: outer) g → K.In g → Top p loose mean mg mb g →
      wpC (model prog w) (A.deeper (envOf qual scope L' f cdv)) (execs body (envOf qual scope L' f cdv))
        (fun fl s' => LeaveK h₀ L m g R (match fl with | .ret v => v | _ => .none) s')
        (fun e s' => wpAny (model prog w) (A.deeper (envOf qual scope L' f cdv)) (leaving (envOf qual scope L' f cdv) e) (fun _ s'' => R (.error e) s'') (fun e' s'' => R (.error e') s'') s')
        { s with heap := h₁, toks := s.toks + binds.length })
    (hco : scope.isCoroutine = false) (hgen : scope.isGenerator = false) (hk : scope.kind = .function) (hcell : ∀ x ∈ scope.names, x.2 ≠ .cell) :
    codeC (model prog w) A (.call (.ref f) args) R s := by
  have X := X₀.keeps F.keep
  obtain ⟨FG, BG, st, lv⟩ := groundX (R := R) B F N hA hf hke
  refine codeC_call_def (fd := fnOf name qual params body scope dV kV doc pm an cdv ct) (body := body) (binds := binds) hroom (X _ _ ho) rfl (T.nolimit.keeps F.keep) (codeRec_of X hcd) rfl hbind hcell hloc (fun h₁ hns up => ?_) hco hgen hk
  have F₁ : Fr (hideAll s.heap (news.map (·.1))) s.heap.objs.size h₁ (fun y => binds.reverse.lookup y) := ⟨hns, fun b o e => up b o (of_hideAll _ e), Nat.le_of_eq (hideAll_size _ _)⟩
  have N₁ : News (hideAll s.heap (news.map (·.1))) s.heap.objs.size h₁ news := fun q hq =>
    ⟨up _ _ (N q hq).1, Nat.ne_of_lt (Heap.lt_size (N q hq).1), hideAll_none _ (List.mem_map_of_mem hq)⟩
  exact C_mono (h _ _ h₁ FG F₁ N₁ BG (X₀.keeps st) (T.keeps st)) (fun fl s' hl => lv _ _ hl) fun _ _ y => y

theorem codeC_defS0 (B : Below A₀ base [] h₀) (F : Fr h₀ L s.heap m) (X₀ : K.In h₀) (N : News h₀ L s.heap news) (T : Top p loose mean mg mb h₀) (hA : A.frames = some [envOf cn cs L a ccd])
    (ho : K.lookup f = some ⟨oc, od, .func (fnOf name qual params body scope dV kV doc pm an cdv ct), osl⟩) (hcd : codeIn K cdv qual = true) (hroom : A.depth < recursionLimit)
    (hbind : BindsTo s (fnOf name qual params body scope dV kV doc pm an cdv ct) args binds) (hloc : ∀ y ∈ binds, scope.names.lookup y.1 = some .local)
    (h : ∀ g L' h₁, Fr h₀ L g m → Fr g L' h₁ (fun y => binds.reverse.lookup y) → News g L' h₁ news → Below A base [envOf cn cs L a ccd] g → K.In g → Top p loose mean mg mb g → KtsDicts ([envOf cn cs L a ccd].filterMap (·.frame)) g →
      wpC (model prog w) (A.deeper (envOf qual scope L' f cdv)) (execs body (envOf qual scope L' f cdv))
        (fun fl s' => LeaveS0 ([envOf cn cs L a ccd].filterMap (·.frame)) h₀ L m g R (match fl with | .ret v => v | _ => .none) s')
        (fun e s' => wpAny (model prog w) (A.deeper (envOf qual scope L' f cdv)) (leaving (envOf qual scope L' f cdv) e) (fun _ s'' => R (.error e) s'') (fun e' s'' => R (.error e') s'') s')
        { s with heap := h₁, toks := s.toks + binds.length })
    (hck : cs.kind = .function) (hco : scope.isCoroutine = false) (hgen : scope.isGenerator = false) (hk : scope.kind = .function) (hcell : ∀ x ∈ scope.names, x.2 ≠ .cell) :
    codeC (model prog w) A (.call (.ref f) args) R s := by
  have X := X₀.keeps F.keep
  refine codeC_call_def (fd := fnOf name qual params body scope dV kV doc pm an cdv ct) (body := body) (binds := binds) hroom (X _ _ ho) rfl (T.nolimit.keeps F.keep) (codeRec_of X hcd) rfl hbind hcell hloc (fun h₁ hns up => ?_) hco hgen hk
  obtain ⟨oL, es, ep, hL, hd, ns, nsl, st, BG⟩ := kts_enter B F N hA hck
  have hself : h₀.get? L = none := kts_self F
  have only : ∀ {b}, b ∈ ([envOf cn cs L a ccd].filterMap (·.frame)) → b = L := fun hb => (kts_mem hb).elim id fun z => by simp at z
  have D : KtsDicts ([envOf cn cs L a ccd].filterMap (·.frame)) (hideAll s.heap (news.map (·.1))) := fun b hb => by
    obtain rfl := only hb
    exact ⟨oL, es, ep, hL, hd⟩
  have F₁ : Fr (hideAll s.heap (news.map (·.1))) s.heap.objs.size h₁ (fun y => binds.reverse.lookup y) := ⟨hns, fun b o e => up b o (of_hideAll _ e), Nat.le_of_eq (hideAll_size _ _)⟩
  have N₁ : News (hideAll s.heap (news.map (·.1))) s.heap.objs.size h₁ news := fun q hq =>
    ⟨up _ _ (N q hq).1, Nat.ne_of_lt (Heap.lt_size (N q hq).1), hideAll_none _ (List.mem_map_of_mem hq)⟩
  refine C_mono (h _ _ h₁ ⟨ns _ hL, st, F.above⟩ F₁ N₁ BG (X₀.keeps st) (T.keeps st) D) (fun fl s' hl => ?_) fun _ _ y => y
  obtain ⟨g', L', m', news', T', F', N', k⟩ := hl
  obtain ⟨sl, hs⟩ := T'.up hL
  have keep : ∀ b o, h₀.get? b = some o → s'.heap.get? b = some o := fun b o e => F'.keep b o (T'.other b o (st b o e) fun hb => by
    obtain rfl := only hb
    rw [hself] at e; cases e)
  refine k ⟨nsl sl _ (F'.keep _ _ hs), keep, F.above⟩ fun q hq => ⟨(N' q hq).1, fun e => ?_, ?_⟩
  · have z := (N' q hq).2.2
    rw [e, hs] at z; cases z
  · cases z : h₀.get? q.1 with
    | none => rfl
    | some o =>
      obtain ⟨sl', hs'⟩ := T'.up (st _ _ z)
      have y := (N' q hq).2.2
      rw [hs'] at y; cases y
end
end

section

set_option maxHeartbeats 8000000
local macro_rules | `(tactic| walk1) => `(tactic| ((with_reducible show wpAny _ _ (subscriptTail _ _ (Value.str _ _) (Value.ref _)) _ _ _); k_dflt (first | (refine' sliceP_ns ?F ?N ?e ?a ?z ?_ ?t ?b; (case e => exact rfl); (case a => exact rfl); (case F => k_asm); (case N => k_asm); (case z => first | assumption | (rw [PySem.sizeLine_eq]; omega)); (case t => (intro _; with_unfolding_all rfl)); (case b => with_unfolding_all rfl)) | (refine' sliceP_ss ?F ?N ?e ?a ?z ?_ ?t ?b; (case e => exact rfl); (case a => exact rfl); (case F => k_asm); (case N => k_asm); (case z => first | assumption | (rw [PySem.sizeLine_eq]; omega)); (case t => (intro _; with_unfolding_all rfl)); (case b => with_unfolding_all rfl))); (intro h9 t9 tk9 F9 N9); (try dsimp only); (try k_fold); walk_say "SLICE"))
local macro_rules | `(tactic| walk1) => `(tactic| ((with_reducible show wpAny _ _ (call (Value.builtin "str.find") [Value.str _ _, Value.str _ _]) _ _ _); (refine SC.find ?_); walk_say "FIND"))
local macro_rules | `(tactic| walk1) => `(tactic| ((with_reducible show wpAny _ _ (call (Value.builtin "str.find") [Value.str _ _, Value.str _ _, Value.int _ _]) _ _ _); (refine SC.find3 ?_); walk_say "FIND3"))
local macro_rules | `(tactic| walk1) => `(tactic| ((with_reducible show wpAny _ _ (subscriptTail _ _ (Value.str _ _) (Value.int _ _)) _ _ _); (refine item_str ?a ?b ?c ?_); (case a => (unfold fitsSsize; simp only [Bool.not_eq_true', Bool.or_eq_false_iff, decide_eq_false_iff_not]; constructor <;> omega)); (case b => omega); (case c => omega); (intro _); walk_say "ITEM"))
local macro_rules | `(tactic| walk1) => `(tactic| ((with_reducible show wpAny _ _ (call (Value.builtin "str.split") [Value.str _ _, Value.str _ _]) _ _ _); (refine KSpl.split1 (by k_asm) (by k_asm) rfl ?_ ?z); (case z => (refine Nat.le_trans (Nat.add_le_add_right (PyProof.Txt.length_slice_le _ _ _) 2) ?_; rw [PySem.sizeLine_eq]; omega)); (intro D9 l9 h9 tk9 e9 a9 F9 N9 l19); (try dsimp only); walk_say "SPLIT"))
local macro_rules | `(tactic| walk1) => `(tactic| first | ((with_reducible show wpAny _ _ (spliced ((false, eval _ _) :: _)) _ _ _); refine spliced_cons ?_) | ((with_reducible show wpAny _ _ (spliced []) _ _ _); refine spliced_nil ?_))
theorem look_fr {K : Frag} {h₀ h : Heap} {L : Addr} {m : Str → Option Value} {a : Addr} {c : Value} {d : Option Addr} {fd : FuncData} {sl : Array (Option Value)} (F : Fr h₀ L h m) (X : K.In h₀) (e : K.lookup a = some ⟨c, d, .func fd, sl⟩) :
    ∃ o fd, h.get? a = some o ∧ o.data = .func fd := ⟨_, _, (X.keeps F.keep) _ _ e, rfl⟩
theorem five_of {l : List (Str × Tok)} (h : l.length = 5) : ∃ q0 q1 q2 q3 q4, l = [q0, q1, q2, q3, q4] := by
  match l, h with
  | [q0, q1, q2, q3, q4], _ => exact ⟨_, _, _, _, _, rfl⟩
/-- what told gives back: a word, or the pair of the host and a number -/
inductive Ans where
  | txt (s : Str)
  | pair (n : Int)
noncomputable def AnsV (host : Str) : Ans → Value → List (Addr × Obj) → Prop
  | .txt s, v, own => own = [] ∧ ∃ t, v = .str s t
  | .pair n, v, own => ∃ T t u, v = .ref T ∧ own = [(T, { cls := .type "tuple", data := .seq #[.str host t, .int n u] })]
noncomputable def leftOf (x : Str) : Int := Txt.find x (Str.ofString "(")
noncomputable def rightOf (x : Str) : Int := Txt.find3 x (Str.ofString ")") (Txt.find x (Str.ofString "(") + 1)
noncomputable def partsOf (x : Str) : List Str := Txt.split (Txt.slice x (some (Txt.find x (Str.ofString "(") + 1)) (some (Txt.find3 x (Str.ofString ")") (Txt.find x (Str.ofString "(") + 1)))) (Txt.item x (Txt.find x (Str.ofString "(") + 1))
noncomputable def toldS (x : Str) : Ans :=
  if (Txt.slice x none (some 3) != Str.ofString "229") = true then .txt (Str.ofString "code") else
  if Txt.find x (Str.ofString "(") < 0 then .txt (Str.ofString "shape") else
  if Txt.find3 x (Str.ofString ")") (Txt.find x (Str.ofString "(") + 1) < 0 then .txt (Str.ofString "shape") else
  if (Txt.item x (Txt.find x (Str.ofString "(") + 1) != Txt.item x (Txt.find3 x (Str.ofString ")") (Txt.find x (Str.ofString "(") + 1) - 1)) = true then .txt (Str.ofString "shape") else
  if (partsOf x).length ≠ 5 then .txt (Str.ofString "shape") else
  match PySem.intText? ((partsOf x).getD 3 Str.empty) with
  | some n => .pair n
  | none => .txt (Str.ofString "number")
theorem t1 {x : Str} (h : (Txt.slice x none (some 3) != Str.ofString "229") = true) : toldS x = .txt (Str.ofString "code") := if_pos h
theorem t2 {x : Str} (h : (Txt.slice x none (some 3) != Str.ofString "229") = false) (h2 : Txt.find x (Str.ofString "(") < 0) : toldS x = .txt (Str.ofString "shape") := by
  unfold toldS; rw [if_neg (by rw [h]; exact Bool.false_ne_true), if_pos h2]
theorem t3 {x : Str} (h : (Txt.slice x none (some 3) != Str.ofString "229") = false) (h2 : ¬ Txt.find x (Str.ofString "(") < 0) (h3 : Txt.find3 x (Str.ofString ")") (Txt.find x (Str.ofString "(") + 1) < 0) : toldS x = .txt (Str.ofString "shape") := by
  unfold toldS; rw [if_neg (by rw [h]; exact Bool.false_ne_true), if_neg h2, if_pos h3]
theorem t4 {x : Str} (h : (Txt.slice x none (some 3) != Str.ofString "229") = false) (h2 : ¬ Txt.find x (Str.ofString "(") < 0) (h3 : ¬ Txt.find3 x (Str.ofString ")") (Txt.find x (Str.ofString "(") + 1) < 0)
    (h4 : (Txt.item x (Txt.find x (Str.ofString "(") + 1) != Txt.item x (Txt.find3 x (Str.ofString ")") (Txt.find x (Str.ofString "(") + 1) - 1)) = true) : toldS x = .txt (Str.ofString "shape") := by
  unfold toldS; rw [if_neg (by rw [h]; exact Bool.false_ne_true), if_neg h2, if_neg h3, if_pos h4]
theorem t5 {x : Str} (h : (Txt.slice x none (some 3) != Str.ofString "229") = false) (h2 : ¬ Txt.find x (Str.ofString "(") < 0) (h3 : ¬ Txt.find3 x (Str.ofString ")") (Txt.find x (Str.ofString "(") + 1) < 0)
    (h4 : (Txt.item x (Txt.find x (Str.ofString "(") + 1) != Txt.item x (Txt.find3 x (Str.ofString ")") (Txt.find x (Str.ofString "(") + 1) - 1)) = false) (h5 : (partsOf x).length ≠ 5) : toldS x = .txt (Str.ofString "shape") := by
  unfold toldS; rw [if_neg (by rw [h]; exact Bool.false_ne_true), if_neg h2, if_neg h3, if_neg (by rw [h4]; exact Bool.false_ne_true), if_pos h5]
theorem t6 {x : Str} (h : (Txt.slice x none (some 3) != Str.ofString "229") = false) (h2 : ¬ Txt.find x (Str.ofString "(") < 0) (h3 : ¬ Txt.find3 x (Str.ofString ")") (Txt.find x (Str.ofString "(") + 1) < 0)
    (h4 : (Txt.item x (Txt.find x (Str.ofString "(") + 1) != Txt.item x (Txt.find3 x (Str.ofString ")") (Txt.find x (Str.ofString "(") + 1) - 1)) = false) {q0 q1 q2 q3 q4 : Str} (e : [q0, q1, q2, q3, q4] = partsOf x) :
    toldS x = (match PySem.intText? q3 with | some n => .pair n | none => .txt (Str.ofString "number")) := by
  unfold toldS; rw [if_neg (by rw [h]; exact Bool.false_ne_true), if_neg h2, if_neg h3, if_neg (by rw [h4]; exact Bool.false_ne_true), if_neg (by rw [← e]; simp), ← e]; rfl
theorem nwcut {h₀ h : Heap} {L : Addr} {a : Addr × Obj} {l : List (Addr × Obj)} (N : News h₀ L h (a :: l)) : News h₀ L h l := fun p hp => N p (List.mem_cons_of_mem _ hp)
theorem nwtop0 {h₀ h : Heap} {L : Addr} {a : Addr × Obj} {l : List (Addr × Obj)} (N : News h₀ L h (a :: l)) : News h₀ L h ([a] ++ l) := N
theorem nwtop1 {h₀ h : Heap} {L : Addr} {a b : Addr × Obj} {l : List (Addr × Obj)} (N : News h₀ L h (a :: b :: l)) : News h₀ L h ([a] ++ l) := fun p hp => N p (by
  rcases List.mem_append.mp hp with e | e
  · rw [List.mem_singleton.mp e]; exact List.mem_cons_self
  · exact List.mem_cons_of_mem _ (List.mem_cons_of_mem _ e))
theorem nwtop2 {h₀ h : Heap} {L : Addr} {a b c : Addr × Obj} {l : List (Addr × Obj)} (N : News h₀ L h (a :: b :: c :: l)) : News h₀ L h ([a] ++ l) := fun p hp => N p (by
  rcases List.mem_append.mp hp with e | e
  · rw [List.mem_singleton.mp e]; exact List.mem_cons_self
  · exact List.mem_cons_of_mem _ (List.mem_cons_of_mem _ (List.mem_cons_of_mem _ e)))
theorem told_ (w : World) (x : Str) (t th : Tok) (host : Str) (hx : x.length ≤ 600) (hq : ∀ q ∈ partsOf x, q.length ≤ 640 ∧ (reprText q).length ≤ sizeLine) : ∀ (loose : List Str) (mean : ExcName → Option Value) (mg mb : Str → Option Value) (dp un : Nat) (gd : Option (List Code)) (cn : Str) (cs : Scope) (a : Addr) (ccd : Value) (A₀ : Around) (base h₀ : Heap) (L : Addr) (m : Str → Option Value) (news : List (Addr × Obj)) (s : Shared) (Q E : Value → Shared → Prop),
    Below A₀ base [] h₀ → Fr h₀ L s.heap m → (K w.params).In h₀ → News h₀ L s.heap news → Top topProg loose mean mg mb h₀ → (K w.params).In base → Top topProg loose mean mg mb base → cs.kind = .function → dp + 3 < recursionLimit → un + 60 < cLine →
    (∀ (v : Value) (own : List (Addr × Obj)) (h' : Heap) (tk' : Nat), AnsV host (toldS x) v own → Fr h₀ L h' m → News h₀ L h' (own ++ news) → Q v { s with heap := h', toks := tk' }) →
    wpC (model PySem.Challenge.rw_tr0056_01.row.prog w) (ktrTop dp un gd cn cs L a ccd [] []) (call (.ref 223) [.str x t, .str host th]) Q E s := by
  k_fill
  intro loose mean mg mb dp un gd cn cs a ccd A₀ base h₀ L m news s Q E B F X N T XB TB hk hd hu hret
  have hlk65 : (K w.params).lookup 65 = some (o65 w.params) := by kernel_rfl
  have eP := (rfl : defP (stAt 5) = defP (stAt 5)); conv at eP => rhs; whnf
  have eB := (rfl : defB (stAt 5) = defB (stAt 5)); conv at eB => rhs; whnf
  have eS := (rfl : defS (stAt 5) = defS (stAt 5)); conv at eS => rhs; whnf
  unfold o65 at hlk65
  rw [eP, eB, eS] at hlk65
  clear eP eB eS
  have hlk : (K w.params).lookup 223 = some (o223 w.params) := by kernel_rfl
  have eP := (rfl : defP (stAt 21) = defP (stAt 21)); conv at eP => rhs; whnf
  have eB := (rfl : defB (stAt 21) = defB (stAt 21)); conv at eB => rhs; whnf
  have eS := (rfl : defS (stAt 21) = defS (stAt 21)); conv at eS => rhs; whnf
  unfold o223 at hlk
  rw [eP, eB, eS] at hlk
  clear eP eB eS
  refine C_call ?_
  k_dflt (refine' codeC_defS0 ?k1 ?k2 ?k3 ?k4 ?k5 ?kA ?k6 ?k7 ?k8 ?k9 ?kB ?_ ?cK ?c2 ?c3 ?c4 ?c5; (case kA => exact rfl); (case k2 => k_asm); (case k1 => k_asm); (case k3 => k_asm); (case k4 => k_asm); (case k5 => k_asm); (case k6 => k_is); (case k7 => k_is); (case k8 => ktr_room); (case k9 => exact BindsTo.of_eq rfl); (case kB => exact locs rfl); (case cK => first | exact rfl | assumption); (case c2 => exact rfl); (case c3 => exact rfl); (case c4 => exact rfl); (case c5 => decide); k_whole; intro g' L' h' FG' F' N' B' X' T' D'; (try dsimp only); (try k_lift B'); (try k_fold))
  clear hlk
  refine C_execs_cons (C_Try ?_)
  refine C_execs_cons (C_Return (C_eval_Call ?_))
  k_steps
  refine C_callWith_def rfl (by show 1 ≤ 29; decide) ?_
  show wpAny _ _ (spliced [(false, eval _ _), (false, eval _ _)]) _ _ _
  k_steps
  refine ⟨?fn, C_call ?_⟩
  case fn => exact look_fr (by assumption) (by assumption) hlk65
  k_dflt (refine' codeC_def ?k1 ?k2 ?k3 ?k4 ?k5 ?kA ?kF ?kK ?k6 ?k7 ?k8 ?k9 ?kB ?_ ?c2 ?c3 ?c4 ?c5; (case kA => exact rfl); (case kF => exact rfl); (case kK => first | exact rfl | assumption); (case k1 => k_asm); (case k2 => k_asm); (case k3 => k_asm); (case k4 => k_asm); (case k5 => k_asm); (case k6 => k_is); (case k7 => k_is); (case k8 => ktr_room); (case k9 => exact BindsTo.of_eq rfl); (case c5 => decide); (case kB => exact locs rfl); (case c2 => exact rfl); (case c3 => exact rfl); (case c4 => exact rfl); k_whole; intro g' L' h' FG' F' N' B' X' T'; (try dsimp only); (try k_lift B'); (try k_fold))
  show wpC _ _ (execs ([_, _, _, _, _, _, _, _, _] ++ [_, _]) _) _ _ _
  refine C_cut ?_
  have p1 := pos_find x 40
  have p2 : 0 ≤ Txt.find x (Str.ofString "(") → _ := fun h0 => pos_find3 x 41 (Txt.find x (Str.ofString "(") + 1) (by omega)
  rw [show (⟨#[41]⟩ : Str) = Str.ofString ")" from rfl] at p2
  rw [show (⟨#[40]⟩ : Str) = Str.ofString "(" from rfl] at p1
  k_steps
  · exact hret _ [] _ _ (by rw [t1 (by assumption)]; exact ⟨rfl, _, rfl⟩) (by assumption) (by first | assumption | exact nwcut (by assumption) | exact nwcut (nwcut (by assumption)))
  · exact hret _ [] _ _ (by rw [t2 (by assumption) (by assumption)]; exact ⟨rfl, _, rfl⟩) (by assumption) (by first | assumption | exact nwcut (by assumption) | exact nwcut (nwcut (by assumption)))
  · exact hret _ [] _ _ (by rw [t3 (by assumption) (by assumption) (by assumption)]; exact ⟨rfl, _, rfl⟩) (by assumption) (by first | assumption | exact nwcut (by assumption) | exact nwcut (nwcut (by assumption)))
  · exact hret _ [] _ _ (by rw [t4 (by assumption) (by assumption) (by assumption) (by assumption)]; exact ⟨rfl, _, rfl⟩) (by assumption) (by first | assumption | exact nwcut (by assumption) | exact nwcut (nwcut (by assumption)))
  rename List (Str × Tok) => l9
  rename List.map (fun x => x.1) l9 = _ => e9
  have hl9 := len_le_of_split e9
  have hz9 := PyProof.Txt.length_slice_le x (some (Txt.find x (Str.ofString "(") + 1)) (some (Txt.find3 x (Str.ofString ")") (Txt.find x (Str.ofString "(") + 1)))
  by_cases h5 : l9.length = 5
  · obtain ⟨q0, q1, q2, q3, q4, rfl⟩ := five_of h5
    rename News _ _ _ ((_, W.listOf _ 0) :: _) => nn
    simp only [strValues, List.map_cons, List.map_nil] at nn e9
    obtain ⟨hq3, hq3z⟩ := hq q3.1 (by unfold partsOf; rw [← e9]; simp)
    k_steps
    show wpC _ _ (execs [_, _] _) _ _ _
    refine C_execs_cons (C_Assign (fun _ => rfl) rfl (C_eval_Call ?_))
    k_steps
    refine C_callWith_type rfl ?_
    show wpAny _ _ (spliced [(false, eval _ _)]) _ _ _
    k_steps
    show wpC _ _ (call (.type "int") [.str q3.1 q3.2]) _ _ _
    cases hi : PySem.intText? q3.1 with
    | some n =>
      refine C_any (KIN.call_text hi hq3 ?_)
      k_steps
      show wpC _ _ (execs [_] _) _ _ _
      refine C_any ?_
      k_steps
      refine hret _ [?ow] _ _ ?ha (by assumption) ?hn
      case' hn => first | exact nwtop0 (by assumption) | exact nwtop1 (by assumption) | exact nwtop2 (by assumption)
      rw [t6 (by assumption) (by assumption) (by assumption) (by assumption) e9, hi]; exact ⟨_, _, _, rfl, rfl⟩
    | none =>
      refine C_int_new (C_int_text hi hq3 hq3z (by exact rfl) ?_)
      intro h8 e8 tk8 args8 he8
      k_steps
      exact hret _ [] _ _ (by rw [t6 (by assumption) (by assumption) (by assumption) (by assumption) e9, hi]; exact ⟨rfl, _, rfl⟩) (by assumption) (by first | assumption | exact nwcut (by assumption) | exact nwcut (nwcut (by assumption)))
  · refine len_list (News.isList (by k_asm) (by k_mem)) ?hfit ?_
    case hfit => simp only [strValues, List.size_toArray, List.length_map]; omega
    k_steps
    · exact hret _ [] _ _ (by rw [t5 (by assumption) (by assumption) (by assumption) (by assumption) (by unfold partsOf; rw [← e9, List.length_map]; exact h5)]; exact ⟨rfl, _, rfl⟩) (by assumption) (by first | assumption | exact nwcut (by assumption) | exact nwcut (nwcut (by assumption)))
    · exfalso
      simp only [strValues, List.size_toArray, List.length_map] at *
      omega
end

section

set_option maxHeartbeats 8000000
theorem list_strN {prog : Program} {w : World} {A : Around} {E : Value → Shared → Prop} {s : Shared} {h₀ : Heap} {L : Addr} {m : Str → Option Value} {Q : Value → Shared → Prop} {x : Str} {t : Tok} {news : List (Addr × Obj)}
    (F : Fr h₀ L s.heap m) (N : News h₀ L s.heap news) (hh : A.handled = none) (hz : x.length ≤ sizeLine)
    (hQ : ∀ (D : Addr) (l : List (Str × Tok)) (c : Nat) (h' : Heap) (tk : Nat), l.map (·.1) = signs x → Fr h₀ L h' m → News h₀ L h' ((D, listOf (strValues l).toArray c) :: news) → (∀ p ∈ news, p.1 < D) → Q (.ref D) { s with heap := h', toks := tk }) :
    wpAny (model prog w) A (call (.type "list") [.str x t]) Q E s := by
  refine call_list_str hh x t (hn := hz) fun h' tk acc' c' hk hS' hacc => ?_
  have hex : ∀ i, ∃ u : Tok, i < acc'.size → acc'[i]? = some (.str ⟨#[x.cps.getD i 0]⟩ u) := fun i => by
    by_cases hi : i < acc'.size
    · obtain ⟨c, u, hc, hv⟩ := hacc.2 i acc'[i] (by rw [Array.getElem?_eq_getElem hi])
      refine ⟨u, fun _ => ?_⟩
      have hxi : x.cps.getD i 0 = c := by
        have hi' : i < x.cps.size := by rw [← hacc.1]; exact hi
        rw [Array.getElem?_eq_getElem hi'] at hc
        rw [Array.getD_eq_getD_getElem?, Array.getElem?_eq_getElem hi']; exact Option.some.inj hc
      rw [Array.getElem?_eq_getElem hi, hv, hxi]
    · exact ⟨0, fun e => absurd e hi⟩
  let u : Nat → Tok := fun i => Classical.choose (hex i)
  have hu : ∀ i, i < acc'.size → acc'[i]? = some (.str ⟨#[x.cps.getD i 0]⟩ (u i)) := fun i hi => Classical.choose_spec (hex i) hi
  have hl : acc'.toList = strValues ((List.range x.cps.size).map fun i => ((⟨#[x.cps.getD i 0]⟩ : Str), u i)) := by
    apply List.ext_getElem?
    intro i
    by_cases hi : i < acc'.size
    · have hi' : i < x.cps.size := by rw [← hacc.1]; exact hi
      rw [Array.getElem?_toList, hu i hi]
      simp [strValues, hi']
    · have hi' : ¬ i < x.cps.size := by rw [← hacc.1]; exact hi
      rw [Array.getElem?_toList, Array.getElem?_eq_none (Nat.le_of_not_lt hi)]
      simp [strValues, hi']
  have e : acc' = (strValues ((List.range x.cps.size).map fun i => ((⟨#[x.cps.getD i 0]⟩ : Str), u i))).toArray := by rw [← hl]
  refine hQ _ ((List.range x.cps.size).map fun i => ((⟨#[x.cps.getD i 0]⟩ : Str), u i)) c' h' tk ?_ (F.keeps hk) (fun p hp => ?_) fun p hp => Heap.lt_size (N p hp).1
  · unfold signs
    apply List.ext_getElem?
    intro i
    by_cases hi : i < x.cps.size
    · simp [hi]
    · simp [hi]
  · rcases List.mem_cons.mp hp with rfl | hp
    · refine ⟨by rw [hS', e], Nat.ne_of_gt (F.ns.lt), ?_⟩
      cases q : h₀.get? s.heap.objs.size with
      | none => rfl
      | some o => exact absurd (Heap.lt_size (F.keep _ _ q)) (Nat.lt_irrefl _)
    · exact ⟨hk _ _ (N p hp).1, (N p hp).2⟩
end

section

open Builtin Builtin.ObjectAttr
theorem fn_slot : Slot "function" "__setattr__" "object.__setattr__" :=
  .of (owner := "object") (n := "__setattr__") (by rw [typeLookup_type, builtinLookup_eq_fast]; kernel_rfl) (by decide +kernel) (by decide +kernel) (by decide +kernel)
    (by first | exact .inl (by decide +kernel) | exact .inr (by decide +kernel)) (by rw [isSubtype_type]; kernel_rfl)
theorem fn_read : typeLookup (.type "function") "read" = pure none := by rw [typeLookup_type, builtinLookup_eq_fast]; kernel_rfl
theorem fn_mro : mroOf (.type "function") = pure [.type "function", .type "object"] := by kernel_rfl
theorem fn_pass (self : Value) : refuseLoop self "__setattr__" [.type "function", .type "object"] = pure () := by kernel_rfl
section
variable {prog : Program} {w : World} {A : Around} {E : Value → Shared → Prop} {h : Heap} {g : Array GenState} {d : Drawn} {t : Nat} {os : OsState} {x : Addr} {fd : FuncData} {sl : Array (Option Value)} {v : Value}
theorem fn_store {Q : Unit → Shared → Prop} (hx : h.get? x = some ⟨.type "function", none, .func fd, sl⟩)
    (hq : ∀ h' tk, h'.get? x = some ⟨.type "function", some h.objs.size, .func fd, sl⟩ → (∃ key, h'.get? h.objs.size = some (dictOf [⟨PyData.keyHash w.params "read", .str "read" key, v⟩] 1)) → (∀ b o, b ≠ x → h.get? b = some o → h'.get? b = some o) → Q () ⟨h', g, d, tk, os⟩) :
    wpAny (model prog w) A (setAttr (.ref x) "read" v) Q E ⟨h, g, d, t, os⟩ := by
  unfold setAttr
  refine wpAny_bind (wpAny_mkText ?_)
  refine wpAny_bind (wpAny_callSpecial?_slot ⟨_, hx, rfl⟩ fn_slot (wpAny_call (codeAny_call_builtin fn_slot.plain F.entry_object_setattr (fn_slot.check _ _ _ _ _ _ _ _ ⟨_, hx, rfl⟩ ?_ ?_))))
  · exact F.store_object.args _ _ _
  have f1 := fn_pass (.ref x)
  have f2 := fn_mro
  have f3 := fn_read
  unfold Builtin.«object.__setattr__»
  repeat (any_goals (first | rw [refuse_eq] | (rw [fn_pass]) | (with_reducible refine wpAny_ask ?_) | wp_step))
  any_goals dsimp only
  have hx₁ : (h.push { cls := .type "dict", data := .dict #[] }).get? x = some ⟨.type "function", none, .func fd, sl⟩ := Heap.get?_push_of_some _ hx
  have hxs : x ≠ h.objs.size := Nat.ne_of_lt (Heap.lt_size hx)
  have hgd : ((h.push { cls := .type "dict", data := .dict #[] }).update x fun o => { cls := o.cls, dict := some h.objs.size, data := o.data, slots := o.slots }).get? h.objs.size = some (dictOf [] 0) :=
    (Heap.get?_update_ne _ _ _ _ hxs.symm).trans (Heap.get?_push_at rfl rfl)
  have hgx : ((h.push { cls := .type "dict", data := .dict #[] }).update x fun o => { cls := o.cls, dict := some h.objs.size, data := o.data, slots := o.slots }).get? x = some ⟨.type "function", some h.objs.size, .func fd, sl⟩ :=
    Heap.get?_update_self _ hx₁ rfl
  refine wpAny_askSetting (wpAny_pure ?_)
  dsimp only
  refine wpAny_bind (wpAny_mkText ?_)
  refine wpAny_bind (wpAny_loadPart hgd ?_)
  show wpAny _ _ (updatePart _ _ _) _ _ _
  refine wpAny_updatePart hgd ?_
  have hgd2 := Heap.get?_update_self (h := ((h.push { cls := .type "dict", data := .dict #[] }).update x fun o => { cls := o.cls, dict := some h.objs.size, data := o.data, slots := o.slots })) (Obj.putName "read" (PyData.keyHash w.params "read") (.str "read" (t + 1)) v) hgd (by rw [putName_dict]; rfl)
  rw [putName_dict] at hgd2
  refine wpAny_bind (wpAny_lookBehind hgd2 (pastItsLine_dict (by show 1 ≤ sizeLine + 1; omega)) ?_)
  refine wpAny_pure ?_
  refine wpAny_pure (hq _ _ ?_ ⟨_, hgd2⟩ fun b o hb e => ?_)
  · exact (Heap.get?_update_ne _ _ _ _ hxs).trans hgx
  · exact (Heap.get?_update_ne _ _ _ _ (Nat.ne_of_lt (Heap.lt_size e))).trans ((Heap.get?_update_ne _ _ _ _ hb).trans (Heap.get?_push_of_some _ e))
end
end

section

open Builtin Builtin.ObjectAttr
theorem fn_slotG : Slot "function" "__getattribute__" "object.__getattribute__" :=
  .of (owner := "object") (n := "__getattribute__") (by rw [typeLookup_type, builtinLookup_eq_fast]; kernel_rfl) (by decide +kernel) (by decide +kernel) (by decide +kernel)
    (by first | exact .inl (by decide +kernel) | exact .inr (by decide +kernel)) (by rw [isSubtype_type]; kernel_rfl)
theorem fn_noga : typeLookup (.type "function") "__getattr__" = pure none := by rw [typeLookup_type, builtinLookup_eq_fast]; kernel_rfl
section
variable {prog : Program} {w : World} {A : Around} {E : Value → Shared → Prop} {h : Heap} {g : Array GenState} {d : Drawn} {t : Nat} {os : OsState} {x dx : Addr} {fd : FuncData} {sl : Array (Option Value)} {v : Value} {hs : Int} {key : Tok}
set_option maxHeartbeats 4000000 in
theorem fn_method {Q : Value × List Value → Shared → Prop} {pl : Sem Bool} (hx : h.get? x = some ⟨.type "function", some dx, .func fd, sl⟩) (hd : h.get? dx = some (dictOf [⟨hs, .str "read" key, v⟩] 1)) (hv : handedIn v = true)
    (hq : ∀ tk, Q (v, []) ⟨h, g, d, tk, os⟩) :
    wpAny (model prog w) A (getMethod (.ref x) "read" pl) Q E ⟨h, g, d, t, os⟩ := by
  have f1 := fn_slotG.lookup
  have f2 := fn_noga
  have f3 := fn_read
  have f4 := fn_slotG.bind (.ref x)
  unfold getMethod
  repeat (any_goals (first | assumption | wp_step))
  refine codeAny_call_builtin fn_slotG.plain F.entry_object_getattribute (fn_slotG.check _ _ _ _ _ _ _ _ ⟨_, hx, rfl⟩ (by unfold argsOk; kernel_rfl) ?_)
  unfold Builtin.«object.__getattribute__»
  repeat (any_goals (first | assumption | wp_step))
  show wpAny _ _ (handedOut v) _ _ _
  rw [handedOut_of hv]
  exact wpAny_pure (wpAny_pure (hq _))
end
end

section

section
variable {prog : Program} {w : World} {A : Around} {E : Value → Shared → Prop} {s : Shared} {h₀ : Heap} {L x : Addr} {m : Str → Option Value} {news : List (Addr × Obj)} {fd : FuncData} {sl : Array (Option Value)} {v : Value} {g : Obj → List (Addr × Obj)}
theorem fn_storeN {Q : Unit → Shared → Prop} (F : Fr h₀ L s.heap m) (N : News h₀ L s.heap news) (U : UpdF x ⟨.type "function", none, .func fd, sl⟩ news g)
    (h : ∀ dx h' tk key, Fr h₀ L h' m → News h₀ L h' ((dx, dictOf [⟨PyData.keyHash w.params "read", .str "read" key, v⟩] 1) :: g ⟨.type "function", some dx, .func fd, sl⟩) → (∀ p ∈ news, p.1 < dx) → Q () { s with heap := h', toks := tk }) :
    wpAny (model prog w) A (setAttr (.ref x) "read" v) Q E s := by
  obtain ⟨hp, gs, d, t, os⟩ := s
  obtain ⟨pre, post, rfl, hg, a, b⟩ := U.split
  have hx := N (x, _) (List.mem_append_right _ (.head _))
  have fresh : h₀.get? hp.objs.size = none := by
    cases q : h₀.get? hp.objs.size with
    | none => rfl
    | some o => exact absurd (Heap.lt_size (F.keep _ _ q)) (Nat.lt_irrefl _)
  have lt : ∀ p ∈ pre ++ (x, (⟨.type "function", none, .func fd, sl⟩ : Obj)) :: post, p.1 < hp.objs.size := fun p hp => Heap.lt_size (N p hp).1
  refine fn_store hx.1 fun h' tk e1 e2 hk => ?_
  obtain ⟨key, e2⟩ := e2
  refine h hp.objs.size h' tk key ⟨F.ns.at' fun o e => hk _ _ (Ne.symm hx.2.1) e, fun b o e => hk b o (fun q => by have := hx.2.2; rw [q] at e; rw [e] at this; cases this) (F.keep b o e), F.above⟩ (fun p hp => ?_) lt
  rw [hg] at hp
  rcases List.mem_cons.mp hp with rfl | hp
  · exact ⟨e2, Nat.ne_of_gt F.ns.lt, fresh⟩
  · rcases List.mem_append.mp hp with hp | hp
    · have z := N p (List.mem_append_left _ hp)
      exact ⟨hk _ _ (a p hp) z.1, z.2⟩
    · rcases List.mem_cons.mp hp with rfl | hp
      · exact ⟨e1, hx.2⟩
      · have z := N p (List.mem_append_right _ (.tail _ hp))
        exact ⟨hk _ _ (b p hp) z.1, z.2⟩
end
end

local macro_rules | `(tactic| walk1) => `(tactic| ((with_reducible show wpAny _ _ (call (Value.type "list") [Value.str _ _]) _ _ _); k_dflt (refine' list_strN ?F ?N ?hh ?z ?_; (case hh => first | exact rfl | assumption); (case F => k_asm); (case N => k_asm); (case z => (first | rw [step_rev_len] | skip); rw [PySem.sizeLine_eq]; omega)); (intro D9 l9 c9 h9 tk9 e9 F9 N9 l19); (try k_lt l19); (try dsimp only); (try k_fold); walk_say "LISTSTR"))
local macro_rules | `(tactic| walk1) => `(tactic| ((with_reducible show wpAny _ _ (setAttr (Value.ref _) "read" _) _ _ _); k_dflt (refine' fn_storeN ?F ?N ?U ?_; (case F => k_asm); (case N => k_asm); (case U => k_updF)); (intro dx9 h9 tk9 key9 F9 N9 l9); (try k_lt l9); (try dsimp only at N9); (try dsimp only); (try k_fold); walk_say "FNSTORE"))
section

set_option maxHeartbeats 8000000
theorem ne_of_allLt {d : Addr} {l : List (Addr × Obj)} (h : AllLt d l) : ∀ p ∈ l, p.1 ≠ d := fun p hp => Nat.ne_of_lt (ktn_ltOf h p hp)
theorem ne_above {b d : Addr} {l : List (Addr × Obj)} (h : ∀ p ∈ l, p.1 < b) (hd : @LE.le Nat _ b d) : ∀ p ∈ l, p.1 ≠ d := fun p hp => Nat.ne_of_lt (Nat.lt_of_lt_of_le (h p hp) hd)
local macro_rules | `(tactic| k_all) => `(tactic| first | assumption | exact ne_above (by assumption) (by first | omega | (try dsimp only); omega))
/-- the lambda that a stream's read is -/
noncomputable def lam2 : Arguments × Expr × Scope := match defB (stAt 15) with
  | [_, _, .Assign _ (.Lambda a b s _) _, _] => (a, b, s)
  | _ => (default, default, default)
noncomputable def qualR : Str := (envOfC (Str.ofString "_law_stream") (defS (stAt 15)) 0 183 (.ref 182)).qual ++ Str.ofString "<lambda>"
noncomputable abbrev rdObj (cell c2 : Addr) (pmv ctv : Value) : Obj := kla_obj (Str.ofString "<lambda>") qualR lam2.1 lam2.2.1 lam2.2.2 [(Str.ofString "signs", cell)] pmv c2 ctv
noncomputable abbrev stObj (dst : Addr) (fd : FuncData) : Obj := { cls := .type "function", dict := some dst, data := .func fd }
noncomputable abbrev dsObj (w : World) (key : Tok) (rd : Addr) : Obj := dictOf [⟨PyData.keyHash w.params "read", .str "read" key, .ref rd⟩] 1
noncomputable abbrev tabF (c1 c2 : Addr) : Obj := tabObj #[rawInt 87, rawInt 13, .ref c1, rawInt 88, rawInt 18, .ref c2]
/-- a stream in the ledger: the signs that are left, the last first -/
structure Strm where
  st : Addr
  dst : Addr
  rd : Addr
  c1 : Addr
  c2 : Addr
  cell : Addr
  sl : Addr
  fd : FuncData
  key : Tok
  pmv : Value
  ctv : Value
  oC : Obj
  oc2 : Obj
noncomputable abbrev Strm.own (S : Strm) (w : World) (l : List (Str × Tok)) (cc : Nat) : List (Addr × Obj) :=
  [(S.dst, dsObj w S.key S.rd), (S.rd, rdObj S.cell S.c2 S.pmv S.ctv), (S.st, stObj S.dst S.fd), (S.sl, listOf (strValues l).toArray cc), (S.cell, S.oC)]
noncomputable abbrev Strm.codes (S : Strm) : List (Addr × Obj) := [(178, tabF S.c1 S.c2), (S.c2, S.oc2)]
structure Strm.Ok (S : Strm) (news : List (Addr × Obj)) : Prop where
  cell : S.oC.data = .cell (some (.ref S.sl))
  code : ∃ vs t, S.oc2.data = .fields vs ∧ vs[1]? = some (.str qualR t)
  a0 : @LT.lt Nat _ 178 S.cell
  a1 : @LT.lt Nat _ S.cell S.sl
  a2 : @LT.lt Nat _ S.sl S.st
  a3 : @LT.lt Nat _ S.st S.rd
  a4 : @LT.lt Nat _ S.rd S.dst
  a5 : @Ne Nat S.c2 S.sl
  a6 : @LT.lt Nat _ S.c2 S.dst
  a7 : @LT.lt Nat _ 178 S.c2
  old : ∀ p ∈ news, p.1 < S.cell
theorem signs_rev (x : Str) (u : Tok) : signs (Txt.sliceBy x none none (-1, u)) = (signs x).reverse := by
  unfold signs
  rw [step_rev_list]
  apply List.ext_getElem?
  intro i
  by_cases hi : i < x.cps.size
  · have h1 : i < x.length := hi
    have h2 : x.length - 1 - i < x.cps.size := by show x.cps.size - 1 - i < x.cps.size; omega
    have h3 : x.cps.size - 1 - i < x.cps.size := h2
    rw [List.getElem?_reverse (by simpa using hi)]
    have h4 : x.length = x.cps.size := rfl
    simp [h1, h4, h3]
    exact ⟨i, by simp [hi], by simp [h3]⟩
  · have h1 : ¬ i < x.length := hi
    rw [List.getElem?_eq_none (by simp; exact Nat.le_of_not_lt h1), List.getElem?_eq_none (by simp; exact Nat.le_of_not_lt hi)]
theorem stream1_end {w : World} {x : Str} {u : Tok} {h₀ h' : Heap} {L : Addr} {m : Str → Option Value} {news : List (Addr × Obj)} {s : Shared} {Q : Value → Shared → Prop} {st dst rd c1 c2 cell sl : Addr} {fd : FuncData} {key t2 : Tok} {pmv ctv : Value} {oC oc1 oc2 tb : Obj} {l : List (Str × Tok)} {cc tk' : Nat} {vs : Array Value}
    (hret : (∀ (S : Strm) (l : List (Str × Tok)) (cc : Nat) (h' : Heap) (tk' : Nat), S.Ok news → l.map (·.1) = (signs x).reverse → Fr h₀ L h' m → News h₀ L h' (S.own w l cc ++ (S.codes ++ news)) → Q (.ref S.st) { s with heap := h', toks := tk' })) (F : Fr h₀ L h' m)
    (N : News h₀ L h' ((dst, dsObj w key rd) :: (rd, rdObj cell c2 pmv ctv) :: (c2, oc2) :: (st, stObj dst fd) :: (c1, oc1) :: (sl, listOf (strValues l).toArray cc) :: (cell, oC) :: (178, tb) :: news))
    (htb : tb = tabF c1 c2) (e9 : l.map (·.1) = signs (Txt.sliceBy x none none (-1, u))) (hC : oC.data = .cell (some (.ref sl))) (hv : oc2.data = .fields vs) (hv1 : vs[1]? = some (.str qualR t2))
    (a0 : @LT.lt Nat _ 178 cell) (a1 : @LT.lt Nat _ cell sl) (a2 : @LT.lt Nat _ sl st) (a3 : @LT.lt Nat _ st rd) (a4 : @LT.lt Nat _ rd dst) (a5 : @Ne Nat c2 sl) (a6 : @LT.lt Nat _ c2 dst) (a7 : @LT.lt Nat _ 178 c2) (old : ∀ p ∈ news, p.1 < cell) : Q (.ref st) { s with heap := h', toks := tk' } := by
  subst htb
  refine hret ⟨st, dst, rd, c1, c2, cell, sl, fd, key, pmv, ctv, oC, oc2⟩ l cc h' tk' ⟨hC, ⟨vs, t2, hv, hv1⟩, a0, a1, a2, a3, a4, a5, a6, a7, old⟩ (e9.trans (signs_rev x u)) F (cb_drop N fun p hp => ?_)
  simp only [List.mem_append, List.mem_cons, List.not_mem_nil, or_false] at hp ⊢
  rcases hp with (h | h | h | h | h) | (h | h) | h <;> simp [h]
theorem stream1_ (w : World) (x : Str) (t : Tok) (hx : x.length ≤ 600) : ∀ (loose : List Str) (mean : ExcName → Option Value) (mg mb : Str → Option Value) (dp un : Nat) (gd : Option (List Code)) (cn : Str) (cs : Scope) (a : Addr) (ccd : Value) (cl : List (Str × Addr)) (outer : List Env) (A₀ : Around) (base h₀ : Heap) (L : Addr) (m : Str → Option Value) (news : List (Addr × Obj)) (s : Shared) (Q E : Value → Shared → Prop),
    Below A₀ base outer h₀ → Fr h₀ L s.heap m → (K w.params).In h₀ → News h₀ L s.heap ((178, tabObj #[]) :: news) → Top topProg loose mean mg mb h₀ → CodeHd base 182 178 → (∀ p ∈ news, p.1 ≠ 178) → cs.kind = .function → dp + 9 < recursionLimit → un + 60 < cLine →
    (∀ (S : Strm) (l : List (Str × Tok)) (cc : Nat) (h' : Heap) (tk' : Nat), S.Ok news → l.map (·.1) = (signs x).reverse → Fr h₀ L h' m → News h₀ L h' (S.own w l cc ++ (S.codes ++ news)) → Q (.ref S.st) { s with heap := h', toks := tk' }) →
    wpAny (model PySem.Challenge.rw_tr0056_01.row.prog w) (ktrTop dp un gd cn cs L a ccd cl outer) (call (.ref 183) [.str x t]) Q E s := by
  k_fill
  intro loose mean mg mb dp un gd cn cs a ccd cl outer A₀ base h₀ L m news s Q E B F X N T hC n178 hk hd hu hret
  have hlk : (K w.params).lookup 183 = some (o183 w.params) := by kernel_rfl
  have eP := (rfl : defP (stAt 15) = defP (stAt 15)); conv at eP => rhs; whnf
  have eB := (rfl : defB (stAt 15) = defB (stAt 15)); conv at eB => rhs; whnf
  have eS := (rfl : defS (stAt 15) = defS (stAt 15)); conv at eS => rhs; whnf
  unfold o183 at hlk
  rw [eP, eB, eS] at hlk
  clear eP eB eS
  refine wpAny_call ?_
  k_dflt (refine' code_defC ?k1 ?k2 ?k3 ?k4 ?k5 ?kA ?kF ?kK ?k6 ?k7 ?k8 ?k9 ?kB ?kD ?_ ?c2 ?c3 ?c4; (case kA => exact rfl); (case kF => exact rfl); (case kK => assumption); (case k1 => k_asm); (case k2 => k_asm); (case k3 => k_asm); (case k4 => k_asm); (case k5 => k_asm); (case k6 => k_is); (case k7 => k_is); (case k8 => ktr_room); (case k9 => exact BindsTo.of_eq rfl); (case kB => exact rfl); (case kD => decide +kernel); (case c2 => exact rfl); (case c3 => exact rfl); (case c4 => exact rfl); k_whole; intro g' L' h' tk' cells' FG' F' N' Y' B' X' T' l1; (have l1n : ∀ p ∈ news, p.1 ≠ L' + 1 := fun p hp => Nat.ne_of_lt (Nat.lt_succ_of_lt (l1 p (List.mem_cons_of_mem _ hp)))); (have lL : ∀ p ∈ news, p.1 < L' := fun p hp => l1 p (List.mem_cons_of_mem _ hp)); (k_lt l1); k_cells Y'; (try simp only [List.cons_append, List.nil_append] at N'); (try dsimp only); (try k_lift B'); (try k_fold))
  clear hlk
  k_steps
  have lc : ∀ p ∈ news, p.1 < L' + 1 := fun p hp => Nat.lt_succ_of_lt (lL p hp)
  exact stream1_end hret (by assumption) (by assumption) rfl (by assumption) (by assumption) (by assumption) (by assumption) (by omega) (by omega) (by omega) (by omega) (by omega) (by omega) (by omega) (by omega) lc
end

section

set_option maxHeartbeats 8000000
theorem ne_of_allLt2 {d : Addr} {l : List (Addr × Obj)} (h : AllLt d l) : ∀ p ∈ l, p.1 ≠ d := fun p hp => Nat.ne_of_lt (ktn_ltOf h p hp)
theorem ne_above2 {b d : Addr} {l : List (Addr × Obj)} (h : ∀ p ∈ l, p.1 < b) (hd : @LE.le Nat _ b d) : ∀ p ∈ l, p.1 ≠ d := fun p hp => Nat.ne_of_lt (Nat.lt_of_lt_of_le (h p hp) hd)
local macro_rules | `(tactic| k_all) => `(tactic| first | assumption | exact ne_above (by assumption) (by first | omega | (try dsimp only); omega))
theorem stream2_end {w : World} {x : Str} {u : Tok} {h₀ h' : Heap} {L : Addr} {m : Str → Option Value} {news : List (Addr × Obj)} {s : Shared} {Q : Value → Shared → Prop} {st dst rd c1 c2 cell sl : Addr} {fd : FuncData} {key : Tok} {pmv ctv : Value} {oC oc2 tb : Obj} {l : List (Str × Tok)} {cc tk' : Nat}
    (hret : (∀ (S : Strm) (l : List (Str × Tok)) (cc : Nat) (h' : Heap) (tk' : Nat), S.Ok news → S.c1 = c1 → S.c2 = c2 → S.oc2 = oc2 → l.map (·.1) = (signs x).reverse → Fr h₀ L h' m → News h₀ L h' (S.own w l cc ++ (S.codes ++ news)) → Q (.ref S.st) { s with heap := h', toks := tk' })) (F : Fr h₀ L h' m)
    (N : News h₀ L h' ((dst, dsObj w key rd) :: (rd, rdObj cell c2 pmv ctv) :: (st, stObj dst fd) :: (sl, listOf (strValues l).toArray cc) :: (cell, oC) :: (178, tb) :: (c2, oc2) :: news))
    (htb : tb = tabF c1 c2) (e9 : l.map (·.1) = signs (Txt.sliceBy x none none (-1, u))) (hC : oC.data = .cell (some (.ref sl))) (hv : ∃ vs t, oc2.data = .fields vs ∧ vs[1]? = some (.str qualR t))
    (a0 : @LT.lt Nat _ 178 cell) (a1 : @LT.lt Nat _ cell sl) (a2 : @LT.lt Nat _ sl st) (a3 : @LT.lt Nat _ st rd) (a4 : @LT.lt Nat _ rd dst) (a5 : @Ne Nat c2 sl) (a6 : @LT.lt Nat _ c2 dst) (a7 : @LT.lt Nat _ 178 c2) (old : ∀ p ∈ news, p.1 < cell) : Q (.ref st) { s with heap := h', toks := tk' } := by
  subst htb
  refine hret ⟨st, dst, rd, c1, c2, cell, sl, fd, key, pmv, ctv, oC, oc2⟩ l cc h' tk' ⟨hC, hv, a0, a1, a2, a3, a4, a5, a6, a7, old⟩ rfl rfl rfl (e9.trans (signs_rev x u)) F (cb_drop N fun p hp => ?_)
  simp only [List.mem_append, List.mem_cons, List.not_mem_nil, or_false] at hp ⊢
  rcases hp with (h | h | h | h | h) | (h | h) | h <;> simp [h]
theorem stream2_ (w : World) (x : Str) (t : Tok) (hx : x.length ≤ 600) (c1 c2 : Addr) (oc2 : Obj) (hv : ∃ vs t, oc2.data = .fields vs ∧ vs[1]? = some (.str qualR t)) (h7 : @LT.lt Nat _ 178 c2) : ∀ (loose : List Str) (mean : ExcName → Option Value) (mg mb : Str → Option Value) (dp un : Nat) (gd : Option (List Code)) (cn : Str) (cs : Scope) (a : Addr) (ccd : Value) (cl : List (Str × Addr)) (outer : List Env) (A₀ : Around) (base h₀ : Heap) (L : Addr) (m : Str → Option Value) (news : List (Addr × Obj)) (s : Shared) (Q E : Value → Shared → Prop),
    Below A₀ base outer h₀ → Fr h₀ L s.heap m → (K w.params).In h₀ → News h₀ L s.heap ((178, tabF c1 c2) :: (c2, oc2) :: news) → Top topProg loose mean mg mb h₀ → CodeHd base 182 178 → (∀ p ∈ news, p.1 ≠ 178) → cs.kind = .function → dp + 9 < recursionLimit → un + 60 < cLine →
    (∀ (S : Strm) (l : List (Str × Tok)) (cc : Nat) (h' : Heap) (tk' : Nat), S.Ok news → S.c1 = c1 → S.c2 = c2 → S.oc2 = oc2 → l.map (·.1) = (signs x).reverse → Fr h₀ L h' m → News h₀ L h' (S.own w l cc ++ (S.codes ++ news)) → Q (.ref S.st) { s with heap := h', toks := tk' }) →
    wpAny (model PySem.Challenge.rw_tr0056_01.row.prog w) (ktrTop dp un gd cn cs L a ccd cl outer) (call (.ref 183) [.str x t]) Q E s := by
  k_fill
  intro loose mean mg mb dp un gd cn cs a ccd cl outer A₀ base h₀ L m news s Q E B F X N T hC n178 hk hd hu hret
  have hlk : (K w.params).lookup 183 = some (o183 w.params) := by kernel_rfl
  have eP := (rfl : defP (stAt 15) = defP (stAt 15)); conv at eP => rhs; whnf
  have eB := (rfl : defB (stAt 15) = defB (stAt 15)); conv at eB => rhs; whnf
  have eS := (rfl : defS (stAt 15) = defS (stAt 15)); conv at eS => rhs; whnf
  unfold o183 at hlk
  rw [eP, eB, eS] at hlk
  clear eP eB eS
  refine wpAny_call ?_
  k_dflt (refine' code_defC ?k1 ?k2 ?k3 ?k4 ?k5 ?kA ?kF ?kK ?k6 ?k7 ?k8 ?k9 ?kB ?kD ?_ ?c2 ?c3 ?c4; (case kA => exact rfl); (case kF => exact rfl); (case kK => assumption); (case k1 => k_asm); (case k2 => k_asm); (case k3 => k_asm); (case k4 => k_asm); (case k5 => k_asm); (case k6 => k_is); (case k7 => k_is); (case k8 => ktr_room); (case k9 => exact BindsTo.of_eq rfl); (case kB => exact rfl); (case kD => decide +kernel); (case c2 => exact rfl); (case c3 => exact rfl); (case c4 => exact rfl); k_whole; intro g' L' h' tk' cells' FG' F' N' Y' B' X' T' l1; (have l1n : ∀ p ∈ news, p.1 ≠ L' + 1 := fun p hp => Nat.ne_of_lt (Nat.lt_succ_of_lt (l1 p (List.mem_cons_of_mem _ (List.mem_cons_of_mem _ hp))))); (have lL : ∀ p ∈ news, p.1 < L' := fun p hp => l1 p (List.mem_cons_of_mem _ (List.mem_cons_of_mem _ hp))); (k_lt l1); k_cells Y'; (try simp only [List.cons_append, List.nil_append] at N'); (try dsimp only); (try k_lift B'); (try k_fold))
  clear hlk
  k_steps
  have lc : ∀ p ∈ news, p.1 < L' + 1 := fun p hp => Nat.lt_succ_of_lt (lL p hp)
  exact stream2_end hret (by assumption) (by assumption) rfl (by assumption) (by assumption) hv (by omega) (by omega) (by omega) (by omega) (by omega) (by omega) (by omega) h7 lc
end

section
open PyProof.V PySem.Spec PySem.SeqAt
theorem readsAll_strs {h : Heap} : ∀ l : List (Str × Tok), ReadsAll h (strValues l) (l.map fun q => PyData.str q.1) []
  | [] => .nil
  | q :: r => by
    have := ReadsAll.cons (Reads.str (h := h) q.1 q.2) (readsAll_strs (h := h) r)
    simpa [strValues] using this
theorem canLayAll0_strs : ∀ l : List (Str × Tok), (∀ q ∈ l, PyData.strOk q.1 = true) → PyData.canLayAll0 (l.map fun q => PyData.str q.1) = true
  | [], _ => by simp [PyData.canLayAll0]
  | n :: r, h => by simp [PyData.canLayAll0, PyData.canLay0, canLayAll0_strs r fun q hq => h q (List.mem_cons_of_mem _ hq), h n List.mem_cons_self]
theorem depthAll_strs : ∀ l : List (Str × Tok), PyData.depthAll (l.map fun q => PyData.str q.1) ≤ 1
  | [] => by simp [PyData.depthAll]
  | n :: r => by
    have := depthAll_strs r
    simp only [List.map_cons, PyData.depthAll, PyData.depth]
    omega
theorem shaped_strs (l : List (Str × Tok)) (hl : ∀ q ∈ l, PyData.strOk q.1 = true) : shaped (.list (l.map fun q => PyData.str q.1)) = true := by
  have h1 := depthAll_strs l
  have h2 : PyData.depth (.list (l.map fun q => PyData.str q.1)) ≤ 64 := by simp only [PyData.depth]; omega
  show (PyData.canLay0 (.list (l.map fun q => PyData.str q.1)) && decide (PyData.depth (.list (l.map fun q => PyData.str q.1)) ≤ 64)) = true
  rw [Bool.and_eq_true]
  exact ⟨by simp only [PyData.canLay0]; exact canLayAll0_strs l hl, decide_eq_true h2⟩
section
variable {prog : Program} {w : World} {A : Around} {E : Value → Shared → Prop} {s : Shared} {h₀ : Heap} {L : Addr} {news : List (Addr × Obj)}
theorem ne_empty {a b : Addr} {l : List (Str × Tok)} {c d : Nat} {Q : Value → Shared → Prop} (N : News h₀ L s.heap news) (ma : (a, listOf (strValues l).toArray c) ∈ news) (mb : (b, listOf #[] d) ∈ news) (hu : A.units + 64 < cLine) (hl : ∀ q ∈ l, PyData.strOk q.1 = true)
    (h : Q (.bool (!l.isEmpty)) s) : wpAny (model prog w) A (compareOp .NotEq (.ref a) (.ref b)) Q E s := by
  have ra : Reads s.heap (.ref a) (.list (l.map fun q => PyData.str q.1)) [a] := Reads.list (N _ ma).1 rfl rfl (by simpa using readsAll_strs l)
  have rb : Reads s.heap (.ref b) (.list []) [b] := Reads.list (N _ mb).1 rfl rfl (by simpa using ReadsAll.nil)
  refine ne_dataH_same ra rb (shaped_strs l hl) (by rfl) hu ?_ ?_
  · cases l <;> simp [noMix, noMixAll]
  · cases l with
    | nil => simpa [PySem.Spec.same, PySem.Spec.sameAll] using h
    | cons q r => simpa [PySem.Spec.same, PySem.Spec.sameAll] using h
theorem ne_some {a b : Addr} {l : List (Str × Tok)} {q : Str × Tok} {c d : Nat} {Q : Value → Shared → Prop} (N : News h₀ L s.heap news) (ma : (a, listOf (strValues (l ++ [q])).toArray c) ∈ news) (mb : (b, listOf #[] d) ∈ news) (hu : A.units + 64 < cLine) (hl : ∀ p ∈ l ++ [q], PyData.strOk p.1 = true)
    (h : Q (.bool true) s) : wpAny (model prog w) A (compareOp .NotEq (.ref a) (.ref b)) Q E s := ne_empty N ma mb hu hl (by cases l <;> exact h)
theorem ne_none {a b : Addr} {c d : Nat} {Q : Value → Shared → Prop} (N : News h₀ L s.heap news) (ma : (a, listOf #[] c) ∈ news) (mb : (b, listOf #[] d) ∈ news) (hu : A.units + 64 < cLine)
    (h : Q (.bool false) s) : wpAny (model prog w) A (compareOp .NotEq (.ref a) (.ref b)) Q E s := ne_empty (l := []) N ma mb hu (fun p hp => nomatch hp) h
theorem kl_last_strs (q : Str × Tok) : ∀ l : List (Str × Tok), kl_last (strValues (l ++ [q])) = some (strValues l, .str q.1 q.2)
  | [] => rfl
  | p :: r => by
    have ih := kl_last_strs q r
    show (match kl_last (strValues (r ++ [q])) with | some (p', y) => some (Value.str p.1 p.2 :: p', y) | none => some ([], Value.str p.1 p.2)) = _
    rw [ih]
    rfl
theorem pop_str {D : Addr} {l : List (Str × Tok)} {q : Str × Tok} {n : Nat} {m : Str → Option Value} {news' : List (Addr × Obj)} {Q : Value → Shared → Prop} (F : Fr h₀ L s.heap m) (N : News h₀ L s.heap news)
    (U : Upd D (listOf (strValues (l ++ [q])).toArray n) (listOf (strValues l).toArray (n + 1)) news news') (hz : (l ++ [q]).length ≤ 100000) (h : ∀ h', Fr h₀ L h' m → News h₀ L h' news' → Q (.str q.1 q.2) { s with heap := h' }) :
    wpAny (model prog w) A (call (.builtin "list.pop") [.ref D]) Q E s :=
  kl_pop F N (by simpa using kl_last_strs q l) U (by simp only [strValues, List.toList_toArray, List.length_map]; rw [sizeLine_eq]; omega) h
end
end

section

set_option maxHeartbeats 8000000
theorem ne_of_allLt3 {d : Addr} {l : List (Addr × Obj)} (h : AllLt d l) : ∀ p ∈ l, p.1 ≠ d := fun p hp => Nat.ne_of_lt (ktn_ltOf h p hp)
theorem ne_above3 {b d : Addr} {l : List (Addr × Obj)} (h : ∀ p ∈ l, p.1 < b) (hd : @LE.le Nat _ b d) : ∀ p ∈ l, p.1 ≠ d := fun p hp => Nat.ne_of_lt (Nat.lt_of_lt_of_le (h p hp) hd)
local macro_rules | `(tactic| k_all) => `(tactic| first | assumption | exact ne_above3 (by assumption) (by first | omega | (try dsimp only); omega))
local macro_rules | `(tactic| k_room) => `(tactic| ktr_room)
theorem fn_methodN {prog : Program} {w : World} {A : Around} {E : Value → Shared → Prop} {s : Shared} {h₀ : Heap} {L x dx : Addr} {news : List (Addr × Obj)} {fd : FuncData} {sl : Array (Option Value)} {v : Value} {hs : Int} {key : Tok} {Q : Value × List Value → Shared → Prop} {pl : Sem Bool}
    (N : News h₀ L s.heap news) (mx : (x, (⟨.type "function", some dx, .func fd, sl⟩ : Obj)) ∈ news) (md : (dx, dictOf [⟨hs, .str "read" key, v⟩] 1) ∈ news) (hv : handedIn v = true) (hq : ∀ tk, Q (v, []) { s with toks := tk }) :
    wpAny (model prog w) A (getMethod (.ref x) "read" pl) Q E s := by
  obtain ⟨hp, g, d, t, os⟩ := s
  exact fn_method (N _ mx).1 (N _ md).1 hv hq
local macro_rules | `(tactic| walk1) => `(tactic| ((with_reducible show wpAny _ _ (getMethod (Value.ref _) _ _) _ _ _); (refine' fn_methodN ?N ?mx ?md ?hv ?_; (case N => k_asm); (case mx => k_mem); (case md => k_mem); (case hv => exact rfl)); (intro tk9); (try dsimp only); (try k_fold); walk_say "FNMETHOD"))
local macro_rules | `(tactic| walk1) => `(tactic| ((with_reducible show wpAny _ _ (compareOp CmpOp.NotEq (Value.ref _) (Value.ref _)) _ _ _); (first | (refine' ne_some ?N ?ma ?mb ?hu ?hl ?_; (case N => k_asm); (case ma => k_mem); (case mb => k_mem); (case hu => ktr_units); (case hl => assumption)) | (refine' ne_none ?N ?ma ?mb ?hu ?_; (case N => k_asm); (case ma => k_mem); (case mb => k_mem); (case hu => ktr_units))); walk_say "NELIST"))
local macro_rules | `(tactic| walk1) => `(tactic| ((with_reducible show wpAny _ _ (call (Value.builtin "list.pop") _) _ _ _); (try dsimp only); (refine' pop_str ?F ?N ?U ?hz ?_; (case F => k_asm); (case N => k_asm); (case U => k_upd); (case hz => assumption)); (intro h9 F9 N9); (try dsimp only); (try k_fold); walk_say "POPSTR"))
/-- the lexer in the ledger -/
structure Lexr where
  pb : Addr
  x : Addr
  dx : Addr
  k1 : Tok
  k2 : Tok
  k3 : Tok
  k4 : Tok
  tw : Tok
noncomputable abbrev Lexr.own (X : Lexr) (w : World) (st : Addr) (n : Int) (tn : Tok) : List (Addr × Obj) :=
  [(X.pb, listOf #[] 0), (X.x, instObj 103 X.dx), (X.dx, dictOf [⟨PyData.keyHash w.params "lineno", .str "lineno" X.k1, .int n tn⟩, ⟨PyData.keyHash w.params "instream", .str "instream" X.k2, .ref st⟩, ⟨PyData.keyHash w.params "whitespace", .str "whitespace" X.k3, .str "\n\t\r " X.tw⟩, ⟨PyData.keyHash w.params "pushback", .str "pushback" X.k4, .ref X.pb⟩] 4)]
structure Lexr.Ok (X : Lexr) (S : Strm) : Prop where
  b0 : @LT.lt Nat _ S.dst X.dx
  b1 : @LT.lt Nat _ X.dx X.x
  b2 : @LT.lt Nat _ X.x X.pb
theorem nwcut2 {h₀ h : Heap} {L : Addr} {a : Addr × Obj} {l : List (Addr × Obj)} (N : News h₀ L h (a :: l)) : News h₀ L h l := fun p hp => N p (List.mem_cons_of_mem _ hp)
theorem read_end {w : World} {X : Lexr} {S : Strm} {l : List (Str × Tok)} {q : Str × Tok} {cc : Nat} {n n' : Int} {tn' : Tok} {news : List (Addr × Obj)} {h₀ h' : Heap} {L e : Addr} {o : Obj} {m : Str → Option Value} {s : Shared} {Q : Value → Shared → Prop} {tk' : Nat}
    (hret : (∀ (n' : Int) (tn' : Tok) (h' : Heap) (tk' : Nat), n' = (if (q.1 == Str.ofString "\n") = true then n + 1 else n) → Fr h₀ L h' m → News h₀ L h' (X.own w S.st n' tn' ++ (S.own w l (cc + 1) ++ (S.codes ++ news))) → Q (.str q.1 q.2) { s with heap := h', toks := tk' })) (hn : n' = (if (q.1 == Str.ofString "\n") = true then n + 1 else n)) (F : Fr h₀ L h' m)
    (N : News h₀ L h' ((e, o) :: (X.own w S.st n' tn' ++ (S.own w l (cc + 1) ++ (S.codes ++ news))))) : Q (.str q.1 q.2) { s with heap := h', toks := tk' } := hret n' tn' h' tk' hn F (nwcut2 N)
theorem read_char_ (w : World) (X : Lexr) (S : Strm) (l : List (Str × Tok)) (q : Str × Tok) (cc : Nat) (n : Int) (tn : Tok) (nw0 news : List (Addr × Obj)) (hS : S.Ok nw0) (hX : X.Ok S) (n1 : ∀ p ∈ news, p.1 ≠ S.sl) (n2 : ∀ p ∈ news, p.1 ≠ X.dx) (hl : ∀ p ∈ l ++ [q], PyData.strOk p.1 = true) (hlen : (l ++ [q]).length ≤ 100000) : ∀ (loose : List Str) (mean : ExcName → Option Value) (mg mb : Str → Option Value) (dp un : Nat) (gd : Option (List Code)) (cn : Str) (cs : Scope) (a : Addr) (ccd : Value) (cl : List (Str × Addr)) (outer : List Env) (A₀ : Around) (base h₀ : Heap) (L : Addr) (m : Str → Option Value) (s : Shared) (Q E : Value → Shared → Prop),
    Below A₀ base outer h₀ → Fr h₀ L s.heap m → (K w.params).In h₀ → News h₀ L s.heap (X.own w S.st n tn ++ (S.own w (l ++ [q]) cc ++ (S.codes ++ news))) → Top topProg loose mean mg mb h₀ → CodeHd base 182 178 → cs.kind = .function → dp + 9 < recursionLimit → un + 120 < cLine →
    (∀ (n' : Int) (tn' : Tok) (h' : Heap) (tk' : Nat), n' = (if (q.1 == Str.ofString "\n") = true then n + 1 else n) → Fr h₀ L h' m → News h₀ L h' (X.own w S.st n' tn' ++ (S.own w l (cc + 1) ++ (S.codes ++ news))) → Q (.str q.1 q.2) { s with heap := h', toks := tk' }) →
    codeAny (model PySem.Challenge.rw_tr0056_01.row.prog w) (ktrTop dp un gd cn cs L a ccd cl outer) (.call (.ref 86) ⟨[.ref X.x], []⟩) (fun r s' => match r with | .ok (.ret v) => Q v s' | .ok _ => False | .error e => E e s') s := by
  k_fill
  intro loose mean mg mb dp un gd cn cs a ccd cl outer A₀ base h₀ L m s Q E B F X9 N T hC hk hd hu hret
  have hlk : (K w.params).lookup 86 = some (o86 w.params) := by kernel_rfl
  have eP := (rfl : defP (stIn 7 1) = defP (stIn 7 1)); conv at eP => rhs; whnf
  have eB := (rfl : defB (stIn 7 1) = defB (stIn 7 1)); conv at eB => rhs; whnf
  have eS := (rfl : defS (stIn 7 1) = defS (stIn 7 1)); conv at eS => rhs; whnf
  unfold o86 at hlk
  rw [eP, eB, eS] at hlk
  clear eP eB eS
  simp only [List.cons_append, List.nil_append, rdObj] at N
  have e1 := (rfl : lam2.1 = lam2.1); conv at e1 => rhs; whnf
  have e2 := (rfl : lam2.2.1 = lam2.2.1); conv at e2 => rhs; whnf
  have e3 := (rfl : lam2.2.2 = lam2.2.2); conv at e3 => rhs; whnf
  rw [e1, e2, e3] at N
  clear e1 e2 e3
  obtain ⟨hcell, ⟨vsC, tC, hvC, hv1C⟩, a0, a1, a2, a3, a4, a5, a6, a7, old⟩ := hS
  obtain ⟨b0, b1, b2⟩ := hX
  k_dflt cell_enter
  clear hlk
  k_steps
  · exact read_end hret (by first | (rw [if_pos (by assumption)]) | (rw [if_neg (by simp_all)])) (by assumption) (by assumption)
  · exact read_end hret (by first | (rw [if_pos (by assumption)]) | (rw [if_neg (by simp_all)])) (by assumption) (by assumption)
theorem read_none_ (w : World) (X : Lexr) (S : Strm) (cc : Nat) (n : Int) (tn : Tok) (nw0 news : List (Addr × Obj)) (hS : S.Ok nw0) (hX : X.Ok S) (n1 : ∀ p ∈ news, p.1 ≠ S.sl) (n2 : ∀ p ∈ news, p.1 ≠ X.dx) : ∀ (loose : List Str) (mean : ExcName → Option Value) (mg mb : Str → Option Value) (dp un : Nat) (gd : Option (List Code)) (cn : Str) (cs : Scope) (a : Addr) (ccd : Value) (cl : List (Str × Addr)) (outer : List Env) (A₀ : Around) (base h₀ : Heap) (L : Addr) (m : Str → Option Value) (s : Shared) (Q E : Value → Shared → Prop),
    Below A₀ base outer h₀ → Fr h₀ L s.heap m → (K w.params).In h₀ → News h₀ L s.heap (X.own w S.st n tn ++ (S.own w [] cc ++ (S.codes ++ news))) → Top topProg loose mean mg mb h₀ → CodeHd base 182 178 → cs.kind = .function → dp + 9 < recursionLimit → un + 120 < cLine →
    (∀ (t : Tok) (h' : Heap) (tk' : Nat), Fr h₀ L h' m → News h₀ L h' (X.own w S.st n tn ++ (S.own w [] cc ++ (S.codes ++ news))) → Q (.str (Str.ofString "") t) { s with heap := h', toks := tk' }) →
    codeAny (model PySem.Challenge.rw_tr0056_01.row.prog w) (ktrTop dp un gd cn cs L a ccd cl outer) (.call (.ref 86) ⟨[.ref X.x], []⟩) (fun r s' => match r with | .ok (.ret v) => Q v s' | .ok _ => False | .error e => E e s') s := by
  k_fill
  intro loose mean mg mb dp un gd cn cs a ccd cl outer A₀ base h₀ L m s Q E B F X9 N T hC hk hd hu hret
  have hlk : (K w.params).lookup 86 = some (o86 w.params) := by kernel_rfl
  have eP := (rfl : defP (stIn 7 1) = defP (stIn 7 1)); conv at eP => rhs; whnf
  have eB := (rfl : defB (stIn 7 1) = defB (stIn 7 1)); conv at eB => rhs; whnf
  have eS := (rfl : defS (stIn 7 1) = defS (stIn 7 1)); conv at eS => rhs; whnf
  unfold o86 at hlk
  rw [eP, eB, eS] at hlk
  clear eP eB eS
  simp only [List.cons_append, List.nil_append, rdObj] at N
  have e1 := (rfl : lam2.1 = lam2.1); conv at e1 => rhs; whnf
  have e2 := (rfl : lam2.2.1 = lam2.2.1); conv at e2 => rhs; whnf
  have e3 := (rfl : lam2.2.2 = lam2.2.2); conv at e3 => rhs; whnf
  rw [e1, e2, e3] at N
  clear e1 e2 e3
  obtain ⟨hcell, ⟨vsC, tC, hvC, hv1C⟩, a0, a1, a2, a3, a4, a5, a6, a7, old⟩ := hS
  obtain ⟨b0, b1, b2⟩ := hX
  k_dflt cell_enter
  clear hlk
  k_steps
  exact hret _ _ _ (by assumption) (nwcut2 (a := (_, _)) (by assumption))
end

section

open Sem (wp)
theorem slot_ci : Slot "callable_iterator" "__next__" "callable_iterator.__next__" :=
  .of (owner := "callable_iterator") (n := "__next__") (by rw [typeLookup_type, builtinLookup_eq_fast]; kernel_rfl) (by decide +kernel) (by decide +kernel) (by decide +kernel)
    (by first | exact .inl (by decide +kernel) | exact .inr (by decide +kernel)) (by rw [isSubtype_type]; kernel_rfl)
theorem entry_ci : entryFor table "callable_iterator.__next__" = some Builtin.«callable_iterator.__next__» := entryFor_of_tree (by kernel_rfl)
theorem args_ci (a : Value) : argsOk "callable_iterator.__next__" ⟨[a], []⟩ := by unfold argsOk; kernel_rfl
noncomputable abbrev ciObj (q : Addr) (t : Tok) : Obj := { cls := .type "callable_iterator", data := .fields #[.ref q, .str (Str.ofString "") t, .bool false] }
noncomputable abbrev ciDone : Obj := { cls := .type "callable_iterator", data := .fields #[.none, .none, .bool true] }
section
variable {M : Model} {A : Around} {E : Value → Shared → Prop} {s : Shared}
theorem callBorrowed_any {f : Value} {pos : List Value} {Q : Value → Shared → Prop}
    (hc : codeAny M A (.call f ⟨pos, []⟩) (fun r s' => match r with | .ok (.ret v) => Q v s' | .ok _ => False | .error e => E e s') s) : wpAny M A (callBorrowed f pos) Q E s := by
  intro Γ p hΓ
  unfold callBorrowed
  rw [Sem.wp_call]
  refine wpCode_mono (fun r s' h => ?_) (hc _ p rfl (hΓ.enter _ none p (by intro x; cases x)))
  cases r with
  | error e => exact h
  | ok f => cases f <;> exact h
end
section
variable {prog : Program} {w : World} {A : Around} {E : Value → Shared → Prop} {s : Shared}
theorem method_code {q x f : Addr} {R : Result → Shared → Prop} (hq : s.heap.get? q = some (methodObj (.ref f) (.ref x))) (h : codeAny (model prog w) A (.call (.ref f) ⟨[.ref x], []⟩) R s) :
    codeAny (model prog w) A (.call (.ref q) ⟨[], []⟩) R s := by
  refine codeAny_of_tree ?_
  show wpAny _ A.in1 (callAny (.ref q) _) _ _ s
  simp only [callAny]
  refine wpAny_bind (wpAny_load hq ?_)
  dsimp only
  exact wpAny_pure ⟨rfl, h⟩
theorem out_of_slot {q x f : Addr} {fo : Obj} {fd : FuncData} {Q : Value → Shared → Prop} (hq : s.heap.get? q = some (methodObj (.ref f) (.ref x))) (hf : s.heap.get? f = some fo) (hfd : fo.data = .func fd)
    (h : codeAny (model prog w) A (.call (.ref f) ⟨[.ref x], []⟩) (fun r s' => match r with | .ok (.ret v) => Q v s' | .ok _ => False | .error e => E e s') s) :
    wpAny (model prog w) A (callOutOfASlot (.ref q)) Q E s := by
  unfold callOutOfASlot borrowsExactly
  refine wpAny_bind (wpAny_bind (wpAny_load hq ?_))
  show wpAny _ _ (load f >>= _) _ _ s
  refine wpAny_bind (wpAny_load hf ?_)
  rw [hfd]
  refine wpAny_pure ?_
  rw [if_pos rfl]
  exact callBorrowed_any (method_code hq h)

/-- the iterator gives a sign -/
theorem ci_some {it q x f : Addr} {t : Tok} {fo : Obj} {fd : FuncData} {Q : Option Value → Shared → Prop} (hit : s.heap.get? it = some (ciObj q t)) (hq : s.heap.get? q = some (methodObj (.ref f) (.ref x)))
    (hf : s.heap.get? f = some fo) (hfd : fo.data = .func fd)
    (h : codeAny (model prog w) A.in1 (.call (.ref f) ⟨[.ref x], []⟩) (fun r s' => match r with | .ok (.ret v) => s'.heap.get? it = some (ciObj q t) ∧ ∃ y u, v = .str y u ∧ y ≠ Str.ofString "" ∧ Q (some v) s' | _ => False) s) :
    wpAny (model prog w) A (pyNext (.ref it)) Q E s := by
  unfold pyNext
  refine wpAny_bind (wpAny_attempt (wpAny_callSpecial?_slot (name := Str.ofString "__next__") ⟨_, hit, rfl⟩ slot_ci (wpAny_call_entry slot_ci ⟨_, hit, rfl⟩ entry_ci ?_ (args_ci _))))
  show wpAny _ _ (field (.ref it) 2 >>= _) _ _ s
  refine wpAny_bind (wpAny_field hit rfl (x := .bool false) rfl ?_)
  show wpAny _ _ (field (.ref it) 0 >>= _) _ _ s
  refine wpAny_bind (wpAny_field hit rfl (x := .ref q) rfl ?_)
  refine wpAny_bind (wpAny_attempt (out_of_slot hq hf hfd (codeAny_mono h fun r s' hr => ?_)))
  rcases r with e | fl
  · exact hr.elim
  cases fl with
  | ret v =>
    obtain ⟨hit', y, u, rfl, hy, hQ⟩ := hr
    show wpAny _ _ (field (.ref it) 2 >>= _) _ _ s'
    refine wpAny_bind (wpAny_field hit' rfl (x := .bool false) rfl ?_)
    show wpAny _ _ (field (.ref it) 1 >>= _) _ _ s'
    refine wpAny_bind (wpAny_field hit' rfl (x := .str (Str.ofString "") t) rfl ?_)
    refine wpAny_bind (wpAny_holding (wpAny_eqBool_str ?_))
    rw [decide_eq_false (Ne.symm hy)]
    exact wpAny_pure ⟨_, rfl, wpAny_pure hQ⟩
  | _ => exact hr.elim
theorem ci_end {it q x f : Addr} {t : Tok} {fo : Obj} {fd : FuncData} {Q : Option Value → Shared → Prop} (hh : A.handled = none) (hit : s.heap.get? it = some (ciObj q t)) (hq : s.heap.get? q = some (methodObj (.ref f) (.ref x)))
    (hf : s.heap.get? f = some fo) (hfd : fo.data = .func fd) (hne : q ≠ it ∧ f ≠ it)
    (h : codeAny (model prog w) A.in1 (.call (.ref f) ⟨[.ref x], []⟩) (fun r s' => ∃ u, r = .ok (.ret (.str (Str.ofString "") u)) ∧ s'.heap.get? it = some (ciObj q t) ∧ s'.heap.get? q = some (methodObj (.ref f) (.ref x)) ∧ s'.heap.get? f = some fo ∧
      (∀ h₂ : Heap, h₂.get? it = some ciDone → (∀ b o, b ≠ it → s'.heap.get? b = some o → h₂.get? b = some o) → Q none { s' with heap := h₂ })) s) :
    wpAny (model prog w) A (pyNext (.ref it)) Q E s := by
  unfold pyNext
  refine wpAny_bind (wpAny_attempt (wpAny_callSpecial?_slot (name := Str.ofString "__next__") ⟨_, hit, rfl⟩ slot_ci (wpAny_call_entry slot_ci ⟨_, hit, rfl⟩ entry_ci ?_ (args_ci _))))
  show wpAny _ _ (field (.ref it) 2 >>= _) _ _ s
  refine wpAny_bind (wpAny_field hit rfl (x := .bool false) rfl ?_)
  show wpAny _ _ (field (.ref it) 0 >>= _) _ _ s
  refine wpAny_bind (wpAny_field hit rfl (x := .ref q) rfl ?_)
  refine wpAny_bind (wpAny_attempt (out_of_slot hq hf hfd (codeAny_mono h fun r s' hr => ?_)))
  obtain ⟨u, rfl, hit', hq', hf', hQ⟩ := hr
  · skip
    show wpAny _ _ (field (.ref it) 2 >>= _) _ _ s'
    refine wpAny_bind (wpAny_field hit' rfl (x := .bool false) rfl ?_)
    show wpAny _ _ (field (.ref it) 1 >>= _) _ _ s'
    refine wpAny_bind (wpAny_field hit' rfl (x := .str (Str.ofString "") t) rfl ?_)
    refine wpAny_bind (wpAny_holding (wpAny_eqBool_str ?_))
    rw [decide_eq_true rfl]
    refine wpAny_bind (wpAny_rule ?_)
    refine wpAny_bind ?_
    show wpAny _ _ (field (.ref it) 0 >>= _) _ _ s'
    refine wpAny_bind (wpAny_field hit' rfl (x := .ref q) rfl ?_)
    refine wpAny_bind ?_
    unfold slotLetsGo borrowsExactly
    refine wpAny_bind (wpAny_bind (wpAny_load hq' ?_))
    show wpAny _ _ (load f >>= _) _ _ s'
    refine wpAny_bind (wpAny_load hf' ?_)
    rw [hfd]
    refine wpAny_pure ?_
    rw [if_pos rfl]
    refine wpAny_pure ?_
    refine wpAny_bind (wpAny_setField hit' rfl (by show 0 < 3; decide) ?_)
    have h1 := Heap.get?_update_self (Obj.mapFields (·.setIfInBounds 0 Value.none)) hit' rfl
    refine wpAny_bind (wpAny_setField (vs := #[.none, .str (Str.ofString "") t, .bool false]) h1 rfl (by show 1 < 3; decide) ?_)
    have h2 := Heap.get?_update_self (Obj.mapFields (·.setIfInBounds 1 Value.none)) h1 rfl
    refine wpAny_setField (vs := #[.none, .none, .bool false]) h2 rfl (by show 2 < 3; decide) ?_
    have h3 := Heap.get?_update_self (Obj.mapFields (·.setIfInBounds 2 (Value.bool true))) h2 rfl
    show wpAny _ _ (newExc (.type "StopIteration") [] >>= _) _ _ _
    refine wpAny_bind ?_
    simp only [newExc, newTuple]
    refine wpAny_bind (wpAny_newObj_type ?_ (by size_fits))
    refine wpAny_bind (m := firstArgMember _ _) (wpAny_of_eq (a := Value.none) (by first | rfl | (simp only [firstArgMember]; rfl)) ?_)
    refine wpAny_newObj_type ?_ (by size_fits)
    simp only [raiseNew]
    refine wpAny_bind (wpAny_handled ?_)
    rw [show A.in1.handled = none from hh]
    refine wpAny_bind (wpAny_pure (wpAny_throw ?_))
    refine wpAny_bind (wpAny_isInstance (T := "StopIteration") (b := true) ⟨_, Heap.get?_push_size _ rfl, rfl⟩ isSubtype_stop ?_)
    refine wpAny_pure (hQ _ ?_ fun b o hb e => ?_)
    · exact Heap.get?_push_of_some _ (Heap.get?_push_of_some _ h3)
    · refine Heap.get?_push_of_some _ (Heap.get?_push_of_some _ ?_)
      rw [Heap.get?_update_other _ _ (Ne.symm hb), Heap.get?_update_other _ _ (Ne.symm hb), Heap.get?_update_other _ _ (Ne.symm hb)]
      exact e
theorem slot_mcall : Slot "method" "__call__" "method.__call__" :=
  .of (owner := "method") (n := "__call__") (by rw [typeLookup_type, builtinLookup_eq_fast]; kernel_rfl) (by decide +kernel) (by decide +kernel) (by decide +kernel)
    (by first | exact .inl (by decide +kernel) | exact .inr (by decide +kernel)) (by rw [isSubtype_type]; kernel_rfl)
theorem entry_iter2 : entryFor table "iter" = some Builtin.«iter» := entryFor_of_tree (by kernel_rfl)
theorem iter2_ {q x f : Addr} {t : Tok} {h₀ : Heap} {L : Addr} {m : Str → Option Value} {news : List (Addr × Obj)} {Q : Value → Shared → Prop} (F : Fr h₀ L s.heap m) (N : News h₀ L s.heap news) (mq : (q, methodObj (.ref f) (.ref x)) ∈ news)
    (h : ∀ it h', Fr h₀ L h' m → News h₀ L h' ((it, ciObj q t) :: news) → (∀ p ∈ news, p.1 < it) → Q (.ref it) { s with heap := h' }) :
    wpAny (model prog w) A (call (.builtin "iter") [.ref q, .str (Str.ofString "") t]) Q E s := by
  have hq := (N _ mq).1
  obtain ⟨hp', g, d, tk, os⟩ := s
  have f1 := slot_mcall.lookup
  refine wpAny_call (codeAny_call_builtin_code rfl ?_)
  unfold checkBuiltinCall
  repeat (any_goals (first | assumption | wp_step))
  refine codeAny_builtin entry_iter2 ?_
  rw [Around.under_plainId (by decide +kernel)]
  unfold Builtin.«iter»
  repeat (any_goals (first | assumption | wp_step))
  refine h _ _ (F.keeps fun b o e => Heap.get?_push_of_some _ e) (fun p hp => ?_) fun p hp => Heap.lt_size (N p hp).1
  rcases List.mem_cons.mp hp with rfl | hp
  · refine ⟨Heap.get?_push_size _ rfl, Nat.ne_of_gt F.ns.lt, ?_⟩
    cases z : h₀.get? hp'.objs.size with
    | none => rfl
    | some o => exact absurd (Heap.lt_size (F.keep _ _ z)) (Nat.lt_irrefl _)
  · exact ⟨Heap.get?_push_of_some _ (N p hp).1, (N p hp).2⟩
end
end

section

theorem slot_cii : Slot "callable_iterator" "__iter__" "callable_iterator.__iter__" :=
  .of (owner := "callable_iterator") (n := "__iter__") (by rw [typeLookup_type, builtinLookup_eq_fast]; kernel_rfl) (by decide +kernel) (by decide +kernel) (by decide +kernel)
    (by first | exact .inl (by decide +kernel) | exact .inr (by decide +kernel)) (by rw [isSubtype_type]; kernel_rfl)
theorem entry_cii : entryFor table "callable_iterator.__iter__" = some Builtin.«dict_keyiterator.__iter__» :=
  entryFor_alias (id' := "dict_keyiterator.__iter__") (by kernel_rfl) rfl (by decide +kernel) (by kernel_rfl)
theorem args_cii (a : Value) : argsOk "callable_iterator.__iter__" ⟨[a], []⟩ := by unfold argsOk; kernel_rfl
section
variable {prog : Program} {w : World} {A : Around} {E : Value → Shared → Prop} {s : Shared}
theorem ci_iter {it q : Addr} {t : Tok} {Q : Value → Shared → Prop} (hit : s.heap.get? it = some (ciObj q t)) (h : Q (.ref it) s) : wpAny (model prog w) A (pyIter (.ref it)) Q E s := by
  refine wpAny_pyIter_slot ⟨_, hit, rfl⟩ slot_cii (wpAny_call_entry slot_cii ⟨_, hit, rfl⟩ entry_cii ?_ (args_cii _))
  show wpAny _ _ (ret (.ref it)) _ _ s
  exact wpAny_pure ⟨_, rfl, "callable_iterator", _, ⟨_, hit, rfl⟩, slot_ci.lookup, h⟩
theorem For_any {x : Str} {p pos : Pos} {iter : Expr} {body : List Stmt} {env : Env} {Q : Flow → Shared → Prop} (hs : ∀ v, foldedSetIterable iter env v = pure v)
    (h : wpAny (model prog w) A (eval iter env) (fun v s₁ => wpAny (model prog w) A (pyIter v) (fun it s₂ =>
      codeAny (model prog w) A (.forLoop (.Name x p) it body [] env) (fun r s₃ => match r with | .ok f => Q f s₃ | .error _ => False) s₂) E s₁) E s) :
    wpAny (model prog w) A (exec (.For (.Name x p) iter body [] pos) env) Q E s := by
  rw [arm_exec_For]
  refine wpAny_bind (wpAny_standAt ?_)
  refine wpAny_bind (wpAny_mono h (fun v s₁ h₁ => ?_) fun _ _ y => y)
  rw [hs]
  refine wpAny_bind (wpAny_pure ?_)
  refine wpAny_bind (wpAny_standAt ?_)
  refine wpAny_bind (wpAny_holding (wpAny_mono h₁ (fun it s₂ h₂ => ?_) fun _ _ y => y))
  unfold runOwn
  refine wpAny_onRaise (wpAny_run (codeAny_mono h₂ fun r s₃ h₃ => ?_))
  cases r with
  | ok f => exact h₃
  | error e => exact h₃.elim
end
end

section

set_option maxHeartbeats 8000000
theorem ne_of_allLt4 {d : Addr} {l : List (Addr × Obj)} (h : AllLt d l) : ∀ p ∈ l, p.1 ≠ d := fun p hp => Nat.ne_of_lt (ktn_ltOf h p hp)
theorem ne_above4 {b d : Addr} {l : List (Addr × Obj)} (h : ∀ p ∈ l, p.1 < b) (hd : @LE.le Nat _ b d) : ∀ p ∈ l, p.1 ≠ d := fun p hp => Nat.ne_of_lt (Nat.lt_of_lt_of_le (h p hp) hd)
local macro_rules | `(tactic| k_all) => `(tactic| first | assumption | exact ne_above4 (by assumption) (by first | omega | (try dsimp only); omega))
section
variable {prog : Program} {w : World} {A : Around} {s : Shared} {R : Result → Shared → Prop}
theorem code_turn {x : Str} {p : Pos} {it : Value} {body : List Stmt} {env : Env}
    (h : wpAny (model prog w) A (pyNext it) (fun r s₁ => match r with
      | none => R (.ok .next) s₁
      | some v => wpAny (model prog w) A (assign (.Name x p) env v) (fun _ s₂ => wpAny (model prog w) A (execs body env) (fun f s₃ => match f with
        | .next => codeAny (model prog w) A (.forLoop (.Name x p) it body [] env) R s₃
        | .cont => codeAny (model prog w) A (.forLoop (.Name x p) it body [] env) R s₃
        | .brk => R (.ok .next) s₃
        | .ret v => R (.ok (.ret v)) s₃) (fun _ _ => False) s₂) (fun _ _ => False) s₁) (fun _ _ => False) s) :
    codeAny (model prog w) A (.forLoop (.Name x p) it body [] env) R s := by
  refine codeAny_of_tree ?_
  show wpAny _ A ((forTurn (.Name x p) it body [] env).onRaise (fun x => do noteFrame x env; theTreesLotGoes x)) _ _ s
  refine wpAny_onRaise ?_
  refine wpAny_mono (E := fun _ _ => False) ?_ (fun _ _ y => y) fun _ _ y => y.elim
  simp only [forTurn]
  refine wpAny_bind (wpAny_standAt ?_)
  refine wpAny_bind (wpAny_onRaise (wpAny_mono h (fun r s₁ h₁ => ?_) fun _ _ y => y.elim))
  cases r with
  | none => exact wpAny_pure ⟨rfl, codeAny_block (wpAny_pure h₁)⟩
  | some v =>
    refine wpAny_bind (m := letOwnedTupleGo (.Name x p) it v) (wpAny_pure ?_)
    refine wpAny_bind (wpAny_mono h₁ (fun _ s₂ h₂ => ?_) fun _ _ y => y)
    refine wpAny_bind (wpAny_mono h₂ (fun f s₃ h₃ => ?_) fun _ _ y => y)
    cases f with
    | next => exact wpAny_pure ⟨rfl, h₃⟩
    | cont => exact wpAny_pure ⟨rfl, h₃⟩
    | brk => exact wpAny_pure h₃
    | ret v => exact wpAny_pure h₃
end
noncomputable def outerB : List Stmt := match defB (stIn 7 2) with
  | [_, _, _, .For _ _ b _ _, _] => b
  | _ => []
noncomputable def innerB : List Stmt := match outerB with
  | [_, .If _ [.For _ _ b _ _] _ _] => b
  | _ => []
noncomputable def innerP : Pos := match outerB with
  | [_, .If _ [.For (.Name _ p) _ _ _ _] _ _] => p
  | _ => default
noncomputable def outerP : Pos := match defB (stIn 7 2) with
  | [_, _, _, .For (.Name _ p) _ _ _ _, _] => p
  | _ => default
noncomputable abbrev tokEnv (L : Addr) : Env := envOf (Str.ofString "_netrclex.get_token") (defS (stIn 7 2)) L 93 (.ref 92)
noncomputable def cat (a : Str) (r : List (Str × Tok)) : Str := r.foldl (fun a p => a ++ p.1) a
noncomputable abbrev itNews (it q : Addr) (t : Tok) (x : Addr) (news : List (Addr × Obj)) : List (Addr × Obj) := (it, ciObj q t) :: (q, methodObj (.ref 86) (.ref x)) :: news
theorem lex_next (w : World) (X : Lexr) (S : Strm) (nw0 news : List (Addr × Obj)) (hS : S.Ok nw0) (hX : X.Ok S) (it q : Addr) (t : Tok) (n1 : ∀ p ∈ itNews it q t X.x news, p.1 ≠ S.sl) (n2 : ∀ p ∈ itNews it q t X.x news, p.1 ≠ X.dx)
    (loose : List Str) (mean : ExcName → Option Value) (mg mb : Str → Option Value) (dp un : Nat) (gd : Option (List Code)) (cn : Str) (cs : Scope) (a : Addr) (ccd : Value) (cl : List (Str × Addr)) (outer : List Env) (A₀ : Around) (base g : Heap)
    (B : Below A₀ base outer g) (X9 : (K w.params).In g) (T : Top topProg loose mean mg mb g) (hC : CodeHd base 182 178) (hk : cs.kind = .function) (hd : dp + 9 < recursionLimit) (hu : un + 140 < cLine) {l : List (Str × Tok)} {p : Str × Tok} {n : Int} {tn : Tok} {cc : Nat} {m : Str → Option Value} {L' : Addr} {s : Shared} {Q : Option Value → Shared → Prop} {E : Value → Shared → Prop}
    (F : Fr g L' s.heap m) (N : News g L' s.heap (X.own w S.st n tn ++ (S.own w (l ++ [p]) cc ++ (S.codes ++ itNews it q t X.x news)))) (hp : p.1.length = 1) (hl : ∀ z ∈ l ++ [p], PyData.strOk z.1 = true) (hlen : (l ++ [p]).length ≤ 100000)
    (h : ∀ (n' : Int) (tn' : Tok) (h' : Heap) (tk' : Nat), n' = (if (p.1 == Str.ofString "\n") = true then n + 1 else n) → Fr g L' h' m → News g L' h' (X.own w S.st n' tn' ++ (S.own w l (cc + 1) ++ (S.codes ++ itNews it q t X.x news))) → Q (some (.str p.1 p.2)) { s with heap := h', toks := tk' }) :
    wpAny (model PySem.Challenge.rw_tr0056_01.row.prog w) (ktrTop dp un gd cn cs L' a ccd cl outer) (pyNext (.ref it)) Q E s := by
  have mi : ∀ {nn : Int} {tt : Tok} {ll : List (Str × Tok)} {c : Nat}, (it, ciObj q t) ∈ (X.own w S.st nn tt ++ (S.own w ll c ++ (S.codes ++ itNews it q t X.x news))) := by intros; simp [itNews]
  have mq : ∀ {nn : Int} {tt : Tok} {ll : List (Str × Tok)} {c : Nat}, (q, methodObj (.ref 86) (.ref X.x)) ∈ (X.own w S.st nn tt ++ (S.own w ll c ++ (S.codes ++ itNews it q t X.x news))) := by intros; simp [itNews]
  have hlk : (K w.params).lookup 86 = some (o86 w.params) := by kernel_rfl
  refine ci_some (N _ mi).1 (N _ mq).1 ((X9.keeps F.keep) _ _ hlk) rfl ?_
  have hne : p.1 ≠ Str.ofString "" := fun e => by rw [e] at hp; exact absurd hp (by decide)
  refine codeAny_mono (read_char_ w X S l p cc n tn nw0 (itNews it q t X.x news) hS hX n1 n2 hl hlen loose mean mg mb dp (un + 1) gd cn cs a ccd cl outer A₀ base g L' m s
    (fun v s' => s'.heap.get? it = some (ciObj q t) ∧ ∃ y u, v = .str y u ∧ y ≠ Str.ofString "" ∧ Q (some v) s') (fun _ _ => False) B F X9 N T hC hk (by omega) (by omega) fun n' tn' h' tk' hn F' N' => ?_) fun r s' hr => ?_
  · exact ⟨(N' _ mi).1, p.1, p.2, rfl, hne, h n' tn' h' tk' hn F' N'⟩
  · rcases r with e | fl
    · exact hr
    · cases fl <;> exact hr
theorem mem_rev {α : Type} {z p : α} {l : List α} (h : z ∈ l.reverse ++ [p]) : z ∈ p :: l := by
  rcases List.mem_append.mp h with h | h
  · exact List.mem_cons_of_mem _ (List.mem_reverse.mp h)
  · rw [List.mem_singleton.mp h]; exact List.mem_cons_self
theorem len_rev {α : Type} {p : α} {l : List α} : (l.reverse ++ [p]).length = (p :: l).length := by simp
theorem frame_eq {m : Str → Option Value} {a b c : Value} (h1 : m (Str.ofString "token") = some a) (h2 : m (Str.ofString "fiter") = some b) (h3 : m (Str.ofString "self") = some c) :
    m = fun y => if y = Str.ofString "token" then some a else if y = Str.ofString "fiter" then some b else if y = Str.ofString "self" then some c else m y := by
  funext y
  split
  · rename_i e; rw [e]; exact h1
  · split
    · rename_i e; rw [e]; exact h2
    · split
      · rename_i e; rw [e]; exact h3
      · rfl
theorem inner_ (w : World) (X : Lexr) (S : Strm) (nw0 news : List (Addr × Obj)) (hS : S.Ok nw0) (hX : X.Ok S) (it q : Addr) (t : Tok) (n1 : ∀ p ∈ itNews it q t X.x news, p.1 ≠ S.sl) (n2 : ∀ p ∈ itNews it q t X.x news, p.1 ≠ X.dx)
    (loose : List Str) (mean : ExcName → Option Value) (mg mb : Str → Option Value) (dp un : Nat) (gd : Option (List Code)) (cn : Str) (cs : Scope) (a : Addr) (ccd : Value) (cl : List (Str × Addr)) (outer : List Env) (A₀ : Around) (base g : Heap)
    (B : Below A₀ base outer g) (X9 : (K w.params).In g) (T : Top topProg loose mean mg mb g) (hC : CodeHd base 182 178) (hk : cs.kind = .function) (hd : dp + 9 < recursionLimit) (hu : un + 140 < cLine)
    (rest : List (Str × Tok)) (dq : Str × Tok) (hdq : dq.1 = Str.ofString "\"") (n : Int) (Rv : Str → Result → Shared → Prop) (L' : Addr) :
    ∀ (r : List (Str × Tok)), (∀ p ∈ r, p.1 ≠ Str.ofString "\"" ∧ p.1 ≠ Str.ofString "\\" ∧ p.1 ≠ Str.ofString "\n" ∧ p.1.length = 1) → (∀ p ∈ r ++ dq :: rest, PyData.strOk p.1 = true) → (r ++ dq :: rest).length ≤ 90000 →
    ∀ (tok : Str) (ut : Tok) (tn : Tok) (cc : Nat) (m : Str → Option Value) (s : Shared), tok.length + r.length ≤ 300 →
    m (Str.ofString "token") = some (.str tok ut) → m (Str.ofString "fiter") = some (.ref it) → m (Str.ofString "self") = some (.ref X.x) →
    Fr g L' s.heap m → News g L' s.heap (X.own w S.st n tn ++ (S.own w (r ++ dq :: rest).reverse cc ++ (S.codes ++ itNews it q t X.x news))) →
    (∀ (u tn' : Tok) (cc' : Nat) (m' : Str → Option Value) (h' : Heap) (tk' : Nat), Fr g L' h' m' → News g L' h' (X.own w S.st n tn' ++ (S.own w rest.reverse cc' ++ (S.codes ++ itNews it q t X.x news))) →
      Rv (cat tok r) (.ok (.ret (.str (cat tok r) u))) { s with heap := h', toks := tk' }) →
    codeAny (model PySem.Challenge.rw_tr0056_01.row.prog w) (ktrTop dp un gd (Str.ofString "_netrclex.get_token") (defS (stIn 7 2)) L' 93 (.ref 92) [] outer) (.forLoop (.Name (Str.ofString "ch") innerP) (.ref it) innerB [] (tokEnv L')) (Rv (cat tok r)) s := by
  k_fill
  have e1 := (rfl : innerB = innerB); conv at e1 => rhs; whnf
  have e2 := (rfl : defS (stIn 7 2) = defS (stIn 7 2)); conv at e2 => rhs; whnf
  have e3 := (rfl : innerP = innerP); conv at e3 => rhs; whnf
  intro r
  unfold tokEnv
  rw [e1, e2, e3]
  clear e1 e2 e3
  induction r with
  | nil =>
    intro _ hok hlen tok ut tn cc m s htl h1 h2 h3 F N hR
    refine code_turn ?_
    rw [List.nil_append, List.reverse_cons] at N
    refine lex_next w X S nw0 news hS hX it q t n1 n2 loose mean mg mb dp un gd _ _ _ _ [] outer A₀ base g B X9 T hC rfl hd hu F N (by rw [hdq]; rfl) ?_ ?_ ?_
    · exact fun z hz => hok z (mem_rev hz)
    · rw [len_rev]; exact Nat.le_trans hlen (by decide)
    intro n' tn' h' tk' hn F' N'
    rw [hdq, if_neg (by decide)] at hn
    subst hn
    dsimp only
    rw [hdq]
    rw [frame_eq h1 h2 h3] at F'
    simp only [List.cons_append, List.nil_append] at N'
    k_steps
    exact hR _ _ _ _ _ _ (by assumption) (by assumption)
  | cons p r ih =>
    intro hr hok hlen tok ut tn cc m s htl h1 h2 h3 F N hR
    obtain ⟨p1, p2, p3, p4⟩ := hr p List.mem_cons_self
    refine code_turn ?_
    rw [show (p :: r ++ dq :: rest).reverse = (r ++ dq :: rest).reverse ++ [p] from by rw [List.cons_append, List.reverse_cons]] at N
    refine lex_next w X S nw0 news hS hX it q t n1 n2 loose mean mg mb dp un gd _ _ _ _ [] outer A₀ base g B X9 T hC rfl hd hu F N p4 ?_ ?_ ?_
    · exact fun z hz => hok z (mem_rev hz)
    · rw [len_rev]; exact Nat.le_trans hlen (by decide)
    intro n' tn' h' tk' hn F' N'
    rw [if_neg (by simpa using p3)] at hn
    subst hn
    dsimp only
    rw [frame_eq h1 h2 h3] at F'
    simp only [List.cons_append, List.nil_append] at N'
    simp only [List.length_cons] at htl
    have hp4 : p.1.length ≤ 1 := by omega
    have htl0 : tok.length ≤ 300 := by omega
    k_steps
    · rename (p.1 == _) = true => hb
      exact absurd (by simpa using hb) p1
    · rename (p.1 == _) = true => hb
      exact absurd (by simpa using hb) p2
    · refine' ih (fun z hz => hr z (List.mem_cons_of_mem _ hz)) (fun z hz => hok z (List.mem_cons_of_mem _ hz)) ?ln (tok ++ p.1) _ _ _ _ _ ?len ?m1 ?m2 ?m3 ?fF ?fN ?hR
      case fF => assumption
      case fN => assumption
      case hR => exact hR
      case ln => simp only [List.cons_append, List.length_cons] at hlen; omega
      case len => rw [PySem.Str.length_append]; omega
      case m1 => exact rfl
      case m2 => exact rfl
      case m3 => exact rfl
end

section

set_option maxHeartbeats 8000000
theorem lex_end (w : World) (X : Lexr) (S : Strm) (nw0 news : List (Addr × Obj)) (hS : S.Ok nw0) (hX : X.Ok S) (it q : Addr) (t : Tok) (n1 : ∀ p ∈ itNews it q t X.x news, p.1 ≠ S.sl) (n2 : ∀ p ∈ itNews it q t X.x news, p.1 ≠ X.dx)
    (loose : List Str) (mean : ExcName → Option Value) (mg mb : Str → Option Value) (dp un : Nat) (gd : Option (List Code)) (cn : Str) (cs : Scope) (a : Addr) (ccd : Value) (cl : List (Str × Addr)) (outer : List Env) (A₀ : Around) (base g : Heap)
    (B : Below A₀ base outer g) (X9 : (K w.params).In g) (T : Top topProg loose mean mg mb g) (hC : CodeHd base 182 178) (hk : cs.kind = .function) (hd : dp + 9 < recursionLimit) (hu : un + 140 < cLine) {n : Int} {tn : Tok} {cc : Nat} {m : Str → Option Value} {L' : Addr} {s : Shared} {Q : Option Value → Shared → Prop} {E : Value → Shared → Prop}
    (F : Fr g L' s.heap m) (N : News g L' s.heap (X.own w S.st n tn ++ (S.own w [] cc ++ (S.codes ++ itNews it q t X.x news)))) (o1 : it ∉ (X.own w S.st n tn ++ (S.own w [] cc ++ (S.codes ++ news))).map (·.1)) (hqi : q ≠ it)
    (h : ∀ (h' : Heap) (tk' : Nat), Fr g L' h' m → News g L' h' (X.own w S.st n tn ++ (S.own w [] cc ++ (S.codes ++ news))) → Q none { s with heap := h', toks := tk' }) :
    wpAny (model PySem.Challenge.rw_tr0056_01.row.prog w) (ktrTop dp un gd cn cs L' a ccd cl outer) (pyNext (.ref it)) Q E s := by
  have mi : (it, ciObj q t) ∈ (X.own w S.st n tn ++ (S.own w [] cc ++ (S.codes ++ itNews it q t X.x news))) := by simp [itNews]
  have mq : (q, methodObj (.ref 86) (.ref X.x)) ∈ (X.own w S.st n tn ++ (S.own w [] cc ++ (S.codes ++ itNews it q t X.x news))) := by simp [itNews]
  have hlk : (K w.params).lookup 86 = some (o86 w.params) := by kernel_rfl
  have h86 : g.get? 86 = some (o86 w.params) := X9 _ _ hlk
  have hfi : 86 ≠ it := fun e => by have := (N _ mi).2.2; rw [← e, h86] at this; cases this
  refine ci_end rfl (N _ mi).1 (N _ mq).1 (F.keep _ _ h86) rfl ⟨hqi, hfi⟩ ?_
  refine codeAny_mono (read_none_ w X S cc n tn nw0 (itNews it q t X.x news) hS hX n1 n2 loose mean mg mb dp (un + 1) gd cn cs a ccd cl outer A₀ base g L' m s
    (fun v s' => ∃ u, v = .str (Str.ofString "") u ∧ s'.heap.get? it = some (ciObj q t) ∧ s'.heap.get? q = some (methodObj (.ref 86) (.ref X.x)) ∧ s'.heap.get? 86 = some (o86 w.params) ∧
      (∀ h₂ : Heap, h₂.get? it = some ciDone → (∀ b o, b ≠ it → s'.heap.get? b = some o → h₂.get? b = some o) → Q none { s' with heap := h₂ })) (fun _ _ => False) B F X9 N T hC hk (by omega) (by omega) fun tt h' tk' F' N' => ?_) fun r s' hr => ?_
  · refine ⟨tt, rfl, (N' _ mi).1, (N' _ mq).1, F'.keep _ _ h86, fun h₂ e2 hk2 => h h₂ tk' ⟨F'.ns.at' fun o e => hk2 _ _ (Ne.symm (N' _ mi).2.1) e, fun b o e => hk2 b o (fun z => by have := (N' _ mi).2.2; rw [← z, e] at this; cases this) (F'.keep b o e), F'.above⟩ fun p hp => ?_⟩
    have z := N' p (by
      rcases List.mem_append.mp hp with z | z
      · exact List.mem_append_left _ z
      · rcases List.mem_append.mp z with z | z
        · exact List.mem_append_right _ (List.mem_append_left _ z)
        · rcases List.mem_append.mp z with z | z
          · exact List.mem_append_right _ (List.mem_append_right _ (List.mem_append_left _ z))
          · exact List.mem_append_right _ (List.mem_append_right _ (List.mem_append_right _ (.tail _ (.tail _ z)))))
    exact ⟨hk2 _ _ (fun e => o1 (e ▸ List.mem_map_of_mem hp)) z.1, z.2⟩
  · rcases r with e | fl
    · exact hr.elim
    · cases fl with
      | ret v => obtain ⟨u, rfl, z⟩ := hr; exact ⟨u, rfl, z⟩
      | _ => exact hr.elim
end

section

set_option maxHeartbeats 8000000
theorem ne_of_allLt5 {d : Addr} {l : List (Addr × Obj)} (h : AllLt d l) : ∀ p ∈ l, p.1 ≠ d := fun p hp => Nat.ne_of_lt (ktn_ltOf h p hp)
theorem ne_above5 {b d : Addr} {l : List (Addr × Obj)} (h : ∀ p ∈ l, p.1 < b) (hd : @LE.le Nat _ b d) : ∀ p ∈ l, p.1 ≠ d := fun p hp => Nat.ne_of_lt (Nat.lt_of_lt_of_le (h p hp) hd)
local macro_rules | `(tactic| k_all) => `(tactic| first | assumption | exact ne_above5 (by assumption) (by first | omega | (try dsimp only); omega))
theorem outer_row (w : World) (X : Lexr) (S : Strm) (nw0 news : List (Addr × Obj)) (hS : S.Ok nw0) (hX : X.Ok S) (it q : Addr) (t : Tok) (n1 : ∀ p ∈ itNews it q t X.x news, p.1 ≠ S.sl) (n2 : ∀ p ∈ itNews it q t X.x news, p.1 ≠ X.dx)
    (loose : List Str) (mean : ExcName → Option Value) (mg mb : Str → Option Value) (dp un : Nat) (gd : Option (List Code)) (cn : Str) (cs : Scope) (a : Addr) (ccd : Value) (cl : List (Str × Addr)) (outer : List Env) (A₀ : Around) (base g : Heap)
    (B : Below A₀ base outer g) (X9 : (K w.params).In g) (T : Top topProg loose mean mg mb g) (hC : CodeHd base 182 178) (hk : cs.kind = .function) (hd : dp + 9 < recursionLimit) (hu : un + 140 < cLine)
    (rest : List (Str × Tok)) (dq dq2 : Str × Tok) (hdq : dq.1 = Str.ofString "\"") (hdq2 : dq2.1 = Str.ofString "\"") (n : Int) (R : Result → Shared → Prop) (L' : Addr) 
    (r : List (Str × Tok)) (hr : ∀ p ∈ r, p.1 ≠ Str.ofString "\"" ∧ p.1 ≠ Str.ofString "\\" ∧ p.1 ≠ Str.ofString "\n" ∧ p.1.length = 1) (hok : ∀ p ∈ dq :: (r ++ dq2 :: rest), PyData.strOk p.1 = true) (hlen : (r ++ dq2 :: rest).length ≤ 90000)
    (ut : Tok) (tn : Tok) (cc : Nat) (m : Str → Option Value) (s : Shared) (hrl : r.length ≤ 300)
    (h1 : m (Str.ofString "token") = some (.str (Str.ofString "") ut)) (h2 : m (Str.ofString "fiter") = some (.ref it)) (h3 : m (Str.ofString "self") = some (.ref X.x))
    (F : Fr g L' s.heap m) (N : News g L' s.heap (X.own w S.st n tn ++ (S.own w (dq :: (r ++ dq2 :: rest)).reverse cc ++ (S.codes ++ itNews it q t X.x news))))
    (hR : ∀ (u tn' : Tok) (cc' : Nat) (m' : Str → Option Value) (h' : Heap) (tk' : Nat), Fr g L' h' m' → News g L' h' (X.own w S.st n tn' ++ (S.own w rest.reverse cc' ++ (S.codes ++ itNews it q t X.x news))) →
      R (.ok (.ret (.str (cat (Str.ofString "") r) u))) { s with heap := h', toks := tk' }) :
    codeAny (model PySem.Challenge.rw_tr0056_01.row.prog w) (ktrTop dp un gd (Str.ofString "_netrclex.get_token") (defS (stIn 7 2)) L' 93 (.ref 92) [] outer) (.forLoop (.Name (Str.ofString "ch") outerP) (.ref it) outerB [] (tokEnv L')) R s := by
  have inn := inner_ w X S nw0 news hS hX it q t n1 n2 loose mean mg mb dp un gd cn cs a ccd cl outer A₀ base g B X9 T hC hk hd hu rest dq2 hdq2 n
  have e1 := (rfl : outerB = outerB); conv at e1 => rhs; whnf
  have e2 := (rfl : defS (stIn 7 2) = defS (stIn 7 2)); conv at e2 => rhs; whnf
  have e3 := (rfl : outerP = outerP); conv at e3 => rhs; whnf
  have e4 := (rfl : innerB = innerB); conv at e4 => rhs; whnf
  have e5 := (rfl : innerP = innerP); conv at e5 => rhs; whnf
  revert N X9
  k_fill
  intro X9 N
  unfold tokEnv at inn ⊢
  rw [e1, e2, e3]
  rw [e2, e4, e5] at inn
  clear e1 e2 e3 e4 e5
  refine code_turn ?_
  rw [List.reverse_cons] at N
  refine lex_next w X S nw0 news hS hX it q t n1 n2 loose mean mg mb dp un gd _ _ _ _ [] outer A₀ base g B X9 T hC rfl hd hu F N (by rw [hdq]; rfl) ?_ ?_ ?_
  · exact fun z hz => hok z (mem_rev hz)
  · rw [len_rev]; simp only [List.length_cons]; omega
  intro n' tn' h' tk' hn F' N'
  rw [hdq, if_neg (by decide)] at hn
  subst hn
  dsimp only
  rw [hdq]
  rw [frame_eq h1 h2 h3] at F'
  simp only [List.cons_append, List.nil_append] at N'
  k_steps
  · refine For_any (fun _ => rfl) ?_
    k_steps
    refine ci_iter (News.get (by assumption) (by k_mem)) ?_
    refine codeAny_mono (inn (fun c res s₃ => ∃ u tn' cc' m' h' tk', res = .ok (.ret (.str c u)) ∧ Fr g L' h' m' ∧ News g L' h' (X.own w S.st n' tn' ++ (S.own w rest.reverse cc' ++ (S.codes ++ itNews it q t X.x news))) ∧ s₃ = { s with heap := h', toks := tk' })
      L' r hr (fun z hz => hok z (List.mem_cons_of_mem _ hz)) hlen (Str.ofString "") ut tn' (cc + 1) _ _ (by show 0 + r.length ≤ 300; omega) ?m1 ?m2 ?m3 (by assumption) (by assumption) (fun u tn' cc' m' h' tk' F N => ⟨u, tn', cc', m', h', tk', rfl, F, N, rfl⟩)) fun res s₃ hres => ?_
    case m1 => exact rfl
    case m2 => exact rfl
    case m3 => exact rfl
    obtain ⟨u, tn', cc', m', h', tk', rfl, F5, N5, rfl⟩ := hres
    exact hR u tn' cc' m' h' tk' F5 N5
  · rename List.isEmpty _ = false => hb
    exact absurd hb (by decide +kernel)
theorem outer_nl (w : World) (X : Lexr) (S : Strm) (nw0 news : List (Addr × Obj)) (hS : S.Ok nw0) (hX : X.Ok S) (it q : Addr) (t : Tok) (n1 : ∀ p ∈ itNews it q t X.x news, p.1 ≠ S.sl) (n2 : ∀ p ∈ itNews it q t X.x news, p.1 ≠ X.dx)
    (loose : List Str) (mean : ExcName → Option Value) (mg mb : Str → Option Value) (dp un : Nat) (gd : Option (List Code)) (cn : Str) (cs : Scope) (a : Addr) (ccd : Value) (cl : List (Str × Addr)) (outer : List Env) (A₀ : Around) (base g : Heap)
    (B : Below A₀ base outer g) (X9 : (K w.params).In g) (T : Top topProg loose mean mg mb g) (hC : CodeHd base 182 178) (hk : cs.kind = .function) (hd : dp + 9 < recursionLimit) (hu : un + 140 < cLine)
    (us : List (Str × Tok)) (nl : Str × Tok) (hnl : nl.1 = Str.ofString "\n") (n : Int) (R : Result → Shared → Prop) (L' : Addr) (hok : ∀ p ∈ nl :: us, PyData.strOk p.1 = true) (hlen : us.length ≤ 90000)
    (ut : Tok) (tn : Tok) (cc : Nat) (m : Str → Option Value) (s : Shared)
    (h1 : m (Str.ofString "token") = some (.str (Str.ofString "") ut)) (h2 : m (Str.ofString "fiter") = some (.ref it)) (h3 : m (Str.ofString "self") = some (.ref X.x))
    (F : Fr g L' s.heap m) (N : News g L' s.heap (X.own w S.st n tn ++ (S.own w (nl :: us).reverse cc ++ (S.codes ++ itNews it q t X.x news))))
    (hN : ∀ (tn' : Tok) (cc' : Nat) (m' : Str → Option Value) (h' : Heap) (tk' : Nat), m' (Str.ofString "token") = some (.str (Str.ofString "") ut) → m' (Str.ofString "fiter") = some (.ref it) → m' (Str.ofString "self") = some (.ref X.x) →
      Fr g L' h' m' → News g L' h' (X.own w S.st (n + 1) tn' ++ (S.own w us.reverse cc' ++ (S.codes ++ itNews it q t X.x news))) →
      codeAny (model PySem.Challenge.rw_tr0056_01.row.prog w) (ktrTop dp un gd (Str.ofString "_netrclex.get_token") (defS (stIn 7 2)) L' 93 (.ref 92) [] outer) (.forLoop (.Name (Str.ofString "ch") outerP) (.ref it) outerB [] (tokEnv L')) R { s with heap := h', toks := tk' }) :
    codeAny (model PySem.Challenge.rw_tr0056_01.row.prog w) (ktrTop dp un gd (Str.ofString "_netrclex.get_token") (defS (stIn 7 2)) L' 93 (.ref 92) [] outer) (.forLoop (.Name (Str.ofString "ch") outerP) (.ref it) outerB [] (tokEnv L')) R s := by
  have e1 := (rfl : outerB = outerB); conv at e1 => rhs; whnf
  have e2 := (rfl : defS (stIn 7 2) = defS (stIn 7 2)); conv at e2 => rhs; whnf
  have e3 := (rfl : outerP = outerP); conv at e3 => rhs; whnf
  revert N X9
  k_fill
  intro X9 N
  unfold tokEnv at hN ⊢
  rw [e1, e2, e3] at hN ⊢
  clear e1 e2 e3
  refine code_turn ?_
  rw [List.reverse_cons] at N
  refine lex_next w X S nw0 news hS hX it q t n1 n2 loose mean mg mb dp un gd _ _ _ _ [] outer A₀ base g B X9 T hC rfl hd hu F N (by rw [hnl]; rfl) ?_ ?_ ?_
  · exact fun z hz => hok z (mem_rev hz)
  · rw [len_rev]; simp only [List.length_cons]; omega
  intro n' tn' h' tk' hn F' N'
  rw [hnl, if_pos (by decide)] at hn
  subst hn
  dsimp only
  rw [hnl]
  rw [frame_eq h1 h2 h3] at F'
  simp only [List.cons_append, List.nil_append] at N'
  k_steps
  · rename List.isEmpty _ = true => hb
    exact absurd hb (by decide +kernel)
  · refine hN tn' (cc + 1) _ _ _ ?m1 ?m2 ?m3 (by assumption) (by assumption)
    case m1 => exact rfl
    case m2 => exact rfl
    case m3 => exact rfl
end

section

set_option maxHeartbeats 8000000
theorem ne_of_allLt6 {d : Addr} {l : List (Addr × Obj)} (h : AllLt d l) : ∀ p ∈ l, p.1 ≠ d := fun p hp => Nat.ne_of_lt (ktn_ltOf h p hp)
theorem ne_above6 {b d : Addr} {l : List (Addr × Obj)} (h : ∀ p ∈ l, p.1 < b) (hd : @LE.le Nat _ b d) : ∀ p ∈ l, p.1 ≠ d := fun p hp => Nat.ne_of_lt (Nat.lt_of_lt_of_le (h p hp) hd)
local macro_rules | `(tactic| k_all) => `(tactic| first | assumption | exact ne_above6 (by assumption) (by first | omega | (try dsimp only); omega))
local macro_rules | `(tactic| walk1) => `(tactic| ((with_reducible show wpAny _ _ (call (Value.builtin "iter") [Value.ref _, Value.str _ _]) _ _ _); k_dflt (refine' iter2_ ?F ?N ?mq ?_; (case F => k_asm); (case N => k_asm); (case mq => k_mem)); (intro it9 h9 F9 N9 l9); (try k_lt l9); (try dsimp only); (try k_fold); walk_say "ITER2"))
noncomputable def RowPost (w : World) (X : Lexr) (S : Strm) (g : Heap) (L' it q : Addr) (t : Tok) (news : List (Addr × Obj)) (n : Int) (rest : List (Str × Tok)) (val : Str) (s : Shared) (res : Result) (s₃ : Shared) : Prop :=
  ∃ u tn' cc' m' h' tk', res = .ok (.ret (.str val u)) ∧ Fr g L' h' m' ∧ News g L' h' (X.own w S.st n tn' ++ (S.own w rest.reverse cc' ++ (S.codes ++ itNews it q t X.x news))) ∧ s₃ = { s with heap := h', toks := tk' }
theorem it_ne {it q x sl : Addr} {t : Tok} {news : List (Addr × Obj)} (h1 : @LT.lt Nat _ sl it) (h2 : @LT.lt Nat _ sl q) (h : ∀ p ∈ news, p.1 ≠ sl) : ∀ p ∈ itNews it q t x news, p.1 ≠ sl := fun p hp => by
  rcases List.mem_cons.mp hp with rfl | hp
  · exact Nat.ne_of_gt h1
  · rcases List.mem_cons.mp hp with rfl | hp
    · exact Nat.ne_of_gt h2
    · exact h p hp
theorem it_in {w : World} {X : Lexr} {S : Strm} {g h : Heap} {L it q : Addr} {t : Tok} {news : List (Addr × Obj)} {n : Int} {tn : Tok} {l : List (Str × Tok)} {cc : Nat}
    (N : News g L h ((it, ciObj q t) :: (q, methodObj (.ref 86) (.ref X.x)) :: (X.own w S.st n tn ++ (S.own w l cc ++ (S.codes ++ news))))) : News g L h (X.own w S.st n tn ++ (S.own w l cc ++ (S.codes ++ itNews it q t X.x news))) := cb_drop N fun p hp => by
  simp only [List.mem_append, List.mem_cons, List.not_mem_nil, or_false, itNews] at hp ⊢
  rcases hp with (h | h | h) | (h | h | h | h | h) | (h | h) | h | h | h <;> simp [h]
theorem it_out {w : World} {X : Lexr} {S : Strm} {g h : Heap} {L it q : Addr} {t : Tok} {news : List (Addr × Obj)} {n : Int} {tn : Tok} {l : List (Str × Tok)} {cc : Nat}
    (N : News g L h (X.own w S.st n tn ++ (S.own w l cc ++ (S.codes ++ itNews it q t X.x news)))) : News g L h (X.own w S.st n tn ++ (S.own w l cc ++ (S.codes ++ news))) := cb_drop N fun p hp => by
  simp only [List.mem_append, List.mem_cons, List.not_mem_nil, or_false, itNews] at hp ⊢
  rcases hp with (h | h | h) | (h | h | h | h | h) | (h | h) | h <;> simp [h]
theorem gettok0_ (w : World) (X : Lexr) (S : Strm) (cc : Nat) (n : Int) (tn : Tok) (nw0 news : List (Addr × Obj)) (hS : S.Ok nw0) (hX : X.Ok S) (n1 : ∀ p ∈ news, p.1 ≠ S.sl) (n2 : ∀ p ∈ news, p.1 ≠ X.dx) (rest r : List (Str × Tok)) (dq dq2 : Str × Tok) (hdq : dq.1 = Str.ofString "\"") (hdq2 : dq2.1 = Str.ofString "\"")
    (hr : ∀ p ∈ r, p.1 ≠ Str.ofString "\"" ∧ p.1 ≠ Str.ofString "\\" ∧ p.1 ≠ Str.ofString "\n" ∧ p.1.length = 1) (hok : ∀ p ∈ dq :: (r ++ dq2 :: rest), PyData.strOk p.1 = true) (hlen : (r ++ dq2 :: rest).length ≤ 80000) (hrl : r.length ≤ 300) : ∀ (loose : List Str) (mean : ExcName → Option Value) (mg mb : Str → Option Value) (dp un : Nat) (gd : Option (List Code)) (cn : Str) (cs : Scope) (a : Addr) (ccd : Value) (cl : List (Str × Addr)) (outer : List Env) (A₀ : Around) (base h₀ : Heap) (L : Addr) (m : Str → Option Value) (s : Shared) (Q E : Value → Shared → Prop),
    Below A₀ base outer h₀ → Fr h₀ L s.heap m → (K w.params).In h₀ → News h₀ L s.heap (X.own w S.st n tn ++ (S.own w (dq :: (r ++ dq2 :: rest)).reverse cc ++ (S.codes ++ news))) → Top topProg loose mean mg mb h₀ → CodeHd base 182 178 → cs.kind = .function → dp + 12 < recursionLimit → un + 150 < cLine →
    (∀ (u tn' : Tok) (cc' : Nat) (h' : Heap) (tk' : Nat), Fr h₀ L h' m → News h₀ L h' (X.own w S.st (n) tn' ++ (S.own w (rest).reverse cc' ++ (S.codes ++ news))) → Q (.str (cat (Str.ofString "") r) u) { s with heap := h', toks := tk' }) →
    wpAny (model PySem.Challenge.rw_tr0056_01.row.prog w) (ktrTop dp un gd cn cs L a ccd cl outer) (call (.ref 93) [.ref X.x]) Q E s := by
  have rowT := outer_row w X S nw0
  have nlT := outer_nl w X S nw0
  have endT := lex_end w X S nw0
  have e1 := (rfl : outerB = outerB); conv at e1 => rhs; whnf
  have e2 := (rfl : defS (stIn 7 2) = defS (stIn 7 2)); conv at e2 => rhs; whnf
  have e3 := (rfl : outerP = outerP); conv at e3 => rhs; whnf
  unfold tokEnv at rowT nlT
  rw [e1, e2, e3] at rowT nlT
  clear e1 e2 e3
  k_fill
  intro loose mean mg mb dp un gd cn cs a ccd cl outer A₀ base h₀ L m s Q E B F X9 N T hC hk hd hu hret
  have hlk : (K w.params).lookup 93 = some (o93 w.params) := by kernel_rfl
  have eP := (rfl : defP (stIn 7 2) = defP (stIn 7 2)); conv at eP => rhs; whnf
  have eB := (rfl : defB (stIn 7 2) = defB (stIn 7 2)); conv at eB => rhs; whnf
  have eS := (rfl : defS (stIn 7 2) = defS (stIn 7 2)); conv at eS => rhs; whnf
  unfold o93 at hlk
  rw [eP, eB, eS] at hlk
  clear eP eB eS
  simp only [List.cons_append, List.nil_append] at N
  obtain ⟨hcell, ⟨vsC, tC, hvC, hv1C⟩, a0, a1, a2, a3, a4, a5, a6, a7, old⟩ := id hS
  obtain ⟨b0, b1, b2⟩ := id hX
  refine wpAny_call ?_
  k_dflt cell_enter
  clear hlk
  k_steps
  refine For_any (fun _ => rfl) ?_
  k_steps
  refine ci_iter (News.get (by assumption) (by k_mem)) ?_
  refine' codeAny_mono (rowT news hS hX _ _ _ ?q1 ?q2 loose mean mg mb (dp + 1) (un + 3) gd cn cs a ccd cl (envX cn cs L a ccd cl :: outer) (ktrTop dp un gd cn cs L a ccd cl outer) base _ ?bB ?bX ?bT hC hk (by omega) (by omega) rest dq dq2 hdq hdq2 n (RowPost w X S _ _ _ _ _ news n rest (cat (Str.ofString "") r) s) _ r hr hok (by omega) _ tn cc _ _ hrl ?m1 ?m2 ?m3 ?fF ?fN
    (fun u tn' cc' m' h' tk' F N => ⟨u, tn', cc', m', h', tk', rfl, F, N, rfl⟩)) ?fin
  case bB => assumption
  case bX => assumption
  case bT => assumption
  case fF => assumption
  case fN => exact it_in (by assumption)
  case m1 => exact rfl
  case m2 => exact rfl
  case m3 => exact rfl
  case q1 => exact it_ne (by omega) (by omega) n1
  case q2 => exact it_ne (by omega) (by omega) n2
  intro res s₃ hres
  obtain ⟨u, tn', cc', m', h', tk', rfl, F5, N5, rfl⟩ := hres
  have N6 := it_out N5
  k_steps
  exact hret _ _ _ _ _ (by assumption) (by assumption)
end

section

set_option maxHeartbeats 8000000
theorem ne_of_allLt7 {d : Addr} {l : List (Addr × Obj)} (h : AllLt d l) : ∀ p ∈ l, p.1 ≠ d := fun p hp => Nat.ne_of_lt (ktn_ltOf h p hp)
theorem ne_above7 {b d : Addr} {l : List (Addr × Obj)} (h : ∀ p ∈ l, p.1 < b) (hd : @LE.le Nat _ b d) : ∀ p ∈ l, p.1 ≠ d := fun p hp => Nat.ne_of_lt (Nat.lt_of_lt_of_le (h p hp) hd)
local macro_rules | `(tactic| k_all) => `(tactic| first | assumption | exact ne_above7 (by assumption) (by first | omega | (try dsimp only); omega))
local macro_rules | `(tactic| walk1) => `(tactic| ((with_reducible show wpAny _ _ (call (Value.builtin "iter") [Value.ref _, Value.str _ _]) _ _ _); k_dflt (refine' iter2_ ?F ?N ?mq ?_; (case F => k_asm); (case N => k_asm); (case mq => k_mem)); (intro it9 h9 F9 N9 l9); (have l9r := l9); (try k_lt l9); (try dsimp only); (try k_fold); walk_say "ITER2"))
theorem frame_eq1 {m : Str → Option Value} {a : Value} (h1 : m (Str.ofString "token") = some a) : m = fun y => if y = Str.ofString "token" then some a else m y := by
  funext y
  split
  · rename_i e; rw [e]; exact h1
  · rfl
noncomputable def EndPost (w : World) (X : Lexr) (S : Strm) (g : Heap) (L' : Addr) (news : List (Addr × Obj)) (n : Int) (s : Shared) (res : Result) (s₃ : Shared) : Prop :=
  ∃ u tn' cc' m' h' tk', res = .ok .next ∧ m' (Str.ofString "token") = some (.str (Str.ofString "") u) ∧ Fr g L' h' m' ∧ News g L' h' (X.own w S.st n tn' ++ (S.own w [] cc' ++ (S.codes ++ news))) ∧ s₃ = { s with heap := h', toks := tk' }
theorem it_fresh {w : World} {X : Lexr} {S : Strm} {it q : Addr} {oq : Obj} {news : List (Addr × Obj)} {n n' : Int} {tn tn' : Tok} {l l' : List (Str × Tok)} {cc cc' : Nat}
    (h : ∀ p ∈ ((q, oq) :: (X.own w S.st n tn ++ (S.own w l cc ++ (S.codes ++ news)))), p.1 < it) : it ∉ (X.own w S.st n' tn' ++ (S.own w l' cc' ++ (S.codes ++ news))).map (·.1) := by
  have key : ∀ a ∈ (X.own w S.st n tn ++ (S.own w l cc ++ (S.codes ++ news))).map (·.1), a < it := fun a ha => by
    obtain ⟨p, hp, rfl⟩ := List.mem_map.mp ha
    exact h p (List.mem_cons_of_mem _ hp)
  have same : (X.own w S.st n' tn' ++ (S.own w l' cc' ++ (S.codes ++ news))).map (·.1) = (X.own w S.st n tn ++ (S.own w l cc ++ (S.codes ++ news))).map (·.1) := by simp
  rw [same]
  exact fun hm => Nat.lt_irrefl _ (key _ hm)
theorem gettok1_ (w : World) (X : Lexr) (S : Strm) (cc : Nat) (n : Int) (tn : Tok) (nw0 news : List (Addr × Obj)) (hS : S.Ok nw0) (hX : X.Ok S) (n1 : ∀ p ∈ news, p.1 ≠ S.sl) (n2 : ∀ p ∈ news, p.1 ≠ X.dx) (rest r : List (Str × Tok)) (dq dq2 : Str × Tok) (nl : Str × Tok) (hnl : nl.1 = Str.ofString "\n") (hdq : dq.1 = Str.ofString "\"") (hdq2 : dq2.1 = Str.ofString "\"")
    (hr : ∀ p ∈ r, p.1 ≠ Str.ofString "\"" ∧ p.1 ≠ Str.ofString "\\" ∧ p.1 ≠ Str.ofString "\n" ∧ p.1.length = 1) (hok : ∀ p ∈ nl :: dq :: (r ++ dq2 :: rest), PyData.strOk p.1 = true) (hlen : (r ++ dq2 :: rest).length ≤ 80000) (hrl : r.length ≤ 300) : ∀ (loose : List Str) (mean : ExcName → Option Value) (mg mb : Str → Option Value) (dp un : Nat) (gd : Option (List Code)) (cn : Str) (cs : Scope) (a : Addr) (ccd : Value) (cl : List (Str × Addr)) (outer : List Env) (A₀ : Around) (base h₀ : Heap) (L : Addr) (m : Str → Option Value) (s : Shared) (Q E : Value → Shared → Prop),
    Below A₀ base outer h₀ → Fr h₀ L s.heap m → (K w.params).In h₀ → News h₀ L s.heap (X.own w S.st n tn ++ (S.own w (nl :: dq :: (r ++ dq2 :: rest)).reverse cc ++ (S.codes ++ news))) → Top topProg loose mean mg mb h₀ → CodeHd base 182 178 → cs.kind = .function → dp + 12 < recursionLimit → un + 150 < cLine →
    (∀ (u tn' : Tok) (cc' : Nat) (h' : Heap) (tk' : Nat), Fr h₀ L h' m → News h₀ L h' (X.own w S.st (n + 1) tn' ++ (S.own w (rest).reverse cc' ++ (S.codes ++ news))) → Q (.str (cat (Str.ofString "") r) u) { s with heap := h', toks := tk' }) →
    wpAny (model PySem.Challenge.rw_tr0056_01.row.prog w) (ktrTop dp un gd cn cs L a ccd cl outer) (call (.ref 93) [.ref X.x]) Q E s := by
  have rowT := outer_row w X S nw0
  have nlT := outer_nl w X S nw0
  have endT := lex_end w X S nw0
  have e1 := (rfl : outerB = outerB); conv at e1 => rhs; whnf
  have e2 := (rfl : defS (stIn 7 2) = defS (stIn 7 2)); conv at e2 => rhs; whnf
  have e3 := (rfl : outerP = outerP); conv at e3 => rhs; whnf
  unfold tokEnv at rowT nlT
  rw [e1, e2, e3] at rowT nlT
  clear e1 e2 e3
  k_fill
  intro loose mean mg mb dp un gd cn cs a ccd cl outer A₀ base h₀ L m s Q E B F X9 N T hC hk hd hu hret
  have hlk : (K w.params).lookup 93 = some (o93 w.params) := by kernel_rfl
  have eP := (rfl : defP (stIn 7 2) = defP (stIn 7 2)); conv at eP => rhs; whnf
  have eB := (rfl : defB (stIn 7 2) = defB (stIn 7 2)); conv at eB => rhs; whnf
  have eS := (rfl : defS (stIn 7 2) = defS (stIn 7 2)); conv at eS => rhs; whnf
  unfold o93 at hlk
  rw [eP, eB, eS] at hlk
  clear eP eB eS
  simp only [List.cons_append, List.nil_append] at N
  obtain ⟨hcell, ⟨vsC, tC, hvC, hv1C⟩, a0, a1, a2, a3, a4, a5, a6, a7, old⟩ := id hS
  obtain ⟨b0, b1, b2⟩ := id hX
  refine wpAny_call ?_
  k_dflt cell_enter
  clear hlk
  k_steps
  refine For_any (fun _ => rfl) ?_
  k_steps
  refine ci_iter (News.get (by assumption) (by k_mem)) ?_
  refine' codeAny_mono (nlT news hS hX _ _ _ ?q1 ?q2 loose mean mg mb (dp + 1) (un + 3) gd cn cs a ccd cl (envX cn cs L a ccd cl :: outer) (ktrTop dp un gd cn cs L a ccd cl outer) base _ ?bB ?bX ?bT hC hk (by omega) (by omega) (dq :: (r ++ dq2 :: rest)) nl hnl n (RowPost w X S _ _ _ _ _ news (n + 1) rest (cat (Str.ofString "") r) s) _ hok (by simp only [List.length_cons]; omega) _ tn cc _ _ ?m1 ?m2 ?m3 ?fF ?fN
    (fun tn1 cc1 m1 h1 tk1 g1 g2 g3 F1 N1 => rowT news hS hX _ _ _ ?q1 ?q2 loose mean mg mb (dp + 1) (un + 3) gd cn cs a ccd cl (envX cn cs L a ccd cl :: outer) (ktrTop dp un gd cn cs L a ccd cl outer) base _ ?bB ?bX ?bT hC hk (by omega) (by omega) rest dq dq2 hdq hdq2 (n + 1) (RowPost w X S _ _ _ _ _ news (n + 1) rest (cat (Str.ofString "") r) s) _ r hr (fun z hz => hok z (List.mem_cons_of_mem _ hz)) (by omega) _ tn1 cc1 m1 _ hrl g1 g2 g3 F1 N1
      (fun u tn' cc' m' h' tk' F N => ⟨u, tn', cc', m', h', tk', rfl, F, N, rfl⟩))) ?fin
  case bB => assumption
  case bX => assumption
  case bT => assumption
  case fF => assumption
  case fN => exact it_in (by assumption)
  case m1 => exact rfl
  case m2 => exact rfl
  case m3 => exact rfl
  case q1 => exact it_ne (by omega) (by omega) n1
  case q2 => exact it_ne (by omega) (by omega) n2
  intro res s₃ hres
  obtain ⟨u, tn', cc', m', h', tk', rfl, F5, N5, rfl⟩ := hres
  have N6 := it_out N5
  k_steps
  exact hret _ _ _ _ _ (by assumption) (by assumption)
theorem gettokE_ (w : World) (X : Lexr) (S : Strm) (cc : Nat) (n : Int) (tn : Tok) (nw0 news : List (Addr × Obj)) (hS : S.Ok nw0) (hX : X.Ok S) (n1 : ∀ p ∈ news, p.1 ≠ S.sl) (n2 : ∀ p ∈ news, p.1 ≠ X.dx) (nl : Str × Tok) (hnl : nl.1 = Str.ofString "\n") (hok : PyData.strOk nl.1 = true) : ∀ (loose : List Str) (mean : ExcName → Option Value) (mg mb : Str → Option Value) (dp un : Nat) (gd : Option (List Code)) (cn : Str) (cs : Scope) (a : Addr) (ccd : Value) (cl : List (Str × Addr)) (outer : List Env) (A₀ : Around) (base h₀ : Heap) (L : Addr) (m : Str → Option Value) (s : Shared) (Q E : Value → Shared → Prop),
    Below A₀ base outer h₀ → Fr h₀ L s.heap m → (K w.params).In h₀ → News h₀ L s.heap (X.own w S.st n tn ++ (S.own w ([nl]).reverse cc ++ (S.codes ++ news))) → Top topProg loose mean mg mb h₀ → CodeHd base 182 178 → cs.kind = .function → dp + 12 < recursionLimit → un + 150 < cLine →
    (∀ (u tn' : Tok) (cc' : Nat) (h' : Heap) (tk' : Nat), Fr h₀ L h' m → News h₀ L h' (X.own w S.st (n + 1) tn' ++ (S.own w ([]).reverse cc' ++ (S.codes ++ news))) → Q (.str (Str.ofString "") u) { s with heap := h', toks := tk' }) →
    wpAny (model PySem.Challenge.rw_tr0056_01.row.prog w) (ktrTop dp un gd cn cs L a ccd cl outer) (call (.ref 93) [.ref X.x]) Q E s := by
  have rowT := outer_row w X S nw0
  have nlT := outer_nl w X S nw0
  have endT := lex_end w X S nw0
  have e1 := (rfl : outerB = outerB); conv at e1 => rhs; whnf
  have e2 := (rfl : defS (stIn 7 2) = defS (stIn 7 2)); conv at e2 => rhs; whnf
  have e3 := (rfl : outerP = outerP); conv at e3 => rhs; whnf
  unfold tokEnv at rowT nlT
  rw [e1, e2, e3] at rowT nlT
  clear e1 e2 e3
  k_fill
  intro loose mean mg mb dp un gd cn cs a ccd cl outer A₀ base h₀ L m s Q E B F X9 N T hC hk hd hu hret
  have hlk : (K w.params).lookup 93 = some (o93 w.params) := by kernel_rfl
  have eP := (rfl : defP (stIn 7 2) = defP (stIn 7 2)); conv at eP => rhs; whnf
  have eB := (rfl : defB (stIn 7 2) = defB (stIn 7 2)); conv at eB => rhs; whnf
  have eS := (rfl : defS (stIn 7 2) = defS (stIn 7 2)); conv at eS => rhs; whnf
  unfold o93 at hlk
  rw [eP, eB, eS] at hlk
  clear eP eB eS
  simp only [List.cons_append, List.nil_append] at N
  obtain ⟨hcell, ⟨vsC, tC, hvC, hv1C⟩, a0, a1, a2, a3, a4, a5, a6, a7, old⟩ := id hS
  obtain ⟨b0, b1, b2⟩ := id hX
  refine wpAny_call ?_
  k_dflt cell_enter
  clear hlk
  k_steps
  refine For_any (fun _ => rfl) ?_
  k_steps
  refine ci_iter (News.get (by assumption) (by k_mem)) ?_
  rename ∀ p ∈ ((_, methodObj _ _) :: _), _ => l9r
  refine' codeAny_mono (nlT news hS hX _ _ _ ?q1 ?q2 loose mean mg mb (dp + 1) (un + 3) gd cn cs a ccd cl (envX cn cs L a ccd cl :: outer) (ktrTop dp un gd cn cs L a ccd cl outer) base _ ?bB ?bX ?bT hC hk (by omega) (by omega) [] nl hnl n (EndPost w X S _ _ news (n + 1) s) _ (fun z hz => by rw [List.mem_singleton.mp hz]; exact hok) (by simp) _ tn cc _ _ ?m1 ?m2 ?m3 ?fF ?fN
    (fun tn1 cc1 m1 h1 tk1 g1 g2 g3 F1 N1 => code_turn (endT news hS hX _ _ _ ?q1 ?q2 loose mean mg mb (dp + 1) (un + 3) gd _ _ _ _ [] (envX cn cs L a ccd cl :: outer) (ktrTop dp un gd cn cs L a ccd cl outer) base _ ?bB ?bX ?bT hC rfl (by omega) (by omega) F1 N1 (it_fresh l9r) ?hqi
      (fun h' tk' F N => ⟨_, tn1, cc1, m1, h', tk', rfl, g1, F, N, rfl⟩)))) ?fin
  case bB => assumption
  case bX => assumption
  case bT => assumption
  case fF => assumption
  case fN => exact it_in (by assumption)
  case m1 => exact rfl
  case m2 => exact rfl
  case m3 => exact rfl
  case q1 => exact it_ne (by omega) (by omega) n1
  case q2 => exact it_ne (by omega) (by omega) n2
  case hqi => exact Nat.ne_of_lt (by omega)
  intro res s₃ hres
  obtain ⟨u, tn', cc', m', h', tk', rfl, g1, F5, N5, rfl⟩ := hres
  rw [frame_eq1 g1] at F5
  k_steps
  exact hret _ _ _ _ _ (by assumption) (by assumption)
end

section
open PySem.Spec PyProof.V
noncomputable def incBd : Int → List (Int × Str) → Bool
  | _, [] => true
  | b, (k, _) :: r => decide (b < k) && decide (k < 200000) && incBd k r
theorem incBd_spec : ∀ {b : Int} {l : List (Int × Str)}, incBd b l = true → (∀ p ∈ l, b < p.1 ∧ p.1 < 200000) ∧ (l.map (·.1)).Nodup
  | _, [], _ => ⟨(fun _ h => (nomatch h)), List.Pairwise.nil⟩
  | b, (k, x) :: r, h => by
    simp only [incBd, Bool.and_eq_true, decide_eq_true_eq] at h
    obtain ⟨⟨h1, h2⟩, h3⟩ := h
    obtain ⟨i1, i2⟩ := incBd_spec h3
    refine ⟨fun p hp => ?_, ?_⟩
    · rcases List.mem_cons.mp hp with rfl | hp
      · exact ⟨h1, h2⟩
      · exact ⟨Int.lt_trans h1 (i1 p hp).1, (i1 p hp).2⟩
    · rw [List.map_cons]
      refine List.nodup_cons.mpr ⟨fun hm => ?_, i2⟩
      obtain ⟨p, hp, e⟩ := List.mem_map.mp hm
      have := (i1 p hp).1
      rw [e] at this
      exact Int.lt_irrefl _ this
theorem b3_incd : incBd 0 b3Pairs = true := by decide +kernel
theorem b3_cut : bL0 ++ bL ++ bR = b3Pairs := by
  unfold bL0 bL bR
  rw [List.append_assoc, ← List.drop_drop (i := 629) (j := 17), List.take_append_drop, List.take_append_drop]
noncomputable def kvE : List DictEntry → List (Int × Value) := List.map fun e => ((match e.key with | .int k _ => k | _ => 0), e.val)
theorem hash_small {k : Int} (h0 : 0 < k) (h1 : k < 200000) : hashInt k = k := by
  obtain ⟨n, rfl⟩ := Int.eq_ofNat_of_zero_le (Int.le_of_lt h0)
  have hb : (((2 ^ 61 - 1 : Nat) : Nat) : Int) = 2305843009213693951 := rfl
  have e : (((n : Int).natAbs : Nat) : Int) % ((2 ^ 61 - 1 : Nat) : Int) = (n : Int) := by
    rw [hb, Int.natAbs_natCast]
    exact Int.emod_eq_of_lt (by omega) (by omega)
  have hr : rawHash (n : Int) = (n : Int) := by
    unfold rawHash
    have hn : ¬ ((n : Int) < 0) := by omega
    have hm : ¬ (((n : Int) == -1) = true) := by rw [beq_iff_eq]; omega
    simp only [e, if_neg hn, if_neg hm]
  unfold hashInt
  have hm : ¬ (((n : Int) == -1) = true) := by rw [beq_iff_eq]; omega
  rw [hr, if_neg hm]
section
variable (prog : Program) (w : World)
noncomputable def Good (es : List DictEntry) (l : List (Int × Str)) : Prop :=
  Pairs (intKind prog w) es (kvE es) ∧ FlatPairs PyData.int (kvE es) (l.map fun p => (.int p.1, .str p.2)) ∧ (kvE es).map (·.1) = l.map (·.1) ∧ ∀ e ∈ es, ∃ k, (intKind prog w).is k e.key = true ∧ e.hash = (intKind prog w).hash k
theorem good_nil : Good prog w [] [] := ⟨.nil, .nil, rfl, fun _ h => nomatch h⟩
theorem good_cons {k : Int} {x : Str} {t u : Nat} {es : List DictEntry} {l : List (Int × Str)} (h0 : 0 < k) (h1 : k < 200000) (g : Good prog w es l) : Good prog w (⟨k, .int k t, .str x u⟩ :: es) ((k, x) :: l) := by
  obtain ⟨a, b, c, d⟩ := g
  have hi : (intKind prog w).is k (.int k t) = true := intKind_is prog w k t
  refine ⟨.cons hi rfl a, .cons (.str _ _) b, by simp only [kvE, List.map_cons]; exact congrArg _ c, fun e he => ?_⟩
  rcases List.mem_cons.mp he with rfl | he
  · exact ⟨k, hi, (hash_small h0 h1).symm⟩
  · exact d e he
theorem pairs_app : ∀ {es es' : List DictEntry}, Pairs (intKind prog w) es (kvE es) → Pairs (intKind prog w) es' (kvE es') → Pairs (intKind prog w) (es ++ es') (kvE es ++ kvE es')
  | [], _, _, h => h
  | e :: r, es', .cons a b c, h => .cons a b (pairs_app c h)
theorem flat_app : ∀ {a b : List (Int × Value)} {D D' : List (PyData × PyData)}, FlatPairs PyData.int a D → FlatPairs PyData.int b D' → FlatPairs PyData.int (a ++ b) (D ++ D')
  | [], _, _, _, .nil, h => h
  | _ :: _, _, _, _, .cons f c, h => .cons f (flat_app c h)
theorem good_app {es es' : List DictEntry} {l l' : List (Int × Str)} (g : Good prog w es l) (g' : Good prog w es' l') : Good prog w (es ++ es') (l ++ l') := by
  obtain ⟨a, b, c, d⟩ := g
  obtain ⟨a', b', c', d'⟩ := g'
  have e : kvE (es ++ es') = kvE es ++ kvE es' := List.map_append
  refine ⟨by rw [e]; exact pairs_app prog w a a', by rw [e, List.map_append]; exact flat_app b b', by rw [e, List.map_append, List.map_append, c, c'], fun x hx => ?_⟩
  rcases List.mem_append.mp hx with h | h
  · exact d x h
  · exact d' x h
theorem good3 : ∀ (t : Nat) (l : List (Int × Str)), (∀ p ∈ l, 0 < p.1 ∧ p.1 < 200000) → Good prog w (ent3 t l) l
  | _, [], _ => good_nil prog w
  | t, (k, x) :: r, h => good_cons prog w (h _ List.mem_cons_self).1 (h _ List.mem_cons_self).2 (good3 (t + 3) r fun p hp => h p (List.mem_cons_of_mem _ hp))
theorem good2 : ∀ (t : Nat) (l : List (Int × Str)), (∀ p ∈ l, 0 < p.1 ∧ p.1 < 200000) → Good prog w (ent2 t l) l
  | _, [], _ => good_nil prog w
  | t, (k, x) :: r, h => good_cons prog w (h _ List.mem_cons_self).1 (h _ List.mem_cons_self).2 (good2 (t + 2) r fun p hp => h p (List.mem_cons_of_mem _ hp))
theorem good_b3 : Good prog w b3M b3Pairs := by
  have h := (incBd_spec b3_incd).1
  have sub : ∀ {l : List (Int × Str)}, (∀ p ∈ l, p ∈ b3Pairs) → ∀ p ∈ l, 0 < p.1 ∧ p.1 < 200000 := fun hl p hp => h p (hl p hp)
  have g := good_app prog w (good_app prog w (good3 prog w 390 bL0 (sub fun p hp => List.mem_of_mem_take hp)) (good3 prog w 441 bL (sub fun p hp => List.mem_of_mem_drop (List.mem_of_mem_take hp)))) (good2 prog w 2328 bR (sub fun p hp => List.mem_of_mem_drop hp))
  rw [b3_cut] at g
  exact g
noncomputable def b3D : List (PyData × PyData) := b3Pairs.map fun p => (.int p.1, .str p.2)
theorem tab_b3 {h : Heap} (hd : h.get? 126 = some (b3Main w.params)) : IntTab prog w h 126 b3D := by
  obtain ⟨a, b, c, d⟩ := good_b3 prog w
  refine ⟨rfl, kvE b3M, ⟨_, _, _, hd, ⟨rfl, rfl, rfl⟩, rfl, fun e he => d e (by simpa using he), by simpa using a, ?_⟩, b⟩
  rw [c]
  exact (incBd_spec b3_incd).2
end
noncomputable def b3at (c : Int) : Option Str := (b3Pairs.find? fun p => p.1 == c).map (·.2)
theorem look_b3 (c : Int) : Spec.lookup (.int c) b3D = (b3at c).map PyData.str := by
  unfold b3D b3at
  induction b3Pairs with
  | nil => rfl
  | cons p r ih =>
    rw [List.map_cons, Spec.lookup, PyProof.V.same_int, List.find?_cons]
    by_cases h : p.1 = c
    · simp [h]
    · simp only [h, decide_false, Bool.false_eq_true, if_false]
      rw [show (p.1 == c) = false from by simpa using h]
      exact ih
end

section
open PySem.Spec PyProof.V
noncomputable def b1Elems (P : Params) : Array (Int × Value) := match (o115 P).data with
  | .set es _ _ => es
  | _ => #[]
noncomputable def elemB (e : Int × Value) : Bool := match e.2 with
  | .int k _ => e.1 == hashInt k && e.2.scannable
  | _ => false
theorem elemB_spec {prog : Program} {w : World} {e : Int × Value} (h : elemB e = true) : (∃ k, (intKind prog w).is k e.2 = true ∧ e.1 = (intKind prog w).hash k) ∧ e.2.scannable = true := by
  unfold elemB at h
  split at h
  · rename_i k t he
    rw [Bool.and_eq_true] at h
    exact ⟨⟨k, by rw [he]; exact intKind_is prog w k t, (by simpa using h.1 : e.1 = hashInt k)⟩, h.2⟩
  · cases h
noncomputable def inB1 (P : Params) (c : Int) : Bool := (b1Elems P).toList.any fun e => Value.isInt c e.2
theorem set_b1 {prog : Program} {w : World} {h : Heap} (hd : h.get? 115 = some (o115 w.params)) : h.SetOf (intKind prog w) 115 (inB1 w.params) 27 := by
  refine ⟨o115 w.params, b1Elems w.params, _, _, hd, ⟨rfl, rfl, rfl⟩, rfl, fun e he => elemB_spec (List.all_eq_true.mp (show (b1Elems w.params).toList.all elemB = true from by kernel_rfl) e he), fun k => ?_, ?_, ?_, ?_⟩
  · unfold inB1
    rw [List.any_eq_true]
    exact Iff.rfl
  · show 27 < scanBound; decide +kernel
  · rfl
  · rfl
end

section

set_option maxHeartbeats 8000000
theorem look_at {K : Frag} {h₀ h : Heap} {L : Addr} {m : Str → Option Value} {a : Addr} {o : Obj} (F : Fr h₀ L h m) (X : K.In h₀) (e : K.lookup a = some o) : h.get? a = some o := (X.keeps F.keep) _ _ e
local macro_rules | `(tactic| walk1) => `(tactic| ((with_reducible show wpAny _ _ (compareOp CmpOp.In (Value.int _ _) (Value.ref 115)) _ _ _); (refine' wpAny_inSet_of (intKind_is _ _ _ _) ?hs (set_b1 (look_at (by assumption) (by assumption) (by assumption))) ?_; (case hs => exact rfl)); (try k_fold); walk_say "INSET"))
local macro_rules | `(tactic| walk1) => `(tactic| ((with_reducible show wpAny _ _ (getMethod (Value.ref 126) _ _) _ _ _); (refine getMethod_intTab_get (tab_b3 _ _ (look_at (by assumption) (by assumption) (by assumption))) ?_); (try k_fold); walk_say "GETM"))
local macro_rules | `(tactic| walk1) => `(tactic| ((with_reducible show wpAny _ _ (call (Value.builtin "dict.get") [Value.ref 126, Value.int _ _]) _ _ _); (refine call_get1_intTab (tab_b3 _ _ (look_at (by assumption) (by assumption) (by assumption))) ?_); (intro v9 f9); (try k_fold); walk_say "GET"))
local macro_rules | `(tactic| walk1) => `(tactic| ((with_reducible show wpAny _ _ (call (Value.builtin "str.lower") _) _ _ _); (try dsimp only); (refine SCL.lower (by show 1 ≤ 5592405; decide) ?_); (intro _); (try k_fold); walk_say "LOWER"))
noncomputable def mapS (c : Nat) : Str := match b3at c with
  | some y => y
  | none => Txt.lower ⟨#[c]⟩
theorem inb1_ (w : World) (c : Nat) (t : Tok) : Tells0 w 125 [.str ⟨#[c]⟩ t] 9 60 (fun base h₀ L m news s Q => (∀ (h' : Heap) (tk' : Nat), Fr h₀ L h' m → News h₀ L h' news → Q (.bool (inB1 w.params c)) { s with heap := h', toks := tk' })) := by
  delta Tells0; k_fill
  intro loose mean mg mb dp un gd cn cs a ccd cl outer A₀ base h₀ L m news s Q E B F X N T hk hd hu hret
  have hset : (K w.params).lookup 115 = some (o115 w.params) := by kernel_rfl
  have hlk : (K w.params).lookup 125 = some (o125 w.params) := by kernel_rfl
  have eP := (rfl : defP (stAt 10) = defP (stAt 10)); conv at eP => rhs; whnf
  have eB := (rfl : defB (stAt 10) = defB (stAt 10)); conv at eB => rhs; whnf
  have eS := (rfl : defS (stAt 10) = defS (stAt 10)); conv at eS => rhs; whnf
  unfold o125 at hlk
  rw [eP, eB, eS] at hlk
  clear eP eB eS
  refine wpAny_call ?_
  k_dflt cell_enter
  clear hlk
  k_steps
  exact hret _ _ (by assumption) (by assumption)
theorem map3_ (w : World) (c : Nat) (t : Tok)  : Tells0 w 171 [.str ⟨#[c]⟩ t] 9 60 (fun base h₀ L m news s Q => (∀ (u : Tok) (h' : Heap) (tk' : Nat), Fr h₀ L h' m → News h₀ L h' news → Q (.str (mapS c) u) { s with heap := h', toks := tk' })) := by
  delta Tells0; k_fill
  intro loose mean mg mb dp un gd cn cs a ccd cl outer A₀ base h₀ L m news s Q E B F X N T hk hd hu hret
  have hset : (K w.params).lookup 126 = some (b3Main w.params) := by kernel_rfl
  have hlk : (K w.params).lookup 171 = some (o171 w.params) := by kernel_rfl
  have eP := (rfl : defP (stAt 12) = defP (stAt 12)); conv at eP => rhs; whnf
  have eB := (rfl : defB (stAt 12) = defB (stAt 12)); conv at eB => rhs; whnf
  have eS := (rfl : defS (stAt 12) = defS (stAt 12)); conv at eS => rhs; whnf
  unfold o171 at hlk
  rw [eP, eB, eS] at hlk
  clear eP eB eS
  refine wpAny_call ?_
  k_dflt cell_enter
  clear hlk
  k_steps
  rename PyProof.V.Flat _ _ => f9
  rw [look_b3] at f9
  unfold mapS at hret
  cases hy : b3at (c : Int) with
  | some y =>
    rw [hy] at f9 hret
    have f8 : Reads s.heap _ (PyData.str y) [] := f9 s.heap
    clear f9
    cases f8
    k_steps
    exact hret _ _ _ (by assumption) (by assumption)
  | none =>
    rw [hy] at f9 hret
    have f8 : Reads s.heap _ PyData.none [] := f9 s.heap
    clear f9
    cases f8
    k_steps
    exact hret _ _ _ (by assumption) (by assumption)
end

section
open PyProof.Rows.LCt PyProof.Rows.LCg
theorem wpAny_pyIter_str2 {prog : Program} {w : World} {A : Around} {E : Value → Shared → Prop} {s : Shared} {x : Str} {t : Tok} {Q : Value → Shared → Prop} (hA : A.handled = none)
    (hQ : ∀ (o : Obj) (St : Nat → Heap → Prop), Walks prog w A s.heap.objs.size [s.heap.objs.size] [s.heap.objs.size] x.cps.size (SignAt x) St → St 0 (s.heap.push o) → (∀ i h, St i h → ∃ o, h.get? s.heap.objs.size = some o) →
      Q (.ref s.heap.objs.size) { s with heap := s.heap.push o }) : wpAny (model prog w) A (pyIter (.str x t)) Q E s := by
  cases ha : x.cps.all (· < 128)
  · exact wpAny_pyIter_wide ha (hQ _ _ (Walks.strWide hA _ x t) ⟨_, Heap.get?_push_size _ rfl, rfl, rfl⟩ fun i h st => ⟨_, st.choose_spec.1⟩)
  · exact wpAny_pyIter_ascii ha (hQ _ _ (Walks.strAscii hA _ x t) ⟨_, Heap.get?_push_size _ rfl, rfl, rfl⟩ fun i h st => ⟨_, st.choose_spec.1⟩)
section
variable {prog : Program} {w : World} {A : Around} {E : Value → Shared → Prop} {s : Shared} {h₀ : Heap} {L : Addr} {m : Str → Option Value} {env : Env}
noncomputable def SrcS (prog : Program) (w : World) (A : Around) (h₀ : Heap) (L : Addr) (m : Str → Option Value) (env : Env) (ct elt : Expr) (x : Str) (scope : Scope) (cl : List (Str × Addr)) (Q : Value → Shared → Prop) (xv : Value) (s₁ : Shared) : Prop :=
  ∃ y t news, xv = .str y t ∧ A.handled = none ∧ Fr h₀ L s₁.heap m ∧ News h₀ L s₁.heap news ∧ y.length ≤ sizeLine ∧
    ∀ s₂ : Shared, (∃ h, s₂ = { s₁ with heap := h }) → CompRestT prog w A h₀ L m env ct elt x scope cl s₂ (fun _ => True) (SignAt y) (FinE h₀ L m s₂ Q) y.cps.size 0 [] news
/-- a list comprehension with a test, over the signs of a text -/
theorem ListComp_S {ct elt iter : Expr} {x : Str} {px : Pos} {scope : Scope} {cl : List (Str × Addr)} {pos : Pos} {Q : Value → Shared → Prop}
    (_F₀ : Fr h₀ L s.heap m) (hclos : closureFor scope env = pure cl) (hcell : ∀ y ∈ scope.names, y.2 ≠ .cell) (hkind : scope.kind = .function)
    (hnames : ∀ y ∈ scope.names, y.2 = .local → scope.names.lookup y.1 = some .local) (hx : scope.names.lookup x = some .local)
    (h : wpAny (model prog w) A (eval iter env) (fun xv s₁ => SrcS prog w A h₀ L m env ct elt x scope cl Q xv s₁) E s)
    (hs : ∀ x, foldedSetIterable iter env x = pure x := by intro _; rfl) :
    wpAny (model prog w) A (eval (.ListComp elt [⟨.Name x px, iter, [ct], 0⟩] scope pos) env) Q E s := by
  rw [eval_ListComp]
  refine wpAny_comprehension_free (use := none) rfl hs hclos hkind hnames (wpAny_mono h (fun xv s₁ h₁ => ?_) fun _ _ e => e)
  obtain ⟨y, t, news, rfl, hh, F, N, hsz, R⟩ := h₁
  refine wpAny_pyIter_str2 hh fun o St W st0 hIo => ?_
  refine block_T W hsz hIo (fun i h h' o nw st e e' _ _ _ => W.frame i h h' st fun b hb o2 e2 => by
        rw [List.mem_singleton.mp hb] at e2 ⊢
        rw [e] at e2; cases e2; exact e') hcell hkind hx st0 (fun b hb => by
          rw [List.mem_singleton.mp hb]
          show s₁.heap.objs.size < (s₁.heap.push o).objs.size
          rw [Heap.size_push]; exact Nat.lt_succ_self _)
      (F.keeps fun _ _ e => Heap.get?_push_of_some _ e) (N.grown fun _ _ e => Heap.get?_push_of_some _ e) (Nat.ne_of_lt F.ns.lt) (next_is_new F) (fun p hp => Nat.ne_of_lt (Heap.lt_size (N p hp).1)) trivial (R _ ⟨_, rfl⟩) ?_
  intro D C h tk m' ys news' F' N' o1 hn hC₀ hD₀ hCL hDL hCD offC fin
  refine ⟨m', hn, fun h'' hs'' => fin D h'' tk (F'.change hs'' hCL hC₀) (fun p hp => ?_) o1⟩
  refine ⟨hs''.extBut _ _ ?_ (N' p hp).1, (N' p hp).2⟩
  rcases List.mem_cons.mp hp with rfl | hp
  · exact Ne.symm hCD
  · exact offC p hp
end
end

section

set_option maxHeartbeats 8000000
local macro_rules | `(tactic| walk1) => `(tactic| ((with_reducible show wpAny _ _ (call (Value.ref 125) [Value.str ⟨#[_]⟩ _]) _ _ _); (k_dflt (refine' inb1_ _ _ _ _ _ _ _ _ _ _ _ _ _ _ _ _ _ _ _ _ _ _ _ _ _ ?k1 ?k2 ?k3 ?k4 ?k5 ?k6 ?k7 ?k8 ?kR)); (case k1 => k_asm); (case k2 => k_asm); (case k3 => k_asm); (case k4 => k_asm); (case k5 => k_asm); (case k6 => first | exact rfl | assumption); (case k7 => ktr_room); (case k8 => ktr_units); (intro h9 tk9 F9 N9); (try dsimp only); (try k_fold); walk_say "CONTRACT inb1_"))
local macro_rules | `(tactic| walk1) => `(tactic| ((with_reducible show wpAny _ _ (call (Value.ref 171) [Value.str ⟨#[_]⟩ _]) _ _ _); (k_dflt (refine' map3_ _ _ _ _ _ _ _ _ _ _ _ _ _ _ _ _ _ _ _ _ _ _ _ _ _ ?k1 ?k2 ?k3 ?k4 ?k5 ?k6 ?k7 ?k8 ?kR)); (case k1 => k_asm); (case k2 => k_asm); (case k3 => k_asm); (case k4 => k_asm); (case k5 => k_asm); (case k6 => first | exact rfl | assumption); (case k7 => ktr_room); (case k8 => ktr_units); (intro t9 h9 tk9 F9 N9); (try dsimp only); (try k_fold); walk_say "CONTRACT map3_"))
local macro_rules | `(tactic| walk1) => `(tactic| ((with_reducible show wpAny _ _ (eval (Expr.ListComp _ _ _ _) _) _ _ _); (refine' ListComp_S ?f0 ?a ?b ?c ?d ?e ?_ ?z; (case f0 => k_asm); (case z => intro _; rfl); (case a => exact rfl); (case b => decide); (case c => exact rfl); (case d => decide); (case e => exact rfl)); walk_say "LISTCOMP"))
noncomputable def prepL (P : Params) (l : List Nat) : List Str := (l.filter fun c : Nat => !inB1 P (c : Int)).map mapS
noncomputable def prepS (P : Params) (x : Str) : Str := PySem.Txt.join (Str.ofString "") (prepL P x.cps.toList)
theorem prepL_snoc (P : Params) (l : List Nat) (c : Nat) : prepL P (l ++ [c]) = prepL P l ++ (if inB1 P (c : Int) = true then [] else [mapS c]) := by
  unfold prepL
  rw [List.filter_append, List.map_append]
  cases h : inB1 P (c : Int) <;> simp [h]
theorem take_snoc {x : Str} {i c : Nat} (h : x.cps[i]? = some c) : x.cps.toList.take (i + 1) = x.cps.toList.take i ++ [c] := by
  have hi : x.cps.toList[i]? = some c := by simpa using h
  rw [List.take_succ, hi]; rfl
section
variable {prog : Program} {w : World} {A : Around} {s : Shared} {h₀ : Heap} {L : Addr} {m : Str → Option Value} {env : Env}
theorem rest_all {ct elt : Expr} {z : Str} {scope : Scope} {cl : List (Str × Addr)} {Fin : List Value → List (Addr × Obj) → Prop} {y : Str} {P : Params} {news : List (Addr × Obj)}
    (step : ∀ k i l, i + (k + 1) = y.cps.size → l.map (·.1) = prepL P (y.cps.toList.take i) → (∀ l', l'.map (·.1) = prepL P (y.cps.toList.take (i + 1)) → PyProof.Rows.LCt.CompRestT prog w A h₀ L m env ct elt z scope cl s (fun _ => True) (SignAt y) Fin k (i + 1) (strValues l') news) →
      PyProof.Rows.LCt.CompRestT prog w A h₀ L m env ct elt z scope cl s (fun _ => True) (SignAt y) Fin (k + 1) i (strValues l) news)
    (fin : ∀ l : List (Str × Tok), l.map (·.1) = prepL P y.cps.toList → Fin (strValues l) news) :
    PyProof.Rows.LCt.CompRestT prog w A h₀ L m env ct elt z scope cl s (fun _ => True) (SignAt y) Fin y.cps.size 0 [] news := by
  have all : ∀ k i (l : List (Str × Tok)), i + k = y.cps.size → l.map (·.1) = prepL P (y.cps.toList.take i) → PyProof.Rows.LCt.CompRestT prog w A h₀ L m env ct elt z scope cl s (fun _ => True) (SignAt y) Fin k i (strValues l) news := by
    intro k
    induction k with
    | zero =>
      intro i l hi hl
      refine PyProof.Rows.LCt.CompRestT.zero (fin l ?_)
      rw [hl, List.take_of_length_le (by simp; omega)]
    | succ k ih => exact fun i l hi hl => step k i l hi hl fun l' hl' => ih (i + 1) l' (by omega) hl'
  exact all y.cps.size 0 [] (by omega) rfl
end
theorem snocV (l : List (Str × Tok)) (y : Str) (t : Tok) : strValues l ++ [Value.str y t] = strValues (l ++ [(y, t)]) := by simp [strValues]
theorem b3_short : (b3Pairs.all fun p => decide (p.2.length ≤ 4)) = true := by decide +kernel
theorem mapS_len (c : Nat) : (mapS c).length ≤ 4 := by
  unfold mapS
  cases h : b3at c with
  | some y =>
    unfold b3at at h
    cases h2 : b3Pairs.find? (fun p => p.1 == (c : Int)) with
    | none => rw [h2] at h; cases h
    | some p =>
      rw [h2] at h
      cases h
      exact of_decide_eq_true (List.all_eq_true.mp b3_short p (List.mem_of_find?_eq_some h2))
  | none => exact Nat.le_trans (len_lower _) (by show 3 * 1 ≤ 4; decide)
theorem prep_weight (P : Params) (l : List Nat) : ((prepL P l).map (·.length)).sum + (prepL P l).length ≤ 5 * l.length := by
  induction l with
  | nil => exact Nat.le_refl _
  | cons c r ih =>
    have e : prepL P (c :: r) = (if inB1 P (c : Int) = true then [] else [mapS c]) ++ prepL P r := by
      unfold prepL
      cases h : inB1 P (c : Int) <;> simp [h]
    rw [e]
    have := mapS_len c
    split <;> simp only [List.nil_append, List.cons_append, List.map_cons, List.sum_cons, List.length_cons] <;> omega
theorem prepared_ (w : World) (x : Str) (t : Tok) (hx : x.length ≤ 600) : Tells0 w 176 [.str x t] 12 120 (fun base h₀ L m news s Q => (∀ (u : Tok) (h' : Heap) (tk' : Nat), Fr h₀ L h' m → News h₀ L h' news → Q (.str (prepS w.params x) u) { s with heap := h', toks := tk' })) := by
  delta Tells0; k_fill
  intro loose mean mg mb dp un gd cn cs a ccd cl outer A₀ base h₀ L m news s Q E B F X N T hk hd hu hret
  have hlk : (K w.params).lookup 176 = some (o176 w.params) := by kernel_rfl
  have eP := (rfl : defP (stAt 14) = defP (stAt 14)); conv at eP => rhs; whnf
  have eB := (rfl : defB (stAt 14) = defB (stAt 14)); conv at eB => rhs; whnf
  have eS := (rfl : defS (stAt 14) = defS (stAt 14)); conv at eS => rhs; whnf
  unfold o176 at hlk
  rw [eP, eB, eS] at hlk
  clear eP eB eS
  refine wpAny_call ?_
  k_dflt cell_enter
  clear hlk
  k_steps
  refine ⟨_, _, _, rfl, rfl, by k_asm, by k_asm, by rw [PySem.sizeLine_eq]; omega, fun s₂ hs₂ => ?_⟩
  obtain ⟨g9, rfl⟩ := hs₂
  have hMark : KPfMark := trivial
  refine rest_all (P := w.params) ?step ?fin
  case step =>
    intro k i l hik hl ih
    refine PyProof.Rows.LCt.CompRestT.succ fun v I oI C oC D m₂ h tk E' hP hN hm hF hNe hOff hNe' => ?_
    obtain ⟨c, u, hc, rfl⟩ := hP
    k_steps
    · refine PyProof.Rows.LCg.CompEnd.intro (by k_asm) (by k_asm) _ (fun p hp => hp) (by assumption) trivial ?_
      exact ih l (by rw [take_snoc hc, prepL_snoc, if_pos (by assumption), List.append_nil]; exact hl)
    · refine PyProof.Rows.LCg.CompEnd.intro (by k_asm) (by k_asm) _ (fun p hp => hp) (by assumption) trivial ?_
      rw [snocV]
      exact ih (l ++ [(mapS c, _)]) (by rw [List.map_append, hl, take_snoc hc, prepL_snoc, if_neg (by simp_all)]; rfl)
  case fin =>
    intro l hl
    k_steps
    have hw := prep_weight w.params x.cps.toList
    have hxl : x.cps.toList.length = x.length := Array.length_toList
    refine join_listW (ys := prepL w.params x.cps.toList) (News.isList (by k_asm) (by k_mem)) (by rw [← hl]; simpa using strsAre_of_values l) (by decide) (by omega) ?_
    intro t9 k9
    k_steps
    exact hret _ _ _ (by assumption) (cb_drop (by assumption) fun p hp => by simp [hp])
end

section

set_option maxHeartbeats 8000000
theorem ne_pos {x : Str} (h : (x == Str.ofString "") = false) : 0 < x.length := by
  rcases Nat.eq_zero_or_pos x.length with z | z
  · exfalso
    have e : x = Str.ofString "" := by
      cases x with
      | mk cps =>
        have : cps.size = 0 := z
        rw [Array.eq_empty_of_size_eq_zero this]; rfl
    rw [e] at h; exact absurd h (by decide)
  · exact z
theorem it0 {x : Str} (h : (x == Str.ofString "") = false) : (0 : Int) < (x.length : Int) := by have := ne_pos h; omega
theorem itmD {x : Str} (h : (x == Str.ofString "") = false) : -(x.length : Int) ≤ -1 := by have := ne_pos h; omega
noncomputable def dueS (a b : Str) (port : Int) (hid : Bool) (dress stage : Int) : Ans :=
  if hid = true ∧ stage = 0 then .txt (Str.ofString "code") else
  if dress = 2 then .txt (Str.ofString "shape") else
  if dress = 3 then .txt (Str.ofString "shape") else
  if (a == Str.ofString "") = true then .txt (Str.ofString "shape") else
  if (b == Str.ofString "") = true then .txt (Str.ofString "shape") else
  if (Txt.item a 0 != Txt.item b (-1)) = true then .txt (Str.ofString "shape") else
  if Txt.count (a ++ b) (Txt.item a 0) ≠ 4 then .txt (Str.ofString "shape") else
  if Txt.count a (Txt.item a 0) ≠ 3 then .txt (Str.ofString "number") else
  if (Txt.item a (-1) == Txt.item a 0) = false then .txt (Str.ofString "number") else
  if (b.length : Int) ≠ 1 then .txt (Str.ofString "number") else .pair port
theorem nt {b : Bool} (h : b = false) : ¬ b = true := by rw [h]; exact Bool.false_ne_true
theorem tn {b : Bool} (h : b = true) : ¬ b = false := by rw [h]; exact Bool.noConfusion
theorem v1 {hid : Bool} {stage : Int} (h : stage ≠ 0) : ¬ (hid = true ∧ stage = 0) := fun k => h k.2
theorem v2 {hid : Bool} {stage : Int} (h : hid = false) : ¬ (hid = true ∧ stage = 0) := fun k => by rw [h] at k; cases k.1
theorem dS1 {a b : Str} {port dress stage : Int} {hid : Bool} (v : ¬ (hid = true ∧ stage = 0))  (h1 : dress = 2) : dueS a b port hid dress stage = .txt (Str.ofString "shape") := by
  unfold dueS; rw [if_neg v, if_pos h1]
theorem dS2 {a b : Str} {port dress stage : Int} {hid : Bool} (v : ¬ (hid = true ∧ stage = 0)) (h1 : dress ≠ 2) (h2 : dress = 3) : dueS a b port hid dress stage = .txt (Str.ofString "shape") := by
  unfold dueS; rw [if_neg v, if_neg (h1), if_pos h2]
theorem dS3 {a b : Str} {port dress stage : Int} {hid : Bool} (v : ¬ (hid = true ∧ stage = 0)) (h1 : dress ≠ 2) (h2 : dress ≠ 3) (h3 : (a == Str.ofString "") = true) : dueS a b port hid dress stage = .txt (Str.ofString "shape") := by
  unfold dueS; rw [if_neg v, if_neg (h1), if_neg (h2), if_pos h3]
theorem dS4 {a b : Str} {port dress stage : Int} {hid : Bool} (v : ¬ (hid = true ∧ stage = 0)) (h1 : dress ≠ 2) (h2 : dress ≠ 3) (h3 : (a == Str.ofString "") = false) (h4 : (b == Str.ofString "") = true) : dueS a b port hid dress stage = .txt (Str.ofString "shape") := by
  unfold dueS; rw [if_neg v, if_neg (h1), if_neg (h2), if_neg (nt h3), if_pos h4]
theorem dS5 {a b : Str} {port dress stage : Int} {hid : Bool} (v : ¬ (hid = true ∧ stage = 0)) (h1 : dress ≠ 2) (h2 : dress ≠ 3) (h3 : (a == Str.ofString "") = false) (h4 : (b == Str.ofString "") = false) (h5 : (Txt.item a 0 != Txt.item b (-1)) = true) : dueS a b port hid dress stage = .txt (Str.ofString "shape") := by
  unfold dueS; rw [if_neg v, if_neg (h1), if_neg (h2), if_neg (nt h3), if_neg (nt h4), if_pos h5]
theorem dS6 {a b : Str} {port dress stage : Int} {hid : Bool} (v : ¬ (hid = true ∧ stage = 0)) (h1 : dress ≠ 2) (h2 : dress ≠ 3) (h3 : (a == Str.ofString "") = false) (h4 : (b == Str.ofString "") = false) (h5 : (Txt.item a 0 != Txt.item b (-1)) = false) (h6 : Txt.count (a ++ b) (Txt.item a 0) ≠ 4) : dueS a b port hid dress stage = .txt (Str.ofString "shape") := by
  unfold dueS; rw [if_neg v, if_neg (h1), if_neg (h2), if_neg (nt h3), if_neg (nt h4), if_neg (nt h5), if_pos h6]
theorem dS7 {a b : Str} {port dress stage : Int} {hid : Bool} (v : ¬ (hid = true ∧ stage = 0)) (h1 : dress ≠ 2) (h2 : dress ≠ 3) (h3 : (a == Str.ofString "") = false) (h4 : (b == Str.ofString "") = false) (h5 : (Txt.item a 0 != Txt.item b (-1)) = false) (h6 : Txt.count (a ++ b) (Txt.item a 0) = 4) (h7 : Txt.count a (Txt.item a 0) ≠ 3) : dueS a b port hid dress stage = .txt (Str.ofString "number") := by
  unfold dueS; rw [if_neg v, if_neg (h1), if_neg (h2), if_neg (nt h3), if_neg (nt h4), if_neg (nt h5), if_neg ((fun k => k h6)), if_pos h7]
theorem dS8 {a b : Str} {port dress stage : Int} {hid : Bool} (v : ¬ (hid = true ∧ stage = 0)) (h1 : dress ≠ 2) (h2 : dress ≠ 3) (h3 : (a == Str.ofString "") = false) (h4 : (b == Str.ofString "") = false) (h5 : (Txt.item a 0 != Txt.item b (-1)) = false) (h6 : Txt.count (a ++ b) (Txt.item a 0) = 4) (h7 : Txt.count a (Txt.item a 0) = 3) (h8 : (Txt.item a (-1) == Txt.item a 0) = false) : dueS a b port hid dress stage = .txt (Str.ofString "number") := by
  unfold dueS; rw [if_neg v, if_neg (h1), if_neg (h2), if_neg (nt h3), if_neg (nt h4), if_neg (nt h5), if_neg ((fun k => k h6)), if_neg ((fun k => k h7)), if_pos h8]
theorem dS9 {a b : Str} {port dress stage : Int} {hid : Bool} (v : ¬ (hid = true ∧ stage = 0)) (h1 : dress ≠ 2) (h2 : dress ≠ 3) (h3 : (a == Str.ofString "") = false) (h4 : (b == Str.ofString "") = false) (h5 : (Txt.item a 0 != Txt.item b (-1)) = false) (h6 : Txt.count (a ++ b) (Txt.item a 0) = 4) (h7 : Txt.count a (Txt.item a 0) = 3) (h8 : (Txt.item a (-1) == Txt.item a 0) = true) (h9 : (b.length : Int) ≠ 1) : dueS a b port hid dress stage = .txt (Str.ofString "number") := by
  unfold dueS; rw [if_neg v, if_neg (h1), if_neg (h2), if_neg (nt h3), if_neg (nt h4), if_neg (nt h5), if_neg ((fun k => k h6)), if_neg ((fun k => k h7)), if_neg ((tn h8)), if_pos h9]
theorem dP {a b : Str} {port dress stage : Int} {hid : Bool} (v : ¬ (hid = true ∧ stage = 0)) (h1 : dress ≠ 2) (h2 : dress ≠ 3) (h3 : (a == Str.ofString "") = false) (h4 : (b == Str.ofString "") = false) (h5 : (Txt.item a 0 != Txt.item b (-1)) = false) (h6 : Txt.count (a ++ b) (Txt.item a 0) = 4) (h7 : Txt.count a (Txt.item a 0) = 3) (h8 : (Txt.item a (-1) == Txt.item a 0) = true) (h9 : (b.length : Int) = 1) : dueS a b port hid dress stage = .pair port := by
  unfold dueS; rw [if_neg v, if_neg (h1), if_neg (h2), if_neg (nt h3), if_neg (nt h4), if_neg (nt h5), if_neg ((fun k => k h6)), if_neg ((fun k => k h7)), if_neg ((tn h8)), if_neg ((fun k => k h9))]
theorem pair_end {host : Str} {d : Ans} {n : Int} {T L : Addr} {t u : Tok} {h₀ h' : Heap} {m : Str → Option Value} {news : List (Addr × Obj)} {s : Shared} {Q : Value → Shared → Prop} {tk' : Nat}
    (hret : ∀ (v : Value) (own : List (Addr × Obj)) (h' : Heap) (tk' : Nat), AnsV host d v own → Fr h₀ L h' m → News h₀ L h' (own ++ news) → Q v { s with heap := h', toks := tk' })
    (e : d = .pair n) (F : Fr h₀ L h' m) (N : News h₀ L h' ((T, ({ cls := .type "tuple", data := .seq #[.str host t, .int n u] } : Obj)) :: news)) : Q (.ref T) { s with heap := h', toks := tk' } :=
  hret _ [(T, _)] _ _ (by rw [e]; exact ⟨T, t, u, rfl, rfl⟩) F N
local macro_rules | `(tactic| walk1) => `(tactic| ((with_reducible show wpAny _ _ (subscriptTail _ _ (Value.str _ _) (Value.int _ _)) _ _ _); (refine item_str ?a ?b ?c ?_); (case a => (unfold fitsSsize; simp only [Bool.not_eq_true', Bool.or_eq_false_iff, decide_eq_false_iff_not]; constructor <;> omega)); (case b => first | omega | exact itmD (by assumption)); (case c => first | omega | exact it0 (by assumption)); (intro _); walk_say "ITEM"))
theorem due_ (w : World) (D fa ba : Addr) (vf vb : List Value) (nf nb : Nat) (kf kb : List Int) (port dress stage : Int) (hid : Bool) (tp td ts th : Tok) (host : Str) (if_ : IntsAre vf kf) (ib : IntsAre vb kb) (bf : ∀ k ∈ kf, 0 ≤ k ∧ k ≤ 5) (bb : ∀ k ∈ kb, 0 ≤ k ∧ k ≤ 5) (lf : kf.length ≤ 4) (lb : kb.length ≤ 4) (hp : 0 ≤ port ∧ port ≤ 999) (hd5 : 0 ≤ dress ∧ dress ≤ 4) (hs : 0 ≤ stage ∧ stage ≤ 2) : Tells0 w 216 [.ref D, .int stage ts, .str host th] 5 60 (fun base h₀ L m news s Q => (D, drObj fa ba port hid dress tp td) ∈ news ∧ (fa, listOf vf.toArray nf) ∈ news ∧ (ba, listOf vb.toArray nb) ∈ news ∧ (∀ (v : Value) (own : List (Addr × Obj)) (h' : Heap) (tk' : Nat), AnsV host (dueS (spellS port stage kf) (spellS port stage kb) port hid dress stage) v own → Fr h₀ L h' m → News h₀ L h' (own ++ news) → Q v { s with heap := h', toks := tk' })) := by
  delta Tells0; k_fill
  intro loose mean mg mb dp un gd cn cs a ccd cl outer A₀ base h₀ L m news s Q E B F X N T hk hd hu hret
  obtain ⟨hm1, hm2, hm3, hret⟩ := hret
  have q5 := spellS_len port stage kf lf
  have q6 := spellS_len port stage kb lb
  have hlk : (K w.params).lookup 216 = some (o216 w.params) := by kernel_rfl
  have eP := (rfl : defP (stAt 20) = defP (stAt 20)); conv at eP => rhs; whnf
  have eB := (rfl : defB (stAt 20) = defB (stAt 20)); conv at eB => rhs; whnf
  have eS := (rfl : defS (stAt 20) = defS (stAt 20)); conv at eS => rhs; whnf
  unfold o216 at hlk
  rw [eP, eB, eS] at hlk
  clear eP eB eS
  refine wpAny_call ?_
  k_dflt cell_enter
  clear hlk
  k_steps
  all_goals first
    | (have e : dueS (spellS port stage kf) (spellS port stage kb) port hid dress stage = .txt (Str.ofString "code") := if_pos ⟨by assumption, by assumption⟩; exact hret _ [] _ _ (by rw [e]; exact ⟨rfl, _, rfl⟩) (by assumption) (by assumption))
    | (have e : dueS (spellS port stage kf) (spellS port stage kb) port hid dress stage = .txt (Str.ofString "shape") := by first | exact dS1 (v1 (by assumption)) (by assumption) | exact dS1 (v2 (by assumption)) (by assumption) | exact dS2 (v1 (by assumption)) (by assumption) (by assumption) | exact dS2 (v2 (by assumption)) (by assumption) (by assumption) | exact dS3 (v1 (by assumption)) (by assumption) (by assumption) (by assumption) | exact dS3 (v2 (by assumption)) (by assumption) (by assumption) (by assumption) | exact dS4 (v1 (by assumption)) (by assumption) (by assumption) (by assumption) (by assumption) | exact dS4 (v2 (by assumption)) (by assumption) (by assumption) (by assumption) (by assumption) | exact dS5 (v1 (by assumption)) (by assumption) (by assumption) (by assumption) (by assumption) (by assumption) | exact dS5 (v2 (by assumption)) (by assumption) (by assumption) (by assumption) (by assumption) (by assumption) | exact dS6 (v1 (by assumption)) (by assumption) (by assumption) (by assumption) (by assumption) (by assumption) (by assumption) | exact dS6 (v2 (by assumption)) (by assumption) (by assumption) (by assumption) (by assumption) (by assumption) (by assumption)
       exact hret _ [] _ _ (by rw [e]; exact ⟨rfl, _, rfl⟩) (by assumption) (by assumption))
    | (have e : dueS (spellS port stage kf) (spellS port stage kb) port hid dress stage = .txt (Str.ofString "number") := by first | exact dS7 (v1 (by assumption)) (by assumption) (by assumption) (by assumption) (by assumption) (by assumption) (by assumption) (by assumption) | exact dS7 (v2 (by assumption)) (by assumption) (by assumption) (by assumption) (by assumption) (by assumption) (by assumption) (by assumption) | exact dS8 (v1 (by assumption)) (by assumption) (by assumption) (by assumption) (by assumption) (by assumption) (by assumption) (by assumption) (by assumption) | exact dS8 (v2 (by assumption)) (by assumption) (by assumption) (by assumption) (by assumption) (by assumption) (by assumption) (by assumption) (by assumption) | exact dS9 (v1 (by assumption)) (by assumption) (by assumption) (by assumption) (by assumption) (by assumption) (by assumption) (by assumption) (by assumption) (by assumption) | exact dS9 (v2 (by assumption)) (by assumption) (by assumption) (by assumption) (by assumption) (by assumption) (by assumption) (by assumption) (by assumption) (by assumption)
       exact hret _ [] _ _ (by rw [e]; exact ⟨rfl, _, rfl⟩) (by assumption) (by assumption))
    | (have e : dueS (spellS port stage kf) (spellS port stage kb) port hid dress stage = .pair port := dP (v1 (by assumption)) (by assumption) (by assumption) (by assumption) (by assumption) (by assumption) (by assumption) (by assumption) (by assumption) (by assumption); exact pair_end hret e (by assumption) (by assumption))
    | (have e : dueS (spellS port stage kf) (spellS port stage kb) port hid dress stage = .pair port := dP (v2 (by assumption)) (by assumption) (by assumption) (by assumption) (by assumption) (by assumption) (by assumption) (by assumption) (by assumption) (by assumption); exact pair_end hret e (by assumption) (by assumption))
end

section

/-- the law's end: True, all kept but the table of the codes that _law_stream made -/
noncomputable def LawEnd (s₁ : Shared) (r : Result) (s' : Shared) : Prop :=
  ∃ h' tk ps, r = .ok (.ret (.bool true)) ∧ s' = { s₁ with heap := h', toks := tk } ∧ (∀ b o, (ghostOf s₁.heap [(182, 178)]).get? b = some o → h'.get? b = some o) ∧ h'.get? 178 = some (tabObj ps)
theorem goodEnd {c : ClaimW} {cl : Str → Option Addr} {mean : ExcName → Option Value} {args : List WData} {s₁ s' : Shared} {d : WData} (hr : ∀ cls, c.raises args cls = false)
    (hd : ∀ h, ReadsW c.records cl h (.bool true) d []) (hpost : c.post args d args = true) (hT : TabsAt [(182, 178)] s₁.heap) (hg : s₁.gens = #[]) (g : LawEnd s₁ (.ok (.ret (.bool true))) s') :
    GoodWG c cl mean args s₁ (.ok (.ret (.bool true))) s' := by
  obtain ⟨h', tk, ps, _, rfl, hk, h178⟩ := g
  have hq := hT (182, 178) List.mem_cons_self
  have keep : ∀ b o, b ≠ 178 → s₁.heap.get? b = some o → h'.get? b = some o := fun b o hb e => hk b o (ghost_ne e (by simpa using hb))
  refine ⟨.inl ⟨.bool true, d, [], rfl, hr, hd _, hpost, fun _ => ⟨List.nodup_nil, fun a ha => nomatch ha⟩⟩, ⟨fun b o e => ?_, fun b o e => ?_⟩, rfl, .of_eq hg⟩
  · by_cases hb : b = 178
    · subst hb
      have e2 : s₁.heap.get? 178 = some (tabObj #[]) := hq.2
      rw [e] at e2
      obtain rfl := Option.some.inj e2
      exact .inr (.inl ⟨(hq.1.tab hq.2).isCodeTable, rfl, #[], ps, rfl, by rw [Array.empty_append]; exact h178⟩)
    · exact .inl (keep b o hb e)
  · by_cases hb : b = 178
    · exact ⟨_, hb ▸ h178⟩
    · exact ⟨o, keep b o hb e⟩
theorem lawEnd_now {s₁ : Shared} (hT : TabsAt [(182, 178)] s₁.heap) : LawEnd s₁ (.ok (.ret (.bool true))) s₁ :=
  ⟨s₁.heap, s₁.toks, #[], rfl, rfl, fun b o e => of_hideAll _ e, (hT (182, 178) List.mem_cons_self).2⟩
end

section
open PySem.Builtin PySem.Builtin.Str
theorem tl_len (x : Str) : x.cps.toList.length = x.length := Array.length_toList
theorem str_ext {x y : Str} (h : x.cps.toList = y.cps.toList) : x = y := Str.ext' (Array.toList_inj.mp h)
/-! where a sign stands -/
theorem getD_L (x : Str) (v : Nat) : x.cps.getD v 0 = x.cps.toList[v]?.getD 0 := by simp
theorem find_free {x : Str} {c : Nat} (h : c ∉ x.cps.toList) : Txt.find x ⟨#[c]⟩ = -1 := by
  rcases PyProof.Rows.find_spec x ⟨#[c]⟩ with e | ⟨i, e, h1, h2⟩
  · exact e
  · exfalso
    have e2 := congrArg (fun s : Str => s.cps.toList) h2
    simp only [StrLaws.strSub_toList] at e2
    have : c ∈ (x.cps.toList.drop i).take (i + (⟨#[c]⟩ : Str).length - i) := by rw [e2]; simp
    exact h (List.mem_of_mem_drop (List.mem_of_mem_take this))
theorem from_nat (n k : Nat) (h : k ≤ n) : fromIndex n (k : Int) = k := by
  unfold fromIndex; split <;> omega
theorem find_is3 (x : Str) (c : Nat) : Txt.find x ⟨#[c]⟩ = Txt.find3 x ⟨#[c]⟩ 0 := by
  unfold Txt.find Txt.find3
  rw [show fromIndex x.length 0 = 0 from from_nat x.length 0 (Nat.zero_le _)]
  rfl
theorem find3_at {x : Str} {c : Nat} {P Q R : List Nat} (h : x.cps.toList = P ++ (Q ++ c :: R)) (hQ : c ∉ Q) : Txt.find3 x ⟨#[c]⟩ (P.length : Int) = ((P.length + Q.length : Nat) : Int) := by
  have hl := tl_len x
  rw [h] at hl
  simp only [List.length_append, List.length_cons] at hl
  have hf := from_nat x.length P.length (by omega)
  have hat : x.cps.getD (P.length + Q.length) 0 = c := by
    rw [getD_L, h, List.getElem?_append_right (by omega), Nat.add_sub_cancel_left, List.getElem?_append_right (by omega), Nat.sub_self]; rfl
  have hbefore : ∀ v, P.length ≤ v → v < P.length + Q.length → x.cps.getD v 0 ≠ c := by
    intro v h1 h2 he
    rw [getD_L, h, List.getElem?_append_right h1, List.getElem?_append_left (by omega)] at he
    have hv : v - P.length < Q.length := by omega
    rw [List.getElem?_eq_getElem hv] at he
    exact hQ (by rw [← show Q[v - P.length] = c from he]; exact List.getElem_mem hv)
  rcases StrLaws.find3_spec x c (P.length : Int) with ⟨_, hn⟩ | ⟨k, e, h1, h2, h3, h4⟩
  · exact absurd hat (hn _ (by omega) (by omega))
  · rw [e]
    have : k = P.length + Q.length := by
      rcases Nat.lt_trichotomy k (P.length + Q.length) with q | q | q
      · exact absurd h3 (hbefore k (by omega) q)
      · exact q
      · exact absurd hat (h4 _ (by omega) q)
    rw [this]
theorem find3_free {x : Str} {c : Nat} {P Q : List Nat} (h : x.cps.toList = P ++ Q) (hQ : c ∉ Q) : Txt.find3 x ⟨#[c]⟩ (P.length : Int) = -1 := by
  have hl := tl_len x
  rw [h] at hl
  simp only [List.length_append] at hl
  have hf := from_nat x.length P.length (by omega)
  rcases StrLaws.find3_spec x c (P.length : Int) with ⟨e, _⟩ | ⟨k, e, h1, h2, h3, h4⟩
  · exact e
  · exfalso
    rw [getD_L, h, List.getElem?_append_right (by omega)] at h3
    have hv : k - P.length < Q.length := by omega
    rw [List.getElem?_eq_getElem hv] at h3
    exact hQ (by rw [← show Q[k - P.length] = c from h3]; exact List.getElem_mem hv)
theorem find_at {x : Str} {c : Nat} {Q R : List Nat} (h : x.cps.toList = Q ++ c :: R) (hQ : c ∉ Q) : Txt.find x ⟨#[c]⟩ = (Q.length : Int) := by
  rw [find_is3]
  have := find3_at (P := []) (by rw [h]; rfl) hQ
  simpa using this
/-! pieces -/
theorem slice_at {x : Str} {P Q R : List Nat} (h : x.cps.toList = P ++ (Q ++ R)) : (Txt.slice x (some (P.length : Int)) (some ((P.length + Q.length : Nat) : Int))).cps.toList = Q := by
  have hl := tl_len x
  rw [h] at hl
  simp only [List.length_append] at hl
  have e : Txt.slice x (some (P.length : Int)) (some ((P.length + Q.length : Nat) : Int)) = ⟨((x.cps.toList.drop P.length).take (P.length + Q.length - P.length)).toArray⟩ :=
    StrLaws.sliceText_nat x (by omega) (by omega)
  rw [e]
  show (((x.cps.toList.drop P.length).take (P.length + Q.length - P.length)).toArray).toList = Q
  rw [h]; simp
theorem slice3_at {x : Str} {Q R : List Nat} (h : x.cps.toList = Q ++ R) : (Txt.slice x none (some (Q.length : Int))).cps.toList = Q := by
  have hl := tl_len x
  rw [h] at hl
  simp only [List.length_append] at hl
  have e : Txt.slice x none (some (Q.length : Int)) = ⟨((x.cps.toList.drop 0).take ((Q.length : Int) - 0).toNat).toArray⟩ := StrLaws.sliceText_to ⟨by omega, by rw [tl_len]; omega⟩
  rw [e]
  show (((x.cps.toList.drop 0).take ((Q.length : Int) - 0).toNat).toArray).toList = Q
  rw [h]; simp
theorem item_at {x : Str} {c : Nat} {P R : List Nat} (h : x.cps.toList = P ++ c :: R) {i : Int} (hi : i = (P.length : Int)) : Txt.item x i = ⟨#[c]⟩ := by
  have e : x.cps[(P.length : Int).toNat]? = some c := by
    rw [show x.cps[(P.length : Int).toNat]? = x.cps.toList[P.length]? by simp, h]; simp
  unfold Txt.item Txt.charAt
  rw [hi, StrLaws.at_nonneg (by omega) e]; rfl
theorem item_last {x : Str} {c : Nat} {P : List Nat} (h : x.cps.toList = P ++ [c]) : Txt.item x (-1) = ⟨#[c]⟩ := by
  have hl := tl_len x
  rw [h] at hl
  simp only [List.length_append, List.length_cons, List.length_nil] at hl
  have e : x.cps[(-1 + (x.length : Int)).toNat]? = some c := by
    rw [show (-1 + (x.length : Int)).toNat = P.length by omega, show x.cps[P.length]? = x.cps.toList[P.length]? by simp, h]; simp
  unfold Txt.item Txt.charAt
  rw [StrLaws.at_neg (by decide) (by omega) e]; rfl
/-! the cut at a sign -/
theorem join_L (c : Nat) : ∀ ps : List Str, ps ≠ [] → (∀ p ∈ ps, c ∉ p.cps.toList) → splitL c (Str.join ⟨#[c]⟩ ps).cps.toList = ps.map (·.cps.toList)
  | [], h, _ => absurd rfl h
  | [p], _, h => by
    show splitL c p.cps.toList = _
    rw [splitL_free c _ (h p (List.mem_singleton.mpr rfl))]; rfl
  | p :: q :: r, _, h => by
    have ih := join_L c (q :: r) (by simp) fun a ha => h a (List.mem_cons_of_mem _ ha)
    show splitL c (p ++ ⟨#[c]⟩ ++ Str.join ⟨#[c]⟩ (q :: r)).cps.toList = _
    have e : (p ++ ⟨#[c]⟩ ++ Str.join ⟨#[c]⟩ (q :: r)).cps.toList = p.cps.toList ++ c :: (Str.join ⟨#[c]⟩ (q :: r)).cps.toList := by
      simp only [Str.cps_append, Array.toList_append]; simp
    rw [e, splitL_app c _ _ (h p (List.mem_cons_self ..)), ih]; rfl
theorem split_L (x : Str) (c : Nat) : (Txt.split x ⟨#[c]⟩).map (·.cps.toList) = splitL c x.cps.toList := by
  have h1 := StrLaws.join_split x ⟨#[c]⟩
  have h2 := StrLaws.split_free x c
  have h3 : Txt.split x ⟨#[c]⟩ ≠ [] := fun q => by have := PyProof.Rows.split_pos x ⟨#[c]⟩; rw [q] at this; exact absurd this (by decide)
  have := join_L c _ h3 h2
  rw [h1] at this
  exact this.symm
theorem cnt_L (c : Nat) : ∀ l : List Nat, cnt c l = (l.count c : Int)
  | [] => rfl
  | a :: r => by
    rw [cnt_cons, cnt_L c r, List.count_cons]
    by_cases h : a = c
    · subst h; simp; omega
    · simp [h]
theorem count_L (x : Str) (c : Nat) : Txt.count x ⟨#[c]⟩ = (x.cps.toList.count c : Int) := by rw [count_is x c]; exact cnt_L c _
/-! what int() makes of a text of marks and figures -/
noncomputable def marks : List Nat := [115, 83, 383, 223, 7838, 173, 8203, 8288, 65039]
noncomputable def isFig (c : Nat) : Bool := decide (48 ≤ c ∧ c ≤ 57)
theorem fig_iff {c : Nat} : isFig c = true ↔ 48 ≤ c ∧ c ≤ 57 := by unfold isFig; exact decide_eq_true_iff
noncomputable def hard (c : Nat) : Bool := c == 63 || c == 115 || c == 83
theorem marks_way : ∀ c ∈ marks, isFig c = false ∧ ((c < 127 ∧ hard c = true) ∨ (127 ≤ c ∧ Unicode.isSpace c = false ∧ Unicode.decimalValue? c = none)) := by decide +kernel
open NumText in
theorem step_hard {c : Nat} (h : hard c = true) (p : Array Nat × Bool) : step 10 p c = none := by
  have : c = 63 ∨ c = 115 ∨ c = 83 := by
    unfold hard at h
    simp only [Bool.or_eq_true, beq_iff_eq] at h
    omega
  rcases this with rfl | rfl | rfl <;> rfl
open NumText in
theorem fold_hard : ∀ (l : List Nat) (p : Array Nat × Bool), (∃ c ∈ l, hard c = true) → l.foldlM (step 10) p = none
  | [], _, ⟨_, h, _⟩ => by cases h
  | a :: r, p, ⟨c, hc, hh⟩ => by
    rw [List.foldlM_cons]
    rcases List.mem_cons.mp hc with rfl | hc
    · rw [step_hard hh]; rfl
    · cases step 10 p a with
      | none => rfl
      | some q => exact fold_hard r q ⟨c, hc, hh⟩
noncomputable def plain (c : Nat) : Bool := isFig c || hard c
open NumText in
theorem plain_way {c : Nat} (h : plain c = true) : blank c = false ∧ c ≠ 45 ∧ c ≠ 43 ∧ c ≠ 0 := by
  have : (48 ≤ c ∧ c ≤ 57) ∨ c = 63 ∨ c = 115 ∨ c = 83 := by
    unfold plain hard at h
    simp only [Bool.or_eq_true, beq_iff_eq, fig_iff] at h
    omega
  have b : blank c = false := by
    unfold blank
    rw [Bool.or_eq_false_iff]
    refine ⟨beq_eq_false_iff_ne.mpr (by omega), ?_⟩
    rw [Bool.and_eq_false_iff]
    exact .inr (decide_eq_false (by omega))
  exact ⟨b, by omega, by omega, by omega⟩
open NumText in
theorem dropWhile_plain : ∀ l : List Nat, (∀ c ∈ l, plain c = true) → l.dropWhile blank = l
  | [], _ => rfl
  | c :: r, h => by rw [List.dropWhile_cons, (plain_way (h c (by simp))).1]; rfl
open NumText in
theorem core_plain {l : List Nat} (h : ∀ c ∈ l, plain c = true) : core l = l := by
  unfold core
  rw [dropWhile_plain l h]
  have e : sign l = (false, l) := by
    cases l with
    | nil => rfl
    | cons c r => have w := plain_way (h c (by simp)); exact sign_of w.2.1 w.2.2.1
  rw [e]
  show (l.reverse.dropWhile blank).reverse = l
  rw [dropWhile_plain _ (fun c hc => h c (List.mem_reverse.mp hc)), List.reverse_reverse]
theorem nt_plain : ∀ l : List Nat, (∀ c ∈ l, c ∈ marks ∨ isFig c = true) → (∀ c ∈ Unicode.numberText l, plain c = true) ∧ ((∃ c ∈ l, isFig c = false) → ∃ c ∈ Unicode.numberText l, hard c = true)
  | [], _ => ⟨fun c hc => by simp [Unicode.numberText] at hc, fun ⟨_, h, _⟩ => by cases h⟩
  | a :: r, h => by
    have ih := nt_plain r fun c hc => h c (List.mem_cons_of_mem _ hc)
    rw [Unicode.numberText]
    rcases h a (List.mem_cons_self ..) with ha | ha
    · obtain ⟨f, w⟩ := marks_way a ha
      rcases w with ⟨w1, w2⟩ | ⟨w1, w2, w3⟩
      · rw [if_pos w1]
        refine ⟨fun c hc => ?_, fun _ => ⟨a, List.mem_cons_self .., w2⟩⟩
        rcases List.mem_cons.mp hc with rfl | hc
        · unfold plain; rw [w2, Bool.or_true]
        · exact ih.1 c hc
      · rw [if_neg (by omega), w2, if_neg Bool.false_ne_true, w3]
        refine ⟨fun c hc => ?_, fun _ => ⟨63, by simp, rfl⟩⟩
        have : c = 63 := by simpa using hc
        subst this; rfl
    · have hf := fig_iff.mp ha
      rw [if_pos (by omega)]
      refine ⟨fun c hc => ?_, fun ⟨c, hc, hx⟩ => ?_⟩
      · rcases List.mem_cons.mp hc with rfl | hc
        · unfold plain; rw [ha, Bool.true_or]
        · exact ih.1 c hc
      · rcases List.mem_cons.mp hc with rfl | hc
        · rw [ha] at hx; cases hx
        · obtain ⟨y, hy, hz⟩ := ih.2 ⟨c, hc, hx⟩
          exact ⟨y, List.mem_cons_of_mem _ hy, hz⟩
open NumText in
theorem noint_text {x : Str} (h : ∀ c ∈ x.cps.toList, c ∈ marks ∨ isFig c = true) (hn : NoInt isFig x.cps.toList) : PySem.intText? x = none := by
  have key : digits? 10 (core (numSeenOf x)) = none := by
    rcases hn with he | hex
    · have e1 : numTextOf x = [] := by
        show (if x.cps.all (· < 128) then x.cps.toList else Unicode.numberText x.cps.toList) = []
        rw [he]; split <;> rfl
      show digits? 10 (core ((numTextOf x).takeWhile _)) = none
      rw [e1]; rfl
    · have hp : (∀ c ∈ numTextOf x, plain c = true) ∧ ∃ c ∈ numTextOf x, hard c = true := by
        by_cases ha : x.cps.all (· < 128) = true
        · have e1 : numTextOf x = x.cps.toList := if_pos ha
          rw [e1]
          rw [← Array.all_toList, List.all_eq_true] at ha
          have hw : ∀ c ∈ x.cps.toList, isFig c = true ∨ hard c = true := by
            intro c hc
            rcases h c hc with hm | hf
            · have hs : c < 128 := of_decide_eq_true (ha c hc)
              rcases (marks_way c hm).2 with w | w
              · exact .inr w.2
              · have : c ≠ 127 := by rintro rfl; exact absurd hm (by decide)
                omega
            · exact .inl hf
          refine ⟨fun c hc => ?_, ?_⟩
          · unfold plain; rcases hw c hc with q | q <;> rw [q]
            · rfl
            · rw [Bool.or_true]
          · obtain ⟨c, hc, hx⟩ := hex
            rcases hw c hc with q | q
            · rw [q] at hx; cases hx
            · exact ⟨c, hc, q⟩
        · have e1 : numTextOf x = Unicode.numberText x.cps.toList := if_neg ha
          rw [e1]
          have := nt_plain _ h
          exact ⟨this.1, this.2 hex⟩
      have e2 : numSeenOf x = numTextOf x := takeWhile_all fun c hc => bne_iff_ne.mpr (plain_way (hp.1 c hc)).2.2.2
      rw [e2, core_plain hp.1]
      unfold digits?
      rw [fold_hard _ _ hp.2]; rfl
  unfold PySem.intText?
  rw [key]
  split <;> rfl
end

section

set_option maxHeartbeats 8000000
/-- a drawn reply in the ledger -/
structure Drw where
  D : Addr
  fa : Addr
  ba : Addr
  vf : List Value
  vb : List Value
  nf : Nat
  nb : Nat
  tp : Tok
  td : Tok
noncomputable abbrev Drw.own (d : Drw) (n : Int) : List (Addr × Obj) := [(d.D, drObj d.fa d.ba (portN n) (hidN n) (dressN n) d.tp d.td), (d.ba, listOf d.vb.toArray d.nb), (d.fa, listOf d.vf.toArray d.nf)]
structure Drw.Ok (d : Drw) (n : Int) : Prop where
  f : IntsAre d.vf (frontN n)
  b : IntsAre d.vb (backN n)
theorem restN_b (n : Int) : 0 ≤ n.fmod 25920000 ∧ n.fmod 25920000 < 25920000 := ⟨Int.fmod_nonneg_of_pos _ (by decide), Int.fmod_lt_of_pos _ (by decide)⟩
theorem f6 (a : Int) : 0 ≤ a.fmod 6 ∧ a.fmod 6 ≤ 5 := ⟨Int.fmod_nonneg_of_pos _ (by decide), by have := Int.fmod_lt_of_pos a (b := 6) (by decide); omega⟩
theorem f3 (a : Int) : 0 ≤ a.fmod 3 ∧ a.fmod 3 ≤ 5 := ⟨Int.fmod_nonneg_of_pos _ (by decide), by have := Int.fmod_lt_of_pos a (b := 3) (by decide); omega⟩
theorem f2 (a : Int) : 0 ≤ 3 + a.fmod 2 ∧ 3 + a.fmod 2 ≤ 5 := by
  have h1 := Int.fmod_nonneg_of_pos a (b := 2) (by decide)
  have h2 := Int.fmod_lt_of_pos a (b := 2) (by decide)
  omega
theorem frontN_b (n : Int) : ∀ k ∈ frontN n, 0 ≤ k ∧ k ≤ 5 := by
  unfold frontN
  repeat' split
  all_goals intro k hk
  all_goals simp only [List.mem_cons, List.not_mem_nil, or_false] at hk
  · rcases hk with rfl | rfl | rfl <;> exact f6 _
  · rcases hk with rfl | rfl
    · exact f2 _
    · exact f3 _
  · rcases hk with rfl | rfl | rfl | rfl
    · exact f6 _
    · decide
    · exact f6 _
    · exact f6 _
  · rcases hk with rfl | rfl <;> exact f6 _
theorem backN_b (n : Int) : ∀ k ∈ backN n, 0 ≤ k ∧ k ≤ 5 := by
  unfold backN
  repeat' split
  all_goals intro k hk
  all_goals simp only [List.mem_cons, List.not_mem_nil, or_false] at hk
  · rcases hk with rfl; exact f6 _
  · rcases hk with rfl; exact f3 _
  · rcases hk with rfl; exact f3 _
  · rcases hk with rfl | rfl <;> exact f6 _
theorem frontN_l (n : Int) : (frontN n).length ≤ 4 := by
  unfold frontN
  repeat' split
  all_goals simp
theorem backN_l (n : Int) : (backN n).length ≤ 4 := by
  unfold backN
  repeat' split
  all_goals simp
theorem portN_b (n : Int) : 0 ≤ portN n ∧ portN n ≤ 999 := by
  unfold portN
  exact ⟨Int.fmod_nonneg_of_pos _ (by decide), by have := Int.fmod_lt_of_pos ((n.fmod 25920000).fdiv 5184) (b := 1000) (by decide); omega⟩
theorem dressN_b (n : Int) : 0 ≤ dressN n ∧ dressN n ≤ 4 := by
  unfold dressN
  have h := restN_b n
  rw [Int.fdiv_eq_ediv_of_nonneg _ (by decide)]
  omega
/-- the reply that is drawn for n, at a stage -/
noncomputable def repS (n stage : Int) : Str := replyS (frontN n) (backN n) (portN n) (hidN n) (dressN n) stage
noncomputable def dueN (n stage : Int) : Ans := dueS (spellS (portN n) stage (frontN n)) (spellS (portN n) stage (backN n)) (portN n) (hidN n) (dressN n) stage
noncomputable def rowS (r : Str) : Str := Str.ofString "\"" ++ r ++ Str.ofString "\"\n"
noncomputable def pageS (n : Nat → Int) (stage : Int) : Str := Txt.join (Str.ofString "") [rowS (repS (n 0) stage), rowS (repS (n 1) stage), rowS (repS (n 2) stage)]
theorem codeS_len (hid : Bool) (stage port : Int) : (codeS hid stage port).length ≤ 6 := by
  unfold codeS; split
  · rw [PySem.Str.length_append, PySem.Str.length_append, strC_len]; decide
  · decide
theorem repS_len (n stage : Int) : (repS n stage).length ≤ 60 := by
  unfold repS replyS
  have h1 := codeS_len (hidN n) stage (portN n)
  have h2 : (leftS (dressN n)).length ≤ 7 := sel5_len (by decide) (by decide) (by decide) (by decide) (by decide)
  have h3 : (rightS (dressN n)).length ≤ 7 := sel5_len (by decide) (by decide) (by decide) (by decide) (by decide)
  have h4 := spellS_len (portN n) stage _ (frontN_l n)
  have h5 := spellS_len (portN n) stage _ (backN_l n)
  have hp := portN_b n
  have h6 : (Str.ofString (toString (portN n))).length ≤ 10 := KT.len_num hp.1 (by omega)
  simp only [PySem.Str.length_append]
  omega
theorem rowS_len (n stage : Int) : (rowS (repS n stage)).length ≤ 63 := by
  have h := repS_len n stage
  unfold rowS
  rw [PySem.Str.length_append, PySem.Str.length_append]
  have h1 : (Str.ofString "\"").length = 1 := by decide
  have h2 : (Str.ofString "\"\n").length = 2 := by decide
  omega
theorem pageS_cps (n : Nat → Int) (stage : Int) : (pageS n stage).cps.toList = (rowS (repS (n 0) stage)).cps.toList ++ ((rowS (repS (n 1) stage)).cps.toList ++ (rowS (repS (n 2) stage)).cps.toList) := by
  unfold pageS
  rw [join_cps]
  simp
theorem pageS_len (n : Nat → Int) (stage : Int) : (pageS n stage).length ≤ 600 := by
  have h := congrArg List.length (pageS_cps n stage)
  have h0 := rowS_len (n 0) stage
  have h1 := rowS_len (n 1) stage
  have h2 := rowS_len (n 2) stage
  have e : ∀ x : Str, x.cps.toList.length = x.length := fun x => Array.length_toList
  rw [List.length_append, List.length_append, e, e, e, e] at h
  omega
theorem replyd_ (w : World) (d : Drw) (n stage : Int) (ts : Tok) (ok : d.Ok n) (hs : 0 ≤ stage ∧ stage ≤ 2) : Tells0 w 209 [.ref d.D, .int stage ts] 5 40 (fun base h₀ L m news s Q => (∀ p ∈ d.own n, p ∈ news) ∧ (∀ (t : Tok) (h' : Heap) (tk' : Nat), Fr h₀ L h' m → News h₀ L h' news → Q (.str (repS n stage) t) { s with heap := h', toks := tk' })) :=
  fun loose mean mg mb dp un gd cn cs a ccd cl outer A₀ base h₀ L m news s Q E B F X N T hk hd hu hret =>
    reply_ w d.D d.fa d.ba d.vf d.vb d.nf d.nb (frontN n) (backN n) (portN n) (dressN n) stage (hidN n) d.tp d.td ts ok.f ok.b (frontN_b n) (backN_b n) (frontN_l n) (backN_l n) (portN_b n) (dressN_b n) hs
      loose mean mg mb dp un gd cn cs a ccd cl outer A₀ base h₀ L m news s Q E B F X N T hk hd hu ⟨hret.1 _ (.head _), hret.1 _ (.tail _ (.tail _ (.head _))), hret.1 _ (.tail _ (.head _)), hret.2⟩
theorem dued_ (w : World) (d : Drw) (n stage : Int) (ts th : Tok) (host : Str) (ok : d.Ok n) (hs : 0 ≤ stage ∧ stage ≤ 2) : Tells0 w 216 [.ref d.D, .int stage ts, .str host th] 5 60 (fun base h₀ L m news s Q => (∀ p ∈ d.own n, p ∈ news) ∧ (∀ (v : Value) (own : List (Addr × Obj)) (h' : Heap) (tk' : Nat), AnsV host (dueN n stage) v own → Fr h₀ L h' m → News h₀ L h' (own ++ news) → Q v { s with heap := h', toks := tk' })) :=
  fun loose mean mg mb dp un gd cn cs a ccd cl outer A₀ base h₀ L m news s Q E B F X N T hk hd hu hret =>
    due_ w d.D d.fa d.ba d.vf d.vb d.nf d.nb (frontN n) (backN n) (portN n) (dressN n) stage (hidN n) d.tp d.td ts th host ok.f ok.b (frontN_b n) (backN_b n) (frontN_l n) (backN_l n) (portN_b n) (dressN_b n) hs
      loose mean mg mb dp un gd cn cs a ccd cl outer A₀ base h₀ L m news s Q E B F X N T hk hd hu ⟨hret.1 _ (.head _), hret.1 _ (.tail _ (.tail _ (.head _))), hret.1 _ (.tail _ (.head _)), hret.2⟩
/-- the table of the codes of _law_stream: not filled yet, or filled by an earlier call -/
noncomputable def TabSt (c : List (Addr × Obj)) : Prop :=
  c = [(178, tabObj #[])] ∨ ∃ c1 c2 oc2, c = [(178, tabF c1 c2), (c2, oc2)] ∧ (∃ vs t, oc2.data = .fields vs ∧ vs[1]? = some (.str qualR t)) ∧ @LT.lt Nat _ 178 c2
theorem tabSt_codes {S : Strm} {news : List (Addr × Obj)} (h : S.Ok news) : TabSt S.codes := .inr ⟨S.c1, S.c2, S.oc2, rfl, h.code, h.a7⟩
theorem stream_ (w : World) (x : Str) (t : Tok) (hx : x.length ≤ 600) (codes : List (Addr × Obj)) (hc : TabSt codes) : ∀ (loose : List Str) (mean : ExcName → Option Value) (mg mb : Str → Option Value) (dp un : Nat) (gd : Option (List Code)) (cn : Str) (cs : Scope) (a : Addr) (ccd : Value) (cl : List (Str × Addr)) (outer : List Env) (A₀ : Around) (base h₀ : Heap) (L : Addr) (m : Str → Option Value) (news : List (Addr × Obj)) (s : Shared) (Q E : Value → Shared → Prop),
    Below A₀ base outer h₀ → Fr h₀ L s.heap m → (K w.params).In h₀ → News h₀ L s.heap (codes ++ news) → Top topProg loose mean mg mb h₀ → CodeHd base 182 178 → (∀ p ∈ news, p.1 ≠ 178) → cs.kind = .function → dp + 9 < recursionLimit → un + 60 < cLine →
    (∀ (S : Strm) (l : List (Str × Tok)) (cc : Nat) (h' : Heap) (tk' : Nat), S.Ok news → l.map (·.1) = (signs x).reverse → Fr h₀ L h' m → News h₀ L h' (S.own w l cc ++ (S.codes ++ news)) → Q (.ref S.st) { s with heap := h', toks := tk' }) →
    wpAny (model PySem.Challenge.rw_tr0056_01.row.prog w) (ktrTop dp un gd cn cs L a ccd cl outer) (call (.ref 183) [.str x t]) Q E s := by
  intro loose mean mg mb dp un gd cn cs a ccd cl outer A₀ base h₀ L m news s Q E B F X N T hC hn hk hd hu hret
  rcases hc with rfl | ⟨c1, c2, oc2, rfl, hv, h7⟩
  · exact stream1_ w x t hx loose mean mg mb dp un gd cn cs a ccd cl outer A₀ base h₀ L m news s Q E B F X N T hC hn hk hd hu hret
  · exact stream2_ w x t hx c1 c2 oc2 hv h7 loose mean mg mb dp un gd cn cs a ccd cl outer A₀ base h₀ L m news s Q E B F X N T hC hn hk hd hu (fun S l cc h' tk' a1 _ _ _ a2 a3 a4 => hret S l cc h' tk' a1 a2 a3 a4)
theorem gettok_ (w : World) (X : Lexr) (S : Strm) (cc : Nat) (n n' : Int) (tn : Tok) (nw0 news : List (Addr × Obj)) (hS : S.Ok nw0) (hX : X.Ok S) (n1 : ∀ p ∈ news, p.1 ≠ S.sl) (n2 : ∀ p ∈ news, p.1 ≠ X.dx) (pre rest r : List (Str × Tok)) (dq dq2 : Str × Tok) (hpre : (pre = [] ∧ n' = n) ∨ ∃ nl : Str × Tok, pre = [nl] ∧ nl.1 = Str.ofString "\n" ∧ n' = n + 1) (hdq : dq.1 = Str.ofString "\"") (hdq2 : dq2.1 = Str.ofString "\"")
    (hr : ∀ p ∈ r, p.1 ≠ Str.ofString "\"" ∧ p.1 ≠ Str.ofString "\\" ∧ p.1 ≠ Str.ofString "\n" ∧ p.1.length = 1) (hok : ∀ p ∈ pre ++ dq :: (r ++ dq2 :: rest), PyData.strOk p.1 = true) (hlen : (r ++ dq2 :: rest).length ≤ 80000) (hrl : r.length ≤ 300) : ∀ (loose : List Str) (mean : ExcName → Option Value) (mg mb : Str → Option Value) (dp un : Nat) (gd : Option (List Code)) (cn : Str) (cs : Scope) (a : Addr) (ccd : Value) (cl : List (Str × Addr)) (outer : List Env) (A₀ : Around) (base h₀ : Heap) (L : Addr) (m : Str → Option Value) (s : Shared) (Q E : Value → Shared → Prop),
    Below A₀ base outer h₀ → Fr h₀ L s.heap m → (K w.params).In h₀ → News h₀ L s.heap (X.own w S.st n tn ++ (S.own w (pre ++ dq :: (r ++ dq2 :: rest)).reverse cc ++ (S.codes ++ news))) → Top topProg loose mean mg mb h₀ → CodeHd base 182 178 → cs.kind = .function → dp + 12 < recursionLimit → un + 150 < cLine →
    (∀ (u tn' : Tok) (cc' : Nat) (h' : Heap) (tk' : Nat), Fr h₀ L h' m → News h₀ L h' (X.own w S.st n' tn' ++ (S.own w (rest).reverse cc' ++ (S.codes ++ news))) → Q (.str (cat (Str.ofString "") r) u) { s with heap := h', toks := tk' }) →
    wpAny (model PySem.Challenge.rw_tr0056_01.row.prog w) (ktrTop dp un gd cn cs L a ccd cl outer) (call (.ref 93) [.ref X.x]) Q E s := by
  intro loose mean mg mb dp un gd cn cs a ccd cl outer A₀ base h₀ L m s Q E B F X9 N T hC hk hd hu hret
  rcases hpre with ⟨rfl, rfl⟩ | ⟨nl, rfl, hnl, rfl⟩
  · exact gettok0_ w X S cc n' tn nw0 news hS hX n1 n2 rest r dq dq2 hdq hdq2 hr hok hlen hrl loose mean mg mb dp un gd cn cs a ccd cl outer A₀ base h₀ L m s Q E B F X9 N T hC hk hd hu hret
  · exact gettok1_ w X S cc n tn nw0 news hS hX n1 n2 rest r dq dq2 nl hnl hdq hdq2 hr hok hlen hrl loose mean mg mb dp un gd cn cs a ccd cl outer A₀ base h₀ L m s Q E B F X9 N T hC hk hd hu hret
end

section
open PySem.Builtin PySem.Builtin.Str
/-! what the preparation makes of a sign -/
noncomputable def prepC (P : Params) (c : Nat) : List Nat := if inB1 P (c : Int) = true then [] else (mapS c).cps.toList
theorem prepS_cps (P : Params) (x : Str) : (prepS P x).cps.toList = x.cps.toList.flatMap (prepC P) := by
  unfold prepS
  rw [join_cps]
  unfold prepL
  generalize x.cps.toList = l
  induction l with
  | nil => rfl
  | cons c r ih =>
    rw [List.flatMap_cons, ← ih]
    unfold prepC
    cases h : inB1 P (c : Int) <;> simp [h]
noncomputable def stay : List Nat := [10, 32, 34, 40, 41, 48, 49, 50, 51, 52, 53, 54, 55, 56, 57, 115]
theorem stay_all (P : Params) : (stay.all fun c => prepC P c == [c]) = true := by kernel_rfl
theorem stay_prep (P : Params) {c : Nat} (h : c ∈ stay) : prepC P c = [c] := by
  have := List.all_eq_true.mp (stay_all P) c h
  exact eq_of_beq this
theorem stay_list (P : Params) : ∀ l : List Nat, (∀ c ∈ l, c ∈ stay) → l.flatMap (prepC P) = l
  | [], _ => rfl
  | c :: r, h => by rw [List.flatMap_cons, stay_prep P (h c (by simp)), stay_list P r (fun x hx => h x (by simp [hx]))]; rfl
noncomputable def pre (P : Params) (x : Str) : List Nat := x.cps.toList.flatMap (prepC P)
theorem pre_S (P : Params) : pre P (Str.ofString "S") = [115] := by kernel_rfl
theorem pre_s (P : Params) : pre P (Str.ofString "s") = [115] := by kernel_rfl
theorem pre_ls (P : Params) : pre P (Str.ofString "ſ") = [115] := by kernel_rfl
theorem pre_ss (P : Params) : pre P (Str.ofString "ss") = [115, 115] := by kernel_rfl
theorem pre_sz (P : Params) : pre P (Str.ofString "ß") = [115, 115] := by kernel_rfl
theorem pre_SZ (P : Params) : pre P (Str.ofString "ẞ") = [223] := by kernel_rfl
theorem pre_c0 (P : Params) : pre P (Str.ofString "\u00ad") = [] := by kernel_rfl
theorem pre_c1 (P : Params) : pre P (Str.ofString "\u200b") = [] := by kernel_rfl
theorem pre_c2 (P : Params) : pre P (Str.ofString "\u2060") = [] := by kernel_rfl
theorem pre_c3 (P : Params) : pre P (Str.ofString "\ufe0f") = [] := by kernel_rfl
theorem pre_strC (P : Params) (port : Int) : pre P (strC port) = [] := by
  unfold strC
  repeat' split
  · exact pre_c0 P
  · exact pre_c1 P
  · exact pre_c2 P
  · exact pre_c3 P
theorem sign_next (P : Params) (port k : Int) {st : Nat} (hst : st < 2) : pre P (sign1 port (st : Int) k) = (sign1 port ((st : Int) + 1) k).cps.toList := by
  have c : st = 0 ∨ st = 1 := by omega
  unfold sign1
  rcases c with rfl | rfl
  · split
    · exact pre_s P
    split
    · exact pre_S P
    split
    · exact pre_ls P
    split
    · exact pre_sz P
    split
    · exact pre_SZ P
    · exact pre_strC P port
  · split
    · exact pre_s P
    split
    · exact pre_s P
    split
    · exact pre_s P
    split
    · exact pre_ss P
    split
    · exact pre_sz P
    · rfl
theorem spell_next (P : Params) (port : Int) (ks : List Int) {st : Nat} (hst : st < 2) : pre P (spellS port (st : Int) ks) = (spellS port ((st : Int) + 1) ks).cps.toList := by
  unfold pre spellS
  rw [join_cps, join_cps, List.flatMap_assoc]
  induction ks with
  | nil => rfl
  | cons k r ih => rw [List.map_cons, List.map_cons, List.flatMap_cons, List.flatMap_cons, ih]; exact congrArg (· ++ _) (sign_next P port k hst)
theorem pre_app (P : Params) (a b : Str) : pre P (a ++ b) = pre P a ++ pre P b := by unfold pre; rw [cps_append, List.flatMap_append]
theorem pre_stay (P : Params) {x : Str} (h : ∀ c ∈ x.cps.toList, c ∈ stay) : pre P x = x.cps.toList := stay_list P _ h
theorem code_next (P : Params) (port : Int) (hid : Bool) {st : Nat} (hst : st < 2) : pre P (codeS hid (st : Int) port) = (codeS hid ((st : Int) + 1) port).cps.toList := by
  unfold codeS
  rw [if_neg (show ¬ (hid = true ∧ (st : Int) + 1 = 0) by omega)]
  split
  · rw [pre_app, pre_app, pre_strC]
    kernel_rfl
  · exact pre_stay P (by decide)
theorem left_stay {d : Int} (h : 0 ≤ d ∧ d ≤ 4) : ∀ c ∈ (leftS d).cps.toList, c ∈ stay := by
  have c : d = 0 ∨ d = 1 ∨ d = 2 ∨ d = 3 ∨ d = 4 := by omega
  rcases c with rfl | rfl | rfl | rfl | rfl <;> decide
theorem right_stay {d : Int} (h : 0 ≤ d ∧ d ≤ 4) : ∀ c ∈ (rightS d).cps.toList, c ∈ stay := by
  have c : d = 0 ∨ d = 1 ∨ d = 2 ∨ d = 3 ∨ d = 4 := by omega
  rcases c with rfl | rfl | rfl | rfl | rfl <;> decide
theorem num_figs {n : Int} (h0 : 0 ≤ n) : ∀ c ∈ (Str.ofString (toString n)).cps.toList, isFig c = true := by
  obtain ⟨m, rfl⟩ := Int.eq_ofNat_of_zero_le h0
  intro c hc
  rw [KIN.signs_num] at hc
  obtain ⟨ch, hch, e⟩ := List.mem_map.mp hc
  have r := digit_range (Nat.isDigit_of_mem_toDigits (by decide) (by decide) hch)
  rw [← e]
  exact fig_iff.mpr r
theorem fig_stay {c : Nat} (h : isFig c = true) : c ∈ stay := by
  have := fig_iff.mp h
  unfold stay
  simp only [List.mem_cons, List.not_mem_nil, or_false]
  omega
theorem rep_next (P : Params) (n : Int) {st : Nat} (hst : st < 2) : pre P (repS n (st : Int)) = (repS n ((st : Int) + 1)).cps.toList := by
  unfold repS replyS
  simp only [pre_app, cps_append]
  rw [code_next P _ _ hst, spell_next P _ _ hst, spell_next P _ _ hst, pre_stay P (left_stay (dressN_b n)), pre_stay P (right_stay (dressN_b n)), pre_stay P (fun c hc => fig_stay (num_figs (portN_b n).1 c hc))]
theorem row_next (P : Params) (n : Int) {st : Nat} (hst : st < 2) : pre P (rowS (repS n (st : Int))) = (rowS (repS n ((st : Int) + 1))).cps.toList := by
  unfold rowS
  simp only [pre_app, cps_append]
  rw [rep_next P n hst, pre_stay P (x := Str.ofString "\"") (by decide), pre_stay P (x := Str.ofString "\"\n") (by decide)]
theorem prep_page (ps : Params) (n : Nat → Int) (st : Nat) (hst : st < 2) : prepS ps (pageS n st) = pageS n ((st : Int) + 1) := by
  refine str_ext ?_
  rw [prepS_cps, pageS_cps, pageS_cps, List.flatMap_append, List.flatMap_append]
  show pre ps _ ++ (pre ps _ ++ pre ps _) = _
  rw [row_next ps _ hst, row_next ps _ hst, row_next ps _ hst]
/-! the signs of a reply -/
noncomputable def repSet : List Nat := marks ++ [32, 40, 41, 48, 49, 50, 51, 52, 53, 54, 55, 56, 57]
theorem rep_all : (repSet.all fun c => decide (PyData.strOk ⟨#[c]⟩ = true ∧ (⟨#[c]⟩ : Str) ≠ Str.ofString "\"" ∧ (⟨#[c]⟩ : Str) ≠ Str.ofString "\\" ∧ (⟨#[c]⟩ : Str) ≠ Str.ofString "\n" ∧ (⟨#[c]⟩ : Str).length = 1)) = true := by decide +kernel
theorem strC_marks (port : Int) : ∀ c ∈ (strC port).cps.toList, c ∈ marks := by
  unfold strC
  repeat' split
  all_goals decide
theorem sign_marks (port st k : Int) : ∀ c ∈ (sign1 port st k).cps.toList, c ∈ marks := by
  unfold sign1
  repeat' split
  all_goals first | exact strC_marks port | decide
theorem spell_marks (port st : Int) (ks : List Int) : ∀ c ∈ (spellS port st ks).cps.toList, c ∈ marks := by
  unfold spellS
  rw [join_cps]
  intro c hc
  obtain ⟨x, hx, hc⟩ := List.mem_flatMap.mp hc
  obtain ⟨k, _, rfl⟩ := List.mem_map.mp hx
  exact sign_marks port st k c hc
theorem code_set (hid : Bool) (st port : Int) : ∀ c ∈ (codeS hid st port).cps.toList, c ∈ repSet := by
  unfold codeS
  split
  · intro c hc
    rw [cps_append, cps_append] at hc
    rcases List.mem_append.mp hc with hc | hc
    · rcases List.mem_append.mp hc with hc | hc
      · exact (by decide : ∀ c ∈ (Str.ofString "2").cps.toList, c ∈ repSet) c hc
      · exact List.mem_append_left _ (strC_marks port c hc)
    · exact (by decide : ∀ c ∈ (Str.ofString "29 ").cps.toList, c ∈ repSet) c hc
  · decide
theorem left_set {d : Int} (h : 0 ≤ d ∧ d ≤ 4) : ∀ c ∈ (leftS d).cps.toList, c ∈ repSet := by
  have c : d = 0 ∨ d = 1 ∨ d = 2 ∨ d = 3 ∨ d = 4 := by omega
  rcases c with rfl | rfl | rfl | rfl | rfl <;> decide
theorem right_set {d : Int} (h : 0 ≤ d ∧ d ≤ 4) : ∀ c ∈ (rightS d).cps.toList, c ∈ repSet := by
  have c : d = 0 ∨ d = 1 ∨ d = 2 ∨ d = 3 ∨ d = 4 := by omega
  rcases c with rfl | rfl | rfl | rfl | rfl <;> decide
theorem fig_set {c : Nat} (h : isFig c = true) : c ∈ repSet := by
  have := fig_iff.mp h
  refine List.mem_append_right _ ?_
  simp only [List.mem_cons, List.not_mem_nil, or_false]
  omega
theorem rep_set (n : Int) (st : Int) : ∀ c ∈ (repS n st).cps.toList, c ∈ repSet := by
  intro c hc
  unfold repS replyS at hc
  simp only [cps_append, List.mem_append] at hc
  rcases hc with ((((hc | hc) | hc) | hc) | hc) | hc
  · exact code_set _ _ _ c hc
  · exact left_set (dressN_b n) c hc
  · exact List.mem_append_left _ (spell_marks _ _ _ c hc)
  · exact fig_set (num_figs (portN_b n).1 c hc)
  · exact List.mem_append_left _ (spell_marks _ _ _ c hc)
  · exact right_set (dressN_b n) c hc
theorem rep_signs (n : Int) (st : Nat) (hst : st < 3) : ∀ c ∈ signs (repS n st), PyData.strOk c = true ∧ c ≠ Str.ofString "\"" ∧ c ≠ Str.ofString "\\" ∧ c ≠ Str.ofString "\n" ∧ c.length = 1 := by
  intro c hc
  obtain ⟨k, hk, rfl⟩ := List.mem_map.mp hc
  exact of_decide_eq_true (List.all_eq_true.mp rep_all k (rep_set n st k hk))
theorem cat_L : ∀ (rs : List (Str × Tok)) (a : Str), (cat a rs).cps.toList = a.cps.toList ++ (rs.map (·.1)).flatMap (·.cps.toList)
  | [], a => by simp [cat]
  | p :: r, a => by
    show (cat (a ++ p.1) r).cps.toList = _
    rw [cat_L r, cps_append]; simp
theorem flat_signs (x : Str) : (signs x).flatMap (·.cps.toList) = x.cps.toList := by
  unfold signs
  generalize x.cps.toList = l
  induction l with
  | nil => rfl
  | cons c r ih => rw [List.map_cons, List.flatMap_cons, ih]; rfl
theorem cat_signs (x : Str) (rs : List (Str × Tok)) (h : rs.map (·.1) = signs x) : cat (Str.ofString "") rs = x := by
  refine str_ext ?_
  rw [cat_L, h, flat_signs]; rfl
theorem signs_len (x : Str) : (signs x).length = x.length := signs_length x
theorem strOk_signs (x : Str) (h : ∀ c ∈ signs x, PyData.strOk c = true) : PyData.strOk x = true := by
  unfold PyData.strOk
  rw [← Array.all_toList, List.all_eq_true]
  intro c hc
  have := h ⟨#[c]⟩ (List.mem_map.mpr ⟨c, hc, rfl⟩)
  unfold PyData.strOk at this
  simpa using this
/-- the signs that the stream still holds before the i-th word -/
noncomputable def remS (r : Nat → Str) : Nat → Nat → List Str
  | 0, _ => [Str.ofString "\n"]
  | k + 1, i => (if i = 0 then [] else [Str.ofString "\n"]) ++ Str.ofString "\"" :: (signs (r i) ++ Str.ofString "\"" :: remS r k (i + 1))
theorem ok_nl : PyData.strOk (Str.ofString "\n") = true := by decide +kernel
theorem ok_dq : PyData.strOk (Str.ofString "\"") = true := by decide +kernel
theorem remS_ok (r : Nat → Str) (h : ∀ j, ∀ c ∈ signs (r j), PyData.strOk c = true ∧ c ≠ Str.ofString "\"" ∧ c ≠ Str.ofString "\\" ∧ c ≠ Str.ofString "\n" ∧ c.length = 1) : ∀ k i, ∀ c ∈ remS r k i, PyData.strOk c = true := by
  intro k
  induction k with
  | zero => intro i c hc; rw [List.mem_singleton.mp hc]; exact ok_nl
  | succ k ih =>
    intro i c hc
    unfold remS at hc
    rcases List.mem_append.mp hc with hc | hc
    · by_cases hi : i = 0
      · rw [if_pos hi] at hc; cases hc
      · rw [if_neg hi] at hc; rw [List.mem_singleton.mp hc]; exact ok_nl
    · rcases List.mem_cons.mp hc with rfl | hc
      · exact ok_dq
      · rcases List.mem_append.mp hc with hc | hc
        · exact (h i c hc).1
        · rcases List.mem_cons.mp hc with rfl | hc
          · exact ok_dq
          · exact ih (i + 1) c hc
theorem remS_len (r : Nat → Str) (m : Nat) (h : ∀ j, (r j).length ≤ m) : ∀ k i, (remS r k i).length ≤ k * (m + 3) + 1 := by
  intro k
  induction k with
  | zero => intro i; show 1 ≤ _; omega
  | succ k ih =>
    intro i
    unfold remS
    have h1 := ih (i + 1)
    have h2 := h i
    rw [List.length_append, List.length_cons, List.length_append, List.length_cons, signs_len]
    have h3 : (if i = 0 then [] else [Str.ofString "\n"]).length ≤ 1 := by split <;> decide
    rw [Nat.succ_mul]
    omega
theorem row_cps (r : Str) : (rowS r).cps.toList = 34 :: (r.cps.toList ++ [34, 10]) := by
  unfold rowS; rw [cps_append, cps_append]
  have e1 : (Str.ofString "\"").cps.toList = [34] := by decide
  have e2 : (Str.ofString "\"\n").cps.toList = [34, 10] := by decide
  rw [e1, e2]; simp
theorem page_signs (n : Nat → Int) (st : Nat) (hst : st < 3) : signs (pageS n st) = remS (fun j => repS (n j) st) 3 0 := by
  have e1 : (⟨#[34]⟩ : Str) = Str.ofString "\"" := by decide
  have e2 : (⟨#[10]⟩ : Str) = Str.ofString "\n" := by decide
  unfold signs
  rw [pageS_cps, row_cps, row_cps, row_cps]
  simp [remS, signs, ← e1, ← e2]
end

section
open PySem.Builtin PySem.Builtin.Str
theorem lp : Str.ofString "(" = ⟨#[40]⟩ := by decide
theorem rp : Str.ofString ")" = ⟨#[41]⟩ := by decide
theorem splitL_sub (c : Nat) : ∀ (l : List Nat), ∀ p ∈ splitL c l, ∀ x ∈ p, x ∈ l
  | [], p, hp, x, hx => by
    have : p = [] := by simpa [splitL] using hp
    subst this; cases hx
  | a :: r, p, hp, x, hx => by
    have ih := splitL_sub c r
    unfold splitL at hp
    split at hp
    · rcases List.mem_cons.mp hp with rfl | hp
      · cases hx
      · exact List.mem_cons_of_mem _ (ih p hp x hx)
    · split at hp
      · rename_i q qs e
        rcases List.mem_cons.mp hp with rfl | hp
        · rcases List.mem_cons.mp hx with rfl | hx
          · exact List.mem_cons_self
          · exact List.mem_cons_of_mem _ (ih q (by rw [e]; exact List.mem_cons_self) x hx)
        · exact List.mem_cons_of_mem _ (ih p (by rw [e]; exact List.mem_cons_of_mem _ hp) x hx)
      · have : p = [a] := by simpa using hp
        subst this
        have : x = a := by simpa using hx
        subst this; exact List.mem_cons_self
/-! every part is short and its signs stand in the text -/
theorem slice_sub (x : Str) (l u : Option Int) : ∀ c ∈ (Txt.slice x l u).cps.toList, c ∈ x.cps.toList := by
  intro c hc
  have e : Txt.slice x l u = StrLaws.sliceText x l u := rfl
  rw [e] at hc
  unfold StrLaws.sliceText at hc
  split at hc
  · exact hc
  · have hc : c ∈ (strSliceIndices l u 1 x.length).filterMap (x.cps[·]?) := by simpa using hc
    obtain ⟨i, _, hi⟩ := List.mem_filterMap.mp hc
    have : x.cps.toList[i]? = some c := by simpa using hi
    exact List.mem_of_getElem? this
theorem set_small : (repSet.all fun c => decide (c < 16 ^ 8)) = true := by decide +kernel
theorem parts_ok (n : Int) (st : Nat) (hst : st < 3) : ∀ q ∈ partsOf (repS n st), q.length ≤ 640 ∧ (reprText q).length ≤ sizeLine := by
  intro q hq
  unfold partsOf at hq
  have h1 := part_short hq
  have h2 := Txt.slice_le (repS n st) (some (Txt.find (repS n st) (Str.ofString "(") + 1)) (some (Txt.find3 (repS n st) (Str.ofString ")") (Txt.find (repS n st) (Str.ofString "(") + 1)))
  have h3 := repS_len n st
  have hl : q.length ≤ 60 := by omega
  have hs : ∀ c ∈ q.cps.toList, c < 16 ^ 8 := by
    intro c hc
    have hm : q.cps.toList ∈ (Txt.split (Txt.slice (repS n st) (some (Txt.find (repS n st) (Str.ofString "(") + 1)) (some (Txt.find3 (repS n st) (Str.ofString ")") (Txt.find (repS n st) (Str.ofString "(") + 1)))) (Txt.item (repS n st) (Txt.find (repS n st) (Str.ofString "(") + 1))).map (·.cps.toList) := List.mem_map_of_mem hq
    unfold Txt.item at hm
    rw [split_L] at hm
    exact of_decide_eq_true (List.all_eq_true.mp set_small c (rep_set n st c (slice_sub _ _ _ c (splitL_sub _ _ _ hm c hc))))
  have h4 := StrLaws.reprText_len q hs
  refine ⟨by omega, ?_⟩
  rw [PySem.sizeLine_eq]
  omega
/-! parse229 on a text with its brackets -/
section
variable {x : Str} {P I R : List Nat}
theorem in_find (hx : x.cps.toList = P ++ 40 :: (I ++ 41 :: R)) (h40 : 40 ∉ P) : Txt.find x (Str.ofString "(") = (P.length : Int) := by
  rw [lp]; exact find_at hx h40
theorem in_find1 (hx : x.cps.toList = P ++ 40 :: (I ++ 41 :: R)) (h40 : 40 ∉ P) : Txt.find x (Str.ofString "(") + 1 = ((P ++ [40]).length : Int) := by
  rw [in_find hx h40]; simp
theorem cut1 (hx : x.cps.toList = P ++ 40 :: (I ++ 41 :: R)) : x.cps.toList = (P ++ [40]) ++ (I ++ 41 :: R) := by rw [hx]; simp
theorem in_right (hx : x.cps.toList = P ++ 40 :: (I ++ 41 :: R)) (h40 : 40 ∉ P) (h41 : 41 ∉ I) : Txt.find3 x (Str.ofString ")") (Txt.find x (Str.ofString "(") + 1) = (((P ++ [40]).length + I.length : Nat) : Int) := by
  rw [in_find1 hx h40, rp]; exact find3_at (cut1 hx) h41
theorem in_slice (hx : x.cps.toList = P ++ 40 :: (I ++ 41 :: R)) (h40 : 40 ∉ P) (h41 : 41 ∉ I) : (Txt.slice x (some (Txt.find x (Str.ofString "(") + 1)) (some (Txt.find3 x (Str.ofString ")") (Txt.find x (Str.ofString "(") + 1)))).cps.toList = I := by
  rw [in_right hx h40 h41, in_find1 hx h40]
  exact slice_at (cut1 hx)
theorem in_first {c : Nat} {J : List Nat} (hx : x.cps.toList = P ++ 40 :: (I ++ 41 :: R)) (h40 : 40 ∉ P) (hI : I = c :: J) : Txt.item x (Txt.find x (Str.ofString "(") + 1) = ⟨#[c]⟩ := by
  refine item_at (P := P ++ [40]) (R := J ++ 41 :: R) ?_ (in_find1 hx h40)
  rw [cut1 hx, hI]; rfl
theorem in_last {e : Nat} {J : List Nat} (hx : x.cps.toList = P ++ 40 :: (I ++ 41 :: R)) (h40 : 40 ∉ P) (h41 : 41 ∉ I) (hI : I = J ++ [e]) : Txt.item x (Txt.find3 x (Str.ofString ")") (Txt.find x (Str.ofString "(") + 1) - 1) = ⟨#[e]⟩ := by
  refine item_at (P := P ++ [40] ++ J) (R := 41 :: R) ?_ ?_
  · rw [cut1 hx, hI]; simp
  · rw [in_right hx h40 h41, hI]
    simp only [List.length_append, List.length_cons, List.length_nil]
    omega
theorem in_parts {c : Nat} {J : List Nat} (hx : x.cps.toList = P ++ 40 :: (I ++ 41 :: R)) (h40 : 40 ∉ P) (h41 : 41 ∉ I) (hI : I = c :: J) : (partsOf x).map (·.cps.toList) = splitL c I := by
  unfold partsOf
  rw [in_first hx h40 hI, split_L, in_slice hx h40 h41]
theorem one_ne {a b : Nat} (h : a ≠ b) : ((⟨#[a]⟩ : Str) != ⟨#[b]⟩) = true := by
  rw [bne_iff_ne]
  intro e
  have := congrArg (fun s : Str => s.cps.toList) e
  exact h (by simpa using this)
theorem told_ends (h3 : (Txt.slice x none (some 3) != Str.ofString "229") = false) (hx : x.cps.toList = P ++ 40 :: (I ++ 41 :: R)) (h40 : 40 ∉ P) (h41 : 41 ∉ I) (hI : I ≠ []) (hne : I.head? ≠ I.getLast?) : toldS x = .txt (Str.ofString "shape") := by
  obtain ⟨c, J, hc⟩ : ∃ c J, I = c :: J := by cases I with | nil => exact absurd rfl hI | cons c J => exact ⟨c, J, rfl⟩
  obtain ⟨J2, e, he⟩ : ∃ J2 e, I = J2 ++ [e] := by
    rcases List.eq_nil_or_concat I with h | ⟨J2, e, h⟩
    · exact absurd h hI
    · exact ⟨J2, e, by simpa using h⟩
  refine t4 h3 (by rw [in_find hx h40]; omega) (by rw [in_right hx h40 h41]; omega) ?_
  rw [in_first hx h40 hc, in_last hx h40 h41 he]
  refine one_ne fun q => hne ?_
  rw [show I.head? = some c by rw [hc]; rfl, show I.getLast? = some e by rw [he]; exact List.getLast?_concat, q]
theorem told_cut {c : Nat} (h3 : (Txt.slice x none (some 3) != Str.ofString "229") = false) (hx : x.cps.toList = P ++ 40 :: (I ++ 41 :: R)) (h40 : 40 ∉ P) (h41 : 41 ∉ I) (hh : I.head? = some c) (hl : I.getLast? = some c) (hn : (splitL c I).length ≠ 5) : toldS x = .txt (Str.ofString "shape") := by
  obtain ⟨J, hc⟩ : ∃ J, I = c :: J := by cases I with | nil => cases hh | cons a J => exact ⟨J, by rw [Option.some.inj hh]⟩
  have hp := in_parts hx h40 h41 hc
  have e5 : (partsOf x).length = (splitL c I).length := by rw [← hp, List.length_map]
  by_cases hne : (Txt.item x (Txt.find x (Str.ofString "(") + 1) != Txt.item x (Txt.find3 x (Str.ofString ")") (Txt.find x (Str.ofString "(") + 1) - 1)) = true
  · exact t4 h3 (by rw [in_find hx h40]; omega) (by rw [in_right hx h40 h41]; omega) hne
  · exact t5 h3 (by rw [in_find hx h40]; omega) (by rw [in_right hx h40 h41]; omega) (by simpa using hne) (by rw [e5]; exact hn)
theorem told_num {c : Nat} {p : List Nat} (h3 : (Txt.slice x none (some 3) != Str.ofString "229") = false) (hx : x.cps.toList = P ++ 40 :: (I ++ 41 :: R)) (h40 : 40 ∉ P) (h41 : 41 ∉ I) (hh : I.head? = some c) (hl : I.getLast? = some c) (hn : (splitL c I).length = 5) (hp : (splitL c I)[3]? = some p) :
    toldS x = (match PySem.intText? ⟨p.toArray⟩ with | some n => .pair n | none => .txt (Str.ofString "number")) := by
  obtain ⟨J, hc⟩ : ∃ J, I = c :: J := by cases I with | nil => cases hh | cons a J => exact ⟨J, by rw [Option.some.inj hh]⟩
  obtain ⟨J2, he⟩ : ∃ J2, I = J2 ++ [c] := by
    rcases List.eq_nil_or_concat I with h | ⟨J2, e, h⟩
    · rw [h] at hc; cases hc
    · rw [List.concat_eq_append] at h
      rw [h, List.getLast?_concat] at hl
      exact ⟨J2, by rw [h, Option.some.inj hl]⟩
  have hq := in_parts hx h40 h41 hc
  have e5 : (partsOf x).length = (splitL c I).length := by rw [← hq, List.length_map]
  have e3 : (partsOf x).getD 3 Str.empty = ⟨p.toArray⟩ := by
    have h := congrArg (·[3]?) hq
    simp only [List.getElem?_map] at h
    rw [hp] at h
    cases hg : (partsOf x)[3]? with
    | none => rw [hg] at h; cases h
    | some y =>
      rw [hg] at h
      have : y.cps.toList = p := by simpa using h
      rw [List.getD_eq_getElem?_getD, hg]
      exact str_ext this
  unfold toldS
  rw [if_neg (by rw [h3]; exact Bool.false_ne_true), if_neg (by rw [in_find hx h40]; omega), if_neg (by rw [in_right hx h40 h41]; omega), if_neg (by rw [in_first hx h40 hc, in_last hx h40 h41 he]; simp), if_neg (by rw [e5, hn]; simp), e3]
  try rfl
end
/-! the reply's parts -/
theorem mark_fig {c : Nat} (h : c ∈ marks) : isFig c = false := (marks_way c h).1
theorem mark_not {c : Nat} (h : c ∈ marks) : c ≠ 40 ∧ c ≠ 41 := (by decide : ∀ c ∈ marks, c ≠ 40 ∧ c ≠ 41) c h
theorem fig_not {c : Nat} (h : isFig c = true) : c ≠ 40 ∧ c ≠ 41 := by have := fig_iff.mp h; omega
theorem rep_cps (n st : Int) : (repS n st).cps.toList = (codeS (hidN n) st (portN n)).cps.toList ++ ((leftS (dressN n)).cps.toList ++ ((spellS (portN n) st (frontN n)).cps.toList ++ (Str.ofString (toString (portN n))).cps.toList ++ (spellS (portN n) st (backN n)).cps.toList ++ (rightS (dressN n)).cps.toList)) := by
  unfold repS replyS
  simp only [cps_append, List.append_assoc]
theorem is_229 {x : Str} {R : List Nat} (h : x.cps.toList = [50, 50, 57] ++ R) : (Txt.slice x none (some 3) != Str.ofString "229") = false := by
  have e : Txt.slice x none (some 3) = Str.ofString "229" := str_ext (by
    have := slice3_at h
    rw [show (([50, 50, 57] : List Nat).length : Int) = 3 from rfl] at this
    rw [this]; decide)
  rw [e]; simp
theorem not_229 {x : Str} {k : Nat} {R : List Nat} (h : x.cps.toList = [50, k, 50] ++ R) (hk : k ≠ 50) : (Txt.slice x none (some 3) != Str.ofString "229") = true := by
  have := slice3_at h
  rw [show (([50, k, 50] : List Nat).length : Int) = 3 from rfl] at this
  rw [bne_iff_ne]
  intro e
  rw [e] at this
  have h2 : ([50, 50, 57] : List Nat) = [50, k, 50] := by rw [← this]; decide
  have h3 : (50 : Nat) = k := by simpa using h2
  exact hk h3.symm
theorem strC_one (port : Int) : ∃ k, (strC port).cps.toList = [k] ∧ k ∈ marks := by
  unfold strC
  repeat' split
  · exact ⟨173, by decide, by decide⟩
  · exact ⟨8203, by decide, by decide⟩
  · exact ⟨8288, by decide, by decide⟩
  · exact ⟨65039, by decide, by decide⟩
theorem empty_iff (a : Str) : (a == Str.ofString "") = true ↔ a.cps.toList = [] := by
  rw [beq_iff_eq]
  constructor
  · rintro rfl; decide
  · intro h; exact str_ext (by rw [h]; decide)
theorem eq_one {a b : Nat} : ((⟨#[a]⟩ : Str) == ⟨#[b]⟩) = decide (a = b) := by
  by_cases h : a = b
  · subst h; simp
  · rw [decide_eq_false h, beq_eq_false_iff_ne]
    intro e
    have := congrArg (fun s : Str => s.cps.toList) e
    exact h (by simpa using this)
theorem item_first {a : Str} {c : Nat} {J : List Nat} (h : a.cps.toList = c :: J) : Txt.item a 0 = ⟨#[c]⟩ := item_at (P := []) (by rw [h]; rfl) rfl
/-- dueS where the reply is dressed, by its lists -/
theorem due_ends {a b : Str} {port dress stage : Int} {hid : Bool} (v : ¬ (hid = true ∧ stage = 0)) (h1 : dress ≠ 2) (h2 : dress ≠ 3) (h : a.cps.toList = [] ∨ b.cps.toList = [] ∨ a.cps.toList.head? ≠ b.cps.toList.getLast?) : dueS a b port hid dress stage = .txt (Str.ofString "shape") := by
  by_cases ha : a.cps.toList = []
  · exact dS3 v h1 h2 ((empty_iff a).mpr ha)
  have ha' : (a == Str.ofString "") = false := by simpa using fun q => ha ((empty_iff a).mp (by simpa using q))
  by_cases hb : b.cps.toList = []
  · exact dS4 v h1 h2 ha' ((empty_iff b).mpr hb)
  have hb' : (b == Str.ofString "") = false := by simpa using fun q => hb ((empty_iff b).mp (by simpa using q))
  have h := (h.resolve_left ha).resolve_left hb
  obtain ⟨c, J, hc⟩ : ∃ c J, a.cps.toList = c :: J := by cases hq : a.cps.toList with | nil => exact absurd hq ha | cons c J => exact ⟨c, J, rfl⟩
  obtain ⟨J2, e, he⟩ : ∃ J2 e, b.cps.toList = J2 ++ [e] := by
    rcases List.eq_nil_or_concat b.cps.toList with h | ⟨J2, e, h⟩
    · exact absurd h hb
    · exact ⟨J2, e, by simpa using h⟩
  refine dS5 v h1 h2 ha' hb' ?_
  rw [item_first hc, item_last he]
  refine one_ne fun q => h ?_
  rw [hc, he, List.getLast?_concat, q]; rfl
theorem due_rest {a b : Str} {port dress stage : Int} {hid : Bool} {c : Nat} {J J2 : List Nat} (v : ¬ (hid = true ∧ stage = 0)) (h1 : dress ≠ 2) (h2 : dress ≠ 3) (hc : a.cps.toList = c :: J) (he : b.cps.toList = J2 ++ [c]) :
    (¬ (a.cps.toList ++ b.cps.toList).count c = 4 → dueS a b port hid dress stage = .txt (Str.ofString "shape")) ∧
    ((a.cps.toList ++ b.cps.toList).count c = 4 → (a.cps.toList.count c = 3 ∧ a.cps.toList.getLast? = some c ∧ b.cps.toList.length = 1) → dueS a b port hid dress stage = .pair port) ∧
    ((a.cps.toList ++ b.cps.toList).count c = 4 → ¬ (a.cps.toList.count c = 3 ∧ a.cps.toList.getLast? = some c ∧ b.cps.toList.length = 1) → dueS a b port hid dress stage = .txt (Str.ofString "number")) := by
  have ha' : (a == Str.ofString "") = false := by simpa using fun q => by have := (empty_iff a).mp (by simpa using q); rw [hc] at this; cases this
  have hb' : (b == Str.ofString "") = false := by simpa using fun q => by have := (empty_iff b).mp (by simpa using q); rw [he] at this; simp at this
  have i1 := item_first hc
  have h5 : (Txt.item a 0 != Txt.item b (-1)) = false := by rw [i1, item_last he]; simp
  have e6 : Txt.count (a ++ b) (Txt.item a 0) = ((a.cps.toList ++ b.cps.toList).count c : Int) := by rw [i1, count_L, cps_append]
  have e7 : Txt.count a (Txt.item a 0) = (a.cps.toList.count c : Int) := by rw [i1, count_L]
  have e9 : (b.length : Int) = (b.cps.toList.length : Int) := by rw [tl_len]
  obtain ⟨J3, e3, hl⟩ : ∃ J3 e3, a.cps.toList = J3 ++ [e3] := by
    rcases List.eq_nil_or_concat a.cps.toList with h | ⟨J3, e3, h⟩
    · rw [hc] at h; cases h
    · exact ⟨J3, e3, by simpa using h⟩
  have e8 : (Txt.item a (-1) == Txt.item a 0) = decide (e3 = c) := by rw [i1, item_last hl]; exact eq_one
  have gl : a.cps.toList.getLast? = some e3 := by rw [hl]; exact List.getLast?_concat
  refine ⟨fun h => dS6 v h1 h2 ha' hb' h5 (by rw [e6]; omega), fun h ⟨k1, k2, k3⟩ => ?_, fun h k => ?_⟩
  · unfold dueS
    rw [gl] at k2
    rw [if_neg v, if_neg h1, if_neg h2, if_neg (nt ha'), if_neg (nt hb'), if_neg (nt h5), if_neg (by rw [e6]; omega), if_neg (by rw [e7]; omega), if_neg (by rw [e8, decide_eq_true (Option.some.inj k2)]; simp), if_neg (by rw [e9]; omega)]
  · by_cases k1 : a.cps.toList.count c = 3
    · by_cases k2 : e3 = c
      · exact dS9 v h1 h2 ha' hb' h5 (by rw [e6]; omega) (by rw [e7]; omega) (by rw [e8, decide_eq_true k2]) (by rw [e9]; intro k3; exact k ⟨k1, by rw [gl, k2], by omega⟩)
      · exact dS8 v h1 h2 ha' hb' h5 (by rw [e6]; omega) (by rw [e7]; omega) (by rw [e8, decide_eq_false k2])
    · exact dS7 v h1 h2 ha' hb' h5 (by rw [e6]; omega) (by rw [e7]; omega)
/-- the reply between its brackets: what parse229 finds is what is due -/
theorem told_in {x a b : Str} {port dress stage : Int} {hid : Bool} {P R : List Nat} (hp : 0 ≤ port ∧ port ≤ 999) (v : ¬ (hid = true ∧ stage = 0)) (h1 : dress ≠ 2) (h2 : dress ≠ 3) (hA : ∀ c ∈ a.cps.toList, c ∈ marks) (hB : ∀ c ∈ b.cps.toList, c ∈ marks)
    (h3 : (Txt.slice x none (some 3) != Str.ofString "229") = false) (hx : x.cps.toList = P ++ 40 :: ((a.cps.toList ++ (Str.ofString (toString port)).cps.toList ++ b.cps.toList) ++ 41 :: R)) (h40 : 40 ∉ P) : toldS x = dueS a b port hid dress stage := by
  have mA : Marks isFig a.cps.toList := fun c hc => mark_fig (hA c hc)
  have mB : Marks isFig b.cps.toList := fun c hc => mark_fig (hB c hc)
  have fD := num_figs hp.1
  have lD : (Str.ofString (toString port)).cps.toList.length ≤ 3 := by rw [tl_len]; exact toString_length_le hp.1 (by decide) (by omega)
  have nD : (Str.ofString (toString port)).cps.toList ≠ [] := by
    intro e
    have := KLn.one_le hp.1
    rw [← tl_len, e] at this
    exact absurd this (by decide)
  have eD : Str.ofString (toString port) = ⟨(Str.ofString (toString port)).cps.toList.toArray⟩ := str_ext rfl
  have rd : PySem.intText? ⟨(Str.ofString (toString port)).cps.toList.toArray⟩ = some port := by rw [← eD]; exact KIN.num_reads hp.1 (by omega)
  have gI : ∀ c ∈ a.cps.toList ++ (Str.ofString (toString port)).cps.toList ++ b.cps.toList, c ∈ marks ∨ isFig c = true := by
    intro c hc
    rcases List.mem_append.mp hc with hc | hc
    · rcases List.mem_append.mp hc with hc | hc
      · exact .inl (hA c hc)
      · exact .inr (fD c hc)
    · exact .inl (hB c hc)
  have h41 : 41 ∉ a.cps.toList ++ (Str.ofString (toString port)).cps.toList ++ b.cps.toList := fun hm => by
    rcases gI 41 hm with h | h
    · exact absurd h (by decide)
    · exact absurd h (by decide)
  clear eD
  generalize (Str.ofString (toString port)).cps.toList = D at hx fD lD nD rd gI h41
  have hD : Figs isFig D := ⟨nD, fD⟩
  have hI : a.cps.toList ++ D ++ b.cps.toList ≠ [] := by simp [nD]
  by_cases hends : a.cps.toList = [] ∨ b.cps.toList = [] ∨ a.cps.toList.head? ≠ b.cps.toList.getLast?
  · rw [due_ends v h1 h2 hends]
    rcases unlike mA mB hD lD hends with h | ⟨c, hc, h⟩
    · exact told_ends h3 hx h40 h41 hI h
    · by_cases hl : (a.cps.toList ++ D ++ b.cps.toList).getLast? = some c
      · exact told_cut h3 hx h40 h41 hc hl h
      · exact told_ends h3 hx h40 h41 hI (by rw [hc]; exact fun e => hl e.symm)
  · have ha : a.cps.toList ≠ [] := fun h => hends (.inl h)
    have hb : b.cps.toList ≠ [] := fun h => hends (.inr (.inl h))
    have he : a.cps.toList.head? = b.cps.toList.getLast? := Decidable.byContradiction fun h => hends (.inr (.inr h))
    obtain ⟨c, J, hc⟩ : ∃ c J, a.cps.toList = c :: J := by cases hq : a.cps.toList with | nil => exact absurd hq ha | cons c J => exact ⟨c, J, rfl⟩
    obtain ⟨J2, hb2⟩ : ∃ J2, b.cps.toList = J2 ++ [c] := by
      rcases List.eq_nil_or_concat b.cps.toList with h | ⟨J2, e, h⟩
      · exact absurd h hb
      · rw [List.concat_eq_append] at h
        rw [hc, h, List.getLast?_concat] at he
        exact ⟨J2, by rw [h, Option.some.inj he]⟩
    have hcm : c ∈ marks := hA c (by rw [hc]; exact List.mem_cons_self)
    have hcf : isFig c = false := mark_fig hcm
    have hh : (a.cps.toList ++ D ++ b.cps.toList).head? = some c := by rw [hc]; rfl
    have hl : (a.cps.toList ++ D ++ b.cps.toList).getLast? = some c := by rw [hb2, ← List.append_assoc]; exact List.getLast?_concat
    have h5 := five (A := a.cps.toList) (B := b.cps.toList) hD hcf
    obtain ⟨r1, r2, r3⟩ := due_rest (port := port) (hid := hid) (dress := dress) (stage := stage) v h1 h2 hc hb2
    by_cases h4 : (a.cps.toList ++ b.cps.toList).count c = 4
    · have n5 : (splitL c (a.cps.toList ++ D ++ b.cps.toList)).length = 5 := by rw [h5, h4]
      rcases fourth mA mB hD hcf h4 ⟨J2, hb2⟩ (by rw [hc]; exact List.mem_cons_self) with ⟨k1, k2, k3, k4⟩ | ⟨k, p, k4, k5⟩
      · rw [r2 h4 ⟨k1, k2, k3⟩, told_num h3 hx h40 h41 hh hl n5 k4, rd]
      · rw [r3 h4 k, told_num h3 hx h40 h41 hh hl n5 k4]
        have hpm : p ∈ splitL c (a.cps.toList ++ D ++ b.cps.toList) := List.mem_of_getElem? k4
        rw [noint_text (x := ⟨p.toArray⟩) (fun y hy => gI y (splitL_sub c _ p hpm y hy)) k5]
    · rw [r1 h4]
      exact told_cut h3 hx h40 h41 hh hl (by rw [h5]; omega)
theorem told_due (n : Int) (st : Nat) (hst : st < 3) : toldS (repS n st) = dueN n st := by
  have hx := rep_cps n st
  have hd := dressN_b n
  have hp := portN_b n
  have hA := spell_marks (portN n) st (frontN n)
  have hB := spell_marks (portN n) st (backN n)
  unfold dueN
  generalize repS n st = x at hx
  generalize spellS (portN n) st (frontN n) = a at hx hA
  generalize spellS (portN n) st (backN n) = b at hx hB
  generalize dressN n = dress at hx hd
  generalize portN n = port at hx hp
  generalize hidN n = hid at hx
  by_cases v : hid = true ∧ (st : Int) = 0
  · rw [show dueS a b port hid dress st = .txt (Str.ofString "code") from if_pos v]
    unfold codeS at hx
    rw [if_pos v] at hx
    obtain ⟨k, e, hk⟩ := strC_one port
    refine t1 (not_229 (k := k) (R := 57 :: 32 :: ((leftS dress).cps.toList ++ (a.cps.toList ++ (Str.ofString (toString port)).cps.toList ++ b.cps.toList ++ (rightS dress).cps.toList))) ?_ ?_)
    · rw [hx, cps_append, cps_append, e, show (Str.ofString "2").cps.toList = [50] by decide, show (Str.ofString "29 ").cps.toList = [50, 57, 32] by decide]; rfl
    · rintro rfl; exact absurd hk (by decide)
  · unfold codeS at hx
    rw [if_neg v, show (Str.ofString "229 ").cps.toList = [50, 50, 57] ++ [32] by decide, List.append_assoc] at hx
    have h3 := is_229 hx
    have fD := num_figs hp.1
    have gI : ∀ c ∈ a.cps.toList ++ (Str.ofString (toString port)).cps.toList ++ b.cps.toList, c ≠ 40 ∧ c ≠ 41 := by
      intro c hc
      rcases List.mem_append.mp hc with hc | hc
      · rcases List.mem_append.mp hc with hc | hc
        · exact mark_not (hA c hc)
        · exact fig_not (fD c hc)
      · exact mark_not (hB c hc)
    have c5 : dress = 0 ∨ dress = 1 ∨ dress = 2 ∨ dress = 3 ∨ dress = 4 := by omega
    rcases c5 with rfl | rfl | rfl | rfl | rfl
    · refine told_in (P := [50, 50, 57, 32]) (R := []) hp v (by decide) (by decide) hA hB h3 ?_ (by decide)
      rw [hx, show (leftS 0).cps.toList = [40] by decide, show (rightS 0).cps.toList = [41] by decide]; rfl
    · refine told_in (P := [50, 50, 57, 32]) (R := [32, 40, 115, 41]) hp v (by decide) (by decide) hA hB h3 ?_ (by decide)
      rw [hx, show (leftS 1).cps.toList = [40] by decide, show (rightS 1).cps.toList = [41, 32, 40, 115, 41] by decide]; rfl
    · rw [dS1 v rfl]
      rw [show (leftS 2).cps.toList = [40] by decide, show (rightS 2).cps.toList = [] by decide, List.append_nil] at hx
      have hx2 : x.cps.toList = [50, 50, 57, 32] ++ 40 :: (a.cps.toList ++ (Str.ofString (toString port)).cps.toList ++ b.cps.toList) := by rw [hx]; rfl
      have f1 : Txt.find x (Str.ofString "(") = 4 := by rw [lp]; exact find_at hx2 (by decide)
      refine t3 h3 (by rw [f1]; decide) ?_
      have f2 : Txt.find3 x (Str.ofString ")") (Txt.find x (Str.ofString "(") + 1) = -1 := by
        rw [f1, rp]
        exact find3_free (P := [50, 50, 57, 32, 40]) (by rw [hx2]; rfl) fun h => (gI 41 h).2 rfl
      rw [f2]; decide
    · rw [dS2 v (by decide) rfl]
      rw [show (leftS 3).cps.toList = [] by decide, show (rightS 3).cps.toList = [41] by decide] at hx
      refine t2 h3 ?_
      have f1 : Txt.find x (Str.ofString "(") = -1 := by
        rw [lp]
        refine find_free ?_
        rw [hx]
        intro h
        simp only [List.mem_append] at h
        rcases h with h | h | h | h | h
        · exact absurd h (by decide)
        · exact absurd h (by decide)
        · cases h
        · exact (gI 40 (by simpa only [List.mem_append] using h)).1 rfl
        · exact absurd h (by decide)
      rw [f1]; decide
    · refine told_in (P := [50, 50, 57, 32, 41]) (R := [41]) hp v (by decide) (by decide) hA hB h3 ?_ (by decide)
      rw [hx, show (leftS 4).cps.toList = [41, 40] by decide, show (rightS 4).cps.toList = [41, 41] by decide]; rfl
end

section

set_option maxHeartbeats 8000000
theorem src_head {h₀ h : Heap} {L ax : Addr} {its : Array Value} {k : Nat} {l : List (Addr × Obj)} (_ : News h₀ L h ((ax, listOf its k) :: l)) : PyProof.Rows.LCg.SrcAt h₀ ax its ((ax, listOf its k) :: l) := .inr ⟨_, .head _, rfl, _, rfl⟩
noncomputable def Hold (p : Prop) : Prop := p
theorem Hold.out {p : Prop} (h : Hold p) : p := h
local macro_rules | `(tactic| walk1) => `(tactic| ((with_reducible show PyProof.Rows.LCg.CompSrc _ _ _ _ _ _ _ _ _ _ _ _ _ _); refine Hold.out ?_; walk_say "HOLD"))
noncomputable def lawSt (i : Nat) : Stmt := (defB (stAt 22)).getD i (.Pass ⟨0, 0, 0, 0⟩)
noncomputable abbrev drs (d : Nat → Drw) (n : Nat → Int) (DL : Addr) (nl : Nat) : List (Addr × Obj) := (DL, listOf #[.ref (d 0).D, .ref (d 1).D, .ref (d 2).D] nl) :: ((d 0).own (n 0) ++ ((d 1).own (n 1) ++ (d 2).own (n 2)))
theorem pg_end {h₀ h' : Heap} {L I C D ax : Addr} {m : Str → Option Value} {s₁ : Shared} {oI oC oD : Obj} {its : Array Value} {rest : Value → List (Addr × Obj) → Prop} {r : Str} {t tk : Nat} {news : List (Addr × Obj)}
    (F : Fr h₀ L h' m) (N : News h₀ L h' ((I, oI) :: (C, oC) :: (D, oD) :: news)) (off : PyProof.Rows.LCg.Off3 I C D news) (hS : PyProof.Rows.LCg.SrcAt h₀ ax its news)
    (q : rest (.str r t) news) :
    PyProof.Rows.LCg.CompEnd h₀ L m s₁ I oI C oC D oD (PyProof.Rows.LCg.SrcAt h₀ ax its) rest (.str r t) { s₁ with heap := h', toks := tk } :=
  PyProof.Rows.LCg.CompEnd.intro F N news (fun p hp => hp) off hS q
local macro_rules | `(tactic| walk1) => `(tactic| ((with_reducible show wpAny _ _ (binaryOp Operator.Add (Value.str _ _) (Value.str _ _)) _ _ _); (refine KLn.add_n (m := 300) (k := 300) ?x ?y (by decide) ?_); (case x => (simp only [PySem.Str.length_append]; first | done | omega)); (case y => first | omega | (simp only [PySem.Str.length_append]; omega)); (intro t9 tk9 _ _ _ _); walk_say "ADD"))
local macro_rules | `(tactic| walk1) => `(tactic| ((with_reducible show wpAny _ _ (call (Value.ref 209) [Value.ref _, Value.int _ _]) _ _ _); (k_dflt (refine' replyd_ _ _ _ _ _ ?ok ?hs _ _ _ _ _ _ _ _ _ _ _ _ _ _ _ _ _ _ _ _ _ _ ?k1 ?k2 ?k3 ?k4 ?k5 ?k6 ?k7 ?k8 (And.intro ?hm ?kQ))); (case ok => assumption); (case hs => first | assumption | decide); (case k1 => k_asm); (case k2 => k_asm); (case k3 => k_asm); (case k4 => k_asm); (case k5 => k_asm); (case k6 => first | exact rfl | assumption); (case k7 => ktr_room); (case k8 => ktr_units); (case hm => (intro p hp; (repeat (with_reducible refine List.mem_cons_of_mem _ ?_)); exact (by assumption : ∀ p ∈ _, p ∈ _) p hp)); (intro t9 h9 tk9 F9 N9); (try dsimp only); (try k_fold); walk_say "CONTRACT reply"))
local macro_rules | `(tactic| walk1) => `(tactic| ((with_reducible show wpAny _ _ (call (Value.builtin "str.join") [_, _]) _ _ _); (refine join_listW (News.isList (by k_asm) (.head _)) (.cons _ _ (.cons _ _ (.cons _ _ .nil))) (by decide) ?kl ?_); (case kl => (simp only [List.map_cons, List.map_nil, List.sum_cons, List.sum_nil, List.length_cons, List.length_nil, PySem.Str.length_append]; omega)); (intro t9 tk9); walk_say "JOIN"))

theorem law_page (w : World) (n : Nat → Int) (d : Nat → Drw) (ok0 : (d 0).Ok (n 0)) (ok1 : (d 1).Ok (n 1)) (ok2 : (d 2).Ok (n 2)) (DL : Addr) (nl : Nat) (o : Str → Option Value) (nw : List (Addr × Obj)) (hDL : (DL, listOf #[.ref (d 0).D, .ref (d 1).D, .ref (d 2).D] nl) ∈ nw) (hi0 : ∀ p ∈ (d 0).own (n 0), p ∈ nw) (hi1 : ∀ p ∈ (d 1).own (n 1), p ∈ nw) (hi2 : ∀ p ∈ (d 2).own (n 2), p ∈ nw) : ∀ (loose : List Str) (mean : ExcName → Option Value) (mg mb : Str → Option Value) (fa : Addr) (cd : Value) (h₀ : Heap) (L : Addr) (s : Shared) (Q : Flow → Shared → Prop) (E : Value → Shared → Prop),
    Below callerA h₀ [] h₀ → Fr h₀ L s.heap (fun z => if z = Str.ofString "drawn" then some (.ref DL) else o z) → (K w.params).In h₀ → News h₀ L s.heap (nw) → Top topProg loose mean mg mb h₀ →
    (∀ (t : Tok) (h' : Heap) (tk : Nat), Fr h₀ L h' (fun z => if z = Str.ofString "page" then some (.str (pageS n 0) t) else if z = Str.ofString "drawn" then some (.ref DL) else o z) → News h₀ L h' (nw) → Q .next { s with heap := h', toks := tk }) →
    wpAny (model PySem.Challenge.rw_tr0056_01.row.prog w) (callerA.deeper (envOf (Str.ofString "law") (defS (stAt 22)) L fa cd)) (exec (lawSt 2) (envOf (Str.ofString "law") (defS (stAt 22)) L fa cd)) Q E s := by
  have eB := (rfl : lawSt 2 = lawSt 2); conv at eB => rhs; whnf
  have eS := (rfl : defS (stAt 22) = defS (stAt 22)); conv at eS => rhs; whnf
  rw [eB, eS]
  clear eB eS
  k_fill
  intro loose mean mg mb fa cd h₀ L s Q E B F1 X9 N1 T hret
  have z0 := repS_len (n 0) 0
  have z1 := repS_len (n 1) 0
  have z2 := repS_len (n 2) 0
  have y0 := rowS_len (n 0) 0
  have y1 := rowS_len (n 1) 0
  have y2 := rowS_len (n 2) 0
  have zq : (Str.ofString "\"").length = 1 := by decide
  have zr : (Str.ofString "\"\n").length = 2 := by decide
  k_steps
  unfold Hold
  refine PyProof.Rows.LCg.CompSrc.ledger (its := #[.ref (d 0).D, .ref (d 1).D, .ref (d 2).D]) (k := nl) rfl (by assumption) (by assumption) hDL (by show 3 ≤ sizeLine; rw [PySem.sizeLine_eq]; decide) ?_
  intro g9
  have hS9 : PyProof.Rows.LCg.SrcAt h₀ DL #[.ref (d 0).D, .ref (d 1).D, .ref (d 2).D] nw := .inr ⟨_, hDL, rfl, _, rfl⟩
  refine PyProof.Rows.LCg.CompRest.succ fun v I oI C oC D m₂ h tk E' hP hN hm hF hNe hOff hNe' => ?_
  obtain rfl : Value.ref (d 0).D = v := by simpa using hP
  have hMark : KPfMark := trivial
  k_steps
  refine pg_end (by assumption) (by assumption) hOff (by assumption) ?_
  clear hP hN hm hF hNe hOff hNe'
  refine PyProof.Rows.LCg.CompRest.succ fun v I oI C oC D m₂ h tk E' hP hN hm hF hNe hOff hNe' => ?_
  obtain rfl : Value.ref (d 1).D = v := by simpa using hP
  have hMark : KPfMark := trivial
  k_steps
  refine pg_end (by assumption) (by assumption) hOff (by assumption) ?_
  clear hP hN hm hF hNe hOff hNe'
  refine PyProof.Rows.LCg.CompRest.succ fun v I oI C oC D m₂ h tk E' hP hN hm hF hNe hOff hNe' => ?_
  obtain rfl : Value.ref (d 2).D = v := by simpa using hP
  have hMark : KPfMark := trivial
  k_steps
  refine pg_end (by assumption) (by assumption) hOff (by assumption) ?_
  clear hP hN hm hF hNe hOff hNe'
  intro DL' hL tkL FL NL offL
  k_steps
  exact hret _ _ _ (by assumption) (cb_drop (by assumption) (fun p hp => .tail _ hp))
end

section

set_option maxHeartbeats 8000000
noncomputable abbrev rgObj (x left : Int) : Obj := { cls := .type "range_iterator", dict := none, data := .fields #[PySem.rawInt x, PySem.rawInt left, PySem.rawInt 1], slots := #[] }
/-- a for-loop over a range of three, under the caller -/
theorem loop3 {w : World} {A : Around} {x : Str} {p : Pos} {body : List Stmt} {env : Env} {it L : Addr} {h₀ : Heap} {s : Shared} {R : Result → Shared → Prop} (J : Nat → (Str → Option Value) → List (Addr × Obj) → Prop) (hJ : ∀ i m news, J i m news → ∀ p ∈ news, p.1 ≠ it) (hh : A.handled = none)
    (turn : ∀ (i : Nat) m news h tk (t : Tok), i < 3 → J i m news → Fr h₀ L h m → News h₀ L h ((it, rgObj ((i : Int) + 1) (2 - (i : Int))) :: news) → wpAny (model PySem.Challenge.rw_tr0056_01.row.prog w) A (assign (.Name x p) env (.int (i : Int) t)) (fun _ s₂ => wpC (model PySem.Challenge.rw_tr0056_01.row.prog w) A (execs body env) (fun f s₃ => match f with
      | .next => ∃ m' news' h' tk', s₃ = { s with heap := h', toks := tk' } ∧ J (i + 1) m' news' ∧ Fr h₀ L h' m' ∧ News h₀ L h' ((it, rgObj ((i : Int) + 1) (2 - (i : Int))) :: news')
      | .cont => False
      | .brk => False
      | .ret v => R (.ok (.ret v)) s₃) (fun _ _ => False) s₂) (fun _ _ => False) { s with heap := h, toks := tk })
    (done : ∀ m news h tk, J 3 m news → Fr h₀ L h m → News h₀ L h news → R (.ok .next) { s with heap := h, toks := tk })
    {m : Str → Option Value} {news : List (Addr × Obj)} (j0 : J 0 m news) (F : Fr h₀ L s.heap m) (N : News h₀ L s.heap ((it, rgObj 0 3) :: news)) :
    codeC (model PySem.Challenge.rw_tr0056_01.row.prog w) A (.forLoop (.Name x p) (.ref it) body [] env) R s := by
  refine codeC_for 3 (fun i s' => ∃ m' news' h' tk', s' = { s with heap := h', toks := tk' } ∧ J i m' news' ∧ Fr h₀ L h' m' ∧ News h₀ L h' ((it, rgObj (i : Int) (3 - (i : Int))) :: news')) ?_ ?_ 3 0 s rfl ⟨m, news, s.heap, s.toks, rfl, j0, F, by simpa using N⟩
  · rintro i s' hi ⟨m', news', h', tk', rfl, j, F', N'⟩
    have hq := N' _ List.mem_cons_self
    refine wpAny_pyNext_range_item (it := it) (x := (i : Int)) (left := 3 - (i : Int)) (step := 1) hq.1 (by omega) fun h₂ e2 sb => ⟨_, rfl, ?_⟩
    have F2 := Fr.change F' sb hq.2.1 hq.2.2
    have N2 : News h₀ L h₂ ((it, rgObj ((i : Int) + 1) (2 - (i : Int))) :: news') := by
      have e3 : (3 - (i : Int)) - 1 = 2 - (i : Int) := by omega
      rw [e3] at e2
      exact News.setHead N' (hJ i m' news' j) sb e2
    refine wpAny_mono (turn i m' news' h₂ _ _ hi j F2 N2) (fun _ s₂ h₂' => C_mono h₂' (fun f s₃ h₃ => ?_) fun _ _ y => y) fun _ _ y => y
    cases f with
    | next =>
      obtain ⟨m3, n3, h3, tk3, rfl, j3, F3, N3⟩ := h₃
      refine ⟨m3, n3, h3, tk3, rfl, j3, F3, ?_⟩
      have e1 : ((i + 1 : Nat) : Int) = (i : Int) + 1 := by omega
      have e4 : 3 - ((i : Int) + 1) = 2 - (i : Int) := by omega
      rw [e1, e4]
      exact N3
    | cont => exact h₃.elim
    | brk => exact h₃.elim
    | ret v => exact h₃
  · rintro s' ⟨m', news', h', tk', rfl, j, F', N'⟩
    have hq := N' _ List.mem_cons_self
    refine wpAny_pyNext_range_end hh (it := it) (x := ((3 : Nat) : Int)) (left := 3 - ((3 : Nat) : Int)) (step := 1) hq.1 (by omega) ?_
    intro h₂ eb
    have hL : L ≠ it := fun e => hq.2.1 e.symm
    have F2 : Fr h₀ L h₂ m' := ⟨F'.ns.at' fun o e => eb _ _ hL e, fun b o e => eb b o (fun e2 => by rw [e2, hq.2.2] at e; cases e) (F'.keep b o e), F'.above⟩
    have N2 : News h₀ L h₂ news' := fun p hp => ⟨eb _ _ (hJ 3 m' news' j p hp) (N' p (List.mem_cons_of_mem _ hp)).1, (N' p (List.mem_cons_of_mem _ hp)).2⟩
    exact ⟨rfl, done m' news' h₂ tk' j F2 N2⟩
end

section

set_option maxHeartbeats 8000000
open PyProof.V PySem.Spec PySem.SeqAt in
theorem shaped_si (x : Str) (k : Int) (hx : PyData.strOk x = true) : shaped (.tuple [.str x, .int k]) = true := by
  simp [shaped, PyData.canLay0, PyData.canLayAll0, PyData.depth, PyData.depthAll, hx]
open PyProof.V PySem.Spec PySem.SeqAt in
theorem ne_si {prog : Program} {w : World} {A : Around} {E : Value → Shared → Prop} {s : Shared} {h₀ : Heap} {L : Addr} {news : List (Addr × Obj)} {a b : Addr} {x : Str} {k : Int} {t u t' u' : Tok} {Q : Value → Shared → Prop} (N : News h₀ L s.heap news) (ma : (a, ({ cls := .type "tuple", data := .seq #[.str x t, .int k u] } : Obj)) ∈ news) (mb : (b, ({ cls := .type "tuple", data := .seq #[.str x t', .int k u'] } : Obj)) ∈ news) (hu : A.units + 64 < cLine) (hx : PyData.strOk x = true)
    (h : Q (.bool false) s) : wpAny (model prog w) A (compareOp .NotEq (.ref a) (.ref b)) Q E s := by
  have ra : Reads s.heap (.ref a) (.tuple [.str x, .int k]) [] := Reads.tuple (N _ ma).1 rfl rfl (by simpa using ReadsAll.cons (Reads.str _ _) (ReadsAll.cons (Reads.int _ _) ReadsAll.nil))
  have rb : Reads s.heap (.ref b) (.tuple [.str x, .int k]) [] := Reads.tuple (N _ mb).1 rfl rfl (by simpa using ReadsAll.cons (Reads.str _ _) (ReadsAll.cons (Reads.int _ _) ReadsAll.nil))
  refine ne_dataH_same ra rb (shaped_si x k hx) (shaped_si x k hx) hu ?_ ?_
  · simp [noMix, noMixAll]
  · simpa [PySem.Spec.same, PySem.Spec.sameAll] using h
theorem pick3d (d : Nat → Drw) {i : Nat} (h : i < 3) : (#[Value.ref (d 0).D, .ref (d 1).D, .ref (d 2).D] : Array Value)[((i : Nat) : Int).toNat]? = some (.ref (d i).D) := by
  match i, h with
  | 0, _ => rfl
  | 1, _ => rfl
  | 2, _ => rfl
local macro_rules | `(tactic| walk1) => `(tactic| ((with_reducible show wpAny _ _ (subscriptTail _ _ (Value.ref _) (Value.int _ _)) _ _ _); (k_dflt (refine' item_list (News.isList ?N ?m) ?h0 ?h1 (pick3d _ ?h5) ?_ ?hs ?hg)); (case N => k_asm); (case m => repeat (first | assumption | apply List.Mem.tail)); (case h0 => omega); (case h1 => omega); (case h5 => assumption); (case hs => with_unfolding_all rfl); (case hg => (intro _; with_unfolding_all rfl)); walk_say "ITEM3"))
local macro_rules | `(tactic| walk1) => `(tactic| ((with_reducible show wpAny _ _ (subscriptTail _ _ (Value.str _ _) (Value.int _ _)) _ _ _); (refine item_str ?a ?b ?c ?_); (case a => (unfold fitsSsize; simp only [Bool.not_eq_true', Bool.or_eq_false_iff, decide_eq_false_iff_not]; constructor <;> omega)); (case b => omega); (case c => (show _ < ((3 : Nat) : Int); omega)); (intro _); walk_say "ITEMS"))
theorem pick3 {α : Type} (a b c : α) (f : Nat → α) (h0 : f 0 = a) (h1 : f 1 = b) (h2 : f 2 = c) {i : Nat} (h : i < 3) : (#[a, b, c])[i]? = some (f i) := by
  match i, h with
  | 0, _ => rw [h0]; rfl
  | 1, _ => rw [h1]; rfl
  | 2, _ => rw [h2]; rfl
noncomputable def forBody : Stmt → List Stmt
  | .For _ _ b _ _ => b
  | _ => []
noncomputable def stageB : List Stmt := forBody (lawSt 3)
noncomputable def placeB : List Stmt := forBody (stageB.getD 1 (.Pass ⟨0, 0, 0, 0⟩))
noncomputable def lineN (i : Nat) : Int := if i = 0 then 1 else (i : Int)
noncomputable abbrev lawM (st : Nat) (ts : Tok) (x : Addr) (pg : Str) (tp : Tok) (DL : Addr) (o : Str → Option Value) : Str → Option Value :=
  fun y => if y = Str.ofString "stage" then some (.int (st : Int) ts) else if y = Str.ofString "lexer" then some (.ref x) else if y = Str.ofString "page" then some (.str pg tp) else if y = Str.ofString "drawn" then some (.ref DL) else o y
theorem mapfst_cons {α β : Type} {us : List (α × β)} {a : α} {l : List α} (h : us.map (·.1) = a :: l) : ∃ q r, us = q :: r ∧ q.1 = a ∧ r.map (·.1) = l := by
  cases us with
  | nil => cases h
  | cons q r => exact ⟨q, r, rfl, (List.cons.inj h).1, (List.cons.inj h).2⟩
theorem mapfst_app {α β : Type} : ∀ (a : List α) {us : List (α × β)} {l : List α}, us.map (·.1) = a ++ l → ∃ p r, us = p ++ r ∧ p.map (·.1) = a ∧ r.map (·.1) = l
  | [], us, l, h => ⟨[], us, rfl, rfl, h⟩
  | x :: a, us, l, h => by
    obtain ⟨q, r, rfl, h1, h2⟩ := mapfst_cons h
    obtain ⟨p, r', rfl, h3, h4⟩ := mapfst_app a h2
    exact ⟨q :: p, r', rfl, by simp [h1, h3], h4⟩
theorem cut_rem {r : Nat → Str} {k i : Nat} {us : List (Str × Tok)} (h : us.map (·.1) = remS r (k + 1) i) : ∃ (pre rest rs : List (Str × Tok)) (dq dq2 : Str × Tok), us = pre ++ dq :: (rs ++ dq2 :: rest) ∧
    ((pre = [] ∧ lineN (i + 1) = lineN i) ∨ ∃ nl : Str × Tok, pre = [nl] ∧ nl.1 = Str.ofString "\n" ∧ lineN (i + 1) = lineN i + 1) ∧ dq.1 = Str.ofString "\"" ∧ dq2.1 = Str.ofString "\"" ∧ rs.map (·.1) = signs (r i) ∧ rest.map (·.1) = remS r k (i + 1) := by
  unfold remS at h
  obtain ⟨pre, r1, rfl, hp, h1⟩ := mapfst_app _ h
  obtain ⟨dq, r2, rfl, hd, h2⟩ := mapfst_cons h1
  obtain ⟨rs, r3, rfl, hr, h3⟩ := mapfst_app _ h2
  obtain ⟨dq2, rest, rfl, hd2, h4⟩ := mapfst_cons h3
  refine ⟨pre, rest, rs, dq, dq2, rfl, ?_, hd, hd2, hr, h4⟩
  by_cases hi : i = 0
  · rw [if_pos hi] at hp
    refine .inl ⟨by simpa using hp, ?_⟩
    subst hi; rfl
  · rw [if_neg hi] at hp
    obtain ⟨nl, q, rfl, hn, hq⟩ := mapfst_cons hp
    refine .inr ⟨nl, by simpa using hq, hn, ?_⟩
    unfold lineN
    rw [if_neg hi, if_neg (by omega)]
    omega
theorem d_own1 {a : Addr} {o : Obj} {x : List (Addr × Obj)} {own nw : List (Addr × Obj)} (h : ∀ p ∈ own, p ∈ nw) : ∀ p ∈ own, p ∈ (a, o) :: nw := fun p hp => .tail _ (h p hp)
theorem abc_ok (i : Nat) (hi : i < 3) : PyData.strOk (Txt.item (Str.ofString "abc") (i : Int)) = true := by
  have c : i = 0 ∨ i = 1 ∨ i = 2 := by omega
  rcases c with rfl | rfl | rfl <;> decide +kernel
theorem lawM_self {st : Nat} {ts : Tok} {x : Addr} {pg : Str} {tp : Tok} {DL : Addr} {m : Str → Option Value} (h1 : m (Str.ofString "stage") = some (.int (st : Int) ts)) (h2 : m (Str.ofString "lexer") = some (.ref x)) (h3 : m (Str.ofString "page") = some (.str pg tp)) (h4 : m (Str.ofString "drawn") = some (.ref DL)) : lawM st ts x pg tp DL m = m := by
  funext y
  show (if y = Str.ofString "stage" then _ else _) = _
  split
  · rename_i e; rw [e, h1]
  split
  · rename_i e; rw [e, h2]
  split
  · rename_i e; rw [e, h3]
  split
  · rename_i e; rw [e, h4]
  · rfl
theorem law_fr {st : Nat} {ts : Tok} {x : Addr} {pg : Str} {tp : Tok} {DL L : Addr} {h₀ h : Heap} {m : Str → Option Value} (F : Fr h₀ L h m) (h1 : m (Str.ofString "stage") = some (.int (st : Int) ts)) (h2 : m (Str.ofString "lexer") = some (.ref x)) (h3 : m (Str.ofString "page") = some (.str pg tp)) (h4 : m (Str.ofString "drawn") = some (.ref DL)) : Fr h₀ L h (lawM st ts x pg tp DL m) := by
  rw [lawM_self h1 h2 h3 h4]; exact F
theorem lineN_succ (i : Nat) : lineN (i + 1) = (i : Int) + 1 := by
  unfold lineN; rw [if_neg (by omega)]; omega
local macro_rules | `(tactic| walk1) => `(tactic| ((with_reducible show wpAny _ _ (call (Value.ref 209) [Value.ref _, Value.int _ _]) _ _ _); (k_dflt (refine' replyd_ _ _ _ _ _ ?ok ?hs _ _ _ _ _ _ _ _ _ _ _ _ _ _ _ _ _ _ _ _ _ _ ?k1 ?k2 ?k3 ?k4 ?k5 ?k6 ?k7 ?k8 (And.intro ?hm ?kQ))); (case ok => assumption); (case hs => first | assumption | decide); (case k1 => k_asm); (case k2 => k_asm); (case k3 => k_asm); (case k4 => k_asm); (case k5 => k_asm); (case k6 => first | exact rfl | assumption); (case k7 => ktr_room); (case k8 => ktr_units); (case hm => (intro p hp; (repeat (first | with_reducible exact (by assumption : ∀ p ∈ _, p ∈ _) p hp | with_reducible refine List.mem_cons_of_mem _ ?_ | with_reducible refine List.mem_append_right _ ?_ | (with_unfolding_all refine List.mem_cons_of_mem _ ?_))))); (intro t9 h9 tk9 F9 N9); (try dsimp only); (try k_fold); walk_say "CONTRACT reply"))
local macro_rules | `(tactic| walk1) => `(tactic| ((with_reducible show wpAny _ _ (compareOp CmpOp.NotEq (Value.ref _) (Value.ref _)) _ _ _); k_dflt (refine' ne_si ?N ?ma ?mb ?hu ?ok ?_; (case N => k_asm); (case ma => k_mem); (case mb => k_mem); (case hu => ktr_units); (case ok => assumption)); walk_say "NE_SI"))
local macro_rules | `(tactic| walk1) => `(tactic| ((with_reducible show wpAny _ _ (call (Value.ref 93) _) _ _ _); refine Hold.out ?_; walk_say "HOLD93"))
local macro_rules | `(tactic| walk1) => `(tactic| ((with_reducible show wpAny _ _ (call (Value.ref 216) [Value.ref _, Value.int _ _, Value.str _ _]) _ _ _); (k_dflt (refine' dued_ _ _ _ _ _ _ _ ?ok ?hs _ _ _ _ _ _ _ _ _ _ _ _ _ _ _ _ _ _ _ _ _ _ ?k1 ?k2 ?k3 ?k4 ?k5 ?k6 ?k7 ?k8 (And.intro ?hm ?kQ))); (case ok => assumption); (case hs => first | assumption | decide); (case k1 => k_asm); (case k2 => k_asm); (case k3 => k_asm); (case k4 => k_asm); (case k5 => k_asm); (case k6 => first | exact rfl | assumption); (case k7 => ktr_room); (case k8 => ktr_units); (case hm => (intro p hp; (repeat (first | with_reducible exact (by assumption : ∀ p ∈ _, p ∈ _) p hp | with_reducible refine List.mem_cons_of_mem _ ?_ | with_reducible refine List.mem_append_right _ ?_ | (with_unfolding_all refine List.mem_cons_of_mem _ ?_))))); (intro v9 own9 h9 tk9 A9 F9 N9); (try dsimp only); (try k_fold); walk_say "CONTRACT due"))
local macro_rules | `(tactic| walk1) => `(tactic| first | ((with_reducible show wpAny _ _ (spliced ((false, eval _ _) :: _)) _ _ _); refine spliced_cons ?_) | ((with_reducible show wpAny _ _ (spliced []) _ _ _); refine spliced_nil ?_))

theorem law_place (w : World) (n : Nat → Int) (d : Nat → Drw) (okd : ∀ i, i < 3 → (d i).Ok (n i)) (DL : Addr) (nl : Nat) (nw : List (Addr × Obj)) (hDL : (DL, listOf #[.ref (d 0).D, .ref (d 1).D, .ref (d 2).D] nl) ∈ nw) (hin : ∀ i, i < 3 → ∀ p ∈ (d i).own (n i), p ∈ nw)
    (X : Lexr) (S : Strm) (nw0 : List (Addr × Obj)) (hS : S.Ok nw0) (hX : X.Ok S) (n1 : ∀ p ∈ nw, p.1 ≠ S.sl) (n2 : ∀ p ∈ nw, p.1 ≠ X.dx) (st i : Nat) (hst : st < 3) (hi : i < 3) (ts ti tp tn : Tok) (pg : Str) (us : List (Str × Tok)) (cc : Nat) (hus : us.map (·.1) = remS (fun j => repS (n j) st) (3 - i) i) (o : Str → Option Value) : ∀ (loose : List Str) (mean : ExcName → Option Value) (mg mb : Str → Option Value) (fa : Addr) (cd : Value) (h₀ : Heap) (L : Addr) (s : Shared) (Q : Flow → Shared → Prop),
    Below callerA h₀ [] h₀ → Fr h₀ L s.heap (fun y => if y = Str.ofString "place" then some (.int (i : Int) ti) else lawM st ts X.x pg tp DL o y) → (K w.params).In h₀ → News h₀ L s.heap (X.own w S.st (lineN i) tn ++ (S.own w us.reverse cc ++ (S.codes ++ nw))) → Top topProg loose mean mg mb h₀ → CodeHd h₀ 182 178 →
    (∀ (o' : Str → Option Value) (us' : List (Str × Tok)) (tn' : Tok) (cc' : Nat) (h' : Heap) (tk : Nat), us'.map (·.1) = remS (fun j => repS (n j) st) (3 - (i + 1)) (i + 1) → Fr h₀ L h' (lawM st ts X.x pg tp DL o') → News h₀ L h' (X.own w S.st (lineN (i + 1)) tn' ++ (S.own w us'.reverse cc' ++ (S.codes ++ nw))) → Q .next { s with heap := h', toks := tk }) →
    wpC (model PySem.Challenge.rw_tr0056_01.row.prog w) (callerA.deeper (envOf (Str.ofString "law") (defS (stAt 22)) L fa cd)) (execs placeB (envOf (Str.ofString "law") (defS (stAt 22)) L fa cd)) Q (fun _ _ => False) s := by
  have eB := (rfl : placeB = placeB); conv at eB => rhs; whnf
  have eS := (rfl : defS (stAt 22) = defS (stAt 22)); conv at eS => rhs; whnf
  rw [eB, eS]
  clear eB eS
  k_fill
  intro loose mean mg mb fa cd h₀ L s Q B F1 X9 N1 T hC hret
  obtain ⟨pre, rest, rs, dq, dq2, rfl, hpre, hdq, hdq2, hrs, hrest⟩ := cut_rem (k := 2 - i) (by rw [show 2 - i + 1 = 3 - i by omega]; exact hus)
  rw [lineN_succ] at hpre
  have hsg := rep_signs (n i) st hst
  have hrr : ∀ p ∈ rs, PyData.strOk p.1 = true ∧ p.1 ≠ Str.ofString "\"" ∧ p.1 ≠ Str.ofString "\\" ∧ p.1 ≠ Str.ofString "\n" ∧ p.1.length = 1 := fun p hp => hsg p.1 (by rw [← hrs]; exact List.mem_map_of_mem hp)
  have hok := remS_ok (fun j => repS (n j) st) (fun j => rep_signs (n j) st hst) (3 - i) i
  have hln := remS_len (fun j => repS (n j) st) 60 (fun j => repS_len (n j) st) (3 - i) i
  rw [← hus] at hok hln
  have e9 := cat_signs _ _ hrs
  have hl9 := repS_len (n i) st
  have hrl : rs.length ≤ 60 := by
    have := congrArg List.length hrs
    rw [List.length_map, signs_len] at this
    omega
  have hstk : PyData.strOk (repS (n i) st) = true := strOk_signs _ fun c hc => (hsg c hc).1
  have hs2 : 0 ≤ (st : Int) ∧ (st : Int) ≤ 2 := by omega
  have hoki := okd i hi
  have hini := hin i hi
  have hlk223 : (K w.params).lookup 223 = some (o223 w.params) := by kernel_rfl
  unfold o223 at hlk223
  show wpC _ _ (execs ([_, _, _] ++ [_]) _) _ _ _
  refine C_cut ?_
  k_steps
  unfold Hold
  k_dflt (refine' gettok_ w X S cc (lineN i) ((i : Int) + 1) tn nw0 nw hS hX n1 n2 pre rest rs dq dq2 hpre hdq hdq2 ?hr ?hok ?hlen ?hrl _ _ _ _ _ _ _ _ _ _ _ _ _ _ _ _ _ _ _ _ _ ?k1 ?k2 ?k3 ?k4 ?k5 ?k6 ?k7 ?k8 ?k9 ?kR)
  case hr => exact fun p hp => (hrr p hp).2
  case hok => exact fun p hp => hok p.1 (List.mem_map_of_mem hp)
  case hlen => 
    simp only [List.length_append, List.length_cons, List.length_map] at hln ⊢
    omega
  case hrl => omega
  case k1 => k_asm
  case k2 => k_asm
  case k3 => k_asm
  case k4 => k_asm
  case k5 => k_asm
  case k6 => k_asm
  case k7 => exact rfl
  case k8 => ktr_room
  case k9 => ktr_units
  intro u9 tn9 cc9 h9 tk9 F9 N9
  rw [e9]
  clear N1 F1
  simp only [List.cons_append, List.nil_append] at N9
  k_steps
  show wpC _ _ (execs [_] _) _ _ _
  refine C_execs_cons (C_If_ne (fun _ => rfl) (C_eval_Call ?_))
  k_steps
  refine C_callWith_def rfl (by show 1 ≤ 29; decide) ?_
  show wpAny _ _ (spliced [(false, eval _ _), (false, eval _ _)]) _ _ _
  k_steps
  refine ⟨?fn, ?go⟩
  case fn => exact look_fr (by assumption) (by assumption) hlk223
  k_dflt (refine' told_ w (repS (n i) st) _ _ _ (by omega) (parts_ok (n i) st hst) _ _ _ _ _ _ _ _ _ _ _ _ _ _ _ _ _ _ _ _ ?j1 ?j2 ?j3 ?j4 ?j5 ?j6 ?j7 ?j8 ?j9 ?j10 ?jR)
  case j1 => k_asm
  case j2 => k_asm
  case j3 => k_asm
  case j4 => k_asm
  case j5 => k_asm
  case j6 => k_asm
  case j7 => k_asm
  case j8 => exact rfl
  case j9 => ktr_room
  case j10 => ktr_units
  intro v9 own9 h8 tk8 A8 F8 N8
  rw [told_due (n i) st hst] at A8
  cases hdu : dueN (n i) st with
  | txt x8 =>
    rw [hdu] at A8
    obtain ⟨rfl, t8, rfl⟩ := A8
    simp only [List.nil_append] at N8
    k_steps
    rename AnsV _ _ _ _ => hB
    rename News h₀ L _ (_ ++ _) => N11
    rw [hdu] at hB
    obtain ⟨rfl, t11, rfl⟩ := hB
    simp only [List.nil_append] at N11
    k_steps
    rw [if_neg (by simp)]
    refine C_execs_nil ?_
    show wpC _ _ (execs [] _) _ _ _
    refine C_execs_nil ?_
    rename Fr h₀ L _ _ => F11
    refine hret _ rest tn9 cc9 _ _ (by rw [hrest]; congr 1; omega) (law_fr F11 (by rfl) (by rfl) (by rfl) (by rfl)) ?_
    rw [lineN_succ]
    exact cb_drop N11 (fun p hp => by (repeat (first | exact hp | refine List.Mem.tail _ ?_)))
  | pair k8 =>
    rw [hdu] at A8
    obtain ⟨T8, t8, u8, rfl, rfl⟩ := A8
    simp only [List.cons_append, List.nil_append] at N8
    k_steps
    rename AnsV _ _ _ _ => hB
    rename News h₀ L _ (_ ++ _) => N11
    rw [hdu] at hB
    obtain ⟨T11, t11, u11, rfl, rfl⟩ := hB
    simp only [List.cons_append, List.nil_append] at N11
    have hoka : PyData.strOk (Txt.item (Str.ofString "abc") (i : Int)) = true := abc_ok i hi
    k_steps
    rw [if_neg (by simp)]
    refine C_execs_nil ?_
    show wpC _ _ (execs [] _) _ _ _
    refine C_execs_nil ?_
    rename Fr h₀ L _ _ => F11
    refine hret _ rest tn9 cc9 _ _ (by rw [hrest]; congr 1; omega) (law_fr F11 (by rfl) (by rfl) (by rfl) (by rfl)) ?_
    rw [lineN_succ]
    exact cb_drop N11 (fun p hp => by (repeat (first | exact hp | refine List.Mem.tail _ ?_)))
end

section

set_option maxHeartbeats 8000000
theorem own_ne {w : World} {X : Lexr} {S : Strm} {k k' : Int} {tn tn' : Tok} {l l' : List (Str × Tok)} {cc cc' : Nat} {nw : List (Addr × Obj)} {it : Addr} (h : ∀ p ∈ X.own w S.st k tn ++ (S.own w l cc ++ (S.codes ++ nw)), p.1 ≠ it) : ∀ p ∈ X.own w S.st k' tn' ++ (S.own w l' cc' ++ (S.codes ++ nw)), p.1 ≠ it := by
  intro p hp
  simp only [List.mem_append, List.mem_cons, List.not_mem_nil, or_false] at h hp
  rcases hp with (rfl | rfl | rfl) | (rfl | rfl | rfl | rfl | rfl) | (rfl | rfl) | hp
  · exact h _ (.inl (.inl rfl))
  · exact h _ (.inl (.inr (.inl rfl)))
  · exact h (X.dx, dictOf [⟨PyData.keyHash w.params "lineno", .str "lineno" X.k1, .int k tn⟩, ⟨PyData.keyHash w.params "instream", .str "instream" X.k2, .ref S.st⟩, ⟨PyData.keyHash w.params "whitespace", .str "whitespace" X.k3, .str "\n\t\r " X.tw⟩, ⟨PyData.keyHash w.params "pushback", .str "pushback" X.k4, .ref X.pb⟩] 4) (.inl (.inr (.inr rfl)))
  · exact h _ (.inr (.inl (.inl rfl)))
  · exact h _ (.inr (.inl (.inr (.inl rfl))))
  · exact h _ (.inr (.inl (.inr (.inr (.inl rfl)))))
  · exact h (S.sl, listOf (strValues l).toArray cc) (.inr (.inl (.inr (.inr (.inr (.inl rfl))))))
  · exact h _ (.inr (.inl (.inr (.inr (.inr (.inr rfl))))))
  · exact h _ (.inr (.inr (.inl (.inl rfl))))
  · exact h _ (.inr (.inr (.inl (.inr rfl))))
  · exact h _ (.inr (.inr (.inr hp)))
theorem own_perm {α : Type} (a b c d : List α) {e : α} : ∀ p ∈ a ++ (b ++ (c ++ e :: d)), p ∈ e :: (a ++ (b ++ (c ++ d))) := by
  intro p hp
  simp only [List.mem_append, List.mem_cons] at hp ⊢
  rcases hp with h | h | h | h | h <;> simp [h]
theorem own_perm' {α : Type} (a b c d : List α) {e : α} : ∀ p ∈ e :: (a ++ (b ++ (c ++ d))), p ∈ a ++ (b ++ (c ++ e :: d)) := by
  intro p hp
  simp only [List.mem_append, List.mem_cons] at hp ⊢
  rcases hp with h | h | h | h | h <;> simp [h]
theorem law_for (w : World) (n : Nat → Int) (d : Nat → Drw) (okd : ∀ i, i < 3 → (d i).Ok (n i)) (DL : Addr) (nl : Nat) (nw : List (Addr × Obj)) (hDL : (DL, listOf #[.ref (d 0).D, .ref (d 1).D, .ref (d 2).D] nl) ∈ nw) (hin : ∀ i, i < 3 → ∀ p ∈ (d i).own (n i), p ∈ nw)
    (X : Lexr) (S : Strm) (hS : S.Ok nw) (hX : X.Ok S) (st : Nat) (hst : st < 3) (ts tp tn : Tok) (pg : Str) (us : List (Str × Tok)) (cc : Nat) (hus : us.map (·.1) = remS (fun j => repS (n j) st) 3 0) (o : Str → Option Value) : ∀ (loose : List Str) (mean : ExcName → Option Value) (mg mb : Str → Option Value) (fa : Addr) (cd : Value) (h₀ : Heap) (L : Addr) (s : Shared) (Q : Flow → Shared → Prop),
    Below callerA h₀ [] h₀ → Fr h₀ L s.heap (lawM st ts X.x pg tp DL o) → (K w.params).In h₀ → News h₀ L s.heap (X.own w S.st 1 tn ++ (S.own w us.reverse cc ++ (S.codes ++ nw))) → Top topProg loose mean mg mb h₀ → CodeHd h₀ 182 178 →
    (∀ (o' : Str → Option Value) (us' : List (Str × Tok)) (tn' : Tok) (cc' : Nat) (h' : Heap) (tk : Nat), us'.map (·.1) = [Str.ofString "\n"] → Fr h₀ L h' (lawM st ts X.x pg tp DL o') → News h₀ L h' (X.own w S.st 3 tn' ++ (S.own w us'.reverse cc' ++ (S.codes ++ nw))) → Q .next { s with heap := h', toks := tk }) →
    wpC (model PySem.Challenge.rw_tr0056_01.row.prog w) (callerA.deeper (envOf (Str.ofString "law") (defS (stAt 22)) L fa cd)) (exec (stageB.getD 1 (.Pass ⟨0, 0, 0, 0⟩)) (envOf (Str.ofString "law") (defS (stAt 22)) L fa cd)) Q (fun _ _ => False) s := by
  have turn9 := law_place w n d okd DL nl
  have eB := (rfl : stageB.getD 1 (.Pass ⟨0, 0, 0, 0⟩) = stageB.getD 1 (.Pass ⟨0, 0, 0, 0⟩)); conv at eB => rhs; whnf
  have eP := (rfl : placeB = placeB); conv at eP => rhs; whnf
  have eS := (rfl : defS (stAt 22) = defS (stAt 22)); conv at eS => rhs; whnf
  rw [eP, eS] at turn9
  rw [eB, eS]
  clear eB eS eP
  k_fill
  intro loose mean mg mb fa cd h₀ L s Q B F1 X9 N1 T hC hret
  refine C_For (fun _ => rfl) ?_
  k_steps
  rename IsRange _ _ _ _ _ _ _ _ => R2
  rename Fr h₀ L _ _ => F2
  rename News h₀ L _ _ => N2
  refine wpAny_pyIter_range R2 (by decide) ?_
  have ne2 := News.apart N2
  have N3 := News.push F2 N2 (rgObj 0 3)
  have F3 := Fr.push F2 (rgObj 0 3)
  dsimp only at ne2 N3 F3 ⊢
  generalize hit : Array.size _ = it at ne2 N3 ⊢
  refine loop3 (fun i m news => ∃ (o : Str → Option Value) (tn : Tok) (us : List (Str × Tok)) (cc : Nat), m = lawM st ts X.x pg tp DL o ∧ news = X.own w S.st (lineN i) tn ++ (S.own w us.reverse cc ++ (S.codes ++ nw)) ∧ us.map (·.1) = remS (fun j => repS (n j) st) (3 - i) i) ?hJ (by exact rfl) ?turn ?done ⟨o, tn, us, cc, rfl, rfl, hus⟩ F3 N3
  case hJ =>
    rintro i m news ⟨o1, tn1, us1, cc1, rfl, rfl, _⟩
    exact own_ne ne2
  case done =>
    rintro m news h tk ⟨o1, tn1, us1, cc1, rfl, rfl, hu1⟩ F4 N4
    exact hret o1 us1 tn1 cc1 h tk hu1 F4 N4
  case turn =>
    rintro i m news h tk t hi ⟨o1, tn1, us1, cc1, rfl, rfl, hu1⟩ F4 N4
    clear F2 N2 F3 N3 R2
    k_steps
    rename Fr h₀ L _ _ => F5
    rename News h₀ L _ _ => N5
    have b1 : S.sl ≠ it := ne2 (S.sl, listOf (strValues us.reverse).toArray cc) (by simp)
    have b2 : X.dx ≠ it := ne2 (X.dx, dictOf [⟨PyData.keyHash w.params "lineno", .str "lineno" X.k1, .int 1 tn⟩, ⟨PyData.keyHash w.params "instream", .str "instream" X.k2, .ref S.st⟩, ⟨PyData.keyHash w.params "whitespace", .str "whitespace" X.k3, .str "\n\t\r " X.tw⟩, ⟨PyData.keyHash w.params "pushback", .str "pushback" X.k4, .ref X.pb⟩] 4) (by simp)
    refine turn9 ((it, rgObj ((i : Int) + 1) (2 - (i : Int))) :: nw) (.tail _ hDL) (fun j hj p hp => .tail _ (hin j hj p hp)) X S nw hS hX ?m1 ?m2 st i hst hi ts t tp tn1 pg us1 cc1 hu1 o1 loose mean mg mb fa cd h₀ L _ _ B F5 X9 (cb_drop N5 (own_perm _ _ _ _)) T hC ?ret
    case m1 =>
      intro p hp
      rcases List.mem_cons.mp hp with rfl | hp
      · exact b1.symm
      · exact Nat.ne_of_lt (Nat.lt_trans (hS.old p hp) hS.a1)
    case m2 =>
      intro p hp
      rcases List.mem_cons.mp hp with rfl | hp
      · exact b2.symm
      · exact Nat.ne_of_lt (Nat.lt_trans (hS.old p hp) (Nat.lt_trans hS.a1 (Nat.lt_trans hS.a2 (Nat.lt_trans hS.a3 (Nat.lt_trans hS.a4 hX.b0)))))
    case ret =>
      intro o6 us6 tn6 cc6 h6 tk6 hu6 F6 N6
      exact ⟨_, _, h6, tk6, rfl, ⟨o6, tn6, us6, cc6, rfl, rfl, hu6⟩, F6, cb_drop N6 (own_perm' _ _ _ _)⟩
end

section

set_option maxHeartbeats 8000000
local macro_rules | `(tactic| walk1) => `(tactic| ((with_reducible show wpAny _ _ (call (Value.ref 183) [Value.str _ _]) _ _ _); (k_dflt (refine' stream_ _ _ _ ?hx _ ?hc _ _ _ _ _ _ _ _ _ _ _ _ _ _ _ _ _ _ _ _ _ _ ?k1 ?k2 ?k3 ?k4 ?k5 ?k6 ?kn ?k7 ?k8 ?k9 ?kR)); (case hx => first | assumption | omega); (case hc => assumption); (case k1 => k_asm); (case k2 => k_asm); (case k3 => k_asm); (case k4 => first | assumption | k_asm); (case k5 => k_asm); (case k6 => k_asm); (case kn => assumption); (case k7 => first | exact rfl | assumption); (case k8 => ktr_room); (case k9 => ktr_units); (intro S9 l9 c9 h9 tk9 hS9 e9 F9 N9); (try dsimp only); (try k_fold); walk_say "CONTRACT stream"))
theorem lex_made {w : World} {S : Strm} {l : List (Str × Tok)} {cc tk : Nat} {nw : List (Addr × Obj)} {pg : Str} {h₀ h' : Heap} {L l' x' d' : Addr} {o : Str → Option Value} {s : Shared} {Q : Flow → Shared → Prop} {k1 k2 k3 k4 tw tn : Tok}
    (hret : ∀ (S : Strm) (X : Lexr) (l : List (Str × Tok)) (cc : Nat) (tn : Tok) (h' : Heap) (tk : Nat), S.Ok nw → X.Ok S → l.map (·.1) = (signs pg).reverse → Fr h₀ L h' (fun z => if z = Str.ofString "lexer" then some (.ref X.x) else o z) → News h₀ L h' (X.own w S.st 1 tn ++ (S.own w l cc ++ (S.codes ++ nw))) → Q .next { s with heap := h', toks := tk })
    (hS : S.Ok nw) (e9 : l.map (·.1) = (signs pg).reverse) (F : Fr h₀ L h' (fun z => if z = Str.ofString "lexer" then some (.ref x') else o z))
    (N : News h₀ L h' ((l', listOf #[] 0) :: (x', instObj 103 d') :: (d', dictOf [⟨PyData.keyHash w.params "lineno", .str "lineno" k1, .int 1 tn⟩, ⟨PyData.keyHash w.params "instream", .str "instream" k2, .ref S.st⟩, ⟨PyData.keyHash w.params "whitespace", .str "whitespace" k3, .str "\n\t\r " tw⟩, ⟨PyData.keyHash w.params "pushback", .str "pushback" k4, .ref l'⟩] 4) :: (S.own w l cc ++ (S.codes ++ nw))))
    (l1 : ∀ p ∈ S.own w l cc ++ (S.codes ++ nw), p.1 < d') (l2 : @LT.lt Nat _ d' x') (l3 : @LT.lt Nat _ x' l' ∧ @LT.lt Nat _ d' l' ∧ AllLt l' (S.own w l cc ++ (S.codes ++ nw))) : Q .next { s with heap := h', toks := tk } :=
  hret S ⟨l', x', d', k1, k2, k3, k4, tw⟩ l cc tn h' tk hS ⟨l1 (S.dst, dsObj w S.key S.rd) (List.mem_append_left _ (.head _)), l2, l3.1⟩ e9 F N
theorem law_lexer (w : World) (pg : Str) (tp : Tok) (hpg : pg.length ≤ 600) (o : Str → Option Value) (codes nw : List (Addr × Obj)) (hc : TabSt codes) (hn : ∀ p ∈ nw, p.1 ≠ 178) : ∀ (loose : List Str) (mean : ExcName → Option Value) (mg mb : Str → Option Value) (fa : Addr) (cd : Value) (h₀ : Heap) (L : Addr) (s : Shared) (Q : Flow → Shared → Prop) (E : Value → Shared → Prop),
    Below callerA h₀ [] h₀ → Fr h₀ L s.heap (fun z => if z = Str.ofString "page" then some (.str pg tp) else o z) → (K w.params).In h₀ → News h₀ L s.heap (codes ++ nw) → Top topProg loose mean mg mb h₀ → CodeHd h₀ 182 178 →
    (∀ (S : Strm) (X : Lexr) (l : List (Str × Tok)) (cc : Nat) (tn : Tok) (h' : Heap) (tk : Nat), S.Ok nw → X.Ok S → l.map (·.1) = (signs pg).reverse → Fr h₀ L h' (fun z => if z = Str.ofString "lexer" then some (.ref X.x) else if z = Str.ofString "page" then some (.str pg tp) else o z) → News h₀ L h' (X.own w S.st 1 tn ++ (S.own w l cc ++ (S.codes ++ nw))) → Q .next { s with heap := h', toks := tk }) →
    wpAny (model PySem.Challenge.rw_tr0056_01.row.prog w) (callerA.deeper (envOf (Str.ofString "law") (defS (stAt 22)) L fa cd)) (exec (stageB.getD 0 (.Pass ⟨0, 0, 0, 0⟩)) (envOf (Str.ofString "law") (defS (stAt 22)) L fa cd)) Q E s := by
  have eB := (rfl : stageB.getD 0 (.Pass ⟨0, 0, 0, 0⟩) = stageB.getD 0 (.Pass ⟨0, 0, 0, 0⟩)); conv at eB => rhs; whnf
  have eS := (rfl : defS (stAt 22) = defS (stAt 22)); conv at eS => rhs; whnf
  rw [eB, eS]
  clear eB eS
  k_fill
  intro loose mean mg mb fa cd h₀ L s Q E B F1 X9 N1 T hC hret
  k_steps
  exact lex_made hret (by assumption) (by assumption) (by assumption) (by assumption) (by assumption) (by assumption) (by assumption)
end

section

set_option maxHeartbeats 8000000
local macro_rules | `(tactic| walk1) => `(tactic| ((with_reducible show wpAny _ _ (call (Value.ref 93) _) _ _ _); refine Hold.out ?_; walk_say "HOLD93"))
local macro_rules | `(tactic| walk1) => `(tactic| ((with_reducible show wpAny _ _ (call (Value.ref 176) [Value.str _ _]) _ _ _); (k_dflt (refine' prepared_ _ _ _ ?hx _ _ _ _ _ _ _ _ _ _ _ _ _ _ _ _ _ _ _ _ _ _ ?k1 ?k2 ?k3 ?k4 ?k5 ?k6 ?k7 ?k8 ?kQ)); (case hx => first | assumption | omega); (case k1 => k_asm); (case k2 => k_asm); (case k3 => k_asm); (case k4 => k_asm); (case k5 => k_asm); (case k6 => first | exact rfl | assumption); (case k7 => ktr_room); (case k8 => ktr_units); (intro u9 h9 tk9 F9 N9); (try dsimp only); (try k_fold); walk_say "CONTRACT prepared"))
theorem law_tail (w : World) (X : Lexr) (S : Strm) (nw : List (Addr × Obj)) (hS : S.Ok nw) (hX : X.Ok S) (st : Nat) (ts tp tn : Tok) (pg : Str) (hpg : pg.length ≤ 600) (DL : Addr) (k : Int) (us : List (Str × Tok)) (cc : Nat) (hus : us.map (·.1) = [Str.ofString "\n"]) (o : Str → Option Value) : ∀ (loose : List Str) (mean : ExcName → Option Value) (mg mb : Str → Option Value) (fa : Addr) (cd : Value) (h₀ : Heap) (L : Addr) (s : Shared) (Q : Flow → Shared → Prop) (E : Value → Shared → Prop),
    Below callerA h₀ [] h₀ → Fr h₀ L s.heap (lawM st ts X.x pg tp DL o) → (K w.params).In h₀ → News h₀ L s.heap (X.own w S.st k tn ++ (S.own w us.reverse cc ++ (S.codes ++ nw))) → Top topProg loose mean mg mb h₀ → CodeHd h₀ 182 178 →
    (∀ (t : Tok) (h' : Heap) (tk : Nat), Fr h₀ L h' (fun y => if y = Str.ofString "page" then some (.str (prepS w.params pg) t) else lawM st ts X.x pg tp DL o y) → News h₀ L h' (S.codes ++ nw) → Q .next { s with heap := h', toks := tk }) →
    wpAny (model PySem.Challenge.rw_tr0056_01.row.prog w) (callerA.deeper (envOf (Str.ofString "law") (defS (stAt 22)) L fa cd)) (execs (stageB.drop 2) (envOf (Str.ofString "law") (defS (stAt 22)) L fa cd)) Q E s := by
  have eB := (rfl : stageB.drop 2 = stageB.drop 2); conv at eB => rhs; whnf
  have eS := (rfl : defS (stAt 22) = defS (stAt 22)); conv at eS => rhs; whnf
  rw [eB, eS]
  clear eB eS
  k_fill
  intro loose mean mg mb fa cd h₀ L s Q E B F1 X9 N1 T hC hret
  obtain ⟨nl, r, rfl, hnl, hr⟩ := mapfst_cons hus
  have hr0 : r = [] := by simpa using hr
  subst hr0
  k_steps
  unfold Hold
  k_dflt (refine' gettokE_ w X S cc k tn nw nw hS hX ?n1 ?n2 nl hnl ?hok _ _ _ _ _ _ _ _ _ _ _ _ _ _ _ _ _ _ _ _ _ ?k1 ?k2 ?k3 ?k4 ?k5 ?k6 ?k7 ?k8 ?k9 ?kR)
  case n1 => exact fun p hp => Nat.ne_of_lt (Nat.lt_trans (hS.old p hp) hS.a1)
  case n2 => exact fun p hp => Nat.ne_of_lt (Nat.lt_trans (hS.old p hp) (Nat.lt_trans hS.a1 (Nat.lt_trans hS.a2 (Nat.lt_trans hS.a3 (Nat.lt_trans hS.a4 hX.b0)))))
  case hok => rw [hnl]; exact ok_nl
  case k1 => k_asm
  case k2 => k_asm
  case k3 => k_asm
  case k4 => k_asm
  case k5 => k_asm
  case k6 => k_asm
  case k7 => exact rfl
  case k8 => ktr_room
  case k9 => ktr_units
  intro u9 tn9 cc9 h9 tk9 F9 N9
  clear N1 F1
  simp only [List.cons_append, List.nil_append] at N9
  k_steps
  rename Fr h₀ L _ _ => F11
  rename News h₀ L _ _ => N11
  exact hret _ _ _ F11 (cb_drop N11 (fun p hp => by (repeat (first | exact hp | refine List.Mem.tail _ ?_))))
end

section

set_option maxHeartbeats 8000000
theorem law_stage (w : World) (n : Nat → Int) (d : Nat → Drw) (okd : ∀ i, i < 3 → (d i).Ok (n i)) (DL : Addr) (nl : Nat) (nw : List (Addr × Obj)) (hDL : (DL, listOf #[.ref (d 0).D, .ref (d 1).D, .ref (d 2).D] nl) ∈ nw) (hin : ∀ i, i < 3 → ∀ p ∈ (d i).own (n i), p ∈ nw) (hn : ∀ p ∈ nw, p.1 ≠ 178)
    (st : Nat) (hst : st < 3) (ts tp : Tok) (codes : List (Addr × Obj)) (hc : TabSt codes) : ∀ (loose : List Str) (mean : ExcName → Option Value) (mg mb : Str → Option Value) (fa : Addr) (cd : Value) (h₀ : Heap) (L : Addr) (m : Str → Option Value) (s : Shared) (Q : Flow → Shared → Prop),
    Below callerA h₀ [] h₀ → Fr h₀ L s.heap m → m (Str.ofString "stage") = some (.int (st : Int) ts) → m (Str.ofString "page") = some (.str (pageS n st) tp) → m (Str.ofString "drawn") = some (.ref DL) → (K w.params).In h₀ → News h₀ L s.heap (codes ++ nw) → Top topProg loose mean mg mb h₀ → CodeHd h₀ 182 178 →
    (∀ (m' : Str → Option Value) (codes' : List (Addr × Obj)) (t : Tok) (h' : Heap) (tk : Nat), TabSt codes' → m' (Str.ofString "drawn") = some (.ref DL) → m' (Str.ofString "page") = some (.str (prepS w.params (pageS n st)) t) → Fr h₀ L h' m' → News h₀ L h' (codes' ++ nw) → Q .next { s with heap := h', toks := tk }) →
    wpC (model PySem.Challenge.rw_tr0056_01.row.prog w) (callerA.deeper (envOf (Str.ofString "law") (defS (stAt 22)) L fa cd)) (execs stageB (envOf (Str.ofString "law") (defS (stAt 22)) L fa cd)) Q (fun _ _ => False) s := by
  intro loose mean mg mb fa cd h₀ L m s Q B F hms hmp hmd X9 N T hC hret
  have eB : stageB = stageB.getD 0 (.Pass ⟨0, 0, 0, 0⟩) :: stageB.getD 1 (.Pass ⟨0, 0, 0, 0⟩) :: stageB.drop 2 := rfl
  rw [eB]
  have Fp : Fr h₀ L s.heap (fun z => if z = Str.ofString "page" then some (.str (pageS n st) tp) else m z) := by
    have e : (fun z => if z = Str.ofString "page" then some (.str (pageS n st) tp) else m z) = m := by
      funext z; split
      · rename_i q; rw [q, hmp]
      · rfl
    rw [e]; exact F
  refine C_execs_cons (C_any (law_lexer w (pageS n st) tp (pageS_len n st) m codes nw hc hn loose mean mg mb fa cd h₀ L s _ _ B Fp X9 N T hC ?_))
  intro S X l cc tn h' tk hS hX hl F1 N1
  show wpC _ _ (execs (_ :: _) _) _ _ _
  have hus : (l.reverse).map (·.1) = remS (fun j => repS (n j) st) 3 0 := by
    rw [List.map_reverse, hl, List.reverse_reverse]; exact page_signs n st hst
  refine C_execs_cons (law_for w n d okd DL nl nw hDL hin X S hS hX st hst ts tp tn (pageS n st) l.reverse cc hus _ loose mean mg mb fa cd h₀ L _ _ B (law_fr F1 ?a1 (by rfl) (by rfl) ?a4) X9 (by rw [List.reverse_reverse]; exact N1) T hC ?_)
  case a1 => exact hms
  case a4 => exact hmd
  intro o' us' tn' cc' h2 tk2 hu2 F2 N2
  show wpC _ _ (execs (stageB.drop 2) _) _ _ _
  refine C_any (law_tail w X S nw hS hX st ts tp tn' (pageS n st) (pageS_len n st) DL 3 us' cc' hu2 o' loose mean mg mb fa cd h₀ L _ _ _ B F2 X9 N2 T hC ?_)
  intro t h3 tk3 F3 N3
  exact hret _ S.codes t h3 tk3 (tabSt_codes hS) (by rfl) (by rfl) F3 N3
end

section

set_option maxHeartbeats 8000000
theorem tab_ne {codes news : List (Addr × Obj)} {it : Addr} {x left : Int} {h₀ h : Heap} {L : Addr} (hc : TabSt codes) (N : News h₀ L h (codes ++ (it, rgObj x left) :: news)) (h178 : (178 : Nat) ≠ it) : ∀ p ∈ codes, p.1 ≠ it := by
  rcases hc with rfl | ⟨c1, c2, oc2, rfl, ⟨vs, t, hd, hv⟩, h7⟩
  · intro p hp
    rw [List.mem_singleton.mp hp]; exact h178
  · intro p hp
    rcases List.mem_cons.mp hp with rfl | hp
    · exact h178
    · rw [List.mem_singleton.mp hp]
      rintro rfl
      have e1 := (N (c2, oc2) (by simp)).1
      have e2 := (N (c2, rgObj x left) (by simp)).1
      have e3 : oc2 = rgObj x left := Option.some.inj (e1.symm.trans e2)
      rw [e3] at hd
      have e4 : vs = #[PySem.rawInt x, PySem.rawInt left, PySem.rawInt 1] := by
        have : Data.fields #[PySem.rawInt x, PySem.rawInt left, PySem.rawInt 1] = .fields vs := hd
        exact (Data.fields.inj this).symm
      rw [e4] at hv
      have e5 : PySem.rawInt left = .str qualR t := Option.some.inj hv
      cases e5
theorem tab178 {codes : List (Addr × Obj)} (hc : TabSt codes) : ∃ o, (178, o) ∈ codes := by
  rcases hc with rfl | ⟨c1, c2, oc2, rfl, _, _⟩
  · exact ⟨_, .head _⟩
  · exact ⟨_, .head _⟩
theorem law_stages (w : World) (n : Nat → Int) (d : Nat → Drw) (okd : ∀ i, i < 3 → (d i).Ok (n i)) (DL : Addr) (nl : Nat) (nw : List (Addr × Obj)) (hDL : (DL, listOf #[.ref (d 0).D, .ref (d 1).D, .ref (d 2).D] nl) ∈ nw) (hin : ∀ i, i < 3 → ∀ p ∈ (d i).own (n i), p ∈ nw) (hn : ∀ p ∈ nw, p.1 ≠ 178)
    (tp : Tok) (codes : List (Addr × Obj)) (hc : TabSt codes) : ∀ (loose : List Str) (mean : ExcName → Option Value) (mg mb : Str → Option Value) (fa : Addr) (cd : Value) (h₀ : Heap) (L : Addr) (m : Str → Option Value) (s : Shared) (Q : Flow → Shared → Prop),
    Below callerA h₀ [] h₀ → Fr h₀ L s.heap m → m (Str.ofString "page") = some (.str (pageS n 0) tp) → m (Str.ofString "drawn") = some (.ref DL) → (K w.params).In h₀ → News h₀ L s.heap (codes ++ nw) → Top topProg loose mean mg mb h₀ → CodeHd h₀ 182 178 →
    (∀ (m' : Str → Option Value) (codes' : List (Addr × Obj)) (h' : Heap) (tk : Nat), TabSt codes' → Fr h₀ L h' m' → News h₀ L h' (codes' ++ nw) → Q .next { s with heap := h', toks := tk }) →
    wpC (model PySem.Challenge.rw_tr0056_01.row.prog w) (callerA.deeper (envOf (Str.ofString "law") (defS (stAt 22)) L fa cd)) (exec (lawSt 3) (envOf (Str.ofString "law") (defS (stAt 22)) L fa cd)) Q (fun _ _ => False) s := by
  have turn9 := law_stage w n d okd DL nl
  have eB := (rfl : lawSt 3 = lawSt 3); conv at eB => rhs; whnf
  have eP := (rfl : stageB = stageB); conv at eP => rhs; whnf
  have eS := (rfl : defS (stAt 22) = defS (stAt 22)); conv at eS => rhs; whnf
  rw [eP, eS] at turn9
  rw [eB, eS]
  clear eB eS eP
  k_fill
  intro loose mean mg mb fa cd h₀ L m s Q B F1 hmp hmd X9 N1 T hC hret
  refine C_For (fun _ => rfl) ?_
  k_steps
  rename IsRange _ _ _ _ _ _ _ _ => R2
  rename Fr h₀ L _ _ => F2
  rename News h₀ L _ _ => N2
  refine wpAny_pyIter_range R2 (by decide) ?_
  have ne2 := News.apart N2
  have N3 := News.push F2 N2 (rgObj 0 3)
  have F3 := Fr.push F2 (rgObj 0 3)
  dsimp only at ne2 N3 F3 ⊢
  generalize hit : Array.size _ = it at ne2 N3 ⊢
  have ne178 : (178 : Nat) ≠ it := by obtain ⟨o, ho⟩ := tab178 hc; exact ne2 _ (List.mem_append_left _ ho)
  refine loop3 (fun i m news => ∃ (codes : List (Addr × Obj)), news = codes ++ nw ∧ TabSt codes ∧ (∀ p ∈ codes, p.1 ≠ it) ∧ m (Str.ofString "drawn") = some (.ref DL) ∧ (i < 3 → ∃ t, m (Str.ofString "page") = some (.str (pageS n i) t))) ?hJ (by exact rfl) ?turn ?done ⟨codes, rfl, hc, fun p hp => ne2 p (List.mem_append_left _ hp), hmd, fun _ => ⟨tp, hmp⟩⟩ F3 N3
  case hJ =>
    rintro i m news ⟨c1, rfl, _, hx, _⟩ p hp
    rcases List.mem_append.mp hp with hp | hp
    · exact hx p hp
    · exact ne2 p (List.mem_append_right _ hp)
  case done =>
    rintro m news h tk ⟨c1, rfl, hc1, _⟩ F4 N4
    exact hret m c1 h tk hc1 F4 N4
  case turn =>
    rintro i m news h tk t hi ⟨c1, rfl, hc1, hx1, hd1, hp1⟩ F4 N4
    obtain ⟨t1, hp1⟩ := hp1 hi
    clear F2 N2 F3 N3 R2
    k_steps
    rename Fr h₀ L _ _ => F5
    rename News h₀ L _ _ => N5
    refine turn9 ((it, rgObj ((i : Int) + 1) (2 - (i : Int))) :: nw) (.tail _ hDL) (fun j hj p hp => .tail _ (hin j hj p hp)) ?m1 i hi t t1 c1 hc1 loose mean mg mb fa cd h₀ L _ _ _ B F5 ?s1 ?s2 ?s3 X9 (cb_drop N5 ?per) T hC ?ret
    case m1 =>
      intro p hp
      rcases List.mem_cons.mp hp with rfl | hp
      · exact fun e => ne178 e.symm
      · exact hn p hp
    case s1 => rfl
    case s2 => exact hp1
    case s3 => exact hd1
    case per =>
      intro p hp
      simp only [List.mem_append, List.mem_cons] at hp ⊢
      rcases hp with h | h | h <;> simp [h]
    case ret =>
      intro m6 c6 t6 h6 tk6 hc6 hd6 hp6 F6 N6
      refine ⟨m6, c6 ++ nw, h6, tk6, rfl, ⟨c6, rfl, hc6, tab_ne hc6 N6 ne178, hd6, fun h3 => ⟨t6, ?_⟩⟩, F6, cb_drop N6 ?per2⟩
      · rw [hp6, prep_page w.params n i (by omega)]; rfl
      case per2 =>
        intro p hp
        simp only [List.mem_append, List.mem_cons] at hp ⊢
        rcases hp with h | h | h <;> simp [h]
end

section

set_option maxHeartbeats 8000000
theorem three_of (script : List Int) : ∃ n0 n1 n2, List.take 3 (script ++ [7293904, 25722146, 25923]) = [n0, n1, n2] := by
  match script with
  | [] => exact ⟨_, _, _, rfl⟩
  | [a] => exact ⟨_, _, _, rfl⟩
  | [a, b] => exact ⟨_, _, _, rfl⟩
  | a :: b :: c :: r => exact ⟨a, b, c, rfl⟩
theorem ints3 {vs : List Value} {n0 n1 n2 : Int} (h : IntsAre vs [n0, n1, n2]) : ∃ t0 t1 t2, vs = [.int n0 t0, .int n1 t1, .int n2 t2] := by
  cases h with
  | cons k0 t0 h => cases h with
    | cons k1 t1 h => cases h with
      | cons k2 t2 h => cases h; exact ⟨t0, t1, t2, rfl⟩
theorem dr_end {h₀ h' : Heap} {L I C D ax : Addr} {m : Str → Option Value} {s₁ : Shared} {oI oC oD : Obj} {its : Array Value} {rest : Value → List (Addr × Obj) → Prop} {n : Int} {D9 fa ba : Addr} {vf vb : List Value} {nf nb tk : Nat} {tp td : Tok} {news : List (Addr × Obj)}
    (F : Fr h₀ L h' m) (N : News h₀ L h' ((D9, drObj fa ba (portN n) (hidN n) (dressN n) tp td) :: (ba, listOf vb.toArray nb) :: (fa, listOf vf.toArray nf) :: (I, oI) :: (C, oC) :: (D, oD) :: news)) (i1 : IntsAre vf (frontN n)) (i2 : IntsAre vb (backN n))
    (lfa : AllLt fa ((I, oI) :: (C, oC) :: (D, oD) :: news)) (l1 : @LT.lt Nat _ fa ba) (l2 : @LT.lt Nat _ ba D9) (off : PyProof.Rows.LCg.Off3 I C D news) (hS : PyProof.Rows.LCg.SrcAt h₀ ax its news)
    (r : ∀ d : Drw, d.Ok n → PyProof.Rows.LCg.SrcAt h₀ ax its (d.own n ++ news) → rest (.ref d.D) (d.own n ++ news)) :
    PyProof.Rows.LCg.CompEnd h₀ L m s₁ I oI C oC D oD (PyProof.Rows.LCg.SrcAt h₀ ax its) rest (.ref D9) { s₁ with heap := h', toks := tk } := by
  have hI : @LT.lt Nat _ I fa := ktn_ltOf lfa (I, oI) List.mem_cons_self
  have hC : @LT.lt Nat _ C fa := ktn_ltOf lfa (C, oC) (List.mem_cons_of_mem _ List.mem_cons_self)
  have hD : @LT.lt Nat _ D fa := ktn_ltOf lfa (D, oD) (List.mem_cons_of_mem _ (List.mem_cons_of_mem _ List.mem_cons_self))
  refine PyProof.Rows.LCg.CompEnd.intro F N ((⟨D9, fa, ba, vf, vb, nf, nb, tp, td⟩ : Drw).own n ++ news) (fun p hp => ?_) (PyProof.Rows.LCg.Off3.of fun p hp => ?_) ?hS (r ⟨D9, fa, ba, vf, vb, nf, nb, tp, td⟩ ⟨i1, i2⟩ ?hS)
  · simp only [List.mem_append, List.mem_cons, List.not_mem_nil, or_false] at hp ⊢
    rcases hp with h | h | h | (h | h | h) | h <;> simp [h]
  · simp only [List.mem_append, List.mem_cons, List.not_mem_nil, or_false] at hp
    rcases hp with (rfl | rfl | rfl) | h
    · exact ⟨Nat.ne_of_gt (Nat.lt_trans hI (Nat.lt_trans l1 l2)), Nat.ne_of_gt (Nat.lt_trans hC (Nat.lt_trans l1 l2)), Nat.ne_of_gt (Nat.lt_trans hD (Nat.lt_trans l1 l2))⟩
    · exact ⟨Nat.ne_of_gt (Nat.lt_trans hI l1), Nat.ne_of_gt (Nat.lt_trans hC l1), Nat.ne_of_gt (Nat.lt_trans hD l1)⟩
    · exact ⟨Nat.ne_of_gt hI, Nat.ne_of_gt hC, Nat.ne_of_gt hD⟩
    · exact off.mem p h
  case hS =>
    rcases hS with h | ⟨o, hm, h⟩
    · exact .inl h
    · exact .inr ⟨o, List.mem_append_right _ hm, h⟩
local macro_rules | `(tactic| walk1) => `(tactic| ((with_reducible show wpAny _ _ (call (Value.ref 190) [Value.int _ _]) _ _ _); (k_dflt (refine' drawn_ _ _ _ _ _ _ _ _ _ _ _ _ _ _ _ _ _ _ _ _ _ _ _ _ _ ?k1 ?k2 ?k3 ?k4 ?k5 ?k6 ?k7 ?k8 ?kR)); (case k1 => k_asm); (case k2 => k_asm); (case k3 => k_asm); (case k4 => k_asm); (case k5 => k_asm); (case k6 => first | exact rfl | assumption); (case k7 => ktr_room); (case k8 => ktr_units); (intro D9 fa9 ba9 vf9 vb9 nf9 nb9 tp9 td9 h9 tk9 F9 N9 i19 i29 l9 l19 l29); (try dsimp only); (try k_fold); walk_say "CONTRACT drawn_"))
noncomputable def LawFin (h₀ : Heap) (s : Shared) (f : Flow) (s' : Shared) : Prop :=
  ∃ h' tk ps, f = .ret (.bool true) ∧ s' = { s with heap := h', toks := tk } ∧ (∀ b o, h₀.get? b = some o → h'.get? b = some o) ∧ h'.get? 178 = some (tabObj ps)
noncomputable def tri {α : Type} (a b c : α) : Nat → α
  | 0 => a
  | 1 => b
  | _ => c
theorem law_body (w : World) (script : List Int) (vals : List Value) (va : Addr) (hI : IntsAre vals script) (hlen : script.length ≤ 63) : ∀ (loose : List Str) (mean : ExcName → Option Value) (mg mb : Str → Option Value) (fa : Addr) (cd : Value) (h₀ : Heap) (L : Addr) (s : Shared),
    Below callerA h₀ [] h₀ → Fr h₀ L s.heap (fun y => List.lookup y [(Str.ofString "script", Value.ref va)]) → (K w.params).In h₀ → News h₀ L s.heap [(178, tabObj #[])] → Top topProg loose mean mg mb h₀ → CodeHd h₀ 182 178 → 178 < L → h₀.IsList va vals.toArray →
    wpC (model PySem.Challenge.rw_tr0056_01.row.prog w) (callerA.deeper (envOf (Str.ofString "law") (defS (stAt 22)) L fa cd)) (execs (defB (stAt 22)) (envOf (Str.ofString "law") (defS (stAt 22)) L fa cd)) (LawFin h₀ s) (fun _ _ => False) s := by
  have eB := (rfl : defB (stAt 22) = defB (stAt 22)); conv at eB => rhs; whnf
  have eS := (rfl : defS (stAt 22) = defS (stAt 22)); conv at eS => rhs; whnf
  rw [eB, eS]
  clear eB eS
  k_fill
  intro loose mean mg mb fa cd h₀ L s B F X9 N T hC hlt hv
  show wpC _ _ (execs ([_] ++ [_, _, _, _]) _) _ _ _
  refine C_cut ?_
  k_steps
  show wpC _ _ (execs [_, _, _, _] _) _ _ _
  rename IntsAre _ (List.take _ _) => hT3
  obtain ⟨n0, n1, n2, e3⟩ := three_of script
  rw [e3] at hT3
  obtain ⟨t0, t1, t2, rfl⟩ := ints3 hT3
  rename News _ _ _ _ => N1
  rename Fr _ _ _ _ => F1
  refine C_execs_cons (C_any ?_)
  refine PyProof.Rows.LCg.Assign_ListComp_U F1 rfl ?hsw rfl ?hcell rfl ?hnames rfl rfl rfl ?h (fun _ => rfl)
  case hsw => rfl
  case hcell => decide
  case hnames => decide
  refine' ld ?k1 ?k2 ?_
  case k1 => exact F1
  case k2 => exact rfl
  refine PyProof.Rows.LCg.CompSrc.ledger (its := #[.int n0 t0, .int n1 t1, .int n2 t2]) (k := 0) rfl F1 N1 (by simp) (by show 3 ≤ sizeLine; rw [PySem.sizeLine_eq]; decide) ?_
  intro g9
  have hMark : KPfMark := trivial
  have hS9 := src_head N1
  refine PyProof.Rows.LCg.CompRest.succ fun v I oI C oC D m₂ h tk E' hP hN hm hF hNe hOff hNe' => ?_
  obtain rfl : Value.int n0 t0 = v := by simpa using hP
  k_steps
  refine dr_end (by assumption) (by assumption) (by assumption) (by assumption) (by assumption) (by assumption) (by assumption) hOff (by assumption) (fun d0 hd0 hS0 => ?_)
  clear hP hN hm hF hNe hOff hNe'
  refine PyProof.Rows.LCg.CompRest.succ fun v I oI C oC D m₂ h tk E' hP hN hm hF hNe hOff hNe' => ?_
  obtain rfl : Value.int n1 t1 = v := by simpa using hP
  k_steps
  refine dr_end (by assumption) (by assumption) (by assumption) (by assumption) (by assumption) (by assumption) (by assumption) hOff (by assumption) (fun d1 hd1 hS1 => ?_)
  clear hP hN hm hF hNe hOff hNe'
  refine PyProof.Rows.LCg.CompRest.succ fun v I oI C oC D m₂ h tk E' hP hN hm hF hNe hOff hNe' => ?_
  obtain rfl : Value.int n2 t2 = v := by simpa using hP
  k_steps
  refine dr_end (by assumption) (by assumption) (by assumption) (by assumption) (by assumption) (by assumption) (by assumption) hOff (by assumption) (fun d2 hd2 hS2 => ?_)
  clear hP hN hm hF hNe hOff hNe'
  intro DL hL tkL FL NL offL
  have N8 : News h₀ L hL ([(178, tabObj #[])] ++ drs (tri d0 d1 d2) (tri n0 n1 n2) DL 3) := cb_drop NL (fun p hp => by
    have hp : p = (178, tabObj #[]) ∨ p = (DL, listOf #[.ref d0.D, .ref d1.D, .ref d2.D] 3) ∨ p ∈ d0.own n0 ∨ p ∈ d1.own n1 ∨ p ∈ d2.own n2 := by
      simpa only [tri, drs, List.mem_append, List.mem_cons, List.not_mem_nil, or_false] using hp
    rcases hp with rfl | rfl | h | h | h
    · simp
    · exact List.mem_cons_self
    · exact .tail _ (List.mem_append_right _ (List.mem_append_right _ (List.mem_append_left _ h)))
    · exact .tail _ (List.mem_append_right _ (List.mem_append_left _ h))
    · exact .tail _ (List.mem_append_left _ h))
  have h178 : ∀ p ∈ drs (tri d0 d1 d2) (tri n0 n1 n2) DL 3, p.1 ≠ 178 := fun p hp => News.twoPlaces N8 (p := p) (q := (178, tabObj #[])) (List.mem_append_right _ hp) (by simp) (by
    have hp : p = (DL, listOf #[.ref d0.D, .ref d1.D, .ref d2.D] 3) ∨ p ∈ d0.own n0 ∨ p ∈ d1.own n1 ∨ p ∈ d2.own n2 := by
      simpa only [tri, drs, List.mem_append, List.mem_cons, List.not_mem_nil, or_false] using hp
    simp only [List.mem_cons, List.not_mem_nil, or_false] at hp
    intro e
    have e2 := congrArg Obj.cls e
    rcases hp with rfl | (rfl | rfl | rfl) | (rfl | rfl | rfl) | (rfl | rfl | rfl) <;> cases e2)
  have hin0 : ∀ i, i < 3 → ∀ p ∈ (tri d0 d1 d2 i).own (tri n0 n1 n2 i), p ∈ drs (tri d0 d1 d2) (tri n0 n1 n2) DL 3 := by
    intro i hi p hp
    have c : i = 0 ∨ i = 1 ∨ i = 2 := by omega
    rcases c with rfl | rfl | rfl
    · exact .tail _ (List.mem_append_left _ hp)
    · exact .tail _ (List.mem_append_right _ (List.mem_append_left _ hp))
    · exact .tail _ (List.mem_append_right _ (List.mem_append_right _ hp))
  have okd : ∀ i, i < 3 → (tri d0 d1 d2 i).Ok (tri n0 n1 n2 i) := by
    intro i hi
    have c : i = 0 ∨ i = 1 ∨ i = 2 := by omega
    rcases c with rfl | rfl | rfl <;> assumption
  clear NL
  show wpC _ _ (execs [lawSt 2, lawSt 3, lawSt 4] (envOf (Str.ofString "law") (defS (stAt 22)) L fa cd)) _ _ _
  refine C_execs_cons (C_any (law_page w (tri n0 n1 n2) (tri d0 d1 d2) hd0 hd1 hd2 DL 3 _ ([(178, tabObj #[])] ++ drs (tri d0 d1 d2) (tri n0 n1 n2) DL 3) (List.mem_append_right _ (.head _)) (fun p hp => List.mem_append_right _ (hin0 0 (by decide) p hp)) (fun p hp => List.mem_append_right _ (hin0 1 (by decide) p hp)) (fun p hp => List.mem_append_right _ (hin0 2 (by decide) p hp)) loose mean mg mb fa cd h₀ L _ _ _ B FL X9 N8 T ?_))
  intro t8 h8 tk8 F8 N8
  show wpC _ _ (execs [lawSt 3, lawSt 4] _) _ _ _
  refine C_execs_cons (law_stages w (tri n0 n1 n2) (tri d0 d1 d2) okd DL 3 (drs (tri d0 d1 d2) (tri n0 n1 n2) DL 3) (.head _) hin0 h178 t8 [(178, tabObj #[])] (.inl rfl) loose mean mg mb fa cd h₀ L _ _ _ B F8 (by rfl) (by rfl) X9 N8 T hC ?_)
  intro m9 codes9 h9 tk9 hc9 F9 N9
  obtain ⟨ps, hps⟩ : ∃ ps, (178, tabObj ps) ∈ codes9 := by
    rcases hc9 with rfl | ⟨c1, c2, oc2, rfl, _, _⟩
    · exact ⟨_, .head _⟩
    · exact ⟨_, .head _⟩
  show wpC _ _ (execs [lawSt 4] _) _ _ _
  refine C_execs_cons (C_Return (C_any ?_))
  k_steps
  exact ⟨h9, tk9, ps, rfl, rfl, F9.keep, (N9 _ (List.mem_append_left _ hps)).1⟩
end
end Mine

namespace Mine
open PySem PySem.W PySem.Calls PyProof.Rows
set_option maxHeartbeats 8000000
/-- the looks at the law, each by itself (o_law would lay a twin of the whole program into the file) -/
theorem said0 : OpenLaw.wellSaid PySem.Challenge.rw_tr0056_01 = true := by
  delta OpenLaw.wellSaid
  repeat' (with_reducible refine look_both ?_ ?_)
  all_goals try (delta OpenRow.wellSaid; repeat' (with_reducible refine look_both ?_ ?_))
  all_goals try (delta OpenRow.partSaid; repeat' (with_reducible refine look_both ?_ ?_))
  all_goals try (delta looksOpen; repeat' (with_reducible refine look_both ?_ ?_))
  all_goals decide +kernel
theorem holdsK : PySem.Challenge.rw_tr0056_01.Holds := by
  w_on
  refine holds_law said0 fun said => ?_
  refine holds_under (q := q) (loose := loose) (Xt := XtT) (XP := XL q []) (Yf := Hook.obs hkK) (Ya := Hook.val hkK) (YP := Hook.says hkK) (N := 40000) left1 (Hook.of hkK) (Hook.keeps hkK) (fun s e => xl_of s (Bool.and_eq_true_iff.mp e).1) XL.keeps (by rfl) (by rfl) (by rfl) (fun s e => recFacts_of (Bool.and_eq_true_iff.mp e).2) (by rfl) (by assumption) (by decide +kernel) ⟨rfl, rfl, rfl, rfl, rfl, by decide +kernel⟩ ?hw ?hc
  case hw => w_witness2
  case hc => 
    delta hkK
    k_fill
    intro w s₀ s₁ mg mb G Y fa o pm cd doc dV kV ho hd hcd hD hmg hg args vals as hpre hlay hrd hwl hlo
    have KX := km_in_of Y
    km_tabs Y
    have X := (Ground.X G).1
    have V := (Ground.X G).2
    refine Ground.open G ?_
    intro T B D TE TW
    try (refine guard_noD D (by decide +kernel) ?_; clear D)
    km_lay T hmg ho hd cd
    clear hmg
    wrow_args hpre hlay hrd hwl hlo
    have he := Dflts.none hD rfl
    subst he
    rename List Int => script
    have hpost : PySem.Challenge.rw_tr0056_01.row.claim.post [ofPy (PyData.list (List.map PyData.int script))] (.bool true) [ofPy (PyData.list (List.map PyData.int script))] = true := by first | rfl | kernel_rfl | simp
    have fin : ∀ s', LawEnd s₁ (.ok (.ret (.bool true))) s' → GoodWG PySem.Challenge.rw_tr0056_01.row.claim (classAt s₀.heap) (ExcName.means s₀.heap) [ofPy (PyData.list (List.map PyData.int script))] s₁ (.ok (.ret (.bool true))) s' := fun s' g => goodEnd (c := PySem.Challenge.rw_tr0056_01.row.claim) (cl := classAt s₀.heap) (mean := ExcName.means s₀.heap) (args := [ofPy (PyData.list (List.map PyData.int script))]) (d := .bool true) (fun _ => rfl) (fun _ => .bool _) hpost hT9 hg g
    refine ⟨fin _ (lawEnd_now hT9), C_call (codeC_mono (R := fun r s' => LawEnd s₁ r s') ?walk fun res s' g => ?post)⟩
    case post =>
      obtain ⟨h', tk, ps, rfl, r⟩ := id g
      exact fin s' g
    refine codeC_call_def (by decide) ho hd (Top.nolimit T) hcd rfl (BindsTo.of_eq rfl) (show ∀ x ∈ (defS (stAt 22)).names, x.2 ≠ .cell from by decide +kernel) (locs rfl) (fun h₁ hns hk => ?_)
    have F0 : Fr s₁.heap s₁.heap.objs.size h₁ _ := ⟨hns, hk, Nat.le_refl _⟩
    have N0 : News s₁.heap s₁.heap.objs.size h₁ [] := News.nil
    have l0 := ghost_lt hT9 F0
    have C0 := ghost_code hT9
    have X0 := ghost_K hT9 KX (by kernel_rfl)
    have T0 := ghost_top hT9 T
    have B0 := ghost_below hT9
    have N1 := ghost_news hT9 F0 N0
    have F1 := ghost_fr hT9 F0
    have L1 := ghost_list hT9 (by assumption)
    rename IntsAre _ _ => hI
    show wpC _ (callerA.deeper (envOf (Str.ofString "law") (defS (stAt 22)) s₁.heap.objs.size fa cd)) (execs (defB (stAt 22)) (envOf (Str.ofString "law") (defS (stAt 22)) s₁.heap.objs.size fa cd)) _ _ _
    refine C_mono (law_body w script _ _ hI (by omega) _ _ mg mb fa cd (ghostOf s₁.heap [(182, 178)]) s₁.heap.objs.size _ B0 F1 X0 N1 T0 C0.1 (l0 _ List.mem_cons_self) L1) ?endQ ?endE
    case endQ =>
      rintro f s' ⟨h', tk, ps, rfl, rfl, hk9, h178⟩
      exact ⟨h', tk, ps, rfl, rfl, hk9, h178⟩
    case endE => exact fun _ _ h => h.elim
end Mine

theorem PySem.Challenge.cw_tr0056_01_holds : PySem.Challenge.rw_tr0056_01.Holds :=
  Mine.holdsK
