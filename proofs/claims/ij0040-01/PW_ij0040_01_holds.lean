import PyProof.Rows.All
import Wide.All
import OpenK.AllK
import Wide.FinOn
import Lean
import PySem.Challenge.RW_ij0040_01
set_option Elab.async false

section
open PySem PySem.W PySem.Calls PyProof.Rows
set_option Elab.async false
set_option maxRecDepth 100000
set_option linter.all false
noncomputable section
namespace Mine
abbrev u (s : String) : Str := Str.ofString s
abbrev pw : Program := PySem.Challenge.pw_ij0040_01
def e (P : Params) (k : Str) (t : Tok) (v : Value) : DictEntry := ⟨PyData.keyHash P k, .str k t, v⟩
def ei (i : Int) (t : Tok) (v : Value) : DictEntry := ⟨i, .int i t, v⟩
abbrev n (o : Obj) (l r : BT) : BT := .node o l r
def top (i : Nat) : Stmt := pw.main.body.getD i (.Pass default)
def clsB : Stmt → List Stmt
  | .ClassDef _ _ _ b .. => b
  | _ => []
def inCls (i j : Nat) : Stmt := (clsB (top i)).getD j (.Pass default)
def fArgs : Stmt → Arguments
  | .FunctionDef _ a .. => a
  | _ => default
def fBody : Stmt → List Stmt
  | .FunctionDef _ _ b .. => b
  | _ => []
def fScope : Stmt → Scope
  | .FunctionDef _ _ _ _ _ _ s .. => s
  | _ => default
def dKeys : Stmt → List (Option Expr)
  | .Assign _ (.Dict ks _ _) _ => ks
  | _ => []
def dVals : Stmt → List Expr
  | .Assign _ (.Dict _ vs _) _ => vs
  | _ => []
def dPos : Stmt → Pos
  | .Assign _ (.Dict _ _ q) _ => q
  | _ => default
def cInt : Option Expr → Int
  | some (.Constant (.int i) _ _) => i
  | _ => 0
def cStr : Expr → Str
  | .Constant (.str x) _ _ => x
  | _ => Str.empty
def mkEs (c : Nat) : Nat → List (Option Expr) → List Expr → List DictEntry
  | t, k :: ks, v :: vs => ⟨cInt k, .int (cInt k) t, .str (cStr v) (t + 1)⟩ :: mkEs c (t + c) ks vs
  | _, _, _ => []
/-- the entries of the table b3_exceptions, in their order, read off the text -/
def b3e : List DictEntry := mkEs 3 263 ((dKeys (top 4)).take 646) ((dVals (top 4)).take 646) ++ mkEs 2 2201 ((dKeys (top 4)).drop 646) ((dVals (top 4)).drop 646)
def dictN (k : Nat) : Obj := ⟨.type "dict", none, .dict (Array.mk (b3e.take k)) k, Array.mk []⟩
def subN (j : Nat) : Obj := ⟨.type "dict", none, .dict (Array.mk ((b3e.drop (17 * j)).take 17)) 17, Array.mk []⟩
def o11 (P : Params) : Obj := ⟨(.type "tuple"), none, (.seq (Array.mk []) 0), (Array.mk [])⟩
def o12 (P : Params) : Obj := ⟨.none, none, (.fields (Array.mk [])), (Array.mk [])⟩
def o13 (P : Params) : Obj := ⟨(.type "code"), none, (.fields (Array.mk [(.str (u "<module>") 182), (.str (u "<module>") 183), (.str (u "/claim/cut.py") 184), (.int 1 0), (.int 0 0), (.int 0 0), (.int 0 0), (.int 0 0), (.ref 11), (.bool false), (.int 181 0), (.ref 12), .none, .none, .none, .none, (.int 185 0), (.int 1 0), (.str (u "/claim/cut.py") 186)])), (Array.mk [])⟩
def o14 (P : Params) : Obj := ⟨(.type "frame"), none, .plain, (Array.mk [(some (.ref 13)), (some (.ref 3)), (some (.ref 3)), none, (some (.str (u "__main__") 164)), none, (some (.ref 0))])⟩
def o3v1 (P : Params) : Obj := ⟨(.type "dict"), none, (.dict (Array.mk [(e P (u "__name__") 165 (.str (u "cpy313.stringprep") 194)), (e P (u "__doc__") 166 .none), (e P (u "__package__") 167 .none), (e P (u "__loader__") 168 (.builtin "__main__.__loader__#opaque")), (e P (u "__spec__") 169 .none), (e P (u "__annotations__") 170 (.ref 6)), (e P (u "__builtins__") 171 (.ref 4)), (e P (u "__file__") 173 (.str (u "/claim/cut.py") 172)), (e P (u "__cached__") 174 .none), (e P (u "_wall") 193 (.ref 21))]) 10), (Array.mk [])⟩
def o12v1 (P : Params) : Obj := ⟨.none, none, (.fields (Array.mk [(.int 1 0), (.int 0 0), (.ref 20)])), (Array.mk [])⟩
def o15 (P : Params) : Obj := ⟨(.type "tuple"), none, (.seq (Array.mk []) 0), (Array.mk [])⟩
def o16 (P : Params) : Obj := ⟨.none, none, (.fields (Array.mk [])), (Array.mk [])⟩
def o17 (P : Params) : Obj := ⟨(.type "tuple"), none, (.seq (Array.mk [(.str (u "k") 190)]) 0), (Array.mk [])⟩
def o18 (P : Params) : Obj := ⟨(.type "tuple"), none, (.seq (Array.mk []) 0), (Array.mk [])⟩
def o19 (P : Params) : Obj := ⟨.none, none, (.func { name := (u "_wall"), qualname := (u "_wall"), params := fArgs (top 0), body := .stmts (fBody (top 0)), scope := fScope (top 0), globals := 0, closure := [], defaults := .none, kwdefaults := .none, doc := .none, pyModule := .none, annotations := none, code := .none, closureTuple := .none, builtins := 0 }), (Array.mk [])⟩
def o20 (P : Params) : Obj := ⟨(.type "code"), none, (.fields (Array.mk [(.str (u "_wall") 187), (.str (u "_wall") 188), (.str (u "/claim/cut.py") 189), (.int 1 0), (.int 1 0), (.int 0 0), (.int 0 0), (.int 3 0), (.ref 15), (.bool true), (.int 181 0), (.ref 16), .none, (.ref 17), (.ref 18), (.ref 19), (.int 191 0), (.int 1 0), (.str (u "/claim/cut.py") 192)])), (Array.mk [])⟩
def o21 (P : Params) : Obj := ⟨(.type "function"), none, (.func { name := (u "_wall"), qualname := (u "_wall"), params := fArgs (top 0), body := .stmts (fBody (top 0)), scope := fScope (top 0), globals := 3, closure := [], defaults := .none, kwdefaults := .none, doc := .none, pyModule := (.str (u "__main__") 164), annotations := none, code := (.ref 20), closureTuple := .none, builtins := 0 }), (Array.mk [])⟩
def o3v2 (P : Params) : Obj := ⟨(.type "dict"), none, (.dict (Array.mk [(e P (u "__name__") 165 (.str (u "cpy313.stringprep") 194)), (e P (u "__doc__") 166 .none), (e P (u "__package__") 167 .none), (e P (u "__loader__") 168 (.builtin "__main__.__loader__#opaque")), (e P (u "__spec__") 169 .none), (e P (u "__annotations__") 170 (.ref 6)), (e P (u "__builtins__") 171 (.ref 4)), (e P (u "__file__") 173 (.str (u "/claim/cut.py") 172)), (e P (u "__cached__") 174 .none), (e P (u "_wall") 193 (.ref 21)), (e P (u "b1_set") 255 (.ref 29))]) 11), (Array.mk [])⟩
def o22 (P : Params) : Obj := ⟨(.type "list"), none, (.seq (Array.mk [(.int 173 196), (.int 847 197), (.int 6150 198), (.int 6155 199), (.int 6156 200), (.int 6157 201), (.int 8203 202), (.int 8204 203), (.int 8205 204), (.int 8288 205), (.int 65279 206)]) 0), (Array.mk [])⟩
def o23 (P : Params) : Obj := ⟨(.type "range"), none, (.fields (Array.mk [(.int 65024 207), (.int 65040 208), (.int 1 209)])), (Array.mk [])⟩
def o24 (P : Params) : Obj := ⟨(.type "list"), none, (.seq (Array.mk [(.int 65024 212), (.int 65025 213), (.int 65026 214), (.int 65027 215), (.int 65028 216), (.int 65029 217), (.int 65030 218), (.int 65031 219), (.int 65032 220), (.int 65033 221), (.int 65034 222), (.int 65035 223), (.int 65036 224), (.int 65037 225), (.int 65038 226), (.int 65039 227)]) 18), (Array.mk [])⟩
def o25 (P : Params) : Obj := ⟨(.type "range_iterator"), none, (.fields (Array.mk [(.int 65040 0), (.int 0 0), (.int 1 0)])), (Array.mk [])⟩
def o26 (P : Params) : Obj := ⟨(.type "tuple"), none, (.seq (Array.mk []) 0), (Array.mk [])⟩
def o27 (P : Params) : Obj := ⟨(.type "StopIteration"), none, (.fields (Array.mk [(.ref 26), .none, .none, .none, (.bool false), .none])), (Array.mk [])⟩
def o28 (P : Params) : Obj := ⟨(.type "list"), none, (.seq (Array.mk [(.int 173 196), (.int 847 197), (.int 6150 198), (.int 6155 199), (.int 6156 200), (.int 6157 201), (.int 8203 202), (.int 8204 203), (.int 8205 204), (.int 8288 205), (.int 65279 206), (.int 65024 212), (.int 65025 213), (.int 65026 214), (.int 65027 215), (.int 65028 216), (.int 65029 217), (.int 65030 218), (.int 65031 219), (.int 65032 220), (.int 65033 221), (.int 65034 222), (.int 65035 223), (.int 65036 224), (.int 65037 225), (.int 65038 226), (.int 65039 227)]) 0), (Array.mk [])⟩
def o29 (P : Params) : Obj := ⟨(.type "set"), none, (.set (Array.mk [(65024, (.int 65024 212)), (65025, (.int 65025 213)), (65026, (.int 65026 214)), (65027, (.int 65027 215)), (65028, (.int 65028 216)), (65029, (.int 65029 217)), (6150, (.int 6150 198)), (65030, (.int 65030 218)), (65031, (.int 65031 219)), (65032, (.int 65032 220)), (65033, (.int 65033 221)), (6155, (.int 6155 199)), (6156, (.int 6156 200)), (6157, (.int 6157 201)), (8203, (.int 8203 202)), (8204, (.int 8204 203)), (8205, (.int 8205 204)), (65034, (.int 65034 222)), (65035, (.int 65035 223)), (65036, (.int 65036 224)), (65037, (.int 65037 225)), (65038, (.int 65038 226)), (65039, (.int 65039 227)), (173, (.int 173 196)), (847, (.int 847 197)), (8288, (.int 8288 205)), (65279, (.int 65279 206))]) 29 { mask := 127, place := #[0, 1, 2, 3, 4, 5, 6, 7, 8, 9, 10, 11, 12, 13, 14, 15, 16, 17, 18, 19, 20, 21, 22, 45, 79, 96, 127], dummies := #[], finger := 0, led := !P.followText "set-order", moves := 2, plain := true }), (Array.mk [])⟩
def o30 (P : Params) : Obj := ⟨(.type "list_iterator"), none, (.fields (Array.mk [.none, (.int 27 0)])), (Array.mk [])⟩
def o31 (P : Params) : Obj := ⟨(.type "tuple"), none, (.seq (Array.mk []) 0), (Array.mk [])⟩
def o32 (P : Params) : Obj := ⟨(.type "StopIteration"), none, (.fields (Array.mk [(.ref 31), .none, .none, .none, (.bool false), .none])), (Array.mk [])⟩
def o3v3 (P : Params) : Obj := ⟨(.type "dict"), none, (.dict (Array.mk [(e P (u "__name__") 165 (.str (u "cpy313.stringprep") 194)), (e P (u "__doc__") 166 .none), (e P (u "__package__") 167 .none), (e P (u "__loader__") 168 (.builtin "__main__.__loader__#opaque")), (e P (u "__spec__") 169 .none), (e P (u "__annotations__") 170 (.ref 6)), (e P (u "__builtins__") 171 (.ref 4)), (e P (u "__file__") 173 (.str (u "/claim/cut.py") 172)), (e P (u "__cached__") 174 .none), (e P (u "_wall") 193 (.ref 21)), (e P (u "b1_set") 255 (.ref 29)), (e P (u "in_table_b1") 262 (.ref 39))]) 12), (Array.mk [])⟩
def o12v2 (P : Params) : Obj := ⟨.none, none, (.fields (Array.mk [(.int 1 0), (.int 0 0), (.ref 20), (.int 6 0), (.int 0 0), (.ref 38)])), (Array.mk [])⟩
def o33 (P : Params) : Obj := ⟨(.type "tuple"), none, (.seq (Array.mk []) 0), (Array.mk [])⟩
def o34 (P : Params) : Obj := ⟨.none, none, (.fields (Array.mk [])), (Array.mk [])⟩
def o35 (P : Params) : Obj := ⟨(.type "tuple"), none, (.seq (Array.mk [(.str (u "code") 259)]) 0), (Array.mk [])⟩
def o36 (P : Params) : Obj := ⟨(.type "tuple"), none, (.seq (Array.mk []) 0), (Array.mk [])⟩
def o37 (P : Params) : Obj := ⟨.none, none, (.func { name := (u "in_table_b1"), qualname := (u "in_table_b1"), params := fArgs (top 3), body := .stmts (fBody (top 3)), scope := fScope (top 3), globals := 0, closure := [], defaults := .none, kwdefaults := .none, doc := .none, pyModule := .none, annotations := none, code := .none, closureTuple := .none, builtins := 0 }), (Array.mk [])⟩
def o38 (P : Params) : Obj := ⟨(.type "code"), none, (.fields (Array.mk [(.str (u "in_table_b1") 256), (.str (u "in_table_b1") 257), (.str (u "/claim/cut.py") 258), (.int 6 0), (.int 1 0), (.int 0 0), (.int 0 0), (.int 3 0), (.ref 33), (.bool true), (.int 181 0), (.ref 34), .none, (.ref 35), (.ref 36), (.ref 37), (.int 260 0), (.int 6 0), (.str (u "/claim/cut.py") 261)])), (Array.mk [])⟩
def o39 (P : Params) : Obj := ⟨(.type "function"), none, (.func { name := (u "in_table_b1"), qualname := (u "in_table_b1"), params := fArgs (top 3), body := .stmts (fBody (top 3)), scope := fScope (top 3), globals := 3, closure := [], defaults := .none, kwdefaults := .none, doc := .none, pyModule := (.str (u "cpy313.stringprep") 194), annotations := none, code := (.ref 38), closureTuple := .none, builtins := 0 }), (Array.mk [])⟩
def o3v4 (P : Params) : Obj := ⟨(.type "dict"), none, (.dict (Array.mk [(e P (u "__name__") 165 (.str (u "cpy313.stringprep") 194)), (e P (u "__doc__") 166 .none), (e P (u "__package__") 167 .none), (e P (u "__loader__") 168 (.builtin "__main__.__loader__#opaque")), (e P (u "__spec__") 169 .none), (e P (u "__annotations__") 170 (.ref 6)), (e P (u "__builtins__") 171 (.ref 4)), (e P (u "__file__") 173 (.str (u "/claim/cut.py") 172)), (e P (u "__cached__") 174 .none), (e P (u "_wall") 193 (.ref 21)), (e P (u "b1_set") 255 (.ref 29)), (e P (u "in_table_b1") 262 (.ref 39)), (e P (u "b3_exceptions") 2213 (.ref 40))]) 13), (Array.mk [])⟩
def o40 (P : Params) : Obj := dictN 650
def o41 (P : Params) : Obj := subN 1
def o42 (P : Params) : Obj := subN 2
def o43 (P : Params) : Obj := subN 3
def o44 (P : Params) : Obj := subN 4
def o45 (P : Params) : Obj := subN 5
def o46 (P : Params) : Obj := subN 6
def o47 (P : Params) : Obj := subN 7
def o48 (P : Params) : Obj := subN 8
def o49 (P : Params) : Obj := subN 9
def o50 (P : Params) : Obj := subN 10
def o51 (P : Params) : Obj := subN 11
def o52 (P : Params) : Obj := subN 12
def o53 (P : Params) : Obj := subN 13
def o54 (P : Params) : Obj := subN 14
def o55 (P : Params) : Obj := subN 15
def o56 (P : Params) : Obj := subN 16
def o57 (P : Params) : Obj := subN 17
def o58 (P : Params) : Obj := subN 18
def o59 (P : Params) : Obj := subN 19
def o60 (P : Params) : Obj := subN 20
def o61 (P : Params) : Obj := subN 21
def o62 (P : Params) : Obj := subN 22
def o63 (P : Params) : Obj := subN 23
def o64 (P : Params) : Obj := subN 24
def o65 (P : Params) : Obj := subN 25
def o66 (P : Params) : Obj := subN 26
def o67 (P : Params) : Obj := subN 27
def o68 (P : Params) : Obj := subN 28
def o69 (P : Params) : Obj := subN 29
def o70 (P : Params) : Obj := subN 30
def o71 (P : Params) : Obj := subN 31
def o72 (P : Params) : Obj := subN 32
def o73 (P : Params) : Obj := subN 33
def o74 (P : Params) : Obj := subN 34
def o75 (P : Params) : Obj := subN 35
def o76 (P : Params) : Obj := subN 36
def o77 (P : Params) : Obj := subN 37
def o78 (P : Params) : Obj := ⟨.type "dict", none, .dict (Array.mk (b3e.drop 646)) 4, Array.mk []⟩
def o3v5 (P : Params) : Obj := ⟨(.type "dict"), none, (.dict (Array.mk [(e P (u "__name__") 165 (.str (u "cpy313.importlib.metadata._collections") 2222)), (e P (u "__doc__") 166 .none), (e P (u "__package__") 167 .none), (e P (u "__loader__") 168 (.builtin "__main__.__loader__#opaque")), (e P (u "__spec__") 169 .none), (e P (u "__annotations__") 170 (.ref 6)), (e P (u "__builtins__") 171 (.ref 4)), (e P (u "__file__") 173 (.str (u "/claim/cut.py") 172)), (e P (u "__cached__") 174 .none), (e P (u "_wall") 193 (.ref 21)), (e P (u "b1_set") 255 (.ref 29)), (e P (u "in_table_b1") 262 (.ref 39)), (e P (u "b3_exceptions") 2213 (.ref 40)), (e P (u "map_table_b3") 2221 (.ref 85)), (e P (u "_tuplegetter") 2280 (.ref 124))]) 15), (Array.mk [])⟩
def o12v3 (P : Params) : Obj := ⟨.none, none, (.fields (Array.mk [(.int 1 0), (.int 0 0), (.ref 20), (.int 6 0), (.int 0 0), (.ref 38), (.int 9 0), (.int 0 0), (.ref 84), (.int 15 0), (.int 0 0), (.ref 91)])), (Array.mk [])⟩
def o79 (P : Params) : Obj := ⟨(.type "tuple"), none, (.seq (Array.mk []) 0), (Array.mk [])⟩
def o80 (P : Params) : Obj := ⟨.none, none, (.fields (Array.mk [])), (Array.mk [])⟩
def o81 (P : Params) : Obj := ⟨(.type "tuple"), none, (.seq (Array.mk [(.str (u "code") 2217), (.str (u "r") 2218)]) 0), (Array.mk [])⟩
def o82 (P : Params) : Obj := ⟨(.type "tuple"), none, (.seq (Array.mk []) 0), (Array.mk [])⟩
def o83 (P : Params) : Obj := ⟨.none, none, (.func { name := (u "map_table_b3"), qualname := (u "map_table_b3"), params := fArgs (top 5), body := .stmts (fBody (top 5)), scope := fScope (top 5), globals := 0, closure := [], defaults := .none, kwdefaults := .none, doc := .none, pyModule := .none, annotations := none, code := .none, closureTuple := .none, builtins := 0 }), (Array.mk [])⟩
def o84 (P : Params) : Obj := ⟨(.type "code"), none, (.fields (Array.mk [(.str (u "map_table_b3") 2214), (.str (u "map_table_b3") 2215), (.str (u "/claim/cut.py") 2216), (.int 9 0), (.int 1 0), (.int 0 0), (.int 0 0), (.int 3 0), (.ref 79), (.bool true), (.int 181 0), (.ref 80), .none, (.ref 81), (.ref 82), (.ref 83), (.int 2219 0), (.int 9 0), (.str (u "/claim/cut.py") 2220)])), (Array.mk [])⟩
def o85 (P : Params) : Obj := ⟨(.type "function"), none, (.func { name := (u "map_table_b3"), qualname := (u "map_table_b3"), params := fArgs (top 5), body := .stmts (fBody (top 5)), scope := fScope (top 5), globals := 3, closure := [], defaults := .none, kwdefaults := .none, doc := .none, pyModule := (.str (u "cpy313.stringprep") 194), annotations := none, code := (.ref 84), closureTuple := .none, builtins := 0 }), (Array.mk [])⟩
def o86 (P : Params) : Obj := ⟨(.type "tuple"), none, (.seq (Array.mk []) 0), (Array.mk [])⟩
def o87 (P : Params) : Obj := ⟨(.type "builtin_function_or_method"), none, (.fields (Array.mk [(.builtin "type.__prepare__"), (.type "type")])), (Array.mk [])⟩
def o88 (P : Params) : Obj := ⟨(.type "dict"), none, (.dict (Array.mk [(e P (u "__module__") 2231 (.str (u "cpy313.importlib.metadata._collections") 2222)), (e P (u "__qualname__") 2233 (.str (u "_tuplegetter") 2232)), (e P (u "__firstlineno__") 2235 (.int 15 2234)), (e P (u "__init__") 2244 (.ref 99)), (e P (u "__get__") 2253 (.ref 107)), (e P (u "__set__") 2262 (.ref 114)), (e P (u "__delete__") 2270 (.ref 121)), (e P (u "__static_attributes__") 2273 (.ref 122))]) 8), (Array.mk [])⟩
def o89 (P : Params) : Obj := ⟨(.type "tuple"), none, (.seq (Array.mk []) 0), (Array.mk [])⟩
def o90 (P : Params) : Obj := ⟨.none, none, (.fields (Array.mk [(.int 17 0), (.int 4 0), (.ref 98), (.int 21 0), (.int 4 0), (.ref 106), (.int 28 0), (.int 4 0), (.ref 113), (.int 31 0), (.int 4 0), (.ref 120)])), (Array.mk [])⟩
def o91 (P : Params) : Obj := ⟨(.type "code"), none, (.fields (Array.mk [(.str (u "_tuplegetter") 2226), (.str (u "_tuplegetter") 2227), (.str (u "/claim/cut.py") 2228), (.int 15 0), (.int 0 0), (.int 0 0), (.int 0 0), (.int 0 0), (.ref 89), (.bool false), (.int 181 0), (.ref 90), .none, .none, .none, .none, (.int 2229 0), (.int 15 0), (.str (u "/claim/cut.py") 2230)])), (Array.mk [])⟩
def o92 (P : Params) : Obj := ⟨(.type "frame"), none, .plain, (Array.mk [(some (.ref 91)), (some (.ref 3)), (some (.ref 88)), none, (some (.str (u "cpy313.importlib.metadata._collections") 2222)), none, (some (.ref 0))])⟩
def o93 (P : Params) : Obj := ⟨(.type "tuple"), none, (.seq (Array.mk []) 0), (Array.mk [])⟩
def o94 (P : Params) : Obj := ⟨.none, none, (.fields (Array.mk [])), (Array.mk [])⟩
def o95 (P : Params) : Obj := ⟨(.type "tuple"), none, (.seq (Array.mk [(.str (u "self") 2239), (.str (u "index") 2240), (.str (u "doc") 2241)]) 0), (Array.mk [])⟩
def o96 (P : Params) : Obj := ⟨(.type "tuple"), none, (.seq (Array.mk []) 0), (Array.mk [])⟩
def o97 (P : Params) : Obj := ⟨.none, none, (.func { name := (u "__init__"), qualname := (u "_tuplegetter.__init__"), params := fArgs (inCls 7 0), body := .stmts (fBody (inCls 7 0)), scope := fScope (inCls 7 0), globals := 0, closure := [], defaults := .none, kwdefaults := .none, doc := .none, pyModule := .none, annotations := none, code := .none, closureTuple := .none, builtins := 0 }), (Array.mk [])⟩
def o98 (P : Params) : Obj := ⟨(.type "code"), none, (.fields (Array.mk [(.str (u "__init__") 2236), (.str (u "_tuplegetter.__init__") 2237), (.str (u "/claim/cut.py") 2238), (.int 17 0), (.int 3 0), (.int 0 0), (.int 0 0), (.int 3 0), (.ref 93), (.bool true), (.int 181 0), (.ref 94), .none, (.ref 95), (.ref 96), (.ref 97), (.int 2242 0), (.int 17 0), (.str (u "/claim/cut.py") 2243)])), (Array.mk [])⟩
def o99 (P : Params) : Obj := ⟨(.type "function"), none, (.func { name := (u "__init__"), qualname := (u "_tuplegetter.__init__"), params := fArgs (inCls 7 0), body := .stmts (fBody (inCls 7 0)), scope := fScope (inCls 7 0), globals := 3, closure := [], defaults := .none, kwdefaults := .none, doc := .none, pyModule := (.str (u "cpy313.importlib.metadata._collections") 2222), annotations := none, code := (.ref 98), closureTuple := .none, builtins := 0 }), (Array.mk [])⟩
def o100 (P : Params) : Obj := ⟨(.type "tuple"), none, (.seq (Array.mk [.none]) 0), (Array.mk [])⟩
def o101 (P : Params) : Obj := ⟨(.type "tuple"), none, (.seq (Array.mk []) 0), (Array.mk [])⟩
def o102 (P : Params) : Obj := ⟨.none, none, (.fields (Array.mk [])), (Array.mk [])⟩
def o103 (P : Params) : Obj := ⟨(.type "tuple"), none, (.seq (Array.mk [(.str (u "self") 2248), (.str (u "obj") 2249), (.str (u "objtype") 2250)]) 0), (Array.mk [])⟩
def o104 (P : Params) : Obj := ⟨(.type "tuple"), none, (.seq (Array.mk []) 0), (Array.mk [])⟩
def o105 (P : Params) : Obj := ⟨.none, none, (.func { name := (u "__get__"), qualname := (u "_tuplegetter.__get__"), params := fArgs (inCls 7 1), body := .stmts (fBody (inCls 7 1)), scope := fScope (inCls 7 1), globals := 0, closure := [], defaults := .none, kwdefaults := .none, doc := .none, pyModule := .none, annotations := none, code := .none, closureTuple := .none, builtins := 0 }), (Array.mk [])⟩
def o106 (P : Params) : Obj := ⟨(.type "code"), none, (.fields (Array.mk [(.str (u "__get__") 2245), (.str (u "_tuplegetter.__get__") 2246), (.str (u "/claim/cut.py") 2247), (.int 21 0), (.int 3 0), (.int 0 0), (.int 0 0), (.int 3 0), (.ref 101), (.bool true), (.int 181 0), (.ref 102), .none, (.ref 103), (.ref 104), (.ref 105), (.int 2251 0), (.int 21 0), (.str (u "/claim/cut.py") 2252)])), (Array.mk [])⟩
def o107 (P : Params) : Obj := ⟨(.type "function"), none, (.func { name := (u "__get__"), qualname := (u "_tuplegetter.__get__"), params := fArgs (inCls 7 1), body := .stmts (fBody (inCls 7 1)), scope := fScope (inCls 7 1), globals := 3, closure := [], defaults := (.ref 100), kwdefaults := .none, doc := .none, pyModule := (.str (u "cpy313.importlib.metadata._collections") 2222), annotations := none, code := (.ref 106), closureTuple := .none, builtins := 0 }), (Array.mk [])⟩
def o108 (P : Params) : Obj := ⟨(.type "tuple"), none, (.seq (Array.mk []) 0), (Array.mk [])⟩
def o109 (P : Params) : Obj := ⟨.none, none, (.fields (Array.mk [])), (Array.mk [])⟩
def o110 (P : Params) : Obj := ⟨(.type "tuple"), none, (.seq (Array.mk [(.str (u "self") 2257), (.str (u "obj") 2258), (.str (u "value") 2259)]) 0), (Array.mk [])⟩
def o111 (P : Params) : Obj := ⟨(.type "tuple"), none, (.seq (Array.mk []) 0), (Array.mk [])⟩
def o112 (P : Params) : Obj := ⟨.none, none, (.func { name := (u "__set__"), qualname := (u "_tuplegetter.__set__"), params := fArgs (inCls 7 2), body := .stmts (fBody (inCls 7 2)), scope := fScope (inCls 7 2), globals := 0, closure := [], defaults := .none, kwdefaults := .none, doc := .none, pyModule := .none, annotations := none, code := .none, closureTuple := .none, builtins := 0 }), (Array.mk [])⟩
def o113 (P : Params) : Obj := ⟨(.type "code"), none, (.fields (Array.mk [(.str (u "__set__") 2254), (.str (u "_tuplegetter.__set__") 2255), (.str (u "/claim/cut.py") 2256), (.int 28 0), (.int 3 0), (.int 0 0), (.int 0 0), (.int 3 0), (.ref 108), (.bool true), (.int 181 0), (.ref 109), .none, (.ref 110), (.ref 111), (.ref 112), (.int 2260 0), (.int 28 0), (.str (u "/claim/cut.py") 2261)])), (Array.mk [])⟩
def o114 (P : Params) : Obj := ⟨(.type "function"), none, (.func { name := (u "__set__"), qualname := (u "_tuplegetter.__set__"), params := fArgs (inCls 7 2), body := .stmts (fBody (inCls 7 2)), scope := fScope (inCls 7 2), globals := 3, closure := [], defaults := .none, kwdefaults := .none, doc := .none, pyModule := (.str (u "cpy313.importlib.metadata._collections") 2222), annotations := none, code := (.ref 113), closureTuple := .none, builtins := 0 }), (Array.mk [])⟩
def o115 (P : Params) : Obj := ⟨(.type "tuple"), none, (.seq (Array.mk []) 0), (Array.mk [])⟩
def o116 (P : Params) : Obj := ⟨.none, none, (.fields (Array.mk [])), (Array.mk [])⟩
def o117 (P : Params) : Obj := ⟨(.type "tuple"), none, (.seq (Array.mk [(.str (u "self") 2266), (.str (u "obj") 2267)]) 0), (Array.mk [])⟩
def o118 (P : Params) : Obj := ⟨(.type "tuple"), none, (.seq (Array.mk []) 0), (Array.mk [])⟩
def o119 (P : Params) : Obj := ⟨.none, none, (.func { name := (u "__delete__"), qualname := (u "_tuplegetter.__delete__"), params := fArgs (inCls 7 3), body := .stmts (fBody (inCls 7 3)), scope := fScope (inCls 7 3), globals := 0, closure := [], defaults := .none, kwdefaults := .none, doc := .none, pyModule := .none, annotations := none, code := .none, closureTuple := .none, builtins := 0 }), (Array.mk [])⟩
def o120 (P : Params) : Obj := ⟨(.type "code"), none, (.fields (Array.mk [(.str (u "__delete__") 2263), (.str (u "_tuplegetter.__delete__") 2264), (.str (u "/claim/cut.py") 2265), (.int 31 0), (.int 2 0), (.int 0 0), (.int 0 0), (.int 3 0), (.ref 115), (.bool true), (.int 181 0), (.ref 116), .none, (.ref 117), (.ref 118), (.ref 119), (.int 2268 0), (.int 31 0), (.str (u "/claim/cut.py") 2269)])), (Array.mk [])⟩
def o121 (P : Params) : Obj := ⟨(.type "function"), none, (.func { name := (u "__delete__"), qualname := (u "_tuplegetter.__delete__"), params := fArgs (inCls 7 3), body := .stmts (fBody (inCls 7 3)), scope := fScope (inCls 7 3), globals := 3, closure := [], defaults := .none, kwdefaults := .none, doc := .none, pyModule := (.str (u "cpy313.importlib.metadata._collections") 2222), annotations := none, code := (.ref 120), closureTuple := .none, builtins := 0 }), (Array.mk [])⟩
def o122 (P : Params) : Obj := ⟨(.type "tuple"), none, (.seq (Array.mk [(.str (u "__doc__") 2271), (.str (u "index") 2272)]) 0), (Array.mk [])⟩
def o123 (P : Params) : Obj := ⟨(.type "dict"), none, (.dict (Array.mk [(e P (u "__module__") 2231 (.str (u "cpy313.importlib.metadata._collections") 2222)), (e P (u "__firstlineno__") 2235 (.int 15 2234)), (e P (u "__init__") 2244 (.ref 99)), (e P (u "__get__") 2253 (.ref 107)), (e P (u "__set__") 2262 (.ref 114)), (e P (u "__delete__") 2270 (.ref 121)), (e P (u "__static_attributes__") 2273 (.ref 122)), (e P (u "__dict__") 2275 (.ref 125)), (e P (u "__weakref__") 2277 (.ref 126)), (e P (u "__doc__") 2278 .none)]) 4), (Array.mk [])⟩
def o124 (P : Params) : Obj := ⟨(.type "type"), none, (.cls { name := (u "_tuplegetter"), bases := [(.type "object")], mro := [(.ref 124), (.type "object")], ns := 123, qualname := (u "_tuplegetter"), hasDict := true, slotNames := [], subclasses := [], abstract := false, collection := none, hasDel := false }), (Array.mk [none, none, (some (.str (u "_tuplegetter") 2224)), (some (.str (u "_tuplegetter") 2232)), (some (.builtin "object.__new__")), (some (.bool true))])⟩
def o125 (P : Params) : Obj := ⟨(.type "getset_descriptor"), none, (.fields (Array.mk [(.str (u "__dict__") 2274), (.ref 124), (.builtin "function.__dict__"), (.builtin "function.__dict__#set")])), (Array.mk [])⟩
def o126 (P : Params) : Obj := ⟨(.type "getset_descriptor"), none, (.fields (Array.mk [(.str (u "__weakref__") 2276), (.ref 124), (.builtin "ExceptionGroup.__weakref__"), .none])), (Array.mk [])⟩
def o127 (P : Params) : Obj := ⟨(.type "super"), none, (.fields (Array.mk [(.ref 124), (.ref 124), (.ref 124)])), (Array.mk [])⟩
def o128 (P : Params) : Obj := ⟨(.type "builtin_function_or_method"), none, (.fields (Array.mk [(.builtin "object.__init_subclass__"), (.ref 124)])), (Array.mk [])⟩
def o3v6 (P : Params) : Obj := ⟨(.type "dict"), none, (.dict (Array.mk [(e P (u "__name__") 165 (.str (u "cpy313.importlib.metadata._collections") 2222)), (e P (u "__doc__") 166 .none), (e P (u "__package__") 167 .none), (e P (u "__loader__") 168 (.builtin "__main__.__loader__#opaque")), (e P (u "__spec__") 169 .none), (e P (u "__annotations__") 170 (.ref 6)), (e P (u "__builtins__") 171 (.ref 4)), (e P (u "__file__") 173 (.str (u "/claim/cut.py") 172)), (e P (u "__cached__") 174 .none), (e P (u "_wall") 193 (.ref 21)), (e P (u "b1_set") 255 (.ref 29)), (e P (u "in_table_b1") 262 (.ref 39)), (e P (u "b3_exceptions") 2213 (.ref 40)), (e P (u "map_table_b3") 2221 (.ref 85)), (e P (u "_tuplegetter") 2280 (.ref 124)), (e P (u "Pair") 2395 (.ref 196))]) 16), (Array.mk [])⟩
def o12v4 (P : Params) : Obj := ⟨.none, none, (.fields (Array.mk [(.int 1 0), (.int 0 0), (.ref 20), (.int 6 0), (.int 0 0), (.ref 38), (.int 9 0), (.int 0 0), (.ref 84), (.int 15 0), (.int 0 0), (.ref 91), (.int 33 0), (.int 0 0), (.ref 135)])), (Array.mk [])⟩
def o129 (P : Params) : Obj := ⟨(.type "tuple"), none, (.seq (Array.mk [(.type "tuple")]) 0), (Array.mk [])⟩
def o130 (P : Params) : Obj := ⟨(.type "builtin_function_or_method"), none, (.fields (Array.mk [(.builtin "type.__prepare__"), (.type "type")])), (Array.mk [])⟩
def o131 (P : Params) : Obj := ⟨(.type "dict"), none, (.dict (Array.mk [(e P (u "__module__") 2288 (.str (u "cpy313.importlib.metadata._collections") 2222)), (e P (u "__qualname__") 2290 (.str (u "Pair") 2289)), (e P (u "__firstlineno__") 2292 (.int 33 2291)), (e P (u "__doc__") 2294 (.str (u "Pair(name, value)") 2293)), (e P (u "__slots__") 2296 (.ref 137)), (e P (u "_fields") 2299 (.ref 138)), (e P (u "_field_defaults") 2300 (.ref 139)), (e P (u "__new__") 2310 (.ref 146)), (e P (u "_make") 2332 (.ref 155)), (e P (u "_replace") 2343 (.ref 164)), (e P (u "__replace__") 2344 (.ref 164)), (e P (u "__repr__") 2352 (.ref 171)), (e P (u "_asdict") 2359 (.ref 178)), (e P (u "__getnewargs__") 2367 (.ref 185)), (e P (u "__match_args__") 2370 (.ref 186)), (e P (u "name") 2380 (.ref 188)), (e P (u "value") 2390 (.ref 191)), (e P (u "__static_attributes__") 2391 (.ref 193)), (e P (u "__classcell__") 2392 (.ref 132))]) 19), (Array.mk [])⟩
def o132 (P : Params) : Obj := ⟨(.type "cell"), none, (.cell (some (.ref 196))), (Array.mk [])⟩
def o133 (P : Params) : Obj := ⟨(.type "tuple"), none, (.seq (Array.mk []) 0), (Array.mk [])⟩
def o134 (P : Params) : Obj := ⟨.none, none, (.fields (Array.mk [(.int 39 0), (.int 4 0), (.ref 145), (.int 44 0), (.int 4 0), (.ref 152), (.int 51 0), (.int 4 0), (.ref 163), (.int 62 0), (.int 4 0), (.ref 170), (.int 66 0), (.int 4 0), (.ref 177), (.int 69 0), (.int 4 0), (.ref 184)])), (Array.mk [])⟩
def o135 (P : Params) : Obj := ⟨(.type "code"), none, (.fields (Array.mk [(.str (u "Pair") 2283), (.str (u "Pair") 2284), (.str (u "/claim/cut.py") 2285), (.int 33 0), (.int 0 0), (.int 0 0), (.int 0 0), (.int 0 0), (.ref 133), (.bool false), (.int 181 0), (.ref 134), .none, .none, .none, .none, (.int 2286 0), (.int 33 0), (.str (u "/claim/cut.py") 2287)])), (Array.mk [])⟩
def o136 (P : Params) : Obj := ⟨(.type "frame"), none, .plain, (Array.mk [(some (.ref 135)), (some (.ref 3)), (some (.ref 131)), none, (some (.str (u "cpy313.importlib.metadata._collections") 2222)), none, (some (.ref 0))])⟩
def o137 (P : Params) : Obj := ⟨(.type "tuple"), none, (.seq (Array.mk []) 0), (Array.mk [])⟩
def o138 (P : Params) : Obj := ⟨(.type "tuple"), none, (.seq (Array.mk [(.str (u "name") 2297), (.str (u "value") 2298)]) 0), (Array.mk [])⟩
def o139 (P : Params) : Obj := ⟨(.type "dict"), none, (.dict (Array.mk []) 0), (Array.mk [])⟩
def o140 (P : Params) : Obj := ⟨(.type "tuple"), none, (.seq (Array.mk []) 0), (Array.mk [])⟩
def o141 (P : Params) : Obj := ⟨.none, none, (.fields (Array.mk [])), (Array.mk [])⟩
def o142 (P : Params) : Obj := ⟨(.type "tuple"), none, (.seq (Array.mk [(.str (u "_cls") 2304), (.str (u "name") 2305), (.str (u "value") 2306)]) 0), (Array.mk [])⟩
def o143 (P : Params) : Obj := ⟨(.type "tuple"), none, (.seq (Array.mk []) 0), (Array.mk [])⟩
def o144 (P : Params) : Obj := ⟨.none, none, (.func { name := (u "__new__"), qualname := (u "Pair.__new__"), params := fArgs (inCls 8 4), body := .stmts (fBody (inCls 8 4)), scope := fScope (inCls 8 4), globals := 0, closure := [], defaults := .none, kwdefaults := .none, doc := .none, pyModule := .none, annotations := none, code := .none, closureTuple := .none, builtins := 0 }), (Array.mk [])⟩
def o145 (P : Params) : Obj := ⟨(.type "code"), none, (.fields (Array.mk [(.str (u "__new__") 2301), (.str (u "Pair.__new__") 2302), (.str (u "/claim/cut.py") 2303), (.int 39 0), (.int 3 0), (.int 0 0), (.int 0 0), (.int 3 0), (.ref 140), (.bool true), (.int 181 0), (.ref 141), .none, (.ref 142), (.ref 143), (.ref 144), (.int 2307 0), (.int 39 0), (.str (u "/claim/cut.py") 2308)])), (Array.mk [])⟩
def o146 (P : Params) : Obj := ⟨(.type "function"), none, (.func { name := (u "__new__"), qualname := (u "Pair.__new__"), params := fArgs (inCls 8 4), body := .stmts (fBody (inCls 8 4)), scope := fScope (inCls 8 4), globals := 3, closure := [], defaults := .none, kwdefaults := .none, doc := (.str (u "Create new instance of Pair(name, value)") 2309), pyModule := (.str (u "cpy313.importlib.metadata._collections") 2222), annotations := none, code := (.ref 145), closureTuple := .none, builtins := 0 }), (Array.mk [])⟩
def o147 (P : Params) : Obj := ⟨(.type "tuple"), none, (.seq (Array.mk []) 0), (Array.mk [])⟩
def o148 (P : Params) : Obj := ⟨.none, none, (.fields (Array.mk [])), (Array.mk [])⟩
def o149 (P : Params) : Obj := ⟨(.type "tuple"), none, (.seq (Array.mk [(.str (u "cls") 2314), (.str (u "iterable") 2315), (.str (u "result") 2316)]) 0), (Array.mk [])⟩
def o150 (P : Params) : Obj := ⟨(.type "tuple"), none, (.seq (Array.mk []) 0), (Array.mk [])⟩
def o151 (P : Params) : Obj := ⟨.none, none, (.func { name := (u "_make"), qualname := (u "Pair._make"), params := fArgs (inCls 8 5), body := .stmts (fBody (inCls 8 5)), scope := fScope (inCls 8 5), globals := 0, closure := [], defaults := .none, kwdefaults := .none, doc := .none, pyModule := .none, annotations := none, code := .none, closureTuple := .none, builtins := 0 }), (Array.mk [])⟩
def o152 (P : Params) : Obj := ⟨(.type "code"), none, (.fields (Array.mk [(.str (u "_make") 2311), (.str (u "Pair._make") 2312), (.str (u "/claim/cut.py") 2313), (.int 43 0), (.int 2 0), (.int 0 0), (.int 0 0), (.int 3 0), (.ref 147), (.bool true), (.int 181 0), (.ref 148), .none, (.ref 149), (.ref 150), (.ref 151), (.int 2317 0), (.int 43 0), (.str (u "/claim/cut.py") 2318)])), (Array.mk [])⟩
def o153 (P : Params) : Obj := ⟨(.type "function"), none, (.func { name := (u "_make"), qualname := (u "Pair._make"), params := fArgs (inCls 8 5), body := .stmts (fBody (inCls 8 5)), scope := fScope (inCls 8 5), globals := 3, closure := [], defaults := .none, kwdefaults := .none, doc := (.str (u "Make a new Pair object from a sequence or iterable") 2319), pyModule := (.str (u "cpy313.importlib.metadata._collections") 2222), annotations := (some 156), code := (.ref 152), closureTuple := .none, builtins := 0 }), (Array.mk [])⟩
def o154 (P : Params) : Obj := ⟨(.type "dict"), none, (.dict (Array.mk [(e P (u "__module__") 2321 (.str (u "cpy313.importlib.metadata._collections") 2222)), (e P (u "__name__") 2324 (.str (u "_make") 2323)), (e P (u "__qualname__") 2327 (.str (u "Pair._make") 2326)), (e P (u "__doc__") 2329 (.str (u "Make a new Pair object from a sequence or iterable") 2319)), (e P (u "__annotations__") 2331 (.ref 156))]) 5), (Array.mk [])⟩
def o155 (P : Params) : Obj := ⟨(.type "classmethod"), (some 154), (.fields (Array.mk [(.ref 153), (.bool false)])), (Array.mk [])⟩
def o156 (P : Params) : Obj := ⟨(.type "dict"), none, (.dict (Array.mk []) 0), (Array.mk [])⟩
def o157 (P : Params) : Obj := ⟨(.type "tuple"), none, (.seq (Array.mk [(.ref 132)]) 0), (Array.mk [])⟩
def o158 (P : Params) : Obj := ⟨(.type "tuple"), none, (.seq (Array.mk [(.str (u "__class__") 2336)]) 0), (Array.mk [])⟩
def o159 (P : Params) : Obj := ⟨.none, none, (.fields (Array.mk [])), (Array.mk [])⟩
def o160 (P : Params) : Obj := ⟨(.type "tuple"), none, (.seq (Array.mk [(.str (u "self") 2337), (.str (u "kwds") 2338), (.str (u "result") 2339)]) 0), (Array.mk [])⟩
def o161 (P : Params) : Obj := ⟨(.type "tuple"), none, (.seq (Array.mk []) 0), (Array.mk [])⟩
def o162 (P : Params) : Obj := ⟨.none, none, (.func { name := (u "_replace"), qualname := (u "Pair._replace"), params := fArgs (inCls 8 6), body := .stmts (fBody (inCls 8 6)), scope := fScope (inCls 8 6), globals := 0, closure := [], defaults := .none, kwdefaults := .none, doc := .none, pyModule := .none, annotations := none, code := .none, closureTuple := .none, builtins := 0 }), (Array.mk [])⟩
def o163 (P : Params) : Obj := ⟨(.type "code"), none, (.fields (Array.mk [(.str (u "_replace") 2333), (.str (u "Pair._replace") 2334), (.str (u "/claim/cut.py") 2335), (.int 51 0), (.int 1 0), (.int 1 0), (.int 0 0), (.int 11 0), (.ref 158), (.bool true), (.int 181 0), (.ref 159), .none, (.ref 160), (.ref 161), (.ref 162), (.int 2340 0), (.int 51 0), (.str (u "/claim/cut.py") 2341)])), (Array.mk [])⟩
def o164 (P : Params) : Obj := ⟨(.type "function"), none, (.func { name := (u "_replace"), qualname := (u "Pair._replace"), params := fArgs (inCls 8 6), body := .stmts (fBody (inCls 8 6)), scope := fScope (inCls 8 6), globals := 3, closure := [((u "__class__"), 132)], defaults := .none, kwdefaults := .none, doc := (.str (u "Return a new Pair object replacing specified fields with new values") 2342), pyModule := (.str (u "cpy313.importlib.metadata._collections") 2222), annotations := none, code := (.ref 163), closureTuple := (.ref 157), builtins := 0 }), (Array.mk [])⟩
def o165 (P : Params) : Obj := ⟨(.type "tuple"), none, (.seq (Array.mk []) 0), (Array.mk [])⟩
def o166 (P : Params) : Obj := ⟨.none, none, (.fields (Array.mk [])), (Array.mk [])⟩
def o167 (P : Params) : Obj := ⟨(.type "tuple"), none, (.seq (Array.mk [(.str (u "self") 2348)]) 0), (Array.mk [])⟩
def o168 (P : Params) : Obj := ⟨(.type "tuple"), none, (.seq (Array.mk []) 0), (Array.mk [])⟩
def o169 (P : Params) : Obj := ⟨.none, none, (.func { name := (u "__repr__"), qualname := (u "Pair.__repr__"), params := fArgs (inCls 8 8), body := .stmts (fBody (inCls 8 8)), scope := fScope (inCls 8 8), globals := 0, closure := [], defaults := .none, kwdefaults := .none, doc := .none, pyModule := .none, annotations := none, code := .none, closureTuple := .none, builtins := 0 }), (Array.mk [])⟩
def o170 (P : Params) : Obj := ⟨(.type "code"), none, (.fields (Array.mk [(.str (u "__repr__") 2345), (.str (u "Pair.__repr__") 2346), (.str (u "/claim/cut.py") 2347), (.int 62 0), (.int 1 0), (.int 0 0), (.int 0 0), (.int 3 0), (.ref 165), (.bool true), (.int 181 0), (.ref 166), .none, (.ref 167), (.ref 168), (.ref 169), (.int 2349 0), (.int 62 0), (.str (u "/claim/cut.py") 2350)])), (Array.mk [])⟩
def o171 (P : Params) : Obj := ⟨(.type "function"), none, (.func { name := (u "__repr__"), qualname := (u "Pair.__repr__"), params := fArgs (inCls 8 8), body := .stmts (fBody (inCls 8 8)), scope := fScope (inCls 8 8), globals := 3, closure := [], defaults := .none, kwdefaults := .none, doc := (.str (u "Return a nicely formatted representation string") 2351), pyModule := (.str (u "cpy313.importlib.metadata._collections") 2222), annotations := none, code := (.ref 170), closureTuple := .none, builtins := 0 }), (Array.mk [])⟩
def o172 (P : Params) : Obj := ⟨(.type "tuple"), none, (.seq (Array.mk []) 0), (Array.mk [])⟩
def o173 (P : Params) : Obj := ⟨.none, none, (.fields (Array.mk [])), (Array.mk [])⟩
def o174 (P : Params) : Obj := ⟨(.type "tuple"), none, (.seq (Array.mk [(.str (u "self") 2356)]) 0), (Array.mk [])⟩
def o175 (P : Params) : Obj := ⟨(.type "tuple"), none, (.seq (Array.mk []) 0), (Array.mk [])⟩
def o176 (P : Params) : Obj := ⟨.none, none, (.func { name := (u "_asdict"), qualname := (u "Pair._asdict"), params := fArgs (inCls 8 9), body := .stmts (fBody (inCls 8 9)), scope := fScope (inCls 8 9), globals := 0, closure := [], defaults := .none, kwdefaults := .none, doc := .none, pyModule := .none, annotations := none, code := .none, closureTuple := .none, builtins := 0 }), (Array.mk [])⟩
def o177 (P : Params) : Obj := ⟨(.type "code"), none, (.fields (Array.mk [(.str (u "_asdict") 2353), (.str (u "Pair._asdict") 2354), (.str (u "/claim/cut.py") 2355), (.int 66 0), (.int 1 0), (.int 0 0), (.int 0 0), (.int 3 0), (.ref 172), (.bool true), (.int 181 0), (.ref 173), .none, (.ref 174), (.ref 175), (.ref 176), (.int 2357 0), (.int 66 0), (.str (u "/claim/cut.py") 2358)])), (Array.mk [])⟩
def o178 (P : Params) : Obj := ⟨(.type "function"), none, (.func { name := (u "_asdict"), qualname := (u "Pair._asdict"), params := fArgs (inCls 8 9), body := .stmts (fBody (inCls 8 9)), scope := fScope (inCls 8 9), globals := 3, closure := [], defaults := .none, kwdefaults := .none, doc := .none, pyModule := (.str (u "cpy313.importlib.metadata._collections") 2222), annotations := none, code := (.ref 177), closureTuple := .none, builtins := 0 }), (Array.mk [])⟩
def o179 (P : Params) : Obj := ⟨(.type "tuple"), none, (.seq (Array.mk []) 0), (Array.mk [])⟩
def o180 (P : Params) : Obj := ⟨.none, none, (.fields (Array.mk [])), (Array.mk [])⟩
def o181 (P : Params) : Obj := ⟨(.type "tuple"), none, (.seq (Array.mk [(.str (u "self") 2363)]) 0), (Array.mk [])⟩
def o182 (P : Params) : Obj := ⟨(.type "tuple"), none, (.seq (Array.mk []) 0), (Array.mk [])⟩
def o183 (P : Params) : Obj := ⟨.none, none, (.func { name := (u "__getnewargs__"), qualname := (u "Pair.__getnewargs__"), params := fArgs (inCls 8 10), body := .stmts (fBody (inCls 8 10)), scope := fScope (inCls 8 10), globals := 0, closure := [], defaults := .none, kwdefaults := .none, doc := .none, pyModule := .none, annotations := none, code := .none, closureTuple := .none, builtins := 0 }), (Array.mk [])⟩
def o184 (P : Params) : Obj := ⟨(.type "code"), none, (.fields (Array.mk [(.str (u "__getnewargs__") 2360), (.str (u "Pair.__getnewargs__") 2361), (.str (u "/claim/cut.py") 2362), (.int 69 0), (.int 1 0), (.int 0 0), (.int 0 0), (.int 3 0), (.ref 179), (.bool true), (.int 181 0), (.ref 180), .none, (.ref 181), (.ref 182), (.ref 183), (.int 2364 0), (.int 69 0), (.str (u "/claim/cut.py") 2365)])), (Array.mk [])⟩
def o185 (P : Params) : Obj := ⟨(.type "function"), none, (.func { name := (u "__getnewargs__"), qualname := (u "Pair.__getnewargs__"), params := fArgs (inCls 8 10), body := .stmts (fBody (inCls 8 10)), scope := fScope (inCls 8 10), globals := 3, closure := [], defaults := .none, kwdefaults := .none, doc := (.str (u "Return self as a plain tuple.  Used by copy and pickle.") 2366), pyModule := (.str (u "cpy313.importlib.metadata._collections") 2222), annotations := none, code := (.ref 184), closureTuple := .none, builtins := 0 }), (Array.mk [])⟩
def o186 (P : Params) : Obj := ⟨(.type "tuple"), none, (.seq (Array.mk [(.str (u "name") 2368), (.str (u "value") 2369)]) 0), (Array.mk [])⟩
def o187 (P : Params) : Obj := ⟨(.type "dict"), none, (.dict (Array.mk [(e P (u "index") 2377 (.int 0 2371)), (e P (u "__doc__") 2379 (.str (u "Alias for field number 0") 2372))]) 2), (Array.mk [])⟩
def o188 (P : Params) : Obj := ⟨(.ref 124), (some 187), .plain, (Array.mk [])⟩
def o189 (P : Params) : Obj := ⟨(.type "frame"), none, (.dict (Array.mk [(e P (u "self") 2373 (.ref 188)), (e P (u "index") 2374 (.int 0 2371)), (e P (u "doc") 2375 (.str (u "Alias for field number 0") 2372))]) 3), (Array.mk [])⟩
def o190 (P : Params) : Obj := ⟨(.type "dict"), none, (.dict (Array.mk [(e P (u "index") 2387 (.int 1 2381)), (e P (u "__doc__") 2389 (.str (u "Alias for field number 1") 2382))]) 2), (Array.mk [])⟩
def o191 (P : Params) : Obj := ⟨(.ref 124), (some 190), .plain, (Array.mk [])⟩
def o192 (P : Params) : Obj := ⟨(.type "frame"), none, (.dict (Array.mk [(e P (u "self") 2383 (.ref 191)), (e P (u "index") 2384 (.int 1 2381)), (e P (u "doc") 2385 (.str (u "Alias for field number 1") 2382))]) 3), (Array.mk [])⟩
def o193 (P : Params) : Obj := ⟨(.type "tuple"), none, (.seq (Array.mk []) 0), (Array.mk [])⟩
def o194 (P : Params) : Obj := ⟨(.type "list"), none, (.seq (Array.mk []) 0), (Array.mk [])⟩
def o195 (P : Params) : Obj := ⟨(.type "dict"), none, (.dict (Array.mk [(e P (u "__module__") 2288 (.str (u "cpy313.importlib.metadata._collections") 2222)), (e P (u "__firstlineno__") 2292 (.int 33 2291)), (e P (u "__doc__") 2294 (.str (u "Pair(name, value)") 2293)), (e P (u "__slots__") 2296 (.ref 137)), (e P (u "_fields") 2299 (.ref 138)), (e P (u "_field_defaults") 2300 (.ref 139)), (e P (u "__new__") 2310 (.ref 197)), (e P (u "_make") 2332 (.ref 155)), (e P (u "_replace") 2343 (.ref 164)), (e P (u "__replace__") 2344 (.ref 164)), (e P (u "__repr__") 2352 (.ref 171)), (e P (u "_asdict") 2359 (.ref 178)), (e P (u "__getnewargs__") 2367 (.ref 185)), (e P (u "__match_args__") 2370 (.ref 186)), (e P (u "name") 2380 (.ref 188)), (e P (u "value") 2390 (.ref 191)), (e P (u "__static_attributes__") 2391 (.ref 193))]) 2), (Array.mk [])⟩
def o196 (P : Params) : Obj := ⟨(.type "type"), none, (.cls { name := (u "Pair"), bases := [(.type "tuple")], mro := [(.ref 196), (.type "tuple"), (.type "object")], ns := 195, qualname := (u "Pair"), hasDict := false, slotNames := [], subclasses := [], abstract := false, collection := none, hasDel := false }), (Array.mk [(some (.ref 129)), none, (some (.str (u "Pair") 2281)), (some (.str (u "Pair") 2289)), (some .none), (some (.bool false))])⟩
def o197 (P : Params) : Obj := ⟨(.type "staticmethod"), none, (.fields (Array.mk [(.ref 146)])), (Array.mk [])⟩
def o198 (P : Params) : Obj := ⟨(.type "super"), none, (.fields (Array.mk [(.ref 196), (.ref 196), (.ref 196)])), (Array.mk [])⟩
def o199 (P : Params) : Obj := ⟨(.type "builtin_function_or_method"), none, (.fields (Array.mk [(.builtin "object.__init_subclass__"), (.ref 196)])), (Array.mk [])⟩
def o3v7 (P : Params) : Obj := ⟨(.type "dict"), none, (.dict (Array.mk [(e P (u "__name__") 165 (.str (u "cpy313.importlib.metadata._collections") 2222)), (e P (u "__doc__") 166 .none), (e P (u "__package__") 167 .none), (e P (u "__loader__") 168 (.builtin "__main__.__loader__#opaque")), (e P (u "__spec__") 169 .none), (e P (u "__annotations__") 170 (.ref 6)), (e P (u "__builtins__") 171 (.ref 4)), (e P (u "__file__") 173 (.str (u "/claim/cut.py") 172)), (e P (u "__cached__") 174 .none), (e P (u "_wall") 193 (.ref 21)), (e P (u "b1_set") 255 (.ref 29)), (e P (u "in_table_b1") 262 (.ref 39)), (e P (u "b3_exceptions") 2213 (.ref 40)), (e P (u "map_table_b3") 2221 (.ref 85)), (e P (u "_tuplegetter") 2280 (.ref 124)), (e P (u "Pair") 2395 (.ref 219))]) 16), (Array.mk [])⟩
def o12v5 (P : Params) : Obj := ⟨.none, none, (.fields (Array.mk [(.int 1 0), (.int 0 0), (.ref 20), (.int 6 0), (.int 0 0), (.ref 38), (.int 9 0), (.int 0 0), (.ref 84), (.int 15 0), (.int 0 0), (.ref 91), (.int 33 0), (.int 0 0), (.ref 135), (.int 75 0), (.int 0 0), (.ref 205)])), (Array.mk [])⟩
def o196v1 (P : Params) : Obj := ⟨(.type "type"), none, (.cls { name := (u "Pair"), bases := [(.type "tuple")], mro := [(.ref 196), (.type "tuple"), (.type "object")], ns := 195, qualname := (u "Pair"), hasDict := false, slotNames := [], subclasses := [(.ref 219)], abstract := false, collection := none, hasDel := false }), (Array.mk [(some (.ref 129)), none, (some (.str (u "Pair") 2281)), (some (.str (u "Pair") 2289)), (some .none), (some (.bool false))])⟩
def o200 (P : Params) : Obj := ⟨(.type "tuple"), none, (.seq (Array.mk [(.ref 196)]) 0), (Array.mk [])⟩
def o201 (P : Params) : Obj := ⟨(.type "builtin_function_or_method"), none, (.fields (Array.mk [(.builtin "type.__prepare__"), (.type "type")])), (Array.mk [])⟩
def o202 (P : Params) : Obj := ⟨(.type "dict"), none, (.dict (Array.mk [(e P (u "__module__") 2403 (.str (u "cpy313.importlib.metadata._collections") 2222)), (e P (u "__qualname__") 2405 (.str (u "Pair") 2404)), (e P (u "__firstlineno__") 2407 (.int 75 2406)), (e P (u "parse") 2427 (.ref 215)), (e P (u "__static_attributes__") 2428 (.ref 217))]) 5), (Array.mk [])⟩
def o203 (P : Params) : Obj := ⟨(.type "tuple"), none, (.seq (Array.mk []) 0), (Array.mk [])⟩
def o204 (P : Params) : Obj := ⟨.none, none, (.fields (Array.mk [(.int 78 0), (.int 4 0), (.ref 212)])), (Array.mk [])⟩
def o205 (P : Params) : Obj := ⟨(.type "code"), none, (.fields (Array.mk [(.str (u "Pair") 2398), (.str (u "Pair") 2399), (.str (u "/claim/cut.py") 2400), (.int 75 0), (.int 0 0), (.int 0 0), (.int 0 0), (.int 0 0), (.ref 203), (.bool false), (.int 181 0), (.ref 204), .none, .none, .none, .none, (.int 2401 0), (.int 75 0), (.str (u "/claim/cut.py") 2402)])), (Array.mk [])⟩
def o206 (P : Params) : Obj := ⟨(.type "frame"), none, .plain, (Array.mk [(some (.ref 205)), (some (.ref 3)), (some (.ref 202)), none, (some (.str (u "cpy313.importlib.metadata._collections") 2222)), none, (some (.ref 0))])⟩
def o207 (P : Params) : Obj := ⟨(.type "tuple"), none, (.seq (Array.mk []) 0), (Array.mk [])⟩
def o208 (P : Params) : Obj := ⟨.none, none, (.fields (Array.mk [])), (Array.mk [])⟩
def o209 (P : Params) : Obj := ⟨(.type "tuple"), none, (.seq (Array.mk [(.str (u "cls") 2411), (.str (u "text") 2412)]) 0), (Array.mk [])⟩
def o210 (P : Params) : Obj := ⟨(.type "tuple"), none, (.seq (Array.mk []) 0), (Array.mk [])⟩
def o211 (P : Params) : Obj := ⟨.none, none, (.func { name := (u "parse"), qualname := (u "Pair.parse"), params := fArgs (inCls 9 0), body := .stmts (fBody (inCls 9 0)), scope := fScope (inCls 9 0), globals := 0, closure := [], defaults := .none, kwdefaults := .none, doc := .none, pyModule := .none, annotations := none, code := .none, closureTuple := .none, builtins := 0 }), (Array.mk [])⟩
def o212 (P : Params) : Obj := ⟨(.type "code"), none, (.fields (Array.mk [(.str (u "parse") 2408), (.str (u "Pair.parse") 2409), (.str (u "/claim/cut.py") 2410), (.int 77 0), (.int 2 0), (.int 0 0), (.int 0 0), (.int 3 0), (.ref 207), (.bool true), (.int 181 0), (.ref 208), .none, (.ref 209), (.ref 210), (.ref 211), (.int 2413 0), (.int 77 0), (.str (u "/claim/cut.py") 2414)])), (Array.mk [])⟩
def o213 (P : Params) : Obj := ⟨(.type "function"), none, (.func { name := (u "parse"), qualname := (u "Pair.parse"), params := fArgs (inCls 9 0), body := .stmts (fBody (inCls 9 0)), scope := fScope (inCls 9 0), globals := 3, closure := [], defaults := .none, kwdefaults := .none, doc := .none, pyModule := (.str (u "cpy313.importlib.metadata._collections") 2222), annotations := (some 216), code := (.ref 212), closureTuple := .none, builtins := 0 }), (Array.mk [])⟩
def o214 (P : Params) : Obj := ⟨(.type "dict"), none, (.dict (Array.mk [(e P (u "__module__") 2416 (.str (u "cpy313.importlib.metadata._collections") 2222)), (e P (u "__name__") 2419 (.str (u "parse") 2418)), (e P (u "__qualname__") 2422 (.str (u "Pair.parse") 2421)), (e P (u "__doc__") 2424 .none), (e P (u "__annotations__") 2426 (.ref 216))]) 5), (Array.mk [])⟩
def o215 (P : Params) : Obj := ⟨(.type "classmethod"), (some 214), (.fields (Array.mk [(.ref 213), (.bool false)])), (Array.mk [])⟩
def o216 (P : Params) : Obj := ⟨(.type "dict"), none, (.dict (Array.mk []) 0), (Array.mk [])⟩
def o217 (P : Params) : Obj := ⟨(.type "tuple"), none, (.seq (Array.mk []) 0), (Array.mk [])⟩
def o218 (P : Params) : Obj := ⟨(.type "dict"), none, (.dict (Array.mk [(e P (u "__module__") 2403 (.str (u "cpy313.importlib.metadata._collections") 2222)), (e P (u "__firstlineno__") 2407 (.int 75 2406)), (e P (u "parse") 2427 (.ref 215)), (e P (u "__static_attributes__") 2428 (.ref 217)), (e P (u "__dict__") 2430 (.ref 220)), (e P (u "__doc__") 2431 .none)]) 3), (Array.mk [])⟩
def o219 (P : Params) : Obj := ⟨(.type "type"), none, (.cls { name := (u "Pair"), bases := [(.ref 196)], mro := [(.ref 219), (.ref 196), (.type "tuple"), (.type "object")], ns := 218, qualname := (u "Pair"), hasDict := true, slotNames := [], subclasses := [], abstract := false, collection := none, hasDel := false }), (Array.mk [(some (.ref 200)), none, (some (.str (u "Pair") 2396)), (some (.str (u "Pair") 2404)), (some .none), (some (.bool false))])⟩
def o220 (P : Params) : Obj := ⟨(.type "getset_descriptor"), none, (.fields (Array.mk [(.str (u "__dict__") 2429), (.ref 219), (.builtin "function.__dict__"), (.builtin "function.__dict__#set")])), (Array.mk [])⟩
def o221 (P : Params) : Obj := ⟨(.type "super"), none, (.fields (Array.mk [(.ref 219), (.ref 219), (.ref 219)])), (Array.mk [])⟩
def o222 (P : Params) : Obj := ⟨(.type "builtin_function_or_method"), none, (.fields (Array.mk [(.builtin "object.__init_subclass__"), (.ref 219)])), (Array.mk [])⟩
def o3v8 (P : Params) : Obj := ⟨(.type "dict"), none, (.dict (Array.mk [(e P (u "__name__") 165 (.str (u "law_ij0040_01") 2434)), (e P (u "__doc__") 166 .none), (e P (u "__package__") 167 .none), (e P (u "__loader__") 168 (.builtin "__main__.__loader__#opaque")), (e P (u "__spec__") 169 .none), (e P (u "__annotations__") 170 (.ref 6)), (e P (u "__builtins__") 171 (.ref 4)), (e P (u "__file__") 173 (.str (u "/claim/cut.py") 172)), (e P (u "__cached__") 174 .none), (e P (u "_wall") 193 (.ref 21)), (e P (u "b1_set") 255 (.ref 29)), (e P (u "in_table_b1") 262 (.ref 39)), (e P (u "b3_exceptions") 2213 (.ref 40)), (e P (u "map_table_b3") 2221 (.ref 85)), (e P (u "_tuplegetter") 2280 (.ref 124)), (e P (u "Pair") 2395 (.ref 219)), (e P (u "_law_blanks") 2441 (.ref 227)), (e P (u "_law_nothings") 2447 (.ref 232)), (e P (u "_law_sign") 2456 (.ref 239)), (e P (u "_law_prepared") 2462 (.ref 244)), (e P (u "_law_parsed") 2469 (.ref 251)), (e P (u "_law_bare") 2475 (.ref 256)), (e P (u "_law_shielded") 2481 (.ref 261)), (e P (u "_law_right") 2496 (.ref 268)), (e P (u "law") 2502 (.ref 273))]) 25), (Array.mk [])⟩
def o12v6 (P : Params) : Obj := ⟨.none, none, (.fields (Array.mk [(.int 1 0), (.int 0 0), (.ref 20), (.int 6 0), (.int 0 0), (.ref 38), (.int 9 0), (.int 0 0), (.ref 84), (.int 15 0), (.int 0 0), (.ref 91), (.int 33 0), (.int 0 0), (.ref 135), (.int 75 0), (.int 0 0), (.ref 205), (.int 81 0), (.int 0 0), (.ref 226), (.int 84 0), (.int 0 0), (.ref 231), (.int 87 0), (.int 0 0), (.ref 238), (.int 92 0), (.int 0 0), (.ref 243), (.int 94 0), (.int 0 0), (.ref 250), (.int 99 0), (.int 0 0), (.ref 255), (.int 102 0), (.int 0 0), (.ref 260), (.int 108 0), (.int 0 0), (.ref 267), (.int 123 0), (.int 0 0), (.ref 272)])), (Array.mk [])⟩
def o223 (P : Params) : Obj := ⟨(.type "tuple"), none, (.seq (Array.mk []) 0), (Array.mk [])⟩
def o224 (P : Params) : Obj := ⟨.none, none, (.fields (Array.mk [])), (Array.mk [])⟩
def o225 (P : Params) : Obj := ⟨.none, none, (.func { name := (u "_law_blanks"), qualname := (u "_law_blanks"), params := fArgs (top 11), body := .stmts (fBody (top 11)), scope := fScope (top 11), globals := 0, closure := [], defaults := .none, kwdefaults := .none, doc := .none, pyModule := .none, annotations := none, code := .none, closureTuple := .none, builtins := 0 }), (Array.mk [])⟩
def o226 (P : Params) : Obj := ⟨(.type "code"), none, (.fields (Array.mk [(.str (u "_law_blanks") 2436), (.str (u "_law_blanks") 2437), (.str (u "/claim/cut.py") 2438), (.int 81 0), (.int 0 0), (.int 0 0), (.int 0 0), (.int 3 0), (.ref 223), (.bool true), (.int 181 0), (.ref 224), .none, .none, .none, (.ref 225), (.int 2439 0), (.int 81 0), (.str (u "/claim/cut.py") 2440)])), (Array.mk [])⟩
def o227 (P : Params) : Obj := ⟨(.type "function"), none, (.func { name := (u "_law_blanks"), qualname := (u "_law_blanks"), params := fArgs (top 11), body := .stmts (fBody (top 11)), scope := fScope (top 11), globals := 3, closure := [], defaults := .none, kwdefaults := .none, doc := .none, pyModule := (.str (u "law_ij0040_01") 2434), annotations := none, code := (.ref 226), closureTuple := .none, builtins := 0 }), (Array.mk [])⟩
def o228 (P : Params) : Obj := ⟨(.type "tuple"), none, (.seq (Array.mk []) 0), (Array.mk [])⟩
def o229 (P : Params) : Obj := ⟨.none, none, (.fields (Array.mk [])), (Array.mk [])⟩
def o230 (P : Params) : Obj := ⟨.none, none, (.func { name := (u "_law_nothings"), qualname := (u "_law_nothings"), params := fArgs (top 12), body := .stmts (fBody (top 12)), scope := fScope (top 12), globals := 0, closure := [], defaults := .none, kwdefaults := .none, doc := .none, pyModule := .none, annotations := none, code := .none, closureTuple := .none, builtins := 0 }), (Array.mk [])⟩
def o231 (P : Params) : Obj := ⟨(.type "code"), none, (.fields (Array.mk [(.str (u "_law_nothings") 2442), (.str (u "_law_nothings") 2443), (.str (u "/claim/cut.py") 2444), (.int 84 0), (.int 0 0), (.int 0 0), (.int 0 0), (.int 3 0), (.ref 228), (.bool true), (.int 181 0), (.ref 229), .none, .none, .none, (.ref 230), (.int 2445 0), (.int 84 0), (.str (u "/claim/cut.py") 2446)])), (Array.mk [])⟩
def o232 (P : Params) : Obj := ⟨(.type "function"), none, (.func { name := (u "_law_nothings"), qualname := (u "_law_nothings"), params := fArgs (top 12), body := .stmts (fBody (top 12)), scope := fScope (top 12), globals := 3, closure := [], defaults := .none, kwdefaults := .none, doc := .none, pyModule := (.str (u "law_ij0040_01") 2434), annotations := none, code := (.ref 231), closureTuple := .none, builtins := 0 }), (Array.mk [])⟩
def o233 (P : Params) : Obj := ⟨(.type "tuple"), none, (.seq (Array.mk []) 0), (Array.mk [])⟩
def o234 (P : Params) : Obj := ⟨.none, none, (.fields (Array.mk [])), (Array.mk [])⟩
def o235 (P : Params) : Obj := ⟨(.type "tuple"), none, (.seq (Array.mk [(.str (u "x") 2451), (.str (u "special") 2452), (.str (u "code") 2453)]) 0), (Array.mk [])⟩
def o236 (P : Params) : Obj := ⟨(.type "tuple"), none, (.seq (Array.mk []) 0), (Array.mk [])⟩
def o237 (P : Params) : Obj := ⟨.none, none, (.func { name := (u "_law_sign"), qualname := (u "_law_sign"), params := fArgs (top 13), body := .stmts (fBody (top 13)), scope := fScope (top 13), globals := 0, closure := [], defaults := .none, kwdefaults := .none, doc := .none, pyModule := .none, annotations := none, code := .none, closureTuple := .none, builtins := 0 }), (Array.mk [])⟩
def o238 (P : Params) : Obj := ⟨(.type "code"), none, (.fields (Array.mk [(.str (u "_law_sign") 2448), (.str (u "_law_sign") 2449), (.str (u "/claim/cut.py") 2450), (.int 87 0), (.int 2 0), (.int 0 0), (.int 0 0), (.int 3 0), (.ref 233), (.bool true), (.int 181 0), (.ref 234), .none, (.ref 235), (.ref 236), (.ref 237), (.int 2454 0), (.int 87 0), (.str (u "/claim/cut.py") 2455)])), (Array.mk [])⟩
def o239 (P : Params) : Obj := ⟨(.type "function"), none, (.func { name := (u "_law_sign"), qualname := (u "_law_sign"), params := fArgs (top 13), body := .stmts (fBody (top 13)), scope := fScope (top 13), globals := 3, closure := [], defaults := .none, kwdefaults := .none, doc := .none, pyModule := (.str (u "law_ij0040_01") 2434), annotations := none, code := (.ref 238), closureTuple := .none, builtins := 0 }), (Array.mk [])⟩
def o240 (P : Params) : Obj := ⟨(.type "tuple"), none, (.seq (Array.mk []) 0), (Array.mk [])⟩
def o241 (P : Params) : Obj := ⟨.none, none, (.fields (Array.mk [])), (Array.mk [])⟩
def o242 (P : Params) : Obj := ⟨.none, none, (.func { name := (u "_law_prepared"), qualname := (u "_law_prepared"), params := fArgs (top 14), body := .stmts (fBody (top 14)), scope := fScope (top 14), globals := 0, closure := [], defaults := .none, kwdefaults := .none, doc := .none, pyModule := .none, annotations := none, code := .none, closureTuple := .none, builtins := 0 }), (Array.mk [])⟩
def o243 (P : Params) : Obj := ⟨(.type "code"), none, (.fields (Array.mk [(.str (u "_law_prepared") 2457), (.str (u "_law_prepared") 2458), (.str (u "/claim/cut.py") 2459), (.int 92 0), (.int 1 0), (.int 0 0), (.int 0 0), (.int 3 0), (.ref 240), (.bool true), (.int 181 0), (.ref 241), .none, .none, .none, (.ref 242), (.int 2460 0), (.int 92 0), (.str (u "/claim/cut.py") 2461)])), (Array.mk [])⟩
def o244 (P : Params) : Obj := ⟨(.type "function"), none, (.func { name := (u "_law_prepared"), qualname := (u "_law_prepared"), params := fArgs (top 14), body := .stmts (fBody (top 14)), scope := fScope (top 14), globals := 3, closure := [], defaults := .none, kwdefaults := .none, doc := .none, pyModule := (.str (u "law_ij0040_01") 2434), annotations := none, code := (.ref 243), closureTuple := .none, builtins := 0 }), (Array.mk [])⟩
def o245 (P : Params) : Obj := ⟨(.type "tuple"), none, (.seq (Array.mk []) 0), (Array.mk [])⟩
def o246 (P : Params) : Obj := ⟨.none, none, (.fields (Array.mk [])), (Array.mk [])⟩
def o247 (P : Params) : Obj := ⟨(.type "tuple"), none, (.seq (Array.mk [(.str (u "text") 2466)]) 0), (Array.mk [])⟩
def o248 (P : Params) : Obj := ⟨(.type "tuple"), none, (.seq (Array.mk []) 0), (Array.mk [])⟩
def o249 (P : Params) : Obj := ⟨.none, none, (.func { name := (u "_law_parsed"), qualname := (u "_law_parsed"), params := fArgs (top 15), body := .stmts (fBody (top 15)), scope := fScope (top 15), globals := 0, closure := [], defaults := .none, kwdefaults := .none, doc := .none, pyModule := .none, annotations := none, code := .none, closureTuple := .none, builtins := 0 }), (Array.mk [])⟩
def o250 (P : Params) : Obj := ⟨(.type "code"), none, (.fields (Array.mk [(.str (u "_law_parsed") 2463), (.str (u "_law_parsed") 2464), (.str (u "/claim/cut.py") 2465), (.int 94 0), (.int 1 0), (.int 0 0), (.int 0 0), (.int 3 0), (.ref 245), (.bool true), (.int 181 0), (.ref 246), .none, (.ref 247), (.ref 248), (.ref 249), (.int 2467 0), (.int 94 0), (.str (u "/claim/cut.py") 2468)])), (Array.mk [])⟩
def o251 (P : Params) : Obj := ⟨(.type "function"), none, (.func { name := (u "_law_parsed"), qualname := (u "_law_parsed"), params := fArgs (top 15), body := .stmts (fBody (top 15)), scope := fScope (top 15), globals := 3, closure := [], defaults := .none, kwdefaults := .none, doc := .none, pyModule := (.str (u "law_ij0040_01") 2434), annotations := none, code := (.ref 250), closureTuple := .none, builtins := 0 }), (Array.mk [])⟩
def o252 (P : Params) : Obj := ⟨(.type "tuple"), none, (.seq (Array.mk []) 0), (Array.mk [])⟩
def o253 (P : Params) : Obj := ⟨.none, none, (.fields (Array.mk [])), (Array.mk [])⟩
def o254 (P : Params) : Obj := ⟨.none, none, (.func { name := (u "_law_bare"), qualname := (u "_law_bare"), params := fArgs (top 16), body := .stmts (fBody (top 16)), scope := fScope (top 16), globals := 0, closure := [], defaults := .none, kwdefaults := .none, doc := .none, pyModule := .none, annotations := none, code := .none, closureTuple := .none, builtins := 0 }), (Array.mk [])⟩
def o255 (P : Params) : Obj := ⟨(.type "code"), none, (.fields (Array.mk [(.str (u "_law_bare") 2470), (.str (u "_law_bare") 2471), (.str (u "/claim/cut.py") 2472), (.int 99 0), (.int 2 0), (.int 0 0), (.int 0 0), (.int 3 0), (.ref 252), (.bool true), (.int 181 0), (.ref 253), .none, .none, .none, (.ref 254), (.int 2473 0), (.int 99 0), (.str (u "/claim/cut.py") 2474)])), (Array.mk [])⟩
def o256 (P : Params) : Obj := ⟨(.type "function"), none, (.func { name := (u "_law_bare"), qualname := (u "_law_bare"), params := fArgs (top 16), body := .stmts (fBody (top 16)), scope := fScope (top 16), globals := 3, closure := [], defaults := .none, kwdefaults := .none, doc := .none, pyModule := (.str (u "law_ij0040_01") 2434), annotations := none, code := (.ref 255), closureTuple := .none, builtins := 0 }), (Array.mk [])⟩
def o257 (P : Params) : Obj := ⟨(.type "tuple"), none, (.seq (Array.mk []) 0), (Array.mk [])⟩
def o258 (P : Params) : Obj := ⟨.none, none, (.fields (Array.mk [])), (Array.mk [])⟩
def o259 (P : Params) : Obj := ⟨.none, none, (.func { name := (u "_law_shielded"), qualname := (u "_law_shielded"), params := fArgs (top 17), body := .stmts (fBody (top 17)), scope := fScope (top 17), globals := 0, closure := [], defaults := .none, kwdefaults := .none, doc := .none, pyModule := .none, annotations := none, code := .none, closureTuple := .none, builtins := 0 }), (Array.mk [])⟩
def o260 (P : Params) : Obj := ⟨(.type "code"), none, (.fields (Array.mk [(.str (u "_law_shielded") 2476), (.str (u "_law_shielded") 2477), (.str (u "/claim/cut.py") 2478), (.int 102 0), (.int 3 0), (.int 0 0), (.int 0 0), (.int 3 0), (.ref 257), (.bool true), (.int 181 0), (.ref 258), .none, .none, .none, (.ref 259), (.int 2479 0), (.int 102 0), (.str (u "/claim/cut.py") 2480)])), (Array.mk [])⟩
def o261 (P : Params) : Obj := ⟨(.type "function"), none, (.func { name := (u "_law_shielded"), qualname := (u "_law_shielded"), params := fArgs (top 17), body := .stmts (fBody (top 17)), scope := fScope (top 17), globals := 3, closure := [], defaults := .none, kwdefaults := .none, doc := .none, pyModule := (.str (u "law_ij0040_01") 2434), annotations := none, code := (.ref 260), closureTuple := .none, builtins := 0 }), (Array.mk [])⟩
def o262 (P : Params) : Obj := ⟨(.type "tuple"), none, (.seq (Array.mk []) 0), (Array.mk [])⟩
def o263 (P : Params) : Obj := ⟨.none, none, (.fields (Array.mk [])), (Array.mk [])⟩
def o264 (P : Params) : Obj := ⟨(.type "tuple"), none, (.seq (Array.mk [(.str (u "text") 2485), (.str (u "blanks") 2486), (.str (u "nothings") 2487), (.str (u "first") 2488), (.str (u "second") 2489), (.str (u "at") 2490), (.str (u "part") 2491), (.str (u "told") 2492), (.str (u "made") 2493)]) 0), (Array.mk [])⟩
def o265 (P : Params) : Obj := ⟨(.type "tuple"), none, (.seq (Array.mk []) 0), (Array.mk [])⟩
def o266 (P : Params) : Obj := ⟨.none, none, (.func { name := (u "_law_right"), qualname := (u "_law_right"), params := fArgs (top 18), body := .stmts (fBody (top 18)), scope := fScope (top 18), globals := 0, closure := [], defaults := .none, kwdefaults := .none, doc := .none, pyModule := .none, annotations := none, code := .none, closureTuple := .none, builtins := 0 }), (Array.mk [])⟩
def o267 (P : Params) : Obj := ⟨(.type "code"), none, (.fields (Array.mk [(.str (u "_law_right") 2482), (.str (u "_law_right") 2483), (.str (u "/claim/cut.py") 2484), (.int 108 0), (.int 3 0), (.int 0 0), (.int 0 0), (.int 3 0), (.ref 262), (.bool true), (.int 181 0), (.ref 263), .none, (.ref 264), (.ref 265), (.ref 266), (.int 2494 0), (.int 108 0), (.str (u "/claim/cut.py") 2495)])), (Array.mk [])⟩
def o268 (P : Params) : Obj := ⟨(.type "function"), none, (.func { name := (u "_law_right"), qualname := (u "_law_right"), params := fArgs (top 18), body := .stmts (fBody (top 18)), scope := fScope (top 18), globals := 3, closure := [], defaults := .none, kwdefaults := .none, doc := .none, pyModule := (.str (u "law_ij0040_01") 2434), annotations := none, code := (.ref 267), closureTuple := .none, builtins := 0 }), (Array.mk [])⟩
def o269 (P : Params) : Obj := ⟨(.type "tuple"), none, (.seq (Array.mk []) 0), (Array.mk [])⟩
def o270 (P : Params) : Obj := ⟨.none, none, (.fields (Array.mk [])), (Array.mk [])⟩
def o271 (P : Params) : Obj := ⟨.none, none, (.func { name := (u "law"), qualname := (u "law"), params := fArgs (top 19), body := .stmts (fBody (top 19)), scope := fScope (top 19), globals := 0, closure := [], defaults := .none, kwdefaults := .none, doc := .none, pyModule := .none, annotations := none, code := .none, closureTuple := .none, builtins := 0 }), (Array.mk [])⟩
def o272 (P : Params) : Obj := ⟨(.type "code"), none, (.fields (Array.mk [(.str (u "law") 2497), (.str (u "law") 2498), (.str (u "/claim/cut.py") 2499), (.int 123 0), (.int 1 0), (.int 0 0), (.int 0 0), (.int 3 0), (.ref 269), (.bool true), (.int 181 0), (.ref 270), .none, .none, .none, (.ref 271), (.int 2500 0), (.int 123 0), (.str (u "/claim/cut.py") 2501)])), (Array.mk [])⟩
def o273 (P : Params) : Obj := ⟨(.type "function"), none, (.func { name := (u "law"), qualname := (u "law"), params := fArgs (top 19), body := .stmts (fBody (top 19)), scope := fScope (top 19), globals := 3, closure := [], defaults := .none, kwdefaults := .none, doc := .none, pyModule := (.str (u "law_ij0040_01") 2434), annotations := none, code := (.ref 272), closureTuple := .none, builtins := 0 }), (Array.mk [])⟩
def l_s0 (P : Params) : List Obj := [boot_o_0 P, boot_o_1 P, boot_o_2 P, boot_o_3 P, boot_o_4 P, boot_o_5 P, boot_o_6 P, boot_o_7 P, boot_o_8 P, boot_o_9 P, boot_o_10 P]
def k_s0 : Nat := 181
def n_s0 : Nat := 11
def l_pre (P : Params) : List Obj := [boot_o_0 P, boot_o_1 P, boot_o_2 P, boot_o_3 P, boot_o_4 P, boot_o_5 P, boot_o_6 P, boot_o_7 P, boot_o_8 P, boot_o_9 P, boot_o_10 P, o11 P, o12 P, o13 P, o14 P]
def k_pre : Nat := 187
def n_pre : Nat := 15
def t_block (P : Params) : BT := (n (boot_o_0 P) (n (boot_o_1 P) (n (boot_o_3 P) (n (boot_o_7 P) .nil .nil) (n (o11 P) .nil .nil)) (n (boot_o_5 P) (n (boot_o_9 P) .nil .nil) (n (o13 P) .nil .nil))) (n (boot_o_2 P) (n (boot_o_4 P) (n (boot_o_8 P) .nil .nil) (n (o12 P) .nil .nil)) (n (boot_o_6 P) (n (boot_o_10 P) .nil .nil) (n (o14 P) .nil .nil))))
def k_block : Nat := 187
def n_block : Nat := 15
def t_p2 (P : Params) : BT := (n (boot_o_0 P) (n (boot_o_1 P) (n (o3v1 P) (n (boot_o_7 P) (n (o15 P) .nil .nil) .nil) (n (o11 P) (n (o19 P) .nil .nil) .nil)) (n (boot_o_5 P) (n (boot_o_9 P) (n (o17 P) .nil .nil) .nil) (n (o13 P) (n (o21 P) .nil .nil) .nil))) (n (boot_o_2 P) (n (boot_o_4 P) (n (boot_o_8 P) (n (o16 P) .nil .nil) .nil) (n (o12v1 P) (n (o20 P) .nil .nil) .nil)) (n (boot_o_6 P) (n (boot_o_10 P) (n (o18 P) .nil .nil) .nil) (n (o14 P) .nil .nil))))
def k_p2 : Nat := 196
def n_p2 : Nat := 22
def t_p3 (P : Params) : BT := (n (boot_o_0 P) (n (boot_o_1 P) (n (o3v2 P) (n (boot_o_7 P) (n (o15 P) (n (o31 P) .nil .nil) .nil) (n (o23 P) .nil .nil)) (n (o11 P) (n (o19 P) .nil .nil) (n (o27 P) .nil .nil))) (n (boot_o_5 P) (n (boot_o_9 P) (n (o17 P) .nil .nil) (n (o25 P) .nil .nil)) (n (o13 P) (n (o21 P) .nil .nil) (n (o29 P) .nil .nil)))) (n (boot_o_2 P) (n (boot_o_4 P) (n (boot_o_8 P) (n (o16 P) (n (o32 P) .nil .nil) .nil) (n (o24 P) .nil .nil)) (n (o12v1 P) (n (o20 P) .nil .nil) (n (o28 P) .nil .nil))) (n (boot_o_6 P) (n (boot_o_10 P) (n (o18 P) .nil .nil) (n (o26 P) .nil .nil)) (n (o14 P) (n (o22 P) .nil .nil) (n (o30 P) .nil .nil)))))
def k_p3 : Nat := 256
def n_p3 : Nat := 33
def t_p4 (P : Params) : BT := (n (boot_o_0 P) (n (boot_o_1 P) (n (o3v3 P) (n (boot_o_7 P) (n (o15 P) (n (o31 P) .nil .nil) .nil) (n (o23 P) (n (o39 P) .nil .nil) .nil)) (n (o11 P) (n (o19 P) (n (o35 P) .nil .nil) .nil) (n (o27 P) .nil .nil))) (n (boot_o_5 P) (n (boot_o_9 P) (n (o17 P) (n (o33 P) .nil .nil) .nil) (n (o25 P) .nil .nil)) (n (o13 P) (n (o21 P) (n (o37 P) .nil .nil) .nil) (n (o29 P) .nil .nil)))) (n (boot_o_2 P) (n (boot_o_4 P) (n (boot_o_8 P) (n (o16 P) (n (o32 P) .nil .nil) .nil) (n (o24 P) .nil .nil)) (n (o12v2 P) (n (o20 P) (n (o36 P) .nil .nil) .nil) (n (o28 P) .nil .nil))) (n (boot_o_6 P) (n (boot_o_10 P) (n (o18 P) (n (o34 P) .nil .nil) .nil) (n (o26 P) .nil .nil)) (n (o14 P) (n (o22 P) (n (o38 P) .nil .nil) .nil) (n (o30 P) .nil .nil)))))
def k_p4 : Nat := 263
def n_p4 : Nat := 40
def t_p5 (P : Params) : BT := (n (boot_o_0 P) (n (boot_o_1 P) (n (o3v4 P) (n (boot_o_7 P) (n (o15 P) (n (o31 P) (n (o63 P) .nil .nil) .nil) (n (o47 P) .nil .nil)) (n (o23 P) (n (o39 P) (n (o71 P) .nil .nil) .nil) (n (o55 P) .nil .nil))) (n (o11 P) (n (o19 P) (n (o35 P) (n (o67 P) .nil .nil) .nil) (n (o51 P) .nil .nil)) (n (o27 P) (n (o43 P) (n (o75 P) .nil .nil) .nil) (n (o59 P) .nil .nil)))) (n (boot_o_5 P) (n (boot_o_9 P) (n (o17 P) (n (o33 P) (n (o65 P) .nil .nil) .nil) (n (o49 P) .nil .nil)) (n (o25 P) (n (o41 P) (n (o73 P) .nil .nil) .nil) (n (o57 P) .nil .nil))) (n (o13 P) (n (o21 P) (n (o37 P) (n (o69 P) .nil .nil) .nil) (n (o53 P) .nil .nil)) (n (o29 P) (n (o45 P) (n (o77 P) .nil .nil) .nil) (n (o61 P) .nil .nil))))) (n (boot_o_2 P) (n (boot_o_4 P) (n (boot_o_8 P) (n (o16 P) (n (o32 P) (n (o64 P) .nil .nil) .nil) (n (o48 P) .nil .nil)) (n (o24 P) (n (o40 P) (n (o72 P) .nil .nil) .nil) (n (o56 P) .nil .nil))) (n (o12v2 P) (n (o20 P) (n (o36 P) (n (o68 P) .nil .nil) .nil) (n (o52 P) .nil .nil)) (n (o28 P) (n (o44 P) (n (o76 P) .nil .nil) .nil) (n (o60 P) .nil .nil)))) (n (boot_o_6 P) (n (boot_o_10 P) (n (o18 P) (n (o34 P) (n (o66 P) .nil .nil) .nil) (n (o50 P) .nil .nil)) (n (o26 P) (n (o42 P) (n (o74 P) .nil .nil) .nil) (n (o58 P) .nil .nil))) (n (o14 P) (n (o22 P) (n (o38 P) (n (o70 P) .nil .nil) .nil) (n (o54 P) .nil .nil)) (n (o30 P) (n (o46 P) (n (o78 P) .nil .nil) .nil) (n (o62 P) .nil .nil))))))
def k_p5 : Nat := 2214
def n_p5 : Nat := 79
def t_p8 (P : Params) : BT := (n (boot_o_0 P) (n (boot_o_1 P) (n (o3v5 P) (n (boot_o_7 P) (n (o15 P) (n (o31 P) (n (o63 P) (n (o127 P) .nil .nil) .nil) (n (o95 P) .nil .nil)) (n (o47 P) (n (o79 P) .nil .nil) (n (o111 P) .nil .nil))) (n (o23 P) (n (o39 P) (n (o71 P) .nil .nil) (n (o103 P) .nil .nil)) (n (o55 P) (n (o87 P) .nil .nil) (n (o119 P) .nil .nil)))) (n (o11 P) (n (o19 P) (n (o35 P) (n (o67 P) .nil .nil) (n (o99 P) .nil .nil)) (n (o51 P) (n (o83 P) .nil .nil) (n (o115 P) .nil .nil))) (n (o27 P) (n (o43 P) (n (o75 P) .nil .nil) (n (o107 P) .nil .nil)) (n (o59 P) (n (o91 P) .nil .nil) (n (o123 P) .nil .nil))))) (n (boot_o_5 P) (n (boot_o_9 P) (n (o17 P) (n (o33 P) (n (o65 P) .nil .nil) (n (o97 P) .nil .nil)) (n (o49 P) (n (o81 P) .nil .nil) (n (o113 P) .nil .nil))) (n (o25 P) (n (o41 P) (n (o73 P) .nil .nil) (n (o105 P) .nil .nil)) (n (o57 P) (n (o89 P) .nil .nil) (n (o121 P) .nil .nil)))) (n (o13 P) (n (o21 P) (n (o37 P) (n (o69 P) .nil .nil) (n (o101 P) .nil .nil)) (n (o53 P) (n (o85 P) .nil .nil) (n (o117 P) .nil .nil))) (n (o29 P) (n (o45 P) (n (o77 P) .nil .nil) (n (o109 P) .nil .nil)) (n (o61 P) (n (o93 P) .nil .nil) (n (o125 P) .nil .nil)))))) (n (boot_o_2 P) (n (boot_o_4 P) (n (boot_o_8 P) (n (o16 P) (n (o32 P) (n (o64 P) (n (o128 P) .nil .nil) .nil) (n (o96 P) .nil .nil)) (n (o48 P) (n (o80 P) .nil .nil) (n (o112 P) .nil .nil))) (n (o24 P) (n (o40 P) (n (o72 P) .nil .nil) (n (o104 P) .nil .nil)) (n (o56 P) (n (o88 P) .nil .nil) (n (o120 P) .nil .nil)))) (n (o12v3 P) (n (o20 P) (n (o36 P) (n (o68 P) .nil .nil) (n (o100 P) .nil .nil)) (n (o52 P) (n (o84 P) .nil .nil) (n (o116 P) .nil .nil))) (n (o28 P) (n (o44 P) (n (o76 P) .nil .nil) (n (o108 P) .nil .nil)) (n (o60 P) (n (o92 P) .nil .nil) (n (o124 P) .nil .nil))))) (n (boot_o_6 P) (n (boot_o_10 P) (n (o18 P) (n (o34 P) (n (o66 P) .nil .nil) (n (o98 P) .nil .nil)) (n (o50 P) (n (o82 P) .nil .nil) (n (o114 P) .nil .nil))) (n (o26 P) (n (o42 P) (n (o74 P) .nil .nil) (n (o106 P) .nil .nil)) (n (o58 P) (n (o90 P) .nil .nil) (n (o122 P) .nil .nil)))) (n (o14 P) (n (o22 P) (n (o38 P) (n (o70 P) .nil .nil) (n (o102 P) .nil .nil)) (n (o54 P) (n (o86 P) .nil .nil) (n (o118 P) .nil .nil))) (n (o30 P) (n (o46 P) (n (o78 P) .nil .nil) (n (o110 P) .nil .nil)) (n (o62 P) (n (o94 P) .nil .nil) (n (o126 P) .nil .nil)))))))
def k_p8 : Nat := 2281
def n_p8 : Nat := 129
def t_p9 (P : Params) : BT := (n (boot_o_0 P) (n (boot_o_1 P) (n (o3v6 P) (n (boot_o_7 P) (n (o15 P) (n (o31 P) (n (o63 P) (n (o127 P) .nil .nil) (n (o191 P) .nil .nil)) (n (o95 P) (n (o159 P) .nil .nil) .nil)) (n (o47 P) (n (o79 P) (n (o143 P) .nil .nil) .nil) (n (o111 P) (n (o175 P) .nil .nil) .nil))) (n (o23 P) (n (o39 P) (n (o71 P) (n (o135 P) .nil .nil) (n (o199 P) .nil .nil)) (n (o103 P) (n (o167 P) .nil .nil) .nil)) (n (o55 P) (n (o87 P) (n (o151 P) .nil .nil) .nil) (n (o119 P) (n (o183 P) .nil .nil) .nil)))) (n (o11 P) (n (o19 P) (n (o35 P) (n (o67 P) (n (o131 P) .nil .nil) (n (o195 P) .nil .nil)) (n (o99 P) (n (o163 P) .nil .nil) .nil)) (n (o51 P) (n (o83 P) (n (o147 P) .nil .nil) .nil) (n (o115 P) (n (o179 P) .nil .nil) .nil))) (n (o27 P) (n (o43 P) (n (o75 P) (n (o139 P) .nil .nil) .nil) (n (o107 P) (n (o171 P) .nil .nil) .nil)) (n (o59 P) (n (o91 P) (n (o155 P) .nil .nil) .nil) (n (o123 P) (n (o187 P) .nil .nil) .nil))))) (n (boot_o_5 P) (n (boot_o_9 P) (n (o17 P) (n (o33 P) (n (o65 P) (n (o129 P) .nil .nil) (n (o193 P) .nil .nil)) (n (o97 P) (n (o161 P) .nil .nil) .nil)) (n (o49 P) (n (o81 P) (n (o145 P) .nil .nil) .nil) (n (o113 P) (n (o177 P) .nil .nil) .nil))) (n (o25 P) (n (o41 P) (n (o73 P) (n (o137 P) .nil .nil) .nil) (n (o105 P) (n (o169 P) .nil .nil) .nil)) (n (o57 P) (n (o89 P) (n (o153 P) .nil .nil) .nil) (n (o121 P) (n (o185 P) .nil .nil) .nil)))) (n (o13 P) (n (o21 P) (n (o37 P) (n (o69 P) (n (o133 P) .nil .nil) (n (o197 P) .nil .nil)) (n (o101 P) (n (o165 P) .nil .nil) .nil)) (n (o53 P) (n (o85 P) (n (o149 P) .nil .nil) .nil) (n (o117 P) (n (o181 P) .nil .nil) .nil))) (n (o29 P) (n (o45 P) (n (o77 P) (n (o141 P) .nil .nil) .nil) (n (o109 P) (n (o173 P) .nil .nil) .nil)) (n (o61 P) (n (o93 P) (n (o157 P) .nil .nil) .nil) (n (o125 P) (n (o189 P) .nil .nil) .nil)))))) (n (boot_o_2 P) (n (boot_o_4 P) (n (boot_o_8 P) (n (o16 P) (n (o32 P) (n (o64 P) (n (o128 P) .nil .nil) (n (o192 P) .nil .nil)) (n (o96 P) (n (o160 P) .nil .nil) .nil)) (n (o48 P) (n (o80 P) (n (o144 P) .nil .nil) .nil) (n (o112 P) (n (o176 P) .nil .nil) .nil))) (n (o24 P) (n (o40 P) (n (o72 P) (n (o136 P) .nil .nil) .nil) (n (o104 P) (n (o168 P) .nil .nil) .nil)) (n (o56 P) (n (o88 P) (n (o152 P) .nil .nil) .nil) (n (o120 P) (n (o184 P) .nil .nil) .nil)))) (n (o12v4 P) (n (o20 P) (n (o36 P) (n (o68 P) (n (o132 P) .nil .nil) (n (o196 P) .nil .nil)) (n (o100 P) (n (o164 P) .nil .nil) .nil)) (n (o52 P) (n (o84 P) (n (o148 P) .nil .nil) .nil) (n (o116 P) (n (o180 P) .nil .nil) .nil))) (n (o28 P) (n (o44 P) (n (o76 P) (n (o140 P) .nil .nil) .nil) (n (o108 P) (n (o172 P) .nil .nil) .nil)) (n (o60 P) (n (o92 P) (n (o156 P) .nil .nil) .nil) (n (o124 P) (n (o188 P) .nil .nil) .nil))))) (n (boot_o_6 P) (n (boot_o_10 P) (n (o18 P) (n (o34 P) (n (o66 P) (n (o130 P) .nil .nil) (n (o194 P) .nil .nil)) (n (o98 P) (n (o162 P) .nil .nil) .nil)) (n (o50 P) (n (o82 P) (n (o146 P) .nil .nil) .nil) (n (o114 P) (n (o178 P) .nil .nil) .nil))) (n (o26 P) (n (o42 P) (n (o74 P) (n (o138 P) .nil .nil) .nil) (n (o106 P) (n (o170 P) .nil .nil) .nil)) (n (o58 P) (n (o90 P) (n (o154 P) .nil .nil) .nil) (n (o122 P) (n (o186 P) .nil .nil) .nil)))) (n (o14 P) (n (o22 P) (n (o38 P) (n (o70 P) (n (o134 P) .nil .nil) (n (o198 P) .nil .nil)) (n (o102 P) (n (o166 P) .nil .nil) .nil)) (n (o54 P) (n (o86 P) (n (o150 P) .nil .nil) .nil) (n (o118 P) (n (o182 P) .nil .nil) .nil))) (n (o30 P) (n (o46 P) (n (o78 P) (n (o142 P) .nil .nil) .nil) (n (o110 P) (n (o174 P) .nil .nil) .nil)) (n (o62 P) (n (o94 P) (n (o158 P) .nil .nil) .nil) (n (o126 P) (n (o190 P) .nil .nil) .nil)))))))
def k_p9 : Nat := 2396
def n_p9 : Nat := 200
def t_p10 (P : Params) : BT := (n (boot_o_0 P) (n (boot_o_1 P) (n (o3v7 P) (n (boot_o_7 P) (n (o15 P) (n (o31 P) (n (o63 P) (n (o127 P) .nil .nil) (n (o191 P) .nil .nil)) (n (o95 P) (n (o159 P) .nil .nil) .nil)) (n (o47 P) (n (o79 P) (n (o143 P) .nil .nil) (n (o207 P) .nil .nil)) (n (o111 P) (n (o175 P) .nil .nil) .nil))) (n (o23 P) (n (o39 P) (n (o71 P) (n (o135 P) .nil .nil) (n (o199 P) .nil .nil)) (n (o103 P) (n (o167 P) .nil .nil) .nil)) (n (o55 P) (n (o87 P) (n (o151 P) .nil .nil) (n (o215 P) .nil .nil)) (n (o119 P) (n (o183 P) .nil .nil) .nil)))) (n (o11 P) (n (o19 P) (n (o35 P) (n (o67 P) (n (o131 P) .nil .nil) (n (o195 P) .nil .nil)) (n (o99 P) (n (o163 P) .nil .nil) .nil)) (n (o51 P) (n (o83 P) (n (o147 P) .nil .nil) (n (o211 P) .nil .nil)) (n (o115 P) (n (o179 P) .nil .nil) .nil))) (n (o27 P) (n (o43 P) (n (o75 P) (n (o139 P) .nil .nil) (n (o203 P) .nil .nil)) (n (o107 P) (n (o171 P) .nil .nil) .nil)) (n (o59 P) (n (o91 P) (n (o155 P) .nil .nil) (n (o219 P) .nil .nil)) (n (o123 P) (n (o187 P) .nil .nil) .nil))))) (n (boot_o_5 P) (n (boot_o_9 P) (n (o17 P) (n (o33 P) (n (o65 P) (n (o129 P) .nil .nil) (n (o193 P) .nil .nil)) (n (o97 P) (n (o161 P) .nil .nil) .nil)) (n (o49 P) (n (o81 P) (n (o145 P) .nil .nil) (n (o209 P) .nil .nil)) (n (o113 P) (n (o177 P) .nil .nil) .nil))) (n (o25 P) (n (o41 P) (n (o73 P) (n (o137 P) .nil .nil) (n (o201 P) .nil .nil)) (n (o105 P) (n (o169 P) .nil .nil) .nil)) (n (o57 P) (n (o89 P) (n (o153 P) .nil .nil) (n (o217 P) .nil .nil)) (n (o121 P) (n (o185 P) .nil .nil) .nil)))) (n (o13 P) (n (o21 P) (n (o37 P) (n (o69 P) (n (o133 P) .nil .nil) (n (o197 P) .nil .nil)) (n (o101 P) (n (o165 P) .nil .nil) .nil)) (n (o53 P) (n (o85 P) (n (o149 P) .nil .nil) (n (o213 P) .nil .nil)) (n (o117 P) (n (o181 P) .nil .nil) .nil))) (n (o29 P) (n (o45 P) (n (o77 P) (n (o141 P) .nil .nil) (n (o205 P) .nil .nil)) (n (o109 P) (n (o173 P) .nil .nil) .nil)) (n (o61 P) (n (o93 P) (n (o157 P) .nil .nil) (n (o221 P) .nil .nil)) (n (o125 P) (n (o189 P) .nil .nil) .nil)))))) (n (boot_o_2 P) (n (boot_o_4 P) (n (boot_o_8 P) (n (o16 P) (n (o32 P) (n (o64 P) (n (o128 P) .nil .nil) (n (o192 P) .nil .nil)) (n (o96 P) (n (o160 P) .nil .nil) .nil)) (n (o48 P) (n (o80 P) (n (o144 P) .nil .nil) (n (o208 P) .nil .nil)) (n (o112 P) (n (o176 P) .nil .nil) .nil))) (n (o24 P) (n (o40 P) (n (o72 P) (n (o136 P) .nil .nil) (n (o200 P) .nil .nil)) (n (o104 P) (n (o168 P) .nil .nil) .nil)) (n (o56 P) (n (o88 P) (n (o152 P) .nil .nil) (n (o216 P) .nil .nil)) (n (o120 P) (n (o184 P) .nil .nil) .nil)))) (n (o12v5 P) (n (o20 P) (n (o36 P) (n (o68 P) (n (o132 P) .nil .nil) (n (o196v1 P) .nil .nil)) (n (o100 P) (n (o164 P) .nil .nil) .nil)) (n (o52 P) (n (o84 P) (n (o148 P) .nil .nil) (n (o212 P) .nil .nil)) (n (o116 P) (n (o180 P) .nil .nil) .nil))) (n (o28 P) (n (o44 P) (n (o76 P) (n (o140 P) .nil .nil) (n (o204 P) .nil .nil)) (n (o108 P) (n (o172 P) .nil .nil) .nil)) (n (o60 P) (n (o92 P) (n (o156 P) .nil .nil) (n (o220 P) .nil .nil)) (n (o124 P) (n (o188 P) .nil .nil) .nil))))) (n (boot_o_6 P) (n (boot_o_10 P) (n (o18 P) (n (o34 P) (n (o66 P) (n (o130 P) .nil .nil) (n (o194 P) .nil .nil)) (n (o98 P) (n (o162 P) .nil .nil) .nil)) (n (o50 P) (n (o82 P) (n (o146 P) .nil .nil) (n (o210 P) .nil .nil)) (n (o114 P) (n (o178 P) .nil .nil) .nil))) (n (o26 P) (n (o42 P) (n (o74 P) (n (o138 P) .nil .nil) (n (o202 P) .nil .nil)) (n (o106 P) (n (o170 P) .nil .nil) .nil)) (n (o58 P) (n (o90 P) (n (o154 P) .nil .nil) (n (o218 P) .nil .nil)) (n (o122 P) (n (o186 P) .nil .nil) .nil)))) (n (o14 P) (n (o22 P) (n (o38 P) (n (o70 P) (n (o134 P) .nil .nil) (n (o198 P) .nil .nil)) (n (o102 P) (n (o166 P) .nil .nil) .nil)) (n (o54 P) (n (o86 P) (n (o150 P) .nil .nil) (n (o214 P) .nil .nil)) (n (o118 P) (n (o182 P) .nil .nil) .nil))) (n (o30 P) (n (o46 P) (n (o78 P) (n (o142 P) .nil .nil) (n (o206 P) .nil .nil)) (n (o110 P) (n (o174 P) .nil .nil) .nil)) (n (o62 P) (n (o94 P) (n (o158 P) .nil .nil) (n (o222 P) .nil .nil)) (n (o126 P) (n (o190 P) .nil .nil) .nil)))))))
def k_p10 : Nat := 2434
def n_p10 : Nat := 223
def t_p20 (P : Params) : BT := (n (boot_o_0 P) (n (boot_o_1 P) (n (o3v8 P) (n (boot_o_7 P) (n (o15 P) (n (o31 P) (n (o63 P) (n (o127 P) (n (o255 P) .nil .nil) .nil) (n (o191 P) .nil .nil)) (n (o95 P) (n (o159 P) .nil .nil) (n (o223 P) .nil .nil))) (n (o47 P) (n (o79 P) (n (o143 P) (n (o271 P) .nil .nil) .nil) (n (o207 P) .nil .nil)) (n (o111 P) (n (o175 P) .nil .nil) (n (o239 P) .nil .nil)))) (n (o23 P) (n (o39 P) (n (o71 P) (n (o135 P) (n (o263 P) .nil .nil) .nil) (n (o199 P) .nil .nil)) (n (o103 P) (n (o167 P) .nil .nil) (n (o231 P) .nil .nil))) (n (o55 P) (n (o87 P) (n (o151 P) .nil .nil) (n (o215 P) .nil .nil)) (n (o119 P) (n (o183 P) .nil .nil) (n (o247 P) .nil .nil))))) (n (o11 P) (n (o19 P) (n (o35 P) (n (o67 P) (n (o131 P) (n (o259 P) .nil .nil) .nil) (n (o195 P) .nil .nil)) (n (o99 P) (n (o163 P) .nil .nil) (n (o227 P) .nil .nil))) (n (o51 P) (n (o83 P) (n (o147 P) .nil .nil) (n (o211 P) .nil .nil)) (n (o115 P) (n (o179 P) .nil .nil) (n (o243 P) .nil .nil)))) (n (o27 P) (n (o43 P) (n (o75 P) (n (o139 P) (n (o267 P) .nil .nil) .nil) (n (o203 P) .nil .nil)) (n (o107 P) (n (o171 P) .nil .nil) (n (o235 P) .nil .nil))) (n (o59 P) (n (o91 P) (n (o155 P) .nil .nil) (n (o219 P) .nil .nil)) (n (o123 P) (n (o187 P) .nil .nil) (n (o251 P) .nil .nil)))))) (n (boot_o_5 P) (n (boot_o_9 P) (n (o17 P) (n (o33 P) (n (o65 P) (n (o129 P) (n (o257 P) .nil .nil) .nil) (n (o193 P) .nil .nil)) (n (o97 P) (n (o161 P) .nil .nil) (n (o225 P) .nil .nil))) (n (o49 P) (n (o81 P) (n (o145 P) (n (o273 P) .nil .nil) .nil) (n (o209 P) .nil .nil)) (n (o113 P) (n (o177 P) .nil .nil) (n (o241 P) .nil .nil)))) (n (o25 P) (n (o41 P) (n (o73 P) (n (o137 P) (n (o265 P) .nil .nil) .nil) (n (o201 P) .nil .nil)) (n (o105 P) (n (o169 P) .nil .nil) (n (o233 P) .nil .nil))) (n (o57 P) (n (o89 P) (n (o153 P) .nil .nil) (n (o217 P) .nil .nil)) (n (o121 P) (n (o185 P) .nil .nil) (n (o249 P) .nil .nil))))) (n (o13 P) (n (o21 P) (n (o37 P) (n (o69 P) (n (o133 P) (n (o261 P) .nil .nil) .nil) (n (o197 P) .nil .nil)) (n (o101 P) (n (o165 P) .nil .nil) (n (o229 P) .nil .nil))) (n (o53 P) (n (o85 P) (n (o149 P) .nil .nil) (n (o213 P) .nil .nil)) (n (o117 P) (n (o181 P) .nil .nil) (n (o245 P) .nil .nil)))) (n (o29 P) (n (o45 P) (n (o77 P) (n (o141 P) (n (o269 P) .nil .nil) .nil) (n (o205 P) .nil .nil)) (n (o109 P) (n (o173 P) .nil .nil) (n (o237 P) .nil .nil))) (n (o61 P) (n (o93 P) (n (o157 P) .nil .nil) (n (o221 P) .nil .nil)) (n (o125 P) (n (o189 P) .nil .nil) (n (o253 P) .nil .nil))))))) (n (boot_o_2 P) (n (boot_o_4 P) (n (boot_o_8 P) (n (o16 P) (n (o32 P) (n (o64 P) (n (o128 P) (n (o256 P) .nil .nil) .nil) (n (o192 P) .nil .nil)) (n (o96 P) (n (o160 P) .nil .nil) (n (o224 P) .nil .nil))) (n (o48 P) (n (o80 P) (n (o144 P) (n (o272 P) .nil .nil) .nil) (n (o208 P) .nil .nil)) (n (o112 P) (n (o176 P) .nil .nil) (n (o240 P) .nil .nil)))) (n (o24 P) (n (o40 P) (n (o72 P) (n (o136 P) (n (o264 P) .nil .nil) .nil) (n (o200 P) .nil .nil)) (n (o104 P) (n (o168 P) .nil .nil) (n (o232 P) .nil .nil))) (n (o56 P) (n (o88 P) (n (o152 P) .nil .nil) (n (o216 P) .nil .nil)) (n (o120 P) (n (o184 P) .nil .nil) (n (o248 P) .nil .nil))))) (n (o12v6 P) (n (o20 P) (n (o36 P) (n (o68 P) (n (o132 P) (n (o260 P) .nil .nil) .nil) (n (o196v1 P) .nil .nil)) (n (o100 P) (n (o164 P) .nil .nil) (n (o228 P) .nil .nil))) (n (o52 P) (n (o84 P) (n (o148 P) .nil .nil) (n (o212 P) .nil .nil)) (n (o116 P) (n (o180 P) .nil .nil) (n (o244 P) .nil .nil)))) (n (o28 P) (n (o44 P) (n (o76 P) (n (o140 P) (n (o268 P) .nil .nil) .nil) (n (o204 P) .nil .nil)) (n (o108 P) (n (o172 P) .nil .nil) (n (o236 P) .nil .nil))) (n (o60 P) (n (o92 P) (n (o156 P) .nil .nil) (n (o220 P) .nil .nil)) (n (o124 P) (n (o188 P) .nil .nil) (n (o252 P) .nil .nil)))))) (n (boot_o_6 P) (n (boot_o_10 P) (n (o18 P) (n (o34 P) (n (o66 P) (n (o130 P) (n (o258 P) .nil .nil) .nil) (n (o194 P) .nil .nil)) (n (o98 P) (n (o162 P) .nil .nil) (n (o226 P) .nil .nil))) (n (o50 P) (n (o82 P) (n (o146 P) .nil .nil) (n (o210 P) .nil .nil)) (n (o114 P) (n (o178 P) .nil .nil) (n (o242 P) .nil .nil)))) (n (o26 P) (n (o42 P) (n (o74 P) (n (o138 P) (n (o266 P) .nil .nil) .nil) (n (o202 P) .nil .nil)) (n (o106 P) (n (o170 P) .nil .nil) (n (o234 P) .nil .nil))) (n (o58 P) (n (o90 P) (n (o154 P) .nil .nil) (n (o218 P) .nil .nil)) (n (o122 P) (n (o186 P) .nil .nil) (n (o250 P) .nil .nil))))) (n (o14 P) (n (o22 P) (n (o38 P) (n (o70 P) (n (o134 P) (n (o262 P) .nil .nil) .nil) (n (o198 P) .nil .nil)) (n (o102 P) (n (o166 P) .nil .nil) (n (o230 P) .nil .nil))) (n (o54 P) (n (o86 P) (n (o150 P) .nil .nil) (n (o214 P) .nil .nil)) (n (o118 P) (n (o182 P) .nil .nil) (n (o246 P) .nil .nil)))) (n (o30 P) (n (o46 P) (n (o78 P) (n (o142 P) (n (o270 P) .nil .nil) .nil) (n (o206 P) .nil .nil)) (n (o110 P) (n (o174 P) .nil .nil) (n (o238 P) .nil .nil))) (n (o62 P) (n (o94 P) (n (o158 P) .nil .nil) (n (o222 P) .nil .nil)) (n (o126 P) (n (o190 P) .nil .nil) (n (o254 P) .nil .nil))))))))
def k_p20 : Nat := 2503
def n_p20 : Nat := 274
def l_fin (P : Params) : List Obj := [boot_o_0 P, boot_o_1 P, boot_o_2 P, o3v8 P, boot_o_4 P, boot_o_5 P, boot_o_6 P, boot_o_7 P, boot_o_8 P, boot_o_9 P, boot_o_10 P, o11 P, o12v6 P, o13 P, o14 P, o15 P, o16 P, o17 P, o18 P, o19 P, o20 P, o21 P, o22 P, o23 P, o24 P, o25 P, o26 P, o27 P, o28 P, o29 P, o30 P, o31 P, o32 P, o33 P, o34 P, o35 P, o36 P, o37 P, o38 P, o39 P, o40 P, o41 P, o42 P, o43 P, o44 P, o45 P, o46 P, o47 P, o48 P, o49 P, o50 P, o51 P, o52 P, o53 P, o54 P, o55 P, o56 P, o57 P, o58 P, o59 P, o60 P, o61 P, o62 P, o63 P, o64 P, o65 P, o66 P, o67 P, o68 P, o69 P, o70 P, o71 P, o72 P, o73 P, o74 P, o75 P, o76 P, o77 P, o78 P, o79 P, o80 P, o81 P, o82 P, o83 P, o84 P, o85 P, o86 P, o87 P, o88 P, o89 P, o90 P, o91 P, o92 P, o93 P, o94 P, o95 P, o96 P, o97 P, o98 P, o99 P, o100 P, o101 P, o102 P, o103 P, o104 P, o105 P, o106 P, o107 P, o108 P, o109 P, o110 P, o111 P, o112 P, o113 P, o114 P, o115 P, o116 P, o117 P, o118 P, o119 P, o120 P, o121 P, o122 P, o123 P, o124 P, o125 P, o126 P, o127 P, o128 P, o129 P, o130 P, o131 P, o132 P, o133 P, o134 P, o135 P, o136 P, o137 P, o138 P, o139 P, o140 P, o141 P, o142 P, o143 P, o144 P, o145 P, o146 P, o147 P, o148 P, o149 P, o150 P, o151 P, o152 P, o153 P, o154 P, o155 P, o156 P, o157 P, o158 P, o159 P, o160 P, o161 P, o162 P, o163 P, o164 P, o165 P, o166 P, o167 P, o168 P, o169 P, o170 P, o171 P, o172 P, o173 P, o174 P, o175 P, o176 P, o177 P, o178 P, o179 P, o180 P, o181 P, o182 P, o183 P, o184 P, o185 P, o186 P, o187 P, o188 P, o189 P, o190 P, o191 P, o192 P, o193 P, o194 P, o195 P, o196v1 P, o197 P, o198 P, o199 P, o200 P, o201 P, o202 P, o203 P, o204 P, o205 P, o206 P, o207 P, o208 P, o209 P, o210 P, o211 P, o212 P, o213 P, o214 P, o215 P, o216 P, o217 P, o218 P, o219 P, o220 P, o221 P, o222 P, o223 P, o224 P, o225 P, o226 P, o227 P, o228 P, o229 P, o230 P, o231 P, o232 P, o233 P, o234 P, o235 P, o236 P, o237 P, o238 P, o239 P, o240 P, o241 P, o242 P, o243 P, o244 P, o245 P, o246 P, o247 P, o248 P, o249 P, o250 P, o251 P, o252 P, o253 P, o254 P, o255 P, o256 P, o257 P, o258 P, o259 P, o260 P, o261 P, o262 P, o263 P, o264 P, o265 P, o266 P, o267 P, o268 P, o269 P, o270 P, o271 P, o272 P, o273 P]
def k_fin : Nat := 2503
def n_fin : Nat := 274
def t_a0 (m : Nat) (P : Params) : BT := (n (boot_o_0 P) (n (boot_o_1 P) (n (o3v3 P) (n (boot_o_7 P) (n (o15 P) (n (o31 P) .nil .nil) .nil) (n (o23 P) (n (o39 P) .nil .nil) .nil)) (n (o11 P) (n (o19 P) (n (o35 P) .nil .nil) .nil) (n (o27 P) .nil .nil))) (n (boot_o_5 P) (n (boot_o_9 P) (n (o17 P) (n (o33 P) .nil .nil) .nil) (n (o25 P) .nil .nil)) (n (o13 P) (n (o21 P) (n (o37 P) .nil .nil) .nil) (n (o29 P) .nil .nil)))) (n (boot_o_2 P) (n (boot_o_4 P) (n (boot_o_8 P) (n (o16 P) (n (o32 P) .nil .nil) .nil) (n (o24 P) (n (dictN m) .nil .nil) .nil)) (n (o12v2 P) (n (o20 P) (n (o36 P) .nil .nil) .nil) (n (o28 P) .nil .nil))) (n (boot_o_6 P) (n (boot_o_10 P) (n (o18 P) (n (o34 P) .nil .nil) .nil) (n (o26 P) .nil .nil)) (n (o14 P) (n (o22 P) (n (o38 P) .nil .nil) .nil) (n (o30 P) .nil .nil)))))
def t_a1 (m : Nat) (P : Params) : BT := (n (boot_o_0 P) (n (boot_o_1 P) (n (o3v3 P) (n (boot_o_7 P) (n (o15 P) (n (o31 P) .nil .nil) .nil) (n (o23 P) (n (o39 P) .nil .nil) .nil)) (n (o11 P) (n (o19 P) (n (o35 P) .nil .nil) .nil) (n (o27 P) .nil .nil))) (n (boot_o_5 P) (n (boot_o_9 P) (n (o17 P) (n (o33 P) .nil .nil) .nil) (n (o25 P) (n (o41 P) .nil .nil) .nil)) (n (o13 P) (n (o21 P) (n (o37 P) .nil .nil) .nil) (n (o29 P) .nil .nil)))) (n (boot_o_2 P) (n (boot_o_4 P) (n (boot_o_8 P) (n (o16 P) (n (o32 P) .nil .nil) .nil) (n (o24 P) (n (dictN m) .nil .nil) .nil)) (n (o12v2 P) (n (o20 P) (n (o36 P) .nil .nil) .nil) (n (o28 P) .nil .nil))) (n (boot_o_6 P) (n (boot_o_10 P) (n (o18 P) (n (o34 P) .nil .nil) .nil) (n (o26 P) .nil .nil)) (n (o14 P) (n (o22 P) (n (o38 P) .nil .nil) .nil) (n (o30 P) .nil .nil)))))
def t_a2 (m : Nat) (P : Params) : BT := (n (boot_o_0 P) (n (boot_o_1 P) (n (o3v3 P) (n (boot_o_7 P) (n (o15 P) (n (o31 P) .nil .nil) .nil) (n (o23 P) (n (o39 P) .nil .nil) .nil)) (n (o11 P) (n (o19 P) (n (o35 P) .nil .nil) .nil) (n (o27 P) .nil .nil))) (n (boot_o_5 P) (n (boot_o_9 P) (n (o17 P) (n (o33 P) .nil .nil) .nil) (n (o25 P) (n (o41 P) .nil .nil) .nil)) (n (o13 P) (n (o21 P) (n (o37 P) .nil .nil) .nil) (n (o29 P) .nil .nil)))) (n (boot_o_2 P) (n (boot_o_4 P) (n (boot_o_8 P) (n (o16 P) (n (o32 P) .nil .nil) .nil) (n (o24 P) (n (dictN m) .nil .nil) .nil)) (n (o12v2 P) (n (o20 P) (n (o36 P) .nil .nil) .nil) (n (o28 P) .nil .nil))) (n (boot_o_6 P) (n (boot_o_10 P) (n (o18 P) (n (o34 P) .nil .nil) .nil) (n (o26 P) (n (o42 P) .nil .nil) .nil)) (n (o14 P) (n (o22 P) (n (o38 P) .nil .nil) .nil) (n (o30 P) .nil .nil)))))
def t_a3 (m : Nat) (P : Params) : BT := (n (boot_o_0 P) (n (boot_o_1 P) (n (o3v3 P) (n (boot_o_7 P) (n (o15 P) (n (o31 P) .nil .nil) .nil) (n (o23 P) (n (o39 P) .nil .nil) .nil)) (n (o11 P) (n (o19 P) (n (o35 P) .nil .nil) .nil) (n (o27 P) (n (o43 P) .nil .nil) .nil))) (n (boot_o_5 P) (n (boot_o_9 P) (n (o17 P) (n (o33 P) .nil .nil) .nil) (n (o25 P) (n (o41 P) .nil .nil) .nil)) (n (o13 P) (n (o21 P) (n (o37 P) .nil .nil) .nil) (n (o29 P) .nil .nil)))) (n (boot_o_2 P) (n (boot_o_4 P) (n (boot_o_8 P) (n (o16 P) (n (o32 P) .nil .nil) .nil) (n (o24 P) (n (dictN m) .nil .nil) .nil)) (n (o12v2 P) (n (o20 P) (n (o36 P) .nil .nil) .nil) (n (o28 P) .nil .nil))) (n (boot_o_6 P) (n (boot_o_10 P) (n (o18 P) (n (o34 P) .nil .nil) .nil) (n (o26 P) (n (o42 P) .nil .nil) .nil)) (n (o14 P) (n (o22 P) (n (o38 P) .nil .nil) .nil) (n (o30 P) .nil .nil)))))
def t_a4 (m : Nat) (P : Params) : BT := (n (boot_o_0 P) (n (boot_o_1 P) (n (o3v3 P) (n (boot_o_7 P) (n (o15 P) (n (o31 P) .nil .nil) .nil) (n (o23 P) (n (o39 P) .nil .nil) .nil)) (n (o11 P) (n (o19 P) (n (o35 P) .nil .nil) .nil) (n (o27 P) (n (o43 P) .nil .nil) .nil))) (n (boot_o_5 P) (n (boot_o_9 P) (n (o17 P) (n (o33 P) .nil .nil) .nil) (n (o25 P) (n (o41 P) .nil .nil) .nil)) (n (o13 P) (n (o21 P) (n (o37 P) .nil .nil) .nil) (n (o29 P) .nil .nil)))) (n (boot_o_2 P) (n (boot_o_4 P) (n (boot_o_8 P) (n (o16 P) (n (o32 P) .nil .nil) .nil) (n (o24 P) (n (dictN m) .nil .nil) .nil)) (n (o12v2 P) (n (o20 P) (n (o36 P) .nil .nil) .nil) (n (o28 P) (n (o44 P) .nil .nil) .nil))) (n (boot_o_6 P) (n (boot_o_10 P) (n (o18 P) (n (o34 P) .nil .nil) .nil) (n (o26 P) (n (o42 P) .nil .nil) .nil)) (n (o14 P) (n (o22 P) (n (o38 P) .nil .nil) .nil) (n (o30 P) .nil .nil)))))
def t_a5 (m : Nat) (P : Params) : BT := (n (boot_o_0 P) (n (boot_o_1 P) (n (o3v3 P) (n (boot_o_7 P) (n (o15 P) (n (o31 P) .nil .nil) .nil) (n (o23 P) (n (o39 P) .nil .nil) .nil)) (n (o11 P) (n (o19 P) (n (o35 P) .nil .nil) .nil) (n (o27 P) (n (o43 P) .nil .nil) .nil))) (n (boot_o_5 P) (n (boot_o_9 P) (n (o17 P) (n (o33 P) .nil .nil) .nil) (n (o25 P) (n (o41 P) .nil .nil) .nil)) (n (o13 P) (n (o21 P) (n (o37 P) .nil .nil) .nil) (n (o29 P) (n (o45 P) .nil .nil) .nil)))) (n (boot_o_2 P) (n (boot_o_4 P) (n (boot_o_8 P) (n (o16 P) (n (o32 P) .nil .nil) .nil) (n (o24 P) (n (dictN m) .nil .nil) .nil)) (n (o12v2 P) (n (o20 P) (n (o36 P) .nil .nil) .nil) (n (o28 P) (n (o44 P) .nil .nil) .nil))) (n (boot_o_6 P) (n (boot_o_10 P) (n (o18 P) (n (o34 P) .nil .nil) .nil) (n (o26 P) (n (o42 P) .nil .nil) .nil)) (n (o14 P) (n (o22 P) (n (o38 P) .nil .nil) .nil) (n (o30 P) .nil .nil)))))
def t_a6 (m : Nat) (P : Params) : BT := (n (boot_o_0 P) (n (boot_o_1 P) (n (o3v3 P) (n (boot_o_7 P) (n (o15 P) (n (o31 P) .nil .nil) .nil) (n (o23 P) (n (o39 P) .nil .nil) .nil)) (n (o11 P) (n (o19 P) (n (o35 P) .nil .nil) .nil) (n (o27 P) (n (o43 P) .nil .nil) .nil))) (n (boot_o_5 P) (n (boot_o_9 P) (n (o17 P) (n (o33 P) .nil .nil) .nil) (n (o25 P) (n (o41 P) .nil .nil) .nil)) (n (o13 P) (n (o21 P) (n (o37 P) .nil .nil) .nil) (n (o29 P) (n (o45 P) .nil .nil) .nil)))) (n (boot_o_2 P) (n (boot_o_4 P) (n (boot_o_8 P) (n (o16 P) (n (o32 P) .nil .nil) .nil) (n (o24 P) (n (dictN m) .nil .nil) .nil)) (n (o12v2 P) (n (o20 P) (n (o36 P) .nil .nil) .nil) (n (o28 P) (n (o44 P) .nil .nil) .nil))) (n (boot_o_6 P) (n (boot_o_10 P) (n (o18 P) (n (o34 P) .nil .nil) .nil) (n (o26 P) (n (o42 P) .nil .nil) .nil)) (n (o14 P) (n (o22 P) (n (o38 P) .nil .nil) .nil) (n (o30 P) (n (o46 P) .nil .nil) .nil)))))
def t_a7 (m : Nat) (P : Params) : BT := (n (boot_o_0 P) (n (boot_o_1 P) (n (o3v3 P) (n (boot_o_7 P) (n (o15 P) (n (o31 P) .nil .nil) (n (o47 P) .nil .nil)) (n (o23 P) (n (o39 P) .nil .nil) .nil)) (n (o11 P) (n (o19 P) (n (o35 P) .nil .nil) .nil) (n (o27 P) (n (o43 P) .nil .nil) .nil))) (n (boot_o_5 P) (n (boot_o_9 P) (n (o17 P) (n (o33 P) .nil .nil) .nil) (n (o25 P) (n (o41 P) .nil .nil) .nil)) (n (o13 P) (n (o21 P) (n (o37 P) .nil .nil) .nil) (n (o29 P) (n (o45 P) .nil .nil) .nil)))) (n (boot_o_2 P) (n (boot_o_4 P) (n (boot_o_8 P) (n (o16 P) (n (o32 P) .nil .nil) .nil) (n (o24 P) (n (dictN m) .nil .nil) .nil)) (n (o12v2 P) (n (o20 P) (n (o36 P) .nil .nil) .nil) (n (o28 P) (n (o44 P) .nil .nil) .nil))) (n (boot_o_6 P) (n (boot_o_10 P) (n (o18 P) (n (o34 P) .nil .nil) .nil) (n (o26 P) (n (o42 P) .nil .nil) .nil)) (n (o14 P) (n (o22 P) (n (o38 P) .nil .nil) .nil) (n (o30 P) (n (o46 P) .nil .nil) .nil)))))
def t_a8 (m : Nat) (P : Params) : BT := (n (boot_o_0 P) (n (boot_o_1 P) (n (o3v3 P) (n (boot_o_7 P) (n (o15 P) (n (o31 P) .nil .nil) (n (o47 P) .nil .nil)) (n (o23 P) (n (o39 P) .nil .nil) .nil)) (n (o11 P) (n (o19 P) (n (o35 P) .nil .nil) .nil) (n (o27 P) (n (o43 P) .nil .nil) .nil))) (n (boot_o_5 P) (n (boot_o_9 P) (n (o17 P) (n (o33 P) .nil .nil) .nil) (n (o25 P) (n (o41 P) .nil .nil) .nil)) (n (o13 P) (n (o21 P) (n (o37 P) .nil .nil) .nil) (n (o29 P) (n (o45 P) .nil .nil) .nil)))) (n (boot_o_2 P) (n (boot_o_4 P) (n (boot_o_8 P) (n (o16 P) (n (o32 P) .nil .nil) (n (o48 P) .nil .nil)) (n (o24 P) (n (dictN m) .nil .nil) .nil)) (n (o12v2 P) (n (o20 P) (n (o36 P) .nil .nil) .nil) (n (o28 P) (n (o44 P) .nil .nil) .nil))) (n (boot_o_6 P) (n (boot_o_10 P) (n (o18 P) (n (o34 P) .nil .nil) .nil) (n (o26 P) (n (o42 P) .nil .nil) .nil)) (n (o14 P) (n (o22 P) (n (o38 P) .nil .nil) .nil) (n (o30 P) (n (o46 P) .nil .nil) .nil)))))
def t_a9 (m : Nat) (P : Params) : BT := (n (boot_o_0 P) (n (boot_o_1 P) (n (o3v3 P) (n (boot_o_7 P) (n (o15 P) (n (o31 P) .nil .nil) (n (o47 P) .nil .nil)) (n (o23 P) (n (o39 P) .nil .nil) .nil)) (n (o11 P) (n (o19 P) (n (o35 P) .nil .nil) .nil) (n (o27 P) (n (o43 P) .nil .nil) .nil))) (n (boot_o_5 P) (n (boot_o_9 P) (n (o17 P) (n (o33 P) .nil .nil) (n (o49 P) .nil .nil)) (n (o25 P) (n (o41 P) .nil .nil) .nil)) (n (o13 P) (n (o21 P) (n (o37 P) .nil .nil) .nil) (n (o29 P) (n (o45 P) .nil .nil) .nil)))) (n (boot_o_2 P) (n (boot_o_4 P) (n (boot_o_8 P) (n (o16 P) (n (o32 P) .nil .nil) (n (o48 P) .nil .nil)) (n (o24 P) (n (dictN m) .nil .nil) .nil)) (n (o12v2 P) (n (o20 P) (n (o36 P) .nil .nil) .nil) (n (o28 P) (n (o44 P) .nil .nil) .nil))) (n (boot_o_6 P) (n (boot_o_10 P) (n (o18 P) (n (o34 P) .nil .nil) .nil) (n (o26 P) (n (o42 P) .nil .nil) .nil)) (n (o14 P) (n (o22 P) (n (o38 P) .nil .nil) .nil) (n (o30 P) (n (o46 P) .nil .nil) .nil)))))
def t_a10 (m : Nat) (P : Params) : BT := (n (boot_o_0 P) (n (boot_o_1 P) (n (o3v3 P) (n (boot_o_7 P) (n (o15 P) (n (o31 P) .nil .nil) (n (o47 P) .nil .nil)) (n (o23 P) (n (o39 P) .nil .nil) .nil)) (n (o11 P) (n (o19 P) (n (o35 P) .nil .nil) .nil) (n (o27 P) (n (o43 P) .nil .nil) .nil))) (n (boot_o_5 P) (n (boot_o_9 P) (n (o17 P) (n (o33 P) .nil .nil) (n (o49 P) .nil .nil)) (n (o25 P) (n (o41 P) .nil .nil) .nil)) (n (o13 P) (n (o21 P) (n (o37 P) .nil .nil) .nil) (n (o29 P) (n (o45 P) .nil .nil) .nil)))) (n (boot_o_2 P) (n (boot_o_4 P) (n (boot_o_8 P) (n (o16 P) (n (o32 P) .nil .nil) (n (o48 P) .nil .nil)) (n (o24 P) (n (dictN m) .nil .nil) .nil)) (n (o12v2 P) (n (o20 P) (n (o36 P) .nil .nil) .nil) (n (o28 P) (n (o44 P) .nil .nil) .nil))) (n (boot_o_6 P) (n (boot_o_10 P) (n (o18 P) (n (o34 P) .nil .nil) (n (o50 P) .nil .nil)) (n (o26 P) (n (o42 P) .nil .nil) .nil)) (n (o14 P) (n (o22 P) (n (o38 P) .nil .nil) .nil) (n (o30 P) (n (o46 P) .nil .nil) .nil)))))
def t_a11 (m : Nat) (P : Params) : BT := (n (boot_o_0 P) (n (boot_o_1 P) (n (o3v3 P) (n (boot_o_7 P) (n (o15 P) (n (o31 P) .nil .nil) (n (o47 P) .nil .nil)) (n (o23 P) (n (o39 P) .nil .nil) .nil)) (n (o11 P) (n (o19 P) (n (o35 P) .nil .nil) (n (o51 P) .nil .nil)) (n (o27 P) (n (o43 P) .nil .nil) .nil))) (n (boot_o_5 P) (n (boot_o_9 P) (n (o17 P) (n (o33 P) .nil .nil) (n (o49 P) .nil .nil)) (n (o25 P) (n (o41 P) .nil .nil) .nil)) (n (o13 P) (n (o21 P) (n (o37 P) .nil .nil) .nil) (n (o29 P) (n (o45 P) .nil .nil) .nil)))) (n (boot_o_2 P) (n (boot_o_4 P) (n (boot_o_8 P) (n (o16 P) (n (o32 P) .nil .nil) (n (o48 P) .nil .nil)) (n (o24 P) (n (dictN m) .nil .nil) .nil)) (n (o12v2 P) (n (o20 P) (n (o36 P) .nil .nil) .nil) (n (o28 P) (n (o44 P) .nil .nil) .nil))) (n (boot_o_6 P) (n (boot_o_10 P) (n (o18 P) (n (o34 P) .nil .nil) (n (o50 P) .nil .nil)) (n (o26 P) (n (o42 P) .nil .nil) .nil)) (n (o14 P) (n (o22 P) (n (o38 P) .nil .nil) .nil) (n (o30 P) (n (o46 P) .nil .nil) .nil)))))
def t_a12 (m : Nat) (P : Params) : BT := (n (boot_o_0 P) (n (boot_o_1 P) (n (o3v3 P) (n (boot_o_7 P) (n (o15 P) (n (o31 P) .nil .nil) (n (o47 P) .nil .nil)) (n (o23 P) (n (o39 P) .nil .nil) .nil)) (n (o11 P) (n (o19 P) (n (o35 P) .nil .nil) (n (o51 P) .nil .nil)) (n (o27 P) (n (o43 P) .nil .nil) .nil))) (n (boot_o_5 P) (n (boot_o_9 P) (n (o17 P) (n (o33 P) .nil .nil) (n (o49 P) .nil .nil)) (n (o25 P) (n (o41 P) .nil .nil) .nil)) (n (o13 P) (n (o21 P) (n (o37 P) .nil .nil) .nil) (n (o29 P) (n (o45 P) .nil .nil) .nil)))) (n (boot_o_2 P) (n (boot_o_4 P) (n (boot_o_8 P) (n (o16 P) (n (o32 P) .nil .nil) (n (o48 P) .nil .nil)) (n (o24 P) (n (dictN m) .nil .nil) .nil)) (n (o12v2 P) (n (o20 P) (n (o36 P) .nil .nil) (n (o52 P) .nil .nil)) (n (o28 P) (n (o44 P) .nil .nil) .nil))) (n (boot_o_6 P) (n (boot_o_10 P) (n (o18 P) (n (o34 P) .nil .nil) (n (o50 P) .nil .nil)) (n (o26 P) (n (o42 P) .nil .nil) .nil)) (n (o14 P) (n (o22 P) (n (o38 P) .nil .nil) .nil) (n (o30 P) (n (o46 P) .nil .nil) .nil)))))
def t_a13 (m : Nat) (P : Params) : BT := (n (boot_o_0 P) (n (boot_o_1 P) (n (o3v3 P) (n (boot_o_7 P) (n (o15 P) (n (o31 P) .nil .nil) (n (o47 P) .nil .nil)) (n (o23 P) (n (o39 P) .nil .nil) .nil)) (n (o11 P) (n (o19 P) (n (o35 P) .nil .nil) (n (o51 P) .nil .nil)) (n (o27 P) (n (o43 P) .nil .nil) .nil))) (n (boot_o_5 P) (n (boot_o_9 P) (n (o17 P) (n (o33 P) .nil .nil) (n (o49 P) .nil .nil)) (n (o25 P) (n (o41 P) .nil .nil) .nil)) (n (o13 P) (n (o21 P) (n (o37 P) .nil .nil) (n (o53 P) .nil .nil)) (n (o29 P) (n (o45 P) .nil .nil) .nil)))) (n (boot_o_2 P) (n (boot_o_4 P) (n (boot_o_8 P) (n (o16 P) (n (o32 P) .nil .nil) (n (o48 P) .nil .nil)) (n (o24 P) (n (dictN m) .nil .nil) .nil)) (n (o12v2 P) (n (o20 P) (n (o36 P) .nil .nil) (n (o52 P) .nil .nil)) (n (o28 P) (n (o44 P) .nil .nil) .nil))) (n (boot_o_6 P) (n (boot_o_10 P) (n (o18 P) (n (o34 P) .nil .nil) (n (o50 P) .nil .nil)) (n (o26 P) (n (o42 P) .nil .nil) .nil)) (n (o14 P) (n (o22 P) (n (o38 P) .nil .nil) .nil) (n (o30 P) (n (o46 P) .nil .nil) .nil)))))
def t_a14 (m : Nat) (P : Params) : BT := (n (boot_o_0 P) (n (boot_o_1 P) (n (o3v3 P) (n (boot_o_7 P) (n (o15 P) (n (o31 P) .nil .nil) (n (o47 P) .nil .nil)) (n (o23 P) (n (o39 P) .nil .nil) .nil)) (n (o11 P) (n (o19 P) (n (o35 P) .nil .nil) (n (o51 P) .nil .nil)) (n (o27 P) (n (o43 P) .nil .nil) .nil))) (n (boot_o_5 P) (n (boot_o_9 P) (n (o17 P) (n (o33 P) .nil .nil) (n (o49 P) .nil .nil)) (n (o25 P) (n (o41 P) .nil .nil) .nil)) (n (o13 P) (n (o21 P) (n (o37 P) .nil .nil) (n (o53 P) .nil .nil)) (n (o29 P) (n (o45 P) .nil .nil) .nil)))) (n (boot_o_2 P) (n (boot_o_4 P) (n (boot_o_8 P) (n (o16 P) (n (o32 P) .nil .nil) (n (o48 P) .nil .nil)) (n (o24 P) (n (dictN m) .nil .nil) .nil)) (n (o12v2 P) (n (o20 P) (n (o36 P) .nil .nil) (n (o52 P) .nil .nil)) (n (o28 P) (n (o44 P) .nil .nil) .nil))) (n (boot_o_6 P) (n (boot_o_10 P) (n (o18 P) (n (o34 P) .nil .nil) (n (o50 P) .nil .nil)) (n (o26 P) (n (o42 P) .nil .nil) .nil)) (n (o14 P) (n (o22 P) (n (o38 P) .nil .nil) (n (o54 P) .nil .nil)) (n (o30 P) (n (o46 P) .nil .nil) .nil)))))
def t_a15 (m : Nat) (P : Params) : BT := (n (boot_o_0 P) (n (boot_o_1 P) (n (o3v3 P) (n (boot_o_7 P) (n (o15 P) (n (o31 P) .nil .nil) (n (o47 P) .nil .nil)) (n (o23 P) (n (o39 P) .nil .nil) (n (o55 P) .nil .nil))) (n (o11 P) (n (o19 P) (n (o35 P) .nil .nil) (n (o51 P) .nil .nil)) (n (o27 P) (n (o43 P) .nil .nil) .nil))) (n (boot_o_5 P) (n (boot_o_9 P) (n (o17 P) (n (o33 P) .nil .nil) (n (o49 P) .nil .nil)) (n (o25 P) (n (o41 P) .nil .nil) .nil)) (n (o13 P) (n (o21 P) (n (o37 P) .nil .nil) (n (o53 P) .nil .nil)) (n (o29 P) (n (o45 P) .nil .nil) .nil)))) (n (boot_o_2 P) (n (boot_o_4 P) (n (boot_o_8 P) (n (o16 P) (n (o32 P) .nil .nil) (n (o48 P) .nil .nil)) (n (o24 P) (n (dictN m) .nil .nil) .nil)) (n (o12v2 P) (n (o20 P) (n (o36 P) .nil .nil) (n (o52 P) .nil .nil)) (n (o28 P) (n (o44 P) .nil .nil) .nil))) (n (boot_o_6 P) (n (boot_o_10 P) (n (o18 P) (n (o34 P) .nil .nil) (n (o50 P) .nil .nil)) (n (o26 P) (n (o42 P) .nil .nil) .nil)) (n (o14 P) (n (o22 P) (n (o38 P) .nil .nil) (n (o54 P) .nil .nil)) (n (o30 P) (n (o46 P) .nil .nil) .nil)))))
def t_a16 (m : Nat) (P : Params) : BT := (n (boot_o_0 P) (n (boot_o_1 P) (n (o3v3 P) (n (boot_o_7 P) (n (o15 P) (n (o31 P) .nil .nil) (n (o47 P) .nil .nil)) (n (o23 P) (n (o39 P) .nil .nil) (n (o55 P) .nil .nil))) (n (o11 P) (n (o19 P) (n (o35 P) .nil .nil) (n (o51 P) .nil .nil)) (n (o27 P) (n (o43 P) .nil .nil) .nil))) (n (boot_o_5 P) (n (boot_o_9 P) (n (o17 P) (n (o33 P) .nil .nil) (n (o49 P) .nil .nil)) (n (o25 P) (n (o41 P) .nil .nil) .nil)) (n (o13 P) (n (o21 P) (n (o37 P) .nil .nil) (n (o53 P) .nil .nil)) (n (o29 P) (n (o45 P) .nil .nil) .nil)))) (n (boot_o_2 P) (n (boot_o_4 P) (n (boot_o_8 P) (n (o16 P) (n (o32 P) .nil .nil) (n (o48 P) .nil .nil)) (n (o24 P) (n (dictN m) .nil .nil) (n (o56 P) .nil .nil))) (n (o12v2 P) (n (o20 P) (n (o36 P) .nil .nil) (n (o52 P) .nil .nil)) (n (o28 P) (n (o44 P) .nil .nil) .nil))) (n (boot_o_6 P) (n (boot_o_10 P) (n (o18 P) (n (o34 P) .nil .nil) (n (o50 P) .nil .nil)) (n (o26 P) (n (o42 P) .nil .nil) .nil)) (n (o14 P) (n (o22 P) (n (o38 P) .nil .nil) (n (o54 P) .nil .nil)) (n (o30 P) (n (o46 P) .nil .nil) .nil)))))
def t_a17 (m : Nat) (P : Params) : BT := (n (boot_o_0 P) (n (boot_o_1 P) (n (o3v3 P) (n (boot_o_7 P) (n (o15 P) (n (o31 P) .nil .nil) (n (o47 P) .nil .nil)) (n (o23 P) (n (o39 P) .nil .nil) (n (o55 P) .nil .nil))) (n (o11 P) (n (o19 P) (n (o35 P) .nil .nil) (n (o51 P) .nil .nil)) (n (o27 P) (n (o43 P) .nil .nil) .nil))) (n (boot_o_5 P) (n (boot_o_9 P) (n (o17 P) (n (o33 P) .nil .nil) (n (o49 P) .nil .nil)) (n (o25 P) (n (o41 P) .nil .nil) (n (o57 P) .nil .nil))) (n (o13 P) (n (o21 P) (n (o37 P) .nil .nil) (n (o53 P) .nil .nil)) (n (o29 P) (n (o45 P) .nil .nil) .nil)))) (n (boot_o_2 P) (n (boot_o_4 P) (n (boot_o_8 P) (n (o16 P) (n (o32 P) .nil .nil) (n (o48 P) .nil .nil)) (n (o24 P) (n (dictN m) .nil .nil) (n (o56 P) .nil .nil))) (n (o12v2 P) (n (o20 P) (n (o36 P) .nil .nil) (n (o52 P) .nil .nil)) (n (o28 P) (n (o44 P) .nil .nil) .nil))) (n (boot_o_6 P) (n (boot_o_10 P) (n (o18 P) (n (o34 P) .nil .nil) (n (o50 P) .nil .nil)) (n (o26 P) (n (o42 P) .nil .nil) .nil)) (n (o14 P) (n (o22 P) (n (o38 P) .nil .nil) (n (o54 P) .nil .nil)) (n (o30 P) (n (o46 P) .nil .nil) .nil)))))
def t_a18 (m : Nat) (P : Params) : BT := (n (boot_o_0 P) (n (boot_o_1 P) (n (o3v3 P) (n (boot_o_7 P) (n (o15 P) (n (o31 P) .nil .nil) (n (o47 P) .nil .nil)) (n (o23 P) (n (o39 P) .nil .nil) (n (o55 P) .nil .nil))) (n (o11 P) (n (o19 P) (n (o35 P) .nil .nil) (n (o51 P) .nil .nil)) (n (o27 P) (n (o43 P) .nil .nil) .nil))) (n (boot_o_5 P) (n (boot_o_9 P) (n (o17 P) (n (o33 P) .nil .nil) (n (o49 P) .nil .nil)) (n (o25 P) (n (o41 P) .nil .nil) (n (o57 P) .nil .nil))) (n (o13 P) (n (o21 P) (n (o37 P) .nil .nil) (n (o53 P) .nil .nil)) (n (o29 P) (n (o45 P) .nil .nil) .nil)))) (n (boot_o_2 P) (n (boot_o_4 P) (n (boot_o_8 P) (n (o16 P) (n (o32 P) .nil .nil) (n (o48 P) .nil .nil)) (n (o24 P) (n (dictN m) .nil .nil) (n (o56 P) .nil .nil))) (n (o12v2 P) (n (o20 P) (n (o36 P) .nil .nil) (n (o52 P) .nil .nil)) (n (o28 P) (n (o44 P) .nil .nil) .nil))) (n (boot_o_6 P) (n (boot_o_10 P) (n (o18 P) (n (o34 P) .nil .nil) (n (o50 P) .nil .nil)) (n (o26 P) (n (o42 P) .nil .nil) (n (o58 P) .nil .nil))) (n (o14 P) (n (o22 P) (n (o38 P) .nil .nil) (n (o54 P) .nil .nil)) (n (o30 P) (n (o46 P) .nil .nil) .nil)))))
def t_a19 (m : Nat) (P : Params) : BT := (n (boot_o_0 P) (n (boot_o_1 P) (n (o3v3 P) (n (boot_o_7 P) (n (o15 P) (n (o31 P) .nil .nil) (n (o47 P) .nil .nil)) (n (o23 P) (n (o39 P) .nil .nil) (n (o55 P) .nil .nil))) (n (o11 P) (n (o19 P) (n (o35 P) .nil .nil) (n (o51 P) .nil .nil)) (n (o27 P) (n (o43 P) .nil .nil) (n (o59 P) .nil .nil)))) (n (boot_o_5 P) (n (boot_o_9 P) (n (o17 P) (n (o33 P) .nil .nil) (n (o49 P) .nil .nil)) (n (o25 P) (n (o41 P) .nil .nil) (n (o57 P) .nil .nil))) (n (o13 P) (n (o21 P) (n (o37 P) .nil .nil) (n (o53 P) .nil .nil)) (n (o29 P) (n (o45 P) .nil .nil) .nil)))) (n (boot_o_2 P) (n (boot_o_4 P) (n (boot_o_8 P) (n (o16 P) (n (o32 P) .nil .nil) (n (o48 P) .nil .nil)) (n (o24 P) (n (dictN m) .nil .nil) (n (o56 P) .nil .nil))) (n (o12v2 P) (n (o20 P) (n (o36 P) .nil .nil) (n (o52 P) .nil .nil)) (n (o28 P) (n (o44 P) .nil .nil) .nil))) (n (boot_o_6 P) (n (boot_o_10 P) (n (o18 P) (n (o34 P) .nil .nil) (n (o50 P) .nil .nil)) (n (o26 P) (n (o42 P) .nil .nil) (n (o58 P) .nil .nil))) (n (o14 P) (n (o22 P) (n (o38 P) .nil .nil) (n (o54 P) .nil .nil)) (n (o30 P) (n (o46 P) .nil .nil) .nil)))))
def t_a20 (m : Nat) (P : Params) : BT := (n (boot_o_0 P) (n (boot_o_1 P) (n (o3v3 P) (n (boot_o_7 P) (n (o15 P) (n (o31 P) .nil .nil) (n (o47 P) .nil .nil)) (n (o23 P) (n (o39 P) .nil .nil) (n (o55 P) .nil .nil))) (n (o11 P) (n (o19 P) (n (o35 P) .nil .nil) (n (o51 P) .nil .nil)) (n (o27 P) (n (o43 P) .nil .nil) (n (o59 P) .nil .nil)))) (n (boot_o_5 P) (n (boot_o_9 P) (n (o17 P) (n (o33 P) .nil .nil) (n (o49 P) .nil .nil)) (n (o25 P) (n (o41 P) .nil .nil) (n (o57 P) .nil .nil))) (n (o13 P) (n (o21 P) (n (o37 P) .nil .nil) (n (o53 P) .nil .nil)) (n (o29 P) (n (o45 P) .nil .nil) .nil)))) (n (boot_o_2 P) (n (boot_o_4 P) (n (boot_o_8 P) (n (o16 P) (n (o32 P) .nil .nil) (n (o48 P) .nil .nil)) (n (o24 P) (n (dictN m) .nil .nil) (n (o56 P) .nil .nil))) (n (o12v2 P) (n (o20 P) (n (o36 P) .nil .nil) (n (o52 P) .nil .nil)) (n (o28 P) (n (o44 P) .nil .nil) (n (o60 P) .nil .nil)))) (n (boot_o_6 P) (n (boot_o_10 P) (n (o18 P) (n (o34 P) .nil .nil) (n (o50 P) .nil .nil)) (n (o26 P) (n (o42 P) .nil .nil) (n (o58 P) .nil .nil))) (n (o14 P) (n (o22 P) (n (o38 P) .nil .nil) (n (o54 P) .nil .nil)) (n (o30 P) (n (o46 P) .nil .nil) .nil)))))
def t_a21 (m : Nat) (P : Params) : BT := (n (boot_o_0 P) (n (boot_o_1 P) (n (o3v3 P) (n (boot_o_7 P) (n (o15 P) (n (o31 P) .nil .nil) (n (o47 P) .nil .nil)) (n (o23 P) (n (o39 P) .nil .nil) (n (o55 P) .nil .nil))) (n (o11 P) (n (o19 P) (n (o35 P) .nil .nil) (n (o51 P) .nil .nil)) (n (o27 P) (n (o43 P) .nil .nil) (n (o59 P) .nil .nil)))) (n (boot_o_5 P) (n (boot_o_9 P) (n (o17 P) (n (o33 P) .nil .nil) (n (o49 P) .nil .nil)) (n (o25 P) (n (o41 P) .nil .nil) (n (o57 P) .nil .nil))) (n (o13 P) (n (o21 P) (n (o37 P) .nil .nil) (n (o53 P) .nil .nil)) (n (o29 P) (n (o45 P) .nil .nil) (n (o61 P) .nil .nil))))) (n (boot_o_2 P) (n (boot_o_4 P) (n (boot_o_8 P) (n (o16 P) (n (o32 P) .nil .nil) (n (o48 P) .nil .nil)) (n (o24 P) (n (dictN m) .nil .nil) (n (o56 P) .nil .nil))) (n (o12v2 P) (n (o20 P) (n (o36 P) .nil .nil) (n (o52 P) .nil .nil)) (n (o28 P) (n (o44 P) .nil .nil) (n (o60 P) .nil .nil)))) (n (boot_o_6 P) (n (boot_o_10 P) (n (o18 P) (n (o34 P) .nil .nil) (n (o50 P) .nil .nil)) (n (o26 P) (n (o42 P) .nil .nil) (n (o58 P) .nil .nil))) (n (o14 P) (n (o22 P) (n (o38 P) .nil .nil) (n (o54 P) .nil .nil)) (n (o30 P) (n (o46 P) .nil .nil) .nil)))))
def t_a22 (m : Nat) (P : Params) : BT := (n (boot_o_0 P) (n (boot_o_1 P) (n (o3v3 P) (n (boot_o_7 P) (n (o15 P) (n (o31 P) .nil .nil) (n (o47 P) .nil .nil)) (n (o23 P) (n (o39 P) .nil .nil) (n (o55 P) .nil .nil))) (n (o11 P) (n (o19 P) (n (o35 P) .nil .nil) (n (o51 P) .nil .nil)) (n (o27 P) (n (o43 P) .nil .nil) (n (o59 P) .nil .nil)))) (n (boot_o_5 P) (n (boot_o_9 P) (n (o17 P) (n (o33 P) .nil .nil) (n (o49 P) .nil .nil)) (n (o25 P) (n (o41 P) .nil .nil) (n (o57 P) .nil .nil))) (n (o13 P) (n (o21 P) (n (o37 P) .nil .nil) (n (o53 P) .nil .nil)) (n (o29 P) (n (o45 P) .nil .nil) (n (o61 P) .nil .nil))))) (n (boot_o_2 P) (n (boot_o_4 P) (n (boot_o_8 P) (n (o16 P) (n (o32 P) .nil .nil) (n (o48 P) .nil .nil)) (n (o24 P) (n (dictN m) .nil .nil) (n (o56 P) .nil .nil))) (n (o12v2 P) (n (o20 P) (n (o36 P) .nil .nil) (n (o52 P) .nil .nil)) (n (o28 P) (n (o44 P) .nil .nil) (n (o60 P) .nil .nil)))) (n (boot_o_6 P) (n (boot_o_10 P) (n (o18 P) (n (o34 P) .nil .nil) (n (o50 P) .nil .nil)) (n (o26 P) (n (o42 P) .nil .nil) (n (o58 P) .nil .nil))) (n (o14 P) (n (o22 P) (n (o38 P) .nil .nil) (n (o54 P) .nil .nil)) (n (o30 P) (n (o46 P) .nil .nil) (n (o62 P) .nil .nil))))))
def t_a23 (m : Nat) (P : Params) : BT := (n (boot_o_0 P) (n (boot_o_1 P) (n (o3v3 P) (n (boot_o_7 P) (n (o15 P) (n (o31 P) (n (o63 P) .nil .nil) .nil) (n (o47 P) .nil .nil)) (n (o23 P) (n (o39 P) .nil .nil) (n (o55 P) .nil .nil))) (n (o11 P) (n (o19 P) (n (o35 P) .nil .nil) (n (o51 P) .nil .nil)) (n (o27 P) (n (o43 P) .nil .nil) (n (o59 P) .nil .nil)))) (n (boot_o_5 P) (n (boot_o_9 P) (n (o17 P) (n (o33 P) .nil .nil) (n (o49 P) .nil .nil)) (n (o25 P) (n (o41 P) .nil .nil) (n (o57 P) .nil .nil))) (n (o13 P) (n (o21 P) (n (o37 P) .nil .nil) (n (o53 P) .nil .nil)) (n (o29 P) (n (o45 P) .nil .nil) (n (o61 P) .nil .nil))))) (n (boot_o_2 P) (n (boot_o_4 P) (n (boot_o_8 P) (n (o16 P) (n (o32 P) .nil .nil) (n (o48 P) .nil .nil)) (n (o24 P) (n (dictN m) .nil .nil) (n (o56 P) .nil .nil))) (n (o12v2 P) (n (o20 P) (n (o36 P) .nil .nil) (n (o52 P) .nil .nil)) (n (o28 P) (n (o44 P) .nil .nil) (n (o60 P) .nil .nil)))) (n (boot_o_6 P) (n (boot_o_10 P) (n (o18 P) (n (o34 P) .nil .nil) (n (o50 P) .nil .nil)) (n (o26 P) (n (o42 P) .nil .nil) (n (o58 P) .nil .nil))) (n (o14 P) (n (o22 P) (n (o38 P) .nil .nil) (n (o54 P) .nil .nil)) (n (o30 P) (n (o46 P) .nil .nil) (n (o62 P) .nil .nil))))))
def t_a24 (m : Nat) (P : Params) : BT := (n (boot_o_0 P) (n (boot_o_1 P) (n (o3v3 P) (n (boot_o_7 P) (n (o15 P) (n (o31 P) (n (o63 P) .nil .nil) .nil) (n (o47 P) .nil .nil)) (n (o23 P) (n (o39 P) .nil .nil) (n (o55 P) .nil .nil))) (n (o11 P) (n (o19 P) (n (o35 P) .nil .nil) (n (o51 P) .nil .nil)) (n (o27 P) (n (o43 P) .nil .nil) (n (o59 P) .nil .nil)))) (n (boot_o_5 P) (n (boot_o_9 P) (n (o17 P) (n (o33 P) .nil .nil) (n (o49 P) .nil .nil)) (n (o25 P) (n (o41 P) .nil .nil) (n (o57 P) .nil .nil))) (n (o13 P) (n (o21 P) (n (o37 P) .nil .nil) (n (o53 P) .nil .nil)) (n (o29 P) (n (o45 P) .nil .nil) (n (o61 P) .nil .nil))))) (n (boot_o_2 P) (n (boot_o_4 P) (n (boot_o_8 P) (n (o16 P) (n (o32 P) (n (o64 P) .nil .nil) .nil) (n (o48 P) .nil .nil)) (n (o24 P) (n (dictN m) .nil .nil) (n (o56 P) .nil .nil))) (n (o12v2 P) (n (o20 P) (n (o36 P) .nil .nil) (n (o52 P) .nil .nil)) (n (o28 P) (n (o44 P) .nil .nil) (n (o60 P) .nil .nil)))) (n (boot_o_6 P) (n (boot_o_10 P) (n (o18 P) (n (o34 P) .nil .nil) (n (o50 P) .nil .nil)) (n (o26 P) (n (o42 P) .nil .nil) (n (o58 P) .nil .nil))) (n (o14 P) (n (o22 P) (n (o38 P) .nil .nil) (n (o54 P) .nil .nil)) (n (o30 P) (n (o46 P) .nil .nil) (n (o62 P) .nil .nil))))))
def t_a25 (m : Nat) (P : Params) : BT := (n (boot_o_0 P) (n (boot_o_1 P) (n (o3v3 P) (n (boot_o_7 P) (n (o15 P) (n (o31 P) (n (o63 P) .nil .nil) .nil) (n (o47 P) .nil .nil)) (n (o23 P) (n (o39 P) .nil .nil) (n (o55 P) .nil .nil))) (n (o11 P) (n (o19 P) (n (o35 P) .nil .nil) (n (o51 P) .nil .nil)) (n (o27 P) (n (o43 P) .nil .nil) (n (o59 P) .nil .nil)))) (n (boot_o_5 P) (n (boot_o_9 P) (n (o17 P) (n (o33 P) (n (o65 P) .nil .nil) .nil) (n (o49 P) .nil .nil)) (n (o25 P) (n (o41 P) .nil .nil) (n (o57 P) .nil .nil))) (n (o13 P) (n (o21 P) (n (o37 P) .nil .nil) (n (o53 P) .nil .nil)) (n (o29 P) (n (o45 P) .nil .nil) (n (o61 P) .nil .nil))))) (n (boot_o_2 P) (n (boot_o_4 P) (n (boot_o_8 P) (n (o16 P) (n (o32 P) (n (o64 P) .nil .nil) .nil) (n (o48 P) .nil .nil)) (n (o24 P) (n (dictN m) .nil .nil) (n (o56 P) .nil .nil))) (n (o12v2 P) (n (o20 P) (n (o36 P) .nil .nil) (n (o52 P) .nil .nil)) (n (o28 P) (n (o44 P) .nil .nil) (n (o60 P) .nil .nil)))) (n (boot_o_6 P) (n (boot_o_10 P) (n (o18 P) (n (o34 P) .nil .nil) (n (o50 P) .nil .nil)) (n (o26 P) (n (o42 P) .nil .nil) (n (o58 P) .nil .nil))) (n (o14 P) (n (o22 P) (n (o38 P) .nil .nil) (n (o54 P) .nil .nil)) (n (o30 P) (n (o46 P) .nil .nil) (n (o62 P) .nil .nil))))))
def t_a26 (m : Nat) (P : Params) : BT := (n (boot_o_0 P) (n (boot_o_1 P) (n (o3v3 P) (n (boot_o_7 P) (n (o15 P) (n (o31 P) (n (o63 P) .nil .nil) .nil) (n (o47 P) .nil .nil)) (n (o23 P) (n (o39 P) .nil .nil) (n (o55 P) .nil .nil))) (n (o11 P) (n (o19 P) (n (o35 P) .nil .nil) (n (o51 P) .nil .nil)) (n (o27 P) (n (o43 P) .nil .nil) (n (o59 P) .nil .nil)))) (n (boot_o_5 P) (n (boot_o_9 P) (n (o17 P) (n (o33 P) (n (o65 P) .nil .nil) .nil) (n (o49 P) .nil .nil)) (n (o25 P) (n (o41 P) .nil .nil) (n (o57 P) .nil .nil))) (n (o13 P) (n (o21 P) (n (o37 P) .nil .nil) (n (o53 P) .nil .nil)) (n (o29 P) (n (o45 P) .nil .nil) (n (o61 P) .nil .nil))))) (n (boot_o_2 P) (n (boot_o_4 P) (n (boot_o_8 P) (n (o16 P) (n (o32 P) (n (o64 P) .nil .nil) .nil) (n (o48 P) .nil .nil)) (n (o24 P) (n (dictN m) .nil .nil) (n (o56 P) .nil .nil))) (n (o12v2 P) (n (o20 P) (n (o36 P) .nil .nil) (n (o52 P) .nil .nil)) (n (o28 P) (n (o44 P) .nil .nil) (n (o60 P) .nil .nil)))) (n (boot_o_6 P) (n (boot_o_10 P) (n (o18 P) (n (o34 P) (n (o66 P) .nil .nil) .nil) (n (o50 P) .nil .nil)) (n (o26 P) (n (o42 P) .nil .nil) (n (o58 P) .nil .nil))) (n (o14 P) (n (o22 P) (n (o38 P) .nil .nil) (n (o54 P) .nil .nil)) (n (o30 P) (n (o46 P) .nil .nil) (n (o62 P) .nil .nil))))))
def t_a27 (m : Nat) (P : Params) : BT := (n (boot_o_0 P) (n (boot_o_1 P) (n (o3v3 P) (n (boot_o_7 P) (n (o15 P) (n (o31 P) (n (o63 P) .nil .nil) .nil) (n (o47 P) .nil .nil)) (n (o23 P) (n (o39 P) .nil .nil) (n (o55 P) .nil .nil))) (n (o11 P) (n (o19 P) (n (o35 P) (n (o67 P) .nil .nil) .nil) (n (o51 P) .nil .nil)) (n (o27 P) (n (o43 P) .nil .nil) (n (o59 P) .nil .nil)))) (n (boot_o_5 P) (n (boot_o_9 P) (n (o17 P) (n (o33 P) (n (o65 P) .nil .nil) .nil) (n (o49 P) .nil .nil)) (n (o25 P) (n (o41 P) .nil .nil) (n (o57 P) .nil .nil))) (n (o13 P) (n (o21 P) (n (o37 P) .nil .nil) (n (o53 P) .nil .nil)) (n (o29 P) (n (o45 P) .nil .nil) (n (o61 P) .nil .nil))))) (n (boot_o_2 P) (n (boot_o_4 P) (n (boot_o_8 P) (n (o16 P) (n (o32 P) (n (o64 P) .nil .nil) .nil) (n (o48 P) .nil .nil)) (n (o24 P) (n (dictN m) .nil .nil) (n (o56 P) .nil .nil))) (n (o12v2 P) (n (o20 P) (n (o36 P) .nil .nil) (n (o52 P) .nil .nil)) (n (o28 P) (n (o44 P) .nil .nil) (n (o60 P) .nil .nil)))) (n (boot_o_6 P) (n (boot_o_10 P) (n (o18 P) (n (o34 P) (n (o66 P) .nil .nil) .nil) (n (o50 P) .nil .nil)) (n (o26 P) (n (o42 P) .nil .nil) (n (o58 P) .nil .nil))) (n (o14 P) (n (o22 P) (n (o38 P) .nil .nil) (n (o54 P) .nil .nil)) (n (o30 P) (n (o46 P) .nil .nil) (n (o62 P) .nil .nil))))))
def t_a28 (m : Nat) (P : Params) : BT := (n (boot_o_0 P) (n (boot_o_1 P) (n (o3v3 P) (n (boot_o_7 P) (n (o15 P) (n (o31 P) (n (o63 P) .nil .nil) .nil) (n (o47 P) .nil .nil)) (n (o23 P) (n (o39 P) .nil .nil) (n (o55 P) .nil .nil))) (n (o11 P) (n (o19 P) (n (o35 P) (n (o67 P) .nil .nil) .nil) (n (o51 P) .nil .nil)) (n (o27 P) (n (o43 P) .nil .nil) (n (o59 P) .nil .nil)))) (n (boot_o_5 P) (n (boot_o_9 P) (n (o17 P) (n (o33 P) (n (o65 P) .nil .nil) .nil) (n (o49 P) .nil .nil)) (n (o25 P) (n (o41 P) .nil .nil) (n (o57 P) .nil .nil))) (n (o13 P) (n (o21 P) (n (o37 P) .nil .nil) (n (o53 P) .nil .nil)) (n (o29 P) (n (o45 P) .nil .nil) (n (o61 P) .nil .nil))))) (n (boot_o_2 P) (n (boot_o_4 P) (n (boot_o_8 P) (n (o16 P) (n (o32 P) (n (o64 P) .nil .nil) .nil) (n (o48 P) .nil .nil)) (n (o24 P) (n (dictN m) .nil .nil) (n (o56 P) .nil .nil))) (n (o12v2 P) (n (o20 P) (n (o36 P) (n (o68 P) .nil .nil) .nil) (n (o52 P) .nil .nil)) (n (o28 P) (n (o44 P) .nil .nil) (n (o60 P) .nil .nil)))) (n (boot_o_6 P) (n (boot_o_10 P) (n (o18 P) (n (o34 P) (n (o66 P) .nil .nil) .nil) (n (o50 P) .nil .nil)) (n (o26 P) (n (o42 P) .nil .nil) (n (o58 P) .nil .nil))) (n (o14 P) (n (o22 P) (n (o38 P) .nil .nil) (n (o54 P) .nil .nil)) (n (o30 P) (n (o46 P) .nil .nil) (n (o62 P) .nil .nil))))))
def t_a29 (m : Nat) (P : Params) : BT := (n (boot_o_0 P) (n (boot_o_1 P) (n (o3v3 P) (n (boot_o_7 P) (n (o15 P) (n (o31 P) (n (o63 P) .nil .nil) .nil) (n (o47 P) .nil .nil)) (n (o23 P) (n (o39 P) .nil .nil) (n (o55 P) .nil .nil))) (n (o11 P) (n (o19 P) (n (o35 P) (n (o67 P) .nil .nil) .nil) (n (o51 P) .nil .nil)) (n (o27 P) (n (o43 P) .nil .nil) (n (o59 P) .nil .nil)))) (n (boot_o_5 P) (n (boot_o_9 P) (n (o17 P) (n (o33 P) (n (o65 P) .nil .nil) .nil) (n (o49 P) .nil .nil)) (n (o25 P) (n (o41 P) .nil .nil) (n (o57 P) .nil .nil))) (n (o13 P) (n (o21 P) (n (o37 P) (n (o69 P) .nil .nil) .nil) (n (o53 P) .nil .nil)) (n (o29 P) (n (o45 P) .nil .nil) (n (o61 P) .nil .nil))))) (n (boot_o_2 P) (n (boot_o_4 P) (n (boot_o_8 P) (n (o16 P) (n (o32 P) (n (o64 P) .nil .nil) .nil) (n (o48 P) .nil .nil)) (n (o24 P) (n (dictN m) .nil .nil) (n (o56 P) .nil .nil))) (n (o12v2 P) (n (o20 P) (n (o36 P) (n (o68 P) .nil .nil) .nil) (n (o52 P) .nil .nil)) (n (o28 P) (n (o44 P) .nil .nil) (n (o60 P) .nil .nil)))) (n (boot_o_6 P) (n (boot_o_10 P) (n (o18 P) (n (o34 P) (n (o66 P) .nil .nil) .nil) (n (o50 P) .nil .nil)) (n (o26 P) (n (o42 P) .nil .nil) (n (o58 P) .nil .nil))) (n (o14 P) (n (o22 P) (n (o38 P) .nil .nil) (n (o54 P) .nil .nil)) (n (o30 P) (n (o46 P) .nil .nil) (n (o62 P) .nil .nil))))))
def t_a30 (m : Nat) (P : Params) : BT := (n (boot_o_0 P) (n (boot_o_1 P) (n (o3v3 P) (n (boot_o_7 P) (n (o15 P) (n (o31 P) (n (o63 P) .nil .nil) .nil) (n (o47 P) .nil .nil)) (n (o23 P) (n (o39 P) .nil .nil) (n (o55 P) .nil .nil))) (n (o11 P) (n (o19 P) (n (o35 P) (n (o67 P) .nil .nil) .nil) (n (o51 P) .nil .nil)) (n (o27 P) (n (o43 P) .nil .nil) (n (o59 P) .nil .nil)))) (n (boot_o_5 P) (n (boot_o_9 P) (n (o17 P) (n (o33 P) (n (o65 P) .nil .nil) .nil) (n (o49 P) .nil .nil)) (n (o25 P) (n (o41 P) .nil .nil) (n (o57 P) .nil .nil))) (n (o13 P) (n (o21 P) (n (o37 P) (n (o69 P) .nil .nil) .nil) (n (o53 P) .nil .nil)) (n (o29 P) (n (o45 P) .nil .nil) (n (o61 P) .nil .nil))))) (n (boot_o_2 P) (n (boot_o_4 P) (n (boot_o_8 P) (n (o16 P) (n (o32 P) (n (o64 P) .nil .nil) .nil) (n (o48 P) .nil .nil)) (n (o24 P) (n (dictN m) .nil .nil) (n (o56 P) .nil .nil))) (n (o12v2 P) (n (o20 P) (n (o36 P) (n (o68 P) .nil .nil) .nil) (n (o52 P) .nil .nil)) (n (o28 P) (n (o44 P) .nil .nil) (n (o60 P) .nil .nil)))) (n (boot_o_6 P) (n (boot_o_10 P) (n (o18 P) (n (o34 P) (n (o66 P) .nil .nil) .nil) (n (o50 P) .nil .nil)) (n (o26 P) (n (o42 P) .nil .nil) (n (o58 P) .nil .nil))) (n (o14 P) (n (o22 P) (n (o38 P) (n (o70 P) .nil .nil) .nil) (n (o54 P) .nil .nil)) (n (o30 P) (n (o46 P) .nil .nil) (n (o62 P) .nil .nil))))))
def t_a31 (m : Nat) (P : Params) : BT := (n (boot_o_0 P) (n (boot_o_1 P) (n (o3v3 P) (n (boot_o_7 P) (n (o15 P) (n (o31 P) (n (o63 P) .nil .nil) .nil) (n (o47 P) .nil .nil)) (n (o23 P) (n (o39 P) (n (o71 P) .nil .nil) .nil) (n (o55 P) .nil .nil))) (n (o11 P) (n (o19 P) (n (o35 P) (n (o67 P) .nil .nil) .nil) (n (o51 P) .nil .nil)) (n (o27 P) (n (o43 P) .nil .nil) (n (o59 P) .nil .nil)))) (n (boot_o_5 P) (n (boot_o_9 P) (n (o17 P) (n (o33 P) (n (o65 P) .nil .nil) .nil) (n (o49 P) .nil .nil)) (n (o25 P) (n (o41 P) .nil .nil) (n (o57 P) .nil .nil))) (n (o13 P) (n (o21 P) (n (o37 P) (n (o69 P) .nil .nil) .nil) (n (o53 P) .nil .nil)) (n (o29 P) (n (o45 P) .nil .nil) (n (o61 P) .nil .nil))))) (n (boot_o_2 P) (n (boot_o_4 P) (n (boot_o_8 P) (n (o16 P) (n (o32 P) (n (o64 P) .nil .nil) .nil) (n (o48 P) .nil .nil)) (n (o24 P) (n (dictN m) .nil .nil) (n (o56 P) .nil .nil))) (n (o12v2 P) (n (o20 P) (n (o36 P) (n (o68 P) .nil .nil) .nil) (n (o52 P) .nil .nil)) (n (o28 P) (n (o44 P) .nil .nil) (n (o60 P) .nil .nil)))) (n (boot_o_6 P) (n (boot_o_10 P) (n (o18 P) (n (o34 P) (n (o66 P) .nil .nil) .nil) (n (o50 P) .nil .nil)) (n (o26 P) (n (o42 P) .nil .nil) (n (o58 P) .nil .nil))) (n (o14 P) (n (o22 P) (n (o38 P) (n (o70 P) .nil .nil) .nil) (n (o54 P) .nil .nil)) (n (o30 P) (n (o46 P) .nil .nil) (n (o62 P) .nil .nil))))))
def t_a32 (m : Nat) (P : Params) : BT := (n (boot_o_0 P) (n (boot_o_1 P) (n (o3v3 P) (n (boot_o_7 P) (n (o15 P) (n (o31 P) (n (o63 P) .nil .nil) .nil) (n (o47 P) .nil .nil)) (n (o23 P) (n (o39 P) (n (o71 P) .nil .nil) .nil) (n (o55 P) .nil .nil))) (n (o11 P) (n (o19 P) (n (o35 P) (n (o67 P) .nil .nil) .nil) (n (o51 P) .nil .nil)) (n (o27 P) (n (o43 P) .nil .nil) (n (o59 P) .nil .nil)))) (n (boot_o_5 P) (n (boot_o_9 P) (n (o17 P) (n (o33 P) (n (o65 P) .nil .nil) .nil) (n (o49 P) .nil .nil)) (n (o25 P) (n (o41 P) .nil .nil) (n (o57 P) .nil .nil))) (n (o13 P) (n (o21 P) (n (o37 P) (n (o69 P) .nil .nil) .nil) (n (o53 P) .nil .nil)) (n (o29 P) (n (o45 P) .nil .nil) (n (o61 P) .nil .nil))))) (n (boot_o_2 P) (n (boot_o_4 P) (n (boot_o_8 P) (n (o16 P) (n (o32 P) (n (o64 P) .nil .nil) .nil) (n (o48 P) .nil .nil)) (n (o24 P) (n (dictN m) (n (o72 P) .nil .nil) .nil) (n (o56 P) .nil .nil))) (n (o12v2 P) (n (o20 P) (n (o36 P) (n (o68 P) .nil .nil) .nil) (n (o52 P) .nil .nil)) (n (o28 P) (n (o44 P) .nil .nil) (n (o60 P) .nil .nil)))) (n (boot_o_6 P) (n (boot_o_10 P) (n (o18 P) (n (o34 P) (n (o66 P) .nil .nil) .nil) (n (o50 P) .nil .nil)) (n (o26 P) (n (o42 P) .nil .nil) (n (o58 P) .nil .nil))) (n (o14 P) (n (o22 P) (n (o38 P) (n (o70 P) .nil .nil) .nil) (n (o54 P) .nil .nil)) (n (o30 P) (n (o46 P) .nil .nil) (n (o62 P) .nil .nil))))))
def t_a33 (m : Nat) (P : Params) : BT := (n (boot_o_0 P) (n (boot_o_1 P) (n (o3v3 P) (n (boot_o_7 P) (n (o15 P) (n (o31 P) (n (o63 P) .nil .nil) .nil) (n (o47 P) .nil .nil)) (n (o23 P) (n (o39 P) (n (o71 P) .nil .nil) .nil) (n (o55 P) .nil .nil))) (n (o11 P) (n (o19 P) (n (o35 P) (n (o67 P) .nil .nil) .nil) (n (o51 P) .nil .nil)) (n (o27 P) (n (o43 P) .nil .nil) (n (o59 P) .nil .nil)))) (n (boot_o_5 P) (n (boot_o_9 P) (n (o17 P) (n (o33 P) (n (o65 P) .nil .nil) .nil) (n (o49 P) .nil .nil)) (n (o25 P) (n (o41 P) (n (o73 P) .nil .nil) .nil) (n (o57 P) .nil .nil))) (n (o13 P) (n (o21 P) (n (o37 P) (n (o69 P) .nil .nil) .nil) (n (o53 P) .nil .nil)) (n (o29 P) (n (o45 P) .nil .nil) (n (o61 P) .nil .nil))))) (n (boot_o_2 P) (n (boot_o_4 P) (n (boot_o_8 P) (n (o16 P) (n (o32 P) (n (o64 P) .nil .nil) .nil) (n (o48 P) .nil .nil)) (n (o24 P) (n (dictN m) (n (o72 P) .nil .nil) .nil) (n (o56 P) .nil .nil))) (n (o12v2 P) (n (o20 P) (n (o36 P) (n (o68 P) .nil .nil) .nil) (n (o52 P) .nil .nil)) (n (o28 P) (n (o44 P) .nil .nil) (n (o60 P) .nil .nil)))) (n (boot_o_6 P) (n (boot_o_10 P) (n (o18 P) (n (o34 P) (n (o66 P) .nil .nil) .nil) (n (o50 P) .nil .nil)) (n (o26 P) (n (o42 P) .nil .nil) (n (o58 P) .nil .nil))) (n (o14 P) (n (o22 P) (n (o38 P) (n (o70 P) .nil .nil) .nil) (n (o54 P) .nil .nil)) (n (o30 P) (n (o46 P) .nil .nil) (n (o62 P) .nil .nil))))))
def t_a34 (m : Nat) (P : Params) : BT := (n (boot_o_0 P) (n (boot_o_1 P) (n (o3v3 P) (n (boot_o_7 P) (n (o15 P) (n (o31 P) (n (o63 P) .nil .nil) .nil) (n (o47 P) .nil .nil)) (n (o23 P) (n (o39 P) (n (o71 P) .nil .nil) .nil) (n (o55 P) .nil .nil))) (n (o11 P) (n (o19 P) (n (o35 P) (n (o67 P) .nil .nil) .nil) (n (o51 P) .nil .nil)) (n (o27 P) (n (o43 P) .nil .nil) (n (o59 P) .nil .nil)))) (n (boot_o_5 P) (n (boot_o_9 P) (n (o17 P) (n (o33 P) (n (o65 P) .nil .nil) .nil) (n (o49 P) .nil .nil)) (n (o25 P) (n (o41 P) (n (o73 P) .nil .nil) .nil) (n (o57 P) .nil .nil))) (n (o13 P) (n (o21 P) (n (o37 P) (n (o69 P) .nil .nil) .nil) (n (o53 P) .nil .nil)) (n (o29 P) (n (o45 P) .nil .nil) (n (o61 P) .nil .nil))))) (n (boot_o_2 P) (n (boot_o_4 P) (n (boot_o_8 P) (n (o16 P) (n (o32 P) (n (o64 P) .nil .nil) .nil) (n (o48 P) .nil .nil)) (n (o24 P) (n (dictN m) (n (o72 P) .nil .nil) .nil) (n (o56 P) .nil .nil))) (n (o12v2 P) (n (o20 P) (n (o36 P) (n (o68 P) .nil .nil) .nil) (n (o52 P) .nil .nil)) (n (o28 P) (n (o44 P) .nil .nil) (n (o60 P) .nil .nil)))) (n (boot_o_6 P) (n (boot_o_10 P) (n (o18 P) (n (o34 P) (n (o66 P) .nil .nil) .nil) (n (o50 P) .nil .nil)) (n (o26 P) (n (o42 P) (n (o74 P) .nil .nil) .nil) (n (o58 P) .nil .nil))) (n (o14 P) (n (o22 P) (n (o38 P) (n (o70 P) .nil .nil) .nil) (n (o54 P) .nil .nil)) (n (o30 P) (n (o46 P) .nil .nil) (n (o62 P) .nil .nil))))))
def t_a35 (m : Nat) (P : Params) : BT := (n (boot_o_0 P) (n (boot_o_1 P) (n (o3v3 P) (n (boot_o_7 P) (n (o15 P) (n (o31 P) (n (o63 P) .nil .nil) .nil) (n (o47 P) .nil .nil)) (n (o23 P) (n (o39 P) (n (o71 P) .nil .nil) .nil) (n (o55 P) .nil .nil))) (n (o11 P) (n (o19 P) (n (o35 P) (n (o67 P) .nil .nil) .nil) (n (o51 P) .nil .nil)) (n (o27 P) (n (o43 P) (n (o75 P) .nil .nil) .nil) (n (o59 P) .nil .nil)))) (n (boot_o_5 P) (n (boot_o_9 P) (n (o17 P) (n (o33 P) (n (o65 P) .nil .nil) .nil) (n (o49 P) .nil .nil)) (n (o25 P) (n (o41 P) (n (o73 P) .nil .nil) .nil) (n (o57 P) .nil .nil))) (n (o13 P) (n (o21 P) (n (o37 P) (n (o69 P) .nil .nil) .nil) (n (o53 P) .nil .nil)) (n (o29 P) (n (o45 P) .nil .nil) (n (o61 P) .nil .nil))))) (n (boot_o_2 P) (n (boot_o_4 P) (n (boot_o_8 P) (n (o16 P) (n (o32 P) (n (o64 P) .nil .nil) .nil) (n (o48 P) .nil .nil)) (n (o24 P) (n (dictN m) (n (o72 P) .nil .nil) .nil) (n (o56 P) .nil .nil))) (n (o12v2 P) (n (o20 P) (n (o36 P) (n (o68 P) .nil .nil) .nil) (n (o52 P) .nil .nil)) (n (o28 P) (n (o44 P) .nil .nil) (n (o60 P) .nil .nil)))) (n (boot_o_6 P) (n (boot_o_10 P) (n (o18 P) (n (o34 P) (n (o66 P) .nil .nil) .nil) (n (o50 P) .nil .nil)) (n (o26 P) (n (o42 P) (n (o74 P) .nil .nil) .nil) (n (o58 P) .nil .nil))) (n (o14 P) (n (o22 P) (n (o38 P) (n (o70 P) .nil .nil) .nil) (n (o54 P) .nil .nil)) (n (o30 P) (n (o46 P) .nil .nil) (n (o62 P) .nil .nil))))))
def t_a36 (m : Nat) (P : Params) : BT := (n (boot_o_0 P) (n (boot_o_1 P) (n (o3v3 P) (n (boot_o_7 P) (n (o15 P) (n (o31 P) (n (o63 P) .nil .nil) .nil) (n (o47 P) .nil .nil)) (n (o23 P) (n (o39 P) (n (o71 P) .nil .nil) .nil) (n (o55 P) .nil .nil))) (n (o11 P) (n (o19 P) (n (o35 P) (n (o67 P) .nil .nil) .nil) (n (o51 P) .nil .nil)) (n (o27 P) (n (o43 P) (n (o75 P) .nil .nil) .nil) (n (o59 P) .nil .nil)))) (n (boot_o_5 P) (n (boot_o_9 P) (n (o17 P) (n (o33 P) (n (o65 P) .nil .nil) .nil) (n (o49 P) .nil .nil)) (n (o25 P) (n (o41 P) (n (o73 P) .nil .nil) .nil) (n (o57 P) .nil .nil))) (n (o13 P) (n (o21 P) (n (o37 P) (n (o69 P) .nil .nil) .nil) (n (o53 P) .nil .nil)) (n (o29 P) (n (o45 P) .nil .nil) (n (o61 P) .nil .nil))))) (n (boot_o_2 P) (n (boot_o_4 P) (n (boot_o_8 P) (n (o16 P) (n (o32 P) (n (o64 P) .nil .nil) .nil) (n (o48 P) .nil .nil)) (n (o24 P) (n (dictN m) (n (o72 P) .nil .nil) .nil) (n (o56 P) .nil .nil))) (n (o12v2 P) (n (o20 P) (n (o36 P) (n (o68 P) .nil .nil) .nil) (n (o52 P) .nil .nil)) (n (o28 P) (n (o44 P) (n (o76 P) .nil .nil) .nil) (n (o60 P) .nil .nil)))) (n (boot_o_6 P) (n (boot_o_10 P) (n (o18 P) (n (o34 P) (n (o66 P) .nil .nil) .nil) (n (o50 P) .nil .nil)) (n (o26 P) (n (o42 P) (n (o74 P) .nil .nil) .nil) (n (o58 P) .nil .nil))) (n (o14 P) (n (o22 P) (n (o38 P) (n (o70 P) .nil .nil) .nil) (n (o54 P) .nil .nil)) (n (o30 P) (n (o46 P) .nil .nil) (n (o62 P) .nil .nil))))))
def t_a37 (m : Nat) (P : Params) : BT := (n (boot_o_0 P) (n (boot_o_1 P) (n (o3v3 P) (n (boot_o_7 P) (n (o15 P) (n (o31 P) (n (o63 P) .nil .nil) .nil) (n (o47 P) .nil .nil)) (n (o23 P) (n (o39 P) (n (o71 P) .nil .nil) .nil) (n (o55 P) .nil .nil))) (n (o11 P) (n (o19 P) (n (o35 P) (n (o67 P) .nil .nil) .nil) (n (o51 P) .nil .nil)) (n (o27 P) (n (o43 P) (n (o75 P) .nil .nil) .nil) (n (o59 P) .nil .nil)))) (n (boot_o_5 P) (n (boot_o_9 P) (n (o17 P) (n (o33 P) (n (o65 P) .nil .nil) .nil) (n (o49 P) .nil .nil)) (n (o25 P) (n (o41 P) (n (o73 P) .nil .nil) .nil) (n (o57 P) .nil .nil))) (n (o13 P) (n (o21 P) (n (o37 P) (n (o69 P) .nil .nil) .nil) (n (o53 P) .nil .nil)) (n (o29 P) (n (o45 P) (n (o77 P) .nil .nil) .nil) (n (o61 P) .nil .nil))))) (n (boot_o_2 P) (n (boot_o_4 P) (n (boot_o_8 P) (n (o16 P) (n (o32 P) (n (o64 P) .nil .nil) .nil) (n (o48 P) .nil .nil)) (n (o24 P) (n (dictN m) (n (o72 P) .nil .nil) .nil) (n (o56 P) .nil .nil))) (n (o12v2 P) (n (o20 P) (n (o36 P) (n (o68 P) .nil .nil) .nil) (n (o52 P) .nil .nil)) (n (o28 P) (n (o44 P) (n (o76 P) .nil .nil) .nil) (n (o60 P) .nil .nil)))) (n (boot_o_6 P) (n (boot_o_10 P) (n (o18 P) (n (o34 P) (n (o66 P) .nil .nil) .nil) (n (o50 P) .nil .nil)) (n (o26 P) (n (o42 P) (n (o74 P) .nil .nil) .nil) (n (o58 P) .nil .nil))) (n (o14 P) (n (o22 P) (n (o38 P) (n (o70 P) .nil .nil) .nil) (n (o54 P) .nil .nil)) (n (o30 P) (n (o46 P) .nil .nil) (n (o62 P) .nil .nil))))))
def t_a38 (m : Nat) (P : Params) : BT := (n (boot_o_0 P) (n (boot_o_1 P) (n (o3v3 P) (n (boot_o_7 P) (n (o15 P) (n (o31 P) (n (o63 P) .nil .nil) .nil) (n (o47 P) .nil .nil)) (n (o23 P) (n (o39 P) (n (o71 P) .nil .nil) .nil) (n (o55 P) .nil .nil))) (n (o11 P) (n (o19 P) (n (o35 P) (n (o67 P) .nil .nil) .nil) (n (o51 P) .nil .nil)) (n (o27 P) (n (o43 P) (n (o75 P) .nil .nil) .nil) (n (o59 P) .nil .nil)))) (n (boot_o_5 P) (n (boot_o_9 P) (n (o17 P) (n (o33 P) (n (o65 P) .nil .nil) .nil) (n (o49 P) .nil .nil)) (n (o25 P) (n (o41 P) (n (o73 P) .nil .nil) .nil) (n (o57 P) .nil .nil))) (n (o13 P) (n (o21 P) (n (o37 P) (n (o69 P) .nil .nil) .nil) (n (o53 P) .nil .nil)) (n (o29 P) (n (o45 P) (n (o77 P) .nil .nil) .nil) (n (o61 P) .nil .nil))))) (n (boot_o_2 P) (n (boot_o_4 P) (n (boot_o_8 P) (n (o16 P) (n (o32 P) (n (o64 P) .nil .nil) .nil) (n (o48 P) .nil .nil)) (n (o24 P) (n (dictN m) (n (o72 P) .nil .nil) .nil) (n (o56 P) .nil .nil))) (n (o12v2 P) (n (o20 P) (n (o36 P) (n (o68 P) .nil .nil) .nil) (n (o52 P) .nil .nil)) (n (o28 P) (n (o44 P) (n (o76 P) .nil .nil) .nil) (n (o60 P) .nil .nil)))) (n (boot_o_6 P) (n (boot_o_10 P) (n (o18 P) (n (o34 P) (n (o66 P) .nil .nil) .nil) (n (o50 P) .nil .nil)) (n (o26 P) (n (o42 P) (n (o74 P) .nil .nil) .nil) (n (o58 P) .nil .nil))) (n (o14 P) (n (o22 P) (n (o38 P) (n (o70 P) .nil .nil) .nil) (n (o54 P) .nil .nil)) (n (o30 P) (n (o46 P) (n (o78 P) .nil .nil) .nil) (n (o62 P) .nil .nil))))))
end Mine
end

end
section
open PySem PySem.W PySem.Calls PyProof.Rows
set_option Elab.async false
set_option maxRecDepth 100000
namespace Mine
noncomputable def benv : Env := { scope := pw.main.scope, locals := mainNs, globals := mainNs, cells := [], code := .ref 13, frame := some 14 }
noncomputable def bE : List Stmt := behindTheImports pw
noncomputable def cE : Code := .body bE benv
def z0 : Pos := ⟨0, 0, 0, 0⟩
def ann : Option Value := some (.ref 6)
noncomputable def BF : List Frame := [topFrame z0]
abbrev g0 : Array GenState := Array.mk []
noncomputable abbrev at0 (os : OsState) (P : Params) : Shared := ⟨boot_heap P, g0, boot_drawn, boot_toks, os⟩
noncomputable def heapOf (l : List Obj) : Heap := ⟨Array.mk l, {}⟩
noncomputable abbrev atPre (os : OsState) (P : Params) : Shared := ⟨heapOf (l_pre P), g0, boot_drawn, k_pre, os⟩
noncomputable abbrev stT (t : BT) (n k : Nat) (os : OsState) : SharedT := ⟨t, n, {}, g0, boot_drawn, k, os⟩
noncomputable def stmts (a b : Nat) : List Stmt := (pw.main.body.take b).drop a
theorem of_tw {w : World} {N : Nat} {S : SharedT} {l : List Stmt} {p : Pos} {r : Option (Flow × SharedT × Code × Pos)}
    (q : Fast.tw10110043849684766642 Fast.tw14364793385576792824 pw w 11 ann 1 N S ⟨(Fast.tw12563942051412417395 l benv).wrap doneF deadEnd id id, cE, p, BF⟩ = r) :
    segRunT treeTable pw w 11 ann 1 N S (piecesOf l benv cE p BF) = r := by
  rw [← Fast.te10110043849684766642, ← Fast.te14364793385576792824, ← Fast.te12563942051412417395] at q
  exact q
set_option maxHeartbeats 0
theorem pre_go (w : World) (os : OsState) : topGo treeTable pw w 11 ann 12 (at0 os w.params) (topStub pw) = some (atPre os w.params, ⟨denote treeTable cE, cE, z0, BF⟩) := by
  kernel_rfl!
theorem block_go (w : World) (os : OsState) : segRunT treeTable pw w 11 ann 1 1 (stT (t_block w.params) n_block k_block os) (blockOf bE benv cE z0 BF) = some (.next, stT (t_block w.params) n_block k_block os, cE, z0) := by
  kernel_rfl!
end Mine

end
section
open PySem PySem.W
namespace Mine
/-- a tree run on a tree of objects; f: depth, c: the steps that are left; rc runs a call -/
def runS (p : Program) (w : World) (n₀ : Nat) (rc : Nat → Code → SharedT → Pos → Option (Nat × Flow × SharedT × Pos)) {α : Type} : Nat → Nat → Sem α → SharedT → Pos → Option (Nat × α × SharedT × Pos)
  | 0, _, _, _, _ => none
  | _ + 1, 0, _, _, _ => none
  | f + 1, c + 1, m, s, q => match m with
    | .pure a => some (c + 1, a, s, q)
    | .rule _ k => runS p w n₀ rc f c (k ()) s q
    | .at q' k => runS p w n₀ rc f c (k ()) s q'
    | .point _ k => runS p w n₀ rc f c (k ()) s q
    | .ask k => runS p w n₀ rc f c (k ⟨p, w.params⟩) s q
    | .fresh k => runS p w n₀ rc f c (k s.toks) { s with toks := s.toks + 1 } q
    | .load a _ k => match Nat.blt a s.n with
      | true => match s.tree.get a with
        | some o => match alive o with
          | some o' => runS p w n₀ rc f c (k o') s q
          | none => none
        | none => none
      | false => none
    | .update a _ g k => match (Nat.ble n₀ a || a == mainNs || a == cStatics) with
      | true => match Nat.blt a s.n with
        | true => match s.tree.get a with
          | some o => match alive o with
            | some _ => runS p w n₀ rc f c (k ()) { s with tree := s.tree.set a g } q
            | none => none
          | none => none
        | false => none
      | false => none
    | .alloc o k => match ((s.tree.ins s.n o).get s.n).isSome with
      | true => runS p w n₀ rc f c (k s.n) { s with tree := s.tree.ins s.n o, n := s.n + 1 } q
      | false => none
    | .call cd _ _ _ k => match rc c cd s q with
      | some (c', fl, s', _) => runS p w n₀ rc f c' (k (.ok fl)) s' q
      | none => none
    | _ => none

def calmAgain (c : Code) : Bool := Thread.calm ⟨.pure (.again c), c, default, []⟩
def runC (den : Code → Sem Fin) (p : Program) (w : World) (n₀ F : Nat) : Nat → Nat → Code → SharedT → Pos → Option (Nat × Flow × SharedT × Pos)
  | 0, _, _, _, _ => none
  | d + 1, c, cd, s, q => match runS p w n₀ (runC den p w n₀ F d) F c (den cd) s q with
    | some (c' + 1, .done fl, s', q') => some (c', fl, s', q')
    | some (c' + 1, .again cd', s', q') => match calmAgain cd' with
      | true => runC den p w n₀ F d c' cd' s' q'
      | false => none
    | _ => none

section
variable {p : Program} {w : World} {n₀ : Nat} {rc : Nat → Code → SharedT → Pos → Option (Nat × Flow × SharedT × Pos)}
theorem runS_le {α : Type} {f : Nat} (hrc : ∀ c cd s q r, rc c cd s q = some r → r.1 ≤ c) : ∀ {c : Nat} {m : Sem α} {s : SharedT} {q : Pos} {r}, runS p w n₀ rc f c m s q = some r → r.1 ≤ c := by
  induction f with
  | zero => intro c m s q r h; simp [runS] at h
  | succ f ih =>
    intro c m s q r h
    cases c with
    | zero => simp [runS] at h
    | succ c =>
      unfold runS at h
      split at h
      all_goals (first
        | (cases h; exact Nat.le_refl _)
        | exact Nat.le_succ_of_le (ih h)
        | (cases h; done)
        | ((repeat' split at h) <;> first
            | (cases h; done)
            | exact Nat.le_succ_of_le (ih h)
            | (rename_i e; have := hrc _ _ _ _ _ e; exact Nat.le_trans (ih h) (Nat.le_succ_of_le this))))
end
end Mine

end
section
open PySem PySem.W
namespace Mine
section
variable {p : Program} {w : World} {n₀ : Nat} {ann : Option Value} {tb : String → Option Builtin}
def Goes (tb : String → Option Builtin) (p : Program) (w : World) (n₀ : Nat) (ann : Option Value) (n : Nat) (s : SharedT) (t : Thread) (s' : SharedT) (t' : Thread) : Prop :=
  ∀ N R, segRun tb p w n₀ ann 1 N s'.abs t' = some R → segRun tb p w n₀ ann 1 (n + N) s.abs t = some R
theorem Goes.refl {s : SharedT} {t : Thread} : Goes tb p w n₀ ann 0 s t s t := fun N R h => by rw [Nat.zero_add]; exact h
theorem Goes.trans {n m : Nat} {s s' s'' : SharedT} {t t' t'' : Thread} (a : Goes tb p w n₀ ann n s t s' t') (b : Goes tb p w n₀ ann m s' t' s'' t'') : Goes tb p w n₀ ann (n + m) s t s'' t'' := fun N R h => by
  rw [Nat.add_assoc]; exact a _ _ (b _ _ h)
theorem Goes.cast {n m : Nat} {s s' : SharedT} {t t' : Thread} (a : Goes tb p w n₀ ann n s t s' t') (e : n = m) : Goes tb p w n₀ ann m s t s' t' := e ▸ a
theorem Goes.one {s s₂ : SharedT} {t t₂ : Thread} (h1 : endAt 1 t = none) (h2 : stepOk n₀ ann t = true) (h3 : stepT (denote tb) p w s t = some (s₂, t₂)) : Goes tb p w n₀ ann 1 s t s₂ t₂ := fun M R h => by
  rw [Nat.add_comm]
  unfold segRun
  rw [h1, h2, stepT_spec h3]
  exact h
def RC (tb : String → Option Builtin) (p : Program) (w : World) (n₀ : Nat) (ann : Option Value) (rc : Nat → Code → SharedT → Pos → Option (Nat × Flow × SharedT × Pos)) : Prop :=
  ∀ c cd s q c' fl s' q', rc c cd s q = some (c', fl, s', q') → c' ≤ c ∧ ∀ (k : Result → Sem Fin) (h : Option Value) (g : Bool) (l : List Value) (cd₀ : Code) (p₀ : Pos) (kept : List Value) (f₀ : Frame) (st : List Frame),
    Goes tb p w n₀ ann (c - c') s ⟨denote tb cd, cd, q, .ret k h g l cd₀ p₀ kept :: f₀ :: st⟩ s' ⟨k (.ok fl), cd₀, p₀, f₀ :: st⟩
variable {rc : Nat → Code → SharedT → Pos → Option (Nat × Flow × SharedT × Pos)}
theorem runS_seg {α : Type} (hrc : RC tb p w n₀ ann rc) : ∀ {f c r : Nat} {m : Sem α} {s s' : SharedT} {q q' : Pos} {a : α}, runS p w n₀ rc f c m s q = some (r, a, s', q') →
    r ≤ c ∧ ∀ (K : α → Sem Fin) (H : Value → Sem Fin) (gd : Bool → Bool) (lv : List Value → List Value) (cd : Code) (fr : Frame) (st : List Frame),
      Goes tb p w n₀ ann (c - r) s ⟨m.wrap K H gd lv, cd, q, fr :: st⟩ s' ⟨K a, cd, q', fr :: st⟩
  | 0, _, _, _, _, _, _, _, _, h => by simp [runS] at h
  | _ + 1, 0, _, _, _, _, _, _, _, h => by simp [runS] at h
  | f + 1, c + 1, r, m, s, s', q, q', a, h => by
    have go : ∀ (k : Sem α) (s₂ : SharedT) (q₂ : Pos), runS p w n₀ rc f c k s₂ q₂ = some (r, a, s', q') →
        (∀ (K : α → Sem Fin) (H : Value → Sem Fin) (gd : Bool → Bool) (lv : List Value → List Value) (cd : Code) (fr : Frame) (st : List Frame),
          endAt 1 ⟨m.wrap K H gd lv, cd, q, fr :: st⟩ = none ∧ stepOk n₀ ann ⟨m.wrap K H gd lv, cd, q, fr :: st⟩ = true ∧
          stepT (denote tb) p w s ⟨m.wrap K H gd lv, cd, q, fr :: st⟩ = some (s₂, ⟨k.wrap K H gd lv, cd, q₂, fr :: st⟩)) →
        r ≤ c + 1 ∧ ∀ (K : α → Sem Fin) (H : Value → Sem Fin) (gd : Bool → Bool) (lv : List Value → List Value) (cd : Code) (fr : Frame) (st : List Frame),
          Goes tb p w n₀ ann (c + 1 - r) s ⟨m.wrap K H gd lv, cd, q, fr :: st⟩ s' ⟨K a, cd, q', fr :: st⟩ := by
      intro k s₂ q₂ h' h1
      obtain ⟨hj, hk⟩ := runS_seg hrc h'
      refine ⟨by omega, fun K H gd lv cd fr st => ?_⟩
      obtain ⟨a1, a2, a3⟩ := h1 K H gd lv cd fr st
      exact ((Goes.one a1 a2 a3).trans (hk K H gd lv cd fr st)).cast (by omega)
    have en : ∀ (x : Sem Fin) (cd : Code) (q : Pos) (fr : Frame) (st : List Frame), (match x with | .pure (.done _) => false | _ => true) = true → endAt 1 ⟨x, cd, q, fr :: st⟩ = none := by
      intro x cd q fr st hx
      unfold endAt
      split
      · rename_i e1 e2
        simp only at e2
        subst e2
        cases hx
      · rfl
    obtain ⟨T, n, life, gens, drawn, toks, os⟩ := s
    cases m with
    | pure x => simp only [runS, Option.some.injEq, Prod.mk.injEq] at h; obtain ⟨rfl, rfl, rfl, rfl⟩ := h; exact ⟨Nat.le_refl _, fun K H gd lv cd fr st => Goes.refl.cast (by omega)⟩
    | rule t k => exact go _ _ _ h fun K H gd lv cd fr st => ⟨en _ _ _ _ _ rfl, rfl, rfl⟩
    | «at» t k => exact go _ _ _ h fun K H gd lv cd fr st => ⟨en _ _ _ _ _ rfl, rfl, rfl⟩
    | point t k => exact go _ _ _ h fun K H gd lv cd fr st => ⟨en _ _ _ _ _ rfl, rfl, rfl⟩
    | ask k => exact go _ _ _ h fun K H gd lv cd fr st => ⟨en _ _ _ _ _ rfl, rfl, rfl⟩
    | fresh k => exact go _ _ _ h fun K H gd lv cd fr st => ⟨en _ _ _ _ _ rfl, rfl, rfl⟩
    | load b t k =>
      simp only [runS] at h
      cases e1 : Nat.blt b n with
      | false => rw [e1] at h; cases h
      | true =>
        rw [e1] at h
        simp only at h
        cases e2 : T.get b with
        | none => rw [e2] at h; cases h
        | some o =>
          rw [e2] at h
          simp only at h
          cases e3 : alive o with
          | none => rw [e3] at h; cases h
          | some o' => rw [e3] at h; exact go _ _ _ h fun K H gd lv cd fr st => ⟨en _ _ _ _ _ rfl, rfl, by simp only [Sem.wrap, stepT, e1, e2, e3]⟩
    | update b t g' k =>
      simp only [runS] at h
      cases e0 : (Nat.ble n₀ b || b == mainNs || b == cStatics) with
      | false => rw [e0] at h; cases h
      | true =>
      rw [e0] at h
      simp only at h
      cases e1 : Nat.blt b n with
      | false => rw [e1] at h; cases h
      | true =>
        rw [e1] at h
        simp only at h
        cases e2 : T.get b with
        | none => rw [e2] at h; cases h
        | some o =>
          rw [e2] at h
          simp only at h
          cases e3 : alive o with
          | none => rw [e3] at h; cases h
          | some o' =>
            rw [e3] at h
            refine go _ _ _ h fun K H gd lv cd fr st => ⟨en _ _ _ _ _ rfl, ?_, by simp only [Sem.wrap, stepT, e1, e2, e3]⟩
            show (true && (Nat.ble n₀ b || b == mainNs || b == cStatics || ann == some (.ref b))) = true
            rw [e0]; rfl
    | alloc o k =>
      simp only [runS] at h
      cases e1 : ((T.ins n o).get n).isSome with
      | false => rw [e1] at h; cases h
      | true => rw [e1] at h; exact go _ _ _ h fun K H gd lv cd fr st => ⟨en _ _ _ _ _ rfl, rfl, by simp only [Sem.wrap, stepT, e1]⟩
    | call cd' hd g l k =>
      simp only [runS] at h
      split at h
      · rename_i c' fl s₁ q₁ e
        obtain ⟨h1, h2⟩ := hrc _ _ _ _ _ _ _ _ e
        obtain ⟨h3, h4⟩ := runS_seg hrc h
        refine ⟨by omega, fun K H gd lv cd fr st => ?_⟩
        have o := Goes.one (tb := tb) (p := p) (w := w) (n₀ := n₀) (ann := ann) (s := ⟨T, n, life, gens, drawn, toks, os⟩) (t := ⟨(Sem.call cd' hd g l k).wrap K H gd lv, cd, q, fr :: st⟩) (en _ _ _ _ _ rfl) rfl (by rfl)
        exact ((o.trans (h2 _ _ _ _ _ _ _ _ _)).trans (h4 K H gd lv cd fr st)).cast (by omega)
      · cases h
    | _ => cases h
theorem wrap_id {α : Type} (m : Sem α) : m.wrap .pure .raise id id = m := by
  rw [← Sem.bind_eq_wrap]
  induction m <;> simp only [Sem.bind, *]
theorem runC_spec {F : Nat} : ∀ d, RC tb p w n₀ ann (runC (denote tb) p w n₀ F d)
  | 0 => fun c cd s q c' fl s' q' h => by simp [runC] at h
  | d + 1 => fun c cd s q c' fl s' q' h => by
    unfold runC at h
    split at h
    · rename_i c₁ fl₁ s₁ q₁ e
      simp only [Option.some.injEq, Prod.mk.injEq] at h
      obtain ⟨rfl, rfl, rfl, rfl⟩ := h
      obtain ⟨h1, h2⟩ := runS_seg (runC_spec d) e
      refine ⟨by omega, fun k h g l cd₀ p₀ kept f₀ st => ?_⟩
      have z := h2 .pure .raise id id cd (.ret k h g l cd₀ p₀ kept) (f₀ :: st)
      rw [wrap_id] at z
      refine (z.trans (Goes.one ?_ ?_ ?_)).cast (by omega)
      · rfl
      · rfl
      · rfl
    · rename_i c₁ cd₁ s₁ q₁ e
      split at h
      · rename_i hc
        obtain ⟨h1, h2⟩ := runS_seg (runC_spec d) e
        obtain ⟨h3, h4⟩ := runC_spec d _ _ _ _ _ _ _ _ h
        refine ⟨by omega, fun k h g l cd₀ p₀ kept f₀ st => ?_⟩
        have z := h2 .pure .raise id id cd (.ret k h g l cd₀ p₀ kept) (f₀ :: st)
        rw [wrap_id] at z
        have step : ∃ kept', stepT (denote tb) p w s₁ ⟨.pure (.again cd₁), cd, q₁, .ret k h g l cd₀ p₀ kept :: f₀ :: st⟩ = some (s₁, ⟨denote tb cd₁, cd₁, q₁, .ret k h g l cd₀ p₀ kept' :: f₀ :: st⟩) := by
          obtain ⟨T, n, life, gens, drawn, toks, os⟩ := s₁
          cases cd <;> cases cd₁ <;> exact ⟨_, rfl⟩
        obtain ⟨kept', step⟩ := step
        refine ((z.trans (Goes.one ?_ ?_ step)).trans (h4 _ _ _ _ _ _ _ _ _)).cast (by omega)
        · simp [endAt]
        · show (Thread.calm ⟨.pure (.again cd₁), cd₁, default, []⟩ && true) = true
          rw [show Thread.calm ⟨.pure (.again cd₁), cd₁, default, []⟩ = true from hc]; rfl
      · cases h
    · cases h
def RunsTo (tb : String → Option Builtin) (p : Program) (w : World) (n₀ : Nat) (ann : Option Value) {α : Type} (k : Nat) (m : Sem α) (s : SharedT) (q : Pos) (a : α) (s' : SharedT) (q' : Pos) : Prop :=
  ∀ (K : α → Sem Fin) (H : Value → Sem Fin) (gd : Bool → Bool) (lv : List Value → List Value) (cd : Code) (fr : Frame) (st : List Frame), Goes tb p w n₀ ann k s ⟨m.wrap K H gd lv, cd, q, fr :: st⟩ s' ⟨K a, cd, q', fr :: st⟩
theorem RunsTo.bind {α β : Type} {g : α → Sem β} {k k' : Nat} {m : Sem α} {s s' s'' : SharedT} {q q' q'' : Pos} {a : α} {b : β} (h : RunsTo tb p w n₀ ann k m s q a s' q') (h' : RunsTo tb p w n₀ ann k' (g a) s' q' b s'' q'') :
    RunsTo tb p w n₀ ann (k + k') (m >>= g) s q b s'' q'' := fun K H gd lv cd fr st => by
  show Goes _ _ _ _ _ _ _ ⟨(m.bind g).wrap K H gd lv, cd, q, fr :: st⟩ _ _
  rw [Sem.bind_eq_wrap, Sem.wrap_wrap]
  exact (h _ _ _ _ _ _ _).trans (h' _ _ _ _ _ _ _)
theorem RunsTo.pure {α : Type} {s : SharedT} {q : Pos} {a : α} : RunsTo tb p w n₀ ann 0 (pure a) s q a s q := fun _ _ _ _ _ _ _ => Goes.refl
theorem RunsTo.of {α : Type} {F d f c r : Nat} {m : Sem α} {s s' : SharedT} {q q' : Pos} {a : α} (h : runS p w n₀ (runC (denote tb) p w n₀ F d) f c m s q = some (r, a, s', q')) : RunsTo tb p w n₀ ann (c - r) m s q a s' q' :=
  (runS_seg (runC_spec d) h).2
theorem RunsTo.cast {α : Type} {k k' : Nat} {m : Sem α} {s s' : SharedT} {q q' : Pos} {a : α} (h : RunsTo tb p w n₀ ann k m s q a s' q') (e : k = k') : RunsTo tb p w n₀ ann k' m s q a s' q' := e ▸ h
theorem RunsTo.piece {k : Nat} {m : Sem Flow} {s s' : SharedT} {q q' : Pos} {fl : Flow} {c : Code} {fr : Frame} (h : RunsTo tb p w n₀ ann k m s q fl s' q') :
    segRun tb p w n₀ ann 1 (k + 1) s.abs ⟨m.wrap doneF deadEnd id id, c, q, [fr]⟩ = some (fl, s'.abs, c, q') := h _ _ _ _ _ _ _ _ _ rfl
def runL (p : Program) (w : World) (n₀ : Nat) (rc : Nat → Code → SharedT → Pos → Option (Nat × Flow × SharedT × Pos)) (f : Nat) {X B : Type} (g : X → B → Sem (ForInStep B)) : Nat → List X → B → SharedT → Pos → Option (Nat × B × SharedT × Pos)
  | c, [], b, s, q => some (c, b, s, q)
  | c, x :: l, b, s, q => match runS p w n₀ rc f c (g x b) s q with
    | some (r, .yield b', s', q') => runL p w n₀ rc f g r l b' s' q'
    | _ => none
theorem runL_spec {F d f : Nat} {X B : Type} {g : X → B → Sem (ForInStep B)} : ∀ {l : List X} {b b' : B} {c r : Nat} {s s' : SharedT} {q q' : Pos}, runL p w n₀ (runC (denote tb) p w n₀ F d) f g c l b s q = some (r, b', s', q') →
    r ≤ c ∧ ∀ (l₂ : List X) (k : Nat) (b'' : B) (s'' : SharedT) (q'' : Pos), RunsTo tb p w n₀ ann k (forIn l₂ b' g) s' q' b'' s'' q'' → RunsTo tb p w n₀ ann (c - r + k) (forIn (l ++ l₂) b g) s q b'' s'' q''
  | [], _, _, _, _, _, _, _, _, h => by
    simp only [runL, Option.some.injEq, Prod.mk.injEq] at h; obtain ⟨rfl, rfl, rfl, rfl⟩ := h
    exact ⟨Nat.le_refl _, fun l₂ k b'' s'' q'' h => h.cast (by omega)⟩
  | x :: l, b, b', c, r, s, s', q, q', h => by
    unfold runL at h
    split at h
    · rename_i r₁ b₁ s₁ q₁ e
      obtain ⟨h1, h2⟩ := runS_seg (tb := tb) (ann := ann) (runC_spec d) e
      obtain ⟨h3, h4⟩ := runL_spec h
      refine ⟨by omega, fun l₂ k b'' s'' q'' h => ?_⟩
      rw [List.cons_append, List.forIn_cons]
      exact (RunsTo.bind (m := g x b) h2 (h4 l₂ k b'' s'' q'' h)).cast (by omega)
    · cases h
end
end Mine

end
section
open PySem PySem.W PySem.Calls PyProof.Rows
set_option Elab.async false
set_option maxRecDepth 100000
namespace Mine
section
variable {p : Program} {w : World} {n₀ : Nat} {ann : Option Value} {tb : String → Option Builtin}
theorem rt_load {s : SharedT} {q : Pos} {a : Addr} {part : Option Value} {o : Obj} (h1 : a < s.n) (h2 : s.tree.get a = some o) (h3 : alive o = some o) : RunsTo tb p w n₀ ann 1 (loadPart a part) s q o s q := fun K H gd lv cd fr st => by
  obtain ⟨T, n, life, gens, drawn, toks, os⟩ := s
  refine Goes.one (by simp [endAt, loadPart, Sem.wrap]) rfl ?_
  have e : Nat.blt a n = true := Nat.ble_eq_true_of_le h1
  simp only [] at h2
  simp only [loadPart, Sem.wrap, stepT, e, h2, h3]
theorem rt_update {s : SharedT} {q : Pos} {a : Addr} {part : Option Value} {o : Obj} {f : Obj → Obj} (h0 : n₀ ≤ a) (h1 : a < s.n) (h2 : s.tree.get a = some o) (h3 : alive o = some o) :
    RunsTo tb p w n₀ ann 1 (updatePart a part f) s q () { s with tree := s.tree.set a f } q := fun K H gd lv cd fr st => by
  obtain ⟨T, n, life, gens, drawn, toks, os⟩ := s
  refine Goes.one (by simp [endAt, updatePart, Sem.wrap]) ?_ ?_
  · show (true && (Nat.ble n₀ a || a == mainNs || a == cStatics || ann == some (.ref a))) = true
    rw [Nat.ble_eq_true_of_le h0]; rfl
  have e : Nat.blt a n = true := Nat.ble_eq_true_of_le h1
  simp only [] at h2
  simp only [updatePart, Sem.wrap, stepT, e, h2, h3]
theorem rt_rule {s : SharedT} {q : Pos} {t : String} : RunsTo tb p w n₀ ann 1 (rule t) s q () s q := fun K H gd lv cd fr st => by
  refine Goes.one (by simp [endAt, rule, Sem.wrap]) rfl ?_
  obtain ⟨T, n, life, gens, drawn, toks, os⟩ := s
  rfl
theorem rt_keep {α : Type} {s s' : SharedT} {q q' : Pos} {k : Nat} {m : Sem α} {a : α} {vs : List Value} (h : RunsTo tb p w n₀ ann k m s q a s' q') : RunsTo tb p w n₀ ann k (m.keep vs) s q a s' q' := fun K H gd lv cd fr st => by
  rw [Sem.keep_eq_wrap, Sem.wrap_wrap]
  exact h _ _ _ _ _ _ _
theorem rt_holding {α : Type} {s s' : SharedT} {q q' : Pos} {k : Nat} {m : Sem α} {a : α} {vs : List Value} (h : RunsTo tb p w n₀ ann k m s q a s' q') : RunsTo tb p w n₀ ann k (holding vs m) s q a s' q' := by
  rw [holding_eq_keep]; exact rt_keep h
theorem rt_onRaise {α : Type} {s s' : SharedT} {q q' : Pos} {k : Nat} {m : Sem α} {a : α} {hd : Value → Sem Unit} (h : RunsTo tb p w n₀ ann k m s q a s' q') : RunsTo tb p w n₀ ann k (m.onRaise hd) s q a s' q' := fun K H gd lv cd fr st => by
  rw [Sem.onRaise_eq_wrap, Sem.wrap_wrap]
  exact h _ _ _ _ _ _ _
theorem rt_dictEntries {s : SharedT} {q : Pos} {a : Addr} {part : Option Value} {c : Value} {d : Option Addr} {es : Array DictEntry} {m : Nat} {sl} (h1 : a < s.n) (h2 : s.tree.get a = some ⟨c, d, .dict es m, sl⟩) :
    RunsTo tb p w n₀ ann 1 (dictEntries a part) s q es s q := by
  unfold dictEntries
  refine (RunsTo.bind (k' := 0) (rt_load h1 h2 rfl) ?_).cast rfl
  exact RunsTo.pure
theorem rt_dictEpoch {s : SharedT} {q : Pos} {a : Addr} {part : Option Value} {c : Value} {d : Option Addr} {es : Array DictEntry} {m : Nat} {sl} (h1 : a < s.n) (h2 : s.tree.get a = some ⟨c, d, .dict es m, sl⟩) :
    RunsTo tb p w n₀ ann 1 (dictEpoch a part) s q m s q := by
  unfold dictEpoch
  refine (RunsTo.bind (k' := 0) (rt_load h1 h2 rfl) ?_).cast rfl
  exact RunsTo.pure

theorem places_nil {es : Array DictEntry} {h : Int} (hne : ∀ e ∈ es, e.hash ≠ h) : placesWithHash es.size (fun i => es[i]?.map (·.hash)) h = [] := by
  unfold placesWithHash
  rw [List.filter_eq_nil_iff]
  intro i _ hi
  replace hi : (es[i]?.map (·.hash) == some h) = true := hi
  cases e : es[i]? with
  | none => rw [e] at hi; cases hi
  | some x =>
    rw [e] at hi
    have hx : x ∈ es := Array.mem_of_getElem? e
    simp only [Option.map_some, beq_iff_eq, Option.some.injEq] at hi
    exact hne x hx hi

abbrev dObj (es : List DictEntry) (m : Nat) : Obj := ⟨.type "dict", none, .dict (Array.mk es) m, Array.mk []⟩
theorem rt_find {s : SharedT} {q : Pos} {d : Addr} {es : List DictEntry} {m : Nat} {i : Int} {t : Tok} {h : Int} (h1 : d < s.n) (h2 : s.tree.get d = some (dObj es m)) (hne : ∀ e ∈ es, e.hash ≠ h) :
    RunsTo tb p w n₀ ann 1 (dictFind d (.int i t) h) s q none s q := by
  unfold dictFind
  refine rt_holding ((RunsTo.bind (k' := 0) (rt_dictEntries h1 h2) ?_).cast rfl)
  simp only []
  rw [places_nil (es := Array.mk es) (fun e he => hne e (by simpa using he))]
  exact RunsTo.pure
theorem rt_put {s : SharedT} {q : Pos} {d : Addr} {es : List DictEntry} {m : Nat} {i : Int} {t : Tok} {h : Int} {v : Value} (h0 : n₀ ≤ d) (h1 : d < s.n) (h2 : s.tree.get d = some (dObj es m)) (hne : ∀ e ∈ es, e.hash ≠ h) (hsz : es.length + 1 ≤ sizeLine) :
    RunsTo tb p w n₀ ann 4 (dictPut d h (.int i t) v) s q () { s with tree := s.tree.set d (Obj.mapDictKeys (·.push ⟨h, .int i t, v⟩)) } q := by
  unfold dictPut
  refine (RunsTo.bind (rt_find h1 h2 hne) (k' := 3) ?_).cast rfl
  show RunsTo tb p w n₀ ann 3 (updateDictKeys d _ none) s q _ _ q
  unfold updateDictKeys
  refine (RunsTo.bind (rt_load h1 h2 rfl) (k' := 2) ?_).cast rfl
  refine (RunsTo.bind (rt_update h0 h1 h2 rfl) (k' := 1) ?_).cast rfl
  unfold lookBehind
  have e : (s.tree.set d (Obj.mapDictKeys (·.push ⟨h, .int i t, v⟩))).get d = some ⟨.type "dict", none, .dict ((Array.mk es).push ⟨h, .int i t, v⟩) (m + 1), Array.mk []⟩ := by
    rw [BT.get_set, if_pos rfl, h2]; rfl
  refine (RunsTo.bind (rt_load (s := { s with tree := s.tree.set d (Obj.mapDictKeys (·.push ⟨h, .int i t, v⟩)) }) h1 e rfl) (k' := 0) ?_).cast rfl
  have : Data.pastItsLine (.dict ((Array.mk es).push ⟨h, .int i t, v⟩) (m + 1)) = none := by
    simp only [Data.pastItsLine]
    rw [if_neg]
    rw [Array.size_push]
    show ¬ es.length + 1 > sizeLine + 1
    omega
  rw [this]
  exact RunsTo.pure

theorem BT.set_set (f g : Obj → Obj) : ∀ (t : BT) (a : Nat), (t.set a f).set a g = t.set a (fun o => g (f o))
  | .nil, a => rfl
  | .node v l r, a => by
    rw [BT.set_node, BT.set_node]
    by_cases h : a = 0
    · simp only [h, if_true, BT.set_node]
    · by_cases q : a % 2 = 1
      · simp only [h, q, if_true, if_false, BT.set_node, BT.set_set f g l]
      · simp only [h, q, if_false, BT.set_node, BT.set_set f g r]
theorem BT.set_congr {f g : Obj → Obj} : ∀ {t : BT} {a : Nat} {o : Obj}, t.get a = some o → f o = g o → t.set a f = t.set a g
  | .nil, a, o, h, _ => by simp [BT.get] at h
  | .node v l r, a, o, h, e => by
    rw [BT.get_node] at h
    rw [BT.set_node, BT.set_node]
    by_cases ha : a = 0
    · simp only [ha, if_true, Option.some.injEq] at h ⊢
      subst h; rw [e]
    · by_cases q : a % 2 = 1
      · simp only [ha, q, if_true, if_false] at h ⊢
        rw [BT.set_congr h e]
      · simp only [ha, q, if_false] at h ⊢
        rw [BT.set_congr h e]
def setD (s : SharedT) (d : Addr) (es : List DictEntry) (m : Nat) : SharedT := { s with tree := s.tree.set d (fun _ => dObj es m) }
theorem mk_push (es : List DictEntry) (x : DictEntry) : (Array.mk es).push x = Array.mk (es ++ [x]) := by simp
theorem rt_put' {s : SharedT} {q : Pos} {d : Addr} {es : List DictEntry} {m : Nat} {e : DictEntry} {i : Int} {t : Tok} (hk : e.key = .int i t) (h0 : n₀ ≤ d) (h1 : d < s.n) (h2 : s.tree.get d = some (dObj es m)) (hne : ∀ x ∈ es, x.hash ≠ e.hash) (hsz : es.length + 1 ≤ sizeLine) :
    RunsTo tb p w n₀ ann 4 (dictPut d e.hash e.key e.val) s q () (setD s d (es ++ [e]) (m + 1)) q := by
  have z := rt_put (p := p) (w := w) (n₀ := n₀) (ann := ann) (tb := tb) (q := q) (i := i) (t := t) (v := e.val) h0 h1 h2 hne hsz
  rw [← hk] at z
  have : (s.tree.set d (Obj.mapDictKeys (·.push ⟨e.hash, e.key, e.val⟩))) = s.tree.set d (fun _ => dObj (es ++ [e]) (m + 1)) :=
    BT.set_congr h2 (by show (⟨.type "dict", none, .dict ((Array.mk es).push e) (m + 1), Array.mk []⟩ : Obj) = _; rw [mk_push])
  rw [this] at z
  exact z
theorem setD_get {s : SharedT} {d : Addr} {es : List DictEntry} {m : Nat} {o : Obj} (h2 : s.tree.get d = some o) : (setD s d es m).tree.get d = some (dObj es m) := by
  show (s.tree.set d _).get d = _
  rw [BT.get_set, if_pos rfl, h2]; rfl
theorem setD_ne {s : SharedT} {d a : Addr} {es : List DictEntry} {m : Nat} (h : a ≠ d) : (setD s d es m).tree.get a = s.tree.get a := by
  show (s.tree.set d _).get a = _
  rw [BT.get_set, if_neg h]
theorem setD_setD {s : SharedT} {d : Addr} {es es' : List DictEntry} {m m' : Nat} : setD (setD s d es m) d es' m' = setD s d es' m' := by
  unfold setD
  rw [BT.set_set]
theorem setD_self {s : SharedT} {d : Addr} {es : List DictEntry} {m : Nat} (h2 : s.tree.get d = some (dObj es m)) : setD s d es m = s := by
  unfold setD
  have : ∀ (t : BT) (a : Nat) (o : Obj), t.get a = some o → t.set a (fun _ => o) = t := by
    intro t
    induction t with
    | nil => intro a o h; rfl
    | node v l r ihl ihr =>
      intro a o h
      rw [BT.get_node] at h
      rw [BT.set_node]
      by_cases ha : a = 0
      · simp only [ha, if_true, Option.some.injEq] at h ⊢; rw [h]
      · by_cases q : a % 2 = 1
        · simp only [ha, q, if_true, if_false] at h ⊢; rw [ihl _ _ h]
        · simp only [ha, q, if_false] at h ⊢; rw [ihr _ _ h]
  rw [this _ _ _ h2]
def isIntKey (e : DictEntry) : Prop := ∃ i t, e.key = .int i t

theorem rt_loop {d a : Addr} {sub : List DictEntry} {ep : Nat} {q : Pos} (h0 : n₀ ≤ d) (hne : a ≠ d)
    (body : Nat → PUnit → Sem (ForInStep PUnit)) (hb : ∀ (i : Nat) (s s' : SharedT) (e : DictEntry), a < s.n → s.tree.get a = some (dObj sub ep) → (Array.mk sub)[i]? = some e → a < s'.n → s'.tree.get a = some (dObj sub ep) →
      RunsTo tb p w n₀ ann 4 (dictPut d e.hash e.key e.val) s q () s' q → RunsTo tb p w n₀ ann 6 (body i PUnit.unit) s q (.yield PUnit.unit) s' q) :
    ∀ (post pre : List DictEntry) (s : SharedT) (es : List DictEntry) (m : Nat), sub = pre ++ post → d < s.n → a < s.n → s.tree.get d = some (dObj es m) → s.tree.get a = some (dObj sub ep) →
      (∀ e ∈ sub, isIntKey e) → (es ++ post).Pairwise (fun x y => x.hash ≠ y.hash) → es.length + post.length ≤ sizeLine →
      RunsTo tb p w n₀ ann (6 * post.length) (forIn (List.range' pre.length post.length) PUnit.unit body) s q PUnit.unit (setD s d (es ++ post) (m + post.length)) q
  | [], pre, s, es, m, _, _, _, hd, _, _, _, _ => by
    rw [List.append_nil]
    show RunsTo tb p w n₀ ann 0 (pure PUnit.unit) s q _ (setD s d es m) q
    rw [setD_self hd]
    exact RunsTo.pure
  | e :: post, pre, s, es, m, hs, h1, h2, hd, ha, hk, hp, hz => by
    have he : (Array.mk sub)[pre.length]? = some e := by
      subst hs
      simp
    obtain ⟨i, t, hkey⟩ := hk e (by rw [hs]; simp)
    have hh : ∀ x ∈ es, x.hash ≠ e.hash := fun x hx => (List.pairwise_append.mp hp).2.2 x hx e (List.mem_cons_self ..)
    have ih := rt_loop (q := q) h0 hne body hb post (pre ++ [e]) (setD s d (es ++ [e]) (m + 1)) (es ++ [e]) (m + 1) (by rw [hs]; simp) h1 h2 (setD_get hd) ((setD_ne hne).trans ha) hk (by simpa using hp) (by simp at hz ⊢; omega)
    rw [setD_setD] at ih
    have e1 : es ++ [e] ++ post = es ++ e :: post := by simp
    have e2 : m + 1 + post.length = m + (e :: post).length := by simp; omega
    rw [e1, e2] at ih
    rw [show List.range' pre.length (e :: post).length = pre.length :: List.range' (pre ++ [e]).length post.length by simp [List.range'_succ], List.forIn_cons]
    have step : RunsTo tb p w n₀ ann 6 (body pre.length PUnit.unit) s q (.yield PUnit.unit) (setD s d (es ++ [e]) (m + 1)) q :=
      hb _ _ _ e h2 ha he h2 ((setD_ne hne).trans ha) (rt_put' hkey h0 h1 hd hh (by simp at hz; omega))
    exact (RunsTo.bind step ih).cast (by simp; omega)
end
end Mine

end
section
open PySem PySem.W PySem.Calls PyProof.Rows
set_option Elab.async false
set_option maxRecDepth 100000
namespace Mine
section
variable {p : Program} {w : World} {n₀ : Nat} {ann : Option Value} {tb : String → Option Builtin}
theorem sub_dict_dict : isSubtype (.type "dict") (.type "dict") = pure true := by rw [isSubtype_type]; kernel_rfl
theorem look_dict_iter : typeLookup (.type "dict") "__iter__" = pure (some (.builtin "dict.__iter__")) := by rw [typeLookup_type, builtinLookup_eq_fast]; kernel_rfl
theorem merge_run {d a : Addr} {sub es : List DictEntry} {ep m : Nat} {q : Pos} {s : SharedT} (h0 : n₀ ≤ d) (hne : a ≠ d) (hm : a ≠ sysModules) (h1 : d < s.n) (h2 : a < s.n) (hes : es ≠ []) (hd : s.tree.get d = some (dObj es m)) (ha : s.tree.get a = some (dObj sub ep))
    (hk : ∀ e ∈ sub, isIntKey e) (hp : (es ++ sub).Pairwise (fun x y => x.hash ≠ y.hash)) (hz : es.length + sub.length ≤ sizeLine) :
    RunsTo tb p w n₀ ann (5 + 6 * sub.length) (mergeMapping d (.ref a) false) s q () (setD s d (es ++ sub) (m + sub.length)) q := by
  unfold mergeMapping
  have hl : RunsTo tb p w n₀ ann 1 (typeOf (.ref a)) s q (.type "dict") s q := by
    unfold typeOf
    refine (RunsTo.bind (k' := 0) (rt_load h2 ha rfl) ?_).cast rfl
    exact RunsTo.pure
  have hi : RunsTo tb p w n₀ ann 1 (isInstance (.ref a) (.type "dict")) s q true s q := by
    unfold isInstance
    refine (RunsTo.bind (k' := 0) hl ?_).cast rfl
    rw [sub_dict_dict]
    exact RunsTo.pure
  have hs : RunsTo tb p w n₀ ann 1 (specialOf (.ref a) "__iter__") s q (some (.builtin "dict.__iter__")) s q := by
    unfold specialOf
    refine (RunsTo.bind (k' := 0) hl ?_).cast rfl
    rw [look_dict_iter]
    exact RunsTo.pure
  refine (RunsTo.bind (k := 1) (k' := 4 + 6 * sub.length) hi ?_).cast (by omega)
  simp only [if_true]
  refine (RunsTo.bind (k := 1) (k' := 3 + 6 * sub.length) hs ?_).cast (by omega)
  have hm' : (a == sysModules) = false := beq_eq_false_iff_ne.mpr hm
  simp only [show ((some (Value.builtin "dict.__iter__") : Option Value) == some (Value.builtin "dict.__iter__")) = true from by decide, pure_bind, hm', Bool.false_eq_true, if_false]
  refine (RunsTo.bind (k := 1) (k' := 2 + 6 * sub.length) (rt_dictEntries h1 hd) ?_).cast (by omega)
  rw [if_neg (by cases es with | nil => exact absurd rfl hes | cons x r => simp [Array.isEmpty])]
  refine (RunsTo.bind (k := 1) (k' := 1 + 6 * sub.length) (rt_dictEntries h2 ha) ?_).cast (by omega)
  refine (RunsTo.bind (k := 1) (k' := 6 * sub.length) (rt_dictEpoch h2 ha) ?_).cast (by omega)
  refine (RunsTo.bind (k := 6 * sub.length) (k' := 0) (a := PUnit.unit) (s' := setD s d (es ++ sub) (m + sub.length)) (q' := q) ?_ ?_).cast (by omega)
  · rw [show List.range (Array.mk sub).size = List.range' ([] : List DictEntry).length sub.length by rw [List.range_eq_range']; rfl]
    refine rt_loop (q := q) h0 hne _ (fun i s₁ s₂ e k1 k2 k3 k4 k5 k6 => ?_) sub [] s es m rfl h1 h2 hd ha hk hp hz
    refine (RunsTo.bind (k := 1) (k' := 5) (rt_dictEntries k1 k2) ?_).cast rfl
    simp only [k3]
    refine (RunsTo.bind (k := 4) (k' := 1) (rt_holding k6) ?_).cast rfl
    refine (RunsTo.bind (k := 1) (k' := 0) (rt_dictEpoch k4 k5) ?_).cast rfl
    simp only [bne_self_eq_false, Bool.false_eq_true, if_false]
    exact RunsTo.pure
  · exact RunsTo.pure
end
end Mine

end
section
open PySem PySem.W
set_option Elab.async false
set_option maxRecDepth 100000
set_option maxHeartbeats 0
namespace Mine
structure DD where
  f : (Option (Sem Value) × Sem Value) → (Option Addr × List (Sem Value × Sem Value)) → Sem (ForInStep (Option Addr × List (Sem Value × Sem Value)))
  fin : (Option Addr × List (Sem Value × Sem Value)) → Sem Value
  h : ∀ items, dictDisplay items = (forIn items (none, []) f >>= fin)
noncomputable def dd : DD := ⟨_, _, fun _ => rfl⟩
noncomputable def dItems (st : Stmt) (env : Env) : List (Option (Sem Value) × Sem Value) := (evalEachOpt (dKeys st) env).zip ((evalEach (dVals st) env).map fun v => do let x ← v; standAt (dPos st); pure x)
noncomputable def its : List (Option (Sem Value) × Sem Value) := dItems (top 4) benv
abbrev PT := Sem Value × Sem Value
def some1 (x : PT) : Option (Sem Value) × Sem Value := (some x.1, x.2)
theorem f_acc (m : Option Addr) (run : List PT) (x : PT) (h : run.length + 1 ≠ 17) : dd.f (some1 x) (m, run) = pure (.yield (m, run ++ [x])) := by
  show (if ((run ++ [x]).length == 17) = true then _ else _) = _
  rw [if_neg (by simpa using h)]
theorem f_full (d : Addr) (run : List PT) (x : PT) (h : run.length + 1 = 17) : ∃ hd : Value → Sem Unit, dd.f (some1 x) (some d, run) =
    (((holding [.ref d] (subDict (run ++ [x]))) >>= fun sub => ((holding [.ref d, .ref sub] (mergeMapping d (.ref sub) false)).onRaise hd) >>= fun _ => pure (some d)) >>= fun m => pure (.yield (m, []))) := by
  apply Exists.intro
  show (if ((run ++ [x]).length == 17) = true then _ else _) = _
  rw [if_pos (by simpa using h)]
  show ((if (run ++ [x]).isEmpty = true then _ else _) >>= _) = _
  rw [if_neg (by simp)]
theorem f_first (run : List PT) (x : PT) (h : run.length + 1 = 17) : dd.f (some1 x) (none, run) = ((subDict (run ++ [x])) >>= fun sub => pure (some sub)) >>= fun m => pure (.yield (m, [])) := by
  show (if ((run ++ [x]).length == 17) = true then _ else _) = _
  rw [if_pos (by simpa using h)]
  show ((if (run ++ [x]).isEmpty = true then _ else _) >>= _) = _
  rw [if_neg (by simp)]
theorem fin_rest (d : Addr) (run : List PT) (h : run ≠ []) : ∃ hd : Value → Sem Unit, dd.fin (some d, run) =
    (((holding [.ref d] (subDict run)) >>= fun sub => ((holding [.ref d, .ref sub] (mergeMapping d (.ref sub) false)).onRaise hd) >>= fun _ => pure (some d)) >>= fun m => match m with
      | some d => pure (.ref d)
      | none => newDict) := by
  apply Exists.intro
  show ((if run.isEmpty = true then _ else _) >>= _) = _
  rw [if_neg (by simpa using h)]
  rfl
theorem acc_all (m : Option Addr) (rest : List (Option (Sem Value) × Sem Value)) : ∀ (l run : List PT), run.length + l.length < 17 → forIn (l.map some1 ++ rest) (m, run) dd.f = forIn rest (m, run ++ l) dd.f
  | [], run, _ => by rw [List.append_nil]; rfl
  | x :: l, run, h => by
    rw [List.map_cons, List.cons_append, List.forIn_cons, f_acc m run x (by simp at h; omega)]
    show forIn (l.map some1 ++ rest) (m, run ++ [x]) dd.f = _
    rw [acc_all m rest l (run ++ [x]) (by simp at h ⊢; omega)]
    simp
section
variable {p : Program} {w : World} {n₀ : Nat} {ann : Option Value} {tb : String → Option Builtin}
theorem chunk_to {d a : Addr} {L : List PT} {rest : List (Option (Sem Value) × Sem Value)} {k1 k2 k3 : Nat} {s s1 s2 s3 : SharedT} {q q3 : Pos} {r : Value} (hl : L.length = 17)
    (h1 : RunsTo tb p w n₀ ann k1 (subDict L) s q a s1 q) (h2 : RunsTo tb p w n₀ ann k2 (mergeMapping d (.ref a) false) s1 q () s2 q) (h3 : RunsTo tb p w n₀ ann k3 (forIn rest (some d, []) dd.f >>= dd.fin) s2 q r s3 q3) :
    RunsTo tb p w n₀ ann (k1 + k2 + k3) (forIn (L.map some1 ++ rest) (some d, []) dd.f >>= dd.fin) s q r s3 q3 := by
  obtain ⟨l, x, rfl⟩ : ∃ l x, L = l ++ [x] := ⟨L.dropLast, L.getLast (by intro e; rw [e] at hl; cases hl), (List.dropLast_concat_getLast _).symm⟩
  have hl' : l.length = 16 := by simpa using hl
  rw [List.map_append, List.append_assoc, acc_all _ _ l [] (by simp; omega), List.nil_append]
  show RunsTo _ _ _ _ _ _ (forIn (some1 x :: rest) (some d, l) dd.f >>= dd.fin) _ _ _ _ _
  rw [List.forIn_cons]
  obtain ⟨hd, e⟩ := f_full d l x (by omega)
  rw [e, bind_assoc]
  refine (RunsTo.bind (k := k1 + k2) (k' := k3) (a := .yield (some d, [])) (s' := s2) (q' := q) ?_ ?_)
  · refine (RunsTo.bind (k := k1 + k2) (k' := 0) (a := some d) (s' := s2) (q' := q) ?_ ?_).cast rfl
    · refine RunsTo.bind (k := k1) (k' := k2) (rt_holding h1) ?_
      refine (RunsTo.bind (k := k2) (k' := 0) (rt_onRaise (rt_holding h2)) ?_).cast rfl
      exact RunsTo.pure
    · exact RunsTo.pure
  · exact h3
theorem first_to {d : Addr} {L : List PT} {rest : List (Option (Sem Value) × Sem Value)} {k1 k3 : Nat} {s s1 s3 : SharedT} {q q3 : Pos} {r : Value} (hl : L.length = 17)
    (h1 : RunsTo tb p w n₀ ann k1 (subDict L) s q d s1 q) (h3 : RunsTo tb p w n₀ ann k3 (forIn rest (some d, []) dd.f >>= dd.fin) s1 q r s3 q3) :
    RunsTo tb p w n₀ ann (k1 + k3) (forIn (L.map some1 ++ rest) (none, []) dd.f >>= dd.fin) s q r s3 q3 := by
  obtain ⟨l, x, rfl⟩ : ∃ l x, L = l ++ [x] := ⟨L.dropLast, L.getLast (by intro e; rw [e] at hl; cases hl), (List.dropLast_concat_getLast _).symm⟩
  have hl' : l.length = 16 := by simpa using hl
  rw [List.map_append, List.append_assoc, acc_all _ _ l [] (by simp; omega), List.nil_append]
  show RunsTo _ _ _ _ _ _ (forIn (some1 x :: rest) (none, l) dd.f >>= dd.fin) _ _ _ _ _
  rw [List.forIn_cons, f_first l x (by omega), bind_assoc]
  refine (RunsTo.bind (k := k1) (k' := k3) (a := .yield (some d, [])) (s' := s1) (q' := q) ?_ ?_)
  · refine (RunsTo.bind (k := k1) (k' := 0) (a := some d) (s' := s1) (q' := q) ?_ ?_).cast rfl
    · refine (RunsTo.bind (k := k1) (k' := 0) h1 ?_).cast rfl
      exact RunsTo.pure
    · exact RunsTo.pure
  · exact h3
theorem last_to {d a : Addr} {l : List PT} {k1 k2 : Nat} {s s1 s2 : SharedT} {q : Pos} (hl : l ≠ []) (h17 : l.length < 17)
    (h1 : RunsTo tb p w n₀ ann k1 (subDict l) s q a s1 q) (h2 : RunsTo tb p w n₀ ann k2 (mergeMapping d (.ref a) false) s1 q () s2 q) :
    RunsTo tb p w n₀ ann (k1 + k2) (forIn (l.map some1 ++ []) (some d, []) dd.f >>= dd.fin) s q (.ref d) s2 q := by
  rw [acc_all _ _ l [] (by simpa using h17), List.nil_append]
  refine (RunsTo.bind (k := 0) (k' := k1 + k2) (a := (some d, l)) (s' := s) (q' := q) ?_ ?_).cast (by omega)
  · exact RunsTo.pure
  obtain ⟨hd, e⟩ := fin_rest d l hl
  rw [e]
  refine (RunsTo.bind (k := k1 + k2) (k' := 0) (a := some d) (s' := s2) (q' := q) ?_ ?_).cast rfl
  · refine RunsTo.bind (k := k1) (k' := k2) (rt_holding h1) ?_
    refine (RunsTo.bind (k := k2) (k' := 0) (rt_onRaise (rt_holding h2)) ?_).cast rfl
    exact RunsTo.pure
  · exact RunsTo.pure
end
end Mine

end
section
open PySem PySem.W
set_option Elab.async false
set_option maxRecDepth 100000
set_option maxHeartbeats 0
namespace Mine
noncomputable def ps : List PT := its.map fun x => (x.1.getD x.2, x.2)
noncomputable def psj (j : Nat) : List PT := (ps.drop (17 * j)).take 17
theorem its_ps : its = ps.map some1 := by kernel_rfl
theorem ps_len : ps.length = 650 := by kernel_rfl
theorem b3_len : b3e.length = 650 := by kernel_rfl
theorem psj_len {j : Nat} (h : j < 38) : (psj j).length = 17 := by
  unfold psj
  rw [List.length_take, List.length_drop, ps_len]
  omega
theorem ps_seg (j : Nat) : ps.drop (17 * j) = psj j ++ ps.drop (17 * (j + 1)) := by
  unfold psj
  rw [Nat.mul_succ, ← List.drop_drop, List.take_append_drop]
def rising : List DictEntry → Bool
  | a :: b :: r => decide (a.hash < b.hash) && rising (b :: r)
  | _ => true
theorem rising_pw : ∀ {l : List DictEntry}, rising l = true → l.Pairwise (fun x y => x.hash < y.hash)
  | [], _ => .nil
  | [a], _ => by simp
  | a :: b :: r, h => by
    simp only [rising, Bool.and_eq_true, decide_eq_true_eq] at h
    have ih := rising_pw h.2
    refine List.pairwise_cons.mpr ⟨fun x hx => ?_, ih⟩
    rcases List.mem_cons.mp hx with rfl | hx
    · exact h.1
    · exact Int.lt_trans h.1 ((List.pairwise_cons.mp ih).1 x hx)
theorem b3_rising : rising b3e = true := by kernel_rfl
theorem b3_pw : b3e.Pairwise (fun x y => x.hash ≠ y.hash) := (rising_pw b3_rising).imp (fun h => Int.ne_of_lt h)
theorem mkEs_int (c : Nat) : ∀ (t : Nat) (ks : List (Option Expr)) (vs : List Expr), ∀ e ∈ mkEs c t ks vs, isIntKey e
  | t, [], vs => fun e h => by simp [mkEs] at h
  | t, k :: ks, [] => fun e h => by simp [mkEs] at h
  | t, k :: ks, v :: vs => fun e h => by
    simp only [mkEs, List.mem_cons] at h
    rcases h with rfl | h
    · exact ⟨_, _, rfl⟩
    · exact mkEs_int c _ ks vs e h
theorem b3_int : ∀ e ∈ b3e, isIntKey e := fun e h => by
  unfold b3e at h
  rcases List.mem_append.mp h with h | h <;> exact mkEs_int _ _ _ _ e h
section
variable {p : Program} {w : World} {ann : Option Value} {tb : String → Option Builtin}
theorem mrg {j : Nat} {T T' : BT} {n k : Nat} {os : OsState} {q : Pos} {o : Obj} {c : Nat} (hj : 1 ≤ j) (hc : ((b3e.drop (17 * j)).take 17).length = c) (ho : o = dObj ((b3e.drop (17 * j)).take 17) c)
    (hT : T.get 40 = some (dictN (17 * j))) (hS : T.get (40 + j) = some o) (hn : 40 + j < n) (hT' : T.set 40 (fun _ => dictN (17 * j + c)) = T') :
    RunsTo tb p w 11 ann (5 + 6 * c) (mergeMapping 40 (.ref (40 + j)) false) (stT T n k os) q () (stT T' n k os) q := by
  subst ho
  have e : b3e.take (17 * j) ++ (b3e.drop (17 * j)).take 17 = b3e.take (17 * j + c) := by
    rw [List.take_add, ← hc]
    congr 1
    rw [List.take_eq_take_iff]
    simp [List.length_take]
  have n1 : (40 + j : Nat) ≠ 40 := by omega
  have n2 : (40 + j : Nat) ≠ sysModules := by show (40 + j : Nat) ≠ 1; omega
  have z := merge_run (tb := tb) (p := p) (w := w) (n₀ := 11) (ann := ann) (d := 40) (a := 40 + j) (sub := (b3e.drop (17 * j)).take 17) (es := b3e.take (17 * j)) (ep := c) (m := 17 * j) (q := q) (s := stT T n k os)
    (by decide) n1 n2 (show (40 : Nat) < n by omega) hn
    (fun h => by have := congrArg List.length h; rw [List.length_take, b3_len] at this; simp at this; omega) hT hS
    (fun e h => b3_int e (List.mem_of_mem_drop (List.mem_of_mem_take h))) (by rw [e]; exact b3_pw.sublist (List.take_sublist _ _))
    (by rw [List.length_take, List.length_take, List.length_drop, b3_len, sizeLine_eq]; omega)
  rw [hc, e] at z
  have : setD (stT T n k os) 40 (b3e.take (17 * j + c)) (17 * j + c) = stT T' n k os := by
    subst hT'; rfl
  rw [this] at z
  exact z
end
end Mine

end
section
open PySem PySem.W
set_option Elab.async false
set_option maxRecDepth 100000
set_option maxHeartbeats 0
namespace Mine
noncomputable abbrev dq : Pos := dPos (top 4)
theorem den_tw : denote treeTable = Fast.tw11892475500146522536 Fast.tw14364793385576792824 := by rw [Fast.te11892475500146522536, Fast.te14364793385576792824]
noncomputable abbrev W (w : World) (b : Bool) : World := w.withFollow "special-get-raises" b
noncomputable abbrev rcT (w : World) := runC (denote treeTable) pw w 11 1000 8

theorem sub_0 (w : World) (b : Bool) (os : OsState) : runS pw (W w b) 11 (rcT (W w b)) 1000 1000 (subDict (psj 0)) (stT (t_p4 (W w b).params) 40 263 os) dq = some (777, 40, stT (t_a0 17 (W w b).params) 41 314 os, dq) := by
  unfold rcT; rw [den_tw]; cases b <;> kernel_rfl
theorem sub_1 (w : World) (b : Bool) (os : OsState) : runS pw (W w b) 11 (rcT (W w b)) 1000 1000 (subDict (psj 1)) (stT (t_a0 17 (W w b).params) 41 314 os) dq = some (777, 41, stT (t_a1 17 (W w b).params) 42 365 os, dq) := by
  unfold rcT; rw [den_tw]; cases b <;> kernel_rfl
theorem sub_2 (w : World) (b : Bool) (os : OsState) : runS pw (W w b) 11 (rcT (W w b)) 1000 1000 (subDict (psj 2)) (stT (t_a1 34 (W w b).params) 42 365 os) dq = some (777, 42, stT (t_a2 34 (W w b).params) 43 416 os, dq) := by
  unfold rcT; rw [den_tw]; cases b <;> kernel_rfl
theorem sub_3 (w : World) (b : Bool) (os : OsState) : runS pw (W w b) 11 (rcT (W w b)) 1000 1000 (subDict (psj 3)) (stT (t_a2 51 (W w b).params) 43 416 os) dq = some (777, 43, stT (t_a3 51 (W w b).params) 44 467 os, dq) := by
  unfold rcT; rw [den_tw]; cases b <;> kernel_rfl
theorem sub_4 (w : World) (b : Bool) (os : OsState) : runS pw (W w b) 11 (rcT (W w b)) 1000 1000 (subDict (psj 4)) (stT (t_a3 68 (W w b).params) 44 467 os) dq = some (777, 44, stT (t_a4 68 (W w b).params) 45 518 os, dq) := by
  unfold rcT; rw [den_tw]; cases b <;> kernel_rfl
theorem sub_5 (w : World) (b : Bool) (os : OsState) : runS pw (W w b) 11 (rcT (W w b)) 1000 1000 (subDict (psj 5)) (stT (t_a4 85 (W w b).params) 45 518 os) dq = some (777, 45, stT (t_a5 85 (W w b).params) 46 569 os, dq) := by
  unfold rcT; rw [den_tw]; cases b <;> kernel_rfl
theorem sub_6 (w : World) (b : Bool) (os : OsState) : runS pw (W w b) 11 (rcT (W w b)) 1000 1000 (subDict (psj 6)) (stT (t_a5 102 (W w b).params) 46 569 os) dq = some (777, 46, stT (t_a6 102 (W w b).params) 47 620 os, dq) := by
  unfold rcT; rw [den_tw]; cases b <;> kernel_rfl
theorem sub_7 (w : World) (b : Bool) (os : OsState) : runS pw (W w b) 11 (rcT (W w b)) 1000 1000 (subDict (psj 7)) (stT (t_a6 119 (W w b).params) 47 620 os) dq = some (777, 47, stT (t_a7 119 (W w b).params) 48 671 os, dq) := by
  unfold rcT; rw [den_tw]; cases b <;> kernel_rfl
theorem sub_8 (w : World) (b : Bool) (os : OsState) : runS pw (W w b) 11 (rcT (W w b)) 1000 1000 (subDict (psj 8)) (stT (t_a7 136 (W w b).params) 48 671 os) dq = some (777, 48, stT (t_a8 136 (W w b).params) 49 722 os, dq) := by
  unfold rcT; rw [den_tw]; cases b <;> kernel_rfl
theorem sub_9 (w : World) (b : Bool) (os : OsState) : runS pw (W w b) 11 (rcT (W w b)) 1000 1000 (subDict (psj 9)) (stT (t_a8 153 (W w b).params) 49 722 os) dq = some (777, 49, stT (t_a9 153 (W w b).params) 50 773 os, dq) := by
  unfold rcT; rw [den_tw]; cases b <;> kernel_rfl
theorem sub_10 (w : World) (b : Bool) (os : OsState) : runS pw (W w b) 11 (rcT (W w b)) 1000 1000 (subDict (psj 10)) (stT (t_a9 170 (W w b).params) 50 773 os) dq = some (777, 50, stT (t_a10 170 (W w b).params) 51 824 os, dq) := by
  unfold rcT; rw [den_tw]; cases b <;> kernel_rfl
theorem sub_11 (w : World) (b : Bool) (os : OsState) : runS pw (W w b) 11 (rcT (W w b)) 1000 1000 (subDict (psj 11)) (stT (t_a10 187 (W w b).params) 51 824 os) dq = some (777, 51, stT (t_a11 187 (W w b).params) 52 875 os, dq) := by
  unfold rcT; rw [den_tw]; cases b <;> kernel_rfl
theorem sub_12 (w : World) (b : Bool) (os : OsState) : runS pw (W w b) 11 (rcT (W w b)) 1000 1000 (subDict (psj 12)) (stT (t_a11 204 (W w b).params) 52 875 os) dq = some (777, 52, stT (t_a12 204 (W w b).params) 53 926 os, dq) := by
  unfold rcT; rw [den_tw]; cases b <;> kernel_rfl
theorem sub_13 (w : World) (b : Bool) (os : OsState) : runS pw (W w b) 11 (rcT (W w b)) 1000 1000 (subDict (psj 13)) (stT (t_a12 221 (W w b).params) 53 926 os) dq = some (777, 53, stT (t_a13 221 (W w b).params) 54 977 os, dq) := by
  unfold rcT; rw [den_tw]; cases b <;> kernel_rfl
theorem sub_14 (w : World) (b : Bool) (os : OsState) : runS pw (W w b) 11 (rcT (W w b)) 1000 1000 (subDict (psj 14)) (stT (t_a13 238 (W w b).params) 54 977 os) dq = some (777, 54, stT (t_a14 238 (W w b).params) 55 1028 os, dq) := by
  unfold rcT; rw [den_tw]; cases b <;> kernel_rfl
theorem sub_15 (w : World) (b : Bool) (os : OsState) : runS pw (W w b) 11 (rcT (W w b)) 1000 1000 (subDict (psj 15)) (stT (t_a14 255 (W w b).params) 55 1028 os) dq = some (777, 55, stT (t_a15 255 (W w b).params) 56 1079 os, dq) := by
  unfold rcT; rw [den_tw]; cases b <;> kernel_rfl
theorem sub_16 (w : World) (b : Bool) (os : OsState) : runS pw (W w b) 11 (rcT (W w b)) 1000 1000 (subDict (psj 16)) (stT (t_a15 272 (W w b).params) 56 1079 os) dq = some (777, 56, stT (t_a16 272 (W w b).params) 57 1130 os, dq) := by
  unfold rcT; rw [den_tw]; cases b <;> kernel_rfl
theorem sub_17 (w : World) (b : Bool) (os : OsState) : runS pw (W w b) 11 (rcT (W w b)) 1000 1000 (subDict (psj 17)) (stT (t_a16 289 (W w b).params) 57 1130 os) dq = some (777, 57, stT (t_a17 289 (W w b).params) 58 1181 os, dq) := by
  unfold rcT; rw [den_tw]; cases b <;> kernel_rfl
theorem sub_18 (w : World) (b : Bool) (os : OsState) : runS pw (W w b) 11 (rcT (W w b)) 1000 1000 (subDict (psj 18)) (stT (t_a17 306 (W w b).params) 58 1181 os) dq = some (777, 58, stT (t_a18 306 (W w b).params) 59 1232 os, dq) := by
  unfold rcT; rw [den_tw]; cases b <;> kernel_rfl
theorem sub_19 (w : World) (b : Bool) (os : OsState) : runS pw (W w b) 11 (rcT (W w b)) 1000 1000 (subDict (psj 19)) (stT (t_a18 323 (W w b).params) 59 1232 os) dq = some (777, 59, stT (t_a19 323 (W w b).params) 60 1283 os, dq) := by
  unfold rcT; rw [den_tw]; cases b <;> kernel_rfl
theorem sub_20 (w : World) (b : Bool) (os : OsState) : runS pw (W w b) 11 (rcT (W w b)) 1000 1000 (subDict (psj 20)) (stT (t_a19 340 (W w b).params) 60 1283 os) dq = some (777, 60, stT (t_a20 340 (W w b).params) 61 1334 os, dq) := by
  unfold rcT; rw [den_tw]; cases b <;> kernel_rfl
theorem sub_21 (w : World) (b : Bool) (os : OsState) : runS pw (W w b) 11 (rcT (W w b)) 1000 1000 (subDict (psj 21)) (stT (t_a20 357 (W w b).params) 61 1334 os) dq = some (777, 61, stT (t_a21 357 (W w b).params) 62 1385 os, dq) := by
  unfold rcT; rw [den_tw]; cases b <;> kernel_rfl
theorem sub_22 (w : World) (b : Bool) (os : OsState) : runS pw (W w b) 11 (rcT (W w b)) 1000 1000 (subDict (psj 22)) (stT (t_a21 374 (W w b).params) 62 1385 os) dq = some (777, 62, stT (t_a22 374 (W w b).params) 63 1436 os, dq) := by
  unfold rcT; rw [den_tw]; cases b <;> kernel_rfl
theorem sub_23 (w : World) (b : Bool) (os : OsState) : runS pw (W w b) 11 (rcT (W w b)) 1000 1000 (subDict (psj 23)) (stT (t_a22 391 (W w b).params) 63 1436 os) dq = some (777, 63, stT (t_a23 391 (W w b).params) 64 1487 os, dq) := by
  unfold rcT; rw [den_tw]; cases b <;> kernel_rfl
theorem sub_24 (w : World) (b : Bool) (os : OsState) : runS pw (W w b) 11 (rcT (W w b)) 1000 1000 (subDict (psj 24)) (stT (t_a23 408 (W w b).params) 64 1487 os) dq = some (777, 64, stT (t_a24 408 (W w b).params) 65 1538 os, dq) := by
  unfold rcT; rw [den_tw]; cases b <;> kernel_rfl
theorem sub_25 (w : World) (b : Bool) (os : OsState) : runS pw (W w b) 11 (rcT (W w b)) 1000 1000 (subDict (psj 25)) (stT (t_a24 425 (W w b).params) 65 1538 os) dq = some (777, 65, stT (t_a25 425 (W w b).params) 66 1589 os, dq) := by
  unfold rcT; rw [den_tw]; cases b <;> kernel_rfl
theorem sub_26 (w : World) (b : Bool) (os : OsState) : runS pw (W w b) 11 (rcT (W w b)) 1000 1000 (subDict (psj 26)) (stT (t_a25 442 (W w b).params) 66 1589 os) dq = some (777, 66, stT (t_a26 442 (W w b).params) 67 1640 os, dq) := by
  unfold rcT; rw [den_tw]; cases b <;> kernel_rfl
theorem sub_27 (w : World) (b : Bool) (os : OsState) : runS pw (W w b) 11 (rcT (W w b)) 1000 1000 (subDict (psj 27)) (stT (t_a26 459 (W w b).params) 67 1640 os) dq = some (777, 67, stT (t_a27 459 (W w b).params) 68 1691 os, dq) := by
  unfold rcT; rw [den_tw]; cases b <;> kernel_rfl
theorem sub_28 (w : World) (b : Bool) (os : OsState) : runS pw (W w b) 11 (rcT (W w b)) 1000 1000 (subDict (psj 28)) (stT (t_a27 476 (W w b).params) 68 1691 os) dq = some (777, 68, stT (t_a28 476 (W w b).params) 69 1742 os, dq) := by
  unfold rcT; rw [den_tw]; cases b <;> kernel_rfl
theorem sub_29 (w : World) (b : Bool) (os : OsState) : runS pw (W w b) 11 (rcT (W w b)) 1000 1000 (subDict (psj 29)) (stT (t_a28 493 (W w b).params) 69 1742 os) dq = some (777, 69, stT (t_a29 493 (W w b).params) 70 1793 os, dq) := by
  unfold rcT; rw [den_tw]; cases b <;> kernel_rfl
theorem sub_30 (w : World) (b : Bool) (os : OsState) : runS pw (W w b) 11 (rcT (W w b)) 1000 1000 (subDict (psj 30)) (stT (t_a29 510 (W w b).params) 70 1793 os) dq = some (777, 70, stT (t_a30 510 (W w b).params) 71 1844 os, dq) := by
  unfold rcT; rw [den_tw]; cases b <;> kernel_rfl
theorem sub_31 (w : World) (b : Bool) (os : OsState) : runS pw (W w b) 11 (rcT (W w b)) 1000 1000 (subDict (psj 31)) (stT (t_a30 527 (W w b).params) 71 1844 os) dq = some (777, 71, stT (t_a31 527 (W w b).params) 72 1895 os, dq) := by
  unfold rcT; rw [den_tw]; cases b <;> kernel_rfl
theorem sub_32 (w : World) (b : Bool) (os : OsState) : runS pw (W w b) 11 (rcT (W w b)) 1000 1000 (subDict (psj 32)) (stT (t_a31 544 (W w b).params) 72 1895 os) dq = some (777, 72, stT (t_a32 544 (W w b).params) 73 1946 os, dq) := by
  unfold rcT; rw [den_tw]; cases b <;> kernel_rfl
theorem sub_33 (w : World) (b : Bool) (os : OsState) : runS pw (W w b) 11 (rcT (W w b)) 1000 1000 (subDict (psj 33)) (stT (t_a32 561 (W w b).params) 73 1946 os) dq = some (777, 73, stT (t_a33 561 (W w b).params) 74 1997 os, dq) := by
  unfold rcT; rw [den_tw]; cases b <;> kernel_rfl
theorem sub_34 (w : World) (b : Bool) (os : OsState) : runS pw (W w b) 11 (rcT (W w b)) 1000 1000 (subDict (psj 34)) (stT (t_a33 578 (W w b).params) 74 1997 os) dq = some (777, 74, stT (t_a34 578 (W w b).params) 75 2048 os, dq) := by
  unfold rcT; rw [den_tw]; cases b <;> kernel_rfl
theorem sub_35 (w : World) (b : Bool) (os : OsState) : runS pw (W w b) 11 (rcT (W w b)) 1000 1000 (subDict (psj 35)) (stT (t_a34 595 (W w b).params) 75 2048 os) dq = some (777, 75, stT (t_a35 595 (W w b).params) 76 2099 os, dq) := by
  unfold rcT; rw [den_tw]; cases b <;> kernel_rfl
theorem sub_36 (w : World) (b : Bool) (os : OsState) : runS pw (W w b) 11 (rcT (W w b)) 1000 1000 (subDict (psj 36)) (stT (t_a35 612 (W w b).params) 76 2099 os) dq = some (777, 76, stT (t_a36 612 (W w b).params) 77 2150 os, dq) := by
  unfold rcT; rw [den_tw]; cases b <;> kernel_rfl
theorem sub_37 (w : World) (b : Bool) (os : OsState) : runS pw (W w b) 11 (rcT (W w b)) 1000 1000 (subDict (psj 37)) (stT (t_a36 629 (W w b).params) 77 2150 os) dq = some (777, 77, stT (t_a37 629 (W w b).params) 78 2201 os, dq) := by
  unfold rcT; rw [den_tw]; cases b <;> kernel_rfl
theorem sub_38 (w : World) (b : Bool) (os : OsState) : runS pw (W w b) 11 (rcT (W w b)) 1000 1000 (subDict (psj 38)) (stT (t_a37 646 (W w b).params) 78 2201 os) dq = some (947, 78, stT (t_a38 646 (W w b).params) 79 2213 os, dq) := by
  unfold rcT; rw [den_tw]; cases b <;> kernel_rfl
end Mine

end
section
open PySem PySem.W
set_option Elab.async false
set_option maxRecDepth 100000
set_option maxHeartbeats 0
namespace Mine
noncomputable abbrev SE (w : World) (b : Bool) (os : OsState) : SharedT := stT (t_a38 650 (W w b).params) 79 2213 os
noncomputable abbrev RD (w : World) (b : Bool) {α : Type} (k : Nat) (m : Sem α) (s : SharedT) (q : Pos) (a : α) (s' : SharedT) (q' : Pos) : Prop := RunsTo treeTable pw (W w b) 11 ann k m s q a s' q'
theorem ps_last : ps.drop (17 * 38) = psj 38 := by
  unfold psj
  rw [List.take_of_length_le]
  rw [List.length_drop, ps_len]
  decide
theorem psj38_len : (psj 38).length = 4 := by
  unfold psj
  rw [List.length_take, List.length_drop, ps_len]
  rfl
theorem ch_38 (w : World) (b : Bool) (os : OsState) : RD w b 82 (forIn ((ps.drop (17 * 38)).map some1) (some 40, []) dd.f >>= dd.fin) (stT (t_a37 646 (W w b).params) 78 2201 os) dq (.ref 40) (SE w b os) dq := by
  rw [ps_last, ← List.append_nil ((psj 38).map some1)]
  exact (last_to (fun h => by have := psj38_len; rw [h] at this; cases this) (by rw [psj38_len]; decide) (RunsTo.of (sub_38 w b os))
    (mrg (j := 38) (c := 4) (T := t_a38 646 (W w b).params) (T' := t_a38 650 (W w b).params) (by decide) (by rw [List.length_take, List.length_drop, b3_len]; rfl) rfl (by kernel_rfl) (by kernel_rfl) (by decide) (by kernel_rfl))).cast rfl

theorem ch_37 (w : World) (b : Bool) (os : OsState) : RD w b 412 (forIn ((ps.drop (17 * 37)).map some1) (some 40, []) dd.f >>= dd.fin) (stT (t_a36 629 (W w b).params) 77 2150 os) dq (.ref 40) (SE w b os) dq := by
  rw [ps_seg, List.map_append]
  exact (chunk_to (psj_len (by decide)) (RunsTo.of (sub_37 w b os)) (mrg (j := 37) (c := 17) (T := t_a37 629 (W w b).params) (T' := t_a37 646 (W w b).params) (by decide) (by rw [List.length_take, List.length_drop, b3_len]; rfl) rfl (by kernel_rfl) (by kernel_rfl) (by decide) (by kernel_rfl)) (ch_38 w b os)).cast rfl
theorem ch_36 (w : World) (b : Bool) (os : OsState) : RD w b 742 (forIn ((ps.drop (17 * 36)).map some1) (some 40, []) dd.f >>= dd.fin) (stT (t_a35 612 (W w b).params) 76 2099 os) dq (.ref 40) (SE w b os) dq := by
  rw [ps_seg, List.map_append]
  exact (chunk_to (psj_len (by decide)) (RunsTo.of (sub_36 w b os)) (mrg (j := 36) (c := 17) (T := t_a36 612 (W w b).params) (T' := t_a36 629 (W w b).params) (by decide) (by rw [List.length_take, List.length_drop, b3_len]; rfl) rfl (by kernel_rfl) (by kernel_rfl) (by decide) (by kernel_rfl)) (ch_37 w b os)).cast rfl
theorem ch_35 (w : World) (b : Bool) (os : OsState) : RD w b 1072 (forIn ((ps.drop (17 * 35)).map some1) (some 40, []) dd.f >>= dd.fin) (stT (t_a34 595 (W w b).params) 75 2048 os) dq (.ref 40) (SE w b os) dq := by
  rw [ps_seg, List.map_append]
  exact (chunk_to (psj_len (by decide)) (RunsTo.of (sub_35 w b os)) (mrg (j := 35) (c := 17) (T := t_a35 595 (W w b).params) (T' := t_a35 612 (W w b).params) (by decide) (by rw [List.length_take, List.length_drop, b3_len]; rfl) rfl (by kernel_rfl) (by kernel_rfl) (by decide) (by kernel_rfl)) (ch_36 w b os)).cast rfl
theorem ch_34 (w : World) (b : Bool) (os : OsState) : RD w b 1402 (forIn ((ps.drop (17 * 34)).map some1) (some 40, []) dd.f >>= dd.fin) (stT (t_a33 578 (W w b).params) 74 1997 os) dq (.ref 40) (SE w b os) dq := by
  rw [ps_seg, List.map_append]
  exact (chunk_to (psj_len (by decide)) (RunsTo.of (sub_34 w b os)) (mrg (j := 34) (c := 17) (T := t_a34 578 (W w b).params) (T' := t_a34 595 (W w b).params) (by decide) (by rw [List.length_take, List.length_drop, b3_len]; rfl) rfl (by kernel_rfl) (by kernel_rfl) (by decide) (by kernel_rfl)) (ch_35 w b os)).cast rfl
theorem ch_33 (w : World) (b : Bool) (os : OsState) : RD w b 1732 (forIn ((ps.drop (17 * 33)).map some1) (some 40, []) dd.f >>= dd.fin) (stT (t_a32 561 (W w b).params) 73 1946 os) dq (.ref 40) (SE w b os) dq := by
  rw [ps_seg, List.map_append]
  exact (chunk_to (psj_len (by decide)) (RunsTo.of (sub_33 w b os)) (mrg (j := 33) (c := 17) (T := t_a33 561 (W w b).params) (T' := t_a33 578 (W w b).params) (by decide) (by rw [List.length_take, List.length_drop, b3_len]; rfl) rfl (by kernel_rfl) (by kernel_rfl) (by decide) (by kernel_rfl)) (ch_34 w b os)).cast rfl
theorem ch_32 (w : World) (b : Bool) (os : OsState) : RD w b 2062 (forIn ((ps.drop (17 * 32)).map some1) (some 40, []) dd.f >>= dd.fin) (stT (t_a31 544 (W w b).params) 72 1895 os) dq (.ref 40) (SE w b os) dq := by
  rw [ps_seg, List.map_append]
  exact (chunk_to (psj_len (by decide)) (RunsTo.of (sub_32 w b os)) (mrg (j := 32) (c := 17) (T := t_a32 544 (W w b).params) (T' := t_a32 561 (W w b).params) (by decide) (by rw [List.length_take, List.length_drop, b3_len]; rfl) rfl (by kernel_rfl) (by kernel_rfl) (by decide) (by kernel_rfl)) (ch_33 w b os)).cast rfl
theorem ch_31 (w : World) (b : Bool) (os : OsState) : RD w b 2392 (forIn ((ps.drop (17 * 31)).map some1) (some 40, []) dd.f >>= dd.fin) (stT (t_a30 527 (W w b).params) 71 1844 os) dq (.ref 40) (SE w b os) dq := by
  rw [ps_seg, List.map_append]
  exact (chunk_to (psj_len (by decide)) (RunsTo.of (sub_31 w b os)) (mrg (j := 31) (c := 17) (T := t_a31 527 (W w b).params) (T' := t_a31 544 (W w b).params) (by decide) (by rw [List.length_take, List.length_drop, b3_len]; rfl) rfl (by kernel_rfl) (by kernel_rfl) (by decide) (by kernel_rfl)) (ch_32 w b os)).cast rfl
theorem ch_30 (w : World) (b : Bool) (os : OsState) : RD w b 2722 (forIn ((ps.drop (17 * 30)).map some1) (some 40, []) dd.f >>= dd.fin) (stT (t_a29 510 (W w b).params) 70 1793 os) dq (.ref 40) (SE w b os) dq := by
  rw [ps_seg, List.map_append]
  exact (chunk_to (psj_len (by decide)) (RunsTo.of (sub_30 w b os)) (mrg (j := 30) (c := 17) (T := t_a30 510 (W w b).params) (T' := t_a30 527 (W w b).params) (by decide) (by rw [List.length_take, List.length_drop, b3_len]; rfl) rfl (by kernel_rfl) (by kernel_rfl) (by decide) (by kernel_rfl)) (ch_31 w b os)).cast rfl
theorem ch_29 (w : World) (b : Bool) (os : OsState) : RD w b 3052 (forIn ((ps.drop (17 * 29)).map some1) (some 40, []) dd.f >>= dd.fin) (stT (t_a28 493 (W w b).params) 69 1742 os) dq (.ref 40) (SE w b os) dq := by
  rw [ps_seg, List.map_append]
  exact (chunk_to (psj_len (by decide)) (RunsTo.of (sub_29 w b os)) (mrg (j := 29) (c := 17) (T := t_a29 493 (W w b).params) (T' := t_a29 510 (W w b).params) (by decide) (by rw [List.length_take, List.length_drop, b3_len]; rfl) rfl (by kernel_rfl) (by kernel_rfl) (by decide) (by kernel_rfl)) (ch_30 w b os)).cast rfl
theorem ch_28 (w : World) (b : Bool) (os : OsState) : RD w b 3382 (forIn ((ps.drop (17 * 28)).map some1) (some 40, []) dd.f >>= dd.fin) (stT (t_a27 476 (W w b).params) 68 1691 os) dq (.ref 40) (SE w b os) dq := by
  rw [ps_seg, List.map_append]
  exact (chunk_to (psj_len (by decide)) (RunsTo.of (sub_28 w b os)) (mrg (j := 28) (c := 17) (T := t_a28 476 (W w b).params) (T' := t_a28 493 (W w b).params) (by decide) (by rw [List.length_take, List.length_drop, b3_len]; rfl) rfl (by kernel_rfl) (by kernel_rfl) (by decide) (by kernel_rfl)) (ch_29 w b os)).cast rfl
theorem ch_27 (w : World) (b : Bool) (os : OsState) : RD w b 3712 (forIn ((ps.drop (17 * 27)).map some1) (some 40, []) dd.f >>= dd.fin) (stT (t_a26 459 (W w b).params) 67 1640 os) dq (.ref 40) (SE w b os) dq := by
  rw [ps_seg, List.map_append]
  exact (chunk_to (psj_len (by decide)) (RunsTo.of (sub_27 w b os)) (mrg (j := 27) (c := 17) (T := t_a27 459 (W w b).params) (T' := t_a27 476 (W w b).params) (by decide) (by rw [List.length_take, List.length_drop, b3_len]; rfl) rfl (by kernel_rfl) (by kernel_rfl) (by decide) (by kernel_rfl)) (ch_28 w b os)).cast rfl
theorem ch_26 (w : World) (b : Bool) (os : OsState) : RD w b 4042 (forIn ((ps.drop (17 * 26)).map some1) (some 40, []) dd.f >>= dd.fin) (stT (t_a25 442 (W w b).params) 66 1589 os) dq (.ref 40) (SE w b os) dq := by
  rw [ps_seg, List.map_append]
  exact (chunk_to (psj_len (by decide)) (RunsTo.of (sub_26 w b os)) (mrg (j := 26) (c := 17) (T := t_a26 442 (W w b).params) (T' := t_a26 459 (W w b).params) (by decide) (by rw [List.length_take, List.length_drop, b3_len]; rfl) rfl (by kernel_rfl) (by kernel_rfl) (by decide) (by kernel_rfl)) (ch_27 w b os)).cast rfl
theorem ch_25 (w : World) (b : Bool) (os : OsState) : RD w b 4372 (forIn ((ps.drop (17 * 25)).map some1) (some 40, []) dd.f >>= dd.fin) (stT (t_a24 425 (W w b).params) 65 1538 os) dq (.ref 40) (SE w b os) dq := by
  rw [ps_seg, List.map_append]
  exact (chunk_to (psj_len (by decide)) (RunsTo.of (sub_25 w b os)) (mrg (j := 25) (c := 17) (T := t_a25 425 (W w b).params) (T' := t_a25 442 (W w b).params) (by decide) (by rw [List.length_take, List.length_drop, b3_len]; rfl) rfl (by kernel_rfl) (by kernel_rfl) (by decide) (by kernel_rfl)) (ch_26 w b os)).cast rfl
theorem ch_24 (w : World) (b : Bool) (os : OsState) : RD w b 4702 (forIn ((ps.drop (17 * 24)).map some1) (some 40, []) dd.f >>= dd.fin) (stT (t_a23 408 (W w b).params) 64 1487 os) dq (.ref 40) (SE w b os) dq := by
  rw [ps_seg, List.map_append]
  exact (chunk_to (psj_len (by decide)) (RunsTo.of (sub_24 w b os)) (mrg (j := 24) (c := 17) (T := t_a24 408 (W w b).params) (T' := t_a24 425 (W w b).params) (by decide) (by rw [List.length_take, List.length_drop, b3_len]; rfl) rfl (by kernel_rfl) (by kernel_rfl) (by decide) (by kernel_rfl)) (ch_25 w b os)).cast rfl
theorem ch_23 (w : World) (b : Bool) (os : OsState) : RD w b 5032 (forIn ((ps.drop (17 * 23)).map some1) (some 40, []) dd.f >>= dd.fin) (stT (t_a22 391 (W w b).params) 63 1436 os) dq (.ref 40) (SE w b os) dq := by
  rw [ps_seg, List.map_append]
  exact (chunk_to (psj_len (by decide)) (RunsTo.of (sub_23 w b os)) (mrg (j := 23) (c := 17) (T := t_a23 391 (W w b).params) (T' := t_a23 408 (W w b).params) (by decide) (by rw [List.length_take, List.length_drop, b3_len]; rfl) rfl (by kernel_rfl) (by kernel_rfl) (by decide) (by kernel_rfl)) (ch_24 w b os)).cast rfl
theorem ch_22 (w : World) (b : Bool) (os : OsState) : RD w b 5362 (forIn ((ps.drop (17 * 22)).map some1) (some 40, []) dd.f >>= dd.fin) (stT (t_a21 374 (W w b).params) 62 1385 os) dq (.ref 40) (SE w b os) dq := by
  rw [ps_seg, List.map_append]
  exact (chunk_to (psj_len (by decide)) (RunsTo.of (sub_22 w b os)) (mrg (j := 22) (c := 17) (T := t_a22 374 (W w b).params) (T' := t_a22 391 (W w b).params) (by decide) (by rw [List.length_take, List.length_drop, b3_len]; rfl) rfl (by kernel_rfl) (by kernel_rfl) (by decide) (by kernel_rfl)) (ch_23 w b os)).cast rfl
theorem ch_21 (w : World) (b : Bool) (os : OsState) : RD w b 5692 (forIn ((ps.drop (17 * 21)).map some1) (some 40, []) dd.f >>= dd.fin) (stT (t_a20 357 (W w b).params) 61 1334 os) dq (.ref 40) (SE w b os) dq := by
  rw [ps_seg, List.map_append]
  exact (chunk_to (psj_len (by decide)) (RunsTo.of (sub_21 w b os)) (mrg (j := 21) (c := 17) (T := t_a21 357 (W w b).params) (T' := t_a21 374 (W w b).params) (by decide) (by rw [List.length_take, List.length_drop, b3_len]; rfl) rfl (by kernel_rfl) (by kernel_rfl) (by decide) (by kernel_rfl)) (ch_22 w b os)).cast rfl
theorem ch_20 (w : World) (b : Bool) (os : OsState) : RD w b 6022 (forIn ((ps.drop (17 * 20)).map some1) (some 40, []) dd.f >>= dd.fin) (stT (t_a19 340 (W w b).params) 60 1283 os) dq (.ref 40) (SE w b os) dq := by
  rw [ps_seg, List.map_append]
  exact (chunk_to (psj_len (by decide)) (RunsTo.of (sub_20 w b os)) (mrg (j := 20) (c := 17) (T := t_a20 340 (W w b).params) (T' := t_a20 357 (W w b).params) (by decide) (by rw [List.length_take, List.length_drop, b3_len]; rfl) rfl (by kernel_rfl) (by kernel_rfl) (by decide) (by kernel_rfl)) (ch_21 w b os)).cast rfl
theorem ch_19 (w : World) (b : Bool) (os : OsState) : RD w b 6352 (forIn ((ps.drop (17 * 19)).map some1) (some 40, []) dd.f >>= dd.fin) (stT (t_a18 323 (W w b).params) 59 1232 os) dq (.ref 40) (SE w b os) dq := by
  rw [ps_seg, List.map_append]
  exact (chunk_to (psj_len (by decide)) (RunsTo.of (sub_19 w b os)) (mrg (j := 19) (c := 17) (T := t_a19 323 (W w b).params) (T' := t_a19 340 (W w b).params) (by decide) (by rw [List.length_take, List.length_drop, b3_len]; rfl) rfl (by kernel_rfl) (by kernel_rfl) (by decide) (by kernel_rfl)) (ch_20 w b os)).cast rfl
theorem ch_18 (w : World) (b : Bool) (os : OsState) : RD w b 6682 (forIn ((ps.drop (17 * 18)).map some1) (some 40, []) dd.f >>= dd.fin) (stT (t_a17 306 (W w b).params) 58 1181 os) dq (.ref 40) (SE w b os) dq := by
  rw [ps_seg, List.map_append]
  exact (chunk_to (psj_len (by decide)) (RunsTo.of (sub_18 w b os)) (mrg (j := 18) (c := 17) (T := t_a18 306 (W w b).params) (T' := t_a18 323 (W w b).params) (by decide) (by rw [List.length_take, List.length_drop, b3_len]; rfl) rfl (by kernel_rfl) (by kernel_rfl) (by decide) (by kernel_rfl)) (ch_19 w b os)).cast rfl
theorem ch_17 (w : World) (b : Bool) (os : OsState) : RD w b 7012 (forIn ((ps.drop (17 * 17)).map some1) (some 40, []) dd.f >>= dd.fin) (stT (t_a16 289 (W w b).params) 57 1130 os) dq (.ref 40) (SE w b os) dq := by
  rw [ps_seg, List.map_append]
  exact (chunk_to (psj_len (by decide)) (RunsTo.of (sub_17 w b os)) (mrg (j := 17) (c := 17) (T := t_a17 289 (W w b).params) (T' := t_a17 306 (W w b).params) (by decide) (by rw [List.length_take, List.length_drop, b3_len]; rfl) rfl (by kernel_rfl) (by kernel_rfl) (by decide) (by kernel_rfl)) (ch_18 w b os)).cast rfl
theorem ch_16 (w : World) (b : Bool) (os : OsState) : RD w b 7342 (forIn ((ps.drop (17 * 16)).map some1) (some 40, []) dd.f >>= dd.fin) (stT (t_a15 272 (W w b).params) 56 1079 os) dq (.ref 40) (SE w b os) dq := by
  rw [ps_seg, List.map_append]
  exact (chunk_to (psj_len (by decide)) (RunsTo.of (sub_16 w b os)) (mrg (j := 16) (c := 17) (T := t_a16 272 (W w b).params) (T' := t_a16 289 (W w b).params) (by decide) (by rw [List.length_take, List.length_drop, b3_len]; rfl) rfl (by kernel_rfl) (by kernel_rfl) (by decide) (by kernel_rfl)) (ch_17 w b os)).cast rfl
theorem ch_15 (w : World) (b : Bool) (os : OsState) : RD w b 7672 (forIn ((ps.drop (17 * 15)).map some1) (some 40, []) dd.f >>= dd.fin) (stT (t_a14 255 (W w b).params) 55 1028 os) dq (.ref 40) (SE w b os) dq := by
  rw [ps_seg, List.map_append]
  exact (chunk_to (psj_len (by decide)) (RunsTo.of (sub_15 w b os)) (mrg (j := 15) (c := 17) (T := t_a15 255 (W w b).params) (T' := t_a15 272 (W w b).params) (by decide) (by rw [List.length_take, List.length_drop, b3_len]; rfl) rfl (by kernel_rfl) (by kernel_rfl) (by decide) (by kernel_rfl)) (ch_16 w b os)).cast rfl
theorem ch_14 (w : World) (b : Bool) (os : OsState) : RD w b 8002 (forIn ((ps.drop (17 * 14)).map some1) (some 40, []) dd.f >>= dd.fin) (stT (t_a13 238 (W w b).params) 54 977 os) dq (.ref 40) (SE w b os) dq := by
  rw [ps_seg, List.map_append]
  exact (chunk_to (psj_len (by decide)) (RunsTo.of (sub_14 w b os)) (mrg (j := 14) (c := 17) (T := t_a14 238 (W w b).params) (T' := t_a14 255 (W w b).params) (by decide) (by rw [List.length_take, List.length_drop, b3_len]; rfl) rfl (by kernel_rfl) (by kernel_rfl) (by decide) (by kernel_rfl)) (ch_15 w b os)).cast rfl
theorem ch_13 (w : World) (b : Bool) (os : OsState) : RD w b 8332 (forIn ((ps.drop (17 * 13)).map some1) (some 40, []) dd.f >>= dd.fin) (stT (t_a12 221 (W w b).params) 53 926 os) dq (.ref 40) (SE w b os) dq := by
  rw [ps_seg, List.map_append]
  exact (chunk_to (psj_len (by decide)) (RunsTo.of (sub_13 w b os)) (mrg (j := 13) (c := 17) (T := t_a13 221 (W w b).params) (T' := t_a13 238 (W w b).params) (by decide) (by rw [List.length_take, List.length_drop, b3_len]; rfl) rfl (by kernel_rfl) (by kernel_rfl) (by decide) (by kernel_rfl)) (ch_14 w b os)).cast rfl
theorem ch_12 (w : World) (b : Bool) (os : OsState) : RD w b 8662 (forIn ((ps.drop (17 * 12)).map some1) (some 40, []) dd.f >>= dd.fin) (stT (t_a11 204 (W w b).params) 52 875 os) dq (.ref 40) (SE w b os) dq := by
  rw [ps_seg, List.map_append]
  exact (chunk_to (psj_len (by decide)) (RunsTo.of (sub_12 w b os)) (mrg (j := 12) (c := 17) (T := t_a12 204 (W w b).params) (T' := t_a12 221 (W w b).params) (by decide) (by rw [List.length_take, List.length_drop, b3_len]; rfl) rfl (by kernel_rfl) (by kernel_rfl) (by decide) (by kernel_rfl)) (ch_13 w b os)).cast rfl
theorem ch_11 (w : World) (b : Bool) (os : OsState) : RD w b 8992 (forIn ((ps.drop (17 * 11)).map some1) (some 40, []) dd.f >>= dd.fin) (stT (t_a10 187 (W w b).params) 51 824 os) dq (.ref 40) (SE w b os) dq := by
  rw [ps_seg, List.map_append]
  exact (chunk_to (psj_len (by decide)) (RunsTo.of (sub_11 w b os)) (mrg (j := 11) (c := 17) (T := t_a11 187 (W w b).params) (T' := t_a11 204 (W w b).params) (by decide) (by rw [List.length_take, List.length_drop, b3_len]; rfl) rfl (by kernel_rfl) (by kernel_rfl) (by decide) (by kernel_rfl)) (ch_12 w b os)).cast rfl
theorem ch_10 (w : World) (b : Bool) (os : OsState) : RD w b 9322 (forIn ((ps.drop (17 * 10)).map some1) (some 40, []) dd.f >>= dd.fin) (stT (t_a9 170 (W w b).params) 50 773 os) dq (.ref 40) (SE w b os) dq := by
  rw [ps_seg, List.map_append]
  exact (chunk_to (psj_len (by decide)) (RunsTo.of (sub_10 w b os)) (mrg (j := 10) (c := 17) (T := t_a10 170 (W w b).params) (T' := t_a10 187 (W w b).params) (by decide) (by rw [List.length_take, List.length_drop, b3_len]; rfl) rfl (by kernel_rfl) (by kernel_rfl) (by decide) (by kernel_rfl)) (ch_11 w b os)).cast rfl
theorem ch_9 (w : World) (b : Bool) (os : OsState) : RD w b 9652 (forIn ((ps.drop (17 * 9)).map some1) (some 40, []) dd.f >>= dd.fin) (stT (t_a8 153 (W w b).params) 49 722 os) dq (.ref 40) (SE w b os) dq := by
  rw [ps_seg, List.map_append]
  exact (chunk_to (psj_len (by decide)) (RunsTo.of (sub_9 w b os)) (mrg (j := 9) (c := 17) (T := t_a9 153 (W w b).params) (T' := t_a9 170 (W w b).params) (by decide) (by rw [List.length_take, List.length_drop, b3_len]; rfl) rfl (by kernel_rfl) (by kernel_rfl) (by decide) (by kernel_rfl)) (ch_10 w b os)).cast rfl
theorem ch_8 (w : World) (b : Bool) (os : OsState) : RD w b 9982 (forIn ((ps.drop (17 * 8)).map some1) (some 40, []) dd.f >>= dd.fin) (stT (t_a7 136 (W w b).params) 48 671 os) dq (.ref 40) (SE w b os) dq := by
  rw [ps_seg, List.map_append]
  exact (chunk_to (psj_len (by decide)) (RunsTo.of (sub_8 w b os)) (mrg (j := 8) (c := 17) (T := t_a8 136 (W w b).params) (T' := t_a8 153 (W w b).params) (by decide) (by rw [List.length_take, List.length_drop, b3_len]; rfl) rfl (by kernel_rfl) (by kernel_rfl) (by decide) (by kernel_rfl)) (ch_9 w b os)).cast rfl
theorem ch_7 (w : World) (b : Bool) (os : OsState) : RD w b 10312 (forIn ((ps.drop (17 * 7)).map some1) (some 40, []) dd.f >>= dd.fin) (stT (t_a6 119 (W w b).params) 47 620 os) dq (.ref 40) (SE w b os) dq := by
  rw [ps_seg, List.map_append]
  exact (chunk_to (psj_len (by decide)) (RunsTo.of (sub_7 w b os)) (mrg (j := 7) (c := 17) (T := t_a7 119 (W w b).params) (T' := t_a7 136 (W w b).params) (by decide) (by rw [List.length_take, List.length_drop, b3_len]; rfl) rfl (by kernel_rfl) (by kernel_rfl) (by decide) (by kernel_rfl)) (ch_8 w b os)).cast rfl
theorem ch_6 (w : World) (b : Bool) (os : OsState) : RD w b 10642 (forIn ((ps.drop (17 * 6)).map some1) (some 40, []) dd.f >>= dd.fin) (stT (t_a5 102 (W w b).params) 46 569 os) dq (.ref 40) (SE w b os) dq := by
  rw [ps_seg, List.map_append]
  exact (chunk_to (psj_len (by decide)) (RunsTo.of (sub_6 w b os)) (mrg (j := 6) (c := 17) (T := t_a6 102 (W w b).params) (T' := t_a6 119 (W w b).params) (by decide) (by rw [List.length_take, List.length_drop, b3_len]; rfl) rfl (by kernel_rfl) (by kernel_rfl) (by decide) (by kernel_rfl)) (ch_7 w b os)).cast rfl
theorem ch_5 (w : World) (b : Bool) (os : OsState) : RD w b 10972 (forIn ((ps.drop (17 * 5)).map some1) (some 40, []) dd.f >>= dd.fin) (stT (t_a4 85 (W w b).params) 45 518 os) dq (.ref 40) (SE w b os) dq := by
  rw [ps_seg, List.map_append]
  exact (chunk_to (psj_len (by decide)) (RunsTo.of (sub_5 w b os)) (mrg (j := 5) (c := 17) (T := t_a5 85 (W w b).params) (T' := t_a5 102 (W w b).params) (by decide) (by rw [List.length_take, List.length_drop, b3_len]; rfl) rfl (by kernel_rfl) (by kernel_rfl) (by decide) (by kernel_rfl)) (ch_6 w b os)).cast rfl
theorem ch_4 (w : World) (b : Bool) (os : OsState) : RD w b 11302 (forIn ((ps.drop (17 * 4)).map some1) (some 40, []) dd.f >>= dd.fin) (stT (t_a3 68 (W w b).params) 44 467 os) dq (.ref 40) (SE w b os) dq := by
  rw [ps_seg, List.map_append]
  exact (chunk_to (psj_len (by decide)) (RunsTo.of (sub_4 w b os)) (mrg (j := 4) (c := 17) (T := t_a4 68 (W w b).params) (T' := t_a4 85 (W w b).params) (by decide) (by rw [List.length_take, List.length_drop, b3_len]; rfl) rfl (by kernel_rfl) (by kernel_rfl) (by decide) (by kernel_rfl)) (ch_5 w b os)).cast rfl
theorem ch_3 (w : World) (b : Bool) (os : OsState) : RD w b 11632 (forIn ((ps.drop (17 * 3)).map some1) (some 40, []) dd.f >>= dd.fin) (stT (t_a2 51 (W w b).params) 43 416 os) dq (.ref 40) (SE w b os) dq := by
  rw [ps_seg, List.map_append]
  exact (chunk_to (psj_len (by decide)) (RunsTo.of (sub_3 w b os)) (mrg (j := 3) (c := 17) (T := t_a3 51 (W w b).params) (T' := t_a3 68 (W w b).params) (by decide) (by rw [List.length_take, List.length_drop, b3_len]; rfl) rfl (by kernel_rfl) (by kernel_rfl) (by decide) (by kernel_rfl)) (ch_4 w b os)).cast rfl
theorem ch_2 (w : World) (b : Bool) (os : OsState) : RD w b 11962 (forIn ((ps.drop (17 * 2)).map some1) (some 40, []) dd.f >>= dd.fin) (stT (t_a1 34 (W w b).params) 42 365 os) dq (.ref 40) (SE w b os) dq := by
  rw [ps_seg, List.map_append]
  exact (chunk_to (psj_len (by decide)) (RunsTo.of (sub_2 w b os)) (mrg (j := 2) (c := 17) (T := t_a2 34 (W w b).params) (T' := t_a2 51 (W w b).params) (by decide) (by rw [List.length_take, List.length_drop, b3_len]; rfl) rfl (by kernel_rfl) (by kernel_rfl) (by decide) (by kernel_rfl)) (ch_3 w b os)).cast rfl
theorem ch_1 (w : World) (b : Bool) (os : OsState) : RD w b 12292 (forIn ((ps.drop (17 * 1)).map some1) (some 40, []) dd.f >>= dd.fin) (stT (t_a0 17 (W w b).params) 41 314 os) dq (.ref 40) (SE w b os) dq := by
  rw [ps_seg, List.map_append]
  exact (chunk_to (psj_len (by decide)) (RunsTo.of (sub_1 w b os)) (mrg (j := 1) (c := 17) (T := t_a1 17 (W w b).params) (T' := t_a1 34 (W w b).params) (by decide) (by rw [List.length_take, List.length_drop, b3_len]; rfl) rfl (by kernel_rfl) (by kernel_rfl) (by decide) (by kernel_rfl)) (ch_2 w b os)).cast rfl
theorem ch_0 (w : World) (b : Bool) (os : OsState) : RD w b 12515 (dictDisplay its) (stT (t_p4 (W w b).params) 40 263 os) dq (.ref 40) (SE w b os) dq := by
  rw [dd.h, its_ps, show ps = ps.drop (17 * 0) by simp, ps_seg, List.map_append]
  exact (first_to (psj_len (by decide)) (RunsTo.of (sub_0 w b os)) (ch_1 w b os)).cast rfl
end Mine

end
section
open PySem PySem.W
set_option Elab.async false
set_option maxRecDepth 100000
set_option maxHeartbeats 0
namespace Mine
def tName : Stmt → Str
  | .Assign [.Name x _] _ _ => x
  | _ => Str.empty
def tPos : Stmt → Pos
  | .Assign [.Name _ q] _ _ => q
  | _ => default
def sPos : Stmt → Pos
  | .Assign _ _ q => q
  | _ => default
theorem top4 : top 4 = .Assign [.Name (tName (top 4)) (tPos (top 4))] (.Dict (dKeys (top 4)) (dVals (top 4)) dq) (sPos (top 4)) := by kernel_rfl
theorem stmts45 : stmts 4 5 = [top 4] := by kernel_rfl
theorem swaps4 : swapsWith (.Dict (dKeys (top 4)) (dVals (top 4)) dq) (some (.Name (tName (top 4)) (tPos (top 4)))) (sPos (top 4)).line benv = pure false := by kernel_rfl
theorem bind4 (w : World) (b : Bool) (os : OsState) : runS pw (W w b) 11 (rcT (W w b)) 1000 1000 (bindName benv (tName (top 4)) (.ref 40)) (SE w b os) (tPos (top 4)) = some (994, (), stT (t_p5 (W w b).params) n_p5 k_p5 os, tPos (top 4)) := by
  unfold rcT; rw [den_tw]; kernel_rfl
theorem rt_at {w : World} {b : Bool} {s : SharedT} {q q' : Pos} : RD w b 1 (standAt q') s q () s q' := fun K H gd lv cd fr st => by
  refine Goes.one (by simp [endAt, standAt, Sem.wrap]) rfl ?_
  obtain ⟨T, n, life, gens, drawn, toks, os⟩ := s
  rfl
theorem exec4 (w : World) (b : Bool) (os : OsState) (q : Pos) : RD w b 12524 (exec (top 4) benv) (stT (t_p4 (W w b).params) 40 263 os) q .next (stT (t_p5 (W w b).params) n_p5 k_p5 os) (tPos (top 4)) := by
  have e := exec_Assign_Name (hs := swaps4)
  rw [← top4] at e
  rw [e]
  refine (RunsTo.bind (k := 1) (k' := 12523) rt_at ?_).cast rfl
  refine (RunsTo.bind (k := 12516) (k' := 7) (a := .ref 40) (s' := SE w b os) (q' := dq) ?_ ?_).cast rfl
  · exact (RunsTo.bind (k := 1) (k' := 12515) (rt_at (q' := dq)) (ch_0 w b os)).cast rfl
  · refine (RunsTo.bind (k := 1) (k' := 6) rt_at ?_).cast rfl
    refine (RunsTo.bind (k := 6) (k' := 0) (RunsTo.of (bind4 w b os)) ?_).cast rfl
    exact RunsTo.pure
theorem g3_go (w : World) (b : Bool) (os : OsState) : segRun treeTable pw (W w b) 11 ann 1 12525 (stT (t_p4 (W w b).params) n_p4 k_p4 os).abs (piecesOf (stmts 4 5) benv cE ⟨6, 0, 7, 30⟩ BF) = some (.next, (stT (t_p5 (W w b).params) n_p5 k_p5 os).abs, cE, ⟨8, 0, 8, 13⟩) := by
  have e : RD w b 12524 (execs (stmts 4 5) benv) (stT (t_p4 (W w b).params) 40 263 os) ⟨6, 0, 7, 30⟩ .next (stT (t_p5 (W w b).params) n_p5 k_p5 os) (tPos (top 4)) := by
    rw [stmts45, execs_cons]
    refine (RunsTo.bind (k := 12524) (k' := 0) (exec4 w b os _) ?_).cast rfl
    exact RunsTo.pure
  exact RunsTo.piece e
end Mine

end
section
open PySem PySem.W
set_option Elab.async false
set_option maxRecDepth 100000
set_option maxHeartbeats 0
namespace Mine
theorem g0_go (w : World) (os : OsState) : segRunT treeTable pw w 11 ann 1 39 (stT (t_block w.params) n_block k_block os) (piecesOf (stmts 0 2) benv cE z0 BF) = some (.next, stT (t_p2 w.params) n_p2 k_p2 os, cE, ⟨4, 0, 4, 8⟩) := of_tw (by
  kernel_rfl)
theorem g1_ff (w : World) (os : OsState) : segRunT treeTable pw (W (w.withFollow "set-order" false) false) 11 ann 1 999 (stT (t_p2 (W (w.withFollow "set-order" false) false).params) n_p2 k_p2 os) (piecesOf (stmts 2 3) benv cE ⟨4, 0, 4, 8⟩ BF) =
    some (.next, stT (t_p3 (W (w.withFollow "set-order" false) false).params) n_p3 k_p3 os, cE, ⟨5, 0, 5, 6⟩) := of_tw (by
  kernel_rfl)
theorem g1_ft (w : World) (os : OsState) : segRunT treeTable pw (W (w.withFollow "set-order" false) true) 11 ann 1 999 (stT (t_p2 (W (w.withFollow "set-order" false) true).params) n_p2 k_p2 os) (piecesOf (stmts 2 3) benv cE ⟨4, 0, 4, 8⟩ BF) =
    some (.next, stT (t_p3 (W (w.withFollow "set-order" false) true).params) n_p3 k_p3 os, cE, ⟨5, 0, 5, 6⟩) := of_tw (by
  kernel_rfl)
theorem g1_tf (w : World) (os : OsState) : segRunT treeTable pw (W (w.withFollow "set-order" true) false) 11 ann 1 999 (stT (t_p2 (W (w.withFollow "set-order" true) false).params) n_p2 k_p2 os) (piecesOf (stmts 2 3) benv cE ⟨4, 0, 4, 8⟩ BF) =
    some (.next, stT (t_p3 (W (w.withFollow "set-order" true) false).params) n_p3 k_p3 os, cE, ⟨5, 0, 5, 6⟩) := of_tw (by
  kernel_rfl)
theorem g1_tt (w : World) (os : OsState) : segRunT treeTable pw (W (w.withFollow "set-order" true) true) 11 ann 1 999 (stT (t_p2 (W (w.withFollow "set-order" true) true).params) n_p2 k_p2 os) (piecesOf (stmts 2 3) benv cE ⟨4, 0, 4, 8⟩ BF) =
    some (.next, stT (t_p3 (W (w.withFollow "set-order" true) true).params) n_p3 k_p3 os, cE, ⟨5, 0, 5, 6⟩) := of_tw (by
  kernel_rfl)
theorem g1_w (w : World) (a b : Bool) (os : OsState) : segRunT treeTable pw (W (w.withFollow "set-order" a) b) 11 ann 1 999 (stT (t_p2 (W (w.withFollow "set-order" a) b).params) n_p2 k_p2 os) (piecesOf (stmts 2 3) benv cE ⟨4, 0, 4, 8⟩ BF) =
    some (.next, stT (t_p3 (W (w.withFollow "set-order" a) b).params) n_p3 k_p3 os, cE, ⟨5, 0, 5, 6⟩) := by
  cases a <;> cases b
  · exact g1_ff w os
  · exact g1_ft w os
  · exact g1_tf w os
  · exact g1_tt w os
theorem g2_go (w : World) (os : OsState) : segRunT treeTable pw w 11 ann 1 30 (stT (t_p3 w.params) n_p3 k_p3 os) (piecesOf (stmts 3 4) benv cE ⟨5, 0, 5, 6⟩ BF) = some (.next, stT (t_p4 w.params) n_p4 k_p4 os, cE, ⟨6, 0, 7, 30⟩) := of_tw (by
  kernel_rfl)
theorem g4_go (w : World) (os : OsState) : segRunT treeTable pw w 11 ann 1 363 (stT (t_p5 w.params) n_p5 k_p5 os) (piecesOf (stmts 5 8) benv cE ⟨8, 0, 8, 13⟩ BF) = some (.next, stT (t_p8 w.params) n_p8 k_p8 os, cE, ⟨15, 0, 32, 54⟩) := of_tw (by
  kernel_rfl)
theorem g5_go (w : World) (os : OsState) : segRunT treeTable pw w 11 ann 1 900 (stT (t_p8 w.params) n_p8 k_p8 os) (piecesOf (stmts 8 9) benv cE ⟨15, 0, 32, 54⟩ BF) = some (.next, stT (t_p9 w.params) n_p9 k_p9 os, cE, ⟨33, 0, 74, 55⟩) := of_tw (by
  kernel_rfl)
theorem g6_go (w : World) (os : OsState) : segRunT treeTable pw w 11 ann 1 386 (stT (t_p9 w.params) n_p9 k_p9 os) (piecesOf (stmts 9 10) benv cE ⟨33, 0, 74, 55⟩ BF) = some (.next, stT (t_p10 w.params) n_p10 k_p10 os, cE, ⟨75, 0, 79, 55⟩) := of_tw (by
  kernel_rfl)
theorem g7_go (w : World) (os : OsState) : segRunT treeTable pw w 11 ann 1 263 (stT (t_p10 w.params) n_p10 k_p10 os) (piecesOf (stmts 10 20) benv cE ⟨75, 0, 79, 55⟩ BF) = some (.next, stT (t_p20 w.params) n_p20 k_p20 os, cE, ⟨123, 0, 131, 83⟩) := of_tw (by
  kernel_rfl)
theorem fin_go (w : World) (os : OsState) : topRun treeTable pw w 11 ann 2 (stT (t_p20 w.params) n_p20 k_p20 os).abs ⟨doneF .next, cE, ⟨123, 0, 131, 83⟩, BF⟩ = some ⟨heapOf (l_fin w.params), g0, boot_drawn, k_fin, os⟩ := by
  kernel_rfl
end Mine

end
section
open PySem PySem.W
set_option Elab.async false
set_option maxRecDepth 100000
set_option maxHeartbeats 0
namespace Mine
theorem bE_eq : bE = stmts 0 2 ++ (stmts 2 3 ++ (stmts 3 4 ++ (stmts 4 5 ++ (stmts 5 8 ++ (stmts 8 9 ++ (stmts 9 10 ++ (stmts 10 20 ++ []))))))) := by kernel_rfl
noncomputable abbrev At (t : Params → BT) (n k : Nat) (w : World) (os : OsState) : Shared := (stT (t w.params) n k os).abs
theorem s1 (w : World) (os : OsState) : segRun treeTable pw w 11 ann 1 999 (At t_p2 n_p2 k_p2 w os) (piecesOf (stmts 2 3) benv cE ⟨4, 0, 4, 8⟩ BF) = some (.next, At t_p3 n_p3 k_p3 w os, cE, ⟨5, 0, 5, 6⟩) := by
  refine byRow2 (P := fun w => segRun treeTable pw w 11 ann 1 999 (At t_p2 n_p2 k_p2 w os) (piecesOf (stmts 2 3) benv cE ⟨4, 0, 4, 8⟩ BF) = some (.next, At t_p3 n_p3 k_p3 w os, cE, ⟨5, 0, 5, 6⟩)) "special-get-raises" ?_ ?_ w
  · intro w
    refine byRow2 (P := fun v => segRun treeTable pw (W v false) 11 ann 1 999 (At t_p2 n_p2 k_p2 (W v false) os) (piecesOf (stmts 2 3) benv cE ⟨4, 0, 4, 8⟩ BF) = some (.next, At t_p3 n_p3 k_p3 (W v false) os, cE, ⟨5, 0, 5, 6⟩)) "set-order" ?_ ?_ w
    · exact fun v => segRun_of (g1_w v false false os)
    · exact fun v => segRun_of (g1_w v true false os)
  · intro w
    refine byRow2 (P := fun v => segRun treeTable pw (W v true) 11 ann 1 999 (At t_p2 n_p2 k_p2 (W v true) os) (piecesOf (stmts 2 3) benv cE ⟨4, 0, 4, 8⟩ BF) = some (.next, At t_p3 n_p3 k_p3 (W v true) os, cE, ⟨5, 0, 5, 6⟩)) "set-order" ?_ ?_ w
    · exact fun v => segRun_of (g1_w v false true os)
    · exact fun v => segRun_of (g1_w v true true os)
theorem s3 (w : World) (os : OsState) : segRun treeTable pw w 11 ann 1 12525 (At t_p4 n_p4 k_p4 w os) (piecesOf (stmts 4 5) benv cE ⟨6, 0, 7, 30⟩ BF) = some (.next, At t_p5 n_p5 k_p5 w os, cE, ⟨8, 0, 8, 13⟩) := by
  refine byRow2 (P := fun w => segRun treeTable pw w 11 ann 1 12525 (At t_p4 n_p4 k_p4 w os) (piecesOf (stmts 4 5) benv cE ⟨6, 0, 7, 30⟩ BF) = some (.next, At t_p5 n_p5 k_p5 w os, cE, ⟨8, 0, 8, 13⟩)) "special-get-raises" ?_ ?_ w
  · exact fun v => g3_go v false os
  · exact fun v => g3_go v true os
noncomputable def H1 (P : Params) : Heap := heapOf (l_fin P)
theorem run_top (w : World) (os : OsState) : topRun treeTable pw w 11 ann (12 + (1 + (39 + (999 + (30 + (12525 + (363 + (900 + (386 + (263 + 2)))))))))) ⟨boot_heap w.params, g0, boot_drawn, boot_toks, os⟩ (topStub pw) = some ⟨H1 w.params, g0, boot_drawn, k_fin, os⟩ := by
  have h7 := piece_app (rest := []) (segRun_of (g7_go w os)) (piece_nil (fin_go w os))
  have h6 := piece_app (segRun_of (g6_go w os)) h7
  have h5 := piece_app (segRun_of (g5_go w os)) h6
  have h4 := piece_app (segRun_of (g4_go w os)) h5
  have h3 := piece_app (s3 w os) h4
  have h2 := piece_app (segRun_of (g2_go w os)) h3
  have h1 := piece_app (s1 w os) h2
  have h0 := piece_app (segRun_of (g0_go w os)) h1
  rw [← bE_eq] at h0
  have hb := piece_block (segRun_of (block_go w os)) h0
  have e : (stT (t_block w.params) n_block k_block os).abs = atPre os w.params := by kernel_rfl
  rw [e] at hb
  exact go_top (pre_go w os) hb
theorem left_open : ∀ w : World, (fencedOpening treeTable pw w 31120).map (fun s => (s.heap, s.gens, s.drawn, s.toks)) = some (boot_heap w.params, Array.mk [], boot_drawn, boot_toks) :=
  boot_open (by kernel_rfl) (by decide) (fun s => by kernel_rfl)
theorem left_size (w : World) : ((boot_heap w.params).isNs mainGlobals && g0.size == 0, (boot_heap w.params).objs.size, (boot_heap w.params).nsMap mainGlobals "__annotations__") = (true, 11, ann) := by
  kernel_rfl
end Mine

end
section
open PySem PySem.W PySem.Calls PyProof.Rows
set_option Elab.async false
set_option maxRecDepth 100000
set_option maxHeartbeats 0
namespace Mine
noncomputable def qv : Program := { pw with main := { pw.main with body := [0, 1, 3, 5, 6, 7, 8, 10, 11, 12, 13, 14, 15, 16, 17, 18, 19].filterMap fun i => pw.main.body[i]? } }
def loose : List Str := [u "b1_set", u "b3_exceptions", u "_tuplegetter", u "Pair"]
def number {α : Type} : Nat → List α → List (Nat × α)
  | _, [] => []
  | i, x :: l => (i, x) :: number (i + 1) l
noncomputable def KH (P : Params) : Frag := number 0 (l_fin P)
def adr : List Addr := (number 0 (List.replicate 274 ())).map (·.1)
theorem adr_eq (P : Params) : adr = (KH P).map (·.1) := by kernel_rfl
noncomputable abbrev sEnd (w : World) (os : OsState) : Shared := ⟨H1 w.params, g0, boot_drawn, k_fin, os⟩
theorem look_a (w : World) (os : OsState) : (staticsOk (importedModules pw.main.body) (boot_heap w.params) (H1 w.params) && namesBound pw (H1 w.params) && gensDone (sEnd w os) && laidKept (boot_heap w.params) (H1 w.params)) = true := by
  kernel_rfl
theorem look_c (w : World) (os : OsState) : (kHook KH adr adr_eq).obs (sEnd w os) = (kHook KH adr adr_eq).val w := by
  kernel_rfl
theorem look_b (w : World) (os : OsState) : Fast.tw4187177175401517315 qv loose (importedModules pw.main.body) (fun _ => true) true (sEnd w os) = openGood qv loose := by
  kernel_rfl
end Mine

end
section
open PySem PySem.W PySem.Calls PyProof.Rows
set_option Elab.async false
set_option maxRecDepth 100000
set_option maxHeartbeats 0
namespace Mine
noncomputable abbrev HK : Hook := kHook KH adr adr_eq
theorem left_all : LeftO pw qv loose (fun _ => true) HK.obs HK.val 31120 := by
  refine LeftO.of_pieces (H₀ := boot_heap) (H₁ := H1) (gs₀ := g0) (gs₁ := g0) (d₀ := boot_drawn) (d₁ := boot_drawn) (k₀ := boot_toks) (k₁ := k_fin) (m₀ := 11) (ann := ann) left_open left_size run_top (by decide) fun w => ?_
  funext os
  refine looks_pair (look_a w os) (looks_pair ?_ (look_c w os))
  rw [Fast.te4187177175401517315]
  exact look_b w os
def fPos : Stmt → Pos
  | .FunctionDef _ _ _ _ _ _ _ _ _ q => q
  | _ => default
noncomputable def dL : DefRec := { pos := fPos (top 19), name := u "law", params := fArgs (top 19), body := fBody (top 19), scope := fScope (top 19) }
theorem dL_def : defOf qv (u "law") = some (dL, []) := by kernel_rfl
theorem head_holds (walk : WalkO qv loose (fun _ _ => True) HK.says PySem.Challenge.rw_ij0040_01.row.toRowW dL [] fun f vs => PySem.call f vs) : PySem.Challenge.rw_ij0040_01.Holds := by
  o_law
  refine PySem.W.holds_open (r := PySem.Challenge.rw_ij0040_01.row) (q := qv) (loose := loose) (Xt := fun _ => true) (XP := fun _ _ => True) (Yf := HK.obs) (Ya := HK.val) (YP := HK.says) (N := 31120) left_all HK.of HK.keeps (fun _ _ => trivial) (fun _ _ _ _ _ => trivial) dL_def ?h1 ?h2 (fun s e => recFacts_of (by rfl)) (by rfl) (by assumption) (by decide +kernel) ⟨rfl, rfl, rfl, rfl, rfl, by decide +kernel⟩ ?hw walk
  case hw => w_witness2
  case h1 => kernel_rfl
  case h2 => kernel_rfl
end Mine

end
section
open PySem PySem.W PySem.Calls PyProof.Rows
set_option Elab.async false
set_option maxRecDepth 100000
namespace Mine
abbrev IK (w : World) (h : Heap) : Prop := InK KH w h
theorem ik_get {w : World} {h : Heap} (X : IK w h) (a : Addr) (o : Obj) (e : (KH w.params).lookup a = some o) : h.get? a = some o := X a o e
theorem ik_keeps {w : World} {h h' : Heap} (X : IK w h) (k : ∀ b o, h.get? b = some o → h'.get? b = some o) : IK w h' := InK.keeps w h h' X k
theorem k39 {w : World} {h : Heap} (X : IK w h) : h.get? 39 = some (o39 w.params) := ik_get X _ _ (by kernel_rfl)
/-- what a namespace holds, by its entries -/
def nsOf (o : Obj) (x : Str) : Option Value := match o.data with
  | .dict es _ => nsFind es x
  | _ => none
def allStr (o : Obj) : Bool := match o.data with
  | .dict es _ => es.toList.all fun e => match e.key with | .str _ _ => true | _ => false
  | _ => false
theorem ns_of {h : Heap} {a : Addr} {o : Obj} (ho : h.get? a = some o) (hs : allStr o = true) : h.Ns a (nsOf o) := by
  obtain ⟨c, d, dt, sl⟩ := o
  unfold allStr at hs
  cases dt with
  | dict es ep =>
    refine ⟨_, es, ep, ho, rfl, fun e he => ?_, fun _ => rfl⟩
    have := List.all_eq_true.mp hs e (Array.mem_toList_iff.mpr he)
    split at this
    · rename_i n t hk; exact ⟨n, t, hk⟩
    · cases this
  | _ => cases hs
theorem ns_glob {w : World} {h : Heap} (X : IK w h) : h.Ns mainGlobals (nsOf (o3v8 w.params)) := ns_of (ik_get X _ _ (by kernel_rfl)) (by kernel_rfl)
theorem ns_blt {w : World} {h : Heap} (X : IK w h) : h.Ns builtinsNs (nsOf (boot_o_0 w.params)) := ns_of (ik_get X _ _ (by kernel_rfl)) (by kernel_rfl)
theorem ns_stat {w : World} {h : Heap} (X : IK w h) : h.Ns cStatics (nsOf (boot_o_2 w.params)) := ns_of (ik_get X _ _ (by kernel_rfl)) (by kernel_rfl)
theorem nolim {w : World} {h : Heap} (X : IK w h) : h.NoLimit := ⟨_, ns_stat X, by kernel_rfl⟩
theorem glob_b1 (P : Params) : nsOf (o3v8 P) (u "b1_set") = some (.ref 29) := by kernel_rfl
theorem glob_ord (P : Params) : nsOf (o3v8 P) (u "ord") = none := by kernel_rfl
theorem blt_ord (P : Params) : nsOf (boot_o_0 P) (u "ord") = some (.builtin "ord") := by kernel_rfl
end Mine

end
section
open PySem PySem.W PySem.Calls PyProof.Rows
set_option Elab.async false
set_option maxRecDepth 100000
namespace Mine
theorem kp_refl (s : Shared) : Keeps s s := ⟨_, _, rfl, fun _ _ e => e⟩
theorem kp_trans {s s' s'' : Shared} (a : Keeps s s') (b : Keeps s' s'') : Keeps s s'' := by
  obtain ⟨h, t, rfl, k⟩ := a
  obtain ⟨h', t', rfl, k'⟩ := b
  exact ⟨h', t', rfl, fun b o e => k' b o (k b o e)⟩
theorem kp_tok (s : Shared) (t : Nat) : Keeps s { s with toks := t } := ⟨_, _, rfl, fun _ _ e => e⟩
theorem kp_of {s : Shared} {h : Heap} {t : Nat} (k : ∀ b o, s.heap.get? b = some o → h.get? b = some o) : Keeps s { s with heap := h, toks := t } := ⟨_, _, rfl, k⟩
theorem kp_get {s s' : Shared} (k : Keeps s s') {b : Addr} {o : Obj} (e : s.heap.get? b = some o) : s'.heap.get? b = some o := by
  obtain ⟨h, t, rfl, k⟩ := k; exact k b o e
theorem kp_ik {w : World} {s s' : Shared} (X : IK w s.heap) (k : Keeps s s') : IK w s'.heap := ik_keeps X fun _ _ e => kp_get k e
theorem kp_list {s s' : Shared} (k : Keeps s s') {l : Addr} {xs : Array Value} (h : s.heap.IsList l xs) : s'.heap.IsList l xs := let ⟨o, e, r⟩ := h; ⟨o, kp_get k e, r⟩
theorem kp_gens {s s' : Shared} (k : Keeps s s') : s'.gens = s.gens := by obtain ⟨h, t, rfl, _⟩ := k; rfl
theorem kp_os {s s' : Shared} (k : Keeps s s') : s'.os = s.os := by obtain ⟨h, t, rfl, _⟩ := k; rfl

/-- a frame at hand: what the call found, what its names hold now -/
structure Fm (w : World) (s₀ : Shared) (env : Env) (m cm : Str → Option Value) (s : Shared) : Prop where
  X : IK w s₀.heap
  F : InCallC s₀ env.locals m env.cells cm s
theorem Fm.keeps {w : World} {s₀ s : Shared} {env : Env} {m cm : Str → Option Value} (f : Fm w s₀ env m cm s) : Keeps s₀ s := by
  obtain ⟨h, t, rfl, k⟩ := f.F.done
  exact ⟨h, t, rfl, k⟩
theorem Fm.ik {w : World} {s₀ s : Shared} {env : Env} {m cm : Str → Option Value} (f : Fm w s₀ env m cm s) : IK w s.heap := kp_ik f.X f.keeps
theorem Fm.next {w : World} {s₀ s s' : Shared} {env : Env} {m cm : Str → Option Value} (f : Fm w s₀ env m cm s) (k : Keeps s s') : Fm w s₀ env m cm s' := by
  obtain ⟨h, t, rfl, k⟩ := k
  exact ⟨f.X, f.F.kept k⟩

def retV (f : Flow) : Value := match f with
  | .ret v => v
  | _ => .none
def bindsOk (fd : FuncData) (L : Nat) (binds : List (Str × Value)) : Bool :=
  binds.all fun x => decide (fd.scope.names.lookup x.1 = some .local) || (decide (fd.scope.names.lookup x.1 = some .cell) && ((cellsFrom (L + 1) fd.scope.names []).lookup x.1).isSome)
section
variable {w : World} {A : Around} {Q : Value → Shared → Prop} {E : Value → Shared → Prop} {s : Shared}
theorem callF {a : Addr} {o : Obj} {fd : FuncData} {body : List Stmt} {args : List Value} {binds : List (Str × Value)} (X : IK w s.heap) (hd : A.depth < recursionLimit)
    (e1 : (KH w.params).lookup a = some o) (e2 : o.data = .func fd) (e3 : codeIn (KH w.params) fd.code fd.qualname = true) (e4 : fd.body = .stmts body) (e5 : bindArgs fd ⟨args, []⟩ = pure binds) (e6 : fd.closure = [])
    (e7 : bindsOk fd s.heap.objs.size binds = true) (hco : fd.scope.isCoroutine = false) (hgen : fd.scope.isGenerator = false) (hk : fd.scope.kind = .function)
    (h : ∀ s₁, Fm w s (callEnvC fd s.heap.objs.size a) (bindL (callEnvC fd s.heap.objs.size a).kindOf binds fun _ => none) (bindC (callEnvC fd s.heap.objs.size a).kindOf binds fun _ => none) s₁ →
      wpAny (model pw w) (A.deeper (callEnvC fd s.heap.objs.size a)) (execs body (callEnvC fd s.heap.objs.size a)) (fun f s' => Q (retV f) s') (fun _ _ => False) s₁) :
    wpAny (model pw w) A (call (.ref a) args) Q E s := by
  refine wpAny_call (codeAny_call_cells (fd := fd) (body := body) (binds := binds) hd (X _ _ e1) e2 (nolim X) (codeRec_of X e3) e4 e5 e6 (fun x hx => ?_) (fun s₁ F => ?_) hco hgen hk)
  · have := List.all_eq_true.mp e7 x hx
    simp only [Bool.or_eq_true, Bool.and_eq_true, decide_eq_true_eq] at this
    exact this
  · exact wpAny_mono (h s₁ ⟨X, F⟩) (fun f s' q => q) fun _ _ q => q.elim

section
variable {s₀ : Shared} {env : Env} {m cm : Str → Option Value}
theorem nm_l {n : Str} {pos : Pos} {v : Value} (f : Fm w s₀ env m cm s) (hv : m n = some v) (h : Q v s) (hk : env.scope.kind = .function) (hl : env.kindOf n = some .local)
    (hd : (n == ("__debug__" : Str)) = false) : wpAny (model pw w) A (eval (.Name n pos) env) Q E s := NameLC f.F hk hl hv h hd
theorem nm_c {n : Str} {pos : Pos} {v : Value} {c : Addr} (f : Fm w s₀ env m cm s) (hv : cm n = some v) (h : Q v s) (hk : env.scope.kind = .function) (hl : env.kindOf n = some .cell) (hc : env.cells.lookup n = some c)
    (hd : (n == ("__debug__" : Str)) = false) : wpAny (model pw w) A (eval (.Name n pos) env) Q E s := NameCC f.F hk hl hc hv h hd
theorem nm_g {n : Str} {pos : Pos} {v : Value} (X : IK w s.heap) (hv : nsOf (o3v8 w.params) n = some v) (h : Q v s) (hk : env.scope.kind = .function) (hl : env.kindOf n = some .globalImplicit) (hg : env.globals = mainGlobals)
    (hd : (n == ("__debug__" : Str)) = false) : wpAny (model pw w) A (eval (.Name n pos) env) Q E s :=
  Name_function_global hk hl (loadGlobal_global (env := env) (by rw [hg]; exact ns_glob X) hv h) hd
theorem nm_b {n : Str} {pos : Pos} {v : Value} (X : IK w s.heap) (hn : nsOf (o3v8 w.params) n = none) (hv : nsOf (boot_o_0 w.params) n = some v) (h : Q v s) (hk : env.scope.kind = .function) (hl : env.kindOf n = some .globalImplicit)
    (hg : env.globals = mainGlobals) (hb : env.builtins = builtinsNs) (hd : (n == ("__debug__" : Str)) = false) : wpAny (model pw w) A (eval (.Name n pos) env) Q E s :=
  Name_function_global hk hl (loadGlobal_builtin (env := env) (by rw [hg]; exact ns_glob X) hn (by rw [hb]; exact ns_blt X) hv h) hd
end
theorem cw_fn {pos : Pos} {a : Addr} {o : Obj} {fd : FuncData} {t : Sem Value} {rest : List (Bool × Sem Value)} (e1 : (KH w.params).lookup a = some o) (e2 : o.data = .func fd)
    (h : wpAny (model pw w) A (spliced ((false, t) :: rest)) (fun vs s₁ => IK w s₁.heap ∧ wpAny (model pw w) A (call (.ref a) vs) Q E s₁) E s) :
    wpAny (model pw w) A (callWith pos (.ref a) [] ((false, t) :: rest) []) Q E s :=
  callWith_function (evalArgs_plain (wpAny_mono h (fun vs s₁ q => ⟨⟨q.1 _ _ e1, e2⟩, by rw [List.nil_append]; exact q.2⟩) fun _ _ q => q))
theorem cw_fn0 {pos : Pos} {a : Addr} {o : Obj} {fd : FuncData} (e1 : (KH w.params).lookup a = some o) (e2 : o.data = .func fd) (X : IK w s.heap)
    (h : wpAny (model pw w) A (call (.ref a) []) Q E s) : wpAny (model pw w) A (callWith pos (.ref a) [] [] []) Q E s :=
  callWith_function (evalArgs_nil3 ⟨⟨X _ _ e1, e2⟩, by rw [List.nil_append]; exact h⟩)
theorem cw_b1 {M : Model} {pos : Pos} {id : String} {first : List Value} {t : Sem Value} (h : wpAny M A t (fun v s₁ => wpAny M A (call (.builtin id) (first ++ [v])) Q E s₁) E s) : wpAny M A (callWith pos (.builtin id) first [(false, t)] []) Q E s :=
  Calls.callWith_builtin rfl (evalArgs_plain (spliced_cons (wpAny_mono h (fun v s₁ q => spliced_nil q) fun _ _ q => q)))
theorem cw_b0 {M : Model} {pos : Pos} {id : String} {first : List Value} (h : wpAny M A (call (.builtin id) first) Q E s) : wpAny M A (callWith pos (.builtin id) first [] []) Q E s :=
  Calls.callWith_builtin rfl (evalArgs_nil3 (by show wpAny _ _ (call (.builtin id) (first ++ []) []) _ _ _; rw [List.append_nil]; exact h))
end
end Mine

end
section
open PySem PySem.W PySem.Calls PyProof.Rows
set_option Elab.async false
set_option maxRecDepth 100000
namespace Mine
def b1Es (o : Obj) : List (Int × Value) := match o.data with
  | .set es _ _ => es.toList
  | _ => []
/-- the numbers of table B.1 -/
def b1 (c : Nat) : Bool := [173, 847, 6150, 6155, 6156, 6157, 8203, 8204, 8205, 8288, 65024, 65025, 65026, 65027, 65028, 65029, 65030, 65031, 65032, 65033, 65034, 65035, 65036, 65037, 65038, 65039, 65279].contains c
def b1I (k : Int) : Bool := decide (0 ≤ k) && b1 k.toNat
def elemOk (e : Int × Value) : Bool := match e.2 with
  | .int i _ => decide (e.1 = hashInt i) && b1I i
  | _ => false
def hasInt (es : List (Int × Value)) (i : Int) : Bool := es.any fun e => match e.2 with
  | .int j _ => i == j
  | _ => false
theorem set29 {w : World} {h : Heap} (X : IK w h) : h.SetOf (intKind pw w) 29 b1I 27 := by
  have key : ∀ P, (b1Es (o29 P)).all elemOk = true := fun P => by kernel_rfl
  have key2 : ∀ P, ([173, 847, 6150, 6155, 6156, 6157, 8203, 8204, 8205, 8288, 65024, 65025, 65026, 65027, 65028, 65029, 65030, 65031, 65032, 65033, 65034, 65035, 65036, 65037, 65038, 65039, 65279] : List Nat).all (fun c => hasInt (b1Es (o29 P)) (c : Int)) = true := fun P => by kernel_rfl
  have key := key w.params
  have key2 := key2 w.params
  refine ⟨o29 w.params, (b1Es (o29 w.params)).toArray, _, _, ik_get X _ _ (by kernel_rfl), ⟨rfl, rfl, rfl⟩, rfl, ?_, ?_, by rw [show (b1Es (o29 w.params)).toArray.size = 27 by kernel_rfl]; decide, by kernel_rfl, by kernel_rfl⟩
  · intro e he
    have := List.all_eq_true.mp key e (by simpa using he)
    obtain ⟨h0, v⟩ := e
    cases v <;> simp [elemOk] at this
    rename_i i t
    exact ⟨⟨i, by simp [intKind, Value.isInt], this.1⟩, rfl⟩
  · intro k
    constructor
    · intro hk
      simp only [b1I, Bool.and_eq_true, decide_eq_true_eq] at hk
      have hm : k.toNat ∈ ([173, 847, 6150, 6155, 6156, 6157, 8203, 8204, 8205, 8288, 65024, 65025, 65026, 65027, 65028, 65029, 65030, 65031, 65032, 65033, 65034, 65035, 65036, 65037, 65038, 65039, 65279] : List Nat) := List.contains_iff_mem.mp hk.2
      have := List.all_eq_true.mp key2 _ hm
      obtain ⟨e, he, hv⟩ := List.any_eq_true.mp this
      refine ⟨e, by simpa using he, ?_⟩
      obtain ⟨h0, v⟩ := e
      cases v <;> simp at hv
      rename_i i t
      have : k = i := by omega
      simp [intKind, Value.isInt, this]
    · rintro ⟨e, he, hk⟩
      have := List.all_eq_true.mp key e (by simpa using he)
      obtain ⟨h0, v⟩ := e
      cases v <;> simp [elemOk] at this
      rename_i i t
      simp [intKind, Value.isInt] at hk
      subst hk
      exact this.2
theorem b1I_nat (c : Nat) : b1I (c : Int) = b1 c := by simp [b1I]
theorem call_b1 {w : World} {A : Around} {Q : Value → Shared → Prop} {E : Value → Shared → Prop} {s : Shared} (X : IK w s.heap) (hd : A.depth < recursionLimit) (c : Nat) (t : Tok) (h : ∀ s', Keeps s s' → Q (.bool (b1 c)) s') :
    wpAny (model pw w) A (call (.ref 39) [.str ⟨#[c]⟩ t]) Q E s := by
  refine callF (o := o39 w.params) (binds := [(u "code", .str ⟨#[c]⟩ t)]) X hd (by kernel_rfl) rfl (by kernel_rfl) rfl (by kernel_rfl) rfl (by kernel_rfl) (by kernel_rfl) (by kernel_rfl) (by kernel_rfl) fun s₁ f => ?_
  refine wpAny_execs_cons (wpAny_Return_some (wpAny_Compare1 (Call_Name1 (nm_b (v := .builtin "ord") f.ik (by kernel_rfl) (by kernel_rfl) (cw_b1 ?_) rfl (by kernel_rfl) rfl rfl (by decide)))))
  refine nm_l f (v := .str ⟨#[c]⟩ t) (by kernel_rfl) ?_ rfl (by kernel_rfl) (by decide)
  refine P.ord_of_char ?_
  have f2 := f.next (kp_tok s₁ (s₁.toks + 1))
  refine nm_g f2.ik (v := .ref 29) (by kernel_rfl) ?_ rfl (by kernel_rfl) rfl (by decide)
  refine wpAny_inSet_of (knd := intKind pw w) (k := (c : Int)) (by simp [intKind, Value.isInt]) rfl (set29 f2.ik) ?_
  rw [b1I_nat]
  exact h _ (kp_trans f2.keeps (kp_tok _ _))
end Mine

end
section
open PySem PySem.W PySem.Calls PyProof.Rows
set_option Elab.async false
set_option maxRecDepth 100000
namespace Mine
abbrev upd (m : Str → Option Value) (n : Str) (v : Value) : Str → Option Value := fun y => if y = n then some v else m y
section
variable {w : World} {A : Around} {E : Value → Shared → Prop} {s s₀ : Shared} {env : Env} {m cm : Str → Option Value}
theorem st_l {n : Str} {v : Value} {Q : Unit → Shared → Prop} (f : Fm w s₀ env m cm s) (hk : env.scope.kind = .function) (hl : env.kindOf n = some .local) (h : ∀ s', Fm w s₀ env (upd m n v) cm s' → Q () s') :
    wpAny (model pw w) A (storeName env n v) Q E s := stLC f.F hk hl fun s' F => h s' ⟨f.X, F⟩
theorem st_c {n : Str} {v : Value} {c : Addr} {Q : Unit → Shared → Prop} (f : Fm w s₀ env m cm s) (hk : env.scope.kind = .function) (hl : env.kindOf n = some .cell) (hc : env.cells.lookup n = some c) (h : ∀ s', Fm w s₀ env m (upd cm n v) s' → Q () s') :
    wpAny (model pw w) A (storeName env n v) Q E s := stCC f.F hk hl hc fun s' F => h s' ⟨f.X, F⟩
end
def b3At (c : Int) : Option Value := findBy Value.isInt (Array.mk b3e) c
def b3Ok (e : DictEntry) : Bool := match e.key, e.val with
  | .int i _, .str x _ => decide (e.hash = hashInt i) && !x.cps.toList.isEmpty
  | _, _ => false
theorem b3_ok : b3e.all b3Ok = true := by kernel_rfl
theorem map40 {w : World} {h : Heap} (X : IK w h) : h.MapOf (intKind pw w) 40 b3At := by
  refine ⟨dictN 650, Array.mk (b3e.take 650), 650, ik_get X _ _ (by kernel_rfl), ⟨rfl, rfl, rfl⟩, rfl, fun e he => ?_, fun k => ?_⟩
  · have := List.all_eq_true.mp b3_ok e (List.mem_of_mem_take (by simpa using he))
    unfold b3Ok at this
    split at this
    · rename_i i t x u hk hv
      simp only [Bool.and_eq_true, decide_eq_true_eq] at this
      exact ⟨i, by simp [intKind, Value.isInt, hk], this.1⟩
    · cases this
  · rw [List.take_of_length_le (by rw [b3_len]; exact Nat.le_refl _)]; rfl
theorem b3At_str {c : Int} {v : Value} (h : b3At c = some v) : ∃ x t, v = .str x t := by
  unfold b3At findBy at h
  rw [← Array.find?_toList] at h
  obtain ⟨e, he, rfl⟩ := Option.map_eq_some_iff.mp h
  have := List.all_eq_true.mp b3_ok e (List.mem_of_find?_eq_some he)
  unfold b3Ok at this
  split at this
  · rename_i i t x u hk hv
    exact ⟨x, u, hv⟩
  · cases this
/-- what a sign is folded to -/
def fold (c : Nat) : List Nat := match b3At c with
  | some (.str x _) => x.cps.toList
  | _ => (Txt.lower ⟨#[c]⟩).cps.toList
theorem call_b3 {w : World} {A : Around} {Q : Value → Shared → Prop} {E : Value → Shared → Prop} {s : Shared} (X : IK w s.heap) (hd : A.depth < recursionLimit) (c : Nat) (t : Tok) (h : ∀ s' u, Keeps s s' → Q (.str ⟨(fold c).toArray⟩ u) s') :
    wpAny (model pw w) A (call (.ref 85) [.str ⟨#[c]⟩ t]) Q E s := by
  refine callF (o := o85 w.params) (binds := [(u "code", .str ⟨#[c]⟩ t)]) X hd (by kernel_rfl) rfl (by kernel_rfl) rfl (by kernel_rfl) rfl (by kernel_rfl) (by kernel_rfl) (by kernel_rfl) (by kernel_rfl) fun s₁ f => ?_
  refine wpAny_execs_cons (wpAny_Assign_Name ?_)
  refine wpAny_Call_method1_late rfl rfl rfl ?_
  refine nm_g f.ik (v := .ref 40) (by kernel_rfl) ?_ rfl (by kernel_rfl) rfl (by decide)
  refine ⟨"dict", "dict.get", F.plainAttrs_dict, F.slot_dict_get, F.type_dict_get, (map40 f.ik).typeIs, (map40 f.ik).noDict, ?_⟩
  refine wpAny_dict_get1 (knd := intKind pw w) (by decide) ?_
  refine Call_Name1 (nm_b (v := .builtin "ord") f.ik (by kernel_rfl) (by kernel_rfl) (cw_b1 ?_) rfl (by kernel_rfl) rfl rfl (by decide))
  refine nm_l f (v := .str ⟨#[c]⟩ t) (by kernel_rfl) ?_ rfl (by kernel_rfl) (by decide)
  refine P.ord_of_char ?_
  have f2 := f.next (kp_tok s₁ (s₁.toks + 1))
  refine ⟨(c : Int), b3At, by simp [intKind, Value.isInt], map40 f2.ik, ?_⟩
  have f3 := f2.next (kp_tok _ (s₁.toks + 1 + 1))
  refine st_l f3 rfl (by kernel_rfl) fun s₄ f4 => ?_
  refine wpAny_execs_cons (wpAny_If (wpAny_isTrue_Compare1 ?_))
  refine nm_l f4 (v := (b3At c).getD .none) (by kernel_rfl) ?_ rfl (by kernel_rfl) (by decide)
  refine wpAny_Constant_none (isNot_none (wpAny_truthy_bool ?_))
  cases e : b3At (c : Int) with
  | some v =>
    obtain ⟨x, tx, rfl⟩ := b3At_str e
    show wpAny _ _ (execs _ _) _ _ _
    refine wpAny_execs_cons (wpAny_Return_some ?_)
    rw [e] at f4
    refine nm_l f4 (v := .str x tx) (by kernel_rfl) ?_ rfl (by kernel_rfl) (by decide)
    have : (⟨(fold c).toArray⟩ : Str) = x := by unfold fold; rw [e]
    rw [← this]
    exact h _ _ f4.keeps
  | none =>
    show wpAny _ _ (execs [] _) _ _ _
    refine wpAny_execs_nil ?_
    refine wpAny_execs_cons (wpAny_Return_some ?_)
    refine wpAny_Call_method0_late rfl rfl ?_
    refine nm_l f4 (v := .str ⟨#[c]⟩ t) (by kernel_rfl) ?_ rfl (by kernel_rfl) (by decide)
    refine ⟨"str", "str.lower", F.plainAttrs_str, F.slot_str_lower, F.type_str_lower, typeIs_str _ _ _, (fun _ e => nomatch e), ?_⟩
    refine cw_b0 (SCL.lower (show (1 : Nat) ≤ 5592405 by decide) fun _ => ?_)
    have : (⟨(fold c).toArray⟩ : Str) = Txt.lower ⟨#[c]⟩ := by unfold fold; rw [e]
    rw [← this]
    exact h _ _ (kp_trans f4.keeps (kp_tok _ _))
end Mine

end
section
open PySem PySem.W PySem.Calls PyProof.Rows
set_option Elab.async false
set_option maxRecDepth 100000
namespace Mine
/-- values that are texts -/
def Strs (ys : List Value) (xs : List Str) : Prop := ∃ l : List (Str × Tok), ys = strValues l ∧ l.map (·.1) = xs
/-- values that are signs -/
def Signs (ys : List Value) (cs : List Nat) : Prop := Strs ys (cs.map fun c => ⟨#[c]⟩)
theorem Strs.nil : Strs [] [] := ⟨[], rfl, rfl⟩
theorem Strs.cons {ys : List Value} {xs : List Str} {x : Str} {t : Tok} (h : Strs ys xs) : Strs (.str x t :: ys) (x :: xs) := by
  obtain ⟨l, rfl, rfl⟩ := h
  exact ⟨(x, t) :: l, rfl, rfl⟩
theorem Strs.length {ys : List Value} {xs : List Str} (h : Strs ys xs) : ys.length = xs.length := by
  obtain ⟨l, rfl, rfl⟩ := h; simp [strValues]
theorem Strs.at {ys : List Value} {xs : List Str} (h : Strs ys xs) {j : Nat} {v : Value} (e : ys[j]? = some v) : ∃ x t, xs[j]? = some x ∧ v = .str x t := by
  obtain ⟨l, rfl, rfl⟩ := h
  unfold strValues at e
  rw [List.getElem?_map] at e
  obtain ⟨p, hp, rfl⟩ := Option.map_eq_some_iff.mp e
  exact ⟨p.1, p.2, by rw [List.getElem?_map, hp]; rfl, rfl⟩
theorem Strs.of_paired {α : Type} {f : α → Str} : ∀ {xs : List α} {ys : List Value}, Paired (fun a y => ∃ u, y = .str (f a) u) xs ys → Strs ys (xs.map f)
  | _, _, .nil => .nil
  | _, _, .cons ⟨u, e⟩ r => by subst e; exact Strs.cons (Strs.of_paired r)
theorem paired_of {α : Type} {Is : α → Value → Prop} {p : Value → Bool} {pc : α → Bool} {F : Value → Value → Prop} {G : α → Value → Prop} (hp : ∀ c v, Is c v → p v = pc c) (hF : ∀ c v y, Is c v → F v y → G c y) :
    ∀ {cs : List α} {vs ys : List Value}, vs.length = cs.length → (∀ (j : Nat) (v : Value), vs[j]? = some v → ∃ c, cs[j]? = some c ∧ Is c v) → Paired F (vs.filter p) ys → Paired G (cs.filter pc) ys
  | [], [], _, _, _, h => by cases h; exact .nil
  | [], v :: vs, _, hl, _, _ => by cases hl
  | c :: cs, [], _, hl, _, _ => by cases hl
  | c :: cs, v :: vs, ys, hl, hP, h => by
    obtain ⟨c', e, hv⟩ := hP 0 v rfl
    cases e
    have hP' : ∀ j v, vs[j]? = some v → ∃ c, cs[j]? = some c ∧ Is c v := fun j v e => hP (j + 1) v (by simpa using e)
    have hl' : vs.length = cs.length := by simpa using hl
    have q := hp _ _ hv
    cases hpc : pc c with
    | false =>
      rw [hpc] at q
      rw [List.filter_cons_of_neg (by simp [q])] at h
      rw [List.filter_cons_of_neg (by simp [hpc])]
      exact paired_of hp hF hl' hP' h
    | true =>
      rw [hpc] at q
      rw [List.filter_cons_of_pos (by simp [q])] at h
      rw [List.filter_cons_of_pos (by simp [hpc])]
      cases h with
      | cons a r => exact .cons (hF _ _ _ hv a) (paired_of hp hF hl' hP' r)

abbrev Grown (h h' : Heap) : Prop := ∀ b o, h.get? b = some o → h'.get? b = some o
section
variable {w : World} {A : Around} {E : Value → Shared → Prop} {s : Shared} {env : Env} {Q : Value → Shared → Prop}
def testsOf (ifs : List Expr) (env : Env) : Sem Bool := forIn ifs true fun c r => if r = true then do let ok ← isTrue c env (eval c env); pure (ForInStep.yield ok) else pure (ForInStep.yield r)
/-- a list's comprehension over a source whose items are known: α tells an item -/
theorem lc_gen {α : Type} {elt iter : Expr} {x : Str} {px : Pos} {ifs : List Expr} {scope : Scope} {cl : List (Str × Addr)} {pos : Pos} (Is : α → Value → Prop) (pc : α → Bool) (G : α → Value → Prop)
    (p : Value → Bool) (F : Value → Value → Prop) (hp : ∀ c v, Is c v → p v = pc c) (hF : ∀ c v y, Is c v → F v y → G c y) (hG : ∀ c v y, Is c v → G c y → F v y)
    (hclos : closureFor scope env = pure cl) (hcell : ∀ y ∈ scope.names, y.2 ≠ .cell) (hkind : scope.kind = .function)
    (hnames : ∀ y ∈ scope.names, y.2 = .local → scope.names.lookup y.1 = some .local) (hx : scope.names.lookup x = some .local) (hs : ∀ x, foldedSetIterable iter env x = pure x)
    (h : wpAny (model pw w) A (eval iter env) (fun xv s₁ => Keeps s s₁ ∧ wpAny (model pw w) A (pyIter xv) (fun it s₂ => Keeps s s₂ ∧ ∃ I fp n P St, ∃ cs : List α, it = .ref I ∧ Walks pw w A I fp [I] n P St ∧ n ≤ sizeLine ∧ St 0 s₂.heap ∧ (∀ b ∈ fp, b < s₂.heap.objs.size) ∧ s.heap.get? I = none ∧
      n = cs.length ∧ (∀ j v, P j v → ∃ c, cs[j]? = some c ∧ Is c v) ∧
      (∀ C c v s₃ m₃ E', c ∈ cs → Is c v → s₃.heap.Ns C m₃ → m₃ x = some v → Grown s.heap s₃.heap →
        wpAny (model pw w) A (testsOf ifs (compEnvC scope cl C env)) (fun ok s₄ => ok = pc c ∧ Keeps s₃ s₄) E' s₃) ∧
      (∀ C c v s₃ m₃ E', c ∈ cs → Is c v → pc c = true → s₃.heap.Ns C m₃ → m₃ x = some v → Grown s.heap s₃.heap →
        wpAny (model pw w) A (eval elt (compEnvC scope cl C env)) (fun y s₄ => G c y ∧ Keeps s₃ s₄) E' s₃) ∧
      (∀ D s' ys, Keeps s s' → s.heap.get? D = none → s'.heap.PlainList D ys → Paired G (cs.filter pc) ys.toList → Q (.ref D) s')) E s₁) E s) :
    wpAny (model pw w) A (eval (.ListComp elt [⟨.Name x px, iter, ifs, 0⟩] scope pos) env) Q E s := by
  refine wpAny_ListComp_free p F hclos hcell hkind hnames hx (wpAny_mono h (fun xv s₁ h₁ => wpAny_mono h₁.2 (fun it s₂ h₂ => ?_) fun _ _ e => e) fun _ _ e => e) hs
  obtain ⟨k2, I, fp, n, P, St, cs, rfl, W, hn, hst, hfp, hI, hlen, hP, ht, he, hq⟩ := h₂
  have up : ∀ s₃ : Shared, (∀ b o, b ∉ [I] → s₂.heap.get? b = some o → s₃.heap.get? b = some o) → Grown s.heap s₃.heap := fun s₃ k b o e =>
    k b o (by simp only [List.mem_singleton]; rintro rfl; rw [hI] at e; cases e) (kp_get k2 e)
  have mem : ∀ {j : Nat} {c : α}, cs[j]? = some c → c ∈ cs := fun e => List.mem_of_getElem? e
  refine ⟨I, fp, [I], n, P, St, rfl, W, hn, hst, hfp, ⟨?_, ?_⟩, ?_⟩
  · intro C i v s₃ m₃ E' _ hPv hns hm hk _
    obtain ⟨c, hc, hv⟩ := hP i v hPv
    refine wpAny_mono (ht C c v s₃ m₃ E' (mem hc) hv hns hm (up s₃ hk)) (fun ok s₄ q => ⟨?_, q.2⟩) fun _ _ q => q
    rw [q.1, hp c v hv]
  · intro C i v s₃ m₃ E' _ hPv hpv hns hm hk _
    obtain ⟨c, hc, hv⟩ := hP i v hPv
    refine wpAny_mono (he C c v s₃ m₃ E' (mem hc) hv (by rw [← hp c v hv]; exact hpv) hns hm (up s₃ hk)) (fun y s₄ q => ⟨hG c v y hv q.1, q.2⟩) fun _ _ q => q
  · intro D h' tk ys vs hD _ hpl hvl hvP hpr hk
    have k3 : Keeps s { s₂ with heap := h', toks := tk } := by
      obtain ⟨h2, t2, rfl, k2'⟩ := k2
      exact ⟨h', tk, rfl, fun b o e => hk b o (by simp only [List.mem_singleton]; rintro rfl; rw [hI] at e; cases e) (k2' b o e)⟩
    refine hq D _ ys k3 ?_ hpl (paired_of hp hF (hvl.trans hlen) (fun j v e => hP j v (hvP j v e)) hpr)
    cases q : s.heap.get? D with
    | none => rfl
    | some o => rw [kp_get k2 q] at hD; cases hD
end
end Mine

end
section
open PySem PySem.W PySem.Calls PyProof.Rows
set_option Elab.async false
set_option maxRecDepth 100000
namespace Mine
section
variable {w : World} {A : Around} {E : Value → Shared → Prop} {s : Shared} {env : Env} {Q : Value → Shared → Prop}
theorem nk_l {sc : Scope} {cl : List (Str × Addr)} {C : Addr} {m : Str → Option Value} {n : Str} {pos : Pos} {v : Value} (hn : s.heap.Ns C m) (hv : m n = some v) (h : Q v s) (hk : (compEnvC sc cl C env).scope.kind = .function)
    (hl : (compEnvC sc cl C env).kindOf n = some .local) (hd : (n == ("__debug__" : Str)) = false) : wpAny (model pw w) A (eval (.Name n pos) (compEnvC sc cl C env)) Q E s :=
  wpAny_Name (wpAny_loadName_local hk hl hn hv h) hd
theorem nk_c {sc : Scope} {cl : List (Str × Addr)} {C : Addr} {n : Str} {pos : Pos} {c : Addr} {v : Value} (hv : s.heap.IsCell c (some v)) (h : Q v s) (hk : (compEnvC sc cl C env).scope.kind = .function)
    (hl : (compEnvC sc cl C env).kindOf n = some .cell) (hc : cl.lookup n = some c) (hd : (n == ("__debug__" : Str)) = false) : wpAny (model pw w) A (eval (.Name n pos) (compEnvC sc cl C env)) Q E s :=
  wpAny_Name (wpAny_loadName_cell hk hl hc hv h) hd
theorem none_new (h : Heap) {a : Addr} (ha : h.objs.size ≤ a) : h.get? a = none := by
  cases e : h.get? a with
  | none => rfl
  | some o => exact absurd (Heap.lt_size e) (Nat.not_lt.mpr ha)
theorem none_back {s s' : Shared} (k : Keeps s s') {a : Addr} (h : s'.heap.get? a = none) : s.heap.get? a = none := by
  cases e : s.heap.get? a with
  | none => rfl
  | some o => rw [kp_get k e] at h; cases h
theorem kp_push {s : Shared} (o : Obj) : Keeps s { s with heap := s.heap.push o } := ⟨_, _, rfl, fun _ _ e => Heap.get?_push_of_some _ e⟩

/-- the code point of a sign's value -/
def sg (v : Value) : Nat := match v with
  | .str x _ => x.cps[0]?.getD 0
  | _ => 0
def ix (v : Value) : Nat := match v with
  | .int i _ => i.toNat
  | _ => 0
def IsSign (c : Nat) (v : Value) : Prop := ∃ u, v = .str ⟨#[c]⟩ u
def IsNat (k : Nat) (v : Value) : Prop := ∃ u, v = .int k u

/-- what a comprehension asks of its tests and its element -/
structure Asks (w : World) (A : Around) (env : Env) (scope : Scope) (cl : List (Str × Addr)) (x : Str) (ifs : List Expr) (elt : Expr) {α : Type} (Is : α → Value → Prop) (cs : List α) (pc : α → Bool) (G : α → Value → Prop) (s : Shared) : Prop where
  tests : ∀ C c v s₃ m₃ E', c ∈ cs → Is c v → s₃.heap.Ns C m₃ → m₃ x = some v → Grown s.heap s₃.heap →
    wpAny (model pw w) A (testsOf ifs (compEnvC scope cl C env)) (fun ok s₄ => ok = pc c ∧ Keeps s₃ s₄) E' s₃
  elt : ∀ C c v s₃ m₃ E', c ∈ cs → Is c v → pc c = true → s₃.heap.Ns C m₃ → m₃ x = some v → Grown s.heap s₃.heap →
    wpAny (model pw w) A (eval elt (compEnvC scope cl C env)) (fun y s₄ => G c y ∧ Keeps s₃ s₄) E' s₃

theorem walks_lt {I : Addr} {fp wr : List Addr} {n : Nat} {P : Nat → Value → Prop} {St : Nat → Heap → Prop} (W : Walks pw w A I fp wr n P St) : Walks pw w A I fp wr n (fun i v => i < n ∧ P i v) St :=
  ⟨W.sub, W.frame, fun i s Q E hi st hQ => W.item i s Q E hi st fun v h' tk hP => hQ v h' tk ⟨hi, hP⟩, W.done, W.self⟩

/-- over a text's signs -/
theorem lc_str {elt iter : Expr} {x : Str} {px : Pos} {ifs : List Expr} {scope : Scope} {cl : List (Str × Addr)} {pos : Pos} (pc : Nat → Bool) (G : Nat → Value → Prop) (hh : A.handled = none)
    (h : wpAny (model pw w) A (eval iter env) (fun xv s₁ => Keeps s s₁ ∧ ∃ (z : Str) (t : Tok), xv = .str z t ∧ z.cps.size ≤ sizeLine ∧ Asks w A env scope cl x ifs elt IsSign z.cps.toList pc G s ∧
      (∀ D s' ys, Keeps s s' → s.heap.get? D = none → s'.heap.PlainList D ys → Paired G (z.cps.toList.filter pc) ys.toList → Q (.ref D) s')) E s)
    (hclos : closureFor scope env = pure cl) (hcell : ∀ y ∈ scope.names, y.2 ≠ .cell) (hkind : scope.kind = .function)
    (hnames : ∀ y ∈ scope.names, y.2 = .local → scope.names.lookup y.1 = some .local) (hx : scope.names.lookup x = some .local) (hs : ∀ x, foldedSetIterable iter env x = pure x) :
    wpAny (model pw w) A (eval (.ListComp elt [⟨.Name x px, iter, ifs, 0⟩] scope pos) env) Q E s := by
  refine lc_gen IsSign pc G (fun v => pc (sg v)) (fun v y => G (sg v) y) (fun c v ⟨u, e⟩ => by subst e; rfl) (fun c v y ⟨u, e⟩ h => by subst e; exact h) (fun c v y ⟨u, e⟩ h => by subst e; exact h) hclos hcell hkind hnames hx hs
    (wpAny_mono h (fun xv s₁ h₁ => ⟨h₁.1, ?_⟩) fun _ _ e => e)
  obtain ⟨k1, z, t, rfl, hz, ak, hq⟩ := h₁
  refine wpAny_pyIter_str fun o St hW hst => ?_
  refine ⟨kp_trans k1 (kp_push _), _, _, _, _, _, z.cps.toList, rfl, hW A hh, hz, hst, ?_, none_back k1 (none_new _ (Nat.le_refl _)), by simp, ?_, ak.tests, ak.elt, hq⟩
  · intro b hb
    rw [List.mem_singleton] at hb
    subst hb
    rw [Heap.size_push]; exact Nat.lt_succ_self _
  · rintro j v ⟨c, u, e, rfl⟩
    exact ⟨c, by simpa using e, u, rfl⟩

/-- over the numbers below one -/
theorem lc_range {elt e : Expr} {x : Str} {px rp rpos : Pos} {ifs : List Expr} {scope : Scope} {cl : List (Str × Addr)} {pos : Pos} (pc : Nat → Bool) (G : Nat → Value → Prop) (hh : A.handled = none) (X : IK w s.heap)
    (h : wpAny (model pw w) A (eval e env) (fun nv s₁ => Keeps s s₁ ∧ ∃ (n : Nat) (t : Tok), nv = .int n t ∧ n ≤ sizeLine ∧ Asks w A env scope cl x ifs elt IsNat (List.range n) pc G s ∧
      (∀ D s' ys, Keeps s s' → s.heap.get? D = none → s'.heap.PlainList D ys → Paired G ((List.range n).filter pc) ys.toList → Q (.ref D) s')) E s)
    (hclos : closureFor scope env = pure cl) (hcell : ∀ y ∈ scope.names, y.2 ≠ .cell) (hkind : scope.kind = .function)
    (hnames : ∀ y ∈ scope.names, y.2 = .local → scope.names.lookup y.1 = some .local) (hx : scope.names.lookup x = some .local)
    (hk : env.scope.kind = .function) (hl : env.kindOf (u "range") = some .globalImplicit) (hg : env.globals = mainGlobals) (hb : env.builtins = builtinsNs)
    (hse : backTo rpos (starEach [e] env) = [(false, eval e env)]) (hs : ∀ x, foldedSetIterable (.Call (.Name (u "range") rp) [e] [] rpos) env x = pure x) :
    wpAny (model pw w) A (eval (.ListComp elt [⟨.Name x px, .Call (.Name (u "range") rp) [e] [] rpos, ifs, 0⟩] scope pos) env) Q E s := by
  refine lc_gen IsNat pc G (fun v => pc (ix v)) (fun v y => G (ix v) y) (fun c v ⟨u, e⟩ => by subst e; rfl) (fun c v y ⟨u, e⟩ h => by subst e; exact h) (fun c v y ⟨u, e⟩ h => by subst e; exact h) hclos hcell hkind hnames hx hs ?_
  refine wpAny_Call_NameR (nm_b (v := .type "range") X (by kernel_rfl) (by kernel_rfl) ?_ hk hl hg hb (by decide))
  rw [hse]
  refine PySem.callWith_type rfl (Calls.evalArgs_plain (Calls.spliced_cons (wpAny_mono h (fun nv s₁ h₁ => Calls.spliced_nil ?_) fun _ _ e => e)))
  obtain ⟨k1, n, t, rfl, hn, ak, hq⟩ := h₁
  refine call_range_1 ⟨kp_trans k1 ⟨_, _, rfl, fun _ _ e => Heap.get?_push_of_some _ e⟩, ?_⟩
  have hnn : (n : Int) ≤ (sizeLine : Nat) := by exact_mod_cast hn
  have hsl : ((sizeLine : Nat) : Int) < 2 ^ 62 := by decide
  refine wpAny_pyIter_range (IsRange.new ..) (small_one (by decide) (by decide) (by omega) (by omega)) ?_
  have hsz : Builtin.Range.rangeSize 0 n 1 = (n : Int) := by rw [rangeSize_one]; split <;> omega
  refine ⟨kp_trans k1 ⟨_, _, rfl, fun _ _ e => Heap.get?_push_of_some _ (Heap.get?_push_of_some _ e)⟩, _, _, n, _, _, List.range n, rfl, walks_lt (Walks.range hh _ 0 1 n), hn, ?_, ?_, none_back k1 (none_new _ (by simp [Heap.size_push])), by simp, ?_, ak.tests, ak.elt, hq⟩
  · have e1 : (0 + ((0 : Nat) : Int) * 1) = 0 := by simp
    have e2 : ((n : Int) - ((0 : Nat) : Int)) = Builtin.Range.rangeSize 0 n 1 := by rw [hsz]; simp
    rw [e1, e2]
    exact Heap.get?_push_size _ rfl
  · intro b hb
    rw [List.mem_singleton] at hb
    subst hb
    simp [Heap.size_push]
  · rintro j v ⟨hj, t, rfl⟩
    exact ⟨j, by simp [hj], t, by simp⟩

/-- over a list's items -/
theorem lc_list {α : Type} (Is : α → Value → Prop) (dec : Value → α) (hdec : ∀ c v, Is c v → dec v = c) {elt iter : Expr} {x : Str} {px : Pos} {ifs : List Expr} {scope : Scope} {cl : List (Str × Addr)} {pos : Pos} (pc : α → Bool) (G : α → Value → Prop) (hh : A.handled = none)
    (h : wpAny (model pw w) A (eval iter env) (fun xv s₁ => Keeps s s₁ ∧ ∃ (l : Addr) (items : Array Value) (cs : List α), xv = .ref l ∧ s₁.heap.IsList l items ∧ items.size ≤ sizeLine ∧ items.size = cs.length ∧
      (∀ (j : Nat) (v : Value), items[j]? = some v → ∃ c, cs[j]? = some c ∧ Is c v) ∧ Asks w A env scope cl x ifs elt Is cs pc G s ∧
      (∀ D s' ys, Keeps s s' → s.heap.get? D = none → s'.heap.PlainList D ys → Paired G (cs.filter pc) ys.toList → Q (.ref D) s')) E s)
    (hclos : closureFor scope env = pure cl) (hcell : ∀ y ∈ scope.names, y.2 ≠ .cell) (hkind : scope.kind = .function)
    (hnames : ∀ y ∈ scope.names, y.2 = .local → scope.names.lookup y.1 = some .local) (hx : scope.names.lookup x = some .local) (hs : ∀ x, foldedSetIterable iter env x = pure x) :
    wpAny (model pw w) A (eval (.ListComp elt [⟨.Name x px, iter, ifs, 0⟩] scope pos) env) Q E s := by
  refine lc_gen Is pc G (fun v => pc (dec v)) (fun v y => G (dec v) y) (fun c v e => by rw [hdec c v e]) (fun c v y e h => by rw [hdec c v e] at h; exact h) (fun c v y e h => by rw [hdec c v e]; exact h) hclos hcell hkind hnames hx hs
    (wpAny_mono h (fun xv s₁ h₁ => ⟨h₁.1, ?_⟩) fun _ _ e => e)
  obtain ⟨k1, l, items, cs, rfl, hl, hz, hlen, hP, ak, hq⟩ := h₁
  refine wpAny_pyIter_list hl ?_
  have hlt : l < s₁.heap.objs.size := by obtain ⟨o, e, _⟩ := hl; exact Heap.lt_size e
  refine ⟨kp_trans k1 ⟨_, _, rfl, fun _ _ e => Heap.get?_push_of_some _ e⟩, _, _, _, _, _, cs, rfl, Walks.list hh _ l (Nat.ne_of_lt hlt) items, hz, ?_, ?_, none_back k1 (none_new _ (Nat.le_refl _)), hlen, hP, ak.tests, ak.elt, hq⟩
  · refine ⟨?_, ?_⟩
    · exact ⟨_, Heap.get?_push_size _ rfl, rfl, rfl⟩
    · obtain ⟨o, e, r⟩ := hl; exact ⟨o, Heap.get?_push_of_some _ e, r⟩
  · intro b hb
    simp only [List.mem_cons, List.not_mem_nil, or_false] at hb
    rcases hb with rfl | rfl
    · simp [Heap.size_push]
    · rw [Heap.size_push]; exact Nat.lt_succ_of_lt hlt
end
end Mine

end
section
open PySem PySem.W PySem.Calls PyProof.Rows
set_option Elab.async false
set_option maxRecDepth 100000
namespace Mine
theorem prd_at {α β : Type} {R : α → β → Prop} : ∀ {cs : List α} {vs : List β}, Paired R cs vs → ∀ (j : Nat) (v : β), vs[j]? = some v → ∃ c, cs[j]? = some c ∧ R c v
  | _, _, .nil, j, v, e => by simp at e
  | _, _, .cons h t, 0, v, e => by
    simp only [List.getElem?_cons_zero, Option.some.injEq] at e
    subst e
    exact ⟨_, rfl, h⟩
  | _, _, .cons h t, j + 1, v, e => by
    simp only [List.getElem?_cons_succ] at e ⊢
    exact prd_at t j v e
theorem prd_get {α β : Type} {R : α → β → Prop} : ∀ {cs : List α} {vs : List β}, Paired R cs vs → ∀ (j : Nat) (c : α), cs[j]? = some c → ∃ v, vs[j]? = some v ∧ R c v
  | _, _, .nil, j, v, e => by simp at e
  | _, _, .cons h t, 0, v, e => by
    simp only [List.getElem?_cons_zero, Option.some.injEq] at e
    subst e
    exact ⟨_, rfl, h⟩
  | _, _, .cons h t, j + 1, v, e => by
    simp only [List.getElem?_cons_succ] at e ⊢
    exact prd_get t j v e
theorem prd_len {α β : Type} {R : α → β → Prop} : ∀ {cs : List α} {vs : List β}, Paired R cs vs → vs.length = cs.length
  | _, _, .nil => rfl
  | _, _, .cons h t => by simp [prd_len t]
theorem prd_app {α β : Type} {R : α → β → Prop} : ∀ {cs ds : List α} {vs ws : List β}, Paired R cs vs → Paired R ds ws → Paired R (cs ++ ds) (vs ++ ws)
  | _, _, _, _, .nil, h => h
  | _, _, _, _, .cons h t, g => .cons h (prd_app t g)
theorem prd_map {α γ β : Type} {f : α → γ} {R : γ → β → Prop} : ∀ {cs : List α} {vs : List β}, Paired (fun a v => R (f a) v) cs vs → Paired R (cs.map f) vs
  | _, _, .nil => .nil
  | _, _, .cons h t => .cons h (prd_map t)
theorem prd_take {α β : Type} {R : α → β → Prop} : ∀ (n : Nat) {cs : List α} {vs : List β}, Paired R cs vs → Paired R (cs.take n) (vs.take n)
  | 0, _, _, _ => by simpa using Paired.nil
  | n + 1, _, _, .nil => .nil
  | n + 1, _, _, .cons h t => .cons h (prd_take n t)
theorem prd_drop {α β : Type} {R : α → β → Prop} : ∀ (n : Nat) {cs : List α} {vs : List β}, Paired R cs vs → Paired R (cs.drop n) (vs.drop n)
  | 0, _, _, h => h
  | _ + 1, _, _, .nil => .nil
  | n + 1, _, _, .cons _ t => prd_drop n t

abbrev tx (l : List Nat) : Str := ⟨l.toArray⟩
def IsTx (l : List Nat) (v : Value) : Prop := ∃ u, v = .str (tx l) u
theorem strs_of : ∀ {ls : List (List Nat)} {vs : List Value}, Paired IsTx ls vs → ∃ l : List (Str × Tok), vs = strValues l ∧ l.map (·.1) = ls.map tx
  | _, _, .nil => ⟨[], rfl, rfl⟩
  | _, _, .cons ⟨u, e⟩ t => by
    obtain ⟨l, rfl, h⟩ := strs_of t
    subst e
    exact ⟨(tx _, u) :: l, rfl, by simp [h]⟩
theorem join_foldl : ∀ (ls : List (List Nat)) (acc : Array Nat), (ls.map tx).foldl (fun acc p => acc ++ (tx []).cps ++ p.cps) acc = acc ++ ls.flatten.toArray
  | [], acc => by simp
  | a :: r, acc => by
    rw [List.map_cons, List.foldl_cons, join_foldl r]
    simp
theorem join_tx : ∀ ls : List (List Nat), Txt.join (tx []) (ls.map tx) = tx ls.flatten
  | [] => rfl
  | a :: r => by
    show (⟨(r.map tx).foldl (fun acc p => acc ++ (tx []).cps ++ p.cps) a.toArray⟩ : Str) = _
    rw [join_foldl]
    simp
section
variable {w : World} {A : Around} {E : Value → Shared → Prop} {s : Shared} {env : Env} {Q : Value → Shared → Prop}
/-- pieces joined by nothing -/
theorem join_run {D : Addr} {ys : Array Value} {ls : List (List Nat)} {t : Tok} (B : Nat) (hl : s.heap.IsList D ys) (hp : Paired IsTx ls ys.toList) (hB : ∀ l ∈ ls, l.length ≤ B) (hn : ls.length * B ≤ 16777216)
    (hq : ∀ t' k, Q (.str (tx ls.flatten) t') { s with toks := k }) : wpAny (model pw w) A (call (.builtin "str.join") [.str (tx []) t, .ref D]) Q E s := by
  obtain ⟨l, e, h⟩ := strs_of hp
  have hl' : s.heap.IsList D (strValues l).toArray := by rw [← e]; simpa using hl
  refine SC.join hl' h ?_ (fun t' k => by rw [join_tx]; exact hq t' k)
  unfold JoinOk
  rw [StrLaws.joinFits (B := B)]
  · rfl
  · intro y hy
    obtain ⟨l, hl, rfl⟩ := List.mem_map.mp hy
    show l.toArray.size ≤ B
    simpa using hB l hl
  · rw [List.length_map]
    show ls.length * B + ls.length * 0 ≤ _
    omega
theorem t0 {cl : List (Str × Addr)} {scope : Scope} {C : Addr} {α : Type} {pc : α → Bool} {c : α} {E' : Value → Shared → Prop} (h : pc c = true) : wpAny (model pw w) A (testsOf [] (compEnvC scope cl C env)) (fun ok s₄ => ok = pc c ∧ Keeps s s₄) E' s :=
  wpAny_tests_nil ⟨h.symm, kp_refl _⟩

theorem data_nats : ∀ {ns : List Nat} {vs : List Value}, DataAre vs (ns.map fun (n : Nat) => PyData.int (n : Int)) → Paired IsNat ns vs
  | [], _, h => by cases h; exact .nil
  | n :: ns, _, h => by
    cases h with
    | cons a r =>
      have := a default
      generalize hd : (fun (n : Nat) => PyData.int (n : Int)) n = d at this
      cases this <;> cases hd
      exact .cons ⟨_, rfl⟩ (data_nats r)
theorem List_nats (ns : List Nat) {es : List Expr} {pos : Pos} (h : tupLitsOf es = some (ns.map fun (n : Nat) => PyData.int (n : Int))) (hn : ns.length ≤ 1000) (hq : ∀ D s' ys, Keeps s s' → s.heap.get? D = none → s'.heap.PlainList D ys → Paired IsNat ns ys.toList → Q (.ref D) s') :
    wpAny (model pw w) A (eval (.List es pos) env) Q E s := by
  refine wpAny_List (spliced_lits _ _ _ _ h fun vs tk hd => ⟨?_, ?_⟩)
  · rw [prd_len (data_nats hd)]
    exact Nat.le_trans hn (by decide)
  · exact hq _ _ _ (kp_trans (kp_tok _ _) (kp_push _)) (none_new _ (Nat.le_refl _)) ⟨_, Heap.get?_push_size _ rfl⟩ (data_nats hd)
end
end Mine

end
section
open PySem PySem.W PySem.Calls PyProof.Rows
set_option Elab.async false
set_option maxRecDepth 100000
namespace Mine
def scOk (scope : Scope) (x : Str) : Bool := scope.names.all (fun y => decide (y.2 ≠ .cell)) && decide (scope.kind = .function) && scope.names.all (fun y => decide (y.2 = .local → scope.names.lookup y.1 = some .local)) && decide (scope.names.lookup x = some .local)
section
variable {scope : Scope} {x : Str} (h : scOk scope x = true)
include h
theorem scOk.cell : ∀ y ∈ scope.names, y.2 ≠ .cell := fun y hy => by
  simp only [scOk, Bool.and_eq_true] at h
  exact of_decide_eq_true (List.all_eq_true.mp h.1.1.1 y hy)
theorem scOk.kind : scope.kind = .function := by
  simp only [scOk, Bool.and_eq_true] at h
  exact of_decide_eq_true h.1.1.2
theorem scOk.names : ∀ y ∈ scope.names, y.2 = .local → scope.names.lookup y.1 = some .local := fun y hy => by
  simp only [scOk, Bool.and_eq_true] at h
  exact of_decide_eq_true (List.all_eq_true.mp h.1.2 y hy)
theorem scOk.look : scope.names.lookup x = some .local := by
  simp only [scOk, Bool.and_eq_true] at h
  exact of_decide_eq_true h.2
end
def blanksL : List Nat := [9, 10, 11, 12, 13, 28, 29, 30, 31, 32, 133, 160, 5760, 8192, 8193, 8194, 8195, 8196, 8197, 8198, 8199, 8200, 8201, 8202, 8232, 8233, 8239, 8287, 12288]
def nothingsL : List Nat := [173, 847, 6150, 6155, 6156, 6157, 8203, 8204, 8205, 8288, 65279, 65024, 65025, 65026, 65027, 65028, 65029, 65030, 65031, 65032, 65033, 65034, 65035, 65036, 65037, 65038, 65039]
theorem isL_of {h : Heap} {a : Addr} {ys : Array Value} (p : h.PlainList a ys) : ∃ n, IsL h a ys n := p
theorem isList_of {h : Heap} {a : Addr} {ys : Array Value} (p : h.PlainList a ys) : h.IsList a ys := let ⟨n, e⟩ := p; ⟨_, e, rfl, n, rfl⟩
theorem kp_plain {s s' : Shared} (k : Keeps s s') {l : Addr} {xs : Array Value} (h : s.heap.PlainList l xs) : s'.heap.PlainList l xs := let ⟨n, e⟩ := h; ⟨n, kp_get k e⟩
section
variable {w : World} {A : Around} {E : Value → Shared → Prop} {s : Shared} {Q : Value → Shared → Prop}
theorem add_plain {a b : Addr} {xs ys : Array Value} (ha : s.heap.PlainList a xs) (hb : s.heap.PlainList b ys) (hz : xs.size + ys.size ≤ sizeLine) (hq : ∀ D s', Keeps s s' → s.heap.get? D = none → s'.heap.PlainList D (xs ++ ys) → Q (.ref D) s') :
    wpAny (model pw w) A (binaryOp .Add (.ref a) (.ref b)) Q E s := by
  obtain ⟨n, ea⟩ := ha
  obtain ⟨m, eb⟩ := hb
  exact P.add_list ea eb (hq _ _ (kp_push _) (none_new _ (Nat.le_refl _)) ⟨_, Heap.get?_push_size _ rfl⟩) hz
/-- an object that a frame writes -/
def frm (o : Obj) : Bool := match o.data with
  | .dict .. => true
  | .cell .. => true
  | _ => false
/-- kept but for what frames hold -/
def KL (s s' : Shared) : Prop := ∃ h tk, s' = { s with heap := h, toks := tk } ∧ ∀ b o, s.heap.get? b = some o → frm o = false → h.get? b = some o
theorem kl_of {s s' : Shared} (k : Keeps s s') : KL s s' := let ⟨h, t, e, r⟩ := k; ⟨h, t, e, fun b o e _ => r b o e⟩
theorem kl_trans {s s' s'' : Shared} (a : KL s s') (b : KL s' s'') : KL s s'' := by
  obtain ⟨h, t, rfl, k⟩ := a
  obtain ⟨h', t', rfl, k'⟩ := b
  exact ⟨h', t', rfl, fun b o e f => k' b o (k b o e f) f⟩
theorem kl_get {s s' : Shared} (k : KL s s') {b : Addr} {o : Obj} (e : s.heap.get? b = some o) (f : frm o = false) : s'.heap.get? b = some o := by
  obtain ⟨h, t, rfl, k⟩ := k; exact k b o e f
theorem kl_plain {s s' : Shared} (k : KL s s') {l : Addr} {xs : Array Value} (h : s.heap.PlainList l xs) : s'.heap.PlainList l xs := let ⟨n, e⟩ := h; ⟨n, kl_get k e rfl⟩
theorem ns_frm {h : Heap} {a b : Addr} {m : Str → Option Value} {o : Obj} (x : h.Ns a m) (e : h.get? b = some o) (f : frm o = false) : b ≠ a := by
  rintro rfl
  obtain ⟨o', es, ep, e', d, _⟩ := x
  rw [e'] at e
  cases e
  simp [frm, d] at f
theorem cell_frm {h : Heap} {a b : Addr} {v : Option Value} {o : Obj} (x : h.IsCell a v) (e : h.get? b = some o) (f : frm o = false) : b ≠ a := by
  rintro rfl
  obtain ⟨o', e', d⟩ := x
  rw [e'] at e
  cases e
  simp [frm, d] at f
section
variable {s₀ : Shared} {env : Env} {m cm : Str → Option Value}
theorem st_lk {n : Str} {v : Value} {Q : Unit → Shared → Prop} (f : Fm w s₀ env m cm s) (hk : env.scope.kind = .function) (hl : env.kindOf n = some .local) (h : ∀ s', Fm w s₀ env (upd m n v) cm s' → KL s s' → Q () s') :
    wpAny (model pw w) A (storeName env n v) Q E s := by
  have x := f.F
  refine wpAny_storeName_local hl x.toInCall.ns (fun h' hn' hs' => h _ ⟨f.X, ⟨?_, hn', fun b o e => ?_, x.toInCall.fresh⟩, fun k c hc => ?_, x.apart, x.above⟩ ⟨h', _, rfl, fun b o e fr => ?_⟩) (by rw [hk]; rfl)
  · obtain ⟨h₁, tk, rfl⟩ := x.toInCall.same
    exact ⟨h', _, rfl⟩
  · exact hs'.extBut b o (Nat.ne_of_lt (Nat.lt_of_lt_of_le (Heap.lt_size e) x.toInCall.fresh)) (x.toInCall.keep b o e)
  · exact (x.cell k c hc).sameBut hs' (Nat.ne_of_gt (x.above k c (mem_of_lookup hc)))
  · exact hs'.extBut b o (ns_frm x.toInCall.ns e fr) e
theorem st_ck {n : Str} {v : Value} {c : Addr} {Q : Unit → Shared → Prop} (f : Fm w s₀ env m cm s) (hk : env.scope.kind = .function) (hl : env.kindOf n = some .cell) (hc : env.cells.lookup n = some c) (h : ∀ s', Fm w s₀ env m (upd cm n v) s' → KL s s' → Q () s') :
    wpAny (model pw w) A (storeName env n v) Q E s := by
  have x := f.F
  have hLc := x.above n c (mem_of_lookup hc)
  refine wpAny_storeName_cell hk hl hc (x.cell n c hc) fun h' hc' hs' => h _ ⟨f.X, ⟨?_, x.toInCall.ns.sameBut hs' (Nat.ne_of_lt hLc), fun b o e => ?_, x.toInCall.fresh⟩, fun k c' hk' => ?_, x.apart, x.above⟩ ⟨h', _, rfl, fun b o e fr => ?_⟩
  · obtain ⟨h₁, tk, rfl⟩ := x.toInCall.same
    exact ⟨h', _, rfl⟩
  · exact hs'.extBut b o (Nat.ne_of_lt (Nat.lt_trans (Nat.lt_of_lt_of_le (Heap.lt_size e) x.toInCall.fresh) hLc)) (x.toInCall.keep b o e)
  · by_cases hkn : k = n
    · subst hkn
      rw [hc] at hk'; cases hk'
      simpa [upd] using hc'
    · unfold upd
      rw [if_neg hkn]
      exact (x.cell k c' hk').sameBut hs' fun e => hkn (name_of_addr x.apart (mem_of_lookup hk') (e ▸ mem_of_lookup hc))
  · exact hs'.extBut b o (cell_frm (x.cell n c hc) e fr) e
end
theorem prd_appA {α : Type} {R : α → Value → Prop} {cs ds : List α} {xs ys : Array Value} (h : Paired R cs xs.toList) (g : Paired R ds ys.toList) : Paired R (cs ++ ds) (xs ++ ys).toList := by rw [Array.toList_append]; exact prd_app h g
abbrev SideR (e : Expr) (x : Str) (scope : Scope) (cl : List (Str × Addr)) (env : Env) (rp rpos : Pos) : Prop :=
  scOk scope x = true ∧ closureFor scope env = pure cl ∧ env.scope.kind = .function ∧ env.kindOf (u "range") = some .globalImplicit ∧ env.globals = mainGlobals ∧ env.builtins = builtinsNs ∧
    backTo rpos (starEach [e] env) = [(false, eval e env)] ∧ (∀ x, foldedSetIterable (.Call (.Name (u "range") rp) [e] [] rpos) env x = pure x)
abbrev SideC (iter : Expr) (x : Str) (scope : Scope) (cl : List (Str × Addr)) (env : Env) : Prop :=
  scOk scope x = true ∧ closureFor scope env = pure cl ∧ (∀ x, foldedSetIterable iter env x = pure x)
section
variable {env : Env} {elt : Expr} {x : Str} {px : Pos} {ifs : List Expr} {scope : Scope} {pos : Pos}
theorem lcr {e : Expr} {rp rpos : Pos} (cl : List (Str × Addr)) (pc : Nat → Bool) (G : Nat → Value → Prop) (hh : A.handled = none) (X : IK w s.heap) (side : SideR e x scope cl env rp rpos)
    (h : wpAny (model pw w) A (eval e env) (fun nv s₁ => Keeps s s₁ ∧ ∃ (n : Nat) (t : Tok), nv = .int n t ∧ n ≤ sizeLine ∧ Asks w A env scope cl x ifs elt IsNat (List.range n) pc G s ∧
      (∀ D s' ys, Keeps s s' → s.heap.get? D = none → s'.heap.PlainList D ys → Paired G ((List.range n).filter pc) ys.toList → Q (.ref D) s')) E s) :
    wpAny (model pw w) A (eval (.ListComp elt [⟨.Name x px, .Call (.Name (u "range") rp) [e] [] rpos, ifs, 0⟩] scope pos) env) Q E s :=
  lc_range pc G hh X h side.2.1 (scOk.cell side.1) (scOk.kind side.1) (scOk.names side.1) (scOk.look side.1) side.2.2.1 side.2.2.2.1 side.2.2.2.2.1 side.2.2.2.2.2.1 side.2.2.2.2.2.2.1 side.2.2.2.2.2.2.2
theorem lcs {iter : Expr} (cl : List (Str × Addr)) (pc : Nat → Bool) (G : Nat → Value → Prop) (hh : A.handled = none) (side : SideC iter x scope cl env)
    (h : wpAny (model pw w) A (eval iter env) (fun xv s₁ => Keeps s s₁ ∧ ∃ (z : Str) (t : Tok), xv = .str z t ∧ z.cps.size ≤ sizeLine ∧ Asks w A env scope cl x ifs elt IsSign z.cps.toList pc G s ∧
      (∀ D s' ys, Keeps s s' → s.heap.get? D = none → s'.heap.PlainList D ys → Paired G (z.cps.toList.filter pc) ys.toList → Q (.ref D) s')) E s) :
    wpAny (model pw w) A (eval (.ListComp elt [⟨.Name x px, iter, ifs, 0⟩] scope pos) env) Q E s :=
  lc_str pc G hh h side.2.1 (scOk.cell side.1) (scOk.kind side.1) (scOk.names side.1) (scOk.look side.1) side.2.2
theorem lcl {α : Type} {iter : Expr} (cl : List (Str × Addr)) (Is : α → Value → Prop) (dec : Value → α) (hdec : ∀ c v, Is c v → dec v = c) (pc : α → Bool) (G : α → Value → Prop) (hh : A.handled = none) (side : SideC iter x scope cl env)
    (h : wpAny (model pw w) A (eval iter env) (fun xv s₁ => Keeps s s₁ ∧ ∃ (l : Addr) (items : Array Value) (cs : List α), xv = .ref l ∧ s₁.heap.IsList l items ∧ items.size ≤ sizeLine ∧ Paired Is cs items.toList ∧ Asks w A env scope cl x ifs elt Is cs pc G s ∧
      (∀ D s' ys, Keeps s s' → s.heap.get? D = none → s'.heap.PlainList D ys → Paired G (cs.filter pc) ys.toList → Q (.ref D) s')) E s) :
    wpAny (model pw w) A (eval (.ListComp elt [⟨.Name x px, iter, ifs, 0⟩] scope pos) env) Q E s := by
  refine lc_list Is dec hdec pc G hh (wpAny_mono h (fun xv s₁ h₁ => ?_) fun _ _ e => e) side.2.1 (scOk.cell side.1) (scOk.kind side.1) (scOk.names side.1) (scOk.look side.1) side.2.2
  obtain ⟨k, l, items, cs, e, hl, hz, hp, r⟩ := h₁
  exact ⟨k, l, items, cs, e, hl, hz, by rw [← prd_len hp]; simp, fun j v e => prd_at hp j v (by simpa using e), r⟩
theorem t0' {scope : Scope} {cl : List (Str × Addr)} {C : Addr} {b : Bool} {E' : Value → Shared → Prop} (h : b = true) : wpAny (model pw w) A (testsOf [] (compEnvC scope cl C env)) (fun ok s₄ => ok = b ∧ Keeps s s₄) E' s :=
  wpAny_tests_nil ⟨h.symm, kp_refl _⟩
theorem eq_true {α : Type} (l : List α) : l.filter (fun _ => true) = l := List.filter_eq_self.mpr fun _ _ => rfl
end
theorem ik_grown {h h' : Heap} (X : IK w h) (g : Grown h h') : IK w h' := ik_keeps X g
theorem chr_elt {env : Env} {scope : Scope} {cl : List (Str × Addr)} {C : Addr} {m₃ : Str → Option Value} {x : Str} {c : Nat} {u' : Tok} {px p1 pos : Pos} {E' : Value → Shared → Prop} (hns : s.heap.Ns C m₃) (hm : m₃ x = some (.int c u')) (X : IK w s.heap) (hc : c ≤ 1114111)
    (hk : (compEnvC scope cl C env).scope.kind = .function) (hl : (compEnvC scope cl C env).kindOf x = some .local) (hl2 : (compEnvC scope cl C env).kindOf (u "chr") = some .globalImplicit) (hg : env.globals = mainGlobals) (hb : env.builtins = builtinsNs) (hd : (x == ("__debug__" : Str)) = false := by decide) :
    wpAny (model pw w) A (eval (.Call (.Name (u "chr") p1) [.Name x px] [] pos) (compEnvC scope cl C env)) (fun y s₄ => IsTx [c] y ∧ Keeps s s₄) E' s := by
  refine Call_Name1 ?_ rfl
  refine nm_b (v := .builtin "chr") X (by kernel_rfl) (by kernel_rfl) ?_ hk hl2 hg hb (by decide)
  refine cw_b1 ?_
  refine nk_l hns hm ?_ hk hl hd
  refine P.chr_of_int ?_ ⟨⟨_, rfl⟩, kp_tok _ _⟩
  simp only [Bool.or_eq_false_iff, decide_eq_false_iff_not]
  constructor <;> omega
theorem call_blanks (X : IK w s.heap) (hd : A.depth < recursionLimit) (hh : A.handled = none) (h : ∀ s' u, Keeps s s' → Q (.str (tx blanksL) u) s') : wpAny (model pw w) A (call (.ref 227) []) Q E s := by
  refine callF (o := o227 w.params) (binds := []) X hd (by kernel_rfl) rfl (by kernel_rfl) rfl (by kernel_rfl) rfl (by kernel_rfl) (by kernel_rfl) (by kernel_rfl) (by kernel_rfl) fun s₁ f => ?_
  refine wpAny_execs_cons ?_
  refine wpAny_Assign_Name ?_ ?_
  · refine wpAny_BinOp ?_
    refine List_nats [9, 10, 11, 12, 13, 28, 29, 30, 31, 32, 133, 160, 5760] ?h1 ?h2 ?_
    case h1 => kernel_rfl
    case h2 => decide
    intro D s₂ ys k2 _ hD hpD
    have f2 := f.next k2
    refine lcr [] (fun _ => true) (fun k v => IsNat (8192 + k) v) hh f2.ik ?_ ?_
    · exact ⟨by kernel_rfl, by kernel_rfl, rfl, by kernel_rfl, rfl, rfl, rfl, fun _ => rfl⟩
    refine wpAny_Constant_int ⟨kp_tok _ _, 11, _, rfl, by decide, ⟨?_, ?_⟩, ?_⟩
    · exact fun C c v s₃ m₃ E' _ _ _ _ _ => t0' rfl
    · rintro C c v s₃ m₃ E' _ ⟨u, rfl⟩ _ hns hm hk
      refine wpAny_BinOp ?_
      refine wpAny_Constant_int ?_
      refine nk_l hns hm ?_ (by kernel_rfl) (by kernel_rfl) (by decide)
      refine add_int ?_
      exact ⟨⟨_, rfl⟩, kp_trans (kp_tok _ _) (kp_tok _ _)⟩
    · intro D2 s₃ zs k3 _ hD2 hp2
      have f3 := f2.next k3
      refine add_plain (kp_plain k3 hD) hD2 ?_ ?_
      · have e1 : ys.size = 13 := prd_len hpD
        have e2 : zs.size = 11 := (prd_len hp2).trans rfl
        rw [e1, e2]; decide
      intro D3 s₄ k4 _ hD3
      have f4 := f3.next k4
      have hp3 := prd_appA hpD (prd_map (f := fun k => 8192 + k) (R := IsNat) hp2)
      refine st_lk f4 ?_ ?_ ?_
      · rfl
      · kernel_rfl
      intro s₅ f5 l5
      refine wpAny_execs_cons ?_
      refine wpAny_Return_some ?_
      refine wpAny_Call_method1_late ?_ ?_ ?_ ?_
      iterate 3 kernel_rfl
      refine wpAny_Constant_str ?_
      have f6 := f5.next (kp_tok s₅ (s₅.toks + 1))
      have hD6 := kl_plain (kl_trans l5 (kl_of (kp_tok s₅ (s₅.toks + 1)))) hD3
      refine ⟨"str", "str.join", F.plainAttrs_str, F.slot_str_join, F.type_str_join, typeIs_str _ _ _, (fun _ e => nomatch e), ?_⟩
      refine cw_b1 ?_
      refine lcl [] IsNat ix (fun c v ⟨u, e⟩ => by subst e; rfl) (fun _ => true) (fun n v => IsTx [n] v) hh ?_ ?_
      · exact ⟨by kernel_rfl, by kernel_rfl, fun _ => rfl⟩
      refine wpAny_BinOp ?_
      refine nm_l f6 (v := .ref D3) (by kernel_rfl) ?_ rfl (by kernel_rfl) (by decide)
      refine List_nats [8232, 8233, 8239, 8287, 12288] ?h1 ?h2 ?_
      case h1 => kernel_rfl
      case h2 => decide
      intro D4 s₇ xs k7 _ hD4 hp4
      refine add_plain (kp_plain k7 hD6) hD4 ?_ ?_
      · have e1 : (ys ++ zs).size = 24 := (prd_len hp3).trans rfl
        have e2 : xs.size = 5 := (prd_len hp4).trans rfl
        rw [e1, e2]; decide
      intro D5 s₈ k8 _ hD5
      have f8 := (f6.next k7).next k8
      have hp5 := prd_appA hp3 hp4
      refine ⟨kp_trans k7 k8, _, _, _, rfl, isList_of hD5, ?_, hp5, ⟨?_, ?_⟩, ?_⟩
      · have e1 : (ys ++ zs ++ xs).size = 29 := (prd_len hp5).trans rfl
        rw [e1]; decide
      · exact fun C c v s₃ m₃ E' _ _ _ _ _ => t0' rfl
      · rintro C c v s₃ m₃ E' hmem ⟨u, rfl⟩ _ hns hm hk
        exact chr_elt hns hm (ik_grown f6.ik hk) (of_decide_eq_true (List.all_eq_true.mp (show List.all _ (fun c => decide (c ≤ 1114111)) = true by decide) c hmem)) rfl (by kernel_rfl) (by kernel_rfl) rfl rfl
      · intro D6 s₉ ws k9 _ hD6 hp6
        refine join_run 1 (isList_of hD6) (prd_map (f := fun n => [n]) (R := IsTx) hp6) ?_ ?_ ?_
        · intro l hl
          obtain ⟨n, _, rfl⟩ := List.mem_map.mp hl
          exact Nat.le_refl 1
        · decide
        intro t' k
        exact h _ _ (kp_trans (f6.next k9).keeps (kp_tok _ _))
  · rfl
end
end Mine

end
section
open PySem PySem.W PySem.Calls PyProof.Rows
set_option Elab.async false
set_option maxRecDepth 100000
namespace Mine
section
variable {w : World} {A : Around} {E : Value → Shared → Prop} {s : Shared} {Q : Value → Shared → Prop}
theorem call_nothings (X : IK w s.heap) (hd : A.depth < recursionLimit) (hh : A.handled = none) (h : ∀ s' u, Keeps s s' → Q (.str (tx nothingsL) u) s') : wpAny (model pw w) A (call (.ref 232) []) Q E s := by
  refine callF (o := o232 w.params) (binds := []) X hd (by kernel_rfl) rfl (by kernel_rfl) rfl (by kernel_rfl) rfl (by kernel_rfl) (by kernel_rfl) (by kernel_rfl) (by kernel_rfl) fun s₁ f => ?_
  refine wpAny_execs_cons ?_
  refine wpAny_Assign_Name ?_ ?_
  · refine List_nats [173, 847, 6150, 6155, 6156, 6157, 8203, 8204, 8205, 8288, 65279] ?h1 ?h2 ?_
    case h1 => kernel_rfl
    case h2 => decide
    intro D s₂ ys k2 _ hD hpD
    have f2 := f.next k2
    refine st_lk f2 ?_ ?_ ?_
    · rfl
    · kernel_rfl
    intro s₅ f5 l5
    refine wpAny_execs_cons ?_
    refine wpAny_Return_some ?_
    refine wpAny_Call_method1_late ?_ ?_ ?_ ?_
    iterate 3 kernel_rfl
    refine wpAny_Constant_str ?_
    have f6 := f5.next (kp_tok s₅ (s₅.toks + 1))
    have hD6 := kl_plain (kl_trans l5 (kl_of (kp_tok s₅ (s₅.toks + 1)))) hD
    refine ⟨"str", "str.join", F.plainAttrs_str, F.slot_str_join, F.type_str_join, typeIs_str _ _ _, (fun _ e => nomatch e), ?_⟩
    refine cw_b1 ?_
    refine lcl [] IsNat ix (fun c v ⟨u, e⟩ => by subst e; rfl) (fun _ => true) (fun n v => IsTx [n] v) hh ?_ ?_
    · exact ⟨by kernel_rfl, by kernel_rfl, fun _ => rfl⟩
    refine wpAny_BinOp ?_
    refine nm_l f6 (v := .ref D) (by kernel_rfl) ?_ rfl (by kernel_rfl) (by decide)
    refine lcr [] (fun _ => true) (fun k v => IsNat (65024 + k) v) hh f6.ik ?_ ?_
    · exact ⟨by kernel_rfl, by kernel_rfl, rfl, by kernel_rfl, rfl, rfl, rfl, fun _ => rfl⟩
    refine wpAny_Constant_int ⟨kp_tok _ _, 16, _, rfl, by decide, ⟨?_, ?_⟩, ?_⟩
    · exact fun C c v s₃ m₃ E' _ _ _ _ _ => t0' rfl
    · rintro C c v s₃ m₃ E' _ ⟨u, rfl⟩ _ hns hm hk
      refine wpAny_BinOp ?_
      refine wpAny_Constant_int ?_
      refine nk_l hns hm ?_ (by kernel_rfl) (by kernel_rfl) (by decide)
      refine add_int ?_
      exact ⟨⟨_, rfl⟩, kp_trans (kp_tok _ _) (kp_tok _ _)⟩
    · intro D4 s₇ xs k7 _ hD4 hp4
      refine add_plain (kp_plain k7 hD6) hD4 ?_ ?_
      · have e1 : ys.size = 11 := (prd_len hpD).trans rfl
        have e2 : xs.size = 16 := (prd_len hp4).trans rfl
        rw [e1, e2]; decide
      intro D5 s₈ k8 _ hD5
      have f8 := (f6.next k7).next k8
      have hp5 := prd_appA hpD (prd_map (f := fun k => 65024 + k) (R := IsNat) hp4)
      refine ⟨kp_trans k7 k8, _, _, _, rfl, isList_of hD5, ?_, hp5, ⟨?_, ?_⟩, ?_⟩
      · have e1 : (ys ++ xs).size = 27 := (prd_len hp5).trans rfl
        rw [e1]; decide
      · exact fun C c v s₃ m₃ E' _ _ _ _ _ => t0' rfl
      · rintro C c v s₃ m₃ E' hmem ⟨u, rfl⟩ _ hns hm hk
        exact chr_elt hns hm (ik_grown f6.ik hk) (of_decide_eq_true (List.all_eq_true.mp (show List.all _ (fun c => decide (c ≤ 1114111)) = true by decide) c hmem)) rfl (by kernel_rfl) (by kernel_rfl) rfl rfl
      · intro D6 s₉ ws k9 _ hD6 hp6
        refine join_run 1 (isList_of hD6) (prd_map (f := fun n => [n]) (R := IsTx) hp6) ?_ ?_ ?_
        · intro l hl
          obtain ⟨n, _, rfl⟩ := List.mem_map.mp hl
          exact Nat.le_refl 1
        · decide
        intro t' k
        exact h _ _ (kp_trans (f6.next k9).keeps (kp_tok _ _))
  · rfl
end
end Mine

end
section
open PySem PySem.W PySem.Calls PyProof.Rows
set_option Elab.async false
set_option maxRecDepth 100000
namespace Mine
def b3Short (e : DictEntry) : Bool := match e.val with
  | .str x _ => decide (x.cps.toList.length ≤ 8)
  | _ => false
theorem b3_short : b3e.all b3Short = true := by kernel_rfl
theorem b3At_short {c : Int} {x : Str} {t : Tok} (h : b3At c = some (.str x t)) : x.cps.toList.length ≤ 8 := by
  unfold b3At findBy at h
  rw [← Array.find?_toList] at h
  obtain ⟨e, he, hv⟩ := Option.map_eq_some_iff.mp h
  have := List.all_eq_true.mp b3_short e (List.mem_of_find?_eq_some he)
  unfold b3Short at this
  rw [hv] at this
  exact of_decide_eq_true this
theorem fold_len (c : Nat) : (fold c).length ≤ 8 := by
  unfold fold
  split
  · rename_i x t h
    exact b3At_short h
  · have := len_lower ⟨#[c]⟩
    have e : (⟨#[c]⟩ : Str).length = 1 := rfl
    rw [e] at this
    show (Txt.lower ⟨#[c]⟩).cps.toList.length ≤ 8
    have e2 : (Txt.lower ⟨#[c]⟩).cps.toList.length = (Txt.lower ⟨#[c]⟩).length := rfl
    omega
def keep (c : Nat) : Bool := !b1 c
/-- a text prepared -/
def prep (t : List Nat) : List Nat := ((t.filter keep).map fold).flatten
theorem prep_len (t : List Nat) : (prep t).length ≤ t.length * 8 := by
  unfold prep
  induction t with
  | nil => simp
  | cons c r ih =>
    rw [List.filter_cons]
    split
    · simp only [List.map_cons, List.flatten_cons, List.length_append, List.length_cons]
      have := fold_len c
      omega
    · simp only [List.length_cons]
      omega
section
variable {w : World} {A : Around} {E : Value → Shared → Prop} {s : Shared} {Q : Value → Shared → Prop}
theorem call_prep (X : IK w s.heap) (hd : A.depth + 1 < recursionLimit) (hh : A.handled = none) (l : List Nat) (t : Tok) (hl : l.length ≤ 1000) (h : ∀ s' u, Keeps s s' → Q (.str (tx (prep l)) u) s') : wpAny (model pw w) A (call (.ref 244) [.str (tx l) t]) Q E s := by
  refine callF (o := o244 w.params) (binds := [(u "text", .str (tx l) t)]) X (by omega) (by kernel_rfl) rfl (by kernel_rfl) rfl (by kernel_rfl) rfl (by kernel_rfl) (by kernel_rfl) (by kernel_rfl) (by kernel_rfl) fun s₁ f => ?_
  refine wpAny_execs_cons ?_
  refine wpAny_Return_some ?_
  refine wpAny_Call_method1_late ?_ ?_ ?_ ?_
  iterate 3 kernel_rfl
  refine wpAny_Constant_str ?_
  have f6 := f.next (kp_tok s₁ (s₁.toks + 1))
  refine ⟨"str", "str.join", F.plainAttrs_str, F.slot_str_join, F.type_str_join, typeIs_str _ _ _, (fun _ e => nomatch e), ?_⟩
  refine cw_b1 ?_
  refine lcs [] keep (fun c v => IsTx (fold c) v) hh ?_ ?_
  · exact ⟨by kernel_rfl, by kernel_rfl, fun _ => rfl⟩
  refine nm_l f6 (v := .str (tx l) t) (by kernel_rfl) ?_ rfl (by kernel_rfl) (by decide)
  refine ⟨kp_refl _, tx l, t, rfl, ?_, ⟨?_, ?_⟩, ?_⟩
  · show l.toArray.size ≤ _
    rw [List.size_toArray]
    exact Nat.le_trans hl (by decide)
  · rintro C c v s₃ m₃ E' _ ⟨u, rfl⟩ hns hm hk
    refine wpAny_tests_one ?_
    refine wpAny_isTrue_Not ?_
    refine wpAny_isTrue_value ?_ rfl
    refine Call_Name1 ?_ rfl
    refine nm_g (ik_grown f6.ik hk) (v := .ref 39) (by kernel_rfl) ?_ rfl (by kernel_rfl) rfl (by decide)
    refine cw_fn (o := o39 w.params) (by kernel_rfl) rfl ?_
    refine spliced_cons ?_
    refine nk_l hns hm ?_ (by kernel_rfl) (by kernel_rfl) (by decide)
    refine spliced_nil ?_
    refine ⟨ik_grown f6.ik hk, ?_⟩
    refine call_b1 (ik_grown f6.ik hk) hd c _ ?_
    intro s' k
    exact wpAny_truthy_bool ⟨rfl, k⟩
  · rintro C c v s₃ m₃ E' _ ⟨u, rfl⟩ _ hns hm hk
    refine Call_Name1 ?_ rfl
    refine nm_g (ik_grown f6.ik hk) (v := .ref 85) (by kernel_rfl) ?_ rfl (by kernel_rfl) rfl (by decide)
    refine cw_fn (o := o85 w.params) (by kernel_rfl) rfl ?_
    refine spliced_cons ?_
    refine nk_l hns hm ?_ (by kernel_rfl) (by kernel_rfl) (by decide)
    refine spliced_nil ?_
    refine ⟨ik_grown f6.ik hk, ?_⟩
    refine call_b3 (ik_grown f6.ik hk) hd c _ ?_
    intro s' u' k
    exact ⟨⟨u', rfl⟩, k⟩
  · intro D s₉ ws k9 _ hD hp
    have hp := prd_map (f := fold) (R := IsTx) hp
    have e : (tx l).cps.toList = l := rfl
    rw [e] at hp
    refine join_run 8 (isList_of hD) hp ?_ ?_ ?_
    · intro y hy
      obtain ⟨n, _, rfl⟩ := List.mem_map.mp hy
      exact fold_len n
    · rw [List.length_map]
      have := List.length_filter_le keep l
      omega
    intro t' k
    exact h _ _ (kp_trans (f6.next k9).keeps (kp_tok _ _))
end
end Mine

end
section
open PySem PySem.W PySem.Calls PyProof.Rows
set_option Elab.async false
set_option maxRecDepth 100000
namespace Mine
theorem upd_self (m : Str → Option Value) (n : Str) (v : Value) : upd m n v n = some v := if_pos rfl
def specialL : List Nat := blanksL ++ nothingsL ++ [890, 890, 890, 890, 61, 61, 61, 61]
def signOf (x : Int) : Nat := if x.fmod 2 = 0 then specialL.getD ((x.fdiv 2).fmod 64).toNat 0 else
  if (x.fdiv 2).fmod 1112064 < 55296 then ((x.fdiv 2).fmod 1112064).toNat else ((x.fdiv 2).fmod 1112064 + 2048).toNat
theorem sub_str {w : World} {A : Around} {E : Value → Shared → Prop} {s : Shared} {Q : Value → Shared → Prop} {value slice : Expr} {l : List Nat} {t : Tok} {i : Nat} {u : Tok} {c : Nat} (hc : l[i]? = some c) (hl : l.length ≤ 1000)
    (h : Q (.str ⟨#[c]⟩ s.toks) { s with toks := s.toks + 1 }) (hs : subscripted slice false (.str (tx l) t) (.int i u) = operate [.str (tx l) t, .int i u] (getItem (.str (tx l) t) (.int i u)) := by with_unfolding_all rfl)
    (ht : ∀ r, letTemporaryGo value (.str (tx l) t) r = pure () := by intro _; with_unfolding_all rfl) : wpAny (model pw w) A (subscriptTail value slice (.str (tx l) t) (.int i u)) Q E s := by
  have hi : i < l.length := by
    rcases Nat.lt_or_ge i l.length with h | h
    · exact h
    · rw [List.getElem?_eq_none h] at hc; cases hc
  refine subscriptTail_builtin (typeIs_str _ _ _) F.slot_str_getitem.lookup (getItem_str ?_ ?_ h) hs ht
  · simp only [Bool.or_eq_false_iff, decide_eq_false_iff_not]
    constructor <;> omega
  · have e : seqIndex? (i : Int) (tx l).length = some i := by
      unfold seqIndex?
      have e1 : ¬ ((i : Int) < 0) := by omega
      rw [if_neg e1]
      have e2 : (decide (0 ≤ (i : Int)) && decide ((i : Int) < ((tx l).length : Nat))) = true := by
        have : (tx l).length = l.length := rfl
        rw [this]
        simp only [Bool.and_eq_true, decide_eq_true_eq]
        omega
      rw [if_pos e2]
      simp
    rw [e]
    show l.toArray[i]? = some c
    simpa using hc
theorem fmod_lo (a b : Int) (h : 0 < b) : 0 ≤ a.fmod b := Int.fmod_nonneg_of_pos a h
theorem fmod_hi (a b : Int) (h : 0 < b) : a.fmod b < b := Int.fmod_lt_of_pos a h
section
variable {w : World} {A : Around} {E : Value → Shared → Prop} {s : Shared} {Q : Value → Shared → Prop}
theorem call_sign (X : IK w s.heap) (hd : A.depth < recursionLimit) (x : Int) (t t2 : Tok) (h : ∀ s' u, Keeps s s' → Q (.str ⟨#[signOf x]⟩ u) s') : wpAny (model pw w) A (call (.ref 239) [.int x t, .str (tx specialL) t2]) Q E s := by
  refine callF (o := o239 w.params) (binds := [(u "x", .int x t), (u "special", .str (tx specialL) t2)]) X hd (by kernel_rfl) rfl (by kernel_rfl) rfl (by kernel_rfl) rfl (by kernel_rfl) (by kernel_rfl) (by kernel_rfl) (by kernel_rfl) fun s₁ f => ?_
  refine wpAny_execs_cons ?_
  refine wpAny_If ?_
  refine wpAny_isTrue_Compare1 ?_
  refine wpAny_BinOp ?_
  refine nm_l f (v := .int x t) (by kernel_rfl) ?_ rfl (by kernel_rfl) (by decide)
  refine wpAny_Constant_int ?_
  refine mod_int (by decide) ?_
  refine wpAny_Constant_int ?_
  refine eq_int ?_
  refine wpAny_truthy_bool ?_
  have f2 := f.next (kp_tok s₁ (s₁.toks + 1 + 1 + 1))
  have h64 := fmod_lo (x.fdiv 2) 64 (by decide)
  have h64' := fmod_hi (x.fdiv 2) 64 (by decide)
  have hN := fmod_lo (x.fdiv 2) 1112064 (by decide)
  have hN' := fmod_hi (x.fdiv 2) 1112064 (by decide)
  by_cases hp : x.fmod 2 = 0
  · rw [show (x.fmod 2 == 0) = true by simpa using hp, if_pos rfl]
    refine wpAny_execs_cons ?_
    refine wpAny_Return_some ?_
    refine Subscript_ ?_
    refine nm_l f2 (v := .str (tx specialL) t2) (by kernel_rfl) ?_ rfl (by kernel_rfl) (by decide)
    refine wpAny_BinOp ?_
    refine wpAny_BinOp ?_
    refine nm_l f2 (v := .int x t) (by kernel_rfl) ?_ rfl (by kernel_rfl) (by decide)
    refine wpAny_Constant_int ?_
    refine floordiv_int (by decide) ?_ (Or.inl (PyProof.noPylong_small (by decide)))
    refine wpAny_Constant_int ?_
    refine mod_int (by decide) ?_
    obtain ⟨i, hi⟩ := Int.eq_ofNat_of_zero_le h64
    rw [hi] at h64' ⊢
    have hlt : i < specialL.length := by
      have : specialL.length = 64 := rfl
      omega
    refine sub_str (c := specialL.getD i 0) ?_ (by decide) ?_
    · rw [List.getD_eq_getElem?_getD, List.getElem?_eq_getElem hlt]; rfl
    have e : signOf x = specialL.getD i 0 := by
      unfold signOf
      rw [if_pos hp, hi]; rfl
    rw [← e]
    exact h _ _ (f2.next (kp_tok _ _)).keeps
  · rw [show (x.fmod 2 == 0) = false by simpa using hp]
    show wpAny _ _ (execs [] _) _ _ _
    refine wpAny_execs_nil ?_
    refine wpAny_execs_cons ?_
    refine wpAny_Assign_Name ?_ ?_
    · refine wpAny_BinOp ?_
      refine wpAny_BinOp ?_
      refine nm_l f2 (v := .int x t) (by kernel_rfl) ?_ rfl (by kernel_rfl) (by decide)
      refine wpAny_Constant_int ?_
      refine floordiv_int (by decide) ?_ (Or.inl (PyProof.noPylong_small (by decide)))
      refine wpAny_Constant_int ?_
      refine mod_int (by decide) ?_
      have f3 := f2.next (kp_tok { s₁ with toks := s₁.toks + 1 + 1 + 1 } (s₁.toks + 1 + 1 + 1 + 1 + 1 + 1 + 1))
      refine st_lk f3 ?_ ?_ ?_
      · rfl
      · kernel_rfl
      intro s₅ f5 _
      refine wpAny_execs_cons ?_
      refine wpAny_Return_some ?_
      refine Call_Name1 ?_ rfl
      refine nm_b (v := .builtin "chr") f5.ik (by kernel_rfl) (by kernel_rfl) ?_ rfl (by kernel_rfl) rfl rfl (by decide)
      refine cw_b1 ?_
      refine wpAny_IfExp ?_
      refine wpAny_isTrue_Compare1 ?_
      refine nm_l f5 (upd_self _ _ _) ?_ rfl (by kernel_rfl) (by decide)
      refine wpAny_Constant_int ?_
      refine lt_int ?_
      refine wpAny_truthy_bool ?_
      have f6 := f5.next (kp_tok s₅ (s₅.toks + 1))
      by_cases hq : (x.fdiv 2).fmod 1112064 < 55296
      · rw [decide_eq_true hq, if_pos rfl]
        refine nm_l f6 (upd_self _ _ _) ?_ rfl (by kernel_rfl) (by decide)
        refine P.chr_of_int ?_ ?_
        · simp only [Bool.or_eq_false_iff, decide_eq_false_iff_not]
          constructor <;> omega
        have e : signOf x = ((x.fdiv 2).fmod 1112064).toNat := by
          unfold signOf
          rw [if_neg hp, if_pos hq]
        rw [← e]
        exact h _ _ (f6.next (kp_tok _ _)).keeps
      · rw [decide_eq_false hq]
        show wpAny _ _ (eval _ _) _ _ _
        refine wpAny_BinOp ?_
        refine nm_l f6 (upd_self _ _ _) ?_ rfl (by kernel_rfl) (by decide)
        refine wpAny_Constant_int ?_
        refine add_int ?_
        refine P.chr_of_int ?_ ?_
        · simp only [Bool.or_eq_false_iff, decide_eq_false_iff_not]
          constructor <;> omega
        have e : signOf x = ((x.fdiv 2).fmod 1112064 + 2048).toNat := by
          unfold signOf
          rw [if_neg hp, if_neg hq]
        rw [← e]
        exact h _ _ (f6.next (kp_tok _ _)).keeps
    · rfl
end
end Mine

end
section
open PySem PySem.W PySem.Calls PyProof.Rows
set_option Elab.async false
set_option maxRecDepth 100000
namespace Mine
section
variable {w : World} {A : Around} {E : Value → Shared → Prop} {s s₀ : Shared} {env : Env} {m cm : Str → Option Value}
/-- what iterating over a value gives -/
def Src (w : World) (A : Around) (E : Value → Shared → Prop) {α : Type} (Is : α → Value → Prop) (cs : List α) (xv : Value) (s : Shared) : Prop :=
  ∀ Q : Value → Shared → Prop, (∀ (s₂ : Shared) (I : Addr) (fp : List Addr) (n : Nat) (P : Nat → Value → Prop) (St : Nat → Heap → Prop), Keeps s s₂ → Walks pw w A I fp [I] n P St → n ≤ sizeLine → St 0 s₂.heap → (∀ b ∈ fp, b < s₂.heap.objs.size) → s.heap.get? I = none →
      n = cs.length → (∀ j v, P j v → ∃ c, cs[j]? = some c ∧ Is c v) → Q (.ref I) s₂) → wpAny (model pw w) A (pyIter xv) Q E s
theorem src_str (hh : A.handled = none) (z : Str) (t : Tok) (hz : z.cps.size ≤ sizeLine) : Src w A E IsSign z.cps.toList (.str z t) s := by
  intro Q h
  refine wpAny_pyIter_str fun o St hW hst => ?_
  refine h _ _ _ _ _ _ (kp_push _) (hW A hh) hz hst ?_ (none_new _ (Nat.le_refl _)) (by simp) ?_
  · intro b hb
    rw [List.mem_singleton] at hb
    subst hb
    rw [Heap.size_push]; exact Nat.lt_succ_self _
  · rintro j v ⟨c, u, e, rfl⟩
    exact ⟨c, by simpa using e, u, rfl⟩
theorem src_list (hh : A.handled = none) {α : Type} {Is : α → Value → Prop} {cs : List α} {l : Addr} {items : Array Value} (hl : s.heap.IsList l items) (hz : items.size ≤ sizeLine) (hp : Paired Is cs items.toList) : Src w A E Is cs (.ref l) s := by
  intro Q h
  refine wpAny_pyIter_list hl ?_
  have hlt : l < s.heap.objs.size := by obtain ⟨o, e, _⟩ := hl; exact Heap.lt_size e
  refine h _ _ _ _ _ _ (kp_push _) (Walks.list hh _ l (Nat.ne_of_lt hlt) items) hz ⟨⟨_, Heap.get?_push_size _ rfl, rfl, rfl⟩, ?_⟩ ?_ (none_new _ (Nat.le_refl _)) (by rw [← prd_len hp]; simp) (fun j v e => prd_at hp j v (by simpa using e))
  · obtain ⟨o, e, r⟩ := hl; exact ⟨o, Heap.get?_push_of_some _ e, r⟩
  · intro b hb
    simp only [List.mem_cons, List.not_mem_nil, or_false] at hb
    rcases hb with rfl | rfl
    · simp [Heap.size_push]
    · rw [Heap.size_push]; exact Nat.lt_succ_of_lt hlt
/-- range called, then iterated -/
theorem src_range (hh : A.handled = none) {e : Expr} {rp rpos : Pos} {K : Value → Shared → Prop} (X : IK w s.heap)
    (hk : env.scope.kind = .function) (hl : env.kindOf (u "range") = some .globalImplicit) (hg : env.globals = mainGlobals) (hb : env.builtins = builtinsNs) (hse : backTo rpos (starEach [e] env) = [(false, eval e env)])
    (h : wpAny (model pw w) A (eval e env) (fun nv s₁ => Keeps s s₁ ∧ ∃ (n : Nat) (t : Tok), nv = .int n t ∧ n ≤ sizeLine ∧ ∀ xv s₂, Keeps s s₂ → Src w A E IsNat (List.range n) xv s₂ → K xv s₂) E s) :
    wpAny (model pw w) A (eval (.Call (.Name (u "range") rp) [e] [] rpos) env) K E s := by
  refine wpAny_Call_NameR (nm_b (v := .type "range") X (by kernel_rfl) (by kernel_rfl) ?_ hk hl hg hb (by decide))
  rw [hse]
  refine PySem.callWith_type rfl (Calls.evalArgs_plain (Calls.spliced_cons (wpAny_mono h (fun nv s₁ h₁ => Calls.spliced_nil ?_) fun _ _ e => e)))
  obtain ⟨k1, n, t, rfl, hn, hq⟩ := h₁
  refine call_range_1 (hq _ _ (kp_trans k1 ⟨_, _, rfl, fun _ _ e => Heap.get?_push_of_some _ e⟩) ?_)
  intro Q h
  have hnn : (n : Int) ≤ (sizeLine : Nat) := by exact_mod_cast hn
  have hsl : ((sizeLine : Nat) : Int) < 2 ^ 62 := by decide
  refine wpAny_pyIter_range (IsRange.new ..) (small_one (by decide) (by decide) (by omega) (by omega)) ?_
  have hsz : Builtin.Range.rangeSize 0 n 1 = (n : Int) := by rw [rangeSize_one]; split <;> omega
  refine h _ _ _ _ _ _ ⟨_, _, rfl, fun _ _ e => Heap.get?_push_of_some _ e⟩ (walks_lt (Walks.range hh _ 0 1 n)) hn ?_ ?_ (none_new _ (by simp [Heap.size_push])) (by simp) ?_
  · have e1 : (0 + ((0 : Nat) : Int) * 1) = 0 := by simp
    have e2 : ((n : Int) - ((0 : Nat) : Int)) = Builtin.Range.rangeSize 0 n 1 := by rw [hsz]; simp
    rw [e1, e2]
    exact Heap.get?_push_size _ rfl
  · intro b hb
    rw [List.mem_singleton] at hb
    subst hb
    simp [Heap.size_push]
  · rintro j v ⟨hj, t, rfl⟩
    exact ⟨j, by simp [hj], t, by simp⟩

abbrev SideA (value : Expr) (y : Str) (py spos : Pos) (iter : Expr) (x : Str) (scope : Scope) (cl : List (Str × Addr)) (env : Env) : Prop :=
  swapsWith value (some (.Name y py)) spos.line env = pure true ∧ scOk scope x = true ∧ closureFor scope env = pure cl ∧ (∀ x, foldedSetIterable iter env x = pure x) ∧ env.kindOf y = some .local ∧ env.scope.kind = .function
theorem as_gen {α : Type} {elt iter : Expr} {x y : Str} {px py : Pos} {ifs : List Expr} {scope : Scope} {pos spos : Pos} {Q : Flow → Shared → Prop} (cl : List (Str × Addr)) (Is : α → Value → Prop) (dec : Value → α) (hdec : ∀ c v, Is c v → dec v = c) (pc : α → Bool) (G : α → Value → Prop)
    (f : Fm w s₀ env m cm s) (side : SideA (.ListComp elt [⟨.Name x px, iter, ifs, 0⟩] scope pos) y py spos iter x scope cl env)
    (h : wpAny (model pw w) A (eval iter env) (fun xv s₁ => Keeps s s₁ ∧ ∃ cs : List α, Src w A E Is cs xv s₁ ∧ Asks w A env scope cl x ifs elt Is cs pc G s ∧
      (∀ D s' ys, Fm w s₀ env (upd m y (.ref D)) cm s' → KL s s' → s.heap.get? D = none → s'.heap.PlainList D ys → Paired G (cs.filter pc) ys.toList → Q .next s')) E s) :
    wpAny (model pw w) A (exec (.Assign [.Name y py] (.ListComp elt [⟨.Name x px, iter, ifs, 0⟩] scope pos) spos) env) Q E s := by
  obtain ⟨hsw, ok, hclos, hs, hy, hfn⟩ := side
  refine wpAny_Assign_ListComp_free (fun v => pc (dec v)) (fun v y => G (dec v) y) hsw hclos (scOk.cell ok) (scOk.kind ok) (scOk.names ok) (scOk.look ok) hy (by rw [hfn]; rfl) (wpAny_mono h (fun xv s₁ h₁ => ?_) fun _ _ e => e) hs
  obtain ⟨k1, cs, src, ak, hq⟩ := h₁
  refine src _ fun s₂ I fp n P St k12 W hn hst hfp hI1 hlen hP => ?_
  have k2 := kp_trans k1 k12
  have hI := none_back k1 hI1
  have f2 := f.next k2
  have hL : env.locals ∉ [I] := by
    rw [List.mem_singleton]
    intro e
    obtain ⟨o, _, _, ho, _⟩ := f.F.toInCall.ns
    rw [e, hI] at ho; cases ho
  have nI : ∀ {b : Addr} {o : Obj}, s.heap.get? b = some o → b ∉ [I] := fun e => by
    simp only [List.mem_singleton]; rintro rfl; rw [hI] at e; cases e
  have up : ∀ s₃ : Shared, (∀ b o, b ∉ [I] → s₂.heap.get? b = some o → s₃.heap.get? b = some o) → Grown s.heap s₃.heap := fun s₃ k b o e => k b o (nI e) (kp_get k2 e)
  refine ⟨I, fp, [I], n, P, St, m, rfl, W, hn, hst, hfp, hL, f2.F.toInCall.ns, ⟨?_, ?_⟩, ?_⟩
  · intro C i v s₃ m₃ E' _ hPv hns hm hk _
    obtain ⟨c, hc, hv⟩ := hP i v hPv
    refine wpAny_mono (ak.tests C c v s₃ m₃ E' (List.mem_of_getElem? hc) hv hns hm (up s₃ hk)) (fun ok s₄ q => ⟨?_, q.2⟩) fun _ _ q => q
    rw [q.1, hdec c v hv]
  · intro C i v s₃ m₃ E' _ hPv hpv hns hm hk _
    obtain ⟨c, hc, hv⟩ := hP i v hPv
    have hpv : pc c = true := by rw [hdec c v hv] at hpv; exact hpv
    refine wpAny_mono (ak.elt C c v s₃ m₃ E' (List.mem_of_getElem? hc) hv hpv hns hm (up s₃ hk)) (fun y s₄ q => ⟨?_, q.2⟩) fun _ _ q => q
    rw [hdec c v hv]; exact q.1
  · intro D h' tk ys vs hD _ hpl hvl hvP hpr hns' hk
    have x2 := f2.F
    refine hq D _ ys ⟨f.X, ⟨?_, hns', fun b o e => ?_, x2.toInCall.fresh⟩, fun k c hc => ?_, x2.apart, x2.above⟩ ⟨h', tk, ?_, fun b o e fr => ?_⟩ (none_back k2 hD) hpl ?_
    · obtain ⟨h₁, tk, rfl⟩ := x2.toInCall.same
      exact ⟨h', _, rfl⟩
    · exact hk b o (Nat.ne_of_lt (Nat.lt_of_lt_of_le (Heap.lt_size e) x2.toInCall.fresh)) (nI (f.F.toInCall.keep b o e)) (x2.toInCall.keep b o e)
    · obtain ⟨o, ho, hd⟩ := f.F.cell k c hc
      exact ⟨o, hk c o (Nat.ne_of_gt (x2.above k c (mem_of_lookup hc))) (nI ho) (kp_get k2 ho), hd⟩
    · obtain ⟨h2, t2, rfl, _⟩ := k2; rfl
    · exact hk b o (ns_frm f.F.toInCall.ns e fr) (nI e) (kp_get k2 e)
    · exact paired_of (Is := Is) (fun c v e => by rw [hdec c v e]) (fun c v y e h => by rw [hdec c v e] at h; exact h) (hvl.trans hlen) (fun j v e => hP j v (hvP j v e)) hpr
end
end Mine

end
section
open PySem PySem.W PySem.Calls PyProof.Rows PySem.Builtin PySem.Builtin.Str
set_option Elab.async false
set_option maxRecDepth 100000
namespace Mine
theorem found_tx (l : List Nat) (c : Nat) : (!(occurrences (tx l) ⟨#[c]⟩ 0 (tx l).length 1).isEmpty) = l.contains c := by
  rw [StrLaws.found_one]
  show decide (c ∈ l) = _
  rw [Bool.eq_iff_iff, decide_eq_true_eq, List.contains_iff_mem]
/-- the place of the first -/
def cut (c : Nat) (l : List Nat) : Nat := (l.takeWhile (· != c)).length
theorem cut_le (c : Nat) (l : List Nat) : cut c l ≤ l.length := by
  unfold cut
  have := List.length_append (as := l.takeWhile (· != c)) (bs := l.dropWhile (· != c))
  rw [List.takeWhile_append_dropWhile] at this
  omega
theorem cut_at {c : Nat} : ∀ {l : List Nat}, c ∈ l → l[cut c l]? = some c
  | a :: r, h => by
    unfold cut
    rw [List.takeWhile_cons]
    by_cases e : a = c
    · subst e; simp
    · have hb : (a != c) = true := by simpa using e
      rw [if_pos hb]
      have : c ∈ r := by
        rcases List.mem_cons.mp h with h | h
        · exact absurd h.symm e
        · exact h
      have h2 := cut_at this
      unfold cut at h2
      simpa using h2
theorem cut_first {c : Nat} : ∀ {l : List Nat} {k : Nat}, k < cut c l → l[k]? ≠ some c
  | a :: r, k, h => by
    unfold cut at h
    rw [List.takeWhile_cons] at h
    by_cases e : a = c
    · subst e; simp at h
    · have hb : (a != c) = true := by simpa using e
      rw [if_pos hb] at h
      cases k with
      | zero => simpa using e
      | succ k =>
        simp only [List.getElem?_cons_succ]
        exact cut_first (by simpa [cut] using h)
theorem occ_tx {l : List Nat} {c : Nat} (hc : c ∈ l) : occurrences (tx l) ⟨#[c]⟩ 0 (tx l).length 1 = [cut c l] := by
  rcases StrLaws.occ_head (tx l) ⟨#[c]⟩ 1 (Nat.le_refl _) with ⟨_, h⟩ | ⟨i, r, e, ha, hn⟩
  · exact absurd ((StrLaws.subAt_one (tx l) c (cut c l)).mpr (cut_at hc)) (h _)
  · have hl := StrLaws.occ_length_le (tx l) ⟨#[c]⟩ 0 (tx l).length 1
    rw [e] at hl ⊢
    have hr : r = [] := by
      cases r with
      | nil => rfl
      | cons _ _ => simp at hl
    subst hr
    have hi : l[i]? = some c := (StrLaws.subAt_one (tx l) c i).mp ha
    have : i = cut c l := by
      rcases Nat.lt_trichotomy i (cut c l) with h | h | h
      · exact absurd hi (cut_first h)
      · exact h
      · exact absurd ((StrLaws.subAt_one (tx l) c (cut c l)).mpr (cut_at hc)) (hn _ h)
    rw [this]
theorem occ_none {l : List Nat} {c : Nat} (hc : ¬ c ∈ l) : occurrences (tx l) ⟨#[c]⟩ 0 (tx l).length 1 = [] := by
  have := found_tx l c
  rw [show l.contains c = false by simpa using hc] at this
  simpa using this
theorem slice_tx {l : List Nat} {i j : Nat} (hij : i ≤ j) (hj : j ≤ l.length) : Txt.slice (tx l) (some (i : Int)) (some (j : Int)) = tx ((l.take j).drop i) := by
  have h := StrLaws.sliceText_plain (x := tx l) (i := (i : Int)) (j := (j : Int)) ⟨by omega, by omega, by show (j : Int) ≤ (l.length : Nat); omega⟩
  refine Eq.trans (show _ = StrLaws.sliceText (tx l) _ _ from rfl) (h.trans ?_)
  show (⟨((l.drop (i : Int).toNat).take ((j : Int) - (i : Int)).toNat).toArray⟩ : Str) = ⟨((l.take j).drop i).toArray⟩
  rw [List.drop_take]
  congr 3
  omega
theorem slice_tx_to {l : List Nat} {j : Nat} (hj : j ≤ l.length) : Txt.slice (tx l) none (some (j : Int)) = tx (l.take j) := by
  have h := StrLaws.sliceText_to (x := tx l) (j := (j : Int)) ⟨by omega, by show (j : Int) ≤ (l.length : Nat); omega⟩
  refine Eq.trans (show _ = StrLaws.sliceText (tx l) _ _ from rfl) (h.trans ?_)
  show (⟨((l.drop (0 : Int).toNat).take ((j : Int) - 0).toNat).toArray⟩ : Str) = ⟨(l.take j).toArray⟩
  congr 3
theorem slice_tx_from {l : List Nat} {i : Nat} (hi : i ≤ l.length) : Txt.slice (tx l) (some (i : Int)) none = tx (l.drop i) := by
  have h := StrLaws.sliceText_from (x := tx l) (i := (i : Int)) ⟨by omega, by show (i : Int) ≤ (l.length : Nat); omega⟩
  refine Eq.trans (show _ = StrLaws.sliceText (tx l) _ _ from rfl) (h.trans ?_)
  show (⟨((l.drop (i : Int).toNat).take ((l.length : Nat) - (i : Int)).toNat).toArray⟩ : Str) = ⟨(l.drop i).toArray⟩
  have : (((l.length : Nat) : Int) - (i : Int)).toNat = (l.drop i).length := by rw [List.length_drop]; omega
  rw [this]
  congr 2
  exact List.take_length
end Mine

end
section
open PySem PySem.W PySem.Calls PyProof.Rows PySem.Builtin PySem.Builtin.Str
set_option Elab.async false
set_option maxRecDepth 100000
namespace Mine
def bl (c : Nat) : Bool := blanksL.contains c
def keptB (t : List Nat) : List Nat := (List.range t.length).filter fun k => !(bl (t.getD k 0))
def bare (t : List Nat) : List Nat := if keptB t = [] then [] else (t.take ((keptB t).getLastD 0 + 1)).drop ((keptB t).headD 0)
theorem ints_nat : ∀ {cs : List Nat} {vs : List Value}, Paired IsNat cs vs → IntsAre vs (cs.map fun (n : Nat) => (n : Int))
  | _, _, .nil => .nil
  | _, _, .cons ⟨u, e⟩ r => by subst e; exact .cons _ _ (ints_nat r)
theorem keptB_lt {t : List Nat} {k : Nat} (h : k ∈ keptB t) : k < t.length := by
  unfold keptB at h
  exact List.mem_range.mp (List.mem_filter.mp h).1
theorem kept_sorted (t : List Nat) : (keptB t).Pairwise (· < ·) := List.Pairwise.filter _ List.pairwise_lt_range
theorem kept_le {t : List Nat} {a b : Nat} (ha : (keptB t)[0]? = some a) (hb : (keptB t)[(keptB t).length - 1]? = some b) : a ≤ b := by
  obtain ⟨h0, rfl⟩ := List.getElem?_eq_some_iff.mp ha
  obtain ⟨h1, rfl⟩ := List.getElem?_eq_some_iff.mp hb
  rcases Nat.eq_zero_or_pos ((keptB t).length - 1) with e | e
  · simp [e]
  · exact Nat.le_of_lt (List.pairwise_iff_getElem.mp (kept_sorted t) 0 _ h0 h1 e)
section
variable {w : World} {A : Around} {E : Value → Shared → Prop} {s : Shared} {Q : Value → Shared → Prop}
theorem sub_list {value slice : Expr} {l : Addr} {items : Array Value} {k : Nat} {u : Tok} {x : Value} (hl : s.heap.IsList l items) (hx : items.toList[k]? = some x) (hk : k < 2 ^ 62) (h : Q x s)
    (hs : subscripted slice false (.ref l) (.int k u) = operate [.ref l, .int k u] (getItem (.ref l) (.int k u)) := by with_unfolding_all rfl)
    (ht : ∀ r, letTemporaryGo value (.ref l) r = pure () := by intro _; with_unfolding_all rfl) : wpAny (model pw w) A (subscriptTail value slice (.ref l) (.int k u)) Q E s :=
  subscriptTail_builtin hl.typeIs slot_list_getitem.lookup (wpAny_getItem_list hl (by omega) (by omega) (by simpa using hx) h) hs ht
theorem sub_list_last {value slice : Expr} {l : Addr} {items : Array Value} {u : Tok} {x : Value} (hl : s.heap.IsList l items) (hn : 0 < items.size) (hx : items.toList[items.size - 1]? = some x) (h : Q x s)
    (hs : subscripted slice false (.ref l) (.int (-1) u) = operate [.ref l, .int (-1) u] (getItem (.ref l) (.int (-1) u)) := by with_unfolding_all rfl)
    (ht : ∀ r, letTemporaryGo value (.ref l) r = pure () := by intro _; with_unfolding_all rfl) : wpAny (model pw w) A (subscriptTail value slice (.ref l) (.int (-1) u)) Q E s := by
  refine subscriptTail_builtin hl.typeIs slot_list_getitem.lookup (wpAny_getItem_list_neg hl (by omega) (by omega) (by omega) ?_ h) hs ht
  have : ((-1 : Int) + (items.size : Nat)).toNat = items.size - 1 := by omega
  rw [this]
  simpa using hx
theorem slice_post {l : List Nat} {t ui uj : Tok} {i j : Nat} (hij : i ≤ j) (hj : j ≤ l.length) (hl : l.length ≤ 1000) (h : ∀ t' k, Q (.str (tx ((l.take j).drop i)) t') { s with toks := k }) :
    (sliceMade (tx l) t (some ((i : Int), ui)) (some ((j : Int), uj)) none).post Q s := by
  have e := slice_tx hij hj
  refine post_val_or_str (y := tx l) ⟨Nat.le_trans (Txt.slice_le (tx l) (some (i : Int)) (some (j : Int))) (Nat.le_trans hl (by decide)), fun t' k => ?_⟩
  have := h t' k
  rw [← e] at this
  exact this
theorem cellk {s₀ : Shared} {env : Env} {m cm : Str → Option Value} {h' : Heap} {n : Str} {c : Addr} {v : Value} (f : Fm w s₀ env m cm s) (hk : Grown s.heap h') (hc : env.cells.lookup n = some c) (hv : cm n = some v) : h'.IsCell c (some v) := by
  have := (f.F.cell n c hc).keeps hk
  rw [hv] at this
  exact this
theorem call_bare (X : IK w s.heap) (hd : A.depth < recursionLimit) (hh : A.handled = none) (hu : A.units + 80 < cLine) (l : List Nat) (t t2 : Tok) (hl : l.length ≤ 1000) (h : ∀ s' u, Keeps s s' → Q (.str (tx (bare l)) u) s') :
    wpAny (model pw w) A (call (.ref 256) [.str (tx l) t, .str (tx blanksL) t2]) Q E s := by
  refine callF (o := o256 w.params) (binds := [(u "text", .str (tx l) t), (u "blanks", .str (tx blanksL) t2)]) X hd (by kernel_rfl) rfl (by kernel_rfl) rfl (by kernel_rfl) rfl (by kernel_rfl) (by kernel_rfl) (by kernel_rfl) (by kernel_rfl) fun s₁ f => ?_
  refine wpAny_execs_cons ?_
  refine as_gen [(u "text", s.heap.objs.size + 1), (u "blanks", s.heap.objs.size + 1 + 1)] IsNat ix (fun c v ⟨u, e⟩ => by subst e; rfl) (fun k => !(bl (l.getD k 0))) (fun k v => IsNat k v) f ?_ ?_
  · exact ⟨by kernel_rfl, by kernel_rfl, by kernel_rfl, fun _ => rfl, by kernel_rfl, rfl⟩
  have hA : ∀ env, (A.deeper env).handled = none := fun _ => hh
  refine src_range (hA _) f.ik ?_ ?_ ?_ ?_ ?_ ?_
  · rfl
  · kernel_rfl
  · rfl
  · rfl
  · kernel_rfl
  refine Call_Name1 ?_ rfl
  refine nm_b (v := .builtin "len") f.ik (by kernel_rfl) (by kernel_rfl) ?_ rfl (by kernel_rfl) rfl rfl (by decide)
  refine cw_b1 ?_
  refine nm_c f (c := s.heap.objs.size + 1) (v := .str (tx l) t) (by kernel_rfl) ?_ rfl (by kernel_rfl) (by kernel_rfl) (by decide)
  refine PyProof.Rows.len_str ?_ ?_
  · show ¬ ((l.length : Nat) : Int) ≥ 2 ^ 63
    omega
  refine ⟨⟨_, _, rfl, fun _ _ e => e⟩, l.length, _, rfl, Nat.le_trans hl (by decide), ?_⟩
  intro xv s₂ k2 src
  refine ⟨k2, _, src, ⟨?_, ?_⟩, ?_⟩
  · rintro C c v s₃ m₃ E' hc ⟨u', rfl⟩ hns hm hk
    refine wpAny_tests_one ?_
    refine wpAny_isTrue_Compare1 ?_
    refine Subscript_ ?_
    refine nk_c (c := s.heap.objs.size + 1) (v := .str (tx l) t) (cellk f hk (n := u "text") (by kernel_rfl) (by kernel_rfl)) ?_ (by kernel_rfl) (by kernel_rfl) (by kernel_rfl) (by decide)
    refine nk_l hns hm ?_ (by kernel_rfl) (by kernel_rfl) (by decide)
    have hlt := List.mem_range.mp hc
    refine sub_str (c := l.getD c 0) ?_ hl ?_
    · rw [List.getD_eq_getElem?_getD, List.getElem?_eq_getElem hlt]; rfl
    refine nk_c (c := s.heap.objs.size + 1 + 1) (v := .str (tx blanksL) t2) (cellk f hk (n := u "blanks") (by kernel_rfl) (by kernel_rfl)) ?_ (by kernel_rfl) (by kernel_rfl) (by kernel_rfl) (by decide)
    refine PyProof.Rows.notIn_str ?_
    rw [found_tx]
    exact wpAny_truthy_bool ⟨rfl, kp_tok _ _⟩
  · rintro C c v s₃ m₃ E' hc ⟨u, rfl⟩ _ hns hm hk
    refine nk_l hns hm ?_ (by kernel_rfl) (by kernel_rfl) (by decide)
    exact ⟨⟨_, rfl⟩, kp_refl _⟩
  · intro D s₃ ys f3 l3 _ hD hp
    refine wpAny_execs_cons ?_
    refine wpAny_Return_some ?_
    refine wpAny_IfExp ?_
    refine wpAny_isTrue_Compare1 ?_
    refine nm_l f3 (upd_self _ _ _) ?_ rfl (by kernel_rfl) (by decide)
    refine wpAny_List ?_
    refine spliced_none ?_
    refine ⟨Nat.zero_le _, ?_⟩
    have f4 := f3.next (kp_push (s := s₃) { cls := .type "list", data := .seq ([] : List Value).toArray })
    have hD4 := kp_plain (kp_push (s := s₃) { cls := .type "list", data := .seq ([] : List Value).toArray }) hD
    have hN : (s₃.heap.push { cls := .type "list", data := .seq ([] : List Value).toArray }).IsList s₃.heap.objs.size ([] : List Value).toArray := ⟨_, Heap.get?_push_size _ rfl, rfl, _, rfl⟩
    have e1 : ys.toList.toArray = ys := by simp
    have hK : ys.toList.length = (keptB l).length := prd_len hp
    refine ke_ne_ints (xs := ys.toList) (ys := []) (ms := []) (by rw [e1]; exact isList_of hD4) hN (ints_nat hp) .nil (by show A.units + 3 + 64 < cLine; omega) ?_
    refine wpAny_truthy_bool ?_
    by_cases hz : keptB l = []
    · have e2 : (!decide ((List.filter (fun k => !(bl (l.getD k 0))) (List.range l.length)).map (fun (n : Nat) => (n : Int)) = [])) = false := by
        have : List.filter (fun k => !(bl (l.getD k 0))) (List.range l.length) = [] := hz
        rw [this]; rfl
      rw [e2]
      show wpAny _ _ (PySem.eval _ _) _ _ _
      refine wpAny_Constant_str ?_
      have e3 : bare l = [] := by unfold bare; rw [if_pos hz]
      rw [e3] at h
      exact h _ _ (f4.next (kp_tok _ _)).keeps
    · have e2 : (!decide ((List.filter (fun k => !(bl (l.getD k 0))) (List.range l.length)).map (fun (n : Nat) => (n : Int)) = [])) = true := by
        rw [Bool.not_eq_true', decide_eq_false_iff_not, List.map_eq_nil_iff]
        exact hz
      rw [e2, if_pos rfl]
      refine wpAny_Subscript_str_slice ?_ ?_
      rotate_left
      · intro _ _; rfl
      have hpos : 0 < (keptB l).length := List.length_pos_iff.mpr hz
      obtain ⟨a, ha⟩ : ∃ a, (keptB l)[0]? = some a := ⟨_, List.getElem?_eq_getElem hpos⟩
      obtain ⟨b, hb⟩ : ∃ b, (keptB l)[(keptB l).length - 1]? = some b := ⟨_, List.getElem?_eq_getElem (by omega)⟩
      obtain ⟨va, hva, ua, rfl⟩ := prd_get hp 0 a ha
      obtain ⟨vb, hvb, ub, rfl⟩ := prd_get hp _ b hb
      refine nm_c f4 (c := s.heap.objs.size + 1) (v := .str (tx l) t) (by kernel_rfl) ?_ rfl (by kernel_rfl) (by kernel_rfl) (by decide)
      show wpAny _ _ (PySem.eval _ _) _ _ _
      refine Subscript_ ?_
      refine nm_l f4 (upd_self _ _ _) ?_ rfl (by kernel_rfl) (by decide)
      refine wpAny_Constant_int ?_
      refine sub_list (k := 0) (isList_of (kp_plain (kp_tok _ _) hD4)) hva (by decide) ?_
      have f5 := f4.next (kp_tok _ (s₃.toks + 1))
      have hD5 := kp_plain (kp_tok _ (s₃.toks + 1)) hD4
      show wpAny _ _ (PySem.eval _ _) _ _ _
      refine wpAny_BinOp ?_
      refine Subscript_ ?_
      refine nm_l f5 (upd_self _ _ _) ?_ rfl (by kernel_rfl) (by decide)
      refine wpAny_UnaryOp ?_
      refine wpAny_Constant_int ?_
      refine neg_int ?_
      refine sub_list_last (isList_of (kp_plain (kp_tok _ _) hD5)) (by have : ys.size = (keptB l).length := hK; omega) (by have : ys.size = (keptB l).length := hK; rw [this]; exact hvb) ?_
      refine wpAny_Constant_int ?_
      refine add_int ?_
      have hab : a ≤ b := kept_le ha hb
      have hbl : b < l.length := keptB_lt (List.mem_of_getElem? hb)
      refine ⟨tx l, t, some ((a : Int), ua), some (((b + 1 : Nat) : Int), _), rfl, rfl, rfl, ?_⟩
      refine slice_post (by omega) (by omega) hl ?_
      intro t' k
      have e3 : bare l = (l.take (b + 1)).drop a := by
        unfold bare
        rw [if_neg hz, List.getLastD_eq_getLast?, List.getLast?_eq_getElem?, hb, List.headD_eq_head?_getD, List.head?_eq_getElem?, ha]
        rfl
      rw [e3] at h
      exact h _ t' (kp_trans f5.keeps ⟨_, _, rfl, fun _ _ e => Heap.get?_push_of_some _ e⟩)
end
end Mine

end
section
open PySem PySem.W PySem.Calls PyProof.Rows PySem.Builtin PySem.Builtin.Str
set_option Elab.async false
set_option maxRecDepth 100000
set_option maxHeartbeats 2000000
namespace Mine
def nt (c : Nat) : Bool := nothingsL.contains c
def leftL (p : List Nat) : List Nat := p.filter fun c => !(nt c)
def shI (p : List Nat) : Int := if keptB (leftL p) = [] then ((leftL p).length : Int) else
  (((keptB (leftL p)).headD 0 : Nat) : Int) + ((leftL p).length : Nat) - 1 - (((keptB (leftL p)).getLastD 0 : Nat) : Int) + (if (leftL p).getD ((keptB (leftL p)).headD 0) 0 = 890 then 1 else 0)
section
variable {w : World} {A : Around} {E : Value → Shared → Prop} {s : Shared} {Q : Value → Shared → Prop}
theorem beq_sign (c d : Nat) : ((⟨#[c]⟩ : Str) == ⟨#[d]⟩) = decide (c = d) := by
  rw [Bool.eq_iff_iff, beq_iff_eq, decide_eq_true_eq]
  constructor
  · intro h; injection h with h; simpa using h
  · rintro rfl; rfl
theorem eq_sign {c d : Nat} {y : Str} {t u : Tok} (hy : y = ⟨#[d]⟩) (h : ∀ b, b = decide (c = d) → Q (.bool b) s) : wpAny (model pw w) A (compareOp .Eq (.str ⟨#[c]⟩ t) (.str y u)) Q E s := by
  subst hy
  exact PyProof.Rows.eq_str (h _ (beq_sign c d))
theorem call_shielded (X : IK w s.heap) (hd : A.depth < recursionLimit) (hh : A.handled = none) (hu : A.units + 80 < cLine) (p : List Nat) (t t2 t3 : Tok) (hl : p.length ≤ 1000) (h : ∀ s' u, Keeps s s' → Q (.int (shI p) u) s') :
    wpAny (model pw w) A (call (.ref 261) [.str (tx p) t, .str (tx blanksL) t2, .str (tx nothingsL) t3]) Q E s := by
  refine callF (o := o261 w.params) (binds := [(u "part", .str (tx p) t), (u "blanks", .str (tx blanksL) t2), (u "nothings", .str (tx nothingsL) t3)]) X hd (by kernel_rfl) rfl (by kernel_rfl) rfl (by kernel_rfl) rfl (by kernel_rfl) (by kernel_rfl) (by kernel_rfl) (by kernel_rfl) fun s₁ f => ?_
  have hA : ∀ env, (A.deeper env).handled = none := fun _ => hh
  have hleft : (leftL p).length ≤ 1000 := Nat.le_trans (List.length_filter_le _ _) hl
  refine wpAny_execs_cons ?_
  refine wpAny_Assign_Name ?_ ?_
  rotate_left
  · rfl
  refine lcs [(u "nothings", s.heap.objs.size + 1 + 1)] (fun c => !(nt c)) (fun c v => IsSign c v) hh ?_ ?_
  · exact ⟨by kernel_rfl, by kernel_rfl, fun _ => rfl⟩
  refine nm_l f (v := .str (tx p) t) (by kernel_rfl) ?_ rfl (by kernel_rfl) (by decide)
  refine ⟨kp_refl _, tx p, t, rfl, ?_, ⟨?_, ?_⟩, ?_⟩
  · show p.toArray.size ≤ _
    rw [List.size_toArray]
    exact Nat.le_trans hl (by decide)
  · rintro C c v s₃ m₃ E' _ ⟨u', rfl⟩ hns hm hk
    refine wpAny_tests_one ?_
    refine wpAny_isTrue_Compare1 ?_
    refine nk_l hns hm ?_ (by kernel_rfl) (by kernel_rfl) (by decide)
    refine nk_c (c := s.heap.objs.size + 1 + 1) (v := .str (tx nothingsL) t3) (cellk f hk (n := u "nothings") (by kernel_rfl) (by kernel_rfl)) ?_ (by kernel_rfl) (by kernel_rfl) (by kernel_rfl) (by decide)
    refine PyProof.Rows.notIn_str ?_
    rw [found_tx]
    exact wpAny_truthy_bool ⟨rfl, kp_refl _⟩
  · rintro C c v s₃ m₃ E' _ ⟨u', rfl⟩ _ hns hm hk
    refine nk_l hns hm ?_ (by kernel_rfl) (by kernel_rfl) (by decide)
    exact ⟨⟨_, rfl⟩, kp_refl _⟩
  intro D s₃ ys k3 _ hD hp
  have f3 := f.next k3
  have hp : Paired IsSign (leftL p) ys.toList := hp
  have hys : ys.size = (leftL p).length := prd_len hp
  refine st_ck f3 (c := s.heap.objs.size + 1 + 1 + 1) ?_ ?_ ?_ ?_
  · rfl
  · kernel_rfl
  · kernel_rfl
  intro s₄ f4 l4
  have hD4 := kl_plain l4 hD
  refine wpAny_execs_cons ?_
  refine as_gen [(u "left", s.heap.objs.size + 1 + 1 + 1), (u "blanks", s.heap.objs.size + 1)] IsNat ix (fun c v ⟨u, e⟩ => by subst e; rfl) (fun k => !(bl ((leftL p).getD k 0))) (fun k v => IsNat k v) f4 ?_ ?_
  · exact ⟨by kernel_rfl, by kernel_rfl, by kernel_rfl, fun _ => rfl, by kernel_rfl, rfl⟩
  refine src_range (hA _) f4.ik ?_ ?_ ?_ ?_ ?_ ?_
  · rfl
  · kernel_rfl
  · rfl
  · rfl
  · kernel_rfl
  refine Call_Name1 ?_ rfl
  refine nm_b (v := .builtin "len") f4.ik (by kernel_rfl) (by kernel_rfl) ?_ rfl (by kernel_rfl) rfl rfl (by decide)
  refine cw_b1 ?_
  refine nm_c f4 (c := s.heap.objs.size + 1 + 1 + 1) (upd_self _ _ _) ?_ rfl (by kernel_rfl) (by kernel_rfl) (by decide)
  refine PyProof.Rows.len_list (isList_of hD4) ?_ ?_
  · rw [hys]; omega
  rw [hys]
  refine ⟨⟨_, _, rfl, fun _ _ e => e⟩, (leftL p).length, _, rfl, Nat.le_trans hleft (by decide), ?_⟩
  intro xv s₅ k5 src
  refine ⟨k5, _, src, ⟨?_, ?_⟩, ?_⟩
  · rintro C c v s₆ m₃ E' hc ⟨u', rfl⟩ hns hm hk
    have hlt := List.mem_range.mp hc
    obtain ⟨v, hv, uv, rfl⟩ := prd_get hp c ((leftL p).getD c 0) (by rw [List.getD_eq_getElem?_getD, List.getElem?_eq_getElem hlt]; rfl)
    have hD6 : s₆.heap.PlainList D ys := let ⟨n, e⟩ := hD4; ⟨n, hk _ _ e⟩
    refine wpAny_tests_one ?_
    refine wpAny_isTrue_Compare1 ?_
    refine Subscript_ ?_
    refine nk_c (c := s.heap.objs.size + 1 + 1 + 1) (v := .ref D) (cellk f4 hk (n := u "left") (by kernel_rfl) (upd_self _ _ _)) ?_ (by kernel_rfl) (by kernel_rfl) (by kernel_rfl) (by decide)
    refine nk_l hns hm ?_ (by kernel_rfl) (by kernel_rfl) (by decide)
    refine sub_list (isList_of hD6) hv (by omega) ?_
    refine nk_c (c := s.heap.objs.size + 1) (v := .str (tx blanksL) t2) (cellk f4 hk (n := u "blanks") (by kernel_rfl) (by kernel_rfl)) ?_ (by kernel_rfl) (by kernel_rfl) (by kernel_rfl) (by decide)
    refine PyProof.Rows.notIn_str ?_
    rw [found_tx]
    exact wpAny_truthy_bool ⟨rfl, kp_refl _⟩
  · rintro C c v s₃ m₃ E' hc ⟨u, rfl⟩ _ hns hm hk
    refine nk_l hns hm ?_ (by kernel_rfl) (by kernel_rfl) (by decide)
    exact ⟨⟨_, rfl⟩, kp_refl _⟩
  intro D2 s₆ zs f6 l6 _ hD2 hq
  have hq : Paired IsNat (keptB (leftL p)) zs.toList := hq
  have hD6 := kl_plain l6 hD4
  refine wpAny_execs_cons ?_
  refine wpAny_If ?_
  refine wpAny_isTrue_Compare1 ?_
  refine nm_l f6 (upd_self _ _ _) ?_ rfl (by kernel_rfl) (by decide)
  refine wpAny_List ?_
  refine spliced_none ?_
  refine ⟨Nat.zero_le _, ?_⟩
  have kN := kp_push (s := s₆) { cls := .type "list", data := .seq ([] : List Value).toArray }
  have f7 := f6.next kN
  have hD7 := kp_plain kN hD6
  have hE7 := kp_plain kN hD2
  have hN : (s₆.heap.push { cls := .type "list", data := .seq ([] : List Value).toArray }).IsList s₆.heap.objs.size ([] : List Value).toArray := ⟨_, Heap.get?_push_size _ rfl, rfl, _, rfl⟩
  have e1 : zs.toList.toArray = zs := by simp
  have hK : zs.size = (keptB (leftL p)).length := prd_len hq
  refine ke_eq_ints (xs := zs.toList) (ys := []) (ms := []) (by rw [e1]; exact isList_of hE7) hN (ints_nat hq) .nil (by show A.units + 3 + 64 < cLine; omega) ?_
  refine wpAny_truthy_bool ?_
  by_cases hz : keptB (leftL p) = []
  · have e2 : decide ((keptB (leftL p)).map (fun (n : Nat) => (n : Int)) = []) = true := by rw [hz]; rfl
    rw [e2, if_pos rfl]
    refine wpAny_execs_cons ?_
    refine wpAny_Return_some ?_
    refine Call_Name1 ?_ rfl
    refine nm_b (v := .builtin "len") f7.ik (by kernel_rfl) (by kernel_rfl) ?_ rfl (by kernel_rfl) rfl rfl (by decide)
    refine cw_b1 ?_
    refine nm_c f7 (c := s.heap.objs.size + 1 + 1 + 1) (upd_self _ _ _) ?_ rfl (by kernel_rfl) (by kernel_rfl) (by decide)
    refine PyProof.Rows.len_list (isList_of hD7) ?_ ?_
    · rw [hys]; omega
    rw [hys]
    have e3 : shI p = ((leftL p).length : Int) := by unfold shI; rw [if_pos hz]
    rw [e3] at h
    exact h _ _ (kp_trans f7.keeps ⟨_, _, rfl, fun _ _ e => e⟩)
  · have e2 : decide ((keptB (leftL p)).map (fun (n : Nat) => (n : Int)) = []) = false := by
      rw [decide_eq_false_iff_not, List.map_eq_nil_iff]; exact hz
    rw [e2]
    show wpAny _ _ (execs [] _) _ _ _
    refine wpAny_execs_nil ?_
    have hpos : 0 < (keptB (leftL p)).length := List.length_pos_iff.mpr hz
    obtain ⟨a, ha⟩ : ∃ a, (keptB (leftL p))[0]? = some a := ⟨_, List.getElem?_eq_getElem hpos⟩
    obtain ⟨b, hb⟩ : ∃ b, (keptB (leftL p))[(keptB (leftL p)).length - 1]? = some b := ⟨_, List.getElem?_eq_getElem (by omega)⟩
    obtain ⟨va, hva, ua, rfl⟩ := prd_get hq 0 a ha
    obtain ⟨vb, hvb, ub, rfl⟩ := prd_get hq _ b hb
    have hal : a < (leftL p).length := keptB_lt (List.mem_of_getElem? ha)
    obtain ⟨c0, hc0⟩ : ∃ c0, (leftL p)[a]? = some c0 := ⟨_, List.getElem?_eq_getElem hal⟩
    obtain ⟨vc, hvc, uc, rfl⟩ := prd_get hp a c0 hc0
    refine wpAny_execs_cons ?_
    refine wpAny_Return_some ?_
    refine wpAny_BinOp ?_
    refine wpAny_BinOp ?_
    refine wpAny_BinOp ?_
    refine wpAny_BinOp ?_
    refine Subscript_ ?_
    refine nm_l f7 (upd_self _ _ _) ?_ rfl (by kernel_rfl) (by decide)
    refine wpAny_Constant_int ?_
    refine sub_list (k := 0) (isList_of (kp_plain (kp_tok _ _) hE7)) hva (by decide) ?_
    have f8 := f7.next (kp_tok _ (s₆.toks + 1))
    have hD8 := kp_plain (kp_tok _ (s₆.toks + 1)) hD7
    have hE8 := kp_plain (kp_tok _ (s₆.toks + 1)) hE7
    refine Call_Name1 ?_ rfl
    refine nm_b (v := .builtin "len") f8.ik (by kernel_rfl) (by kernel_rfl) ?_ rfl (by kernel_rfl) rfl rfl (by decide)
    refine cw_b1 ?_
    refine nm_c f8 (c := s.heap.objs.size + 1 + 1 + 1) (upd_self _ _ _) ?_ rfl (by kernel_rfl) (by kernel_rfl) (by decide)
    refine PyProof.Rows.len_list (isList_of hD8) ?_ ?_
    · rw [hys]; omega
    rw [hys]
    refine add_int ?_
    refine wpAny_Constant_int ?_
    refine sub_int ?_
    have k9 := fun t => kp_tok { s₆ with heap := s₆.heap.push { cls := .type "list", data := .seq ([] : List Value).toArray } } t
    have f9 := f7.next (k9 (s₆.toks + 1 + 1 + 1 + 1 + 1 + 1))
    have hD9 := kp_plain (k9 (s₆.toks + 1 + 1 + 1 + 1 + 1 + 1)) hD7
    have hE9 := kp_plain (k9 (s₆.toks + 1 + 1 + 1 + 1 + 1 + 1)) hE7
    refine Subscript_ ?_
    refine nm_l f9 (upd_self _ _ _) ?_ rfl (by kernel_rfl) (by decide)
    refine wpAny_UnaryOp ?_
    refine wpAny_Constant_int ?_
    refine neg_int ?_
    refine sub_list_last (isList_of (kp_plain (kp_tok _ _) hE9)) (by omega) (by rw [hK]; exact hvb) ?_
    refine sub_int ?_
    have f10 := f7.next (k9 (s₆.toks + 1 + 1 + 1 + 1 + 1 + 1 + 1 + 1 + 1))
    have hD10 := kp_plain (k9 (s₆.toks + 1 + 1 + 1 + 1 + 1 + 1 + 1 + 1 + 1)) hD7
    have hE10 := kp_plain (k9 (s₆.toks + 1 + 1 + 1 + 1 + 1 + 1 + 1 + 1 + 1)) hE7
    refine wpAny_IfExp ?_
    refine wpAny_isTrue_Compare1 ?_
    refine Subscript_ ?_
    refine nm_c f10 (c := s.heap.objs.size + 1 + 1 + 1) (upd_self _ _ _) ?_ rfl (by kernel_rfl) (by kernel_rfl) (by decide)
    refine Subscript_ ?_
    refine nm_l f10 (upd_self _ _ _) ?_ rfl (by kernel_rfl) (by decide)
    refine wpAny_Constant_int ?_
    refine sub_list (k := 0) (isList_of (kp_plain (kp_tok _ _) hE10)) hva (by decide) ?_
    refine sub_list (isList_of (kp_plain (kp_tok _ _) hD10)) hvc (by omega) ?_
    refine wpAny_Constant_str ?_
    refine eq_sign (d := 890) ?_ ?_
    · rfl
    intro bb hbb
    refine wpAny_truthy_bool ?_
    have e3 : shI p = (a : Int) + ((leftL p).length : Nat) - 1 - (b : Int) + (if c0 = 890 then 1 else 0) := by
      unfold shI
      rw [if_neg hz, List.getLastD_eq_getLast?, List.getLast?_eq_getElem?, hb, List.headD_eq_head?_getD, List.head?_eq_getElem?, ha]
      simp only [Option.getD_some, List.getD_eq_getElem?_getD, hc0]
    rw [e3] at h
    clear e3
    cases bb with
    | true =>
      rw [if_pos (of_decide_eq_true hbb.symm)] at h
      show wpAny _ _ (PySem.eval _ _) _ _ _
      refine wpAny_Constant_int ?_
      refine add_int ?_
      exact h _ _ (kp_trans f10.keeps ⟨_, _, rfl, fun _ _ e => e⟩)
    | false =>
      rw [if_neg (of_decide_eq_false hbb.symm)] at h
      show wpAny _ _ (PySem.eval _ _) _ _ _
      refine wpAny_Constant_int ?_
      refine add_int ?_
      exact h _ _ (kp_trans f10.keeps ⟨_, _, rfl, fun _ _ e => e⟩)
end
end Mine

end
section
open PySem PySem.W PySem.Calls PyProof.Rows PySem.Builtin PySem.Builtin.Str
set_option Elab.async false
set_option maxRecDepth 100000
namespace Mine
theorem mro_map : mroOf (.type "map") = pure [.type "map", .type "object"] := by rw [mroOf_type]; kernel_rfl
theorem sub_map : isSubtype (.type "map") (.type "map") = pure true := by rw [isSubtype_type]; kernel_rfl
theorem lookup_map_new : typeLookup (.type "map") "__new__" = pure (some (.builtin "map.__new__")) := by rw [typeLookup_type, builtinLookup_eq_fast]; kernel_rfl
abbrev oIt (l : Addr) : Obj := { cls := .type "list_iterator", data := .fields #[.ref l, .int 0 0] }
abbrev oTu (J : Addr) : Obj := { cls := .type "tuple", data := .seq #[.ref J] }
abbrev oMap (T : Addr) (f : String) : Obj := { cls := .type "map", data := .fields #[.ref T, .builtin f] }
open AutoSeq1 (wpAny_loadPart') in
set_option maxHeartbeats 1000000 in
theorem meets_map_newL (l : Addr) (items : Array Value) (n : Nat) (f : String) :
    Meets (Builtin.«map.__new__» ⟨[.type "map", .builtin f, .ref l], []⟩) (fun _ R s => s.heap.get? l = some { cls := .type "list", data := .seq items n } ∧
      R (.ok (.ret (.ref ((s.heap.push (oIt l)).push (oTu s.heap.objs.size)).objs.size)))
        { s with heap := ((s.heap.push (oIt l)).push (oTu s.heap.objs.size)).push (oMap (s.heap.push (oIt l)).objs.size f) }) :=
  .of_wp fun prog w A R s h => by
    obtain ⟨hp, g, d, tk, os⟩ := s; obtain ⟨hl, h⟩ := h
    have hsub := sub_map
    have hL : Heap.IsList (Shared.heap ⟨hp, g, d, tk, os⟩) l items := ⟨_, hl, rfl, n, rfl⟩
    wp_walk using wpAny_loadPart' hl, wpAny_pyIter_list hL
    exact ⟨_, rfl, h⟩
theorem slot_map_init : Slot "map" "__init__" "object.__init__" :=
  .of (owner := "object") (n := "__init__") (by rw [typeLookup_type, builtinLookup_eq_fast]; kernel_rfl) (by decide +kernel) (by decide +kernel) (by decide +kernel)
    (by first | exact .inl (by decide +kernel) | exact .inr (by decide +kernel)) (by rw [isSubtype_type]; kernel_rfl)
theorem called_map : TypeCalled "map" "map.__new__" "object.__init__" :=
  ⟨by decide +kernel, by decide +kernel, ⟨_, _, mro_map⟩, madeBy_type mro_map lookup_map_new (by decide +kernel), by decide +kernel, by rw [isSubtype_type]; kernel_rfl, slot_map_init⟩
theorem slot_map_iter : Slot "map" "__iter__" "map.__iter__" :=
  .of (owner := "map") (n := "__iter__") (by rw [typeLookup_type, builtinLookup_eq_fast]; kernel_rfl) (by decide +kernel) (by decide +kernel) (by decide +kernel)
    (by first | exact .inl (by decide +kernel) | exact .inr (by decide +kernel)) (by rw [isSubtype_type]; kernel_rfl)
theorem slot_map_next : Slot "map" "__next__" "map.__next__" :=
  .of (owner := "map") (n := "__next__") (by rw [typeLookup_type, builtinLookup_eq_fast]; kernel_rfl) (by decide +kernel) (by decide +kernel) (by decide +kernel)
    (by first | exact .inl (by decide +kernel) | exact .inr (by decide +kernel)) (by rw [isSubtype_type]; kernel_rfl)
theorem entry_map_new : entryFor table "map.__new__" = some Builtin.«map.__new__» := entryFor_of_tree (by kernel_rfl)
theorem entry_map_next : entryFor table "map.__next__" = some Builtin.«map.__next__» := entryFor_of_tree (by kernel_rfl)
theorem entry_map_iter : entryFor table "map.__iter__" = some Builtin.«dict_keyiterator.__iter__» :=
  entryFor_alias (id' := "dict_keyiterator.__iter__") (by kernel_rfl) rfl (by decide +kernel) (by kernel_rfl)
theorem args_map_iter (a : Value) : argsOk "map.__iter__" ⟨[a], []⟩ := by unfold argsOk; kernel_rfl
theorem args_map_next (a : Value) : argsOk "map.__next__" ⟨[a], []⟩ := by unfold argsOk; kernel_rfl
theorem nolen_map : typeLookup (.type "map") "__len__" = pure none := by rw [typeLookup_type, builtinLookup_eq_fast]; kernel_rfl
theorem nohint_map : typeLookup (.type "map") "__length_hint__" = pure none := by rw [typeLookup_type, builtinLookup_eq_fast]; kernel_rfl
theorem typeCall_map (a b : Value) : checkTypeCall "map" ⟨[a, b], []⟩ = pure () := by kernel_rfl
theorem newCall_map (a b : Value) : checkBuiltinCall "map.__new__" ⟨[.type "map", a, b], []⟩ = pure () := by kernel_rfl
section
variable {w : World} {A : Around} {E : Value → Shared → Prop} {s : Shared} {Q : Value → Shared → Prop}
structure IsMap (h : Heap) (I T J l : Addr) (f : String) (items : Array Value) (i : Nat) : Prop where
  m : h.get? I = some (oMap T f)
  t : h.get? T = some (oTu J)
  j : h.IsListIter J l i
  l : h.IsList l items
theorem call_map {l : Addr} {items : Array Value} {f : String} (hl : s.heap.PlainList l items) (h : ∀ I T J s', Keeps s s' → IsMap s'.heap I T J l f items 0 → s.heap.get? J = none → s.heap.get? I = none → s.heap.get? T = none → J ≠ I → Q (.ref I) s') :
    wpAny (model pw w) A (call (.type "map") [.builtin f, .ref l]) Q E s := by
  obtain ⟨n, hl⟩ := hl
  refine callType_new called_map (by decide) (typeCall_map _ _) (newCall_map _ _) (fun obj => ?_) entry_map_new (meets_map_newL l items n f) ⟨hl, ?_⟩
  · exact F.args_object_init_3 obj _ _
  have h3 : (((s.heap.push (oIt l)).push (oTu s.heap.objs.size)).push (oMap (s.heap.push (oIt l)).objs.size f)).get? ((s.heap.push (oIt l)).push (oTu s.heap.objs.size)).objs.size = some (oMap (s.heap.push (oIt l)).objs.size f) := Heap.get?_push_size _ rfl
  refine ⟨⟨_, h3, rfl⟩, h _ (s.heap.push (oIt l)).objs.size s.heap.objs.size _ ⟨_, _, rfl, fun _ _ e => Heap.get?_push_of_some _ (Heap.get?_push_of_some _ (Heap.get?_push_of_some _ e))⟩ ⟨h3, ?_, ?_, ?_⟩ (none_new _ (Nat.le_refl _)) (none_new _ (by simp only [Heap.size_push]; omega)) (none_new _ (by simp only [Heap.size_push]; omega)) (Nat.ne_of_lt (by simp only [Heap.size_push]; omega))⟩
  · exact Heap.get?_push_of_some _ (Heap.get?_push_size _ rfl)
  · exact ⟨_, Heap.get?_push_of_some _ (Heap.get?_push_of_some _ (Heap.get?_push_size _ rfl)), rfl, rfl⟩
  · exact ⟨_, Heap.get?_push_of_some _ (Heap.get?_push_of_some _ (Heap.get?_push_of_some _ hl)), rfl, n, rfl⟩
end
end Mine

end
section
open PySem PySem.W PySem.Calls PyProof.Rows PySem.Builtin PySem.Builtin.Str
set_option Elab.async false
set_option maxRecDepth 100000
namespace Mine
section
variable {w : World} {A : Around} {E : Value → Shared → Prop} {s : Shared}
theorem map_body {I T J l : Addr} {f : String} {items : Array Value} {i : Nat} {Q : Fin → Shared → Prop} (m : IsMap s.heap I T J l f items i)
    (h : wpAny (model pw w) A (Builtin.SmallTypes.nextOf (.ref J)) (fun x s₁ => s₁.heap.get? I = some (oMap T f) ∧ wpAny (model pw w) A (call (.builtin f) [x]) (fun r s₂ => Q (.done (.ret r)) s₂) E s₁) E s) :
    wpAny (model pw w) A (Builtin.«map.__next__» ⟨[.ref I], []⟩) Q E s := by
  show wpAny _ _ (field (.ref I) 0 >>= _) _ _ _
  refine wpAny_bind (wpAny_field m.m rfl (x := .ref T) rfl ?_)
  refine wpAny_bind (wpAny_seqItems m.t rfl ?_)
  show wpAny _ _ (forIn (#[Value.ref J] : Array Value) #[] _ >>= _) _ _ _
  rw [← Array.forIn_toList]
  refine wpAny_bind ?_
  rw [List.forIn_cons]
  refine wpAny_bind ?_
  refine wpAny_bind ?_
  refine wpAny_holding (wpAny_mono h (fun x s₁ h₁ => ?_) fun _ _ e => e)
  refine wpAny_pure ?_
  show wpAny _ _ (forIn [] _ _) _ _ _
  rw [List.forIn_nil]
  refine wpAny_pure ?_
  show wpAny _ _ (field (.ref I) 1 >>= _) _ _ _
  refine wpAny_bind (wpAny_field h₁.1 rfl (x := .builtin f) rfl ?_)
  refine wpAny_bind (wpAny_holding ?_)
  refine wpAny_mono h₁.2 (fun r s₂ h₂ => ?_) fun _ _ e => e
  refine wpAny_bind (wpAny_letGo ?_)
  exact wpAny_pure h₂
/-- what a map over signs' rows holds while it walks -/
structure AtMap (I T J l : Addr) (f : String) (items : Array Value) (i : Nat) (h : Heap) : Prop where
  M : IsMap h I T J l f items i
  ne : J ≠ I ∧ J ≠ T ∧ J ≠ l
theorem map_keep {I T J l : Addr} {f : String} {items : Array Value} {i k : Nat} {h h' : Heap} (X : AtMap I T J l f items i h) (hj : h'.IsListIter J l k) (hs : ∀ b o, b ≠ J → h.get? b = some o → h'.get? b = some o) : AtMap I T J l f items k h' :=
  ⟨⟨hs _ _ (Ne.symm X.ne.1) X.M.m, hs _ _ (Ne.symm X.ne.2.1) X.M.t, hj, let ⟨o, e, r⟩ := X.M.l; ⟨o, hs _ _ (Ne.symm X.ne.2.2) e, r⟩⟩, X.ne⟩
theorem next_item {I T J l : Addr} {f : String} {items : Array Value} {i : Nat} {x : Value} {P : Value → Prop} {Q : Option Value → Shared → Prop} (X : AtMap I T J l f items i s.heap) (hx : items[i]? = some x)
    (hf : ∀ (s₁ : Shared) (Q' : Value → Shared → Prop) (E' : Value → Shared → Prop) (A' : Around), (∀ r s₂, P r → Keeps s₁ s₂ → Q' r s₂) → wpAny (model pw w) A' (call (.builtin f) [x]) Q' E' s₁)
    (hQ : ∀ v h' tk, P v → AtMap I T J l f items (i + 1) h' → (∀ b o, b ∉ [J] → s.heap.get? b = some o → h'.get? b = some o) → Q (some v) { s with heap := h', toks := tk }) : wpAny (model pw w) A (pyNext (.ref I)) Q E s := by
  have hT : s.TypeIs (.ref I) "map" := ⟨_, X.M.m, rfl⟩
  unfold pyNext
  refine wpAny_bind (wpAny_attempt (wpAny_callSpecial?_slot (name := Str.ofString "__next__") hT slot_map_next
    (wpAny_call_entry slot_map_next hT entry_map_next ?_ (args_map_next _))))
  refine map_body X.M ?_
  refine wpAny_nextOf_list_item X.M.j X.M.l hx fun h' hj hs => ?_
  refine ⟨hs.extBut _ _ (Ne.symm X.ne.1) X.M.m, ?_⟩
  refine hf _ _ _ _ fun r s₂ hr k => ?_
  obtain ⟨h2, tk, rfl, k⟩ := k
  have X' : AtMap I T J l f items (i + 1) h2 := map_keep X (let ⟨o, e, r⟩ := hj; ⟨o, k _ _ e, r⟩) fun b o hb e => k _ _ (hs.extBut b o hb e)
  refine ⟨_, rfl, ?_⟩
  refine wpAny_pure ?_
  exact hQ r h2 tk hr X' fun b o hb e => k _ _ (hs.extBut b o (by simpa using hb) e)
theorem next_end {I T J l : Addr} {f : String} {items : Array Value} {i : Nat} {Q : Option Value → Shared → Prop} (hh : A.handled = none) (X : AtMap I T J l f items i s.heap) (hx : items[i]? = none)
    (hQ : ∀ h' tk, (∀ b o, b ∉ [J] → s.heap.get? b = some o → h'.get? b = some o) → Q none { s with heap := h', toks := tk }) : wpAny (model pw w) A (pyNext (.ref I)) Q E s := by
  have hT : s.TypeIs (.ref I) "map" := ⟨_, X.M.m, rfl⟩
  unfold pyNext
  refine wpAny_bind (wpAny_attempt (wpAny_callSpecial?_slot (name := Str.ofString "__next__") hT slot_map_next
    (wpAny_call_entry slot_map_next hT entry_map_next ?_ (args_map_next _))))
  refine map_body X.M ?_
  refine wpAny_nextOf_list_end hh X.M.j X.M.l hx fun h' e he hc => ?_
  obtain ⟨o, ho, hc⟩ := hc
  refine wpAny_bind (wpAny_isInstance (T := "StopIteration") (b := true) ⟨o, ho, hc⟩ isSubtype_stop ?_)
  exact wpAny_pure (hQ _ _ fun b o hb e => he b o (by simpa using hb) e)
theorem Walks_map (hh : A.handled = none) (I T J l : Addr) (f : String) (items : Array Value) (P : Nat → Value → Prop)
    (hf : ∀ (i : Nat) (x : Value), items[i]? = some x → ∀ (s₁ : Shared) (Q' : Value → Shared → Prop) (E' : Value → Shared → Prop) (A' : Around), (∀ r s₂, P i r → Keeps s₁ s₂ → Q' r s₂) → wpAny (model pw w) A' (call (.builtin f) [x]) Q' E' s₁) :
    Walks pw w A I [I, T, J, l] [J] items.size P (fun i h => AtMap I T J l f items i h) where
  sub := fun b hb => by simp at hb; simp [hb]
  frame := fun i h h' X hk => by
    obtain ⟨⟨m, t, ⟨o, j, rj⟩, ⟨o2, l2, rl⟩⟩, n⟩ := X
    exact ⟨⟨hk _ (by simp) _ m, hk _ (by simp) _ t, ⟨o, hk _ (by simp) _ j, rj⟩, ⟨o2, hk _ (by simp) _ l2, rl⟩⟩, n⟩
  item := fun i s Q E hi X hQ => next_item X (x := items[i]) (by simp [hi]) (hf i _ (by simp [hi])) fun v h' tk hp X' hk => hQ v h' tk hp X' hk
  done := fun s Q E X hQ => next_end hh X (by simp) hQ
  self := fun i s Q E X hq => by
    have hT : s.TypeIs (.ref I) "map" := ⟨_, X.M.m, rfl⟩
    refine wpAny_pyIter_slot hT slot_map_iter (wpAny_call_entry slot_map_iter hT entry_map_iter ?_ (args_map_iter _))
    show wpAny _ _ (ret (.ref I)) _ _ s
    exact wpAny_pure ⟨_, rfl, "map", _, hT, slot_map_next.lookup, hq⟩
end
end Mine

end
section
open PySem PySem.W PySem.Calls PyProof.Rows PySem.Builtin PySem.Builtin.Str
set_option Elab.async false
set_option maxRecDepth 100000
namespace Mine
section
variable {w : World} {A : Around} {E : Value → Shared → Prop} {s : Shared}
/-- a map object drained into a row -/
theorem collect_map {I : Addr} {fp wr : List Addr} {n : Nat} {P : Nat → Value → Prop} {St : Nat → Heap → Prop} {Q : List Value → Shared → Prop} (W : Walks pw w A.in1 I fp wr n P St) (hT : ∀ i h, St i h → ∃ o, h.get? I = some o ∧ o.cls = .type "map") (hst : St 0 s.heap)
    (hfp : ∀ b ∈ fp, b < s.heap.objs.size) (hI : I ∈ fp) (hn : n ≤ sizeLine)
    (hQ : ∀ (s' : Shared) acc, (∃ h' tk, s' = { s with heap := h', toks := tk } ∧ ∀ b o, b ∉ wr → s.heap.get? b = some o → h'.get? b = some o) → ItemsOf P acc n → Q acc.toList s') : wpAny (model pw w) A (collect (.ref I)) Q E s := by
  have S := W.toS
  have hz : s.heap.objs.size ∉ fp := fun hm => Nat.lt_irrefl _ (hfp _ hm)
  have hne : s.heap.objs.size ≠ I := fun e => hz (e ▸ hI)
  have tp : ∀ (s₁ : Shared), St 0 s₁.heap → s₁.TypeIs (.ref I) "map" := fun s₁ h => let ⟨o, e, c⟩ := hT 0 _ h; ⟨o, e, c⟩
  have grow : ∀ h', (∀ b o, b ≠ s.heap.objs.size → s.heap.get? b = some o → h'.get? b = some o) → St 0 h' := fun h' k => W.frame 0 _ _ hst fun b hb o e => k b o (fun e' => hz (e' ▸ hb)) e
  unfold collect
  refine wpAny_bind (wpAny_runValue (codeAny_builtin F.entry_proto_collect ?_))
  rw [Around.under_plainId F.plain_proto_collect _]
  show wpAny _ A.in1 (newList [] >>= fun l => again (.builtin "list.__iadd__" ⟨[l, .ref I], []⟩)) _ _ s
  refine wpAny_bind (wpAny_newObj_type ?_)
  refine wpAny_pure ⟨plainId_quiet F.plain_list_iadd _, codeAny_builtin F.entry_list_iadd ?_⟩
  rw [Around.under_plainId F.plain_list_iadd _]
  have st1 := grow (s.heap.push { cls := .type "list", data := .seq ([] : List Value).toArray }) fun _ _ _ e => Heap.get?_push_of_some _ e
  have g1 : (s.heap.push { cls := .type "list", data := .seq ([] : List Value).toArray }).get? s.heap.objs.size = some { cls := .type "list", data := .seq ([] : List Value).toArray } := Heap.get?_push_size _ rfl
  show wpAny _ A.in1 (Builtin.List.listExtendWith (.ref s.heap.objs.size) (.ref I) (.ref s.heap.objs.size)) _ _ _
  unfold Builtin.List.listExtendWith
  refine wpAny_bind (wpAny_typeOf (tp _ st1) ?_)
  rw [if_neg (by simp [Builtin.List.listSameRef, hne])]
  refine wpAny_bind (W.self 0 _ _ _ st1 ?_)
  refine wpAny_bind (wpAny_holding ?_)
  unfold Builtin.List.listLengthHint
  refine wpAny_bind (wpAny_specialOf (tp _ st1) nolen_map ?_)
  show wpAny _ A.in1 (specialOf (Value.ref I) (Str.ofString "__length_hint__") >>= _) _ _ _
  refine wpAny_bind (wpAny_specialOf (tp _ st1) nohint_map (wpAny_pure ?_))
  show wpAny _ A.in1 (rule "list.extend.makes-room" >>= fun _ => Builtin.List.listTouch (.ref s.heap.objs.size) >>= fun _ => again (.builtin "list.extend.loop" ⟨[.ref s.heap.objs.size, .ref I, .ref s.heap.objs.size], []⟩)) _ _ _
  refine wpAny_bind (wpAny_rule (wpAny_bind ?_))
  show wpAny _ A.in1 (updateSeq s.heap.objs.size (·.push .none) >>= fun _ => updateSeq s.heap.objs.size (·.pop)) _ _ _
  refine wpAny_bind (wpAny_updateSeq g1 rfl (wpAny_updateSeq (Heap.get?_update_self (Obj.mapSeq (·.push Value.none)) g1 rfl) rfl ?_))
  have g3 := Heap.get?_update_self (Obj.mapSeq (·.pop)) (Heap.get?_update_self (Obj.mapSeq (·.push Value.none)) g1 rfl) rfl
  have oth : ∀ b o, b ≠ s.heap.objs.size → s.heap.get? b = some o →
      (((s.heap.push { cls := .type "list", data := .seq ([] : List Value).toArray }).update s.heap.objs.size (Obj.mapSeq (·.push Value.none))).update s.heap.objs.size (Obj.mapSeq (·.pop))).get? b = some o :=
    fun b o hb e => (Heap.get?_update_other _ _ (Ne.symm hb)).trans ((Heap.get?_update_other _ _ (Ne.symm hb)).trans (Heap.get?_push_of_some _ e))
  refine wpAny_pure ⟨plainId_quiet F.plain_extend_loop _, codeAny_extend_loopS S hn _ hz _ n 0 _ _ _ rfl (Nat.zero_le _) (grow _ oth) g3 (ItemsOf.nil P) fun s' acc' c' hm hS' hacc => ?_⟩
  show wpAny _ A (load s.heap.objs.size >>= _) _ _ s'
  refine wpAny_bind (wpAny_load hS' (wpAny_pure (hQ s' acc' ⟨s'.heap, s'.toks, ?_, ?_⟩ hacc)))
  · obtain ⟨h', g', d', t', o'⟩ := s'
    have a1 := hm.gens
    have a2 := hm.drawn
    have a3 := hm.os
    dsimp only at a1 a2 a3
    subst a1 a2 a3
    rfl
  · intro b o hb e
    have hbs : b ≠ s.heap.objs.size := Nat.ne_of_lt (Heap.lt_size e)
    exact hm.heap b o (by simp [hbs, hb]) (oth b o hbs e)
end
end Mine

end
section
open PySem PySem.W PySem.Calls PyProof.Rows PySem.Builtin PySem.Builtin.Str
set_option Elab.async false
set_option maxRecDepth 100000
namespace Mine
/-- a text's pieces at its first sign of equality -/
def partsL (l : List Nat) : List (List Nat) := if 61 ∈ l then [l.take (cut 61 l), l.drop (cut 61 l + 1)] else [l]
theorem strSub_tx (l : List Nat) (i j : Nat) : strSub (tx l) i j = tx ((l.take j).drop i) := by
  show (⟨l.toArray.extract i j⟩ : Str) = ⟨_⟩
  congr 1
  apply Array.ext'
  simp [List.extract_eq_take_drop, List.drop_take]
theorem parts_tx {l : List Nat} (h : 61 ∈ l) : partsBetween (tx l) [cut 61 l] 1 = (partsL l).map tx := by
  unfold partsL
  rw [if_pos h]
  show [strSub (tx l) 0 (cut 61 l), strSub (tx l) (cut 61 l + 1) (tx l).length] = _
  rw [strSub_tx, strSub_tx]
  have e : (tx l).length = l.length := rfl
  rw [e, List.take_length]
  simp
theorem strsFrom_tx : ∀ (ls : List (List Nat)) (k : Tok), Paired IsTx ls (strsFrom k (ls.map tx))
  | [], _ => .nil
  | _ :: r, k => .cons ⟨k, rfl⟩ (strsFrom_tx r _)
section
variable {w : World} {A : Around} {E : Value → Shared → Prop} {s : Shared} {Q : Value → Shared → Prop}
theorem call_split1 {l : List Nat} {t u v : Tok} (hl : l.length ≤ 1000) (hq : ∀ D s' ys, Keeps s s' → s.heap.get? D = none → s'.heap.PlainList D ys → Paired IsTx (partsL l) ys.toList → Q (.ref D) s') :
    wpAny (model pw w) A (call (.builtin "str.split") [.str (tx l) t, .str ⟨#[61]⟩ u, .int 1 v]) Q E s := by
  have one : ∀ (h1 : ¬ 61 ∈ l), Q (.ref s.heap.objs.size) { s with heap := s.heap.push { cls := .type "list", data := .seq [Value.str (tx l) t].toArray } } := fun h1 =>
    hq _ _ _ (kp_push _) (none_new _ (Nat.le_refl _)) ⟨_, Heap.get?_push_size _ rfl⟩ (by unfold partsL; rw [if_neg h1]; exact .cons ⟨t, rfl⟩ .nil)
  have hk : (decide ((1 : Int) < -(2 ^ 63 : Int)) || decide ((1 : Int) ≥ 2 ^ 63)) = false := by decide
  have hsk : Str.strKind (⟨#[61]⟩ : Str) = 1 := by kernel_rfl
  have hge : 1 ≤ Str.strKind (tx l) := by unfold Str.strKind; repeat (first | split | omega)
  by_cases h0 : l = []
  · subst h0
    exact call_meets F.slot_str_split (typeIs_str _ _ _) F.entry_str_split (F.args_str_split_3 _ _ _) (meets_str_split_max_cannot_occur (tx []) ⟨#[61]⟩ 1 t u v hk (by decide)) (one (by simp))
  · have h1 : (decide ((tx l).length < (⟨#[61]⟩ : Str).length) || decide (Str.strKind (tx l) < Str.strKind (⟨#[61]⟩ : Str))) = false := by
      have : (tx l).length = l.length := rfl
      have : (⟨#[61]⟩ : Str).length = 1 := rfl
      have : 0 < l.length := List.length_pos_iff.mpr h0
      simp only [Bool.or_eq_false_iff, decide_eq_false_iff_not]
      constructor <;> omega
    have hlim : limitOf (tx l) 1 = 1 := rfl
    by_cases hm : 61 ∈ l
    · have ho := occ_tx hm
      refine call_meets F.slot_str_split (typeIs_str _ _ _) F.entry_str_split (F.args_str_split_3 _ _ _) (meets_str_split_sep_max (tx l) ⟨#[61]⟩ 1 t u v hk h1 rfl (by rw [hlim, ho]; rfl) (Nat.le_trans hl (by decide)) ?_) ?_
      · rw [hlim, ho]
        show (partsBetween (tx l) [cut 61 l] 1).length ≤ _
        rw [parts_tx hm, List.length_map]
        unfold partsL; rw [if_pos hm]; exact (by decide : 2 ≤ sizeLine)
      · rw [hlim, ho]
        show wants Q E _ _
        have e : partsBetween (tx l) [cut 61 l] (⟨#[61]⟩ : Str).length = (partsL l).map tx := parts_tx hm
        rw [e]
        exact hq _ _ _ ⟨_, _, rfl, fun _ _ e => Heap.get?_push_of_some _ e⟩ (none_new _ (Nat.le_refl _)) ⟨_, Heap.get?_push_size _ rfl⟩ (strsFrom_tx _ _)
    · have ho := occ_none hm
      exact call_meets F.slot_str_split (typeIs_str _ _ _) F.entry_str_split (F.args_str_split_3 _ _ _) (meets_str_split_max_not_found (tx l) ⟨#[61]⟩ 1 t u v hk h1 rfl (by rw [hlim, ho]; rfl)) (one hm)
end
end Mine

end
section
open PySem PySem.W PySem.Calls PyProof.Rows PySem.Builtin PySem.Builtin.Str
set_option Elab.async false
set_option maxRecDepth 100000
set_option maxHeartbeats 2000000
namespace Mine
section
variable {M : Model} {w : World} {h : Heap}
theorem x_in (X : IK w h) : (KH w.params).In h := X
def pairMro : List Value := [.ref 219, .ref 196, .type "tuple", .type "object"]
theorem mro219 (X : IK w h) : Looks M h (mroOf (.ref 219)) pairMro := (looks_clsIn (x_in X) (C := 219) (cd := match (o219 w.params).data with | .cls cd => cd | _ => default) (by kernel_rfl)).andThen (Looks.of_pure (by kernel_rfl))
theorem made219 (X : IK w h) : Looks M h (Bind.madeBy (.ref 219)) none := by
  intro A Q E s k q
  unfold Bind.madeBy
  refine wpAny_bind (mro219 X A _ E s k ?_)
  show wpAny _ _ (forIn (Value.ref 219 :: _) _ _ >>= _) _ _ _
  rw [List.forIn_cons]
  refine wpAny_bind (wpAny_bind (wpAny_bind (wpAny_bind (wpAny_loadPart (k _ _ (ik_get X 219 (o219 w.params) (by kernel_rfl))) (wpAny_pure ?_)))))
  dsimp only
  exact wpAny_pure (wpAny_pure (wpAny_pure q))
theorem sub219 (X : IK w h) {b : Value} {r : Bool} (e : mroIn (KH w.params) 219 b = some r) : Looks M h (isSubtype (.ref 219) b) r := looks_mroIn (x_in X) e
end
section
variable {w : World} {A : Around} {h : Heap} {g : Array GenState} {d : Drawn} {t : Nat} {os : OsState} {R : Result → Shared → Prop}
theorem pair_call {a₀ : Value} {rest₀ rest : List Value} (X : IK w h) (hrest : rest = a₀ :: rest₀) (hok : ∀ x, argsOk "object.__init__" ⟨x :: rest, []⟩)
    (hq : ∀ A' t', A'.depth ≤ A.depth + 1 → A'.handled = A.handled → A'.units ≤ A.units + 8 → wpAny (model pw w) A' (call (.ref 146) (.ref 219 :: rest)) (fun v s' => ∃ o x, v = .ref x ∧ s'.heap.get? x = some o ∧ o.cls = .ref 219 ∧ notCls o = true ∧ IK w s'.heap ∧ R (.ok (.ret v)) s') (fun e s' => R (.error e) s') ⟨h, g, d, t', os⟩) :
    codeAny (model pw w) A (.call (.ref 219) ⟨rest, []⟩) R ⟨h, g, d, t, os⟩ := by
  have call : Looks (model pw w) h (specialOf (.ref 219) "__call__") (some (.builtin "type.__call__")) := looks_specialIn (x_in X) (by kernel_rfl)
  have typ : Looks (model pw w) h (isInstance (.ref 219) (.type "type")) true := looks_instIn (x_in X) (by kernel_rfl)
  have made := made219 (M := model pw w) X
  have hm := mro219 (M := model pw w) X
  refine codeAny_of_tree ?_
  show wpAny _ _ (callAny (.ref 219) _) _ _ _
  refine nd_load (ik_get X 219 (o219 w.params) (by kernel_rfl)) ?_
  show wpAny _ _ (callAny.viaDunder (.ref 219) _) _ _ _
  unfold callAny.viaDunder
  refine wpAny_bind (call.at ?_)
  dsimp only
  rw [tc_bind]
  refine wpAny_bind (wpAny_pure (wpAny_bind (wpAny_pure ?_)))
  refine wpAny_pure (a := Fin.again (.call (.builtin "type.__call__") ⟨.ref 219 :: rest, []⟩)) (And.intro rfl ?_)
  refine codeAny_call_builtin_at (Code.quiet_builtin _ (by decide +kernel)) entry_typeCall (check_slot tc_kind tc_split typ (tc_args _ _ _) ?_)
  unfold Builtin.«type.__call__»
  show wpAny _ _ (mroOf (.ref 219) >>= _) _ _ _
  refine wpAny_bind (hm.at ?_)
  show wpAny _ _ (Bind.madeBy (.ref 219) >>= _) _ _ _
  refine wpAny_bind (made.at ?_)
  show wpAny _ _ (getAttr (.ref 219) (Str.ofString "__new__") >>= _) _ _ _
  refine wpAny_bind ?_
  refine cls_bind (C := 219) (mc := .type "type") (g := .builtin "staticmethod.__get__") (a := .ref 197) (obj := .none) (tp := .ref 219) (x_in X) (by kernel_rfl) (by kernel_rfl) ?_
  refine wpAny_call (sm_get (K := KH w.params) (f := .ref 146) (rest := []) (x_in X) (by kernel_rfl) (handed_on rfl ?_))
  refine wpAny_bind (wpAny_holding ?_)
  have hq' := hq (A.under (Code.builtin "type.__call__" { pos := Value.ref 219 :: rest })) (t + 1) ?_ ?_ ?_
  refine wpAny_mono hq' (fun v s' z => ?_) fun e s' z => z
  · obtain ⟨o, x, rfl, ho, hc, hn, X', hR⟩ := z
    obtain ⟨h', g', d', t', os'⟩ := s'
    dsimp only at ho X'
    have t1 : Looks (model pw w) h' (typeOf (.ref x)) (.ref 219) := hc ▸ (Looks.ld ho).andThen .now
    have s1 : Looks (model pw w) h' (isSubtype (.ref 219) (.ref 219)) true := sub219 X' (by kernel_rfl)
    have t2 : Looks (model pw w) h' (isInstance (.ref x) (.type "object")) true := t1.andThen (sub219 X' (by kernel_rfl))
    have i1 : Looks (model pw w) h' (typeLookup (.ref 219) "__init__") (some (.builtin "object.__init__")) := looks_findIn (x_in X') (by kernel_rfl)
    have m1 := made219 (M := model pw w) X'
    unfold isInstance
    refine wpAny_bind (wpAny_bind (t1.at (s1.at ?_)))
    rw [if_neg (by decide)]
    refine wpAny_bind (wpAny_holding ?_)
    unfold callSpecial? specialOf
    refine wpAny_bind (wpAny_bind (t1.at (i1.at ?_)))
    dsimp only
    rw [oi_bind]
    refine wpAny_holding ?_
    refine wpAny_bind (wpAny_pure ?_)
    refine wpAny_bind (wpAny_call ?_)
    refine codeAny_call_builtin oi_plain entry_oi (@check_slot (model pw w) _ _ ⟨h', g', d', t', os'⟩ "object.__init__" "object" "__init__" (.ref x) rest [] _ oi_kind oi_split t2 (hok _) ?_)
    subst hrest
    show wpAny _ _ (typeOf (.ref x) >>= _) _ _ _
    refine wpAny_bind (t1.at ?_)
    refine wpAny_bind (i1.at ?_)
    refine wpAny_bind (m1.at ?_)
    show wpAny _ _ (ret .none) _ _ _
    refine wpAny_pure ?_
    exact wpAny_pure (wpAny_pure hR)
  · exact Nat.le_refl (A.depth + 1)
  · rfl
  · show A.units + _ ≤ _
    exact Nat.add_le_add_left (by decide : (1 : Nat) ≤ 8) _
end
end Mine

end
section
open PySem PySem.W PySem.Calls PyProof.Rows PySem.Builtin PySem.Builtin.Str
set_option Elab.async false
set_option maxRecDepth 100000
set_option maxHeartbeats 2000000
namespace Mine
section
variable {M : Model} {w : World} {h : Heap}
theorem made_tuple : Bind.madeBy (.type "tuple") = pure (some "tuple.__new__") := madeBy_type (c := .type "tuple") (tl := [.type "object"]) (by rw [mroOf_type]; kernel_rfl) (by rw [typeLookup_type, builtinLookup_eq_fast]; kernel_rfl) (by decide +kernel)
theorem mro196 (X : IK w h) : Looks M h (mroOf (.ref 196)) [.ref 196, .type "tuple", .type "object"] := (looks_clsIn (x_in X) (C := 196) (cd := match (o196v1 w.params).data with | .cls cd => cd | _ => default) (by kernel_rfl)).andThen (Looks.of_pure (by kernel_rfl))
theorem made196 (X : IK w h) : Looks M h (Bind.madeBy (.ref 196)) none := by
  intro A Q E s k q
  unfold Bind.madeBy
  refine wpAny_bind (mro196 X A _ E s k ?_)
  rw [List.forIn_cons]
  refine wpAny_bind (wpAny_bind (wpAny_bind (wpAny_bind (wpAny_loadPart (k _ _ (ik_get X 196 (o196v1 w.params) (by kernel_rfl))) (wpAny_pure ?_)))))
  dsimp only
  exact wpAny_pure (wpAny_pure (wpAny_pure q))
theorem best219 (X : IK w h) : Looks M h (Builtin.Slots.bestBase [.ref 196]) (.ref 196) := by
  intro A Q E s k q
  have X' : IK w s.heap := ik_keeps X k
  have h196 := ik_get X' 196 (o196v1 w.params) (by kernel_rfl)
  obtain ⟨hh, g, d, t, os⟩ := s
  dsimp only at h196
  unfold Builtin.Slots.bestBase
  repeat lk
  exact q
theorem best196 (X : IK w h) : Looks M h (Builtin.Slots.bestBase [.type "tuple"]) (.type "tuple") := by
  intro A Q E s k q
  have m1 : mroOf (.type "tuple") = pure [.type "tuple", .type "object"] := by rw [mroOf_type]; kernel_rfl
  have L1 : Looks M s.heap (mroOf (.type "tuple")) [.type "tuple", .type "object"] := Looks.of_pure m1
  obtain ⟨hh, g, d, t, os⟩ := s
  unfold Builtin.Slots.bestBase
  repeat lk
  exact q
theorem base219 (X : IK w h) : Looks M h (Bind.staticBase (.ref 219)) (.type "tuple") := by
  intro A Q E s k q
  have X' : IK w s.heap := ik_keeps X k
  have h196 := ik_get X' 196 (o196v1 w.params) (by kernel_rfl)
  have h219 := ik_get X' 219 (o219 w.params) (by kernel_rfl)
  have L1 := mro219 (M := M) X'
  have L2 := made219 (M := M) X'
  have L3 := made196 (M := M) X'
  have L4 : Looks M s.heap (Bind.madeBy (.type "tuple")) (some "tuple.__new__") := Looks.of_pure made_tuple
  have L5 := best219 (M := M) X'
  have L6 := best196 (M := M) X'
  obtain ⟨hh, g, d, t, os⟩ := s
  dsimp only at *
  unfold Bind.staticBase
  refine wpAny_bind (L1.at ?_)
  show wpAny _ _ (forIn (Value.ref 219 :: _) _ _ >>= _) _ _ _
  rw [List.forIn_cons]
  refine wpAny_bind (wpAny_bind (wpAny_bind (L2.at ?_)))
  dsimp only [Option.isSome]
  refine wpAny_bind (wpAny_bind (wpAny_load h219 (wpAny_pure ?_)))
  refine wpAny_bind (L5.at ?_)
  refine wpAny_pure ?_
  show wpAny _ _ (forIn (Value.ref 196 :: _) _ _) _ _ _
  rw [List.forIn_cons]
  refine wpAny_bind (wpAny_bind (L3.at ?_))
  refine wpAny_bind (wpAny_bind (wpAny_load h196 (wpAny_pure ?_)))
  refine wpAny_bind (L6.at ?_)
  refine wpAny_pure ?_
  show wpAny _ _ (forIn (Value.type "tuple" :: _) _ _) _ _ _
  rw [List.forIn_cons]
  refine wpAny_bind (wpAny_bind (L4.at ?_))
  exact wpAny_pure (wpAny_pure (wpAny_pure q))
end
end Mine

end
section
open PySem PySem.W PySem.Calls PyProof.Rows PySem.Builtin PySem.Builtin.Str
set_option Elab.async false
set_option maxRecDepth 100000
set_option maxHeartbeats 2000000
namespace Mine
theorem tn_plain : plainId "tuple.__new__" = true := by decide +kernel
theorem tn_kind : builtinKind "tuple.__new__" = some .builtinFn := by decide +kernel
theorem tn_split : splitId "tuple.__new__" = some ("tuple", "__new__") := by decide +kernel
theorem tn_entry : entryFor table "tuple.__new__" = some Builtin.«tuple.__new__» := entryFor_of_tree (by kernel_rfl)
theorem tn_args (a b : Value) : argsOk "tuple.__new__" ⟨[a, b], []⟩ := by unfold argsOk; kernel_rfl
section
variable {w : World} {A : Around} {E : Value → Shared → Prop} {s : Shared} {Q : Value → Shared → Prop}
theorem call_tuple_new {t : Addr} {its : Array Value} (X : IK w s.heap) (ht : IsTup s.heap t its) (hz : its.size ≤ 1000)
    (hq : ∀ x dx s', Keeps s s' → s.heap.get? x = none → s'.heap.get? x = some { cls := .ref 219, dict := some dx, data := .seq its } → s'.heap.get? dx = some emptyDict → Q (.ref x) s') :
    wpAny (model pw w) A (call (.builtin "tuple.__new__") [.ref 219, .ref t]) Q E s := by
  have typ : Looks (model pw w) s.heap (isInstance (.ref 219) (.type "type")) true := looks_instIn (x_in X) (by kernel_rfl)
  have sub := sub219 (M := model pw w) X (b := .type "tuple") (r := true) (by kernel_rfl)
  have base := base219 (M := model pw w) X
  have made : Looks (model pw w) s.heap (Bind.madeBy (.type "tuple")) (some "tuple.__new__") := Looks.of_pure made_tuple
  have i1 : Looks (model pw w) s.heap (typeLookup (.ref 219) "__init__") (some (.builtin "object.__init__")) := looks_findIn (x_in X) (by kernel_rfl)
  have h219 := ik_get X 219 (o219 w.params) (by kernel_rfl)
  have ha := tn_args (.ref 219) (.ref t)
  obtain ⟨hh, g, d, tk, os⟩ := s
  dsimp only at *
  refine wpAny_call (codeAny_call_builtin tn_plain tn_entry ?_)
  have body : wpAny (model pw w) A.in1 (Builtin.«tuple.__new__» ⟨[.ref 219, .ref t], []⟩) (fun fin s' => ∃ v, fin = .done (.ret v) ∧ Q v s') E ⟨hh, g, d, tk, os⟩ := by
    unfold Builtin.«tuple.__new__»
    unfold Bind.madeHere
    dsimp only
    generalize hcol : collect (Value.ref t) = col
    repeat lk
    subst hcol
    obtain ⟨o, ho, hc, n, hd⟩ := ht
    refine wpAny_collect_seq t (T := "tuple") (.inr rfl) ho hc hd (fun h' hk => ?_) (Nat.le_trans hz (by decide))
    refine wpAny_bind (wpAny_pure ?_)
    refine wpAny_bind (wpAny_alloc ?_)
    have h219' : (h'.push emptyDict).get? 219 = some (o219 w.params) := Heap.get?_push_of_some _ (hk _ _ h219)
    refine wpAny_bind ?_
    show wpAny _ _ (newObj (.ref 219) (.seq its.toList.toArray) (some h'.objs.size)) _ _ _
    have e1 : its.toList.toArray = its := by simp
    rw [e1]
    unfold newObj
    dsimp only
    rw [if_neg (by have : (1000 : Nat) ≤ sizeLine := by decide
                   omega)]
    show wpAny _ _ (newObjAsIs _ _ _) _ _ _
    unfold newObjAsIs classHasDel
    refine wpAny_bind (wpAny_alloc (wpAny_bind (wpAny_bind (wpAny_load (Heap.get?_push_of_some _ h219') (wpAny_pure ?_)))))
    refine wpAny_pure (wpAny_pure ⟨_, rfl, ?_⟩)
    refine hq _ h'.objs.size _ ⟨_, _, rfl, fun b o e => Heap.get?_push_of_some _ (Heap.get?_push_of_some _ (hk b o e))⟩ ?_ (Heap.get?_push_size _ rfl) (Heap.get?_push_of_some _ (Heap.get?_push_size _ rfl))
    cases e : hh.get? (h'.push emptyDict).objs.size with
    | none => rfl
    | some o =>
      have h1 := Heap.lt_size (hk _ _ e)
      rw [Heap.size_push] at h1
      exact absurd h1 (Nat.not_lt.mpr (Nat.le_succ _))
  simp only [checkBuiltinCall, tn_kind, tn_split]
  unfold argsOk at ha
  generalize Manifest.signature? "tuple.__new__" = sg at ha
  repeat lk
  cases sg with
  | none => exact wpAny_pure (wpAny_mono body (fun fin s' z => by obtain ⟨v, rfl, z⟩ := z; exact z) fun _ _ z => z)
  | some sg =>
    dsimp only at ha ⊢
    rw [ha]
    exact wpAny_pure (wpAny_mono body (fun fin s' z => by obtain ⟨v, rfl, z⟩ := z; exact z) fun _ _ z => z)
/-- a pair, as it lies -/
def IsPair (h : Heap) (x : Addr) (a b : List Nat) : Prop := ∃ dx va vb, h.get? x = some { cls := .ref 219, dict := some dx, data := .seq #[va, vb] } ∧ h.get? dx = some emptyDict ∧ IsTx a va ∧ IsTx b vb
theorem mcall {o : Expr} {name : Str} {apos pos : Pos} {args : List Expr} {env : Env} {Q : Value → Shared → Prop} (hbase : attributeBase o name env (eval o env) = eval o env)
    (hform : methodCallForm (args.length + ([] : List Keyword).length) (backTo pos (starEach args env)) (backToKw pos (keywordEach [] env)) = true) (hline : (apos.endLine == pos.line) = true)
    (h : wpAny (model pw w) A (eval o env) (fun ov s₁ => ∀ pl, wpAny (model pw w) A (getMethod ov name pl) (fun fx s₂ => wpAny (model pw w) A (callWith pos fx.1 fx.2 (backTo pos (starEach args env)) []) Q E s₂) E s₁) E s) :
    wpAny (model pw w) A (eval (.Call (.Attribute o name apos) args [] pos) env) Q E s := by
  rw [arm_eval_Call, hbase]
  refine wpAny_bind (wpAny_mono h (fun ov s₁ h₁ => wpAny_bind (wpAny_standAt ?_)) fun _ _ e => e)
  have hpos : methodCallPos true o env apos pos = pure pos := by unfold methodCallPos; simp [hline]
  unfold methodCall calleeOf
  rw [hform]
  refine wpAny_bind (wpAny_holding ?_)
  rw [if_pos rfl]
  refine wpAny_mono (h₁ _) (fun fx s₂ h₂ => ?_) fun _ _ e => e
  exact wpAny_bind (wpAny_of_eq hpos h₂)
theorem cw_bs {pos cpos : Pos} {id : String} {first : List Value} {e : Expr} {rest : List Expr} {env : Env} {Q : Value → Shared → Prop} (he : starEach (e :: rest) env = (false, eval e env) :: starEach rest env) (hp : (backTo pos (starEach (e :: rest) env)).any (·.1) = false)
    (h : wpAny (model pw w) A (spliced (backTo pos (starEach (e :: rest) env))) (fun vs s₁ => wpAny (model pw w) A (call (.builtin id) (first ++ vs)) Q E s₁) E s) : wpAny (model pw w) A (callWith cpos (.builtin id) first (backTo pos (starEach (e :: rest) env)) []) Q E s := by
  have e1 : backTo pos (starEach (e :: rest) env) = (false, eval e env) :: backTo pos (starEach rest env) := by rw [he]; rfl
  rw [e1] at h hp ⊢
  exact Calls.callWith_builtin hp (evalArgs_plain h)
theorem doc_stmt {x : Str} {k : Nat} {p pos : Pos} {env : Env} {Q : Flow → Shared → Prop} (hi : interactive env = false) (h : Q .next { s with toks := s.toks + 1 }) : wpAny (model pw w) A (exec (.Expr (.Constant (.str x) k p) pos) env) Q E s := by
  rw [exec_Expr _ _ _ hi rfl]
  refine wpAny_bind (wpAny_standAt (wpAny_bind (wpAny_Constant_str ?_)))
  exact wpAny_pure h
theorem method_ty {T : String} {name : Str} {pl : Sem Bool} {v : Value} {Q : Value × List Value → Shared → Prop} (X : IK w s.heap) (ht : typeOf (.type T) = pure (.type "type")) (hs : Manifest.isStub T = false)
    (e : findCls (KH w.params) (.type T) (.type "type") name = some (.val v)) (hh : handedIn v = true) (h : Q (v, []) { s with toks := s.toks + 1 }) : wpAny (model pw w) A (getMethod (.type T) name pl) Q E s := by
  have L0 : Looks (model pw w) s.heap (typeOf (.type T)) (.type "type") := Looks.of_pure ht
  have hg : findIn (KH w.params) (.type "type") "__getattribute__" = some (some (.builtin "type.__getattribute__")) := type_tga
  unfold getMethod specialOf
  refine wpAny_bind (wpAny_bind (L0.here ((looks_findIn (x_in X) hg).here ?_)))
  dsimp only
  rw [if_pos canon_tga]
  refine wpAny_bind (wpAny_mono (Q := fun v => Q (v, [])) (E := E) ?_ (fun _ _ z => wpAny_pure z) fun _ _ z => z)
  refine cls_open (x_in X) (Looks.of_pure (by unfold opaqueClassAbove; dsimp only; rw [hs]; rfl)) L0 hg (looks_hook (x_in X) (r := none) (by rfl)) (by show subIn _ _ _ = _; rfl) e ?_
  refine wpAny_pure ?_
  exact handed_on hh h
theorem call_new2 (X : IK w s.heap) (hd : A.depth < recursionLimit) {va vb : Value} {a b : List Nat} (ha : IsTx a va) (hb : IsTx b vb) (h : ∀ x s', Keeps s s' → s.heap.get? x = none → IsPair s'.heap x a b → Q (.ref x) s') :
    wpAny (model pw w) A (call (.ref 146) [.ref 219, va, vb]) Q E s := by
  refine callF (o := o146 w.params) (binds := [(u "_cls", .ref 219), (u "name", va), (u "value", vb)]) X hd (by kernel_rfl) rfl (by kernel_rfl) rfl (by kernel_rfl) rfl (by kernel_rfl) (by kernel_rfl) (by kernel_rfl) (by kernel_rfl) fun s₁ f => ?_
  refine wpAny_execs_cons ?_
  refine doc_stmt ?_ ?_
  · kernel_rfl
  have f2 := f.next (kp_tok s₁ (s₁.toks + 1))
  show wpAny _ _ (execs _ _) _ _ _
  refine wpAny_execs_cons ?_
  refine wpAny_Return_some ?_
  refine mcall ?_ ?_ ?_ ?_
  iterate 3 kernel_rfl
  refine nm_b (v := .type "tuple") f2.ik (by kernel_rfl) (by kernel_rfl) ?_ rfl (by kernel_rfl) rfl rfl (by decide)
  intro pl
  with_reducible refine method_ty (v := .builtin "tuple.__new__") f2.ik ?_ ?_ ?_ ?_ ?_
  · rfl
  · decide +kernel
  · kernel_rfl
  · kernel_rfl
  refine cw_bs ?_ ?_ ?_
  iterate 2 kernel_rfl
  have f3 := f2.next (kp_tok { s₁ with toks := s₁.toks + 1 } (s₁.toks + 1 + 1))
  refine spliced_more ?_
  refine nm_l f3 (v := .ref 219) (by kernel_rfl) ?_ rfl (by kernel_rfl) (by decide)
  refine spliced_more ?_
  refine wpAny_Tuple ?_
  refine spliced_more ?_
  refine nm_l f3 (v := va) (by kernel_rfl) ?_ rfl (by kernel_rfl) (by decide)
  refine spliced_more ?_
  refine nm_l f3 (v := vb) (by kernel_rfl) ?_ rfl (by kernel_rfl) (by decide)
  refine spliced_none ?_
  refine ⟨by show (2 : Nat) ≤ sizeLine; decide, ?_⟩
  refine spliced_none ?_
  have f4 := f3.next (kp_push (s := { s₁ with toks := s₁.toks + 1 + 1 }) { cls := .type "tuple", data := .seq ([va, vb] : List Value).toArray })
  refine call_tuple_new (its := ([va, vb] : List Value).toArray) f4.ik ⟨_, Heap.get?_push_size _ rfl, rfl, _, rfl⟩ (show (2 : Nat) ≤ 1000 by decide) ?_
  intro x dx s' k hn hx hdx
  have f5 := f4.next k
  exact h x s' f5.keeps (none_back f4.keeps hn) ⟨dx, va, vb, hx, hdx, ha, hb⟩
end
end Mine

end
section
open PySem PySem.W PySem.Calls PyProof.Rows PySem.Builtin PySem.Builtin.Str
open Sem (wp)
set_option Elab.async false
set_option maxRecDepth 100000
namespace Mine
/-- the claim's caller stands in the stack -/
def HasC (Γ : Ctx) : Prop := (Γ.code.isCaller || Γ.below.any fun x => x.1.isCaller) = true
def BelC (Γ : Ctx) : Prop := (Γ.below.any fun x => x.1.isCaller) = true
theorem BelC.has {Γ : Ctx} (h : BelC Γ) : HasC Γ := by unfold HasC; rw [h]; simp
theorem HasC.enter {Γ : Ctx} (h : HasC Γ) (c : Code) (hd : Option Value) (p : Pos) : BelC (Γ.enter c hd p) := by
  show (((Γ.code, p) :: Γ.below).any fun x => x.1.isCaller) = true
  rw [List.any_cons]
  exact h
theorem BelC.goto {Γ : Ctx} (h : BelC Γ) (c : Code) : BelC (Γ.goto c) := h
/-- as wpAny, but under the claim's caller -/
def wpC {α : Type} (M : Model) (A : Around) (t : Sem α) (Q : α → Shared → Prop) (E : Value → Shared → Prop) (s : Shared) : Prop :=
  ∀ Γ p, Γ.In A → HasC Γ → wp M Γ t (fun a _ s' => Q a s') (fun e _ s' => E e s') p s
def codeC (M : Model) (A : Around) (c : Code) (R : Result → Shared → Prop) (s : Shared) : Prop :=
  ∀ Γ p, Γ.code = c → Γ.Below A → BelC Γ → wpCode M Γ R p s
section
variable {α β : Type} {M : Model} {A : Around} {E : Value → Shared → Prop} {s : Shared}
theorem wpC_any {t : Sem α} {Q : α → Shared → Prop} (h : wpAny M A t Q E s) : wpC M A t Q E s := fun Γ p hΓ _ => h Γ p hΓ
theorem codeC_any {c : Code} {R : Result → Shared → Prop} (h : codeAny M A c R s) : codeC M A c R s := fun Γ p hc hΓ _ => h Γ p hc hΓ
theorem wpC_pure {a : α} {Q : α → Shared → Prop} (h : Q a s) : wpC M A (pure a) Q E s := fun _ _ _ _ => h
theorem wpC_mono {t : Sem α} {Q Q' : α → Shared → Prop} {E' : Value → Shared → Prop} (h : wpC M A t Q E s) (hQ : ∀ a s, Q a s → Q' a s) (hE : ∀ e s, E e s → E' e s) : wpC M A t Q' E' s :=
  fun Γ p hΓ hC => Sem.wp_mono M Γ t (fun a _ s => hQ a s) (fun e _ s => hE e s) p s (h Γ p hΓ hC)
theorem wpC_bind {m : Sem α} {f : α → Sem β} {Q : β → Shared → Prop} (h : wpC M A m (fun a s' => wpC M A (f a) Q E s') E s) : wpC M A (m >>= f) Q E s := fun Γ p hΓ hC => by
  rw [Sem.wp_bind']
  exact Sem.wp_mono M Γ m (fun a p' s' h' => h' Γ p' hΓ hC) (fun _ _ _ h' => h') p s (h Γ p hΓ hC)
/-- a first part that meets no refusal -/
theorem wpC_bindA {m : Sem α} {f : α → Sem β} {Q : β → Shared → Prop} (h : wpAny M A m (fun a s' => wpC M A (f a) Q E s') E s) : wpC M A (m >>= f) Q E s := wpC_bind (wpC_any h)
theorem wpC_tryCatch {m : Sem α} {k : Value → Sem α} {Q : α → Shared → Prop} (h : wpC M A m Q (fun e s' => wpC M A (k e) Q E s') s) : wpC M A (tryCatch m k) Q E s := fun Γ p hΓ hC => by
  rw [Sem.wp_tryCatch']
  exact Sem.wp_mono M Γ m (fun _ _ _ h' => h') (fun e p' s' h' => h' Γ p' hΓ hC) p s (h Γ p hΓ hC)
theorem wpC_onRaise {m : Sem α} {k : Value → Sem Unit} {Q : α → Shared → Prop} (h : wpC M A m Q (fun e s' => wpC M A (k e) (fun _ s'' => E e s'') E s') s) : wpC M A (m.onRaise k) Q E s := fun Γ p hΓ hC => by
  rw [Sem.wp_onRaise]
  exact Sem.wp_mono M Γ m (fun _ _ _ h' => h') (fun e p' s' h' => h' Γ p' hΓ hC) p s (h Γ p hΓ hC)
theorem wpC_attempt {m : Sem α} {Q : Except Value α → Shared → Prop} (h : wpC M A m (fun a => Q (.ok a)) (fun e => Q (.error e)) s) : wpC M A m.attempt Q E s := fun Γ p hΓ hC => by rw [Sem.wp_attempt]; exact h Γ p hΓ hC
theorem wpC_holding {vs : List Value} {m : Sem α} {Q : α → Shared → Prop} (h : wpC M A m Q E s) : wpC M A (holding vs m) Q E s := fun Γ p hΓ hC => by rw [Sem.wp_holding]; exact h Γ p hΓ hC
theorem wpC_run {c : Code} {h : Option Value} {Q : Flow → Shared → Prop} (hc : codeC M (A.mark h) c (fun r s' => match r with | .ok f => Q f s' | .error e => E e s') s) (hnb : h ≠ some byPass := by intro x; cases x) : wpC M A (run c h) Q E s :=
  fun Γ p hΓ hC => by rw [Sem.wp_run]; exact hc _ p rfl (hΓ.enter c h p hnb) (hC.enter c h p)
theorem wpC_runValue {c : Code} {Q : Value → Shared → Prop} (hc : codeC M A c (fun r s' => match r with | .ok (.ret v) => Q v s' | .ok _ => False | .error e => E e s') s) : wpC M A (runValue c) Q E s :=
  fun Γ p hΓ hC => by rw [Sem.wp_runValue]; exact hc _ p rfl (hΓ.enter c none p (by intro x; cases x)) (hC.enter c none p)
theorem wpC_call {f : Value} {pos : List Value} {kw : List (Str × Value)} {Q : Value → Shared → Prop} (hc : codeC M A (.call f ⟨pos, kw⟩) (fun r s' => match r with | .ok (.ret v) => Q v s' | .ok _ => False | .error e => E e s') s) : wpC M A (call f pos kw) Q E s := wpC_runValue hc
theorem codeC_of_tree {c : Code} {R : Result → Shared → Prop} (h : wpC M (A.under c) (M.den c) (fun fin s' => match fin with | .done f => R (.ok f) s' | .again c' => c'.quiet = true ∧ codeC M A c' R s') (fun e s' => R (.error e) s') s) : codeC M A c R s := fun Γ p hc hΓ hB => by
  rw [wpCode_iff_wp, hc]
  refine Sem.wp_mono M Γ _ (fun fin p' s' h' => ?_) (fun _ _ _ h' => h') p s (h Γ p (hc ▸ hΓ.in) hB.has)
  cases fin with
  | done f => exact h'
  | again c' => exact ⟨h'.1, h'.2 (Γ.goto c') p' rfl (hΓ.goto c') (hB.goto c')⟩
theorem codeC_mono {c : Code} {R R' : Result → Shared → Prop} (h : codeC M A c R s) (hR : ∀ r s, R r s → R' r s) : codeC M A c R' s := fun Γ p hc hΓ hB => wpCode_mono hR (h Γ p hc hΓ hB)
/-- the stack, when read, holds the caller -/
theorem wpC_stack {Q : List (Code × Pos) → Shared → Prop} (h : ∀ st : List (Code × Pos), (st.any fun x => x.1.isCaller) = true → Q st s) : wpC M A stack Q E s := fun Γ p _ hC => by
  show Q ((Γ.code, p) :: Γ.below) s
  refine h _ ?_
  rw [List.any_cons]
  exact hC
theorem caller_has : HasC ⟨.builtin "claim.caller" {}, none, none, [], none⟩ := rfl
theorem not_made {st : List (Code × Pos)} (own : List String) (h : (st.any fun x => x.1.isCaller) = true) : pythonCodeMadeTheCall own (st.map (·.1)) = false := by
  unfold pythonCodeMadeTheCall
  rw [Bool.and_eq_false_iff, Bool.and_eq_false_iff]
  refine .inl (.inl ?_)
  rw [Bool.not_eq_false', List.any_map]
  exact h
theorem markC {own : List String} {e : Value} {Q : Unit → Shared → Prop} (h : Q () s) : wpC M A (markTheRefusal own e) Q E s := by
  unfold markTheRefusal
  refine wpC_bind (wpC_stack fun st hst => ?_)
  rw [not_made own hst]
  exact wpC_pure h
end
end Mine

end
section
open PySem PySem.W PySem.Calls PyProof.Rows PySem.Builtin PySem.Builtin.Str
set_option Elab.async false
set_option maxRecDepth 100000
namespace Mine
section
variable {α : Type} {w : World} {A : Around} {E : Value → Shared → Prop} {s : Shared}
theorem refuseC {msg : String} {Q : α → Shared → Prop} (hh : A.handled = none) (hm : (msg : Str).length ≤ sizeLine) (h : ∀ h' tk e, Heap.NewExc s.heap h' e "TypeError" → E (.ref e) { s with heap := h', toks := tk }) :
    wpC (model pw w) A (theBinderRefuses msg : Sem α) Q E s := by
  unfold theBinderRefuses
  refine wpC_bindA (wpAny_mkStr ?_ hm)
  refine wpC_bindA ?_
  unfold newExc newTuple
  refine wpAny_bind (wpAny_newObj_type ?_)
  refine wpAny_bind (m := firstArgMember _ _) (wpAny_of_eq (a := Value.none) (by simp only [firstArgMember, typeError_no_first]; rfl) ?_)
  rw [ownMembersOf_TypeError]
  refine wpAny_newObj_type ?_
  refine wpC_bind (markC ?_)
  refine wpC_any ?_
  unfold raiseNew
  refine wpAny_bind (wpAny_handled ?_)
  rw [hh]
  first
    | refine wpAny_throw ?_
    | refine wpAny_bind (wpAny_pure (wpAny_throw ?_))
  exact h _ _ _ ⟨fun b o hb => Heap.get?_push_of_some _ (Heap.get?_push_of_some _ hb), Heap.get?_none_of_le (by simp), _, .ref s.heap.objs.size, Heap.get?_push_size _ rfl, rfl, by simp⟩
def fd146 (P : Params) : FuncData := match (o146 P).data with | .func fd => fd | _ => default
theorem bind1 (P : Params) (a b : Value) : ∃ (msg : String) (k : PUnit → Sem (List (Str × Value))), bindArgs (fd146 P) ⟨[a, b], []⟩ = (rule "call.bind.missing-positional" >>= fun _ => (theBinderRefuses msg : Sem PUnit) >>= k) ∧ (msg : Str).length ≤ sizeLine := by
  exact ⟨_, _, rfl, Nat.le_of_ble_eq_true (by kernel_rfl)⟩
/-- the pair's maker, called with too little -/
theorem new1C {va : Value} {R : Result → Shared → Prop} (X : IK w s.heap) (hh : A.handled = none) (h : ∀ h' tk e, Heap.NewExc s.heap h' e "TypeError" → R (.error (.ref e)) { s with heap := h', toks := tk }) :
    codeC (model pw w) A (.call (.ref 146) ⟨[.ref 219, va], []⟩) R s := by
  refine codeC_of_tree ?_
  show wpC _ A.in1 (callAny (.ref 146) _) _ _ s
  simp only [callAny]
  refine wpC_bindA (wpAny_load (ik_get X 146 (o146 w.params) (by kernel_rfl)) ?_)
  have hcd : s.heap.CodeRec (fd146 w.params).code (fd146 w.params).qualname := codeRec_of X (by kernel_rfl)
  obtain ⟨c, oc, vs, tq, hc, hoc, hdc, hq⟩ := hcd
  obtain ⟨msg, k, e, hl⟩ := bind1 w.params (.ref 219) va
  show wpC _ _ (callFunction 146 (fd146 w.params) ⟨[.ref 219, va], []⟩) _ _ _
  unfold callFunction
  rw [hc, e]
  refine wpC_bindA (wpAny_field hoc hdc hq ?_)
  dsimp only
  refine wpC_bindA (wpAny_pure ?_)
  refine wpC_bind (wpC_bindA (wpAny_rule (wpC_bind (refuseC hh hl ?_))))
  exact h
end
end Mine

end
section
open PySem PySem.W PySem.Calls PyProof.Rows PySem.Builtin PySem.Builtin.Str
set_option Elab.async false
set_option maxRecDepth 100000
set_option maxHeartbeats 2000000
namespace Mine
section
variable {w : World} {A : Around} {h : Heap} {g : Array GenState} {d : Drawn} {t : Nat} {os : OsState} {R : Result → Shared → Prop}
theorem codeC_builtin_at {id : String} {args : Args} {b : Builtin} {s : Shared} (hq : (Code.builtin id args).quiet = true) (hb : entryFor table id = some b)
    (h : wpAny (model pw w) A.in1 (checkBuiltinCall id args) (fun _ s₁ => wpC (model pw w) (A.under (.builtin id args)) (b args)
      (fun fin s' => match fin with | .done f => R (.ok f) s' | .again c' => c'.quiet = true ∧ codeC (model pw w) A c' R s') (fun e s' => R (.error e) s') s₁)
      (fun e s' => R (.error e) s') s) : codeC (model pw w) A (.call (.builtin id) args) R s := by
  refine codeC_of_tree ?_
  show wpC _ A.in1 (do checkBuiltinCall id args; again (.builtin id args)) _ _ s
  refine wpC_bindA (wpAny_mono h (fun _ s₁ h₁ => wpC_pure (And.intro hq (codeC_of_tree ?_))) fun _ _ h' => h')
  show wpC _ _ (match entryFor table id with | some b => b args | none => unsupported ((withoutEnding? id "#data").getD id)) _ _ s₁
  rw [hb]; exact h₁
/-- the class called with too little -/
theorem pair1C {va : Value} (X : IK w h) (hh : A.handled = none) (hq : ∀ h' tk e, Heap.NewExc h h' e "TypeError" → R (.error (.ref e)) ⟨h', g, d, tk, os⟩) :
    codeC (model pw w) A (.call (.ref 219) ⟨[va], []⟩) R ⟨h, g, d, t, os⟩ := by
  have call : Looks (model pw w) h (specialOf (.ref 219) "__call__") (some (.builtin "type.__call__")) := looks_specialIn (x_in X) (by kernel_rfl)
  have typ : Looks (model pw w) h (isInstance (.ref 219) (.type "type")) true := looks_instIn (x_in X) (by kernel_rfl)
  have made := made219 (M := model pw w) X
  have hm := mro219 (M := model pw w) X
  refine codeC_of_tree ?_
  show wpC _ _ (callAny (.ref 219) _) _ _ _
  simp only [callAny]
  refine wpC_bindA (wpAny_load (ik_get X 219 (o219 w.params) (by kernel_rfl)) ?_)
  show wpC _ _ (callAny.viaDunder (.ref 219) _) _ _ _
  unfold callAny.viaDunder
  refine wpC_bindA (call.at ?_)
  dsimp only
  rw [tc_bind]
  refine wpC_bindA (wpAny_pure (wpC_bindA (wpAny_pure ?_)))
  refine wpC_pure (a := Fin.again (.call (.builtin "type.__call__") ⟨.ref 219 :: [va], []⟩)) (And.intro rfl ?_)
  refine codeC_builtin_at (Code.quiet_builtin _ (by decide +kernel)) entry_typeCall (check_slot tc_kind tc_split typ (tc_args _ _ _) ?_)
  unfold Builtin.«type.__call__»
  show wpC _ _ (mroOf (.ref 219) >>= _) _ _ _
  refine wpC_bindA (hm.at ?_)
  show wpC _ _ (Bind.madeBy (.ref 219) >>= _) _ _ _
  refine wpC_bindA (made.at ?_)
  show wpC _ _ (getAttr (.ref 219) (Str.ofString "__new__") >>= _) _ _ _
  refine wpC_bindA ?_
  refine cls_bind (C := 219) (mc := .type "type") (g := .builtin "staticmethod.__get__") (a := .ref 197) (obj := .none) (tp := .ref 219) (x_in X) (by kernel_rfl) (by kernel_rfl) ?_
  refine wpAny_call (sm_get (K := KH w.params) (f := .ref 146) (rest := []) (x_in X) (by kernel_rfl) (handed_on rfl ?_))
  refine wpC_bind (wpC_holding ?_)
  refine wpC_call ?_
  refine new1C X hh ?_
  exact fun h' tk e n => hq h' tk e n
end
end Mine

end
section
open PySem PySem.W PySem.Calls PyProof.Rows PySem.Builtin PySem.Builtin.Str
set_option Elab.async false
set_option maxRecDepth 100000
namespace Mine
/-- a heap with one place blanked -/
def blank1 (h : Heap) (L : Addr) : Heap := h.update L fun o => { o with data := .freed }
theorem blank1_self (h : Heap) (L : Addr) : (blank1 h L).get? L = none := by
  obtain ⟨objs, life⟩ := h
  show (match (objs.modify L _)[L]? with | some ⟨_, _, .freed, _⟩ => none | o => o) = none
  rw [Array.getElem?_modify, if_pos rfl]
  cases objs[L]? with
  | none => rfl
  | some o => rfl
theorem blank1_other {h : Heap} {L b : Addr} (hb : b ≠ L) : (blank1 h L).get? b = h.get? b := Heap.get?_update_other _ _ (Ne.symm hb)
def blank (h : Heap) : List Addr → Heap
  | [] => h
  | L :: r => blank1 (blank h r) L
theorem blank_in (h : Heap) : ∀ {F : List Addr} {b : Addr}, b ∈ F → (blank h F).get? b = none
  | L :: r, b, hb => by
    by_cases e : b = L
    · subst e; exact blank1_self _ _
    · show (blank1 (blank h r) L).get? b = none
      rw [blank1_other e]
      exact blank_in h ((List.mem_cons.mp hb).resolve_left e)
theorem blank_out (h : Heap) : ∀ {F : List Addr} {b : Addr}, b ∉ F → (blank h F).get? b = h.get? b
  | [], _, _ => rfl
  | L :: r, b, hb => by
    show (blank1 (blank h r) L).get? b = _
    rw [blank1_other fun e => hb (by simp [e])]
    exact blank_out h fun hm => hb (List.mem_cons_of_mem _ hm)
theorem blank_stays (h : Heap) (F : List Addr) : (blank h F).StaysIn h := fun b o e => by
  by_cases hb : b ∈ F
  · rw [blank_in h hb] at e; cases e
  · rw [blank_out h hb] at e; exact e
/-- where the frames of a stack hold their names -/
def spots (l : List Env) : List Addr := l.filterMap (·.frame)
/-- every frame of a stack is a function's, and its names lie in the heap -/
def Stands (h : Heap) : List Env → Prop
  | [] => True
  | env :: r => env.scope.kind ≠ .module ∧ (∃ L o, env.frame = some L ∧ h.get? L = some o ∧ ∀ vs, o.data ≠ .fields vs) ∧ Stands h r
theorem stands_fun {h : Heap} {F : List Addr} : ∀ {l : List Env}, Stands h l → (∀ L ∈ spots l, L ∈ F) → h.FunFrames (blank h F) l
  | [], _, _ => trivial
  | env :: r, ⟨hk, ⟨L, o, hf, ho, hd⟩, hr⟩, hF => by
    have hL : L ∈ spots (env :: r) := List.mem_filterMap.mpr ⟨env, by simp, hf⟩
    refine ⟨hk, ⟨L, o, hf, blank_in h (hF L hL), ho, hd⟩, stands_fun hr fun x hx => hF x ?_⟩
    obtain ⟨e, he, hx⟩ := List.mem_filterMap.mp hx
    exact List.mem_filterMap.mpr ⟨e, List.mem_cons_of_mem _ he, hx⟩
/-- kept, but for the slots of the frames' names -/
def KX (F : List Addr) (s s' : Shared) : Prop := ∃ h tk, s' = { s with heap := h, toks := tk } ∧ ∀ b o, s.heap.get? b = some o → if b ∈ F then ∃ sl, h.get? b = some { o with slots := sl } else h.get? b = some o
theorem kx_of (F : List Addr) {s s' : Shared} (k : Keeps s s') : KX F s s' := by
  obtain ⟨h, t, e, r⟩ := k
  refine ⟨h, t, e, fun b o eb => ?_⟩
  split
  · exact ⟨o.slots, r b o eb⟩
  · exact r b o eb
theorem kx_nil {s s' : Shared} (k : KX [] s s') : Keeps s s' := by
  obtain ⟨h, t, e, r⟩ := k
  exact ⟨h, t, e, fun b o eb => by simpa using r b o eb⟩
theorem kx_trans {F : List Addr} {s s' s'' : Shared} (a : KX F s s') (b : KX F s' s'') : KX F s s'' := by
  obtain ⟨h, t, rfl, k⟩ := a
  obtain ⟨h', t', rfl, k'⟩ := b
  refine ⟨h', t', rfl, fun b o e => ?_⟩
  have k1 := k b o e
  split
  · rename_i hb
    rw [if_pos hb] at k1
    obtain ⟨sl, k1⟩ := k1
    have k2 := k' b _ k1
    rw [if_pos hb] at k2
    exact k2
  · rename_i hb
    rw [if_neg hb] at k1
    have k2 := k' b o k1
    rw [if_neg hb] at k2
    exact k2
section
variable {M : Model} {A : Around} {E : Value → Shared → Prop} {s : Shared}
/-- what a heap keeps of an earlier one when frames are left -/
def KH0 (F : List Addr) (h₀ h : Heap) : Prop := ∀ b o, h₀.get? b = some o → if b ∈ F then ∃ sl, h.get? b = some { o with slots := sl } else h.get? b = some o
theorem stands_keeps {h h' : Heap} (k : ∀ b o, h.get? b = some o → h'.get? b = some o) : ∀ {l : List Env}, Stands h l → Stands h' l
  | [], _ => trivial
  | _ :: _, ⟨hk, ⟨L, o, hf, ho, hd⟩, hr⟩ => ⟨hk, ⟨L, o, hf, k _ _ ho, hd⟩, stands_keeps k hr⟩
theorem stands_spot {h : Heap} {l : List Env} (hs : Stands h l) : ∀ b o, b ∈ spots l → h.get? b = some o → ∀ vs, o.data ≠ .fields vs := by
  induction l with
  | nil => exact fun b o hb => absurd hb (by simp [spots])
  | cons env r ih =>
    obtain ⟨_, ⟨L, o', hf, ho, hd⟩, hr⟩ := hs
    intro b o hb e
    have hb' : b = L ∨ b ∈ spots r := by
      unfold spots at hb ⊢
      rw [List.filterMap_cons, hf] at hb
      exact List.mem_cons.mp hb
    rcases hb' with hb' | hb'
    · rw [hb', ho] at e
      have := Option.some.inj e
      rw [← this]; exact hd
    · exact ih hr b o hb' e
theorem leaveX {h₀ : Heap} {env : Env} {outer : List Env} {L e : Addr} {o oe : Obj} {vs : Array Value} {Q : Unit → Shared → Prop} (hfr : A.frames = some (env :: outer)) (hk : env.scope.kind ≠ .module) (hf : env.frame = some L)
    (hL : s.heap.get? L = some o) (hLd : ∀ vs, o.data ≠ .fields vs) (hL0 : h₀.get? L = none) (hS : Stands h₀ outer) (k : ∀ b o, h₀.get? b = some o → s.heap.get? b = some o)
    (he : s.heap.get? e = some oe) (he0 : h₀.get? e = none) (hd : oe.data = .fields vs) (h1 : vs[1]? = some .none)
    (h : ∀ h', KH0 (spots outer) h₀ h' → h'.Traced (blank h₀ (spots outer)) e oe.cls → Q () { s with heap := h' }) : wpAny M A (leaving env (.ref e)) Q E s := by
  have none0 : ∀ b, h₀.get? b = none → (blank h₀ (spots outer)).get? b = none := fun b hb => by
    by_cases hm : b ∈ spots outer
    · exact blank_in h₀ hm
    · rw [blank_out h₀ hm]; exact hb
  have hst : (blank h₀ (spots outer)).StaysIn s.heap := fun b o eb => k b o (blank_stays h₀ _ b o eb)
  have hfun : s.heap.FunFrames (blank h₀ (spots outer)) (env :: outer) := by
    refine ⟨hk, ⟨L, o, hf, none0 L hL0, hL, hLd⟩, ?_⟩
    have := stands_fun (F := spots outer) hS fun L hL => hL
    exact this.of_keeps fun b o eb _ => ⟨o, k b o eb, rfl⟩
  refine wpAny_leaving_first hfr hfun hf he hst (none0 e he0) hd h1 fun h' hl => ?_
  obtain ⟨x1, _, x3, x4⟩ := hl
  refine h h' (fun b o eb => ?_) x3
  split
  · rename_i hb
    exact x4 b o (k b o eb) (stands_spot hS b o hb eb)
  · rename_i hb
    exact x1 b o (by rw [blank_out h₀ hb]; exact eb)
end
end Mine

end
section
open PySem PySem.W PySem.Calls PyProof.Rows PySem.Builtin PySem.Builtin.Str
set_option Elab.async false
set_option maxRecDepth 100000
namespace Mine
section
variable {w : World} {A : Around} {E : Value → Shared → Prop} {s : Shared} {env : Env}
theorem tryC {M : Model} {body orelse : Sem Flow} {h₀ : ExceptHandler} {hs : List ExceptHandler} {Q : Flow → Shared → Prop}
    (h : wpC M A body (fun f s₁ => match f with | .next => wpAny M A orelse Q E s₁ | f => Q f s₁)
      (fun e s₁ => wpAny M A (noteFrame e env) (fun _ s₂ => wpAny M A (setFlight e none) (fun _ s₃ => wpAny M A (handleBy e env (h₀ :: hs)) Q E s₃) E s₂) E s₁) s) :
    wpC M A (tryStmt false body (h₀ :: hs) orelse [] env) Q E s := by
  unfold tryStmt
  simp only [List.isEmpty_nil, if_true, List.isEmpty_cons, Bool.false_and, Bool.false_eq_true, if_false]
  refine wpC_bind (wpC_attempt (wpC_mono h (fun f s₁ h₁ => ?_) fun e s₁ h₁ => ?_))
  · cases f <;> first | exact wpC_any h₁ | exact wpC_pure h₁
  · exact wpC_any (wpAny_bind (wpAny_mono h₁ (fun _ _ h₂ => wpAny_bind h₂) fun _ _ x => x))
theorem TryC {body orelse : List Stmt} {h₀ : ExceptHandler} {hs : List ExceptHandler} {pos : Pos} {Q : Flow → Shared → Prop}
    (h : wpC (model pw w) A (execs body env) (fun f s₁ => match f with | .next => wpAny (model pw w) A (execs orelse env) Q E s₁ | f => Q f s₁)
      (fun e s₁ => wpAny (model pw w) A (noteFrame e env) (fun _ s₂ => wpAny (model pw w) A (setFlight e none) (fun _ s₃ => wpAny (model pw w) A (handleBy e env (h₀ :: hs)) Q E s₃) E s₂) E s₁) s) :
    wpC (model pw w) A (exec (.Try body (h₀ :: hs) orelse [] pos) env) Q E s := by
  rw [arm_exec_Try]
  exact wpC_bindA (wpAny_standAt (tryC h))
theorem consC {M : Model} {st : Stmt} {rest : List Stmt} {Q : Flow → Shared → Prop} (h : wpC M A (exec st env) (fun f s' => match f with | .next => wpC M A (execs rest env) Q E s' | f => Q f s') E s) : wpC M A (execs (st :: rest) env) Q E s := by
  rw [execs_cons]
  refine wpC_bind (wpC_mono h (fun f s' h' => ?_) fun _ _ x => x)
  cases f <;> first | exact h' | exact wpC_pure h'
theorem retC {M : Model} {e : Expr} {pos : Pos} {Q : Flow → Shared → Prop} (h : wpC M A (eval e env) (fun v => Q (.ret v)) E s) : wpC M A (exec (.Return (some e) pos) env) Q E s := fun Γ p hΓ hC => by
  simp only [exec_Return_some, Sem.wp_bind', Sem.wp_cmd_standAt, Sem.wp_pure']; exact h Γ _ hΓ hC
theorem asgC {M : Model} {x : Str} {pos' pos : Pos} {value : Expr} {Q : Flow → Shared → Prop} (hs : swapsWith value (some (.Name x pos')) pos.line env = pure false) (h : wpC M A (eval value env) (fun v s₁ => wpAny M A (storeName env x v) (fun _ => Q .next) E s₁) E s) :
    wpC M A (exec (.Assign [.Name x pos'] value pos) env) Q E s := fun Γ p hΓ hC => by
  simp only [exec_Assign_Name env x pos' value pos hs, Sem.wp_bind', Sem.wp_cmd_standAt, Sem.wp_bindName, Sem.wp_pure']
  exact Sem.wp_mono M Γ _ (fun v _ s₁ h₁ => h₁ Γ _ hΓ) (fun _ _ _ h' => h') _ _ (h Γ _ hΓ hC)
theorem funcC {body : List Stmt} {R : Result → Shared → Prop} (h : wpC (model pw w) (A.deeper env) (execs body env) (fun f s' => R (.ok (.ret (match f with | .ret v => v | _ => .none))) s')
      (fun e s' => wpAny (model pw w) (A.deeper env) (leaving env e) (fun _ s'' => R (.error e) s'') (fun e' s'' => R (.error e') s'') s') s) : codeC (model pw w) A (.func body env) R s := by
  refine codeC_of_tree ?_
  show wpC _ (A.deeper env) (do point; match ← (execs body env).onRaise (leaving env) with | .ret v => ret v | _ => ret .none) _ _ s
  refine wpC_bindA (wpAny_point (wpC_bind (wpC_onRaise (wpC_mono h (fun f s' h' => ?_) fun _ _ h' => wpC_any h'))))
  cases f <;> exact wpC_pure h'
end
end Mine

end
section
open PySem PySem.W PySem.Calls PyProof.Rows PySem.Builtin PySem.Builtin.Str
set_option Elab.async false
set_option maxRecDepth 100000
namespace Mine
section
variable {w : World} {A : Around} {s : Shared}
/-- a function of the program called, its body under the caller; an exception leaves the frame -/
theorem callFC {a : Addr} {o : Obj} {fd : FuncData} {body : List Stmt} {args : List Value} {binds : List (Str × Value)} {R : Result → Shared → Prop} (X : IK w s.heap) (hd : A.depth < recursionLimit)
    (e1 : (KH w.params).lookup a = some o) (e2 : o.data = .func fd) (e3 : codeIn (KH w.params) fd.code fd.qualname = true) (e4 : fd.body = .stmts body) (e5 : bindArgs fd ⟨args, []⟩ = pure binds) (e6 : fd.closure = [])
    (e7 : bindsOk fd s.heap.objs.size binds = true) (hco : fd.scope.isCoroutine = false) (hgen : fd.scope.isGenerator = false) (hk : fd.scope.kind = .function)
    (h : ∀ s₁, Fm w s (callEnvC fd s.heap.objs.size a) (bindL (callEnvC fd s.heap.objs.size a).kindOf binds fun _ => none) (bindC (callEnvC fd s.heap.objs.size a).kindOf binds fun _ => none) s₁ →
      wpC (model pw w) (A.deeper (callEnvC fd s.heap.objs.size a)) (execs body (callEnvC fd s.heap.objs.size a)) (fun f s' => R (.ok (.ret (retV f))) s')
        (fun e s' => wpAny (model pw w) (A.deeper (callEnvC fd s.heap.objs.size a)) (leaving (callEnvC fd s.heap.objs.size a) e) (fun _ s'' => R (.error e) s'') (fun e' s'' => R (.error e') s'') s') s₁) :
    codeC (model pw w) A (.call (.ref a) ⟨args, []⟩) R s := by
  have hcd : s.heap.CodeRec fd.code fd.qualname := codeRec_of X e3
  have hlim := nolim X
  refine codeC_of_tree ?_
  show wpC _ A.in1 (callAny (.ref a) ⟨args, []⟩) _ _ s
  simp only [callAny]
  refine wpC_bindA (wpAny_load (X _ _ e1) ?_)
  obtain ⟨c, oc, vs, tq, hc, hoc, hdc, hq⟩ := hcd
  simp only [e2, callFunction, hco, hgen, e4, hc]
  refine wpC_bindA (m := field (.ref c) 1) (wpAny_field hoc hdc hq (wpC_bindA (wpAny_pure ?_)))
  rw [e5, e6]
  refine wpC_bindA (wpAny_pure (wpC_bindA ?_))
  have hkind : ∀ x ∈ binds, fd.scope.names.lookup x.1 = some .local ∨ (fd.scope.names.lookup x.1 = some .cell ∧ ((cellsFrom (s.heap.objs.size + 1) fd.scope.names []).lookup x.1).isSome = true) := fun x hx => by
    have := List.all_eq_true.mp e7 x hx
    simp only [Bool.or_eq_true, Bool.and_eq_true, decide_eq_true_eq] at this
    exact this
  rw [← hc]
  refine wpAny_newFunctionEnv_cells hk hkind fun env he s' x => ?_
  subst he
  refine wpC_bindA (wpAny_enterFrame (hlim.keeps x.toInCall.keep) hd (wpC_pure (And.intro rfl (funcC ?_))))
  exact h s' ⟨X, x⟩
end
end Mine

end
section
open PySem PySem.W PySem.Calls PyProof.Rows PySem.Builtin PySem.Builtin.Str
set_option Elab.async false
set_option maxRecDepth 100000
namespace Mine
section
variable {M : Model} {w : World} {A : Around} {E : Value → Shared → Prop} {s : Shared} {Q : Value → Shared → Prop}
theorem wpC_keep {α : Type} {vs : List Value} {m : Sem α} {Q : α → Shared → Prop} (h : wpC M A m Q E s) : wpC M A (m.keep vs) Q E s := fun Γ p hΓ hC => by rw [Sem.wp_keep]; exact h Γ p hΓ hC
theorem cwC {f : Value} {first : List Value} {pos : Pos} {P : Heap → Prop} {args : List (Bool × Sem Value)} (hplain : args.any (·.1) = false)
    (hk : ∀ h, P h → ∃ k, (k = Keeper.frame ∨ k = Keeper.machine ∨ k = Keeper.boundFrame) ∧ Looks M h (keeperOf f) k)
    (h : wpAny M A (evalArgs f true args []) (fun a s₁ => P s₁.heap ∧ wpC M A (call f (first ++ a.pos) a.kw) Q E s₁) E s) : wpC M A (callWith pos f first args []) Q E s := by
  unfold callWith
  refine wpC_bindA (wpAny_holding (wpAny_mono h (fun a s₁ h₁ => ?_) fun _ _ x => x))
  refine wpC_bindA (wpAny_standAt ?_)
  obtain ⟨k, hk', L⟩ := hk _ h₁.1
  simp only [hplain, List.any_nil, Bool.or_false]
  refine wpC_bindA (L.here ?_)
  have tail : ∀ {t : Sem Value}, wpC M A t Q E s₁ → wpC M A (t >>= fun r => holding [r] point >>= fun _ => pure r) Q E s₁ :=
    fun ht => wpC_bind (wpC_mono ht (fun r s₂ hr => wpC_bindA (wpAny_holding (wpAny_point (wpC_pure hr)))) fun _ _ x => x)
  have marked (mk : Value) : wpC M A (callMarked mk f (first ++ a.pos) a.kw) Q E s₁ := by unfold callMarked; exact wpC_keep h₁.2
  rcases hk' with rfl | rfl | rfl <;> dsimp only <;> first | exact tail h₁.2 | (split <;> first | exact tail h₁.2 | exact tail (marked _))
/-- a function of the program under its global's name, one or more plain arguments -/
theorem cw_fnC {pos : Pos} {a : Addr} {o : Obj} {fd : FuncData} {t : Sem Value} {rest : List (Bool × Sem Value)} (e1 : (KH w.params).lookup a = some o) (e2 : o.data = .func fd) (hp : rest.any (·.1) = false)
    (h : wpAny M A (spliced ((false, t) :: rest)) (fun vs s₁ => IK w s₁.heap ∧ wpC M A (call (.ref a) vs) Q E s₁) E s) : wpC M A (callWith pos (.ref a) [] ((false, t) :: rest) []) Q E s := by
  refine cwC (P := fun h => IK w h) (by show (false || rest.any (·.1)) = false; rw [hp]; rfl) (fun h X => ⟨.frame, .inl rfl, ?_⟩) (evalArgs_plain (wpAny_mono h (fun vs s₁ q => ⟨q.1, by rw [List.nil_append]; exact q.2⟩) fun _ _ x => x))
  obtain ⟨oc, od, dt, sl⟩ := o
  dsimp only at e2
  subst e2
  exact (Looks.ld (part := none) (X _ _ e1)).andThen .now
theorem methC {o : Expr} {name : Str} {apos pos : Pos} {args : List Expr} {env : Env} (hbase : attributeBase o name env (eval o env) = eval o env)
    (hform : methodCallForm (args.length + ([] : List Keyword).length) (backTo pos (starEach args env)) (backToKw pos (keywordEach [] env)) = true) (hline : (apos.endLine == pos.line) = true)
    (h : wpAny M A (eval o env) (fun ov s₁ => ∀ pl, wpAny M A (getMethod ov name pl) (fun fx s₂ => wpC M A (callWith pos fx.1 fx.2 (backTo pos (starEach args env)) []) Q E s₂) E s₁) E s) :
    wpC M A (eval (.Call (.Attribute o name apos) args [] pos) env) Q E s := by
  rw [arm_eval_Call, hbase]
  refine wpC_bindA (wpAny_mono h (fun ov s₁ h₁ => wpC_bindA (wpAny_standAt ?_)) fun _ _ e => e)
  have hpos : methodCallPos true o env apos pos = pure pos := by unfold methodCallPos; simp [hline]
  unfold methodCall calleeOf
  rw [hform]
  refine wpC_bindA (wpAny_holding ?_)
  rw [if_pos rfl]
  refine wpAny_mono (h₁ _) (fun fx s₂ h₂ => ?_) fun _ _ e => e
  exact wpC_bindA (wpAny_of_eq hpos h₂)
end
end Mine

end
section
open PySem PySem.W PySem.Calls PyProof.Rows PySem.Builtin PySem.Builtin.Str
set_option Elab.async false
set_option maxRecDepth 100000
namespace Mine
section
variable {M : Model} {w : World} {A : Around} {E : Value → Shared → Prop} {s : Shared}
theorem evalArgs_star {f : Value} {x : Sem Value} {Q : Args → Shared → Prop} (h : wpAny M A x (fun v s₁ => wpAny M A (notIterableAtAll v) (fun b s₂ => b = false ∧ wpAny M A (collect v) (fun vs s₃ => Q ⟨vs, []⟩ s₃) E s₂) E s₁) E s) :
    wpAny M A (evalArgs f true [(true, x)] []) Q E s := by
  unfold evalArgs
  show wpAny M A (x >>= _) Q E s
  refine wpAny_bind (wpAny_mono h (fun v s₁ h₁ => ?_) fun _ _ e => e)
  refine wpAny_bind (wpAny_pure ?_)
  refine wpAny_holding ?_
  show wpAny M A (evalAll [] >>= _) Q E s₁
  refine wpAny_bind (m := evalAll []) ?_
  refine wpAny_pure (a := []) ?_
  refine wpAny_bind ?_
  show wpAny M A (notIterableAtAll v >>= _) _ E s₁
  refine wpAny_bind (wpAny_mono h₁ (fun b s₂ h₂ => ?_) fun _ _ e => e)
  obtain ⟨rfl, h₂⟩ := h₂
  rw [if_neg (by decide)]
  exact wpAny_holding (wpAny_mono h₂ (fun vs s₃ h₃ => wpAny_pure h₃) fun _ _ e => e)
theorem keep219 {h : Heap} (X : IK w h) : Looks M h (keeperOf (.ref 219)) .machine := by
  have call : Looks M h (specialOf (.ref 219) "__call__") (some (.builtin "type.__call__")) := looks_specialIn (x_in X) (by kernel_rfl)
  refine (Looks.ld (part := none) (ik_get X 219 (o219 w.params) (by kernel_rfl))).andThen ?_
  exact call.andThen .now
theorem cwStarC {pos : Pos} {x : Sem Value} {Q : Value → Shared → Prop} (h : wpAny M A (evalArgs (.ref 219) true [(true, x)] []) (fun a s₁ => IK w s₁.heap ∧ wpC M A (call (.ref 219) a.pos a.kw) Q E s₁) E s) :
    wpC M A (callWith pos (.ref 219) [] [(true, x)] []) Q E s := by
  unfold callWith
  refine wpC_bindA (wpAny_holding (wpAny_mono h (fun a s₁ h₁ => ?_) fun _ _ x => x))
  refine wpC_bindA (wpAny_standAt ?_)
  refine wpC_bindA ((keep219 h₁.1).here ?_)
  dsimp only
  refine wpC_bind ?_
  show wpC M A (operate _ (call (.ref 219) ([] ++ a.pos) a.kw)) _ E s₁
  unfold operate
  rw [List.nil_append]
  refine wpC_bind (wpC_holding (wpC_mono h₁.2 (fun r s₂ hr => ?_) fun _ _ e => e))
  refine wpC_bindA (wpAny_release' (wpC_pure ?_))
  exact wpC_bindA (wpAny_holding (wpAny_point (wpC_pure hr)))
end
end Mine

end
section
open PySem PySem.W PySem.Calls PyProof.Rows PySem.Builtin PySem.Builtin.Str
set_option Elab.async false
set_option maxRecDepth 100000
namespace Mine
/-- a list, cut into blanks, a core, blanks -/
structure Core (t p c q : List Nat) : Prop where
  eq : t = p ++ c ++ q
  lo : ∀ x ∈ p, bl x = true
  hi : ∀ x ∈ q, bl x = true
  hd : ∀ x, c.head? = some x → bl x = false
  la : ∀ x, c.getLast? = some x → bl x = false
def trim (t : List Nat) : List Nat := ((t.dropWhile bl).reverse.dropWhile bl).reverse
theorem head_dw {f : Nat → Bool} : ∀ {l : List Nat} {x : Nat}, (l.dropWhile f).head? = some x → f x = false
  | [], _, h => by simp at h
  | a :: r, x, h => by
    rw [List.dropWhile_cons] at h
    split at h
    · exact head_dw h
    · rename_i hf
      simp only [List.head?_cons, Option.some.injEq] at h
      subst h; simpa using hf
theorem mem_tw {f : Nat → Bool} : ∀ {l : List Nat} {x : Nat}, x ∈ l.takeWhile f → f x = true
  | [], _, h => by simp at h
  | a :: r, x, h => by
    rw [List.takeWhile_cons] at h
    split at h
    · rename_i hf
      rcases List.mem_cons.mp h with rfl | h
      · exact hf
      · exact mem_tw h
    · simp at h
theorem core_trim (t : List Nat) : Core t (t.takeWhile bl) (trim t) (((t.dropWhile bl).reverse.takeWhile bl).reverse) := by
  have e1 : t.takeWhile bl ++ t.dropWhile bl = t := List.takeWhile_append_dropWhile
  have e2 : (t.dropWhile bl).reverse.takeWhile bl ++ (t.dropWhile bl).reverse.dropWhile bl = (t.dropWhile bl).reverse := List.takeWhile_append_dropWhile
  have e3 : t.dropWhile bl = trim t ++ ((t.dropWhile bl).reverse.takeWhile bl).reverse := by
    unfold trim
    rw [← List.reverse_append, e2, List.reverse_reverse]
  refine ⟨?_, fun x h => mem_tw h, fun x h => mem_tw (List.mem_reverse.mp h), fun x h => ?_, fun x h => ?_⟩
  · rw [List.append_assoc, ← e3, e1]
  · refine head_dw (f := bl) (l := t) ?_
    rw [e3, List.head?_append, h]; rfl
  · unfold trim at h
    rw [List.getLast?_reverse] at h
    exact head_dw h
theorem kept_of_core {t p c q : List Nat} (h : Core t p c q) : (c = [] → keptB t = []) ∧ (c ≠ [] → (keptB t).headD 0 = p.length ∧ (keptB t).getLastD 0 + 1 = p.length + c.length ∧ keptB t ≠ []) := by
  have hlen : t.length = p.length + c.length + q.length := by rw [h.eq, List.length_append, List.length_append]
  have hget : ∀ k, k < t.length → (bl (t.getD k 0) = false → p.length ≤ k ∧ k < p.length + c.length) := by
    intro k hk hb
    rw [List.getD_eq_getElem?_getD, h.eq] at hb
    refine ⟨?_, ?_⟩
    · rcases Nat.lt_or_ge k p.length with h1 | h1
      · rw [List.append_assoc, List.getElem?_append_left h1, List.getElem?_eq_getElem h1] at hb
        have := h.lo _ (List.getElem_mem h1)
        simp only [Option.getD_some] at hb
        rw [this] at hb; cases hb
      · exact h1
    · rcases Nat.lt_or_ge k (p.length + c.length) with h1 | h1
      · exact h1
      · have h2 : (p ++ c).length ≤ k := by simpa using h1
        have h3 : k - (p ++ c).length < q.length := by rw [List.length_append]; omega
        rw [List.getElem?_append_right h2, List.getElem?_eq_getElem h3] at hb
        have := h.hi _ (List.getElem_mem h3)
        simp only [Option.getD_some] at hb
        rw [this] at hb; cases hb
  have hmem : ∀ k, k ∈ keptB t ↔ k < t.length ∧ bl (t.getD k 0) = false := by
    intro k
    unfold keptB
    rw [List.mem_filter, List.mem_range]
    simp
  constructor
  · intro hc
    rw [List.eq_nil_iff_forall_not_mem]
    intro k hk
    have := (hmem k).mp hk
    have h2 := hget k this.1 this.2
    rw [hc] at h2; simp at h2; omega
  · intro hc
    have hcl : 0 < c.length := List.length_pos_iff.mpr hc
    have h0 : p.length ∈ keptB t := by
      rw [hmem]
      refine ⟨by omega, ?_⟩
      obtain ⟨x, r, rfl⟩ := List.exists_cons_of_ne_nil hc
      have := h.hd x rfl
      rw [List.getD_eq_getElem?_getD, h.eq]
      simpa using this
    have h1 : p.length + c.length - 1 ∈ keptB t := by
      rw [hmem]
      refine ⟨by omega, ?_⟩
      have e := List.getLast?_eq_getElem? (l := c)
      have h2 : c.length - 1 < c.length := by omega
      rw [List.getElem?_eq_getElem h2] at e
      have := h.la _ e
      rw [List.getD_eq_getElem?_getD, h.eq, List.getElem?_append_left (by simp; omega), List.getElem?_append_right (by omega)]
      have e2 : p.length + c.length - 1 - p.length = c.length - 1 := by omega
      rw [e2, List.getElem?_eq_getElem h2]
      exact this
    have hne : keptB t ≠ [] := List.ne_nil_of_mem h0
    have hpos : 0 < (keptB t).length := List.length_pos_iff.mpr hne
    have hs := List.pairwise_iff_getElem.mp (kept_sorted t)
    obtain ⟨i, hi, ei⟩ := List.getElem_of_mem h0
    obtain ⟨j, hj, ej⟩ := List.getElem_of_mem h1
    have hb : ∀ (k : Nat) (hk : k < (keptB t).length), p.length ≤ (keptB t)[k] ∧ (keptB t)[k] < p.length + c.length := fun k hk => by
      have := (hmem _).mp (List.getElem_mem hk)
      exact hget _ this.1 this.2
    refine ⟨?_, ?_, hne⟩
    · rw [List.headD_eq_head?_getD, List.head?_eq_getElem?, List.getElem?_eq_getElem hpos]
      show (keptB t)[0] = p.length
      have := hb 0 hpos
      rcases Nat.eq_zero_or_pos i with e | e
      · subst e; exact ei
      · have := hs 0 i hpos hi e
        omega
    · rw [List.getLastD_eq_getLast?, List.getLast?_eq_getElem?, List.getElem?_eq_getElem (by omega : (keptB t).length - 1 < (keptB t).length)]
      show (keptB t)[(keptB t).length - 1] + 1 = p.length + c.length
      have := hb ((keptB t).length - 1) (by omega)
      rcases Nat.lt_or_ge j ((keptB t).length - 1) with e | e
      · have := hs j ((keptB t).length - 1) hj (by omega) e
        omega
      · have e3 : j = (keptB t).length - 1 := by omega
        subst e3
        omega
theorem bare_core {t p c q : List Nat} (h : Core t p c q) : bare t = c := by
  have k := kept_of_core h
  by_cases hc : c = []
  · unfold bare; rw [if_pos (k.1 hc), hc]
  · obtain ⟨a, b, d⟩ := k.2 hc
    unfold bare
    rw [if_neg d, a, b, h.eq]
    have e : p.length + c.length = (p ++ c).length := by simp
    rw [e, List.take_left, List.drop_left]
theorem trim_bare (t : List Nat) : bare t = trim t := bare_core (core_trim t)
theorem core_uniq {t p c q : List Nat} (h : Core t p c q) : trim t = c := by rw [← trim_bare, bare_core h]
/-- the shield's number, at a core -/
theorem sh_core {x p c q : List Nat} (h : Core (leftL x) p c q) : shI x = (p.length : Int) + (q.length : Nat) + (if c.head? = some 890 then 1 else 0) := by
  have k := kept_of_core h
  have hlen : (leftL x).length = p.length + c.length + q.length := by rw [h.eq, List.length_append, List.length_append]
  by_cases hc : c = []
  · unfold shI
    rw [if_pos (k.1 hc), hlen, hc]
    simp
  · obtain ⟨a, b, d⟩ := k.2 hc
    unfold shI
    rw [if_neg d, a, hlen]
    have hcl : 0 < c.length := List.length_pos_iff.mpr hc
    have e : (leftL x).getD p.length 0 = c.head?.getD 0 := by
      rw [List.getD_eq_getElem?_getD, h.eq, List.append_assoc, List.getElem?_append_right (Nat.le_refl _), Nat.sub_self, List.getElem?_append_left hcl, List.head?_eq_getElem?]
    rw [e]
    obtain ⟨y, r, rfl⟩ := List.exists_cons_of_ne_nil hc
    simp only [List.head?_cons, Option.getD_some, Option.some.injEq, List.length_cons]
    simp only [List.length_cons] at b
    omega
end Mine

end
section
open PySem PySem.W PySem.Calls PyProof.Rows PySem.Builtin PySem.Builtin.Str
set_option Elab.async false
set_option maxRecDepth 100000
namespace Mine
/-- signs that stand for themselves, and that nothing else becomes -/
def selfL : List Nat := 61 :: blanksL
theorem space_iff (c : Nat) : Unicode.isSpace c = bl c := by
  have h1 : ∀ (l : List (Nat × Nat)), l.all (fun e => (List.range (e.2 - e.1 + 1)).all fun k => blanksL.contains (e.1 + k)) = true → ∀ c, Unicode.within l c = true → bl c = true := by
    intro l
    induction l with
    | nil => intro _ c h; simp [Unicode.within] at h
    | cons e r ih =>
      intro h c hc
      obtain ⟨a, b⟩ := e
      rw [List.all_cons, Bool.and_eq_true] at h
      unfold Unicode.within at hc
      split at hc
      · cases hc
      · rename_i hac
        rw [Bool.or_eq_true] at hc
        rcases hc with hc | hc
        · have hcb : c ≤ b := by simpa using hc
          have := List.all_eq_true.mp h.1 (c - a) (by rw [List.mem_range]; show c - a < b - a + 1; omega)
          have e : a + (c - a) = c := by omega
          unfold bl
          rw [← e]; exact this
        · exact ih h.2 c hc
  have h2 : blanksL.all Unicode.isSpace = true := by decide +kernel
  rw [Bool.eq_iff_iff]
  constructor
  · exact h1 _ (by decide +kernel) c
  · intro h
    unfold bl at h
    exact List.all_eq_true.mp h2 c (List.contains_iff_mem.mp h)
theorem lower_one (c : Nat) : (Txt.lower ⟨#[c]⟩).cps.toList = Unicode.lowerOf c := by
  have : Unicode.lowerAt #[c] 0 = Unicode.lowerOf c := by
    unfold Unicode.lowerAt
    show (if (c == 0x3A3 && Unicode.endsWord #[c] 0) = true then _ else _) = _
    rw [show Unicode.endsWord #[c] 0 = false from rfl, Bool.and_false]
    rfl
  rw [← this]
  show (#[] ++ (Unicode.lowerAt #[c] 0).toArray).toList = _
  simp
theorem shifted_mem : ∀ {l : List (Nat × Nat × Nat)} {c r : Nat}, Unicode.shifted l c = some r → ∃ e ∈ l, e.1 ≤ c ∧ c ≤ e.2.1 ∧ r = e.2.2 + (c - e.1)
  | [], _, _, h => by simp [Unicode.shifted] at h
  | (a, b, t) :: l, c, r, h => by
    unfold Unicode.shifted at h
    split at h
    · cases h
    · split at h
      · rename_i h1 h2
        cases h
        exact ⟨(a, b, t), by simp, by simpa using h1, h2, rfl⟩
      · obtain ⟨e, he, r⟩ := shifted_mem h
        exact ⟨e, List.mem_cons_of_mem _ he, r⟩
def awayB (e : Nat × Nat × Nat) : Bool := selfL.all fun x => (decide (x < e.2.2) || decide (e.2.2 + (e.2.1 - e.1) < x)) && (decide (x < e.1) || decide (e.2.1 < x))
theorem away : UnicodeData.oneLower.all awayB = true := by decide +kernel
theorem lower_self {x : Nat} (h : x ∈ selfL) : Unicode.lowerOf x = [x] := by
  have : selfL.all (fun x => decide (Unicode.lowerOf x = [x])) = true := by decide +kernel
  exact of_decide_eq_true (List.all_eq_true.mp this x h)
theorem lower_else {x : Nat} (h : x ∉ selfL) : Unicode.lowerOf x ≠ [] ∧ ∀ y ∈ Unicode.lowerOf x, y ∉ selfL := by
  unfold Unicode.lowerOf Unicode.image
  split
  · rename_i cs hc
    have e : UnicodeData.severalLower = [(304, [105, 775])] := rfl
    rw [e] at hc
    simp only [List.lookup_cons, List.lookup_nil] at hc
    split at hc
    · cases hc
      exact ⟨by simp, by decide⟩
    · cases hc
  · refine ⟨by simp, fun y hy => ?_⟩
    rw [List.mem_singleton] at hy
    subst hy
    cases e : Unicode.shifted UnicodeData.oneLower x with
    | none => exact h
    | some r =>
      obtain ⟨en, hen, h1, h2, h3⟩ := shifted_mem e
      intro hm
      have := List.all_eq_true.mp (List.all_eq_true.mp away en hen) _ hm
      simp only [Option.getD_some, Bool.and_eq_true, Bool.or_eq_true, decide_eq_true_eq] at this
      omega
def b3Fine (e : DictEntry) : Bool := match e.key, e.val with
  | .int i _, .str x _ => decide (0 ≤ i) && !selfL.contains i.toNat && (if i = 890 then decide (x.cps.toList = [32, 953]) else !x.cps.toList.isEmpty && x.cps.toList.all fun y => !selfL.contains y)
  | _, _ => false
theorem b3_fine : b3e.all b3Fine = true := by kernel_rfl
theorem b3At_fine {c : Nat} {x : Str} {t : Tok} (h : b3At c = some (.str x t)) : c ∉ selfL ∧ (if c = 890 then x.cps.toList = [32, 953] else x.cps.toList ≠ [] ∧ ∀ y ∈ x.cps.toList, y ∉ selfL) := by
  unfold b3At findBy at h
  rw [← Array.find?_toList] at h
  obtain ⟨e, he, hv⟩ := Option.map_eq_some_iff.mp h
  have hk := List.find?_some he
  have := List.all_eq_true.mp b3_fine e (List.mem_of_find?_eq_some he)
  unfold b3Fine at this
  rw [hv] at this
  split at this
  · rename_i i t' x' u' ek ev
    cases ev
    rw [ek] at hk
    have hi : i = (c : Int) := by simpa [Value.isInt] using hk
    subst hi
    simp only [Bool.and_eq_true, Bool.not_eq_true', decide_eq_true_eq] at this
    obtain ⟨⟨_, h1⟩, h2⟩ := this
    have e1 : ((c : Int)).toNat = c := by simp
    rw [e1] at h1
    refine ⟨fun hm => ?_, ?_⟩
    · rw [List.contains_iff_mem.mpr hm] at h1; cases h1
    · by_cases hc : c = 890
      · subst hc
        rw [if_pos (by rfl)] at h2
        rw [if_pos rfl]
        exact of_decide_eq_true h2
      · rw [if_neg hc]
        rw [if_neg (by omega)] at h2
        simp only [Bool.and_eq_true, Bool.not_eq_true', List.isEmpty_eq_false_iff] at h2
        refine ⟨h2.1, fun y hy hm => ?_⟩
        have := List.all_eq_true.mp h2.2 y hy
        rw [List.contains_iff_mem.mpr hm] at this
        cases this
  · cases this
theorem fold_self {c : Nat} (h : c ∈ selfL) : fold c = [c] := by
  unfold fold
  split
  · rename_i x t e
    exact absurd h (b3At_fine e).1
  · rw [lower_one]; exact lower_self h
theorem fold_else {c : Nat} (h : c ∉ selfL) (h2 : c ≠ 890) : fold c ≠ [] ∧ ∀ y ∈ fold c, y ∉ selfL := by
  unfold fold
  split
  · rename_i x t e
    have := (b3At_fine e).2
    rw [if_neg h2] at this
    exact this
  · rw [lower_one]; exact lower_else h
theorem fold_890 : fold 890 = [32, 953] := by
  unfold fold
  split
  · rename_i x t e
    have := (b3At_fine e).2
    rw [if_pos rfl] at this
    exact this
  · rename_i h
    exfalso
    have key : (match b3At (890 : Nat) with | some (.str _ _) => true | _ => false) = true := by kernel_rfl
    split at key
    · rename_i x t e
      exact h _ _ e
    · cases key
theorem bl_self {c : Nat} (h : bl c = true) : c ∈ selfL := List.mem_cons_of_mem _ (List.contains_iff_mem.mp h)
theorem bl_not {c : Nat} (h : c ∉ selfL) : bl c = false := by
  cases e : bl c with
  | false => rfl
  | true => exact absurd (bl_self e) h
theorem b1_nt (c : Nat) : b1 c = nt c := by
  rw [Bool.eq_iff_iff]
  unfold b1 nt
  rw [List.contains_iff_mem, List.contains_iff_mem]
  have h1 : ([173, 847, 6150, 6155, 6156, 6157, 8203, 8204, 8205, 8288, 65024, 65025, 65026, 65027, 65028, 65029, 65030, 65031, 65032, 65033, 65034, 65035, 65036, 65037, 65038, 65039, 65279] : List Nat).all (fun x => nothingsL.contains x) = true := by decide
  have h2 : nothingsL.all (fun x => ([173, 847, 6150, 6155, 6156, 6157, 8203, 8204, 8205, 8288, 65024, 65025, 65026, 65027, 65028, 65029, 65030, 65031, 65032, 65033, 65034, 65035, 65036, 65037, 65038, 65039, 65279] : List Nat).contains x) = true := by decide
  exact ⟨fun h => List.contains_iff_mem.mp (List.all_eq_true.mp h1 c h), fun h => List.contains_iff_mem.mp (List.all_eq_true.mp h2 c h)⟩
theorem b1_self {c : Nat} (h : c ∈ selfL) : b1 c = false := by
  have : selfL.all (fun x => !b1 x) = true := by decide
  simpa using List.all_eq_true.mp this c h
end Mine

end
section
open PySem PySem.W PySem.Calls PyProof.Rows PySem.Builtin PySem.Builtin.Str
set_option Elab.async false
set_option maxRecDepth 100000
namespace Mine
def fl (l : List Nat) : List Nat := (l.map fold).flatten
theorem fl_nil : fl [] = [] := rfl
theorem fl_cons (a : Nat) (l : List Nat) : fl (a :: l) = fold a ++ fl l := rfl
theorem fl_app (a b : List Nat) : fl (a ++ b) = fl a ++ fl b := by unfold fl; rw [List.map_append, List.flatten_append]
theorem prep_fl (t : List Nat) : prep t = fl (leftL t) := by
  unfold prep fl leftL keep
  simp only [b1_nt]
theorem fl_self : ∀ {l : List Nat}, (∀ x ∈ l, x ∈ selfL) → fl l = l
  | [], _ => rfl
  | a :: r, h => by
    rw [fl_cons, fold_self (h a (by simp)), fl_self fun x hx => h x (List.mem_cons_of_mem _ hx)]
    rfl
theorem leftL_app (a b : List Nat) : leftL (a ++ b) = leftL a ++ leftL b := List.filter_append ..
theorem leftL_self {l : List Nat} (h : ∀ x ∈ l, x ∈ selfL) : leftL l = l := List.filter_eq_self.mpr fun x hx => by rw [← b1_nt, b1_self (h x hx)]; rfl
theorem prep_app (a b : List Nat) : prep (a ++ b) = prep a ++ prep b := by rw [prep_fl, prep_fl, prep_fl, leftL_app, fl_app]
theorem prep_self {l : List Nat} (h : ∀ x ∈ l, x ∈ selfL) : prep l = l := by rw [prep_fl, leftL_self h, fl_self h]
theorem head_app {a b : List Nat} (h : a ≠ []) : (a ++ b).head? = a.head? := by
  cases a with
  | nil => exact absurd rfl h
  | cons => rfl
theorem last_app {a b : List Nat} (h : b ≠ []) : (a ++ b).getLast? = b.getLast? := by
  rw [List.getLast?_append]
  cases e : b.getLast? with
  | none => exact absurd (List.getLast?_eq_none_iff.mp e) h
  | some => rfl
theorem fold_ne (c : Nat) : fold c ≠ [] := by
  by_cases h : c ∈ selfL
  · rw [fold_self h]; simp
  · by_cases h2 : c = 890
    · subst h2; rw [fold_890]; simp
    · exact (fold_else h h2).1
/-- the last sign's folding ends with none of the blanks -/
theorem fold_last {c : Nat} (h : bl c = false) {y : Nat} (hy : (fold c).getLast? = some y) : bl y = false := by
  by_cases h1 : c ∈ selfL
  · rw [fold_self h1] at hy
    simp only [List.getLast?_singleton, Option.some.injEq] at hy
    subst hy; exact h
  · by_cases h2 : c = 890
    · subst h2
      rw [fold_890] at hy
      simp only [List.getLast?_cons_cons, List.getLast?_singleton, Option.some.injEq] at hy
      subst hy; decide
    · exact bl_not ((fold_else h1 h2).2 y (List.mem_of_getLast? hy))
theorem fold_head {c : Nat} (h : bl c = false) (h2 : c ≠ 890) {y : Nat} (hy : (fold c).head? = some y) : bl y = false := by
  by_cases h1 : c ∈ selfL
  · rw [fold_self h1] at hy
    simp only [List.head?_cons, Option.some.injEq] at hy
    subst hy; exact h
  · exact bl_not ((fold_else h1 h2).2 y (List.mem_of_mem_head? hy))
theorem fl_last : ∀ {l : List Nat} {c y : Nat}, l.getLast? = some c → bl c = false → (fl l).getLast? = some y → bl y = false
  | [], _, _, h, _, _ => by simp at h
  | [a], c, y, h, hb, hy => by
    simp only [List.getLast?_singleton, Option.some.injEq] at h
    subst h
    rw [fl_cons, fl_nil, List.append_nil] at hy
    exact fold_last hb hy
  | a :: b :: r, c, y, h, hb, hy => by
    rw [List.getLast?_cons_cons] at h
    rw [fl_cons, last_app] at hy
    · exact fl_last h hb hy
    · rw [fl_cons]
      intro e
      exact fold_ne b (List.append_eq_nil_iff.mp e).1
/-- a core, folded -/
theorem core_fl {t p c q : List Nat} (h : Core t p c q) : ∃ p' c', Core (fl t) p' c' q ∧ p'.length = p.length + (if c.head? = some 890 then 1 else 0) := by
  have hp := fl_self (l := p) fun x hx => bl_self (h.lo x hx)
  have hq := fl_self (l := q) fun x hx => bl_self (h.hi x hx)
  have e : fl t = p ++ fl c ++ q := by rw [h.eq, fl_app, fl_app, hp, hq]
  cases c with
  | nil => exact ⟨p, [], ⟨by rw [e]; rfl, h.lo, h.hi, by simp, by simp⟩, by simp⟩
  | cons a r =>
    have ha : bl a = false := h.hd a rfl
    have hl : ∀ y, (fl (a :: r)).getLast? = some y → bl y = false := fun y hy => by
      have : (a :: r).getLast? = some ((a :: r).getLast (by simp)) := List.getLast?_eq_some_getLast (by simp)
      exact fl_last this (h.la _ this) hy
    by_cases h2 : a = 890
    · subst h2
      refine ⟨p ++ [32], 953 :: fl r, ⟨?_, ?_, h.hi, ?_, ?_⟩, by simp⟩
      · rw [e, fl_cons, fold_890]; simp
      · intro x hx
        rcases List.mem_append.mp hx with hx | hx
        · exact h.lo x hx
        · rw [List.mem_singleton] at hx; subst hx; decide
      · intro x hx
        simp only [List.head?_cons, Option.some.injEq] at hx
        subst hx; decide
      · intro x hx
        refine hl x ?_
        rw [fl_cons, fold_890]
        show (32 :: 953 :: fl r).getLast? = _
        rw [List.getLast?_cons_cons]; exact hx
    · refine ⟨p, fl (a :: r), ⟨e, h.lo, h.hi, fun x hx => ?_, hl⟩, by simp [h2]⟩
      rw [fl_cons, head_app (fold_ne a)] at hx
      exact fold_head ha h2 hx
theorem shield_len (x : List Nat) : ((prep x).length : Int) = ((bare (prep x)).length : Nat) + shI x := by
  have h := core_trim (leftL x)
  obtain ⟨p', c', h', hp⟩ := core_fl h
  rw [prep_fl, bare_core h', sh_core h]
  have e : (fl (leftL x)).length = p'.length + c'.length + ((((leftL x).dropWhile bl).reverse.takeWhile bl).reverse).length := by
    have := congrArg List.length h'.eq
    rw [List.length_append, List.length_append] at this
    exact this
  rw [e, hp]
  split <;> simp only [Int.natCast_add] <;> omega
theorem trim_pad {p m q : List Nat} (hp : ∀ x ∈ p, bl x = true) (hq : ∀ x ∈ q, bl x = true) : trim (p ++ m ++ q) = trim m := by
  have h := core_trim m
  refine core_uniq (p := p ++ m.takeWhile bl) (q := ((m.dropWhile bl).reverse.takeWhile bl).reverse ++ q) ⟨?_, ?_, ?_, h.hd, h.la⟩
  · conv => lhs; rw [h.eq]
    simp only [List.append_assoc]
  · intro x hx
    rcases List.mem_append.mp hx with hx | hx
    · exact hp x hx
    · exact h.lo x hx
  · intro x hx
    rcases List.mem_append.mp hx with hx | hx
    · exact h.hi x hx
    · exact hq x hx
theorem told_bare (P : List Nat) : trim (prep P) = bare (prep (trim P)) := by
  have h := core_trim P
  have e : prep P = P.takeWhile bl ++ prep (trim P) ++ ((P.dropWhile bl).reverse.takeWhile bl).reverse := by
    conv => lhs; rw [h.eq]
    rw [prep_app, prep_app, prep_self (l := P.takeWhile bl) fun x hx => bl_self (h.lo x hx), prep_self (l := ((P.dropWhile bl).reverse.takeWhile bl).reverse) fun x hx => bl_self (h.hi x hx)]
  rw [e, trim_pad h.lo h.hi, trim_bare]
theorem prep_eq_sign (t : List Nat) : 61 ∈ prep t ↔ 61 ∈ t := by
  constructor
  · intro h
    unfold prep at h
    obtain ⟨l, hl, hm⟩ := List.mem_flatten.mp h
    obtain ⟨c, hc, rfl⟩ := List.mem_map.mp hl
    have hct := (List.mem_filter.mp hc).1
    by_cases h1 : c ∈ selfL
    · rw [fold_self h1, List.mem_singleton] at hm
      rw [hm]; exact hct
    · by_cases h2 : c = 890
      · subst h2; rw [fold_890] at hm; simp at hm
      · exact absurd (by simp [selfL]) ((fold_else h1 h2).2 61 hm)
  · intro h
    unfold prep
    refine List.mem_flatten.mpr ⟨fold 61, List.mem_map.mpr ⟨61, List.mem_filter.mpr ⟨h, by decide⟩, rfl⟩, ?_⟩
    rw [fold_self (by simp [selfL])]; simp
theorem cut_app {a b : List Nat} (h : 61 ∉ a) : cut 61 (a ++ 61 :: b) = a.length := by
  unfold cut
  induction a with
  | nil => rfl
  | cons x r ih =>
    have hx : (x != 61) = true := by
      have : x ≠ 61 := fun e => h (by simp [e])
      simpa using this
    rw [List.cons_append, List.takeWhile_cons, if_pos hx, List.length_cons, ih fun hm => h (List.mem_cons_of_mem _ hm), List.length_cons]
theorem cut_not {l : List Nat} : 61 ∉ l.take (cut 61 l) := by
  intro h
  obtain ⟨i, hi, e⟩ := List.getElem_of_mem h
  rw [List.length_take] at hi
  rw [List.getElem_take] at e
  have := cut_first (c := 61) (l := l) (k := i) (by omega)
  rw [List.getElem?_eq_getElem (by omega), e] at this
  exact this rfl
theorem cut_split {l : List Nat} (h : 61 ∈ l) : l = l.take (cut 61 l) ++ 61 :: l.drop (cut 61 l + 1) := by
  have e := cut_at h
  obtain ⟨hlt, e2⟩ := List.getElem?_eq_some_iff.mp e
  conv => lhs; rw [← List.take_append_drop (cut 61 l) l]
  rw [List.drop_eq_getElem_cons hlt, e2]
/-- the prepared text's pieces are the pieces, prepared -/
theorem prep_pieces {l : List Nat} (h : 61 ∈ l) : (prep l).take (cut 61 (prep l)) = prep (l.take (cut 61 l)) ∧ (prep l).drop (cut 61 (prep l) + 1) = prep (l.drop (cut 61 l + 1)) := by
  have e : prep l = prep (l.take (cut 61 l)) ++ 61 :: prep (l.drop (cut 61 l + 1)) := by
    conv => lhs; rw [cut_split h]
    rw [prep_app, show (61 :: l.drop (cut 61 l + 1)) = [61] ++ l.drop (cut 61 l + 1) from rfl, prep_app, prep_self (l := [61]) (by intro x hx; rw [List.mem_singleton] at hx; subst hx; simp [selfL])]
    rfl
  have hn : 61 ∉ prep (l.take (cut 61 l)) := fun hm => cut_not ((prep_eq_sign _).mp hm)
  rw [e, cut_app hn]
  exact ⟨by rw [List.take_left'] ; rfl, by
    rw [show prep (l.take (cut 61 l)) ++ 61 :: prep (l.drop (cut 61 l + 1)) = (prep (l.take (cut 61 l)) ++ [61]) ++ prep (l.drop (cut 61 l + 1)) by simp]
    rw [List.drop_left']; simp⟩
end Mine

end
section
open PySem PySem.W PySem.Calls PyProof.Rows PySem.Builtin PySem.Builtin.Str
set_option Elab.async false
set_option maxRecDepth 100000
namespace Mine
theorem strSub_tx' (l : List Nat) (i j : Nat) : strSub (tx l) i j = tx ((l.take j).drop i) := by
  show (⟨l.toArray.extract i j⟩ : Str) = ⟨_⟩
  congr 1
  apply Array.ext'
  simp [List.extract_eq_take_drop, List.drop_take]
theorem drop_tw (f : Nat → Bool) : ∀ l : List Nat, l.drop (l.takeWhile f).length = l.dropWhile f
  | [] => rfl
  | a :: r => by
    rw [List.takeWhile_cons, List.dropWhile_cons]
    split
    · rw [List.length_cons, List.drop_succ_cons, drop_tw f r]
    · rfl
theorem strip_tx (l : List Nat) : Txt.strip (tx l) = tx (trim l) := by
  have e0 : Unicode.isSpace = bl := funext space_iff
  have h := core_trim l
  show Txt.stripBy Unicode.isSpace true true (tx l) = _
  rw [PyProof.Rows.stripBy_eq, e0, strSub_tx']
  have e1 : stripLo bl true (tx l) = (l.takeWhile bl).length := rfl
  have e2 : stripHi bl true (tx l) (l.takeWhile bl).length = l.length - (((l.dropWhile bl).reverse.takeWhile bl).reverse).length := by
    show l.length - ((l.drop (l.takeWhile bl).length).reverse.takeWhile bl).length = _
    rw [drop_tw, List.length_reverse]
  rw [e1, e2]
  have e3 : l.length - (((l.dropWhile bl).reverse.takeWhile bl).reverse).length = (l.takeWhile bl ++ trim l).length := by
    have := congrArg List.length h.eq
    rw [List.length_append] at this
    omega
  rw [e3]
  have key : ∀ (m p c q : List Nat), m = p ++ c ++ q → tx ((m.take (p ++ c).length).drop p.length) = tx c := by
    rintro _ p c q rfl
    rw [List.take_left, List.drop_left]
  exact key _ _ _ _ h.eq
end Mine

end
section
open PySem PySem.W PySem.Calls PyProof.Rows PySem.Builtin PySem.Builtin.Str
set_option Elab.async false
set_option maxRecDepth 100000
namespace Mine
/-- a new exception on its way out, over an earlier heap whose frames' names are left out -/
def Fly (outer : List Env) (h₀ : Heap) (e : Addr) (h : Heap) : Prop := (∃ a0, Heap.FlyingW (blank h₀ (spots outer)) outer e (.type "TypeError") a0 h) ∧ KH0 (spots outer) h₀ h
theorem kh_up {F : List Addr} {h₀ h h' : Heap} (k : KH0 F h₀ h) (hs : ∀ b o, b ∈ F → h₀.get? b = some o → ∀ vs, o.data ≠ .fields vs) (st : (blank h₀ F).StaysIn h') (up : h.UpToSlots h') : KH0 F h₀ h' := fun b o e => by
  have k1 := k b o e
  split
  · rename_i hb
    rw [if_pos hb] at k1
    obtain ⟨sl, k1⟩ := k1
    obtain ⟨sl2, e2⟩ := up b _ k1 (hs b o hb e)
    exact ⟨sl2, e2⟩
  · rename_i hb
    exact st b o (by rw [blank_out h₀ hb]; exact e)
section
variable {M : Model} {A : Around} {E : Value → Shared → Prop} {s : Shared}
theorem leaveN {h₀ h : Heap} {env : Env} {outer : List Env} {L e : Addr} {o : Obj} {Q : Unit → Shared → Prop} (hfr : A.frames = some (env :: outer)) (hk : env.scope.kind ≠ .module) (hf : env.frame = some L)
    (hL : h.get? L = some o) (hLd : ∀ vs, o.data ≠ .fields vs) (hL0 : h₀.get? L = none) (hS : Stands h₀ outer) (k : ∀ b o, h₀.get? b = some o → h.get? b = some o) (hx : Heap.NewExc h s.heap e "TypeError")
    (hQ : ∀ h', Fly outer h₀ e h' → Q () { s with heap := h' }) : wpAny M A (leaving env (.ref e)) Q E s := by
  have none0 : ∀ b, h₀.get? b = none → (blank h₀ (spots outer)).get? b = none := fun b hb => by
    by_cases hm : b ∈ spots outer
    · exact blank_in h₀ hm
    · rw [blank_out h₀ hm]; exact hb
  have k2 : ∀ b o, h₀.get? b = some o → s.heap.get? b = some o := fun b o eb => hx.keeps b o (k b o eb)
  have he0 : h₀.get? e = none := by
    cases q : h₀.get? e with
    | none => rfl
    | some o' => have := k e o' q; rw [hx.new] at this; cases this
  have hst : (blank h₀ (spots outer)).StaysIn s.heap := fun b o eb => k2 b o (blank_stays h₀ _ b o eb)
  have hfun : s.heap.FunFrames (blank h₀ (spots outer)) (env :: outer) := by
    refine ⟨hk, ⟨L, o, hf, none0 L hL0, hx.keeps _ _ hL, hLd⟩, ?_⟩
    have := stands_fun (F := spots outer) hS fun L hL => hL
    exact this.of_keeps fun b o eb _ => ⟨o, k2 b o eb, rfl⟩
  obtain ⟨ob, tp, he, hcls, hd⟩ := hx.there
  refine wpAny_leaving_firstW (a0 := _) hfr hfun hf he hst (none0 e he0) hd rfl rfl fun h' hl => ?_
  obtain ⟨x1, ⟨_, _, x2⟩, x3, x4⟩ := hl
  refine hQ h' ⟨⟨_, x1, none0 e he0, x2, by rw [← hcls]; exact x3⟩, fun b o eb => ?_⟩
  split
  · rename_i hb
    exact x4 b o (k2 b o eb) (stands_spot hS b o hb eb)
  · rename_i hb
    exact x1 b o (by rw [blank_out h₀ hb]; exact eb)
end
section
variable {w : World} {A : Around} {E : Value → Shared → Prop} {s : Shared}
theorem attr_ty {T : String} {name : Str} {v : Value} {Q : Value → Shared → Prop} (X : IK w s.heap) (ht : typeOf (.type T) = pure (.type "type")) (hs : Manifest.isStub T = false)
    (e : findCls (KH w.params) (.type T) (.type "type") name = some (.val v)) (hh : handedIn v = true) (h : Q v { s with toks := s.toks + 1 }) : wpAny (model pw w) A (getAttr (.type T) name true) Q E s := by
  have L0 : Looks (model pw w) s.heap (typeOf (.type T)) (.type "type") := Looks.of_pure ht
  have hg : findIn (KH w.params) (.type "type") "__getattribute__" = some (some (.builtin "type.__getattribute__")) := type_tga
  refine cls_open (x_in X) (Looks.of_pure (by unfold opaqueClassAbove; dsimp only; rw [hs]; rfl)) L0 hg (looks_hook (x_in X) (r := none) (by rfl)) (by show subIn _ _ _ = _; rfl) e ?_
  refine wpAny_pure ?_
  exact handed_on hh h
/-- a map of strip over the pieces, starred -/
theorem star_map {I T J D : Addr} {ys : Array Value} {ls : List (List Nat)} {s₀ : Shared} {Q : List Value → Shared → Prop} (hh : A.handled = none) (m : IsMap s.heap I T J D "str.strip" ys 0) (hJ : s₀.heap.get? J = none) (nI : J ≠ I) (nT : J ≠ T) (nD : J ≠ D)
    (hp : Paired IsTx ls ys.toList) (hl : ∀ l ∈ ls, l.length ≤ 1000) (hn : ys.size ≤ 1000) (k : Keeps s₀ s) (hq : ∀ vs s', Keeps s₀ s' → Paired IsTx (ls.map trim) vs → Q vs s') :
    wpAny (model pw w) A (notIterableAtAll (.ref I)) (fun b s₂ => b = false ∧ wpAny (model pw w) A (collect (.ref I)) Q E s₂) E s := by
  have hT : s.TypeIs (.ref I) "map" := ⟨_, m.m, rfl⟩
  unfold notIterableAtAll
  refine wpAny_bind (wpAny_specialOf hT slot_map_iter.lookup ?_)
  refine wpAny_pure ⟨rfl, ?_⟩
  have bnd : ∀ {b : Addr} {o : Obj}, s.heap.get? b = some o → b < s.heap.objs.size := fun e => Heap.lt_size e
  refine collect_map (I := I) (fp := [I, T, J, D]) (wr := [J]) (n := ys.size) (P := fun i v => ∃ a, ls[i]? = some a ∧ IsTx (trim a) v) (St := fun i h => AtMap I T J D "str.strip" ys i h)
    (Walks_map (A := A.in1) hh I T J D "str.strip" ys _ ?_) (fun i h x => ⟨_, x.M.m, rfl⟩) ⟨m, nI, nT, nD⟩ ?_ (by simp) (Nat.le_trans hn (by decide)) ?_
  · intro i x hx s₁ Q' E' A' hQ
    obtain ⟨a, ha, u, rfl⟩ := prd_at hp i x (by simpa using hx)
    have hlen := hl a (List.mem_of_getElem? ha)
    refine SC.strip ?_ ?_
    · intro t' k'
      rw [strip_tx]
      exact hQ _ _ ⟨a, ha, t', rfl⟩ (kp_tok s₁ k')
    · show a.length ≤ _
      exact Nat.le_trans hlen (by decide)
  · intro b hb
    obtain ⟨o1, j, _⟩ := m.j
    obtain ⟨o2, l2, _⟩ := m.l
    simp only [List.mem_cons, List.not_mem_nil, or_false] at hb
    rcases hb with rfl | rfl | rfl | rfl
    · exact bnd m.m
    · exact bnd m.t
    · exact bnd j
    · exact bnd l2
  · rintro s' acc ⟨h', tk, rfl, kk⟩ ⟨hz, hi⟩
    refine hq _ _ ?_ ?_
    · obtain ⟨h1, t1, rfl, k1⟩ := k
      refine ⟨h', tk, rfl, fun b o e => kk b o ?_ (k1 b o e)⟩
      simp only [List.mem_singleton]
      rintro rfl
      rw [hJ] at e; cases e
    · have len : ys.size = ls.length := by rw [← prd_len hp]; simp
      have gen : ∀ (ls : List (List Nat)) (vs : List Value), vs.length = ls.length → (∀ (j : Nat) (v : Value), vs[j]? = some v → ∃ a, ls[j]? = some a ∧ IsTx (trim a) v) → Paired IsTx (ls.map trim) vs := by
        intro ls
        induction ls with
        | nil => intro vs hv _; cases vs with
          | nil => exact .nil
          | cons => cases hv
        | cons a r ih => intro vs hv hj; cases vs with
          | nil => cases hv
          | cons v q =>
            obtain ⟨a', e1, e2⟩ := hj 0 v rfl
            cases e1
            exact .cons e2 (ih q (by simpa using hv) fun j v e => hj (j + 1) v (by simpa using e))
      exact gen ls acc.toList (by simp [hz, len]) fun j v e => hi j v (by simpa using e)
end
end Mine

end
section
open PySem PySem.W PySem.Calls PyProof.Rows PySem.Builtin PySem.Builtin.Str
set_option Elab.async false
set_option maxRecDepth 100000
namespace Mine
section
variable {w : World} {A : Around} {s : Shared}
theorem nameC {M : Model} {E : Value → Shared → Prop} {env : Env} {id : Str} {p pos : Pos} {args : List Expr} {Q : Value → Shared → Prop} (h : wpAny M A (eval (.Name id p) env) (fun f s₁ => wpC M A (callWith pos f [] (backTo pos (starEach args env)) []) Q E s₁) E s) :
    wpC M A (eval (.Call (.Name id p) args [] pos) env) Q E s := by
  show wpC M A (do callWith pos (← eval (.Name id p) env) [] (backTo pos (starEach args env)) (backToKw pos (keywordEach [] env))) Q E s
  exact wpC_bindA h
theorem args_init (n : Nat) (vs : List Value) (hn : vs.length = n) (h2 : n = 2) : ∀ x, argsOk "object.__init__" ⟨x :: vs, []⟩ := by
  subst h2
  intro x
  match vs, hn with
  | [a, b], _ => exact F.args_object_init_3 x a b
theorem split1' {E : Value → Shared → Prop} {Q : Value → Shared → Prop} {l : List Nat} {t u v : Tok} {y : Str} (hy : y = ⟨#[61]⟩) (hl : l.length ≤ 1000) (hq : ∀ D s' ys, Keeps s s' → s.heap.get? D = none → s'.heap.PlainList D ys → Paired IsTx (partsL l) ys.toList → Q (.ref D) s') :
    wpAny (model pw w) A (call (.builtin "str.split") [.str (tx l) t, .str y u, .int 1 v]) Q E s := by
  subst hy
  exact call_split1 hl hq
/-- Pair.parse -/
theorem parseC {l : List Nat} {t : Tok} {outer : List Env} {R : Result → Shared → Prop} (X : IK w s.heap) (hd : A.depth + 3 < recursionLimit) (hh : A.handled = none) (hl : l.length ≤ 1000) (hfr : A.frames = some outer) (hS : Stands s.heap outer)
    (h1 : 61 ∈ l → ∀ x s', Keeps s s' → s.heap.get? x = none → IsPair s'.heap x (trim (l.take (cut 61 l))) (trim (l.drop (cut 61 l + 1))) → R (.ok (.ret (.ref x))) s')
    (h2 : 61 ∉ l → ∀ e h' tk, Fly outer s.heap e h' → R (.error (.ref e)) { s with heap := h', toks := tk }) :
    codeC (model pw w) A (.call (.ref 213) ⟨[.ref 219, .str (tx l) t], []⟩) R s := by
  refine callFC (o := o213 w.params) (binds := [(u "cls", .ref 219), (u "text", .str (tx l) t)]) X (by omega) (by kernel_rfl) rfl (by kernel_rfl) rfl (by kernel_rfl) rfl (by kernel_rfl) (by kernel_rfl) (by kernel_rfl) (by kernel_rfl) fun s₁ f => ?_
  refine consC ?_
  refine retC ?_
  refine nameC ?_
  refine nm_l f (v := .ref 219) (by kernel_rfl) ?_ rfl (by kernel_rfl) (by decide)
  refine cwStarC (w := w) ?_
  refine evalArgs_star ?_
  rw [if_pos rfl]
  refine wpAny_bind ?_
  refine Call_Name2 ?_ ?_
  rotate_left
  · rfl
  refine nm_b (v := .type "map") f.ik (by kernel_rfl) (by kernel_rfl) ?_ rfl (by kernel_rfl) rfl rfl (by decide)
  refine PySem.callWith_type ?_ ?_
  · rfl
  refine evalArgs_plain ?_
  refine spliced_cons ?_
  refine Attribute_name ?_
  refine nm_b (v := .type "str") f.ik (by kernel_rfl) (by kernel_rfl) ?_ rfl (by kernel_rfl) rfl rfl (by decide)
  with_reducible refine attr_ty (v := .builtin "str.strip") f.ik ?_ ?_ ?_ ?_ ?_
  · rfl
  · decide +kernel
  · kernel_rfl
  · kernel_rfl
  have f2 := f.next (kp_tok s₁ (s₁.toks + 1))
  refine spliced_cons ?_
  refine mcall ?_ ?_ ?_ ?_
  iterate 3 kernel_rfl
  refine nm_l f2 (v := .str (tx l) t) (by kernel_rfl) ?_ rfl (by kernel_rfl) (by decide)
  intro pl
  refine GM.split ?_
  refine cw_bs ?_ ?_ ?_
  iterate 2 kernel_rfl
  refine spliced_more ?_
  refine wpAny_Constant_str ?_
  refine spliced_more ?_
  refine wpAny_Constant_int ?_
  refine spliced_none ?_
  have f3 := f2.next (kp_tok { s₁ with toks := s₁.toks + 1 } (s₁.toks + 1 + 1 + 1))
  refine split1' ?_ hl ?_
  · rfl
  intro D s₄ ys k4 _ hD hp
  have f4 := f3.next k4
  refine spliced_nil ?_
  refine call_map hD ?_
  intro I T J s₅ k5 m5 hJ hI hT nJI
  have f5 := f4.next k5
  refine wpAny_bind (wpAny_standAt (wpAny_pure ?_))
  have nJT : J ≠ T := by
    rintro rfl
    obtain ⟨o, e, c, _⟩ := m5.j
    rw [m5.t] at e
    cases e
    exact absurd c (by intro q; injection q with q; revert q; decide)
  have nJD : J ≠ D := by
    rintro rfl
    obtain ⟨n, e⟩ := hD
    rw [hJ] at e
    cases e
  have hys : ys.size ≤ 1000 := by
    have : ys.size = (partsL l).length := prd_len hp
    rw [this]
    unfold partsL
    split <;> simp
  have hlp : ∀ x ∈ partsL l, x.length ≤ 1000 := by
    intro x hx
    unfold partsL at hx
    split at hx
    · rcases List.mem_cons.mp hx with rfl | hx
      · rw [List.length_take]; omega
      · rw [List.mem_singleton] at hx
        subst hx
        rw [List.length_drop]; omega
    · rw [List.mem_singleton] at hx
      subst hx; exact hl
  refine star_map (s₀ := s₄) hh m5 hJ nJI nJT nJD hp hlp hys k5 ?_
  intro vs s₆ k6 hv
  have f6 := f4.next k6
  refine ⟨f6.ik, ?_⟩
  dsimp only
  by_cases hm : 61 ∈ l
  · have hv2 : Paired IsTx [trim (l.take (cut 61 l)), trim (l.drop (cut 61 l + 1))] vs := by
      unfold partsL at hv
      rw [if_pos hm] at hv
      exact hv
    refine wpC_any ?_
    refine wpAny_call ?_
    obtain ⟨va, vb, rfl, ha, hb⟩ : ∃ va vb, vs = [va, vb] ∧ IsTx (trim (l.take (cut 61 l))) va ∧ IsTx (trim (l.drop (cut 61 l + 1))) vb := by
      cases hv2 with
      | cons a b => cases b with
        | cons b c => cases c; exact ⟨_, _, rfl, a, b⟩
    obtain ⟨h6, g6, d6, t6, os6⟩ := s₆
    refine pair_call (a₀ := va) (rest₀ := [vb]) f6.ik rfl (args_init 2 [va, vb] rfl rfl) ?_
    intro A' t' hd' hh' hu'
    have f7 := f6.next (kp_tok _ t')
    have hdA : A'.depth < recursionLimit := by
      have : (A.deeper (callEnvC (match (o213 w.params).data with | .func fd => fd | _ => default) s.heap.objs.size 213)).depth = A.depth + 1 := rfl
      have h2 : A'.depth ≤ A.depth + 1 + 1 := hd'
      omega
    refine call_new2 (s := ⟨h6, g6, d6, t', os6⟩) f7.ik hdA ha hb ?_
    intro x s' k7 hx hpair
    have f8 := f7.next k7
    obtain ⟨dx, va', vb', hx', hdx, ha', hb'⟩ := id hpair
    refine ⟨_, x, rfl, hx', rfl, rfl, f8.ik, ?_⟩
    exact h1 hm x s' f8.keeps (none_back f7.keeps hx) hpair
  · have hv2 : Paired IsTx [trim l] vs := by
      unfold partsL at hv
      rw [if_neg hm] at hv
      exact hv
    obtain ⟨va, rfl⟩ : ∃ va, vs = [va] := by
      cases hv2 with
      | cons a b => cases b; exact ⟨_, rfl⟩
    refine wpC_call ?_
    obtain ⟨h6, g6, d6, t6, os6⟩ := s₆
    refine pair1C f6.ik hh ?_
    intro h' tk e hx
    have ns := f6.F.toInCall.ns
    obtain ⟨oL, es, ep, hoL, hdL, _⟩ := ns
    have kk := f6.keeps
    obtain ⟨h7, t7, e7, k7⟩ := kk
    cases e7
    dsimp only
    refine leaveN (h₀ := s.heap) (h := h6) (outer := outer) (L := s.heap.objs.size) (o := oL) (Around.frames_deeper hfr) ?_ rfl hoL ?_ (none_new _ (Nat.le_refl _)) hS k7 hx ?_
    · intro q; cases q
    · intro vs q; rw [hdL] at q; cases q
    intro h8 fly
    exact h2 hm e h8 tk fly
end
end Mine

end
section
open PySem PySem.W PySem.Calls PyProof.Rows PySem.Builtin PySem.Builtin.Str
set_option Elab.async false
set_option maxRecDepth 100000
namespace Mine
/-- no frame's names lie where the top's objects lie -/
def Free (w : World) (l : List Env) : Prop := ∀ L ∈ spots l, (KH w.params).lookup L = none
theorem ik_kh {w : World} {F : List Addr} {h h' : Heap} (X : IK w h) (k : KH0 F h h') (hf : ∀ L ∈ F, (KH w.params).lookup L = none) : IK w h' := fun a o e => by
  have k1 := k a o (X a o e)
  by_cases hm : a ∈ F
  · rw [hf a hm] at e; cases e
  · rw [if_neg hm] at k1; exact k1
theorem ik_fresh {w : World} {h : Heap} (X : IK w h) {a : Addr} (ha : h.get? a = none) : (KH w.params).lookup a = none := by
  cases e : (KH w.params).lookup a with
  | none => rfl
  | some o => rw [X a o e] at ha; cases ha
theorem kh_of {F : List Addr} {s s' : Shared} (k : KX F s s') : KH0 F s.heap s'.heap := by
  obtain ⟨h, t, rfl, k⟩ := k; exact k
theorem ik_kx {w : World} {F : List Addr} {s s' : Shared} (X : IK w s.heap) (k : KX F s s') (hf : ∀ L ∈ F, (KH w.params).lookup L = none) : IK w s'.heap := ik_kh X (kh_of k) hf
theorem spots_cons {env : Env} {outer : List Env} {L : Addr} (hf : env.frame = some L) : spots (env :: outer) = L :: spots outer := by
  unfold spots; rw [List.filterMap_cons, hf]
section
variable {M : Model} {w : World} {A : Around} {E : Value → Shared → Prop} {s : Shared}
theorem method_callC {p : Addr} {f self : Value} {pos : List Value} {kw : List (Str × Value)} {R : Result → Shared → Prop} (ho : s.heap.get? p = some (methodObj f self))
    (h : codeC (model pw w) A (.call f ⟨self :: pos, kw⟩) R s) : codeC (model pw w) A (.call (.ref p) ⟨pos, kw⟩) R s := by
  obtain ⟨hh, g, dr, t, os⟩ := s
  refine codeC_of_tree ?_
  show wpC _ _ (callAny (.ref p) _) _ _ _
  dsimp only at ho
  simp only [callAny]
  refine wpC_bindA (wpAny_load ho ?_)
  cases f <;> exact wpC_pure ⟨rfl, h⟩
theorem kx_drop {s s₂ : Shared} {h : Heap} {tk : Nat} {L : Addr} {env : Env} {outer : List Env} (hf : env.frame = some L) (hL : s.heap.get? L = none) (k : Keeps s s₂) (k2 : KH0 (spots (env :: outer)) s₂.heap h) : KX (spots outer) s { s₂ with heap := h, toks := tk } := by
  obtain ⟨h₂, t₂, rfl, k⟩ := k
  refine ⟨h, tk, rfl, fun b o e => ?_⟩
  have k3 := k2 b o (k b o e)
  rw [spots_cons hf] at k3
  have hb : b ≠ L := by rintro rfl; rw [hL] at e; cases e
  by_cases hm : b ∈ spots outer
  · rw [if_pos (List.mem_cons_of_mem _ hm)] at k3
    rw [if_pos hm]; exact k3
  · rw [if_neg (by simp only [List.mem_cons, not_or]; exact ⟨hb, hm⟩)] at k3
    rw [if_neg hm]; exact k3
/-- the exception caught: noted, landed, its clause found -/
theorem caughtC {env : Env} {outer : List Env} {h₀ : Heap} {L e : Addr} {t : Expr} {b₀ : Stmt} {suite : List Stmt} {pos : Pos} {rest : List ExceptHandler} {Q : Flow → Shared → Prop}
    (hfr : A.frames = some (env :: outer)) (hf : env.frame = some L) (hS : Stands h₀ (env :: outer)) (fly : Fly (env :: outer) h₀ e s.heap)
    (ht : ∀ h' K E', KH0 (spots (env :: outer)) h₀ h' → K (.type "TypeError") { s with heap := h' } → wpAny (model pw w) (A.mark (some (.ref e))) (eval t env) K E' { s with heap := h' })
    (hk : ∀ h' E', KH0 (spots (env :: outer)) h₀ h' → wpAny (model pw w) (A.mark (some (.ref e))) (execs (b₀ :: suite) env) Q E' { s with heap := h' }) :
    wpAny (model pw w) A (noteFrame (.ref e) env) (fun _ s₂ => wpAny (model pw w) A (setFlight (.ref e) none) (fun _ s₃ => wpAny (model pw w) A (handleBy (.ref e) env (.ExceptHandler (some t) none (b₀ :: suite) pos :: rest)) Q E s₃) E s₂) E s := by
  obtain ⟨⟨a0, fl⟩, k0⟩ := fly
  have hs := stands_spot hS
  refine wpAny_looks_onW hfr hf fl fun h₄ held u₄ => ?_
  have k4 := kh_up k0 hs held.1 u₄
  refine wpAny_landsW (s := { s with heap := h₄ }) held fun h₅ fl₅ u₅ => ?_
  have k5 := kh_up k4 hs fl₅.1 u₅
  refine wpAny_handleBy_builtin (X := "TypeError") (T := "TypeError") (b := true) (by rw [isSubtype_type]; kernel_rfl) (by rw [isSubtype_type]; kernel_rfl) (by rw [isSubtype_type]; kernel_rfl) ?_
  refine ht h₅ _ _ k5 ⟨rfl, fl₅.there, ?_⟩
  rw [if_pos rfl]
  refine lands_againW (s := { s with heap := h₅ }) fl₅ fun h₆ fl₆ u₆ => ?_
  exact hk h₆ _ (kh_up k5 hs fl₆.1 u₆)
end
end Mine

end
section
open PySem PySem.W PySem.Calls PyProof.Rows PySem.Builtin PySem.Builtin.Str
set_option Elab.async false
set_option maxRecDepth 100000
namespace Mine
theorem stands_cons {env : Env} {outer : List Env} {h h' : Heap} {L : Addr} {m : Str → Option Value} (hk : env.scope.kind ≠ .module) (hf : env.frame = some L) (hn : h'.Ns L m) (hS : Stands h outer) (k : ∀ b o, h.get? b = some o → h'.get? b = some o) : Stands h' (env :: outer) := by
  obtain ⟨o, es, ep, ho, hd, _⟩ := hn
  exact ⟨hk, ⟨L, o, hf, ho, fun vs q => by rw [hd] at q; cases q⟩, stands_keeps k hS⟩
theorem free_cons {w : World} {env : Env} {outer : List Env} {L : Addr} (hf : env.frame = some L) (h1 : (KH w.params).lookup L = none) (hF : Free w outer) : Free w (env :: outer) := by
  intro b hb
  rw [spots_cons hf] at hb
  rcases List.mem_cons.mp hb with rfl | hb
  · exact h1
  · exact hF b hb
section
variable {w : World} {A : Around} {s : Shared}
theorem evalArgs_b1 {M : Model} {E : Value → Shared → Prop} {f : Value} {e : Expr} {env : Env} {pos : Pos} {Q : Args → Shared → Prop} (he : starEach [e] env = [(false, eval e env)]) (h : wpAny M A (eval e env) (fun v s₁ => Q ⟨[v], []⟩ s₁) E s) :
    wpAny M A (evalArgs f true (backTo pos (starEach [e] env)) []) Q E s := by
  rw [he]
  exact evalArgs_plain (spliced_cons (wpAny_mono h (fun v s₁ q => spliced_nil q) fun _ _ q => q))
/-- _law_parsed, its frame begun -/
theorem parsedC {l : List Nat} {t : Tok} {outer : List Env} {R : Result → Shared → Prop} (X : IK w s.heap) (hd : A.depth + 5 < recursionLimit) (hh : A.handled = none) (hl : l.length ≤ 1000) (hfr : A.frames = some outer) (hS : Stands s.heap outer) (hF : Free w outer)
    (h1 : 61 ∈ l → ∀ x s', Keeps s s' → s.heap.get? x = none → IsPair s'.heap x (trim (l.take (cut 61 l))) (trim (l.drop (cut 61 l + 1))) → R (.ok (.ret (.ref x))) s')
    (h2 : 61 ∉ l → ∀ s', KX (spots outer) s s' → R (.ok (.ret .none)) s') :
    codeC (model pw w) A (.call (.ref 251) ⟨[.str (tx l) t], []⟩) R s := by
  refine callFC (o := o251 w.params) (binds := [(u "text", .str (tx l) t)]) X (by omega) (by kernel_rfl) rfl (by kernel_rfl) rfl (by kernel_rfl) rfl (by kernel_rfl) (by kernel_rfl) (by kernel_rfl) (by kernel_rfl) fun s₁ f => ?_
  refine consC ?_
  refine TryC ?_
  refine consC ?_
  refine retC ?_
  refine methC ?_ ?_ ?_ ?_
  iterate 3 kernel_rfl
  refine nm_g f.ik (v := .ref 219) (by kernel_rfl) ?_ rfl (by kernel_rfl) rfl (by decide)
  intro pl
  refine method_cls (x_in f.ik) (by kernel_rfl) ?_
  with_reducible refine cls_bind (C := 219) (mc := .type "type") (g := .builtin "classmethod.__get__") (a := .ref 215) (obj := .none) (tp := .ref 219) (x_in f.ik) ?_ ?_ ?_
  · kernel_rfl
  · kernel_rfl
  have f2 := f.next (kp_tok s₁ (s₁.toks + 1))
  with_reducible refine wpAny_call ?_
  with_reducible refine cm_get (K := KH w.params) (f := .ref 213) (rest := [.bool false]) (x_in f2.ik) ?_ ?_
  · kernel_rfl
  have f3 := f2.next (kp_push (methodObj (.ref 213) (.ref 219)))
  have hm3 : (s₁.heap.push (methodObj (.ref 213) (.ref 219))).get? s₁.heap.objs.size = some (methodObj (.ref 213) (.ref 219)) := Heap.get?_push_size _ rfl
  show wpAny _ _ (handedOut (.ref s₁.heap.objs.size)) _ _ _
  refine handed_on ?_ ?_
  · rfl
  with_reducible refine cwC (P := fun h => MethP (KH w.params) s₁.heap.objs.size 213 (.ref 219) h) ?_ ?_ ?_
  · kernel_rfl
  · exact fun h x => keeps_M (by kernel_rfl) h x
  with_reducible refine evalArgs_b1 ?_ ?_
  · kernel_rfl
  refine nm_l f3 (v := .str (tx l) t) (by kernel_rfl) ?_ rfl (by kernel_rfl) (by decide)
  refine ⟨⟨hm3, f3.ik⟩, ?_⟩
  refine wpC_call ?_
  refine method_callC hm3 ?_
  show codeC _ _ (.call (.ref 213) ⟨[.ref 219, .str (tx l) t], []⟩) _ _
  have ns := f3.F.toInCall.ns
  have hL := none_new s.heap (Nat.le_refl _)
  have hk3 := f3.keeps
  have hk3' : Grown s.heap (s₁.heap.push (methodObj (.ref 213) (.ref 219))) := fun b o e => kp_get hk3 e
  have hS3 := stands_cons (h' := s₁.heap.push (methodObj (.ref 213) (.ref 219))) (env := callEnvC (match (o251 w.params).data with | .func fd => fd | _ => default) s.heap.objs.size 251) (L := s.heap.objs.size) (by intro q; cases q) rfl ns hS hk3'
  have hF3 := free_cons (env := callEnvC (match (o251 w.params).data with | .func fd => fd | _ => default) s.heap.objs.size 251) (L := s.heap.objs.size) rfl (ik_fresh X hL) hF
  refine parseC f3.ik ?_ hh hl (Around.frames_deeper hfr) hS3 ?_ ?_
  · show A.depth + 1 + 3 < recursionLimit
    omega
  · intro hm x s' k hx hp
    exact h1 hm x s' (kp_trans hk3 k) (none_back hk3 hx) hp
  · intro hm e h' tk fly
    show wpAny _ _ (noteFrame (.ref e) _) _ _ _
    refine caughtC (Around.frames_deeper hfr) rfl hS3 fly ?_ ?_
    · intro h5 K E' k5 hK
      have X5 : IK w h5 := ik_kh f3.ik k5 hF3
      refine nm_b (v := .type "TypeError") X5 (by kernel_rfl) (by kernel_rfl) hK rfl (by kernel_rfl) rfl rfl (by decide)
    · intro h5 E' k5
      refine wpAny_execs_cons ?_
      refine wpAny_Return_some ?_
      refine wpAny_Constant_none ?_
      refine h2 hm _ ?_
      exact kx_drop (s₂ := { s₁ with heap := s₁.heap.push (methodObj (.ref 213) (.ref 219)), toks := s₁.toks + 1 }) rfl hL hk3 k5
end
end Mine

end
section
open PySem PySem.W PySem.Calls PyProof.Rows PySem.Builtin PySem.Builtin.Str
set_option Elab.async false
set_option maxRecDepth 100000
namespace Mine
theorem ne_kind : builtinKind "tuple.__ne__" = some .slot := by decide +kernel
theorem ne_split : splitId "tuple.__ne__" = some ("tuple", "__ne__") := by decide +kernel
theorem tuple_typ : isSubtype (.type "tuple") (.type "tuple") = pure true := by rw [isSubtype_type]; kernel_rfl
section
variable {w : World} {A : Around} {E : Value → Shared → Prop} {s : Shared} {Q : Value → Shared → Prop}
theorem pair_ne_tree {x t : Addr} {a b : List Nat} {va vb wa wb : Value} {ox ot : Obj} {nx nt : Nat} {P : Fin → Shared → Prop} (hx : s.heap.get? x = some ox) (hxd : ox.data = .seq #[va, vb] nx) (ht : s.heap.get? t = some ot) (htc : ot.cls = .type "tuple") (htd : ot.data = .seq #[wa, wb] nt)
    (h1 : IsTx a va) (h2 : IsTx b vb) (h3 : IsTx a wa) (h4 : IsTx b wb) (h : P (.done (.ret (.bool false))) s) : wpAny (model pw w) A (Builtin.«tuple.__ne__» ⟨[.ref x, .ref t], []⟩) P E s := by
  obtain ⟨u1, rfl⟩ := h1
  obtain ⟨u2, rfl⟩ := h2
  obtain ⟨u3, rfl⟩ := h3
  obtain ⟨u4, rfl⟩ := h4
  show wpAny _ _ (isInstance (.ref t) (.type "tuple") >>= _) _ _ s
  refine wpAny_bind (wpAny_isInstance ⟨_, ht, htc⟩ isSubtype_tuple_tuple ?_)
  simp only [Bool.not_true, Bool.false_eq_true, if_false]
  refine wpAny_bind (wpAny_tupleItemsOf hx hxd ?_)
  refine wpAny_bind (wpAny_tupleItemsOf ht htd ?_)
  show wpAny _ _ (forIn [(Value.str (tx a) u1, Value.str (tx a) u3), (Value.str (tx b) u2, Value.str (tx b) u4)] _ _ >>= _) _ _ s
  refine wpAny_bind ?_
  rw [List.forIn_cons]
  refine wpAny_bind (wpAny_bind (wpAny_eqBool_str ?_))
  rw [decide_eq_true rfl]
  refine wpAny_pure ?_
  show wpAny _ _ (forIn [(Value.str (tx b) u2, Value.str (tx b) u4)] _ _) _ _ s
  rw [List.forIn_cons]
  refine wpAny_bind (wpAny_bind (wpAny_eqBool_str ?_))
  rw [decide_eq_true rfl]
  refine wpAny_pure ?_
  show wpAny _ _ (forIn [] _ _) _ _ s
  rw [List.forIn_nil]
  refine wpAny_pure ?_
  exact wpAny_pure h
theorem pair_ne {x t : Addr} {a b : List Nat} {wa wb : Value} (X : IK w s.heap) (hu : A.units < cLine) (hp : IsPair s.heap x a b) (ht : IsTup s.heap t #[wa, wb]) (h3 : IsTx a wa) (h4 : IsTx b wb) (h : Q (.bool false) s) :
    wpAny (model pw w) A (compareOp .NotEq (.ref x) (.ref t)) Q E s := by
  obtain ⟨dx, va, vb, hx, hdx, h1, h2⟩ := hp
  obtain ⟨ot, hot, htc, nt, htd⟩ := ht
  have t1 : Looks (model pw w) s.heap (typeOf (.ref x)) (.ref 219) := (Looks.ld hx).andThen .now
  have t2 : Looks (model pw w) s.heap (typeOf (.ref t)) (.type "tuple") := htc ▸ (Looks.ld hot).andThen .now
  have i1 : Looks (model pw w) s.heap (isInstance (.ref x) (.type "tuple")) true := t1.andThen (sub219 X (by kernel_rfl))
  show wpAny _ _ (richCompare .NotEq (.ref x) (.ref t)) _ _ _
  unfold richCompare
  simp only [oneThing_ref]
  refine wpAny_holding (wpAny_bind (wpAny_cRoomFor hu ?_))
  refine wpAny_bind (t1.here (wpAny_bind (t2.here ?_)))
  rw [if_pos (by decide)]
  refine wpAny_bind ((looks_subIn (x_in X) (show subIn (KH w.params) (.type "tuple") (.ref 219) = some false by kernel_rfl)).here ?_)
  simp only [Bool.false_eq_true, if_false]
  unfold tryCompare
  refine wpAny_bind (wpAny_bind ?_)
  simp only [callSpecialIfBound?, bindSpecialIfBound?]
  refine wpAny_holding (wpAny_bind (wpAny_bind (wpAny_bind (t1.here ((looks_findIn (x_in X) (r := some (.builtin "tuple.__ne__")) (by kernel_rfl)).here ?_)))))
  simp only [F.slot_tuple_ne.bind]
  refine wpAny_bind (wpAny_askSetting (wpAny_ite ?_))
  have body : wpAny (model pw w) A (call (.builtin "tuple.__ne__") [.ref x, .ref t]) (fun v s' => v = .bool false ∧ s' = s) E s := by
    refine wpAny_call (codeAny_call_builtin F.slot_tuple_ne.plain F.entry_tuple_ne (check_slot ne_kind ne_split i1 (F.args_tuple_ne_2 _ _) ?_))
    exact pair_ne_tree hx rfl hot htc htd h1 h2 h3 h4 ⟨rfl, rfl⟩
  have fin : ∀ {K : Option Value → Shared → Prop}, K (some (.bool false)) s → wpAny (model pw w) A (call (.builtin "tuple.__ne__") ([.ref x] ++ [.ref t]) >>= fun v => pure (some v)) K E s := fun hK =>
    wpAny_bind (wpAny_mono body (fun v s' h' => wpAny_pure (by obtain ⟨rfl, rfl⟩ := h'; exact hK)) fun _ _ h' => h')
  split
  · exact wpAny_bind (wpAny_pure (wpAny_pure (fin (wpAny_pure (wpAny_pure h)))))
  · exact wpAny_tryCatch (wpAny_bind (wpAny_pure (wpAny_pure (fin (wpAny_pure (wpAny_pure h))))))
end
end Mine

end
section
open PySem PySem.W PySem.Calls PyProof.Rows PySem.Builtin PySem.Builtin.Str
set_option Elab.async false
set_option maxRecDepth 100000
set_option maxHeartbeats 1000000
namespace Mine
theorem tg_slot : Slot "tuple" "__getattribute__" "tuple.__getattribute__" :=
  .of (owner := "tuple") (n := "__getattribute__") (by rw [typeLookup_type, builtinLookup_eq_fast]; kernel_rfl) (by decide +kernel) (by decide +kernel) (by decide +kernel)
    (by first | exact .inl (by decide +kernel) | exact .inr (by decide +kernel)) (by rw [isSubtype_type]; kernel_rfl)
theorem tg_kind : builtinKind "tuple.__getattribute__" = some .slot := by decide +kernel
theorem tg_split : splitId "tuple.__getattribute__" = some ("tuple", "__getattribute__") := by decide +kernel
theorem tg_entry : entryFor table "tuple.__getattribute__" = some Builtin.«object.__getattribute__» := entryFor_alias (id' := "object.__getattribute__") (by kernel_rfl) rfl (by decide +kernel) (by kernel_rfl)
theorem tg_args (a b : Value) : argsOk "tuple.__getattribute__" ⟨[a, b], []⟩ := by unfold argsOk; kernel_rfl
theorem ti_kind : builtinKind "tuple.__getitem__" = some .slot := by decide +kernel
theorem ti_split : splitId "tuple.__getitem__" = some ("tuple", "__getitem__") := by decide +kernel
section
variable {w : World} {A : Around} {E : Value → Shared → Prop} {s : Shared} {Q : Value → Shared → Prop}
theorem pair_inst {x : Addr} {a b : List Nat} (hp : IsPair s.heap x a b) : ∃ ox va vb, InstAt s.heap x ox 219 (some emptyDict) ∧ ox.data = .seq #[va, vb] 0 ∧ IsTx a va ∧ IsTx b vb := by
  obtain ⟨dx, va, vb, hx, hdx, h1, h2⟩ := hp
  exact ⟨_, va, vb, ⟨hx, rfl, rfl, hdx⟩, rfl, h1, h2⟩
/-- an attribute of the pair that a descriptor gives -/
theorem get_tup {x : Addr} {ox : Obj} {od : Option Obj} {name : Str} {f : Addr} {a : Value} (X : IK w s.heap) (I : InstAt s.heap x ox 219 od) (hf : findObj (KH w.params) 219 od name = some (.bind (.ref f) a))
    (h : ∀ A', A'.depth ≤ A.depth + 1 → A'.handled = A.handled → wpAny (model pw w) A' (call (.ref f) [a, .ref x, .ref 219]) (fun v s' => handedIn v = true ∧ Q v s') (fun _ _ => False) { s with toks := s.toks + 1 }) : wpAny (model pw w) A (getAttr (.ref x) name true) Q E s := by
  have t1 : Looks (model pw w) s.heap (typeOf (.ref x)) (.ref 219) := I.type
  have i1 : Looks (model pw w) s.heap (isInstance (.ref x) (.type "tuple")) true := t1.andThen (sub219 X (by kernel_rfl))
  have g1 : Looks (model pw w) s.heap (typeLookup (.ref 219) "__getattribute__") (some (.builtin "tuple.__getattribute__")) := looks_findIn (x_in X) (by kernel_rfl)
  have hb : Looks (model pw w) s.heap (hookBefore (.ref 219)) none := looks_hook (x_in X) (r := none) (by show findIn (KH w.params) (.ref 219) "__getattr__" = some none; kernel_rfl)
  have f1 := looks_find (M := model pw w) (x_in X) I hf
  unfold getAttr getAttrBy
  refine wpAny_bind (wpAny_mkText (wpAny_holding (wpAny_bind (t1 _ _ _ _ (fun _ _ e => e) (wpAny_bind (g1 _ _ _ _ (fun _ _ e => e) ?_))))))
  dsimp only
  rw [show (onTheHeap (.ref 219) && Value.builtin "tuple.__getattribute__" == Value.builtin "object.__getattribute__") = false from by rw [show (Value.builtin "tuple.__getattribute__" == Value.builtin "object.__getattribute__") = false from by decide +kernel, Bool.and_false], if_neg (by decide)]
  unfold getAttrByItsOwn
  refine wpAny_bind (hb _ _ _ _ (fun _ _ e => e) (wpAny_bind (wpAny_attempt (wpAny_holding ?_))))
  unfold callGetattribute
  rw [if_neg (by decide)]
  unfold boundAndCalled
  rw [tg_slot.bind]
  refine wpAny_bind (wpAny_pure ?_)
  show wpAny _ _ (call (.builtin "tuple.__getattribute__") [.ref x, .str name s.toks]) _ _ _
  refine wpAny_call ?_
  refine codeAny_call_builtin tg_slot.plain tg_entry ?_
  refine @check_slot (model pw w) _ _ { s with toks := s.toks + 1 } "tuple.__getattribute__" "tuple" "__getattribute__" (.ref x) [.str name s.toks] [] _ tg_kind tg_split i1 (tg_args (.ref x) (.str name s.toks)) ?_
  unfold Builtin.«object.__getattribute__»
  refine wpAny_bind (wpAny_pure (wpAny_bind (wpAny_pure (wpAny_bind (t1 _ _ _ _ (fun _ _ e => e) (wpAny_bind (f1 _ _ _ _ (fun _ _ e => e) ?_)))))))
  show wpAny _ _ (holding [a] (call (.ref f) [a, .ref x, .ref 219]) >>= ret) _ _ _
  refine wpAny_bind (wpAny_holding (wpAny_mono (h _ (Nat.le_succ _) rfl) (fun v s' z => wpAny_pure ?_) fun _ _ z => z.elim))
  show wpAny _ _ (handedOut v) _ _ _
  exact handed_on z.1 z.2
end
end Mine

end
section
open PySem PySem.W PySem.Calls PyProof.Rows PySem.Builtin PySem.Builtin.Str
set_option Elab.async false
set_option maxRecDepth 100000
set_option maxHeartbeats 1000000
namespace Mine
section
variable {w : World} {A : Around} {E : Value → Shared → Prop} {s : Shared} {Q : Value → Shared → Prop}
theorem isc_nested {prog : Program} {w' : World} {k : Value} {dep : Int} {tk : Tok} {P : Fin → Shared → Prop} (X : IK w s.heap) (hk : k = .int dep tk) (hq : P (.done (.ret (.bool true))) s) : wpAny (model prog w') A (Builtin.«issubclass.nested» ⟨[.ref 219, .type "tuple", k], []⟩) P E s := by
  subst hk
  have sub := sub219 (M := model prog w') X (b := .type "tuple") (r := true) (by kernel_rfl)
  have typ : Looks (model prog w') s.heap (typeOf (.ref 219)) (.type "type") := looks_typeIn (x_in X) (by kernel_rfl)
  have ist : Looks (model prog w') s.heap (isInstance (.ref 219) (.type "type")) true := looks_instIn (x_in X) (by kernel_rfl)
  have h219 := ik_get X 219 (o219 w.params) (by kernel_rfl)
  obtain ⟨hh, g, d, t, os⟩ := s
  unfold Builtin.«issubclass.nested»
  repeat lk
  exact hq
theorem call_isc (X : IK w s.heap) (hq : Q (.bool true) s) : wpAny (model pw w) A (call (.builtin "issubclass") [.ref 219, .type "tuple"]) Q E s :=
  call_function_meets F.kind_issubclass F.plain_issubclass F.entry_issubclass (F.args_issubclass_2 _ _) (S := fun _ R s' => s' = s ∧ R (.ok (.ret (.bool true))) s)
    (fun prog w' A R s' hs => by
      obtain ⟨rfl, hs⟩ := hs
      exact issubclass_outer (isc_nested X rfl hs)) ⟨rfl, hq⟩
theorem call_ti {x : Addr} {ox : Obj} {od : Option Obj} {items : Array Value} {n i : Nat} {tk : Tok} {v : Value} (X : IK w s.heap) (I : InstAt s.heap x ox 219 od) (hd : ox.data = .seq items n) (hi : i < items.size) (hn : items.size ≤ 1000) (hv : items[i]? = some v) (hq : Q v s) :
    wpAny (model pw w) A (call (.builtin "tuple.__getitem__") [.ref x, .int i tk]) Q E s := by
  have t1 : Looks (model pw w) s.heap (typeOf (.ref x)) (.ref 219) := I.type
  have i1 : Looks (model pw w) s.heap (isInstance (.ref x) (.type "tuple")) true := t1.andThen (sub219 X (by kernel_rfl))
  have hx := I.at_
  refine wpAny_call ?_
  refine codeAny_call_builtin (id := "tuple.__getitem__") slot_tuple_getitem.plain entry_tuple_getitem ?_
  refine @check_slot (model pw w) _ _ s "tuple.__getitem__" "tuple" "__getitem__" (.ref x) [.int (i : Int) tk] [] _ ti_kind ti_split i1 (args_tuple_getitem _ _) ?_
  have f1 := AutoSeq1.idx_int
  have hk : seqIndex? (i : Int) items.size = some i := by
    unfold seqIndex?
    have e1 : ¬ ((i : Int) < 0) := by omega
    rw [if_neg e1]
    have e2 : (decide (0 ≤ (i : Int)) && decide ((i : Int) < (items.size : Nat))) = true := by
      simp only [Bool.and_eq_true, decide_eq_true_eq]; omega
    rw [if_pos e2]
    simp
  unfold Builtin.«tuple.__getitem__»
  refine wpAny_bind (wpAny_pure ?_)
  refine wpAny_bind (wpAny_tupleItemsOf hx hd ?_)
  refine wpAny_bind (wpAny_of_eq (a := Value.type "int") rfl ?_)
  rw [if_neg (by decide)]
  refine wpAny_bind (wpAny_specialOf_val (T := "int") rfl f1 ?_)
  rw [if_neg (by decide)]
  refine wpAny_bind (m := asIndex (.int (i : Int) tk)) (wpAny_of_eq (a := (i : Int)) rfl ?_)
  dsimp only
  rw [if_neg (by simp only [Bool.or_eq_true, decide_eq_true_eq]; omega), hk]
  dsimp only [Option.bind]
  rw [hv]
  exact wpAny_pure hq
end
end Mine

end
section
open PySem PySem.W PySem.Calls PyProof.Rows PySem.Builtin PySem.Builtin.Str
set_option Elab.async false
set_option maxRecDepth 100000
set_option maxHeartbeats 1000000
namespace Mine
section
variable {w : World} {A : Around} {E : Value → Shared → Prop} {s : Shared} {Q : Value → Shared → Prop}
theorem callFB {a : Addr} {o : Obj} {fd : FuncData} {body : List Stmt} {args : List Value} {binds : List (Str × Value)} (X : IK w s.heap) (hd : A.depth < recursionLimit)
    (e1 : (KH w.params).lookup a = some o) (e2 : o.data = .func fd) (e3 : codeIn (KH w.params) fd.code fd.qualname = true) (e4 : fd.body = .stmts body) (e5 : BindsTo s fd ⟨args, []⟩ binds) (e6 : fd.closure = [])
    (e7 : bindsOk fd s.heap.objs.size binds = true) (hco : fd.scope.isCoroutine = false) (hgen : fd.scope.isGenerator = false) (hk : fd.scope.kind = .function)
    (h : ∀ s₁, Fm w s (callEnvC fd s.heap.objs.size a) (bindL (callEnvC fd s.heap.objs.size a).kindOf binds fun _ => none) (bindC (callEnvC fd s.heap.objs.size a).kindOf binds fun _ => none) s₁ →
      wpAny (model pw w) (A.deeper (callEnvC fd s.heap.objs.size a)) (execs body (callEnvC fd s.heap.objs.size a)) (fun f s' => Q (retV f) s') (fun _ _ => False) s₁) :
    wpAny (model pw w) A (call (.ref a) args) Q E s := by
  have hkind : ∀ x ∈ binds, fd.scope.names.lookup x.1 = some .local ∨ (fd.scope.names.lookup x.1 = some .cell ∧ ((cellsFrom (s.heap.objs.size + 1) fd.scope.names []).lookup x.1).isSome = true) := fun x hx => by
    have := List.all_eq_true.mp e7 x hx
    simp only [Bool.or_eq_true, Bool.and_eq_true, decide_eq_true_eq] at this
    exact this
  refine wpAny_call ?_
  refine codeAny_call_function hd (X _ _ e1) e2 hco hgen e4 (codeRec_of X e3) (e5 _ _ _ _ ?_)
  rw [e6]
  refine wpAny_newFunctionEnv_cells hk hkind fun env he s' x => ?_
  subst he
  refine ⟨(nolim X).keeps x.toInCall.keep, codeAny_func (wpAny_mono (h s' ⟨X, x⟩) (fun f s' q => ?_) fun _ _ q => q.elim)⟩
  cases f <;> exact q
theorem inst_keeps {s s' : Shared} {x C : Addr} {ox : Obj} {od : Option Obj} (I : InstAt s.heap x ox C od) (k : Keeps s s') : InstAt s'.heap x ox C od := by
  refine ⟨kp_get k I.at_, I.cls, I.no, ?_⟩
  have := I.dict
  cases e : ox.dict with
  | none => rw [e] at this; cases od <;> exact this
  | some dx =>
    rw [e] at this
    cases od with
    | none => exact this
    | some o => exact kp_get k this
theorem cw_b2 {M : Model} {pos : Pos} {id : String} {a b : Sem Value} (h : wpAny M A a (fun v s₁ => wpAny M A b (fun v₂ s₂ => wpAny M A (call (.builtin id) [v, v₂]) Q E s₂) E s₁) E s) : wpAny M A (callWith pos (.builtin id) [] [(false, a), (false, b)] []) Q E s :=
  Calls.callWith_builtin rfl (evalArgs_plain (spliced_cons (wpAny_mono h (fun _ _ q => spliced_cons (wpAny_mono q (fun _ _ q => spliced_nil q) fun _ _ q => q)) fun _ _ q => q)))
def fd107 (P : Params) : FuncData := match (o107 P).data with | .func fd => fd | _ => default
theorem bind107 (P : Params) (a b c : Value) : ∃ k : Option (Array Value) → Sem (List (Str × Value)), bindArgs (fd107 P) ⟨[a, b, c], []⟩ = seqItems? (fd107 P).defaults >>= k ∧ k (some #[.none]) = pure [(u "self", a), (u "obj", b), (u "objtype", c)] := by
  exact ⟨_, rfl, rfl⟩
theorem call_getter {d x : Addr} {i : Nat} {tk : Tok} {ox : Obj} {od : Option Obj} {items : Array Value} {n : Nat} {v : Value} (X : IK w s.heap) (hd : A.depth < recursionLimit) (I : InstAt s.heap x ox 219 od) (hdt : ox.data = .seq items n) (hi : i < items.size) (hn : items.size ≤ 1000) (hv : items[i]? = some v)
    (idx : ∀ (A' : Around) (Q' : Value → Shared → Prop) (E' : Value → Shared → Prop) (s' : Shared), IK w s'.heap → Q' (.int (i : Int) tk) { s' with toks := s'.toks + 1 } → wpAny (model pw w) A' (getAttr (.ref d) "index" true) Q' E' s')
    (h : ∀ s', Keeps s s' → Q v s') : wpAny (model pw w) A (call (.ref 107) [.ref d, .ref x, .ref 219]) Q E s := by
  obtain ⟨kk, hk1, hk2⟩ := bind107 w.params (.ref d) (.ref x) (.ref 219)
  refine callFB (o := o107 w.params) (fd := fd107 w.params) (binds := [(u "self", .ref d), (u "obj", .ref x), (u "objtype", .ref 219)]) X hd (by kernel_rfl) rfl (by kernel_rfl) rfl (binds_K (K := KH w.params) (T := 100) (o := o100 w.params) (x_in X) rfl (by kernel_rfl) rfl hk1 hk2) rfl (by kernel_rfl) (by kernel_rfl) (by kernel_rfl) (by kernel_rfl) fun s₁ f => ?_
  refine wpAny_execs_cons ?_
  refine wpAny_If ?_
  refine wpAny_isTrue_Compare1 ?_
  refine nm_l f (v := .ref x) (by kernel_rfl) ?_ rfl (by kernel_rfl) (by decide)
  refine wpAny_Constant_none ?_
  refine is_ref_none ?_
  refine wpAny_truthy_bool ?_
  show wpAny _ _ (execs [] _) _ _ _
  refine wpAny_execs_nil ?_
  refine wpAny_execs_cons ?_
  refine wpAny_If ?_
  refine isTrue_not ?_
  refine isTrue_plain ?_ ?_
  rotate_left
  · rfl
  refine Call_Name2 ?_ ?_
  rotate_left
  · rfl
  refine nm_b (v := .builtin "issubclass") f.ik (by kernel_rfl) (by kernel_rfl) ?_ rfl (by kernel_rfl) rfl rfl (by decide)
  have I1 := inst_keeps I f.keeps
  refine cw_b2 ?_
  refine Call_Name1 ?_ rfl
  refine nm_b (v := .type "type") f.ik (by kernel_rfl) (by kernel_rfl) ?_ rfl (by kernel_rfl) rfl rfl (by decide)
  refine PySem.callWith_type ?_ ?_
  · rfl
  refine evalArgs_plain ?_
  refine spliced_cons ?_
  refine nm_l f (v := .ref x) (by kernel_rfl) ?_ rfl (by kernel_rfl) (by decide)
  refine spliced_nil ?_
  refine kto_own I1 ?_
  refine nm_b (v := .type "tuple") f.ik (by kernel_rfl) (by kernel_rfl) ?_ rfl (by kernel_rfl) rfl rfl (by decide)
  refine call_isc f.ik ?_
  refine wpAny_truthy_bool ?_
  show wpAny _ _ (execs [] _) _ _ _
  refine wpAny_execs_nil ?_
  refine wpAny_execs_cons ?_
  refine wpAny_Return_some ?_
  refine mcall ?_ ?_ ?_ ?_
  iterate 3 kernel_rfl
  refine nm_b (v := .type "tuple") f.ik (by kernel_rfl) (by kernel_rfl) ?_ rfl (by kernel_rfl) rfl rfl (by decide)
  intro pl
  with_reducible refine method_ty (v := .builtin "tuple.__getitem__") f.ik ?_ ?_ ?_ ?_ ?_
  · rfl
  · decide +kernel
  · kernel_rfl
  · kernel_rfl
  refine cw_bs ?_ ?_ ?_
  iterate 2 kernel_rfl
  have f2 := f.next (kp_tok s₁ (s₁.toks + 1))
  refine spliced_more ?_
  refine nm_l f2 (v := .ref x) (by kernel_rfl) ?_ rfl (by kernel_rfl) (by decide)
  refine spliced_more ?_
  refine Attribute_name ?_
  refine nm_l f2 (v := .ref d) (by kernel_rfl) ?_ rfl (by kernel_rfl) (by decide)
  refine idx _ _ _ _ f2.ik ?_
  refine spliced_none ?_
  have f3 := f2.next (kp_tok { s₁ with toks := s₁.toks + 1 } (s₁.toks + 1 + 1))
  refine call_ti f3.ik (inst_keeps I f3.keeps) hdt hi hn hv ?_
  exact h _ f3.keeps
end
end Mine

end
section
open PySem PySem.W PySem.Calls PyProof.Rows PySem.Builtin PySem.Builtin.Str
set_option Elab.async false
set_option maxRecDepth 100000
set_option maxHeartbeats 1000000
namespace Mine
section
variable {w : World} {A : Around} {E : Value → Shared → Prop} {s : Shared} {Q : Value → Shared → Prop}
theorem inst188 (X : IK w s.heap) : InstAt s.heap 188 (o188 w.params) 124 (some (o187 w.params)) := ⟨ik_get X _ _ (by kernel_rfl), rfl, rfl, ik_get X 187 (o187 w.params) (by kernel_rfl)⟩
theorem inst191 (X : IK w s.heap) : InstAt s.heap 191 (o191 w.params) 124 (some (o190 w.params)) := ⟨ik_get X _ _ (by kernel_rfl), rfl, rfl, ik_get X 190 (o190 w.params) (by kernel_rfl)⟩
theorem idx188 (X : IK w s.heap) (h : Q (.int ((0 : Nat) : Int) 2371) { s with toks := s.toks + 1 }) : wpAny (model pw w) A (getAttr (.ref 188) "index" true) Q E s :=
  get_value (x_in X) (inst188 X) (by kernel_rfl) (by kernel_rfl) rfl h
theorem idx191 (X : IK w s.heap) (h : Q (.int ((1 : Nat) : Int) 2381) { s with toks := s.toks + 1 }) : wpAny (model pw w) A (getAttr (.ref 191) "index" true) Q E s :=
  get_value (x_in X) (inst191 X) (by kernel_rfl) (by kernel_rfl) rfl h
theorem pair_name {x : Addr} {a b : List Nat} (X : IK w s.heap) (hd : A.depth + 1 < recursionLimit) (hp : IsPair s.heap x a b) (h : ∀ u s', Keeps s s' → Q (.str (tx a) u) s') : wpAny (model pw w) A (getAttr (.ref x) "name" true) Q E s := by
  obtain ⟨ox, va, vb, I, hdt, ⟨ua, rfl⟩, _⟩ := pair_inst hp
  refine get_tup (f := 107) (a := .ref 188) X I (by kernel_rfl) ?_
  intro A' hd' _
  refine call_getter (s := { s with toks := s.toks + 1 }) (i := 0) (tk := 2371) (v := .str (tx a) ua) X (by omega) I hdt (by show 0 < 2; decide) (by show 2 ≤ 1000; decide) rfl (fun A' Q' E' s' X' hq => idx188 X' hq) ?_
  intro s' k
  exact ⟨rfl, h _ _ (kp_trans (kp_tok s (s.toks + 1)) k)⟩
theorem pair_value {x : Addr} {a b : List Nat} (X : IK w s.heap) (hd : A.depth + 1 < recursionLimit) (hp : IsPair s.heap x a b) (h : ∀ u s', Keeps s s' → Q (.str (tx b) u) s') : wpAny (model pw w) A (getAttr (.ref x) "value" true) Q E s := by
  obtain ⟨ox, va, vb, I, hdt, _, ⟨ub, rfl⟩⟩ := pair_inst hp
  refine get_tup (f := 107) (a := .ref 191) X I (by kernel_rfl) ?_
  intro A' hd' _
  refine call_getter (s := { s with toks := s.toks + 1 }) (i := 1) (tk := 2381) (v := .str (tx b) ub) X (by omega) I hdt (by show 1 < 2; decide) (by show 2 ≤ 1000; decide) rfl (fun A' Q' E' s' X' hq => idx191 X' hq) ?_
  intro s' k
  exact ⟨rfl, h _ _ (kp_trans (kp_tok s (s.toks + 1)) k)⟩
end
end Mine

end
section
open PySem PySem.W PySem.Calls PyProof.Rows PySem.Builtin PySem.Builtin.Str
set_option Elab.async false
set_option maxRecDepth 100000
namespace Mine
section
variable {w : World} {A : Around} {E : Value → Shared → Prop} {s s₀ : Shared} {env : Env} {m cm : Str → Option Value}
theorem fm_but {I : Addr} {oI : Obj} {h' : Heap} {tk : Tok} (f : Fm w s₀ env m cm s) (hI0 : s₀.heap.get? I = none) (hI : s.heap.get? I = some oI) (hfr : frm oI = false) (k : ∀ b o, b ≠ I → s.heap.get? b = some o → h'.get? b = some o) :
    Fm w s₀ env m cm { s with heap := h', toks := tk } := by
  have x := f.F
  refine ⟨f.X, ⟨⟨?_, ?_, fun b o e => ?_, x.toInCall.fresh⟩, fun n c hc => ?_, x.apart, x.above⟩⟩
  · obtain ⟨h₁, t₁, rfl⟩ := x.toInCall.same
    exact ⟨h', _, rfl⟩
  · exact x.toInCall.ns.at' fun o e => k _ o (Ne.symm (ns_frm x.toInCall.ns hI hfr)) e
  · exact k b o (by rintro rfl; rw [hI0] at e; cases e) (x.toInCall.keep b o e)
  · obtain ⟨o, ho, hd⟩ := x.cell n c hc
    exact ⟨o, k c o (Ne.symm (cell_frm ⟨o, ho, hd⟩ hI hfr)) ho, hd⟩
/-- the items of a list are pairs -/
def PairsAt (h : Heap) (items : Array Value) (vals : Nat → Value × Value) : Prop := ∀ j v, items[j]? = some v → ∃ t, v = .ref t ∧ IsTup h t #[(vals j).1, (vals j).2]
theorem isTup_frm {h : Heap} {t : Addr} {its : Array Value} (x : IsTup h t its) : ∃ o, h.get? t = some o ∧ frm o = false := by
  obtain ⟨o, e, c, n, d⟩ := x
  exact ⟨o, e, by unfold frm; rw [d]⟩
theorem tup_kl {s s' : Shared} (k : KL s s') {t : Addr} {its : Array Value} (x : IsTup s.heap t its) : IsTup s'.heap t its := by
  obtain ⟨o, e, c, n, d⟩ := x
  exact ⟨o, kl_get k e (by unfold frm; rw [d]), c, n, d⟩
theorem pairs_kl {s s' : Shared} (k : KL s s') {items : Array Value} {vals : Nat → Value × Value} (x : PairsAt s.heap items vals) : PairsAt s'.heap items vals := fun j v e => let ⟨t, q, r⟩ := x j v e; ⟨t, q, tup_kl k r⟩
theorem iter_kl {s s' : Shared} (k : KL s s') {I l : Addr} {i : Nat} (x : s.heap.IsListIter I l i) : s'.heap.IsListIter I l i := by
  obtain ⟨o, e, c, d⟩ := x
  exact ⟨o, kl_get k e (by unfold frm; rw [d]), c, d⟩
theorem go_list {M : Model} {E : Value → Shared → Prop} {elts : List Expr} {x1 : Nat} {pt : Pos} {I l : Addr} {i : Nat} {v : Value} {Q : Unit → Shared → Prop} (hI : s.heap.IsListIter I l i) (h : Q () s) : wpAny M A (letOwnedTupleGo (.Tuple elts x1 pt) (.ref I) v) Q E s := by
  obtain ⟨o, e, c, d⟩ := hI
  unfold letOwnedTupleGo
  cases v <;> try exact wpAny_pure h
  refine wpAny_bind (wpAny_load e ?_)
  rw [c, d]
  dsimp only
  rw [if_neg (by simp)]
  exact wpAny_pure h
theorem for2 {xi xc : Str} {pi pv pt pos : Pos} {x1 : Nat} {iter : Expr} {body : List Stmt} {Q : Flow → Shared → Prop} (_f : Fm w s₀ env m cm s) (J : (Str → Option Value) → Prop) (hh : A.handled = none)
    (hk : env.scope.kind = .function) (hxi : env.kindOf xi = some .local) (hxc : env.kindOf xc = some .local) (hs : ∀ x, foldedSetIterable iter env x = pure x)
    (hn : (assignEach [Expr.Name xi pi, Expr.Name xc pv] env).map (·.2) = [assign (.Name xi pi) env, assign (.Name xc pv) env])
    (hstar : (assignEach [Expr.Name xi pi, Expr.Name xc pv] env).findIdx? (·.1) = none)
    (h : wpAny (model pw w) A (eval iter env) (fun xv s₁ => ∃ (D : Addr) (items : Array Value) (m : Str → Option Value) (vals : Nat → Value × Value), xv = .ref D ∧ Fm w s₀ env m cm s₁ ∧ J m ∧ s₁.heap.PlainList D items ∧ PairsAt s₁.heap items vals ∧
      (∀ i m' s' E', i < items.size → J m' → Fm w s₀ env (upd (upd m' xi (vals i).1) xc (vals i).2) cm s' → KL s₁ s' →
        wpAny (model pw w) A (execs body env) (fun f s'' => f = .next ∧ ∃ m'', J m'' ∧ Fm w s₀ env m'' cm s'' ∧ KL s' s'') E' s') ∧
      (∀ m' s', J m' → Fm w s₀ env m' cm s' → Q .next s')) E s) :
    wpAny (model pw w) A (exec (.For (.Tuple [.Name xi pi, .Name xc pv] x1 pt) iter body [] pos) env) Q E s := by
  refine wpAny_For (wpAny_mono h (fun xv s₁ h₁ => ?_) fun _ _ e => e) hs
  obtain ⟨D, items, m, vals, rfl, f, hJ, hD, hP, hstep, hend⟩ := h₁
  have hDl := isList_of hD
  refine wpAny_pyIter_list hDl ?_
  have hI0 : s₀.heap.get? s₁.heap.objs.size = none := none_back f.keeps (none_new _ (Nat.le_refl _))
  have f2 := f.next (kp_push (s := s₁) { cls := .type "list_iterator", data := .fields #[.ref D, .int 0 0] })
  have k2 := kl_of (kp_push (s := s₁) { cls := .type "list_iterator", data := .fields #[.ref D, .int 0 0] })
  generalize hI : s₁.heap.objs.size = I at hI0
  refine codeAny_forLoop_any (fun k s' => ∃ i m', k = items.size + 1 - i ∧ i ≤ items.size ∧ J m' ∧ Fm w s₀ env m' cm s' ∧ s'.heap.IsListIter I D i ∧ s'.heap.PlainList D items ∧ PairsAt s'.heap items vals ∧ KL s₁ s') ?_ (items.size + 1)
    ⟨0, m, rfl, Nat.zero_le _, hJ, f2, ⟨_, by rw [← hI]; exact Heap.get?_push_size _ rfl, rfl, rfl⟩, kl_plain k2 hD, pairs_kl k2 hP, k2⟩
  rintro k s' ⟨i, m', rfl, hi, hJ', f', hit, hD', hP', kl'⟩
  by_cases hlt : i < items.size
  · refine wpAny_pyNext_list_item hit (isList_of hD') (x := items[i]) (by simp [hlt]) fun h' hit' hs' => ?_
    obtain ⟨oI, eI, cI, dI⟩ := hit
    have fI : frm oI = false := by unfold frm; rw [dI]
    have f3 := fm_but (tk := s'.toks) f' hI0 eI fI hs'.extBut
    have kI : ∀ b o, b ≠ I → s'.heap.get? b = some o → h'.get? b = some o := hs'.extBut
    have kI1 : KL s₁ { s' with heap := h' } := by
      obtain ⟨h1, t1, e1, k1⟩ := kl'
      subst e1
      refine ⟨h', t1, rfl, fun b o e fr => kI b o ?_ (k1 b o e fr)⟩
      rintro rfl
      rw [← hI, none_new _ (Nat.le_refl _)] at e
      cases e
    have hD3 : h'.PlainList D items := by
      obtain ⟨n, e⟩ := hD'
      refine ⟨n, kI D _ ?_ e⟩
      rintro rfl
      rw [e] at eI
      cases eI
      cases dI
    have hP3 : PairsAt h' items vals := fun j v e => by
      obtain ⟨t, q, o, et, c, n, d⟩ := hP' j v e
      refine ⟨t, q, o, kI t o ?_ et, c, n, d⟩
      rintro rfl
      rw [et] at eI
      cases eI
      rw [d] at dI; cases dI
    dsimp only
    refine go_list (s := { s' with heap := h' }) hit' ?_
    obtain ⟨t, et, htup⟩ := hP3 i items[i] (by simp [hlt])
    rw [et]
    refine wpAny_assign_Tuple (s := { s' with heap := h' }) hh htup (by have := congrArg List.length hn; simpa using this) hstar fun h4 hx4 => ?_
    have kp4 : Keeps { s' with heap := h' } { s' with heap := h4 } := ⟨h4, s'.toks, rfl, fun b o e => hx4 b o (Nat.ne_of_lt (Heap.lt_size e)) e⟩
    have f4 := f3.next kp4
    rw [hn]
    show wpAny _ A (do holding [(vals i).2] (assign (.Name xi pi) env (vals i).1); do holding [] (assign (.Name xc pv) env (vals i).2); pure ()) _ _ _
    refine wpAny_bind (wpAny_holding (wpAny_assign_Name (st_lk f4 hk hxi fun s5 f5 k5 => ?_)))
    refine wpAny_bind (wpAny_holding (wpAny_assign_Name (st_lk f5 hk hxc fun s6 f6 k6 => wpAny_pure ?_)))
    have k46 := kl_trans (kl_trans (kl_of kp4) k5) k6
    refine wpAny_mono (hstep i m' s6 _ hlt hJ' f6 (kl_trans kI1 k46)) (fun fl s7 h7 => ?_) fun _ _ e => e
    obtain ⟨rfl, m7, hJ7, f7, k7⟩ := h7
    have k47 := kl_trans k46 k7
    exact ⟨items.size + 1 - (i + 1), by omega, i + 1, m7, rfl, hlt, hJ7, f7, iter_kl k47 hit', kl_plain k47 hD3, pairs_kl k47 hP3, kl_trans kI1 k47⟩
  · have hin : items[i]? = none := by simp; omega
    refine wpAny_pyNext_list_end hh hit (isList_of hD') hin fun h' he => ?_
    obtain ⟨oI, eI, cI, dI⟩ := hit
    have fI : frm oI = false := by unfold frm; rw [dI]
    refine wpAny_execs_nil ?_
    exact hend m' _ hJ' (fm_but (tk := s'.toks) f' hI0 eI fI he)
end
end Mine

end
section
open PySem PySem.W PySem.Calls PyProof.Rows PySem.Builtin PySem.Builtin.Str
set_option Elab.async false
set_option maxRecDepth 100000
namespace Mine
/-- a heap's beginning -/
def cutH (h : Heap) (n : Nat) : Heap := { h with objs := h.objs.extract 0 n }
theorem cutH_size {h : Heap} {n : Nat} (hn : n ≤ h.objs.size) : (cutH h n).objs.size = n := by
  show (h.objs.extract 0 n).size = n
  rw [Array.size_extract]; omega
theorem cutH_lt {h : Heap} {n b : Nat} (hb : b < n) : (cutH h n).get? b = h.get? b := by
  have e : (cutH h n).objs[b]? = h.objs[b]? := by
    show (h.objs.extract 0 n)[b]? = h.objs[b]?
    rw [Array.getElem?_extract]
    simp; intro h1; omega
  unfold Heap.get?
  rw [e]
theorem cutH_of {h : Heap} {n b : Nat} {o : Obj} (e : (cutH h n).get? b = some o) : b < n ∧ h.get? b = some o := by
  have hb : b < n := by
    have := Heap.lt_size e
    have h2 : (cutH h n).objs.size ≤ n := by
      show (h.objs.extract 0 n).size ≤ n
      rw [Array.size_extract]; omega
    exact Nat.lt_of_lt_of_le this h2
  exact ⟨hb, by rw [← cutH_lt hb]; exact e⟩
theorem stands_kh {F : List Addr} {h h' : Heap} (k : KH0 F h h') : ∀ {l : List Env}, Stands h l → Stands h' l
  | [], _ => trivial
  | env :: r, ⟨hk, ⟨L, o, hf, ho, hd⟩, hr⟩ => by
    refine ⟨hk, ?_, stands_kh k hr⟩
    have k1 := k L o ho
    split at k1
    · obtain ⟨sl, k1⟩ := k1
      exact ⟨L, _, hf, k1, hd⟩
    · exact ⟨L, o, hf, k1, hd⟩
section
variable {w : World} {s s₁ s' : Shared} {env : Env} {outer : List Env} {m cm : Str → Option Value}
/-- a frame, rebased after frames' slots were written -/
theorem fm_rebase (f : Fm w s env m cm s₁) (hfr : env.frame = some env.locals) (hc : env.cells = []) (hF : Free w (env :: outer)) (k : KX (spots (env :: outer)) s₁ s') :
    ∃ s₂, Fm w s₂ env m cm s' ∧ KX (spots outer) s s₂ ∧ KX (spots outer) s s' := by
  have x := f.F.toInCall
  obtain ⟨h₁, t₁, e₁⟩ := x.same
  have k0 := k
  obtain ⟨h', t', rfl, k⟩ := k
  have hL : s.heap.get? env.locals = none := none_new _ x.fresh
  have ik1 : IK w h' := ik_kx f.ik k0 hF
  have up : ∀ b o, s.heap.get? b = some o → if b ∈ spots outer then ∃ sl, h'.get? b = some { o with slots := sl } else h'.get? b = some o := fun b o e => by
    have k1 := k b o (x.keep b o e)
    rw [spots_cons hfr] at k1
    have hb : b ≠ env.locals := by rintro rfl; rw [hL] at e; cases e
    by_cases hm : b ∈ spots outer
    · rw [if_pos (List.mem_cons_of_mem _ hm)] at k1
      rw [if_pos hm]; exact k1
    · rw [if_neg (by simp only [List.mem_cons, not_or]; exact ⟨hb, hm⟩)] at k1
      rw [if_neg hm]; exact k1
  have kx : KX (spots outer) s { s₁ with heap := h', toks := t' } := by
    subst e₁
    exact ⟨h', t', rfl, up⟩
  refine ⟨{ s with heap := cutH h' s.heap.objs.size }, ⟨?_, ⟨⟨?_, ?_, ?_, ?_⟩, ?_, ?_, ?_⟩⟩, ⟨_, s.toks, rfl, ?_⟩, kx⟩
  · intro a o e
    have ha : a < s.heap.objs.size := Heap.lt_size (f.X a o e)
    show (cutH h' s.heap.objs.size).get? a = some o
    rw [cutH_lt ha]
    exact ik1 a o e
  · subst e₁
    exact ⟨h', t', rfl⟩
  · obtain ⟨o, es, ep, ho, hd, hk⟩ := x.ns
    have k1 := k _ _ ho
    rw [if_pos (by rw [spots_cons hfr]; exact List.mem_cons_self)] at k1
    obtain ⟨sl, k1⟩ := k1
    exact ⟨_, es, ep, k1, hd, hk⟩
  · intro b o e
    exact (cutH_of e).2
  · show (cutH h' s.heap.objs.size).objs.size ≤ env.locals
    have : (cutH h' s.heap.objs.size).objs.size ≤ s.heap.objs.size := by
      show (h'.objs.extract 0 s.heap.objs.size).size ≤ _
      rw [Array.size_extract]; omega
    exact Nat.le_trans this x.fresh
  · intro n c hcl
    rw [hc] at hcl; cases hcl
  · rw [hc]; exact .nil
  · intro n c hcm
    rw [hc] at hcm; cases hcm
  · intro b o e
    have hb : b < s.heap.objs.size := Heap.lt_size e
    have := up b o e
    rw [cutH_lt hb]
    exact this
end
end Mine

end
section
open PySem PySem.W PySem.Calls PyProof.Rows PySem.Builtin PySem.Builtin.Str
set_option Elab.async false
set_option maxRecDepth 100000
namespace Mine
/-- kept but for one object -/
def KO (L : Addr) (s s' : Shared) : Prop := ∃ h tk, s' = { s with heap := h, toks := tk } ∧ ∀ b o, b ≠ L → s.heap.get? b = some o → h.get? b = some o
section
variable {w : World} {A : Around} {E : Value → Shared → Prop} {s s₀ : Shared} {env : Env} {m cm : Str → Option Value}
theorem st_lo {n : Str} {v : Value} {Q : Unit → Shared → Prop} (f : Fm w s₀ env m cm s) (hk : env.scope.kind = .function) (hl : env.kindOf n = some .local) (h : ∀ s', Fm w s₀ env (upd m n v) cm s' → KO env.locals s s' → Q () s') :
    wpAny (model pw w) A (storeName env n v) Q E s := by
  have x := f.F
  refine wpAny_storeName_local hl x.toInCall.ns (fun h' hn' hs' => h _ ⟨f.X, ⟨?_, hn', fun b o e => ?_, x.toInCall.fresh⟩, fun k c hc => ?_, x.apart, x.above⟩ ⟨h', _, rfl, fun b o hb e => hs'.extBut b o hb e⟩) (by rw [hk]; rfl)
  · obtain ⟨h₁, tk, rfl⟩ := x.toInCall.same
    exact ⟨h', _, rfl⟩
  · exact hs'.extBut b o (Nat.ne_of_lt (Nat.lt_of_lt_of_le (Heap.lt_size e) x.toInCall.fresh)) (x.toInCall.keep b o e)
  · exact (x.cell k c hc).sameBut hs' (Nat.ne_of_gt (x.above k c (mem_of_lookup hc)))
theorem pair_lo {s s' : Shared} {L x : Addr} {a b : List Nat} {y : Str} {v : Value} (k : KO L s s') (hn : s.heap.Ns L m) (hy : m y = some v) (hp : IsPair s.heap x a b) : IsPair s'.heap x a b := by
  obtain ⟨dx, va, vb, hx, hdx, r⟩ := hp
  obtain ⟨o, es, ep, ho, hd, hk⟩ := hn
  obtain ⟨h, tk, rfl, k⟩ := k
  refine ⟨dx, va, vb, k x _ ?_ hx, k dx _ ?_ hdx, r⟩
  · rintro rfl
    rw [hx] at ho
    cases ho
    cases hd
  · rintro rfl
    rw [hdx] at ho
    cases ho
    cases hd
    have := hk.2 y
    rw [hy] at this
    cases this
theorem pair_kp {s s' : Shared} {x : Addr} {a b : List Nat} (k : Keeps s s') (hp : IsPair s.heap x a b) : IsPair s'.heap x a b := by
  obtain ⟨dx, va, vb, hx, hdx, r⟩ := hp
  exact ⟨dx, va, vb, kp_get k hx, kp_get k hdx, r⟩
theorem slice_to {Q : Value → Shared → Prop} {l : List Nat} {t uj : Tok} {j : Nat} (hj : j ≤ l.length) (hl : l.length ≤ 1000) (h : ∀ t' k, Q (.str (tx (l.take j)) t') { s with toks := k }) :
    (sliceMade (tx l) t none (some ((j : Int), uj)) none).post Q s := by
  have e := slice_tx_to hj
  refine post_val_or_str (y := tx l) ⟨Nat.le_trans (Txt.slice_le (tx l) none (some (j : Int))) (Nat.le_trans hl (by decide)), fun t' k => ?_⟩
  have := h t' k
  rw [← e] at this
  exact this
theorem slice_from {Q : Value → Shared → Prop} {l : List Nat} {t ui : Tok} {i : Nat} (hi : i ≤ l.length) (hl : l.length ≤ 1000) (h : ∀ t' k, Q (.str (tx (l.drop i)) t') { s with toks := k }) :
    (sliceMade (tx l) t (some ((i : Int), ui)) none none).post Q s := by
  have e := slice_tx_from hi
  refine post_val_or_str (y := tx l) ⟨Nat.le_trans (Txt.slice_le (tx l) (some (i : Int)) none) (Nat.le_trans hl (by decide)), fun t' k => ?_⟩
  have := h t' k
  rw [← e] at this
  exact this
/-- a name bound to what _law_parsed gives -/
theorem asg_parsed {n : Str} {px p pos spos : Pos} {arg : Expr} {l : List Nat} {outer : List Env} {Q : Flow → Shared → Prop} (f : Fm w s₀ env m cm s) (hd : A.depth + 5 < recursionLimit) (hh : A.handled = none) (hl : l.length ≤ 1000)
    (hfr : A.frames = some (env :: outer)) (hS : Stands s.heap (env :: outer)) (hF : Free w (env :: outer)) (hef : env.frame = some env.locals) (hec : env.cells = [])
    (hk : env.scope.kind = .function) (hln : env.kindOf n = some .local) (hg : env.kindOf (u "_law_parsed") = some .globalImplicit) (hgl : env.globals = mainGlobals)
    (hsw : swapsWith (.Call (.Name (u "_law_parsed") p) [arg] [] pos) (some (.Name n px)) spos.line env = pure false) (hse : backTo pos (starEach [arg] env) = [(false, eval arg env)])
    (harg : wpAny (model pw w) A (eval arg env) (fun v s₂ => ∃ t, v = .str (tx l) t ∧ Keeps s s₂) E s)
    (h1 : 61 ∈ l → ∀ x s₃ s₄, Keeps s s₃ → IsPair s₃.heap x (trim (l.take (cut 61 l))) (trim (l.drop (cut 61 l + 1))) → Fm w s₀ env (upd m n (.ref x)) cm s₄ → KO env.locals s₃ s₄ → Q .next s₄)
    (h2 : 61 ∉ l → ∀ s₂ s₄, Fm w s₂ env (upd m n .none) cm s₄ → KX (spots outer) s₀ s₂ → Stands s₄.heap (env :: outer) → Q .next s₄) :
    wpC (model pw w) A (exec (.Assign [.Name n px] (.Call (.Name (u "_law_parsed") p) [arg] [] pos) spos) env) Q E s := by
  refine asgC hsw ?_
  refine nameC ?_
  refine nm_g f.ik (v := .ref 251) (by kernel_rfl) ?_ hk hg hgl (by decide)
  rw [hse]
  refine cw_fnC (w := w) (o := o251 w.params) (by kernel_rfl) rfl rfl ?_
  refine spliced_cons ?_
  refine wpAny_mono harg (fun v s₂ h₂ => ?_) fun _ _ e => e
  obtain ⟨t, rfl, k2⟩ := h₂
  refine spliced_nil ?_
  have f2 := f.next k2
  refine ⟨f2.ik, wpC_call ?_⟩
  refine parsedC f2.ik hd hh hl hfr (stands_keeps (fun b o e => kp_get k2 e) hS) hF ?_ ?_
  · intro hm x s₃ k3 hx hp
    dsimp only
    refine st_lo (f2.next k3) hk hln fun s₄ f4 k4 => ?_
    exact h1 hm x s₃ s₄ (kp_trans k2 k3) hp f4 k4
  · intro hm s₃ k3
    dsimp only
    obtain ⟨s₅, f5, kx, _⟩ := fm_rebase f2 hef hec hF k3
    refine st_lo f5 hk hln fun s₄ f4 k4 => ?_
    refine h2 hm s₅ s₄ f4 kx ?_
    have hS3 : Stands s₃.heap (env :: outer) := stands_kh (kh_of k3) (stands_keeps (fun b o e => kp_get k2 e) hS)
    have e4 := f4.F.toInCall.ns
    obtain ⟨o, es, ep, ho, hd', _⟩ := e4
    obtain ⟨h, tk, rfl, k4⟩ := k4
    have gen : ∀ {l' : List Env}, Stands s₃.heap l' → Stands h l' := by
      intro l'
      induction l' with
      | nil => exact fun _ => trivial
      | cons e r ih =>
        rintro ⟨hk, ⟨L, o', hf, ho', hd''⟩, hr⟩
        refine ⟨hk, ?_, ih hr⟩
        by_cases hL : L = env.locals
        · subst hL
          exact ⟨_, o, hf, ho, fun vs q => by rw [hd'] at q; cases q⟩
        · exact ⟨L, o', hf, k4 L o' hL ho', hd''⟩
    exact gen hS3
end
end Mine

end
section
open PySem PySem.W PySem.Calls PyProof.Rows PySem.Builtin PySem.Builtin.Str
set_option Elab.async false
set_option maxRecDepth 100000
set_option maxHeartbeats 1000000
namespace Mine
def fd268 (P : Params) : FuncData := match (o268 P).data with | .func fd => fd | _ => default
section
variable {w : World} {A : Around} {E : Value → Shared → Prop} {s : Shared}
/-- a text prepared, as an argument -/
theorem arg_prep {env : Env} {Q : Value → Shared → Prop} {l : List Nat} {p pos : Pos} {arg : Expr} (X : IK w s.heap) (hd : A.depth + 1 < recursionLimit) (hh : A.handled = none) (hl : l.length ≤ 1000)
    (hk : env.scope.kind = .function) (hg : env.kindOf (u "_law_prepared") = some .globalImplicit) (hgl : env.globals = mainGlobals) (hse : starEach [arg] env = [(false, eval arg env)])
    (harg : wpAny (model pw w) A (eval arg env) (fun v s₂ => ∃ t, v = .str (tx l) t ∧ Keeps s s₂ ∧ ∀ t' s', Keeps s s' → Q (.str (tx (prep l)) t') s') E s) :
    wpAny (model pw w) A (eval (.Call (.Name (u "_law_prepared") p) [arg] [] pos) env) Q E s := by
  refine Call_Name1 ?_ hse
  refine nm_g X (v := .ref 244) (by kernel_rfl) ?_ hk hg hgl (by decide)
  refine cw_fn (o := o244 w.params) (by kernel_rfl) rfl ?_
  refine spliced_cons ?_
  refine wpAny_mono harg (fun v s₂ h₂ => ?_) fun _ _ e => e
  obtain ⟨t, rfl, k2, hq⟩ := h₂
  refine spliced_nil ?_
  refine ⟨kp_ik X k2, ?_⟩
  refine call_prep (kp_ik X k2) hd hh l _ hl ?_
  intro s' t' k
  exact hq t' s' (kp_trans k2 k)
theorem notIn_eq {Q : Value → Shared → Prop} {y : Str} {l : List Nat} {t u : Tok} {b : Bool} (hy : y = ⟨#[61]⟩) (hb : (!l.contains 61) = b) (h : Q (.bool b) s) : wpAny (model pw w) A (compareOp .NotIn (.str y u) (.str (tx l) t)) Q E s := by
  subst hy
  refine PyProof.Rows.notIn_str ?_
  rw [found_tx, hb]
  exact h
theorem index_eq {Q : Value → Shared → Prop} {y : Str} {l : List Nat} {t u : Tok} (hy : y = ⟨#[61]⟩) (hm : 61 ∈ l) (h : Q (.int ((cut 61 l : Nat) : Int) s.toks) { s with toks := s.toks + 1 }) : wpAny (model pw w) A (call (.builtin "str.index") [.str (tx l) t, .str y u]) Q E s := by
  subst hy
  exact call_gives F.slot_str_index (typeIs_str _ _ _) F.entry_str_index (F.args_str_index_2 _ _) (gives_str_index _ _ t u (cut 61 l) [] (occ_tx hm)) h
theorem arg_bare {env : Env} {s₀ : Shared} {m cm : Str → Option Value} {Q : Value → Shared → Prop} {p pos pb : Pos} {arg : Expr} {t2 : Tok} (f : Fm w s₀ env m cm s) (hd : A.depth < recursionLimit) (hh : A.handled = none) (hu : A.units + 80 < cLine)
    (hk : env.scope.kind = .function) (hg : env.kindOf (u "_law_bare") = some .globalImplicit) (hgl : env.globals = mainGlobals) (hbl : env.kindOf (u "blanks") = some .local) (hb : m (u "blanks") = some (.str (tx blanksL) t2))
    (hse : starEach [arg, .Name (u "blanks") pb] env = [(false, eval arg env), (false, eval (.Name (u "blanks") pb) env)])
    (harg : wpAny (model pw w) A (eval arg env) (fun v s₂ => ∃ p t, v = .str (tx p) t ∧ p.length ≤ 1000 ∧ Keeps s s₂ ∧ ∀ t' s', Keeps s s' → Q (.str (tx (bare p)) t') s') E s) :
    wpAny (model pw w) A (eval (.Call (.Name (u "_law_bare") p) [arg, .Name (u "blanks") pb] [] pos) env) Q E s := by
  refine Call_Name2 ?_ hse
  refine nm_g f.ik (v := .ref 256) (by kernel_rfl) ?_ hk hg hgl (by decide)
  refine cw_fn (o := o256 w.params) (by kernel_rfl) rfl ?_
  refine spliced_cons ?_
  refine wpAny_mono harg (fun v s₂ h₂ => ?_) fun _ _ e => e
  obtain ⟨p, t, rfl, hp, k2, hq⟩ := h₂
  have f2 := f.next k2
  refine spliced_cons ?_
  refine nm_l f2 hb ?_ hk hbl (by decide)
  refine spliced_nil ?_
  refine ⟨f2.ik, ?_⟩
  refine call_bare f2.ik hd hh hu p _ _ hp ?_
  intro s' t' k
  exact hq t' s' (kp_trans k2 k)
theorem upd_other {m : Str → Option Value} {n y : Str} {v : Value} (h : y ≠ n) : upd m n v y = m y := if_neg h
theorem trim_len (t : List Nat) : (trim t).length ≤ t.length := by
  have := congrArg List.length (core_trim t).eq
  rw [List.length_append, List.length_append] at this
  omega
theorem ne_same {Q : Value → Shared → Prop} {a b : List Nat} {t u : Tok} (e : a = b) (h : Q (.bool false) s) : wpAny (model pw w) A (compareOp .NotEq (.str (tx a) t) (.str (tx b) u)) Q E s := by
  subst e
  refine PyProof.Rows.ne_str ?_
  rw [show ((tx a) != (tx a)) = false by simp]
  exact h
theorem ne_same_int {Q : Value → Shared → Prop} {a b : Int} {t u : Tok} (e : a = b) (h : Q (.bool false) s) : wpAny (model pw w) A (compareOp .NotEq (.int a t) (.int b u)) Q E s := by
  subst e
  refine PyProof.Rows.ne_int ?_
  rw [show (a != a) = false by simp]
  exact h
theorem rightC {l : List Nat} {t t2 t3 : Tok} {outer : List Env} {R : Result → Shared → Prop} (X : IK w s.heap) (hd : A.depth + 10 < recursionLimit) (hh : A.handled = none) (hu : A.units + 100 < cLine) (hl : l.length ≤ 100) (hfr : A.frames = some outer) (hS : Stands s.heap outer) (hF : Free w outer)
    (h : ∀ s', KX (spots outer) s s' → R (.ok (.ret (.bool true))) s') :
    codeC (model pw w) A (.call (.ref 268) ⟨[.str (tx l) t, .str (tx blanksL) t2, .str (tx nothingsL) t3], []⟩) R s := by
  refine callFC (o := o268 w.params) (fd := fd268 w.params) (binds := [(u "text", .str (tx l) t), (u "blanks", .str (tx blanksL) t2), (u "nothings", .str (tx nothingsL) t3)]) X (by omega) (by kernel_rfl) rfl (by kernel_rfl) rfl (by kernel_rfl) rfl (by kernel_rfl) (by kernel_rfl) (by kernel_rfl) (by kernel_rfl) fun s₁ f => ?_
  have hL := none_new s.heap (Nat.le_refl _)
  have hk1 := f.keeps
  have hS1 := stands_cons (env := callEnvC (fd268 w.params) s.heap.objs.size 268) (by intro q; cases q) rfl f.F.toInCall.ns hS (fun b o e => kp_get hk1 e)
  have hF1 := free_cons (env := callEnvC (fd268 w.params) s.heap.objs.size 268) (L := s.heap.objs.size) rfl (ik_fresh X hL) hF
  have hfr1 : (A.deeper (callEnvC (fd268 w.params) s.heap.objs.size 268)).frames = some (callEnvC (fd268 w.params) s.heap.objs.size 268 :: outer) := Around.frames_deeper hfr
  have hpl : (prep l).length ≤ 1000 := by have := prep_len l; omega
  have hd1 : (A.deeper (callEnvC (fd268 w.params) s.heap.objs.size 268)).depth + 5 < recursionLimit := by
    show A.depth + 1 + 5 < _
    omega
  refine consC ?_
  refine asg_parsed (l := l) f hd1 hh (by omega) hfr1 hS1 hF1 rfl rfl rfl (by kernel_rfl) (by kernel_rfl) rfl rfl rfl ?_ ?_ ?_
  · refine nm_l f (v := .str (tx l) t) (by kernel_rfl) ?_ rfl (by kernel_rfl) (by decide)
    exact ⟨t, rfl, kp_refl _⟩
  · intro hm x s₃ s₂ k3 hp f2 o2
    dsimp only
    have hp2 := pair_lo o2 (f.next k3).F.toInCall.ns (y := u "text") (v := .str (tx l) t) (by kernel_rfl) hp
    refine consC ?_
    have f2' := f.next k3
    have hS2 : Stands s₂.heap (callEnvC (fd268 w.params) s.heap.objs.size 268 :: outer) := by
      refine stands_cons (h := s.heap) (by intro q; cases q) rfl f2.F.toInCall.ns hS (fun b o e => ?_)
      exact kp_get f2.keeps e
    refine asg_parsed (l := prep l) f2 hd1 hh hpl hfr1 hS2 hF1 rfl rfl rfl (by kernel_rfl) (by kernel_rfl) rfl rfl rfl ?_ ?_ ?_
    rotate_left 2
    · intro hm2
      exact absurd ((prep_eq_sign l).mpr hm) hm2
    · refine arg_prep (l := l) f2.ik (by omega) hh (by omega) rfl (by kernel_rfl) rfl rfl ?_
      refine nm_l f2 (v := .str (tx l) t) (by kernel_rfl) ?_ rfl (by kernel_rfl) (by decide)
      exact ⟨t, rfl, kp_refl _, fun t' s' k => ⟨t', rfl, k⟩⟩
    intro hm2 y s₄ s₅ k4 hq4 f5 o5
    dsimp only
    rw [(prep_pieces hm).1, (prep_pieces hm).2] at hq4
    have hp4 := pair_kp k4 hp2
    have hp5 := pair_lo o5 (f2.next k4).F.toInCall.ns (y := u "text") (v := .str (tx l) t) (by kernel_rfl) hp4
    have hq5 := pair_lo o5 (f2.next k4).F.toInCall.ns (y := u "text") (v := .str (tx l) t) (by kernel_rfl) hq4
    refine wpC_any ?_
    refine wpAny_execs_cons ?_
    refine wpAny_If ?_
    refine wpAny_isTrue_Compare1 ?_
    refine wpAny_Constant_str ?_
    have f6 := f5.next (kp_tok s₅ (s₅.toks + 1))
    have hp6 := pair_kp (kp_tok s₅ (s₅.toks + 1)) hp5
    have hq6 := pair_kp (kp_tok s₅ (s₅.toks + 1)) hq5
    refine nm_l f6 (v := .str (tx l) t) (by kernel_rfl) ?_ rfl (by kernel_rfl) (by decide)
    refine notIn_eq rfl (b := false) (by simpa using hm) ?_
    refine wpAny_truthy_bool ?_
    show wpAny _ _ (execs [] _) _ _ _
    refine wpAny_execs_nil ?_
    show wpAny _ _ (execs _ _) _ _ _
    refine wpAny_execs_cons ?_
    refine wpAny_Assign_Name ?_ ?_
    rotate_left
    · rfl
    refine mcall ?_ ?_ ?_ ?_
    iterate 3 kernel_rfl
    refine nm_l f6 (v := .str (tx l) t) (by kernel_rfl) ?_ rfl (by kernel_rfl) (by decide)
    intro pl
    refine GM.index ?_
    refine cw_bs ?_ ?_ ?_
    iterate 2 kernel_rfl
    refine spliced_more ?_
    refine wpAny_Constant_str ?_
    refine spliced_none ?_
    refine index_eq rfl hm ?_
    have k7 := kp_tok { s₅ with toks := s₅.toks + 1 } (s₅.toks + 1 + 1 + 1)
    have f7 := f6.next k7
    have hp7 := pair_kp k7 hp6
    have hq7 := pair_kp k7 hq6
    refine st_lo f7 rfl (by kernel_rfl) fun s₈ f8 o8 => ?_
    have hp8 := pair_lo o8 f7.F.toInCall.ns (y := u "text") (v := .str (tx l) t) (by kernel_rfl) hp7
    have hq8 := pair_lo o8 f7.F.toInCall.ns (y := u "text") (v := .str (tx l) t) (by kernel_rfl) hq7
    dsimp only
    refine wpAny_execs_cons ?_
    refine wpAny_If ?_
    refine isTrue_or ?_
    refine wpAny_isTrue_Compare1 ?_
    refine nm_l f8 (v := .ref y) (by kernel_rfl) ?_ rfl (by kernel_rfl) (by decide)
    refine wpAny_Constant_none ?_
    refine is_ref_none ?_
    refine wpAny_truthy_bool ?_
    show wpAny _ _ (PySem.isTrue _ _ _) _ _ _
    refine isTrue_or ?_
    refine wpAny_isTrue_Compare1 ?_
    refine nm_l f8 (v := .ref x) (by kernel_rfl) ?_ rfl (by kernel_rfl) (by decide)
    refine wpAny_Tuple ?_
    refine spliced_more ?_
    have hcl := cut_le 61 l
    have hcl2 : cut 61 l < l.length := by
      have := cut_at hm
      obtain ⟨h0, _⟩ := List.getElem?_eq_some_iff.mp this
      exact h0
    have hd2 : (A.deeper (callEnvC (fd268 w.params) s.heap.objs.size 268)).depth + 1 < recursionLimit := by
      show A.depth + 1 + 1 < _
      omega
    have hu2 : (A.deeper (callEnvC (fd268 w.params) s.heap.objs.size 268)).units + 90 < cLine := by
      show A.units + 3 + 90 < cLine
      omega
    refine arg_bare f8 (by omega) hh (by omega) rfl (by kernel_rfl) rfl (by kernel_rfl) (t2 := t2) (by kernel_rfl) rfl ?_
    refine wpAny_Subscript_str_slice ?_ ?_
    rotate_left
    · intro _ _; rfl
    refine nm_l f8 (v := .str (tx l) t) (by kernel_rfl) ?_ rfl (by kernel_rfl) (by decide)
    show wpAny _ _ (pure Value.none) _ _ _
    refine wpAny_pure ?_
    show wpAny _ _ (PySem.eval _ _) _ _ _
    refine nm_l f8 (upd_self _ _ _) ?_ rfl (by kernel_rfl) (by decide)
    refine ⟨tx l, t, none, some (((cut 61 l : Nat) : Int), _), rfl, rfl, rfl, ?_⟩
    refine slice_to hcl (by omega) ?_
    intro ta ka
    refine ⟨_, _, rfl, by rw [List.length_take]; omega, ⟨_, _, rfl, fun _ _ e => Heap.get?_push_of_some _ e⟩, ?_⟩
    intro tb s₉ k9
    have f9 := f8.next k9
    refine spliced_more ?_
    refine arg_bare f9 (by omega) hh (by omega) rfl (by kernel_rfl) rfl (by kernel_rfl) (t2 := t2) (by kernel_rfl) rfl ?_
    refine wpAny_Subscript_str_slice ?_ ?_
    rotate_left
    · intro _ _; rfl
    refine nm_l f9 (v := .str (tx l) t) (by kernel_rfl) ?_ rfl (by kernel_rfl) (by decide)
    show wpAny _ _ (PySem.eval _ _) _ _ _
    refine wpAny_BinOp ?_
    refine nm_l f9 (upd_self _ _ _) ?_ rfl (by kernel_rfl) (by decide)
    refine wpAny_Constant_int ?_
    refine add_int ?_
    show wpAny _ _ (pure Value.none) _ _ _
    refine wpAny_pure ?_
    refine ⟨tx l, t, some (((cut 61 l + 1 : Nat) : Int), _), none, rfl, rfl, rfl, ?_⟩
    refine slice_from (by omega) (by omega) ?_
    intro tc kc
    refine ⟨_, _, rfl, by rw [List.length_drop]; omega, ⟨_, _, rfl, fun _ _ e => Heap.get?_push_of_some _ e⟩, ?_⟩
    intro td s₁₀ k10
    have f10 := f9.next k10
    refine spliced_none ?_
    refine ⟨by show (2 : Nat) ≤ sizeLine; decide, ?_⟩
    have k11 := kp_push (s := s₁₀) { cls := .type "tuple", data := .seq ([Value.str (tx (bare (List.take (cut 61 l) l))) tb, Value.str (tx (bare (List.drop (cut 61 l + 1) l))) td] : List Value).toArray }
    have f11 := f10.next k11
    have hp11 := pair_kp (kp_trans (kp_trans k9 k10) k11) hp8
    have hq11 := pair_kp (kp_trans (kp_trans k9 k10) k11) hq8
    refine pair_ne (a := trim (List.take (cut 61 l) l)) (b := trim (List.drop (cut 61 l + 1) l)) f11.ik (by omega) hp11 ⟨_, Heap.get?_push_size _ rfl, rfl, _, rfl⟩ ⟨tb, by rw [trim_bare]⟩ ⟨td, by rw [trim_bare]⟩ ?_
    refine wpAny_truthy_bool ?_
    show wpAny _ _ (PySem.isTrue _ _ _) _ _ _
    refine isTrue_or_nil ?_
    show wpAny _ _ (execs [] _) _ _ _
    refine wpAny_execs_nil ?_
    show wpAny _ _ (execs _ _) _ _ _
    refine wpAny_execs_cons ?_
    refine for2 f11 (fun m' => m' (u "blanks") = some (.str (tx blanksL) t2) ∧ m' (u "nothings") = some (.str (tx nothingsL) t3)) hh rfl (by kernel_rfl) (by kernel_rfl) (fun _ => rfl) rfl rfl ?_
    refine wpAny_List ?_
    refine spliced_more ?_
    refine wpAny_Tuple ?_
    refine spliced_more ?_
    refine Attribute_name ?_
    refine nm_l f11 (v := .ref x) (by kernel_rfl) ?_ rfl (by kernel_rfl) (by decide)
    refine pair_name f11.ik hd2 hp11 ?_
    intro v1 s₁₂ k12
    have f12 := f11.next k12
    refine spliced_more ?_
    refine Attribute_name ?_
    refine nm_l f12 (v := .ref y) (by kernel_rfl) ?_ rfl (by kernel_rfl) (by decide)
    refine pair_name f12.ik hd2 (pair_kp k12 hq11) ?_
    intro v2 s₁₃ k13
    have f13 := f12.next k13
    refine spliced_none ?_
    refine ⟨by show (2 : Nat) ≤ sizeLine; decide, ?_⟩
    have k14 := kp_push (s := s₁₃) { cls := .type "tuple", data := .seq ([Value.str (tx (trim (List.take (cut 61 l) l))) v1, Value.str (tx (trim (prep (List.take (cut 61 l) l)))) v2] : List Value).toArray }
    have f14 := f13.next k14
    have hT1 : IsTup (s₁₃.heap.push { cls := .type "tuple", data := .seq ([Value.str (tx (trim (List.take (cut 61 l) l))) v1, Value.str (tx (trim (prep (List.take (cut 61 l) l)))) v2] : List Value).toArray }) s₁₃.heap.objs.size _ := ⟨_, Heap.get?_push_size _ rfl, rfl, _, rfl⟩
    refine spliced_more ?_
    refine wpAny_Tuple ?_
    refine spliced_more ?_
    refine Attribute_name ?_
    refine nm_l f14 (v := .ref x) (by kernel_rfl) ?_ rfl (by kernel_rfl) (by decide)
    refine pair_value f14.ik hd2 (pair_kp k14 (pair_kp k13 (pair_kp k12 hp11))) ?_
    intro v3 s₁₅ k15
    have f15 := f14.next k15
    refine spliced_more ?_
    refine Attribute_name ?_
    refine nm_l f15 (v := .ref y) (by kernel_rfl) ?_ rfl (by kernel_rfl) (by decide)
    refine pair_value f15.ik hd2 (pair_kp k15 (pair_kp k14 (pair_kp k13 (pair_kp k12 hq11)))) ?_
    intro v4 s₁₆ k16
    have f16 := f15.next k16
    refine spliced_none ?_
    refine ⟨by show (2 : Nat) ≤ sizeLine; decide, ?_⟩
    refine spliced_none ?_
    refine ⟨by show (2 : Nat) ≤ sizeLine; decide, ?_⟩
    have k17 := kp_push (s := s₁₆) { cls := .type "tuple", data := .seq ([Value.str (tx (trim (List.drop (cut 61 l + 1) l))) v3, Value.str (tx (trim (prep (List.drop (cut 61 l + 1) l)))) v4] : List Value).toArray }
    have f17 := f16.next k17
    have k18 := kp_push (s := { s₁₆ with heap := s₁₆.heap.push { cls := .type "tuple", data := .seq ([Value.str (tx (trim (List.drop (cut 61 l + 1) l))) v3, Value.str (tx (trim (prep (List.drop (cut 61 l + 1) l)))) v4] : List Value).toArray } }) { cls := .type "list", data := .seq ([Value.ref s₁₃.heap.objs.size, Value.ref s₁₆.heap.objs.size] : List Value).toArray }
    have f18 := f17.next k18
    refine ⟨_, _, _, fun j => if j = 0 then (.str (tx (trim (List.take (cut 61 l) l))) v1, .str (tx (trim (prep (List.take (cut 61 l) l)))) v2) else (.str (tx (trim (List.drop (cut 61 l + 1) l))) v3, .str (tx (trim (prep (List.drop (cut 61 l + 1) l)))) v4), rfl, f18, ⟨by kernel_rfl, by kernel_rfl⟩, ⟨_, Heap.get?_push_size _ rfl⟩, ?_, ?_, ?_⟩
    · intro j v e
      have hj : j < 2 := by
        obtain ⟨h0, _⟩ := Array.getElem?_eq_some_iff.mp e
        exact h0
      match j, hj with
      | 0, _ =>
        cases e
        refine ⟨_, rfl, ?_⟩
        have kk := kp_trans (kp_trans (kp_trans k15 k16) k17) k18
        obtain ⟨o, eo, r⟩ := hT1
        exact ⟨o, kp_get kk eo, r⟩
      | 1, _ =>
        cases e
        exact ⟨_, rfl, _, kp_get k18 (Heap.get?_push_size _ rfl), rfl, _, rfl⟩
    · intro i m' s' E' hi hJ' f' kl'
      obtain ⟨P, w1, w2, hPl, fP⟩ : ∃ (P : List Nat) (w1 w2 : Tok), P.length ≤ 100 ∧ Fm w s (callEnvC (fd268 w.params) s.heap.objs.size 268) (upd (upd m' (Str.ofString "part") (.str (tx (trim P)) w1)) (Str.ofString "told") (.str (tx (trim (prep P))) w2))
          (bindC (callEnvC (fd268 w.params) s.heap.objs.size 268).kindOf [(u "text", .str (tx l) t), (u "blanks", .str (tx blanksL) t2), (u "nothings", .str (tx nothingsL) t3)] fun _ => none) s' := by
        have hi2 : i < 2 := hi
        have hi3 : i = 0 ∨ i = 1 := by omega
        rcases hi3 with rfl | rfl
        · exact ⟨List.take (cut 61 l) l, v1, v2, by rw [List.length_take]; omega, f'⟩
        · exact ⟨List.drop (cut 61 l + 1) l, v3, v4, by rw [List.length_drop]; omega, f'⟩
      clear f'
      have hPt : (trim P).length ≤ 100 := Nat.le_trans (trim_len P) hPl
      have hPp : (prep (trim P)).length ≤ 1000 := by have := prep_len (trim P); omega
      obtain ⟨hb', hn'⟩ := hJ'
      have hbl : (upd (upd m' (Str.ofString "part") (.str (tx (trim P)) w1)) (Str.ofString "told") (.str (tx (trim (prep P))) w2)) (u "blanks") = some (.str (tx blanksL) t2) := by rw [upd_other (by decide), upd_other (by decide)]; exact hb'
      have hno : (upd (upd m' (Str.ofString "part") (.str (tx (trim P)) w1)) (Str.ofString "told") (.str (tx (trim (prep P))) w2)) (u "nothings") = some (.str (tx nothingsL) t3) := by rw [upd_other (by decide), upd_other (by decide)]; exact hn'
      have hpa : (upd (upd m' (Str.ofString "part") (.str (tx (trim P)) w1)) (Str.ofString "told") (.str (tx (trim (prep P))) w2)) (u "part") = some (.str (tx (trim P)) w1) := by rw [upd_other (by decide)]; exact upd_self _ _ _
      have hto : (upd (upd m' (Str.ofString "part") (.str (tx (trim P)) w1)) (Str.ofString "told") (.str (tx (trim (prep P))) w2)) (u "told") = some (.str (tx (trim (prep P))) w2) := upd_self _ _ _
      generalize (upd (upd m' (Str.ofString "part") (.str (tx (trim P)) w1)) (Str.ofString "told") (.str (tx (trim (prep P))) w2)) = mP at fP hbl hno hpa hto
      refine wpAny_execs_cons ?_
      refine wpAny_Assign_Name ?_ ?_
      rotate_left
      · rfl
      refine arg_prep (l := trim P) fP.ik (by omega) hh (by omega) rfl (by kernel_rfl) rfl rfl ?_
      refine nm_l fP hpa ?_ rfl (by kernel_rfl) (by decide)
      refine ⟨w1, rfl, kp_refl _, ?_⟩
      intro u1 s₂₀ k20
      have f20 := fP.next k20
      refine st_lk f20 rfl (by kernel_rfl) fun s₂₁ f21 k21 => ?_
      dsimp only
      refine wpAny_execs_cons ?_
      refine wpAny_If ?_
      refine wpAny_isTrue_Compare1 ?_
      refine nm_l f21 (v := .str (tx (trim (prep P))) w2) hto ?_ rfl (by kernel_rfl) (by decide)
      refine arg_bare f21 (by omega) hh (by omega) rfl (by kernel_rfl) rfl (by kernel_rfl) (t2 := t2) hbl rfl ?_
      refine nm_l f21 (upd_self _ _ _) ?_ rfl (by kernel_rfl) (by decide)
      refine ⟨_, _, rfl, hPp, kp_refl _, ?_⟩
      intro u2 s₂₂ k22
      have f22 := f21.next k22
      refine ne_same (told_bare P) ?_
      refine wpAny_truthy_bool ?_
      show wpAny _ _ (execs [] _) _ _ _
      refine wpAny_execs_nil ?_
      show wpAny _ _ (execs _ _) _ _ _
      refine wpAny_execs_cons ?_
      refine wpAny_If ?_
      refine wpAny_isTrue_Compare1 ?_
      refine Call_Name1 ?_ rfl
      refine nm_b (v := .builtin "len") f22.ik (by kernel_rfl) (by kernel_rfl) ?_ rfl (by kernel_rfl) rfl rfl (by decide)
      refine cw_b1 ?_
      refine nm_l f22 (upd_self _ _ _) ?_ rfl (by kernel_rfl) (by decide)
      refine PyProof.Rows.len_str ?_ ?_
      · show ¬ (((prep (trim P)).length : Nat) : Int) ≥ 2 ^ 63
        omega
      have k23 : Keeps s₂₂ { s₂₂ with toks := s₂₂.toks + 1 + 1 } := kp_tok s₂₂ _
      have f23 := f22.next k23
      refine wpAny_BinOp ?_
      refine Call_Name1 ?_ rfl
      refine nm_b (v := .builtin "len") f23.ik (by kernel_rfl) (by kernel_rfl) ?_ rfl (by kernel_rfl) rfl rfl (by decide)
      refine cw_b1 ?_
      refine nm_l f23 (v := .str (tx (trim (prep P))) w2) hto ?_ rfl (by kernel_rfl) (by decide)
      have hPq : (trim (prep P)).length ≤ 1000 := by
        have h1 := trim_len (prep P)
        have h2 := prep_len P
        omega
      refine PyProof.Rows.len_str ?_ ?_
      · show ¬ (((trim (prep P)).length : Nat) : Int) ≥ 2 ^ 63
        omega
      have k24 : Keeps { s₂₂ with toks := s₂₂.toks + 1 + 1 } { s₂₂ with toks := s₂₂.toks + 1 + 1 + 1 + 1 } := kp_tok _ _
      have f24 := f23.next k24
      refine wpAny_Call_NameR ?_
      refine nm_g f24.ik (v := .ref 261) (by kernel_rfl) ?_ rfl (by kernel_rfl) rfl (by decide)
      show wpAny _ _ (callWith _ (.ref 261) [] [(false, PySem.eval _ _), (false, PySem.eval _ _), (false, PySem.eval _ _)] []) _ _ _
      refine cw_fn (o := o261 w.params) (by kernel_rfl) rfl ?_
      refine spliced_cons ?_
      refine nm_l f24 (v := .str (tx (trim P)) w1) hpa ?_ rfl (by kernel_rfl) (by decide)
      refine spliced_cons ?_
      refine nm_l f24 (v := .str (tx blanksL) t2) hbl ?_ rfl (by kernel_rfl) (by decide)
      refine spliced_cons ?_
      refine nm_l f24 (v := .str (tx nothingsL) t3) hno ?_ rfl (by kernel_rfl) (by decide)
      refine spliced_nil ?_
      refine ⟨f24.ik, ?_⟩
      refine call_shielded (A := A.deeper (callEnvC (fd268 w.params) s.heap.objs.size 268)) f24.ik (by omega) hh (by omega) (trim P) _ _ _ (by omega) ?_
      intro s₂₅ u3 k25
      have f25 := f24.next k25
      refine add_int ?_
      have k26 : Keeps s₂₅ { s₂₅ with toks := s₂₅.toks + 1 } := kp_tok s₂₅ _
      have f26 := f25.next k26
      refine ne_same_int ?_ ?_
      · have e := shield_len (trim P)
        rw [← told_bare P] at e
        exact e
      refine wpAny_truthy_bool ?_
      show wpAny _ _ (execs [] _) _ _ _
      refine wpAny_execs_nil ?_
      show wpAny _ _ (execs [] _) _ _ _
      refine wpAny_execs_nil ?_
      refine ⟨rfl, _, ⟨?_, ?_⟩, f26, ?_⟩
      · rw [upd_other (by decide)]; exact hbl
      · rw [upd_other (by decide)]; exact hno
      · exact kl_trans (kl_of k20) (kl_trans k21 (kl_of (kp_trans k22 (kp_trans k23 (kp_trans k24 (kp_trans k25 k26))))))
    · intro m' s' hJ' f'
      show wpAny _ _ (execs _ _) _ _ _
      refine wpAny_execs_cons ?_
      refine wpAny_Return_some ?_
      refine wpAny_Constant_bool ?_
      exact h _ (kx_of _ f'.keeps)
  · intro hm s₂ s₃ f2 kx2 hS2
    dsimp only
    refine consC ?_
    refine asg_parsed (l := prep l) f2 hd1 hh hpl hfr1 hS2 hF1 rfl rfl rfl (by kernel_rfl) (by kernel_rfl) rfl rfl rfl ?_ ?_ ?_
    · refine arg_prep (l := l) f2.ik (by omega) hh (by omega) rfl (by kernel_rfl) rfl rfl ?_
      refine nm_l f2 (v := .str (tx l) t) (by kernel_rfl) ?_ rfl (by kernel_rfl) (by decide)
      exact ⟨t, rfl, kp_refl _, fun t' s' k => ⟨t', rfl, k⟩⟩
    · intro hm2
      exact absurd ((prep_eq_sign l).mp hm2) hm
    · intro _ s₄ s₅ f5 kx5 hS5
      dsimp only
      refine wpC_any ?_
      refine wpAny_execs_cons ?_
      refine wpAny_If ?_
      refine wpAny_isTrue_Compare1 ?_
      refine wpAny_Constant_str ?_
      have f6 := f5.next (kp_tok s₅ (s₅.toks + 1))
      refine nm_l f6 (v := .str (tx l) t) (by kernel_rfl) ?_ rfl (by kernel_rfl) (by decide)
      refine notIn_eq rfl (b := true) (by simpa using hm) ?_
      refine wpAny_truthy_bool ?_
      show wpAny _ _ (execs _ _) _ _ _
      refine wpAny_execs_cons ?_
      refine wpAny_Return_some ?_
      refine BoolOp_and ?_
      refine wpAny_Compare1 ?_
      refine nm_l f6 (v := .none) (by kernel_rfl) ?_ rfl (by kernel_rfl) (by decide)
      refine wpAny_Constant_none ?_
      refine is_none_none ?_
      refine wpAny_truthy_bool ?_
      show wpAny _ _ (PySem.eval _ _) _ _ _
      refine BoolOp_one ?_
      refine wpAny_Compare1 ?_
      refine nm_l f6 (v := .none) (by kernel_rfl) ?_ rfl (by kernel_rfl) (by decide)
      refine wpAny_Constant_none ?_
      refine is_none_none ?_
      refine h _ ?_
      exact kx_trans (kx_trans kx2 kx5) (kx_of _ f6.keeps)
end
end Mine

end
section
open PySem PySem.W PySem.Calls PyProof.Rows PySem.Builtin PySem.Builtin.Str
set_option Elab.async false
set_option maxRecDepth 100000
namespace Mine
theorem pick_mem {items : Array Value} {lo hi : Option Int} {v : Value} (h : v ∈ (slicePick items lo hi none).toList) : v ∈ items.toList := by
  unfold slicePick at h
  simp only [List.mem_filterMap] at h
  obtain ⟨i, _, e⟩ := h
  exact List.mem_of_getElem? (by simpa using e)
theorem range_one (a b : Int) : (sliceRange a b 1).length = (b - a).toNat := by
  unfold sliceRange
  rw [List.length_map, List.length_range, if_pos (by decide)]
  split
  · congr 1; omega
  · omega
theorem pick_size (items : Array Value) (lo hi : Option Int) : (slicePick items lo hi none).size ≤ ((sliceBounds lo hi none items.size).2.1 - (sliceBounds lo hi none items.size).1).toNat := by
  unfold slicePick
  rw [List.size_toArray]
  refine Nat.le_trans (List.length_filterMap_le _ _) ?_
  have e : (sliceBounds lo hi none items.size).2.2 = 1 := rfl
  rw [e, range_one]
  exact Nat.le_refl _
theorem pick_to (items : Array Value) : (slicePick items none (some 3) none).size ≤ 3 := by
  refine Nat.le_trans (pick_size _ _ _) ?_
  simp only [sliceBounds, Option.getD_none]
  simp
  omega
theorem pick_mid (items : Array Value) : (slicePick items (some 3) (some 6) none).size ≤ 3 := by
  refine Nat.le_trans (pick_size _ _ _) ?_
  simp only [sliceBounds, Option.getD_none]
  simp
  omega
/-- every value is such a thing -/
theorem paired_all {α : Type} {R : α → Value → Prop} : ∀ {vs : List Value}, (∀ v ∈ vs, ∃ c, R c v) → ∃ cs : List α, Paired R cs vs
  | [], _ => ⟨[], .nil⟩
  | v :: vs, h => by
    obtain ⟨c, hc⟩ := h v (by simp)
    obtain ⟨cs, hcs⟩ := paired_all (vs := vs) fun v hv => h v (List.mem_cons_of_mem _ hv)
    exact ⟨c :: cs, .cons hc hcs⟩
theorem all_paired {α : Type} {R : α → Value → Prop} {cs : List α} {vs : List Value} (h : Paired R cs vs) : ∀ v ∈ vs, ∃ c, R c v := fun v hv => by
  obtain ⟨i, hi, e⟩ := List.getElem_of_mem hv
  obtain ⟨c, _, hc⟩ := prd_at h i v (by rw [List.getElem?_eq_getElem hi, e])
  exact ⟨c, hc⟩
/-- every value of a row is a sign -/
def AllSign (vs : List Value) : Prop := ∀ v ∈ vs, ∃ c, IsSign c v
def IsInt (i : Int) (v : Value) : Prop := ∃ u, v = .int i u
def AllInt (vs : List Value) : Prop := ∀ v ∈ vs, ∃ i, IsInt i v
section
variable {w : World} {A : Around} {E : Value → Shared → Prop} {s s₀ : Shared} {env : Env} {m cm : Str → Option Value}
/-- a list's slice -/
theorem lslice {value : Expr} {lower upper : Option Expr} {p pos : Pos} {Q : Value → Shared → Prop} {l : Addr} {items : Array Value} {lo hi : Option Int}
    (h : wpAny (model pw w) A (eval value env) (fun o s₁ => wpAny (model pw w) A (evalPart lower env) (fun vl s₂ => wpAny (model pw w) A (evalPart upper env) (fun vu s₃ =>
      o = .ref l ∧ s₃.heap.IsList l items ∧ items.size ≤ 1000 ∧ IsPart vl lo ∧ IsPart vu hi ∧
        ∀ D s', Keeps s₃ s' → s₃.heap.get? D = none → s'.heap.PlainList D (slicePick items lo hi none) → Q (.ref D) s') E s₂) E s₁) E s)
    (ht : ∀ o r, letTemporaryGo value o r = pure ()) :
    wpAny (model pw w) A (eval (.Subscript value (.Slice lower upper none p) pos) env) Q E s := by
  refine wpAny_Subscript_list_slice (wpAny_mono h (fun o s₁ h₁ => wpAny_mono h₁ (fun vl s₂ h₂ => wpAny_mono h₂ (fun vu s₃ h₃ => ?_) fun _ _ e => e) fun _ _ e => e) fun _ _ e => e) ht
  obtain ⟨rfl, hl, hsz, pl, pu, hQ⟩ := h₃
  refine ⟨l, items, lo, hi, rfl, hl, Nat.le_trans hsz (by decide), pl, pu, hQ _ _ ⟨_, s₃.toks, rfl, fun b o e => Heap.get?_push_of_some _ (Heap.get?_push_of_some _ e)⟩ (none_new _ (Nat.le_succ _)) ⟨0, ?_⟩⟩
  have e1 := Heap.get?_push_size (s₃.heap.push { cls := .type "slice", data := .fields #[vl, vu, .none] }) (o := { cls := .type "list", data := .seq (slicePick items lo hi none) }) rfl
  rw [Heap.size_push] at e1
  exact e1
/-- kept but for frames and one list -/
def KT (T : Addr) (s s' : Shared) : Prop := ∃ h tk, s' = { s with heap := h, toks := tk } ∧ ∀ b o, b ≠ T → s.heap.get? b = some o → frm o = false → h.get? b = some o
theorem kt_of {s s' : Shared} (T : Addr) (k : KL s s') : KT T s s' := let ⟨h, t, e, r⟩ := k; ⟨h, t, e, fun b o _ e f => r b o e f⟩
theorem kt_trans {T : Addr} {s s' s'' : Shared} (a : KT T s s') (b : KT T s' s'') : KT T s s'' := by
  obtain ⟨h, t, rfl, k⟩ := a
  obtain ⟨h', t', rfl, k'⟩ := b
  exact ⟨h', t', rfl, fun b o n e f => k' b o n (k b o n e f) f⟩
theorem kt_get {T : Addr} {s s' : Shared} (k : KT T s s') {b : Addr} {o : Obj} (n : b ≠ T) (e : s.heap.get? b = some o) (f : frm o = false) : s'.heap.get? b = some o := by
  obtain ⟨h, t, rfl, k⟩ := k; exact k b o n e f
theorem kt_plain {T : Addr} {s s' : Shared} (k : KT T s s') {l : Addr} {xs : Array Value} (n : l ≠ T) (h : s.heap.PlainList l xs) : s'.heap.PlainList l xs := let ⟨q, e⟩ := h; ⟨q, kt_get k n e rfl⟩
/-- a loop over range, that appends to one list -/
theorem forK {x : Str} {px pos rp rpos : Pos} {e : Expr} {body : List Stmt} {Q : Flow → Shared → Prop} (T : Addr) (Inv : List Value → Prop) (f : Fm w s₀ env m cm s) (hh : A.handled = none) (hT0 : s₀.heap.get? T = none)
    (hk : env.scope.kind = .function) (hl : env.kindOf (u "range") = some .globalImplicit) (hg : env.globals = mainGlobals) (hb : env.builtins = builtinsNs) (hse : backTo rpos (starEach [e] env) = [(false, eval e env)])
    (hx : env.kindOf x = some .local) (hs : ∀ v, foldedSetIterable (.Call (.Name (u "range") rp) [e] [] rpos) env v = pure v)
    (h : wpAny (model pw w) A (eval e env) (fun nv s₁ => Keeps s s₁ ∧ ∃ (n : Nat) (t : Tok) (ys : Array Value), nv = .int n t ∧ n ≤ 1000 ∧ s₁.heap.PlainList T ys ∧ Inv ys.toList ∧
      (∀ k v m' s' ys' E', k < n → IsNat k v → (∀ y, y ≠ x → m' y = m y) → Fm w s₀ env (upd m' x v) cm s' → s'.heap.PlainList T ys' → Inv ys'.toList → ys'.size = ys.size + k → KT T s₁ s' →
        wpAny (model pw w) A (execs body env) (fun fl s'' => fl = .next ∧ ∃ ys'', s''.heap.PlainList T ys'' ∧ Inv ys''.toList ∧ ys''.size = ys'.size + 1 ∧ Fm w s₀ env (upd m' x v) cm s'' ∧ KT T s' s'') E' s') ∧
      (∀ m' s' ys', (∀ y, y ≠ x → m' y = m y) → Fm w s₀ env m' cm s' → s'.heap.PlainList T ys' → Inv ys'.toList → ys'.size = ys.size + n → KT T s₁ s' → Q .next s')) E s) :
    wpAny (model pw w) A (exec (.For (.Name x px) (.Call (.Name (u "range") rp) [e] [] rpos) body [] pos) env) Q E s := by
  refine wpAny_For ?_ hs
  refine wpAny_Call_NameR (nm_b (v := .type "range") f.ik (by kernel_rfl) (by kernel_rfl) ?_ hk hl hg hb (by decide))
  rw [hse]
  refine PySem.callWith_type rfl (Calls.evalArgs_plain (Calls.spliced_cons (wpAny_mono h (fun nv s₁ h₁ => Calls.spliced_nil ?_) fun _ _ e => e)))
  obtain ⟨k1, n, t, ys, rfl, hn, hT, hI, hstep, hend⟩ := h₁
  have f1 := f.next k1
  refine call_range_1 ?_
  have hnn : (n : Int) ≤ (1000 : Nat) := by exact_mod_cast hn
  refine wpAny_pyIter_range (IsRange.new ..) (small_one (by decide) (by decide) (by omega) (by omega)) ?_
  have hsz : Builtin.Range.rangeSize 0 n 1 = (n : Int) := by rw [rangeSize_one]; split <;> omega
  rw [hsz]
  have kp : Keeps s₁ { s₁ with heap := (s₁.heap.push { cls := .type "range", data := .fields #[.int 0 s₁.toks, .int n t, .int 1 (s₁.toks + 1)] }).push { cls := .type "range_iterator", data := .fields #[rawInt 0, rawInt (n : Int), rawInt 1] }, toks := s₁.toks + 1 + 1 } := ⟨_, _, rfl, fun b o e => Heap.get?_push_of_some _ (Heap.get?_push_of_some _ e)⟩
  have f2 := f1.next kp
  have k2 := kt_of T (kl_of kp)
  obtain ⟨I, hI'⟩ : ∃ I, I = (s₁.heap.push { cls := .type "range", data := .fields #[.int 0 s₁.toks, .int n t, .int 1 (s₁.toks + 1)] }).objs.size := ⟨_, rfl⟩
  have hIn : s₁.heap.get? I = none := none_new _ (by rw [hI', Heap.size_push]; exact Nat.le_succ _)
  have hI0 : s₀.heap.get? I = none := none_back f1.keeps hIn
  have hIT : I ≠ T := by
    rintro rfl
    obtain ⟨q, e⟩ := hT
    rw [hIn] at e; cases e
  have hit0 : IsRangeIter ((s₁.heap.push { cls := .type "range", data := .fields #[.int 0 s₁.toks, .int n t, .int 1 (s₁.toks + 1)] }).push { cls := .type "range_iterator", data := .fields #[rawInt 0, rawInt (n : Int), rawInt 1] }) I 0 n 1 := by
    rw [hI']; exact Heap.get?_push_size _ rfl
  show codeAny _ _ (.forLoop _ (.ref (s₁.heap.push { cls := .type "range", data := .fields #[.int 0 s₁.toks, .int n t, .int 1 (s₁.toks + 1)] }).objs.size) _ _ _) _ _
  rw [← hI']
  have W := Walks.range (prog := pw) (w := w) hh I 0 1 n
  refine codeAny_forLoop (fun kk s' => ∃ i m' ys', kk = n + 1 - i ∧ i ≤ n ∧ (∀ y, y ≠ x → m' y = m y) ∧ Fm w s₀ env m' cm s' ∧ IsRangeIter s'.heap I (0 + ((i : Nat) : Int) * 1) ((n : Int) - ((i : Nat) : Int)) 1 ∧ s'.heap.PlainList T ys' ∧ Inv ys'.toList ∧ ys'.size = ys.size + i ∧ KT T s₁ s') ?_ (n + 1)
    ⟨0, m, ys, rfl, Nat.zero_le _, fun _ _ => rfl, f2, by
      have e1 : (0 + ((0 : Nat) : Int) * 1) = 0 := by simp
      have e2 : ((n : Int) - ((0 : Nat) : Int)) = n := by simp
      rw [e1, e2]; exact hit0, kp_plain kp hT, hI, rfl, k2⟩
  rintro kk s' ⟨i, m', ys', rfl, hi, hm', f', hit, hT', hInv, hsz', kt'⟩
  have fI : frm ({ cls := .type "range_iterator", data := .fields #[rawInt 0, rawInt (n : Int), rawInt 1] } : Obj) = false := rfl
  have change : ∀ {h' : Heap} {tk : Nat}, (∀ b o, b ∉ [I] → s'.heap.get? b = some o → h'.get? b = some o) → Fm w s₀ env m' cm { s' with heap := h', toks := tk } ∧ h'.PlainList T ys' ∧ KT T s₁ { s' with heap := h', toks := tk } := by
    intro h' tk hk'
    have hk2 : ∀ b o, b ≠ I → s'.heap.get? b = some o → h'.get? b = some o := fun b o hb e => hk' b o (by simpa using hb) e
    refine ⟨fm_but f' hI0 hit rfl hk2, ?_, ?_⟩
    · obtain ⟨q, e⟩ := hT'
      exact ⟨q, hk2 T _ (Ne.symm hIT) e⟩
    · obtain ⟨h1, t1, e1, k1⟩ := kt'
      subst e1
      refine ⟨h', tk, rfl, fun b o nb e fr => hk2 b o ?_ (k1 b o nb e fr)⟩
      rintro rfl
      rw [hIn] at e; cases e
  by_cases hlt : i < n
  · refine W.item i _ _ _ hlt hit fun v h' tk hP hit' hk' => ?_
    obtain ⟨f3, hT3, kt3⟩ := change (tk := tk) hk'
    dsimp only
    refine wpAny_assign_Name (st_lk f3 hk hx fun s4 f4 k4 => ?_)
    have hit4 : IsRangeIter s4.heap I (0 + (((i + 1 : Nat)) : Int) * 1) ((n : Int) - ((i + 1 : Nat) : Int)) 1 := kl_get k4 hit' rfl
    obtain ⟨tv, rfl⟩ := hP
    have hNat : IsNat i (.int (0 + (i : Int) * 1) tv) := ⟨tv, by simp⟩
    refine wpAny_mono (hstep i _ m' s4 ys' _ hlt hNat hm' f4 (kl_plain k4 hT3) hInv hsz' (kt_trans kt3 (kt_of T k4))) (fun fl s5 h5 => ?_) fun _ _ e => e
    obtain ⟨rfl, ys5, hT5, hI5, hsz5, f5, k5⟩ := h5
    refine ⟨n + 1 - (i + 1), by omega, i + 1, _, ys5, rfl, hlt, ?_, f5, kt_get k5 hIT hit4 rfl, hT5, hI5, by omega, kt_trans (kt_trans kt3 (kt_of T k4)) k5⟩
    intro y hy
    rw [upd_other hy]
    exact hm' y hy
  · have hin : i = n := by omega
    subst hin
    refine W.done _ _ _ hit fun h' tk hk' => ?_
    obtain ⟨f3, hT3, kt3⟩ := change (tk := tk) hk'
    refine wpAny_execs_nil ?_
    exact hend m' _ ys' hm' f3 hT3 hInv hsz' kt3
end
end Mine

end
section
open PySem PySem.W PySem.Calls PyProof.Rows PySem.Builtin PySem.Builtin.Str
set_option Elab.async false
set_option maxRecDepth 100000
namespace Mine
section
variable {M : Model} {A : Around} {E : Value → Shared → Prop} {s : Shared}
theorem codeC_loop {c : Code} {R : Result → Shared → Prop} (hq : c.quiet = true) (I : Nat → Shared → Prop)
    (turn : ∀ n s, I n s → wpC M (A.under c) (M.den c) (fun fin s' => match fin with | .done f => R (.ok f) s' | .again c' => c' = c ∧ ∃ m, m < n ∧ I m s') (fun e s' => R (.error e) s') s)
    (n : Nat) (h : I n s) : codeC M A c R s := by
  induction n using Nat.strongRecOn generalizing s with
  | ind n ih =>
    refine codeC_of_tree (wpC_mono (turn n s h) (fun fin s' hf => ?_) fun _ _ h' => h')
    cases fin with
    | done f => exact hf
    | again c' => obtain ⟨rfl, m, hm, hI⟩ := hf; exact ⟨hq, ih m hm hI⟩
end
section
variable {w : World} {A : Around} {s : Shared}
/-- the comprehension's loop, under the caller, where no item stays -/
theorem loopC {elt iter : Expr} {x : Str} {px : Pos} {ifs : List Expr} {scope : Scope} {pos : Pos} {I D l : Addr} {items : Array Value} {F : List Addr} {cenv : Env} {m : Str → Option Value} {R : Result → Shared → Prop} (hh : A.handled = none)
    (hx : cenv.kindOf x = some .local) (hp : (cenv.scope.kind == .class || (cenv.scope.kind == .module && cenv.locals != cenv.globals)) = false)
    (hit : s.heap.IsListIter I l 0) (hl : s.heap.PlainList l items) (hD : s.heap.PlainList D #[]) (hn : s.heap.Ns cenv.locals m)
    (hIF : I ∉ F) (hlF : l ∉ F) (hDF : D ∉ F) (hCF : cenv.locals ∉ F)
    (htests : ∀ (i : Nat) (v : Value) (s₂ : Shared) (m₂ : Str → Option Value), items[i]? = some v → s₂.heap.Ns cenv.locals m₂ → m₂ x = some v → (∀ b o, b ≠ cenv.locals → b ≠ I → s.heap.get? b = some o → if b ∈ F then ∃ sl, s₂.heap.get? b = some { o with slots := sl } else s₂.heap.get? b = some o) →
      (∃ h tk, s₂ = { s with heap := h, toks := tk }) → wpC (model pw w) A (testsOf ifs cenv) (fun ok s₃ => ok = false ∧ KX F s₂ s₃) (fun _ _ => False) s₂)
    (hR : ∀ h' tk m', h'.Ns cenv.locals m' → h'.PlainList D #[] → (∀ b o, b ≠ cenv.locals → b ≠ I → s.heap.get? b = some o → if b ∈ F then ∃ sl, h'.get? b = some { o with slots := sl } else h'.get? b = some o) → R (.ok .next) { s with heap := h', toks := tk }) :
    codeC (model pw w) A (.compLoop (.ListComp elt [⟨.Name x px, iter, ifs, 0⟩] scope pos) 0 (.ref I) (.ref D) cenv) R s := by
  refine codeC_loop rfl (fun k s' => ∃ i m' h' tk, k = items.size + 1 - i ∧ i ≤ items.size ∧ s' = { s with heap := h', toks := tk } ∧ h'.Ns cenv.locals m' ∧ h'.IsListIter I l i ∧ h'.PlainList l items ∧ h'.PlainList D #[] ∧
      (∀ b o, b ≠ cenv.locals → b ≠ I → s.heap.get? b = some o → if b ∈ F then ∃ sl, h'.get? b = some { o with slots := sl } else h'.get? b = some o)) ?_ (items.size + 1)
    ⟨0, m, s.heap, s.toks, rfl, Nat.zero_le _, rfl, hn, hit, hl, hD, fun b o _ _ e => by
      split
      · exact ⟨o.slots, e⟩
      · exact e⟩
  rintro k s' ⟨i, m', h', tk, rfl, hi, rfl, hn', hit', hl', hD', hk'⟩
  have cI : ∀ {h₁ : Heap} {j : Nat} {m₁ : Str → Option Value}, h₁.IsListIter I l j → h₁.Ns cenv.locals m₁ → cenv.locals ≠ I := by
    intro h₁ j m₁ hi hn
    rintro e
    obtain ⟨o, e1, c1, d1⟩ := hi
    obtain ⟨o2, es, ep, e2, d2, _⟩ := hn
    rw [e, e1] at e2
    cases e2
    rw [d1] at d2; cases d2
  have lI : ∀ {h₁ : Heap} {j : Nat} {a : Addr} {ys : Array Value}, h₁.IsListIter I l j → h₁.PlainList a ys → a ≠ I := by
    intro h₁ j a ys hi hp
    rintro rfl
    obtain ⟨o, e1, c1, d1⟩ := hi
    obtain ⟨n, e2⟩ := hp
    rw [e1] at e2
    cases e2
    cases d1
  have lC : ∀ {h₁ : Heap} {m₁ : Str → Option Value} {a : Addr} {ys : Array Value}, h₁.Ns cenv.locals m₁ → h₁.PlainList a ys → a ≠ cenv.locals := by
    intro h₁ m₁ a ys hn hp
    rintro rfl
    obtain ⟨o, es, ep, e1, d1, _⟩ := hn
    obtain ⟨n, e2⟩ := hp
    rw [e1] at e2
    cases e2
    cases d1
  show wpC _ A ((compTurn (.ListComp elt [⟨.Name x px, iter, ifs, 0⟩] scope pos) 0 (.ref I) (.ref D) cenv).onRaise (fun x => do noteFrame x cenv; theTreesLotGoes x)) _ _ _
  refine wpC_onRaise ?_
  rw [compTurn_list]
  refine wpC_bindA (wpAny_standAt (wpC_bindA ?_))
  by_cases hlt : i < items.size
  · refine wpAny_pyNext_list_item hit' (isList_of hl') (x := items[i]) (by simp [hlt]) fun h₁ hit₁ hs₁ => ?_
    have k₁ : ∀ b o, b ≠ I → h'.get? b = some o → h₁.get? b = some o := hs₁.extBut
    dsimp only
    refine wpC_bindA (m := letOwnedTupleGo (.Name x px) (.ref I) items[i]) (wpAny_of_eq (a := ()) rfl ?_)
    have hn₁ : h₁.Ns cenv.locals m' := hn'.at' fun o e => k₁ _ o (cI hit' hn') e
    refine wpC_bindA (wpAny_assign_Name (wpAny_storeName_local hx hn₁ (fun h₂ hn₂ hs₂ => ?_) hp))
    have k₂ : ∀ b o, b ≠ cenv.locals → h₁.get? b = some o → h₂.get? b = some o := hs₂.extBut
    have hit₂ : h₂.IsListIter I l (i + 1) := by
      obtain ⟨o, e, c, d⟩ := hit₁
      exact ⟨o, k₂ I o (Ne.symm (cI hit' hn')) e, c, d⟩
    have hl₂ : h₂.PlainList l items := by
      obtain ⟨n, e⟩ := hl'
      exact ⟨n, k₂ l _ (lC hn' ⟨n, e⟩) (k₁ l _ (lI hit' ⟨n, e⟩) e)⟩
    have hD₂ : h₂.PlainList D #[] := by
      obtain ⟨n, e⟩ := hD'
      exact ⟨n, k₂ D _ (lC hn' ⟨n, e⟩) (k₁ D _ (lI hit' ⟨n, e⟩) e)⟩
    have up₂ : ∀ b o, b ≠ cenv.locals → b ≠ I → s.heap.get? b = some o → if b ∈ F then ∃ sl, h₂.get? b = some { o with slots := sl } else h₂.get? b = some o := fun b o hb1 hb2 e => by
      have := hk' b o hb1 hb2 e
      split
      · rename_i hb
        rw [if_pos hb] at this
        obtain ⟨sl, e'⟩ := this
        exact ⟨sl, k₂ b _ hb1 (k₁ b _ hb2 e')⟩
      · rename_i hb
        rw [if_neg hb] at this
        exact k₂ b _ hb1 (k₁ b _ hb2 this)
    refine wpC_bind (wpC_mono (htests i items[i] _ _ (by simp [hlt]) hn₂ (by simp) up₂ ⟨_, _, rfl⟩) (fun ok s₃ h₃ => ?_) fun _ _ e => e.elim)
    obtain ⟨rfl, h3, tk3, rfl, k3⟩ := h₃
    dsimp only at k3
    have out3 : ∀ b o, b ∉ F → h₂.get? b = some o → h3.get? b = some o := fun b o hb e => by
      have := k3 b o e
      rw [if_neg hb] at this
      exact this
    refine wpC_pure ⟨rfl, items.size + 1 - (i + 1), by omega, i + 1, _, h3, tk3, rfl, hlt, rfl, hn₂.at' fun o e => out3 _ o hCF e, ?_, ?_, ?_, fun b o hb1 hb2 e => ?_⟩
    · obtain ⟨o, e, r⟩ := hit₂
      exact ⟨o, out3 I o hIF e, r⟩
    · obtain ⟨n, e⟩ := hl₂
      exact ⟨n, out3 l _ hlF e⟩
    · obtain ⟨n, e⟩ := hD₂
      exact ⟨n, out3 D _ hDF e⟩
    · have := up₂ b o hb1 hb2 e
      split
      · rename_i hb
        rw [if_pos hb] at this
        obtain ⟨sl, e'⟩ := this
        have k4 := k3 b _ e'
        rw [if_pos hb] at k4
        exact k4
      · rename_i hb
        rw [if_neg hb] at this
        exact out3 b o hb this
  · have hin : items[i]? = none := by simp; omega
    refine wpAny_pyNext_list_end hh hit' (isList_of hl') hin fun h₁ he => ?_
    have k₁ : ∀ b o, b ≠ I → h'.get? b = some o → h₁.get? b = some o := he
    dsimp only
    refine wpC_pure ?_
    refine hR h₁ _ m' (hn'.at' fun o e => k₁ _ o (cI hit' hn') e) ?_ fun b o hb1 hb2 e => ?_
    · obtain ⟨n, e⟩ := hD'
      exact ⟨n, k₁ D _ (lI hit' ⟨n, e⟩) e⟩
    · have := hk' b o hb1 hb2 e
      split
      · rename_i hb
        rw [if_pos hb] at this
        obtain ⟨sl, e'⟩ := this
        exact ⟨sl, k₁ b _ hb2 e'⟩
      · rename_i hb
        rw [if_neg hb] at this
        exact k₁ b _ hb2 this
end
end Mine

end
section
open PySem PySem.W PySem.Calls PyProof.Rows PySem.Builtin PySem.Builtin.Str
set_option Elab.async false
set_option maxRecDepth 100000
namespace Mine
section
variable {w : World} {A : Around} {s : Shared} {E : Value → Shared → Prop} {env : Env}
theorem startC {elt target iter : Expr} {ifs : List Expr} {rest : List Comprehension} {scope : Scope} {pos : Pos} {it acc : Value} {env : Env} {R : Result → Shared → Prop}
    (h0 : codeC (model pw w) A (.compLoop (.ListComp elt (⟨target, iter, ifs, 0⟩ :: rest) scope pos) 0 it acc env) R s)
    (h : ∀ (A' : Around) (Q : Value → Shared → Prop) (E' : Value → Shared → Prop), Q it s → wpAny (model pw w) A' (pyIter it) Q E' s) :
    codeC (model pw w) A (.compStart (.ListComp elt (⟨target, iter, ifs, 0⟩ :: rest) scope pos) 0 it acc env) R s := by
  refine codeC_of_tree ?_
  show wpC _ _ ((compStart (.ListComp elt (⟨target, iter, ifs, 0⟩ :: rest) scope pos) 0 it acc env).onRaise (fun x => do noteFrame x env; standAt theWindowsPlace)) _ _ s
  refine wpC_onRaise ?_
  unfold compStart
  show wpC _ _ (ask >>= _) _ _ s
  refine wpC_bindA (wpAny_askSetting ?_)
  split
  · first
      | exact wpC_bind (wpC_pure (wpC_pure (And.intro rfl h0)))
      | exact wpC_pure (And.intro rfl h0)
  · refine wpC_bindA (wpAny_rule ?_)
    show wpC _ _ (standAt iter.pos >>= _) _ _ s
    exact wpC_bindA (wpAny_standAt (wpC_bindA (h _ _ _ (wpC_pure (And.intro rfl h0)))))
theorem compC {elt iter : Expr} {x : Str} {px : Pos} {ifs : List Expr} {scope : Scope} {cl : List (Str × Addr)} {pos : Pos} {Q : Value → Shared → Prop} (F : List Addr) (hh : A.handled = none) (side : SideC iter x scope cl env)
    (h : wpAny (model pw w) A (eval iter env) (fun xv s₁ => ∃ (l : Addr) (items : Array Value), xv = .ref l ∧ s₁.heap.PlainList l items ∧ l ∉ F ∧ (∀ b ∈ F, ∃ o, s₁.heap.get? b = some o) ∧
      (∀ C v s₂ m₂, v ∈ items.toList → s₂.heap.Ns C m₂ → m₂ x = some v → KX F s₁ s₂ →
        wpC (model pw w) A (testsOf ifs (compEnvC scope cl C env)) (fun ok s₃ => ok = false ∧ KX F s₂ s₃) (fun _ _ => False) s₂) ∧
      (∀ D s', KX F s₁ s' → s₁.heap.get? D = none → s'.heap.PlainList D #[] → Q (.ref D) s')) E s) :
    wpC (model pw w) A (eval (.ListComp elt [⟨.Name x px, iter, ifs, 0⟩] scope pos) env) Q E s := by
  obtain ⟨ok, hclos, hs⟩ := side
  have hkind := scOk.kind ok
  have hnames := scOk.names ok
  have hx := scOk.look ok
  rw [eval_ListComp]
  unfold comprehension
  rw [hclos]
  refine wpC_bindA (wpAny_mono h (fun xv s₁ h₁ => ?_) fun _ _ e => e)
  obtain ⟨l, items, rfl, hl, hlF, hFo, htests, hQ⟩ := h₁
  refine wpC_bindA (wpAny_standAt ?_)
  refine wpC_bindA (wpAny_of_eq (hs (.ref l)) ?_)
  refine wpC_bindA (wpAny_holding ?_)
  show wpAny _ _ (pyIter (.ref l)) _ _ _
  refine wpAny_pyIter_list (isList_of hl) ?_
  show wpC _ _ (newList [] >>= _) _ _ _
  refine wpC_bindA (wpAny_newObj_type ?_)
  refine wpC_bindA (wpAny_pure ?_)
  refine wpC_bindA (wpAny_newFunctionEnv (scOk.cell ok) (by intro y hy; simp at hy) (fun h₁ hns₁ hsb₁ => ?_) hkind)
  dsimp only at hns₁ hsb₁ ⊢
  generalize hIz : s₁.heap.objs.size = I at hns₁ hsb₁ ⊢
  generalize hH1 : s₁.heap.push { cls := .type "list_iterator", data := .fields #[.ref l, .int 0 0] } = H1 at hns₁ hsb₁ ⊢
  have hD1 : H1.objs.size = I + 1 := by rw [← hH1, Heap.size_push, hIz]
  generalize hDz : H1.objs.size = D at hns₁ hsb₁ ⊢
  generalize hH2 : H1.push { cls := .type "list", dict := none, data := .seq ([] : List Value).toArray } = H2 at hns₁ hsb₁ ⊢
  have hC2 : H2.objs.size = D + 1 := by rw [← hH2, Heap.size_push, hDz]
  generalize hCz : H2.objs.size = C at hns₁ hsb₁ ⊢
  have hI0 : s₁.heap.get? I = none := none_new _ (Nat.le_of_eq hIz)
  have hD0 : s₁.heap.get? D = none := none_new _ (by rw [hIz, ← hDz, hD1]; exact Nat.le_succ _)
  have hC0 : s₁.heap.get? C = none := none_new _ (by rw [hIz, ← hCz, hC2, ← hDz, hD1]; omega)
  have hne1 : D ≠ C := by omega
  have hne2 : I ≠ C := by omega
  have hne3 : I ≠ D := by omega
  have up1 : ∀ b o, s₁.heap.get? b = some o → h₁.get? b = some o := fun b o e => by
    refine hsb₁.extBut b o ?_ (Heap.get?_push_of_some _ (hH2 ▸ Heap.get?_push_of_some _ (hH1 ▸ Heap.get?_push_of_some _ e)))
    rintro rfl
    rw [hC0] at e; cases e
  have hitl : h₁.IsListIter I l 0 := by
    refine ⟨{ cls := .type "list_iterator", data := .fields #[.ref l, .int 0 0] }, hsb₁.extBut I _ hne2 (Heap.get?_push_of_some _ (hH2 ▸ Heap.get?_push_of_some _ (hH1 ▸ ?_))), rfl, rfl⟩
    rw [← hIz]; exact Heap.get?_push_size _ rfl
  have hlist : h₁.PlainList l items := let ⟨n, e⟩ := hl; ⟨n, up1 _ _ e⟩
  have hacc : h₁.PlainList D #[] := by
    refine ⟨0, hsb₁.extBut D _ hne1 (Heap.get?_push_of_some _ (hH2 ▸ ?_))⟩
    rw [← hDz]; exact Heap.get?_push_size _ rfl
  have nF : ∀ {b : Addr}, s₁.heap.get? b = none → b ∉ F := fun hb hm => by
    obtain ⟨o, e⟩ := hFo _ hm
    rw [hb] at e; cases e
  refine wpC_holding (wpC_bind (wpC_attempt (wpC_holding (wpC_run (h := none) ?_))))
  refine codeC_mono (R := fun r s' => r = .ok .next ∧ ∃ h' tk m', s' = { s₁ with heap := h', toks := tk } ∧ h'.Ns C m' ∧ h'.PlainList D #[] ∧
      (∀ b o, s₁.heap.get? b = some o → if b ∈ F then ∃ sl, h'.get? b = some { o with slots := sl } else h'.get? b = some o)) (startC ?_ ?_) ?_
  · refine loopC (s := { s₁ with heap := h₁, toks := _ }) (cenv := compEnvC scope cl C env) (F := F) (l := l) (items := items) hh (lookup_relabel_local hx) ?_ hitl hlist hacc hns₁ (nF hI0) hlF (nF hD0) (nF hC0) ?_ ?_
    · show (scope.kind == ScopeKind.class || (scope.kind == ScopeKind.module && _)) = false
      rw [hkind]; rfl
    · intro i v s₂ m₂ hv hn₂ hm₂ hk₂ hs₂
      refine htests C v s₂ m₂ (by simpa using Array.mem_of_getElem? hv) hn₂ hm₂ ?_
      obtain ⟨h2, t2, rfl⟩ := hs₂
      refine ⟨h2, t2, rfl, fun b o e => hk₂ b o ?_ ?_ (up1 b o e)⟩
      · intro q
        rw [show b = C from q, hC0] at e; cases e
      · rintro rfl
        rw [hI0] at e; cases e
    · intro h' tk m' hn' hD' hk'
      refine ⟨rfl, h', tk, m', rfl, hn', hD', fun b o e => hk' b o ?_ ?_ (up1 b o e)⟩
      · intro q
        rw [show b = C from q, hC0] at e; cases e
      · rintro rfl
        rw [hI0] at e; cases e
  · intro A' Q' E' hq
    exact wpAny_pyIter_listiter (s := { s₁ with heap := h₁, toks := _ }) hitl hq
  · rintro r s' ⟨rfl, h', tk, m', rfl, hn', hD', hk'⟩
    dsimp only
    refine wpC_bindA (wpAny_holding (wpAny_comp_letGo (cenv := compEnvC scope cl C env) hkind _ _ m' ?_ hn' fun h'' m'' hn'' hs'' => ?_))
    · intro y hy hl
      exact lookup_relabel_local (hnames y (List.mem_filter.mp (List.mem_reverse.mp hy)).1 hl)
    · refine wpC_pure ?_
      have k'' : ∀ b o, b ≠ C → h'.get? b = some o → h''.get? b = some o := hs''.extBut
      refine hQ D _ ⟨h'', tk, rfl, fun b o e => ?_⟩ hD0 ?_
      · have hb : b ≠ C := by rintro rfl; rw [hC0] at e; cases e
        have := hk' b o e
        split
        · rename_i hm
          rw [if_pos hm] at this
          obtain ⟨sl, e'⟩ := this
          exact ⟨sl, k'' b _ hb e'⟩
        · rename_i hm
          rw [if_neg hm] at this
          exact k'' b o hb this
      · obtain ⟨n, e⟩ := hD'
        exact ⟨n, k'' D _ hne1 e⟩
end
end Mine

end
section
open PySem PySem.W PySem.Calls PyProof.Rows PySem.Builtin PySem.Builtin.Str
set_option Elab.async false
set_option maxRecDepth 100000
set_option maxHeartbeats 1000000
namespace Mine
def fd273 (P : Params) : FuncData := match (o273 P).data with | .func fd => fd | _ => default
section
variable {w : World} {A : Around} {s : Shared}
theorem add_tx {E : Value → Shared → Prop} {Q : Value → Shared → Prop} {a b : List Nat} {t u : Tok} {y : Str} (hy : y = tx b) (ha : a.length ≤ 1000) (hb : b.length ≤ 1000) (h : ∀ t' tk, Q (.str (tx (a ++ b)) t') { s with toks := tk }) : wpAny (model pw w) A (binaryOp .Add (.str (tx a) t) (.str y u)) Q E s := by
  subst hy
  refine PyProof.Rows.add_str ?_ ?_
  · intro t' tk
    have e : (tx a ++ tx b : Str) = tx (a ++ b) := by
      show (⟨a.toArray ++ b.toArray⟩ : Str) = ⟨_⟩
      congr 1
      simp
    rw [e]
    exact h t' tk
  · show a.length + b.length ≤ _
    have : (2000 : Nat) ≤ sizeLine := by decide
    omega
def decI (v : Value) : Int := match v with
  | .int i _ => i
  | _ => 0
theorem allInt_app {xs ys : List Value} (h : AllInt xs) (g : AllInt ys) : AllInt (xs ++ ys) := fun v hv => by
  rcases List.mem_append.mp hv with hv | hv
  · exact h v hv
  · exact g v hv
theorem allInt_nats {ns : List Nat} {vs : List Value} (h : Paired IsNat ns vs) : AllInt vs := fun v hv => by
  obtain ⟨c, u, e⟩ := all_paired h v hv
  exact ⟨c, u, e⟩
theorem ne_sign {E : Value → Shared → Prop} {Q : Value → Shared → Prop} {c d : Nat} {y : Str} {t u : Tok} (hy : y = ⟨#[d]⟩) (h : Q (.bool (!decide (c = d))) s) : wpAny (model pw w) A (compareOp .NotEq (.str ⟨#[c]⟩ t) (.str y u)) Q E s := by
  subst hy
  refine PyProof.Rows.ne_str ?_
  have : (((⟨#[c]⟩ : Str) != ⟨#[d]⟩)) = !decide (c = d) := by
    show (!((⟨#[c]⟩ : Str) == ⟨#[d]⟩)) = _
    rw [beq_sign]
  rw [this]; exact h
/-- a text's value, not long -/
def IsText (v : Value) : Prop := ∃ l u, v = .str (tx l) u ∧ l.length ≤ 100
def AllText (vs : List Value) : Prop := ∀ v ∈ vs, IsText v
theorem allText_push {ys : Array Value} {v : Value} (h : AllText ys.toList) (g : IsText v) : AllText (ys.push v).toList := fun x hx => by
  rw [Array.toList_push] at hx
  rcases List.mem_append.mp hx with hx | hx
  · exact h x hx
  · rw [List.mem_singleton] at hx; subst hx; exact g
theorem flat_len : ∀ cs : List Nat, ((cs.map fun c => [c]).flatten).length = cs.length
  | [] => rfl
  | c :: r => by
    rw [List.map_cons, List.flatten_cons, List.length_append, flat_len r]
    show 1 + r.length = r.length + 1
    omega
/-- signs in a list, joined -/
theorem join_signs {E : Value → Shared → Prop} {Q : Value → Shared → Prop} {D : Addr} {ys : Array Value} {t : Tok} (hl : s.heap.PlainList D ys) (hs : AllSign ys.toList) (hn : ys.size ≤ 100) (h : ∀ v k, IsText v → Q v { s with toks := k }) :
    wpAny (model pw w) A (call (.builtin "str.join") [.str (tx []) t, .ref D]) Q E s := by
  obtain ⟨cs, hcs⟩ := paired_all (R := IsSign) hs
  have hcl : cs.length ≤ 100 := by
    have := prd_len hcs
    rw [← this]; simpa using hn
  refine join_run 1 (isList_of hl) (prd_map (f := fun c => [c]) (R := IsTx) hcs) ?_ ?_ ?_
  · intro l hl
    obtain ⟨n, _, rfl⟩ := List.mem_map.mp hl
    exact Nat.le_refl 1
  · rw [List.length_map]; omega
  · intro t' k
    refine h _ k ⟨_, t', rfl, ?_⟩
    rw [flat_len]; exact hcl
theorem cmpC {M : Model} {E : Value → Shared → Prop} {env : Env} {l r : Expr} {op : CmpOp} {pos : Pos} {Q : Value → Shared → Prop} (h : wpC M A (eval l env) (fun a s₁ => wpAny M A (eval r env) (fun b s₂ => wpAny M A (compareOp op a b) Q E s₂) E s₁) E s)
    (hm : behindInMarks op r = false) : wpC M A (eval (.Compare l [op] [r] pos) env) Q E s := fun Γ p hΓ hC => by
  simp only [eval_Compare1, markedBehindIn_of_false hm, Sem.wp_bind', Sem.wp_holding, Sem.wp_cmd_standAt, Sem.wp_operate]
  exact Sem.wp_mono M Γ _ (fun a p₁ s₁ h₁ => Sem.wp_mono M Γ _ (fun b _ s₂ h₂ => h₂ Γ _ hΓ) (fun _ _ _ h' => h') _ _ (h₁ Γ p₁ hΓ))
    (fun _ _ _ h' => h') _ _ (h Γ p hΓ hC)
theorem testsC {M : Model} {E : Value → Shared → Prop} {env : Env} {c : Expr} {Q : Bool → Shared → Prop} (h : wpC M A (isTrue c env (eval c env)) Q E s) : wpC M A (testsOf [c] env) Q E s := by
  unfold testsOf
  simp only [List.forIn_cons, List.forIn_nil, if_true]
  exact wpC_bind (wpC_bind (wpC_mono h (fun b s' hb => wpC_pure (wpC_pure hb)) fun _ _ x => x))
theorem notC {M : Model} {E : Value → Shared → Prop} {env : Env} {x : Expr} {pos : Pos} {whole : Sem Value} {Q : Bool → Shared → Prop} (h : wpC M A (isTrue x env (eval x env)) (fun c s' => Q (!c) s') E s) :
    wpC M A (isTrue (.UnaryOp .Not x pos) env whole) Q E s := by
  show wpC M A (do return !(← isTrue x env (eval x env))) Q E s
  exact wpC_bind (wpC_mono h (fun c s' h' => wpC_pure h') fun _ _ x => x)
theorem plainC {M : Model} {E : Value → Shared → Prop} {env : Env} {e : Expr} {whole : Sem Value} {Q : Bool → Shared → Prop} (h : wpC M A whole (fun v s₁ => wpAny M A (truthy v) Q E s₁) E s)
    (he : isTrue e env whole = (do let v ← whole; standAt e.pos; holding [v] (truthy v))) : wpC M A (isTrue e env whole) Q E s := by
  rw [he]
  exact wpC_bind (wpC_mono h (fun v s₁ h₁ => wpC_any (wpAny_bind (wpAny_standAt (wpAny_holding h₁)))) fun _ _ x => x)
theorem allSign_app {xs ys : List Value} (h : AllSign xs) (g : AllSign ys) : AllSign (xs ++ ys) := fun v hv => by
  rcases List.mem_append.mp hv with hv | hv
  · exact h v hv
  · exact g v hv
theorem lawC {L0 : Addr} {items : Array Value} {R : Result → Shared → Prop} (X : IK w s.heap) (hd : A.depth + 14 < recursionLimit) (hh : A.handled = none) (hu : A.units + 110 < cLine) (hfr : A.frames = some []) (hl : s.heap.IsList L0 items) (hn : items.size ≤ 63) (hi : AllInt items.toList)
    (h : ∀ s', Keeps s s' → R (.ok (.ret (.bool true))) s') : codeC (model pw w) A (.call (.ref 273) ⟨[.ref L0], []⟩) R s := by
  refine callFC (o := o273 w.params) (fd := fd273 w.params) (binds := [(u "script", .ref L0)]) X (by omega) (by kernel_rfl) rfl (by kernel_rfl) rfl (by kernel_rfl) rfl (by kernel_rfl) (by kernel_rfl) (by kernel_rfl) (by kernel_rfl) fun s₁ f => ?_
  have hL := none_new s.heap (Nat.le_refl _)
  have hd1 : (A.deeper (callEnvC (fd273 w.params) s.heap.objs.size 273)).depth + 12 < recursionLimit := by
    show A.depth + 1 + 12 < _
    omega
  have hu1 : (A.deeper (callEnvC (fd273 w.params) s.heap.objs.size 273)).units + 105 < cLine := by
    show A.units + 3 + 105 < cLine
    omega
  have hA : (A.deeper (callEnvC (fd273 w.params) s.heap.objs.size 273)).handled = none := hh
  refine consC (wpC_any ?_)
  refine wpAny_Assign_Name ?_ ?_
  rotate_left
  · rfl
  refine wpAny_Call_NameR ?_
  refine nm_g f.ik (v := .ref 227) (by kernel_rfl) ?_ rfl (by kernel_rfl) rfl (by decide)
  refine cw_fn0 (o := o227 w.params) (by kernel_rfl) rfl f.ik ?_
  refine call_blanks f.ik (by omega) hh ?_
  intro s₂ t1 k2
  have f2 := f.next k2
  refine st_ck f2 (c := s.heap.objs.size + 1) rfl (by kernel_rfl) (by kernel_rfl) fun s₃ f3 l3 => ?_
  dsimp only
  refine consC (wpC_any ?_)
  refine wpAny_Assign_Name ?_ ?_
  rotate_left
  · rfl
  refine wpAny_Call_NameR ?_
  refine nm_g f3.ik (v := .ref 232) (by kernel_rfl) ?_ rfl (by kernel_rfl) rfl (by decide)
  refine cw_fn0 (o := o232 w.params) (by kernel_rfl) rfl f3.ik ?_
  refine call_nothings f3.ik (by omega) hh ?_
  intro s₄ t2 k4
  have f4 := f3.next k4
  refine st_ck f4 (c := s.heap.objs.size + 1 + 1) rfl (by kernel_rfl) (by kernel_rfl) fun s₅ f5 l5 => ?_
  dsimp only
  refine consC (wpC_any ?_)
  refine wpAny_Assign_Name ?_ ?_
  rotate_left
  · rfl
  refine wpAny_BinOp ?_
  refine wpAny_BinOp ?_
  refine nm_c f5 (c := s.heap.objs.size + 1) (v := .str (tx blanksL) t1) ?_ ?_ rfl (by kernel_rfl) (by kernel_rfl) (by decide)
  · rw [upd_other (by decide)]; exact upd_self _ _ _
  refine nm_c f5 (c := s.heap.objs.size + 1 + 1) (v := .str (tx nothingsL) t2) (upd_self _ _ _) ?_ rfl (by kernel_rfl) (by kernel_rfl) (by decide)
  refine add_tx rfl (by decide) (by decide) ?_
  intro t3 tk3
  refine wpAny_Constant_str ?_
  refine add_tx (b := [890, 890, 890, 890, 61, 61, 61, 61]) (by decide) (by decide) (by decide) ?_
  intro t4 tk4
  have k6 : Keeps s₅ { s₅ with toks := tk4 } := kp_tok s₅ tk4
  have f6 := f5.next k6
  refine st_ck f6 (c := s.heap.objs.size + 1 + 1 + 1) rfl (by kernel_rfl) (by kernel_rfl) fun s₇ f7 l7 => ?_
  dsimp only
  have hsp : (tx (blanksL ++ nothingsL ++ [890, 890, 890, 890, 61, 61, 61, 61]) : Str) = tx specialL := rfl
  rw [hsp] at f7
  have hl7 : s₇.heap.IsList L0 items := kp_list f7.keeps hl
  refine consC (wpC_any ?_)
  refine as_gen [(u "special", s.heap.objs.size + 1 + 1 + 1)] IsInt decI (fun c v ⟨u, e⟩ => by subst e; rfl) (fun _ => true) (fun i v => IsSign (signOf i) v) f7 ?_ ?_
  · exact ⟨by kernel_rfl, by kernel_rfl, by kernel_rfl, fun _ => rfl, by kernel_rfl, rfl⟩
  refine wpAny_BinOp ?_
  refine wpAny_BinOp ?_
  refine lslice (l := L0) (items := items) (lo := none) (hi := some 3) ?_ ?_
  rotate_left
  · intro _ _; rfl
  refine nm_l f7 (v := .ref L0) (by kernel_rfl) ?_ rfl (by kernel_rfl) (by decide)
  refine wpAny_evalPart_none ?_
  refine wpAny_evalPart_some ?_
  refine wpAny_Constant_int ?_
  refine ⟨rfl, kp_list (kp_tok s₇ _) hl7, by omega, .none, .int _ _, ?_⟩
  intro D1 s₈ k8 _ hD1
  have k8' := kp_trans (kp_tok s₇ (s₇.toks + 1)) k8
  refine List_nats [609, 56, 70, 18, 112] ?h1 ?h2 ?_
  case h1 => kernel_rfl
  case h2 => decide
  intro D2 s₉ ys k9 _ hD2 hp2
  have hy2 : ys.size = 5 := prd_len hp2
  have hs1 := pick_to items
  refine add_plain (kp_plain k9 hD1) hD2 ?_ ?_
  · have : (8 : Nat) ≤ sizeLine := by decide
    omega
  intro D3 s₁₀ k10 _ hD3
  have k10' := kp_trans (kp_trans k8' k9) k10
  have f10 := f7.next k10'
  refine lslice (l := L0) (items := items) (lo := some 3) (hi := some 6) ?_ ?_
  rotate_left
  · intro _ _; rfl
  refine nm_l f10 (v := .ref L0) (by kernel_rfl) ?_ rfl (by kernel_rfl) (by decide)
  refine wpAny_evalPart_some ?_
  refine wpAny_Constant_int ?_
  refine wpAny_evalPart_some ?_
  refine wpAny_Constant_int ?_
  refine ⟨rfl, kp_list (kp_trans k10' (kp_tok s₁₀ _)) hl7, by omega, .int _ _, .int _ _, ?_⟩
  intro D4 s₁₁ k11 _ hD4
  have k11' := kp_trans (kp_tok s₁₀ (s₁₀.toks + 1 + 1)) k11
  have hs2 := pick_mid items
  refine add_plain (kp_plain k11' hD3) hD4 ?_ ?_
  · have : (11 : Nat) ≤ sizeLine := by decide
    rw [Array.size_append]
    omega
  intro D5 s₁₂ k12 _ hD5
  have k12' := kp_trans (kp_trans k10' k11') k12
  have hall : AllInt (slicePick items none (some 3) none ++ ys ++ slicePick items (some 3) (some 6) none).toList := by
    rw [Array.toList_append, Array.toList_append]
    refine allInt_app (allInt_app (fun v hv => hi v (pick_mem hv)) (allInt_nats hp2)) (fun v hv => hi v (pick_mem hv))
  obtain ⟨ns, hns⟩ := paired_all (R := IsInt) hall
  have hz : (slicePick items none (some 3) none ++ ys ++ slicePick items (some 3) (some 6) none).size ≤ 11 := by
    rw [Array.size_append, Array.size_append]
    omega
  have hnl : ns.length ≤ 11 := by
    have := prd_len hns
    rw [← this]
    simpa using hz
  refine ⟨k12', ns, src_list hA (isList_of hD5) (Nat.le_trans hz (by decide)) hns, ⟨?_, ?_⟩, ?_⟩
  · exact fun C c v s₃ m₃ E' _ _ _ _ _ => t0' rfl
  · rintro C c v s₁₃ m₃ E' _ ⟨u', rfl⟩ _ hns' hm hk
    refine Call_Name2 ?_ rfl
    refine nm_g (ik_grown f7.ik hk) (v := .ref 239) (by kernel_rfl) ?_ rfl (by kernel_rfl) rfl (by decide)
    refine cw_fn (o := o239 w.params) (by kernel_rfl) rfl ?_
    refine spliced_cons ?_
    refine nk_l hns' hm ?_ (by kernel_rfl) (by kernel_rfl) (by decide)
    refine spliced_cons ?_
    refine nk_c (c := s.heap.objs.size + 1 + 1 + 1) (v := .str (tx specialL) t4) (cellk f7 hk (n := u "special") (by kernel_rfl) (upd_self _ _ _)) ?_ (by kernel_rfl) (by kernel_rfl) (by kernel_rfl) (by decide)
    refine spliced_nil ?_
    refine ⟨ik_grown f7.ik hk, ?_⟩
    refine call_sign (ik_grown f7.ik hk) (by omega) c _ _ ?_
    intro s' u' k
    exact ⟨⟨u', rfl⟩, k⟩
  intro D s₁₄ zs f14 l14 hDn hD hp
  have hzs : AllSign zs.toList := fun v hv => by
    obtain ⟨c, hc⟩ := all_paired hp v hv
    exact ⟨_, hc⟩
  have hzl : zs.size ≤ 11 := by
    have e := prd_len hp
    have e2 := List.length_filter_le (fun _ => true) ns
    have e3 : zs.toList.length = zs.size := by simp
    omega
  dsimp only
  refine consC (wpC_any ?_)
  refine wpAny_Assign_Name ?_ ?_
  rotate_left
  · rfl
  refine wpAny_List ?_
  refine spliced_more ?_
  refine wpAny_Call_method1_late ?_ ?_ ?_ ?_
  iterate 3 kernel_rfl
  refine wpAny_Constant_str ?_
  have k15 : Keeps s₁₄ { s₁₄ with toks := s₁₄.toks + 1 } := kp_tok s₁₄ _
  refine ⟨"str", "str.join", F.plainAttrs_str, F.slot_str_join, F.type_str_join, typeIs_str _ _ _, (fun _ e => nomatch e), ?_⟩
  refine cw_b1 ?_
  refine nm_l (f14.next k15) (v := .ref D) (upd_self _ _ _) ?_ rfl (by kernel_rfl) (by decide)
  refine join_signs (kp_plain k15 hD) hzs (by omega) ?_
  intro v1 tk16 hv1
  have k16 : Keeps s₁₄ { s₁₄ with toks := tk16 } := kp_tok s₁₄ tk16
  refine spliced_more ?_
  refine wpAny_Call_method1_late ?_ ?_ ?_ ?_
  iterate 3 kernel_rfl
  refine wpAny_Constant_str ?_
  have k17 : Keeps s₁₄ { s₁₄ with toks := tk16 + 1 } := kp_tok s₁₄ _
  refine ⟨"str", "str.join", F.plainAttrs_str, F.slot_str_join, F.type_str_join, typeIs_str _ _ _, (fun _ e => nomatch e), ?_⟩
  refine cw_b1 ?_
  obtain ⟨cs, hcs⟩ := paired_all (R := IsSign) hzs
  refine lcl [] IsSign sg (fun c v ⟨u, e⟩ => by subst e; rfl) (fun c => !decide (c = 61)) (fun c v => IsSign c v) hA ?_ ?_
  · exact ⟨by kernel_rfl, by kernel_rfl, fun _ => rfl⟩
  refine nm_l (f14.next k17) (v := .ref D) (upd_self _ _ _) ?_ rfl (by kernel_rfl) (by decide)
  refine ⟨kp_refl _, D, zs, cs, rfl, isList_of (kp_plain k17 hD), Nat.le_trans hzl (by decide), hcs, ⟨?_, ?_⟩, ?_⟩
  · rintro C c v s₃ m₃ E' _ ⟨u', rfl⟩ hns' hm hk
    refine wpAny_tests_one ?_
    refine wpAny_isTrue_Compare1 ?_
    refine nk_l hns' hm ?_ (by kernel_rfl) (by kernel_rfl) (by decide)
    refine wpAny_Constant_str ?_
    refine ne_sign rfl ?_
    exact wpAny_truthy_bool ⟨rfl, kp_tok _ _⟩
  · rintro C c v s₃ m₃ E' _ ⟨u', rfl⟩ _ hns' hm hk
    refine nk_l hns' hm ?_ (by kernel_rfl) (by kernel_rfl) (by decide)
    exact ⟨⟨_, rfl⟩, kp_refl _⟩
  intro D6 s₁₈ ws k18 _ hD6 hp6
  have k18' := kp_trans k17 k18
  have hws : AllSign ws.toList := fun v hv => by
    obtain ⟨c, hc⟩ := all_paired hp6 v hv
    exact ⟨_, hc⟩
  have hwl : ws.size ≤ 11 := by
    have e := prd_len hp6
    have e2 := List.length_filter_le (fun c => !decide (c = 61)) cs
    have e3 : ws.toList.length = ws.size := by simp
    have e4 := prd_len hcs
    have e5 : zs.toList.length = zs.size := by simp
    omega
  refine join_signs hD6 hws (by omega) ?_
  intro v2 tk19 hv2
  have k19 := kp_trans k18' (kp_tok s₁₈ tk19)
  refine spliced_none ?_
  refine ⟨by show (2 : Nat) ≤ sizeLine; decide, ?_⟩
  have k20 := kp_trans k19 (kp_push (s := { s₁₈ with toks := tk19 }) { cls := .type "list", data := .seq ([v1, v2] : List Value).toArray })
  have f20 := f14.next k20
  have hTn : s.heap.get? s₁₈.heap.objs.size = none := none_back (f14.next k18').keeps (none_new _ (Nat.le_refl _))
  have hT20 : (s₁₈.heap.push { cls := .type "list", data := .seq ([v1, v2] : List Value).toArray }).PlainList s₁₈.heap.objs.size #[v1, v2] := ⟨0, Heap.get?_push_size _ rfl⟩
  have hDT : D ≠ s₁₈.heap.objs.size := by
    rintro e
    obtain ⟨n, e2⟩ := kp_plain k18' hD
    rw [e, none_new _ (Nat.le_refl _)] at e2
    cases e2
  generalize hTe : s₁₈.heap.objs.size = T at hTn hT20 hDT
  refine st_lk f20 rfl (by kernel_rfl) fun s₂₁ f21 l21 => ?_
  have hT21 : s₂₁.heap.PlainList T #[v1, v2] := kl_plain l21 hT20
  have hD21 : s₂₁.heap.PlainList D zs := kl_plain (kl_trans (kl_of k20) l21) hD
  dsimp only
  refine consC (wpC_any ?_)
  refine forK T AllText f21 hA hTn rfl (by kernel_rfl) rfl rfl rfl (by kernel_rfl) (fun _ => rfl) ?_
  refine wpAny_BinOp ?_
  refine Call_Name1 ?_ rfl
  refine nm_b (v := .builtin "len") f21.ik (by kernel_rfl) (by kernel_rfl) ?_ rfl (by kernel_rfl) rfl rfl (by decide)
  refine cw_b1 ?_
  refine nm_l f21 (v := .ref D) ?_ ?_ rfl (by kernel_rfl) (by decide)
  · rw [upd_other (by decide)]; exact upd_self _ _ _
  refine PyProof.Rows.len_list (isList_of hD21) (by omega) ?_
  refine wpAny_Constant_int ?_
  refine add_int ?_
  refine ⟨kp_tok s₂₁ _, zs.size + 1, _, #[v1, v2], rfl, by omega, hT21, ?_, ?_, ?_⟩
  · intro v hv
    simp at hv
    rcases hv with rfl | rfl
    · exact hv1
    · exact hv2
  · intro k v m' s' ys' E' hk hv hm' f' hT' hInv hsz kt'
    obtain ⟨uk, rfl⟩ := hv
    have htx : (upd m' (Str.ofString "k") (.int (k : Int) uk)) (Str.ofString "texts") = some (.ref T) := by
      rw [upd_other (by decide), hm' _ (by decide)]; exact upd_self _ _ _
    have hsg : (upd m' (Str.ofString "k") (.int (k : Int) uk)) (Str.ofString "signs") = some (.ref D) := by
      rw [upd_other (by decide), hm' _ (by decide), upd_other (by decide)]; exact upd_self _ _ _
    have hD' : s'.heap.PlainList D zs := kt_plain kt' hDT hD21
    have hkk : (upd m' (Str.ofString "k") (.int (k : Int) uk)) (Str.ofString "k") = some (.int (k : Int) uk) := upd_self _ _ _
    have hkl : k ≤ 11 := by omega
    generalize (upd m' (Str.ofString "k") (.int (k : Int) uk)) = mk at f' htx hsg hkk ⊢
    refine wpAny_execs_cons ?_
    refine wpAny_Expr_any ?_ rfl rfl
    refine mcall ?_ ?_ ?_ ?_
    iterate 3 kernel_rfl
    refine nm_l f' (v := .ref T) htx ?_ rfl (by kernel_rfl) (by decide)
    intro pl
    obtain ⟨nT, eT⟩ := id hT'
    refine getMethod_list_append eT rfl rfl ?_
    refine cw_bs ?_ ?_ ?_
    iterate 2 kernel_rfl
    refine spliced_more ?_
    refine wpAny_Call_method1_late ?_ ?_ ?_ ?_
    iterate 3 kernel_rfl
    refine wpAny_Constant_str ?_
    have q1 : Keeps s' { s' with toks := s'.toks + 1 } := kp_tok s' _
    refine ⟨"str", "str.join", F.plainAttrs_str, F.slot_str_join, F.type_str_join, typeIs_str _ _ _, (fun _ e => nomatch e), ?_⟩
    refine cw_b1 ?_
    refine wpAny_BinOp ?_
    refine wpAny_BinOp ?_
    refine lslice (l := D) (items := zs) (lo := none) (hi := some (k : Int)) ?_ ?_
    rotate_left
    · intro _ _; rfl
    refine nm_l (f'.next q1) (v := .ref D) hsg ?_ rfl (by kernel_rfl) (by decide)
    refine wpAny_evalPart_none ?_
    refine wpAny_evalPart_some ?_
    refine nm_l (f'.next q1) (v := .int (k : Int) uk) hkk ?_ rfl (by kernel_rfl) (by decide)
    refine ⟨rfl, isList_of (kp_plain q1 hD'), by omega, .none, .int _ _, ?_⟩
    intro G1 s₃₁ q2 _ hG1
    have q2' := kp_trans q1 q2
    refine wpAny_List ?_
    refine spliced_more ?_
    refine wpAny_Constant_str ?_
    refine spliced_none ?_
    refine ⟨by show (1 : Nat) ≤ sizeLine; decide, ?_⟩
    have q3 : Keeps s₃₁ { s₃₁ with heap := s₃₁.heap.push { cls := .type "list", data := .seq ([Value.str (Str.ofString "=") s₃₁.toks] : List Value).toArray }, toks := s₃₁.toks + 1 } := ⟨_, _, rfl, fun b o e => Heap.get?_push_of_some _ e⟩
    have hG2 : (s₃₁.heap.push { cls := .type "list", data := .seq ([Value.str (Str.ofString "=") s₃₁.toks] : List Value).toArray }).PlainList s₃₁.heap.objs.size #[Value.str (Str.ofString "=") s₃₁.toks] := ⟨0, Heap.get?_push_size _ rfl⟩
    have hsz1 : (slicePick zs none (some (k : Int)) none).size ≤ 11 := Nat.le_trans (slicePick_size_le _ _ _ _) hzl
    have hsz2 : (slicePick zs (some (k : Int)) none none).size ≤ 11 := Nat.le_trans (slicePick_size_le _ _ _ _) hzl
    have hsL : (23 : Nat) ≤ sizeLine := by decide
    refine add_plain (kp_plain q3 hG1) hG2 ?_ ?_
    · show (slicePick zs none (some (k : Int)) none).size + 1 ≤ _
      omega
    intro G3 s₃₂ q4 _ hG3
    have q4' := kp_trans q2' (kp_trans q3 q4)
    refine lslice (l := D) (items := zs) (lo := some (k : Int)) (hi := none) ?_ ?_
    rotate_left
    · intro _ _; rfl
    refine nm_l (f'.next q4') (v := .ref D) hsg ?_ rfl (by kernel_rfl) (by decide)
    refine wpAny_evalPart_some ?_
    refine nm_l (f'.next q4') (v := .int (k : Int) uk) hkk ?_ rfl (by kernel_rfl) (by decide)
    refine wpAny_evalPart_none ?_
    refine ⟨rfl, isList_of (kp_plain q4' hD'), by omega, .int _ _, .none, ?_⟩
    intro G4 s₃₃ q5 _ hG4
    refine add_plain (kp_plain q5 hG3) hG4 ?_ ?_
    · rw [Array.size_append]
      show (slicePick zs none (some (k : Int)) none).size + 1 + _ ≤ _
      omega
    intro G5 s₃₄ q6 _ hG5
    have q6' := kp_trans q4' (kp_trans q5 q6)
    refine join_signs hG5 ?_ ?_ ?_
    · rw [Array.toList_append, Array.toList_append]
      refine allSign_app (allSign_app (fun v hv => hzs v (pick_mem hv)) ?_) (fun v hv => hzs v (pick_mem hv))
      intro v hv
      simp at hv
      subst hv
      exact ⟨61, _, rfl⟩
    · rw [Array.size_append, Array.size_append]
      show (slicePick zs none (some (k : Int)) none).size + 1 + _ ≤ _
      omega
    intro vj tkj hvj
    have q7 := kp_trans q6' (kp_tok s₃₄ tkj)
    refine spliced_none ?_
    have hT7 := kp_plain q7 hT'
    show wpAny _ _ (call (.builtin "list.append") [.ref T, vj]) _ _ _
    refine wpAny_list_append_plain hT7 (fun h' hpl hsb => ?_) ?_
    rotate_left
    · have e2 : (#[v1, v2] : Array Value).size = 2 := rfl
      omega
    show wpAny _ _ (execs [] _) _ _ _
    refine wpAny_execs_nil ?_
    obtain ⟨nT7, eT7⟩ := id hT7
    refine ⟨rfl, ys'.push vj, hpl, allText_push hInv hvj, by rw [Array.size_push], fm_but (tk := tkj) (f'.next q7) hTn eT7 rfl hsb.extBut, ?_⟩
    refine kt_trans (kt_of T (kl_of q7)) ⟨h', tkj, rfl, fun b o nb e _ => hsb.extBut b o nb e⟩
  · intro m' s' ys' hm' f' hT' hInv hsz kt'
    dsimp only
    have htx : m' (Str.ofString "texts") = some (.ref T) := by
      rw [hm' _ (by decide)]; exact upd_self _ _ _
    have hS' := stands_cons (h := s.heap) (env := callEnvC (fd273 w.params) s.heap.objs.size 273) (outer := []) (by intro q; cases q) rfl f'.F.toInCall.ns trivial (fun b o e => kp_get f'.keeps e)
    have hF' : Free w [callEnvC (fd273 w.params) s.heap.objs.size 273] := free_cons (L := s.heap.objs.size) rfl (ik_fresh X hL) (by intro b hb; cases hb)
    have hfr' : (A.deeper (callEnvC (fd273 w.params) s.heap.objs.size 273)).frames = some [callEnvC (fd273 w.params) s.heap.objs.size 273] := Around.frames_deeper hfr
    refine consC ?_
    refine retC ?_
    refine cmpC ?_ ?_
    rotate_left
    · with_unfolding_all rfl
    refine compC (spots [callEnvC (fd273 w.params) s.heap.objs.size 273]) hA (cl := [(u "nothings", s.heap.objs.size + 1 + 1), (u "blanks", s.heap.objs.size + 1)]) ?_ ?_
    · exact ⟨by kernel_rfl, by kernel_rfl, fun _ => rfl⟩
    refine nm_l f' (v := .ref T) htx ?_ rfl (by kernel_rfl) (by decide)
    have hcm1 : s'.heap.IsCell (s.heap.objs.size + 1) (some (.str (tx blanksL) t1)) := by
      have := f'.F.cell (u "blanks") (s.heap.objs.size + 1) (by kernel_rfl)
      rw [upd_other (by decide), upd_other (by decide)] at this
      rw [show upd _ (Str.ofString "blanks") (.str (tx blanksL) t1) (u "blanks") = some (.str (tx blanksL) t1) from upd_self _ _ _] at this
      exact this
    have hcm2 : s'.heap.IsCell (s.heap.objs.size + 1 + 1) (some (.str (tx nothingsL) t2)) := by
      have := f'.F.cell (u "nothings") (s.heap.objs.size + 1 + 1) (by kernel_rfl)
      rw [upd_other (by decide)] at this
      rw [show upd _ (Str.ofString "nothings") (.str (tx nothingsL) t2) (u "nothings") = some (.str (tx nothingsL) t2) from upd_self _ _ _] at this
      exact this
    have hsp : spots [callEnvC (fd273 w.params) s.heap.objs.size 273] = [s.heap.objs.size] := rfl
    have cellKX : ∀ {c : Addr} {o : Option Value} {s₂ : Shared}, s'.heap.IsCell c o → c ≠ s.heap.objs.size → KX (spots [callEnvC (fd273 w.params) s.heap.objs.size 273]) s' s₂ → s₂.heap.IsCell c o := by
      intro c o s₂ ⟨oc, ec, dc⟩ hc k
      have k1 := kh_of k c oc ec
      rw [if_neg (by rw [hsp]; simpa using hc)] at k1
      exact ⟨oc, k1, dc⟩
    refine ⟨T, ys', rfl, hT', ?_, ?_, ?_, ?_⟩
    · rw [hsp, List.mem_singleton]
      rintro rfl
      obtain ⟨n, e1⟩ := hT'
      obtain ⟨o, es, ep, e2, d2, _⟩ := f'.F.toInCall.ns
      have e3 : s'.heap.get? s.heap.objs.size = some o := e2
      rw [e1] at e3
      cases e3
      cases d2
    · intro b hb
      rw [hsp, List.mem_singleton] at hb
      subst hb
      obtain ⟨o, es, ep, e2, d2, _⟩ := f'.F.toInCall.ns
      exact ⟨o, e2⟩
    · intro C v s₂ m₂ hv hn₂ hm₂ k₂
      obtain ⟨lt, ut, rfl, hlt⟩ := hInv v hv
      have X₂ : IK w s₂.heap := ik_kx f'.ik k₂ hF'
      have S₂ := stands_kh (kh_of k₂) hS'
      have hb2 := cellKX hcm1 (Nat.succ_ne_self _) k₂
      have hn2 := cellKX hcm2 (by show s.heap.objs.size + 1 + 1 ≠ s.heap.objs.size; omega) k₂
      refine testsC ?_
      refine notC ?_
      refine plainC ?_ ?_
      rotate_left
      · rfl
      refine nameC ?_
      refine nm_g X₂ (v := .ref 268) (by kernel_rfl) ?_ rfl (by kernel_rfl) rfl (by decide)
      show wpC _ _ (callWith _ (.ref 268) [] [(false, PySem.eval _ _), (false, PySem.eval _ _), (false, PySem.eval _ _)] []) _ _ _
      refine cw_fnC (w := w) (o := o268 w.params) (by kernel_rfl) rfl rfl ?_
      refine spliced_cons ?_
      refine nk_l hn₂ hm₂ ?_ (by kernel_rfl) (by kernel_rfl) (by decide)
      refine spliced_cons ?_
      refine nk_c (c := s.heap.objs.size + 1) (v := .str (tx blanksL) t1) hb2 ?_ (by kernel_rfl) (by kernel_rfl) (by kernel_rfl) (by decide)
      refine spliced_cons ?_
      refine nk_c (c := s.heap.objs.size + 1 + 1) (v := .str (tx nothingsL) t2) hn2 ?_ (by kernel_rfl) (by kernel_rfl) (by kernel_rfl) (by decide)
      refine spliced_nil ?_
      refine ⟨X₂, ?_⟩
      refine wpC_call ?_
      refine rightC (A := A.deeper (callEnvC (fd273 w.params) s.heap.objs.size 273)) X₂ (by omega) hA (by omega) hlt hfr' S₂ hF' ?_
      intro s₃ k₃
      exact wpAny_truthy_bool ⟨rfl, k₃⟩
    · intro D' s₄ k₄ hD0 hD4
      refine wpAny_List ?_
      refine spliced_none ?_
      refine ⟨Nat.zero_le _, ?_⟩
      have kN := kp_push (s := s₄) { cls := .type "list", data := .seq ([] : List Value).toArray }
      have hN : (s₄.heap.push { cls := .type "list", data := .seq ([] : List Value).toArray }).IsList s₄.heap.objs.size ([] : List Value).toArray := ⟨_, Heap.get?_push_size _ rfl, rfl, _, rfl⟩
      refine ke_eq_ints (xs := []) (ys := []) (ns := []) (ms := []) (isList_of (kp_plain kN hD4)) hN .nil .nil (by omega) ?_
      have k5 := kx_trans k₄ (kx_of _ kN)
      have k6 : KX (spots []) s { s₄ with heap := s₄.heap.push { cls := .type "list", data := .seq ([] : List Value).toArray } } := by
        obtain ⟨hx, tx', e, kk⟩ := k5
        rw [e]
        exact kx_drop (outer := []) (env := callEnvC (fd273 w.params) s.heap.objs.size 273) (L := s.heap.objs.size) rfl hL f'.keeps kk
      exact h _ (kx_nil k6)
end
end Mine

end
section
open PySem PySem.W PySem.Calls PyProof.Rows PySem.Builtin PySem.Builtin.Str
set_option Elab.async false
set_option maxRecDepth 100000
set_option maxHeartbeats 1000000
namespace Mine
/-- the claim's thread ends: said at the claim's own context -/
theorem endsC {prog : Program} {w : World} {t : Sem Fin} {s : Shared} {R : Result → Shared → Prop} (hreg : s.asleep)
    (h : wpC (model prog w) callerA t (fun fin s' => ∃ f, fin = .done f ∧ (R (.ok f) s' ∧ leftWithCleanup s'.gens = false)) (fun e s' => R (.error e) s' ∧ leftWithCleanup s'.gens = false) s) :
    ∃ n r s' s'', runN (denote table) prog w n s ⟨t, .builtin "claim.caller" {}, default, []⟩ = .halted (outcomeOf r) s' ∧
      schedN (denote table) prog w n (.single s ⟨t, .builtin "claim.caller" {}, default, []⟩) = .halted (outcomeOf r) s' ∧ s'.forget = s''.forget ∧ R r s'' := by
  have h0 : Sem.wp (model prog w) ⟨.builtin "claim.caller" {}, none, none, [], none⟩ t (Sem.finPost (model prog w) ⟨.builtin "claim.caller" {}, none, none, [], none⟩ fun r s' => R r s' ∧ leftWithCleanup s'.gens = false)
      (fun e _ s' => R (.error e) s' ∧ leftWithCleanup s'.gens = false) default s :=
    Sem.wp_mono (model prog w) _ t (fun fin p' s' h' => by
      obtain ⟨f, rfl, hf⟩ := h'
      exact hf) (fun _ _ _ h' => h') default s (h ⟨.builtin "claim.caller" {}, none, none, [], none⟩ default caller_in caller_has)
  obtain ⟨n, r, s₁, s₂, hs, hn, hfo, hR⟩ := wp_halts_full (M := model prog w) (R := R) hreg h0
  exact ⟨n, r, s₂, s₁, hn, hs, hfo, hR⟩
/-- what the stub runs -/
def stubT (name : Str) (vs : List Value) : Sem Fin := do
  match ← nsGet mainNs name with
  | some f => do ret (← PySem.call f vs)
  | none => unsupported "claim.caller:no-such-global"
/-- a row whose walk is said at the claim's own context -/
theorem holds_caller {r : OpenRow} {q : Program} {loose : List Str} {α : Type} {Yf : Shared → α} {Ya : World → α} {YP : World → Heap → Prop} {d : DefRec} {kwd : List (Str × Expr)} {N : Nat}
    (left : LeftO r.prog q loose (fun _ => true) Yf Ya N) (hY : ∀ w s, Yf s = Ya w → YP w s.heap) (hYk : ∀ w h h', YP w h → (∀ b o, h.get? b = some o → h'.get? b = some o) → YP w h')
    (hdef : defOf q r.name = some (d, kwd)) (hp : r.prog.theDef r.name = some (d.params, d.body, d.scope)) (hk : kwWritten? d.params.kwonlyargs d.params.kw_defaults = some kwd) (hrec : r.records = []) (hnw : r.writes = false)
    (k1 : r.wellSaid = true) (ok : (chainsOk q && opensWell r.prog && (frees r.toRowW && r.within.isEmpty)) = true) (hb : r.prog.bare) (hw : r.toRowW.promised)
    (walk : ∀ (w : World) (s₀ s₁ : Shared), YP w s₁.heap → s₁.gens = #[] → ∀ (args : List WData) (vals : List Value) (as : List Addr), r.toRowW.claim.pre args = true → ReadsAllW r.records (classAt s₀.heap) s₁.heap vals args as →
      wpC (model r.prog w) callerA (stubT r.name vals) (fun fin s' => ∃ f, fin = .done f ∧ GoodWG r.toRowW.claim (classAt s₀.heap) (ExcName.means s₀.heap) args s₁ (.ok f) s')
        (fun e s' => GoodWG r.toRowW.claim (classAt s₀.heap) (ExcName.means s₀.heap) args s₁ (.error e) s') s₁) : r.Holds := by
  obtain ⟨ok, k5⟩ := Bool.and_eq_true_iff.mp ok
  obtain ⟨hch, o1⟩ := Bool.and_eq_true_iff.mp ok
  obtain ⟨k5, k6⟩ := Bool.and_eq_true_iff.mp k5
  obtain ⟨hsame, hu, ha, hap, hm⟩ := frees_parts k5
  have behind := fun w => left.behind (XP := fun _ _ => True) (fun _ _ => trivial) hch w
  refine ⟨k1, hw, ⟨hb, o1, by show r.makers.map _ = []; rw [hm]; rfl⟩, hw.witness, fun w => ⟨(behind w).1, fun s' hs' => ?_⟩⟩
  obtain ⟨s₀, hf, hg0, s, hT, hz, hgens, hg, G, y⟩ := (behind w).2 s' hs'
  have hgens : s.gens = #[] := Array.eq_empty_of_size_eq_zero (beq_iff_eq.mp hgens)
  refine ⟨s₀, hf, hg0, s, hT, ?_, ?_, ?_, ?_⟩
  · intro n hn
    obtain rfl : n = r.name := by
      split at hn
      · simpa using hn
      · simp at hn
    exact pinned_of_view hg G hdef hp hk
  · intro x hx
    have hx' : x ∈ r.records := hx
    rw [hrec] at hx'; cases hx'
  · intro x hx
    have hx' : x ∈ r.records := hx
    rw [hrec] at hx'; cases hx'
  intro args hpre hlay ord hord
  have G' : Ground q loose r.records (fun _ _ => True) w s (s.heap.nsMap mainGlobals) (s.heap.nsMap builtinsNs) s.heap := by rw [hrec]; exact G
  obtain ⟨⟨vs, s₁⟩, hlaid⟩ := Option.isSome_iff_exists.mp (layAllW_isSome (P := w.params) (ord := ord) G'.has args r.args s (pre_splitW hpre).1)
  have keeps := layAllW_keeps _ _ _ hlaid
  have hal := layAllW_rest _ _ _ hlaid
  obtain ⟨as, hrd, hin, hold⟩ := reads_layAllW hord _ _ _ hlaid hlay s₁.heap (fun _ _ e => e)
  have L : Laid r.records w s s₁ args vs as := ⟨⟨ord, hord, hlaid⟩, hrd, hin, hold, keeps, hal.1.trans hgens, hal.2.2.1⟩
  have hi := ident_freeW hu ha hap
  have hwi : r.toRowW.claim.within = [] := List.isEmpty_iff.mp k6
  have hcode := walk w s s₁ (hYk _ _ _ (hY w s y) keeps) L.gens args vs as hpre hrd
  obtain ⟨k, res, t', t'', hrun, hsched, hfo, hcase, hos⟩ := endsC (prog := r.prog) (w := w) (t := stubT r.name vs) (s := s₁) (R := fun res t => r.toRowW.claim.Ends s args vs s₁ res t ∧ t.os = s.os) (Shared.asleep_of_life hal.2.2.2 hz)
    (wpC_mono hcode (fun fin t h => by
      obtain ⟨f, e, g⟩ := h
      obtain ⟨a, b, c⟩ := g.laid (c := r.toRowW.claim) hsame hwi hi L
      exact ⟨f, e, ⟨a, b⟩, leftWithCleanup_false_of_bare c⟩) (fun e t g => by
      obtain ⟨a, b, c⟩ := g.laid (c := r.toRowW.claim) hsame hwi hi L
      exact ⟨⟨a, b⟩, leftWithCleanup_false_of_bare c⟩))
  obtain ⟨eh, _, _, eo, _⟩ := Shared.forget_eq hfo
  have hcase := hcase.congr eh
  rw [← eo] at hos
  have hlife : t'.heap.life = s.heap.life := (runN_life _ _ _ hrun).trans hal.2.2.2
  refine ⟨vs, s₁, hlaid, k, _, t', hsched, ?_, (fun _ i x hx => by rw [hgens] at hx; simp at hx), (fun q => by rw [hnw] at q; cases q), by rw [hlife], Shared.rest_eq hos⟩
  rcases hcase with ⟨v, rfl, d1, d2, d3, d4, d5⟩ | ⟨e, ob, cls, rfl, d1, d2, d3, d4, d5⟩
  · exact .inl ⟨v, rfl, d1, d2, d3, fun b o y _ => d4 b o y, d5⟩
  · exact .inr ⟨e, ob, cls, rfl, d1, d2, d3, d4, fun b o y _ => d5 b o y⟩
end Mine

end
section
open PySem PySem.W PySem.Calls PyProof.Rows PySem.Builtin PySem.Builtin.Str
set_option Elab.async false
set_option maxRecDepth 100000
set_option maxHeartbeats 1000000
namespace Mine
theorem items_int {R : WRecords} {cl : Str → Option Addr} {h : Heap} : ∀ {ds : List WData} {vs : List Value} {as : List Addr}, WShape.hasItems R ds .int = true → ReadsAllW R cl h vs ds as → AllInt vs
  | [], _, _, _, .nil => fun v hv => by cases hv
  | d :: ds, _, _, hi, .cons r1 r2 => by
    simp only [WShape.hasItems, Bool.and_eq_true] at hi
    obtain ⟨i, rfl⟩ := hasW_int hi.1
    intro v hv
    rcases List.mem_cons.mp hv with rfl | hv
    · cases r1
      exact ⟨i, _, rfl⟩
    · exact items_int hi.2 r2 v hv
theorem reads_len {R : WRecords} {cl : Str → Option Addr} {h : Heap} : ∀ {ds : List WData} {vs : List Value} {as : List Addr}, ReadsAllW R cl h vs ds as → vs.length = ds.length
  | _, _, _, .nil => rfl
  | _, _, _, .cons _ r2 => by simp [reads_len r2]
/-- the script, as it lies -/
theorem script_of {cl : Str → Option Addr} {h : Heap} {args : List WData} {vals : List Value} {as : List Addr} (hpre : PySem.Challenge.rw_ij0040_01.row.toRowW.claim.pre args = true) (hrd : ReadsAllW PySem.Challenge.rw_ij0040_01.row.records cl h vals args as) :
    ∃ L0 items, vals = [.ref L0] ∧ h.IsList L0 items ∧ items.size ≤ 63 ∧ AllInt items.toList := by
  obtain ⟨h1, h2⟩ := pre_splitW hpre
  have h1' : WShape.hasAll PySem.Challenge.rw_ij0040_01.row.records args [.list .int] = true := h1
  obtain ⟨d, r, rfl, hd, hr⟩ := hasAllW_cons h1'
  cases hasAllW_nil hr
  obtain ⟨ds, rfl, hds⟩ := hasW_list hd
  cases hrd with
  | cons r1 r2 =>
    cases r2
    cases r1 with
    | list e1 e2 e3 e4 =>
      rename_i a o vs n as'
      refine ⟨a, vs, rfl, ⟨o, e1, e2, n, e3⟩, ?_, items_int hds e4⟩
      have hlen := reads_len e4
      have h3 : (PySem.Challenge.rw_ij0040_01.row.pre).holds [] { args := [.list ds] } = true := h2
      have hp : PySem.Challenge.rw_ij0040_01.row.pre = .and (.not (.lt (.lit (.int 63)) (.len (.arg 0)))) (.lit (.bool true)) := rfl
      rw [hp] at h3
      have h4 : ¬ ((63 : Int) < ((ds.length : Nat) : Int)) := by
        intro hlt
        have e5 : WTm.value [] (.and (.not (.lt (.lit (.int 63)) (.len (.arg 0)))) (.lit (.bool true))) { args := [.list ds] } = some (.bool false) := by
          have e6 : WTm.value [] (.lt (.lit (.int 63)) (.len (.arg 0))) { args := [.list ds] } = some (.bool (decide ((63 : Int) < ((ds.length : Nat) : Int)))) := rfl
          rw [decide_eq_true hlt] at e6
          have e7 : WTm.value [] (.not (.lt (.lit (.int 63)) (.len (.arg 0)))) { args := [.list ds] } = some (.bool false) := by
            rw [WTm.value, e6]; rfl
          rw [WTm.value, e7]
        unfold WTm.holds at h3
        rw [e5] at h3
        cases h3
      have : vs.size = ds.length := by rw [← hlen]; simp
      omega
end Mine

end
section
open PySem PySem.W PySem.Calls PyProof.Rows PySem.Builtin PySem.Builtin.Str
set_option Elab.async false
set_option maxRecDepth 100000
set_option maxHeartbeats 0
namespace Mine
theorem glob_law (P : Params) : nsOf (o3v8 P) (u "law") = some (.ref 273) := by kernel_rfl
theorem post_true (args : List WData) : PySem.Challenge.rw_ij0040_01.row.toRowW.claim.post args (.bool true) args = true := by
  have h1 : WShape.has [] (.bool true) .bool = true := by simp [WShape.has, WShape.arms]
  have hp : PySem.Challenge.rw_ij0040_01.row.post = .eq .res (.lit (.bool true)) := rfl
  have h2 : WTm.holds [] (.eq .res (.lit (.bool true))) { args := args, res := some (.bool true), after := args } = true := by
    have e : WTm.value [] (.eq .res (.lit (.bool true))) { args := args, res := some (.bool true), after := args } = some (.bool (same (.bool true) (.bool true))) := rfl
    have e2 : same (.bool true) (.bool true) = true := by simp [same]
    unfold WTm.holds
    rw [e, e2]
  show (WShape.has [] (.bool true) .bool && (PySem.Challenge.rw_ij0040_01.row.post).holds [] { args := args, res := some (.bool true), after := args }) = true
  rw [hp, h1, h2]
  rfl
theorem walk_law (w : World) (s₀ s₁ : Shared) (X : HK.says w s₁.heap) (hg : s₁.gens = #[]) (args : List WData) (vals : List Value) (as : List Addr) (hpre : PySem.Challenge.rw_ij0040_01.row.toRowW.claim.pre args = true)
    (hrd : ReadsAllW PySem.Challenge.rw_ij0040_01.row.records (classAt s₀.heap) s₁.heap vals args as) :
    wpC (model pw w) callerA (stubT (u "law") vals) (fun fin s' => ∃ f, fin = .done f ∧ GoodWG PySem.Challenge.rw_ij0040_01.row.toRowW.claim (classAt s₀.heap) (ExcName.means s₀.heap) args s₁ (.ok f) s')
        (fun e s' => GoodWG PySem.Challenge.rw_ij0040_01.row.toRowW.claim (classAt s₀.heap) (ExcName.means s₀.heap) args s₁ (.error e) s') s₁ := by
  obtain ⟨L0, items, rfl, hl, hn, hi⟩ := script_of hpre hrd
  have X' : IK w s₁.heap := X
  unfold stubT
  refine wpC_bindA (wpAny_nsGet (ns_glob X') ?_)
  rw [glob_law]
  show wpC _ _ (PySem.call (.ref 273) [.ref L0] >>= ret) _ _ _
  refine wpC_bind (wpC_call (lawC X' (by decide +kernel) rfl (by decide +kernel) rfl hl hn hi ?_))
  intro s' k
  refine wpC_pure ⟨_, rfl, GoodW.toG ⟨.inl ⟨.bool true, .bool true, [], rfl, fun _ => rfl, .bool true, post_true _, fun _ => ⟨.nil, fun a ha => by cases ha⟩⟩, fun b o e => kp_get k e, kp_os k, (kp_gens k).trans hg⟩⟩
theorem row_holds : PySem.Challenge.rw_ij0040_01.Holds := by
  o_law
  refine holds_caller (r := PySem.Challenge.rw_ij0040_01.row) (q := qv) (loose := loose) (Yf := HK.obs) (Ya := HK.val) (YP := HK.says) (N := 31120) left_all HK.of HK.keeps dL_def ?h1 ?h2 rfl rfl (by assumption) (by decide +kernel) ⟨rfl, rfl, rfl, rfl, rfl, by decide +kernel⟩ ?hw walk_law
  case hw => w_witness2
  case h1 => kernel_rfl
  case h2 => kernel_rfl
end Mine

end
theorem PySem.Challenge.cw_ij0040_01_holds : PySem.Challenge.rw_ij0040_01.Holds :=
  Mine.row_holds
