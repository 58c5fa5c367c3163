import PyProof.Rows.All
import Wide.All
import OpenK.AllK
import Wide.FinOn
import KE.KRevSl
import PySem.Challenge.RW_ti0043_01
open PySem PySem.W PyProof.Rows PySem.Calls
set_option Elab.async false
set_option maxRecDepth 100000
set_option maxHeartbeats 0
set_option linter.unusedVariables false
noncomputable section
namespace Mine
section
abbrev pw : Program := PySem.Challenge.pw_ti0043_01
noncomputable def stAt (i : Nat) : Stmt := (pw.main.body.drop i).headD (.Pass ⟨0, 0, 0, 0⟩)
noncomputable def fArgs : Stmt → Arguments
  | .FunctionDef _ a _ _ _ _ _ _ _ _ => a
  | _ => ⟨[], [], none, [], [], none, []⟩
noncomputable def fBody : Stmt → List Stmt
  | .FunctionDef _ _ b _ _ _ _ _ _ _ => b
  | _ => []
noncomputable def fScope : Stmt → Scope
  | .FunctionDef _ _ _ _ _ _ s _ _ _ => s
  | _ => default
noncomputable def fnD (i : Nat) (name qual : Str) (gl : Addr) (dfl kw doc md code ct : Value) (blt : Addr) : FuncData :=
  { name := name, qualname := qual, params := fArgs (stAt i), body := .stmts (fBody (stAt i)), scope := fScope (stAt i), globals := gl, closure := [], defaults := dfl, kwdefaults := kw, doc := doc, pyModule := md, annotations := none, code := code, closureTuple := ct, builtins := blt }
noncomputable def lf : Life := {}
/-- a dict of this text's top -/
noncomputable def dO (es : List DictEntry) (n : Nat) : Obj := ⟨.type "dict", none, .dict es.toArray n, #[]⟩
/-- the entries of a run of pairs: three signs a pair, or two -/
noncomputable def ents3 : List (Int × Str) → Nat → List DictEntry
  | [], _ => []
  | p :: r, t => ⟨p.1, .int p.1 t, .str p.2 (t + 1)⟩ :: ents3 r (t + 3)
noncomputable def ents2 : List (Int × Str) → Nat → List DictEntry
  | [], _ => []
  | p :: r, t => ⟨p.1, .int p.1 t, .str p.2 (t + 1)⟩ :: ents2 r (t + 2)
/-- what the display's loop does, run by run -/
structure Fd where
  rp : List (Int × Str)
  es : List DictEntry
  n : Nat
  r : List Obj
  tk : Nat
noncomputable def feed : List (Int × Str) → Fd → Fd
  | [], x => x
  | p :: q, x => if x.rp.length = 16 then feed q ⟨[], x.es ++ ents3 (x.rp ++ [p]) x.tk, x.n + 17, x.r ++ [dO (ents3 (x.rp ++ [p]) x.tk) 17], x.tk + 51⟩
      else feed q ⟨x.rp ++ [p], x.es, x.n, x.r, x.tk⟩
noncomputable def kOf : Option Expr → Int
  | some (.Constant (.int i) _ _) => i
  | _ => 0
noncomputable def vOf : Expr → Str
  | .Constant (.str s) _ _ => s
  | _ => ⟨#[]⟩
noncomputable def b3Ks : List (Option Expr) := match stAt 3 with
  | .Assign _ (.Dict ks _ _) _ => ks
  | _ => []
noncomputable def b3Vs : List Expr := match stAt 3 with
  | .Assign _ (.Dict _ vs _) _ => vs
  | _ => []
noncomputable def b3L : List (Int × Str) := (b3Ks.zip b3Vs).map fun p => (kOf p.1, vOf p.2)
noncomputable def F0 : Fd := feed (b3L.drop 17) ⟨[], ents3 (b3L.take 17) 256, 17, [], 307⟩
noncomputable def b3E : List DictEntry := F0.es ++ ents2 F0.rp F0.tk
noncomputable def b3subs : List Obj := F0.r ++ [dO (ents2 F0.rp F0.tk) F0.rp.length]
noncomputable def ho_b3 : Nat → Obj
  | 0 => dO b3E (F0.n + F0.rp.length)
  | j + 1 => (b3subs.drop j).headD default
noncomputable def ho_3_0 (P : Params) : Obj := ⟨.type "dict", none, .dict #[⟨PyData.keyHash P (Str.ofString "__name__"), .str (Str.ofString "__name__") 165, .str (Str.ofString "__main__") 164⟩, ⟨PyData.keyHash P (Str.ofString "__doc__"), .str (Str.ofString "__doc__") 166, .none⟩, ⟨PyData.keyHash P (Str.ofString "__package__"), .str (Str.ofString "__package__") 167, .none⟩, ⟨PyData.keyHash P (Str.ofString "__loader__"), .str (Str.ofString "__loader__") 168, .builtin "__main__.__loader__#opaque"⟩, ⟨PyData.keyHash P (Str.ofString "__spec__"), .str (Str.ofString "__spec__") 169, .none⟩, ⟨PyData.keyHash P (Str.ofString "__annotations__"), .str (Str.ofString "__annotations__") 170, .ref 6⟩, ⟨PyData.keyHash P (Str.ofString "__builtins__"), .str (Str.ofString "__builtins__") 171, .ref 4⟩, ⟨PyData.keyHash P (Str.ofString "__file__"), .str (Str.ofString "__file__") 173, .str (Str.ofString "/claim/cut.py") 172⟩, ⟨PyData.keyHash P (Str.ofString "__cached__"), .str (Str.ofString "__cached__") 174, .none⟩] 9, #[]⟩
noncomputable def ho_3_1 (P : Params) : Obj := ⟨.type "dict", none, .dict #[⟨PyData.keyHash P (Str.ofString "__name__"), .str (Str.ofString "__name__") 165, .str (Str.ofString "cpy313.stringprep") 187⟩, ⟨PyData.keyHash P (Str.ofString "__doc__"), .str (Str.ofString "__doc__") 166, .none⟩, ⟨PyData.keyHash P (Str.ofString "__package__"), .str (Str.ofString "__package__") 167, .none⟩, ⟨PyData.keyHash P (Str.ofString "__loader__"), .str (Str.ofString "__loader__") 168, .builtin "__main__.__loader__#opaque"⟩, ⟨PyData.keyHash P (Str.ofString "__spec__"), .str (Str.ofString "__spec__") 169, .none⟩, ⟨PyData.keyHash P (Str.ofString "__annotations__"), .str (Str.ofString "__annotations__") 170, .ref 6⟩, ⟨PyData.keyHash P (Str.ofString "__builtins__"), .str (Str.ofString "__builtins__") 171, .ref 4⟩, ⟨PyData.keyHash P (Str.ofString "__file__"), .str (Str.ofString "__file__") 173, .str (Str.ofString "/claim/cut.py") 172⟩, ⟨PyData.keyHash P (Str.ofString "__cached__"), .str (Str.ofString "__cached__") 174, .none⟩] 9, #[]⟩
noncomputable def ho_3_2 (P : Params) : Obj := ⟨.type "dict", none, .dict #[⟨PyData.keyHash P (Str.ofString "__name__"), .str (Str.ofString "__name__") 165, .str (Str.ofString "cpy313.stringprep") 187⟩, ⟨PyData.keyHash P (Str.ofString "__doc__"), .str (Str.ofString "__doc__") 166, .none⟩, ⟨PyData.keyHash P (Str.ofString "__package__"), .str (Str.ofString "__package__") 167, .none⟩, ⟨PyData.keyHash P (Str.ofString "__loader__"), .str (Str.ofString "__loader__") 168, .builtin "__main__.__loader__#opaque"⟩, ⟨PyData.keyHash P (Str.ofString "__spec__"), .str (Str.ofString "__spec__") 169, .none⟩, ⟨PyData.keyHash P (Str.ofString "__annotations__"), .str (Str.ofString "__annotations__") 170, .ref 6⟩, ⟨PyData.keyHash P (Str.ofString "__builtins__"), .str (Str.ofString "__builtins__") 171, .ref 4⟩, ⟨PyData.keyHash P (Str.ofString "__file__"), .str (Str.ofString "__file__") 173, .str (Str.ofString "/claim/cut.py") 172⟩, ⟨PyData.keyHash P (Str.ofString "__cached__"), .str (Str.ofString "__cached__") 174, .none⟩, ⟨PyData.keyHash P (Str.ofString "b1_set"), .str (Str.ofString "b1_set") 248, .ref 22⟩] 10, #[]⟩
noncomputable def ho_3_3 (P : Params) : Obj := ⟨.type "dict", none, .dict #[⟨PyData.keyHash P (Str.ofString "__name__"), .str (Str.ofString "__name__") 165, .str (Str.ofString "cpy313.stringprep") 187⟩, ⟨PyData.keyHash P (Str.ofString "__doc__"), .str (Str.ofString "__doc__") 166, .none⟩, ⟨PyData.keyHash P (Str.ofString "__package__"), .str (Str.ofString "__package__") 167, .none⟩, ⟨PyData.keyHash P (Str.ofString "__loader__"), .str (Str.ofString "__loader__") 168, .builtin "__main__.__loader__#opaque"⟩, ⟨PyData.keyHash P (Str.ofString "__spec__"), .str (Str.ofString "__spec__") 169, .none⟩, ⟨PyData.keyHash P (Str.ofString "__annotations__"), .str (Str.ofString "__annotations__") 170, .ref 6⟩, ⟨PyData.keyHash P (Str.ofString "__builtins__"), .str (Str.ofString "__builtins__") 171, .ref 4⟩, ⟨PyData.keyHash P (Str.ofString "__file__"), .str (Str.ofString "__file__") 173, .str (Str.ofString "/claim/cut.py") 172⟩, ⟨PyData.keyHash P (Str.ofString "__cached__"), .str (Str.ofString "__cached__") 174, .none⟩, ⟨PyData.keyHash P (Str.ofString "b1_set"), .str (Str.ofString "b1_set") 248, .ref 22⟩, ⟨PyData.keyHash P (Str.ofString "in_table_b1"), .str (Str.ofString "in_table_b1") 255, .ref 32⟩] 11, #[]⟩
noncomputable def ho_3_4 (P : Params) : Obj := ⟨.type "dict", none, .dict #[⟨PyData.keyHash P (Str.ofString "__name__"), .str (Str.ofString "__name__") 165, .str (Str.ofString "cpy313.stringprep") 187⟩, ⟨PyData.keyHash P (Str.ofString "__doc__"), .str (Str.ofString "__doc__") 166, .none⟩, ⟨PyData.keyHash P (Str.ofString "__package__"), .str (Str.ofString "__package__") 167, .none⟩, ⟨PyData.keyHash P (Str.ofString "__loader__"), .str (Str.ofString "__loader__") 168, .builtin "__main__.__loader__#opaque"⟩, ⟨PyData.keyHash P (Str.ofString "__spec__"), .str (Str.ofString "__spec__") 169, .none⟩, ⟨PyData.keyHash P (Str.ofString "__annotations__"), .str (Str.ofString "__annotations__") 170, .ref 6⟩, ⟨PyData.keyHash P (Str.ofString "__builtins__"), .str (Str.ofString "__builtins__") 171, .ref 4⟩, ⟨PyData.keyHash P (Str.ofString "__file__"), .str (Str.ofString "__file__") 173, .str (Str.ofString "/claim/cut.py") 172⟩, ⟨PyData.keyHash P (Str.ofString "__cached__"), .str (Str.ofString "__cached__") 174, .none⟩, ⟨PyData.keyHash P (Str.ofString "b1_set"), .str (Str.ofString "b1_set") 248, .ref 22⟩, ⟨PyData.keyHash P (Str.ofString "in_table_b1"), .str (Str.ofString "in_table_b1") 255, .ref 32⟩, ⟨PyData.keyHash P (Str.ofString "b3_exceptions"), .str (Str.ofString "b3_exceptions") 2206, .ref 33⟩] 12, #[]⟩
noncomputable def ho_3_5 (P : Params) : Obj := ⟨.type "dict", none, .dict #[⟨PyData.keyHash P (Str.ofString "__name__"), .str (Str.ofString "__name__") 165, .str (Str.ofString "cpy313.stringprep") 187⟩, ⟨PyData.keyHash P (Str.ofString "__doc__"), .str (Str.ofString "__doc__") 166, .none⟩, ⟨PyData.keyHash P (Str.ofString "__package__"), .str (Str.ofString "__package__") 167, .none⟩, ⟨PyData.keyHash P (Str.ofString "__loader__"), .str (Str.ofString "__loader__") 168, .builtin "__main__.__loader__#opaque"⟩, ⟨PyData.keyHash P (Str.ofString "__spec__"), .str (Str.ofString "__spec__") 169, .none⟩, ⟨PyData.keyHash P (Str.ofString "__annotations__"), .str (Str.ofString "__annotations__") 170, .ref 6⟩, ⟨PyData.keyHash P (Str.ofString "__builtins__"), .str (Str.ofString "__builtins__") 171, .ref 4⟩, ⟨PyData.keyHash P (Str.ofString "__file__"), .str (Str.ofString "__file__") 173, .str (Str.ofString "/claim/cut.py") 172⟩, ⟨PyData.keyHash P (Str.ofString "__cached__"), .str (Str.ofString "__cached__") 174, .none⟩, ⟨PyData.keyHash P (Str.ofString "b1_set"), .str (Str.ofString "b1_set") 248, .ref 22⟩, ⟨PyData.keyHash P (Str.ofString "in_table_b1"), .str (Str.ofString "in_table_b1") 255, .ref 32⟩, ⟨PyData.keyHash P (Str.ofString "b3_exceptions"), .str (Str.ofString "b3_exceptions") 2206, .ref 33⟩, ⟨PyData.keyHash P (Str.ofString "map_table_b3"), .str (Str.ofString "map_table_b3") 2214, .ref 78⟩] 13, #[]⟩
noncomputable def ho_3_6 (P : Params) : Obj := ⟨.type "dict", none, .dict #[⟨PyData.keyHash P (Str.ofString "__name__"), .str (Str.ofString "__name__") 165, .str (Str.ofString "cpy313.doctest") 2215⟩, ⟨PyData.keyHash P (Str.ofString "__doc__"), .str (Str.ofString "__doc__") 166, .none⟩, ⟨PyData.keyHash P (Str.ofString "__package__"), .str (Str.ofString "__package__") 167, .none⟩, ⟨PyData.keyHash P (Str.ofString "__loader__"), .str (Str.ofString "__loader__") 168, .builtin "__main__.__loader__#opaque"⟩, ⟨PyData.keyHash P (Str.ofString "__spec__"), .str (Str.ofString "__spec__") 169, .none⟩, ⟨PyData.keyHash P (Str.ofString "__annotations__"), .str (Str.ofString "__annotations__") 170, .ref 6⟩, ⟨PyData.keyHash P (Str.ofString "__builtins__"), .str (Str.ofString "__builtins__") 171, .ref 4⟩, ⟨PyData.keyHash P (Str.ofString "__file__"), .str (Str.ofString "__file__") 173, .str (Str.ofString "/claim/cut.py") 172⟩, ⟨PyData.keyHash P (Str.ofString "__cached__"), .str (Str.ofString "__cached__") 174, .none⟩, ⟨PyData.keyHash P (Str.ofString "b1_set"), .str (Str.ofString "b1_set") 248, .ref 22⟩, ⟨PyData.keyHash P (Str.ofString "in_table_b1"), .str (Str.ofString "in_table_b1") 255, .ref 32⟩, ⟨PyData.keyHash P (Str.ofString "b3_exceptions"), .str (Str.ofString "b3_exceptions") 2206, .ref 33⟩, ⟨PyData.keyHash P (Str.ofString "map_table_b3"), .str (Str.ofString "map_table_b3") 2214, .ref 78⟩] 13, #[]⟩
noncomputable def ho_3_7 (P : Params) : Obj := ⟨.type "dict", none, .dict #[⟨PyData.keyHash P (Str.ofString "__name__"), .str (Str.ofString "__name__") 165, .str (Str.ofString "cpy313.doctest") 2215⟩, ⟨PyData.keyHash P (Str.ofString "__doc__"), .str (Str.ofString "__doc__") 166, .none⟩, ⟨PyData.keyHash P (Str.ofString "__package__"), .str (Str.ofString "__package__") 167, .none⟩, ⟨PyData.keyHash P (Str.ofString "__loader__"), .str (Str.ofString "__loader__") 168, .builtin "__main__.__loader__#opaque"⟩, ⟨PyData.keyHash P (Str.ofString "__spec__"), .str (Str.ofString "__spec__") 169, .none⟩, ⟨PyData.keyHash P (Str.ofString "__annotations__"), .str (Str.ofString "__annotations__") 170, .ref 6⟩, ⟨PyData.keyHash P (Str.ofString "__builtins__"), .str (Str.ofString "__builtins__") 171, .ref 4⟩, ⟨PyData.keyHash P (Str.ofString "__file__"), .str (Str.ofString "__file__") 173, .str (Str.ofString "/claim/cut.py") 172⟩, ⟨PyData.keyHash P (Str.ofString "__cached__"), .str (Str.ofString "__cached__") 174, .none⟩, ⟨PyData.keyHash P (Str.ofString "b1_set"), .str (Str.ofString "b1_set") 248, .ref 22⟩, ⟨PyData.keyHash P (Str.ofString "in_table_b1"), .str (Str.ofString "in_table_b1") 255, .ref 32⟩, ⟨PyData.keyHash P (Str.ofString "b3_exceptions"), .str (Str.ofString "b3_exceptions") 2206, .ref 33⟩, ⟨PyData.keyHash P (Str.ofString "map_table_b3"), .str (Str.ofString "map_table_b3") 2214, .ref 78⟩, ⟨PyData.keyHash P (Str.ofString "ELLIPSIS_MARKER"), .str (Str.ofString "ELLIPSIS_MARKER") 2218, .str (Str.ofString "...") 2217⟩] 14, #[]⟩
noncomputable def ho_3_8 (P : Params) : Obj := ⟨.type "dict", none, .dict #[⟨PyData.keyHash P (Str.ofString "__name__"), .str (Str.ofString "__name__") 165, .str (Str.ofString "cpy313.doctest") 2215⟩, ⟨PyData.keyHash P (Str.ofString "__doc__"), .str (Str.ofString "__doc__") 166, .none⟩, ⟨PyData.keyHash P (Str.ofString "__package__"), .str (Str.ofString "__package__") 167, .none⟩, ⟨PyData.keyHash P (Str.ofString "__loader__"), .str (Str.ofString "__loader__") 168, .builtin "__main__.__loader__#opaque"⟩, ⟨PyData.keyHash P (Str.ofString "__spec__"), .str (Str.ofString "__spec__") 169, .none⟩, ⟨PyData.keyHash P (Str.ofString "__annotations__"), .str (Str.ofString "__annotations__") 170, .ref 6⟩, ⟨PyData.keyHash P (Str.ofString "__builtins__"), .str (Str.ofString "__builtins__") 171, .ref 4⟩, ⟨PyData.keyHash P (Str.ofString "__file__"), .str (Str.ofString "__file__") 173, .str (Str.ofString "/claim/cut.py") 172⟩, ⟨PyData.keyHash P (Str.ofString "__cached__"), .str (Str.ofString "__cached__") 174, .none⟩, ⟨PyData.keyHash P (Str.ofString "b1_set"), .str (Str.ofString "b1_set") 248, .ref 22⟩, ⟨PyData.keyHash P (Str.ofString "in_table_b1"), .str (Str.ofString "in_table_b1") 255, .ref 32⟩, ⟨PyData.keyHash P (Str.ofString "b3_exceptions"), .str (Str.ofString "b3_exceptions") 2206, .ref 33⟩, ⟨PyData.keyHash P (Str.ofString "map_table_b3"), .str (Str.ofString "map_table_b3") 2214, .ref 78⟩, ⟨PyData.keyHash P (Str.ofString "ELLIPSIS_MARKER"), .str (Str.ofString "ELLIPSIS_MARKER") 2218, .str (Str.ofString "...") 2217⟩, ⟨PyData.keyHash P (Str.ofString "_ellipsis_match"), .str (Str.ofString "_ellipsis_match") 2230, .ref 85⟩] 15, #[]⟩
noncomputable def ho_3_9 (P : Params) : Obj := ⟨.type "dict", none, .dict #[⟨PyData.keyHash P (Str.ofString "__name__"), .str (Str.ofString "__name__") 165, .str (Str.ofString "cpy313.locale") 2231⟩, ⟨PyData.keyHash P (Str.ofString "__doc__"), .str (Str.ofString "__doc__") 166, .none⟩, ⟨PyData.keyHash P (Str.ofString "__package__"), .str (Str.ofString "__package__") 167, .none⟩, ⟨PyData.keyHash P (Str.ofString "__loader__"), .str (Str.ofString "__loader__") 168, .builtin "__main__.__loader__#opaque"⟩, ⟨PyData.keyHash P (Str.ofString "__spec__"), .str (Str.ofString "__spec__") 169, .none⟩, ⟨PyData.keyHash P (Str.ofString "__annotations__"), .str (Str.ofString "__annotations__") 170, .ref 6⟩, ⟨PyData.keyHash P (Str.ofString "__builtins__"), .str (Str.ofString "__builtins__") 171, .ref 4⟩, ⟨PyData.keyHash P (Str.ofString "__file__"), .str (Str.ofString "__file__") 173, .str (Str.ofString "/claim/cut.py") 172⟩, ⟨PyData.keyHash P (Str.ofString "__cached__"), .str (Str.ofString "__cached__") 174, .none⟩, ⟨PyData.keyHash P (Str.ofString "b1_set"), .str (Str.ofString "b1_set") 248, .ref 22⟩, ⟨PyData.keyHash P (Str.ofString "in_table_b1"), .str (Str.ofString "in_table_b1") 255, .ref 32⟩, ⟨PyData.keyHash P (Str.ofString "b3_exceptions"), .str (Str.ofString "b3_exceptions") 2206, .ref 33⟩, ⟨PyData.keyHash P (Str.ofString "map_table_b3"), .str (Str.ofString "map_table_b3") 2214, .ref 78⟩, ⟨PyData.keyHash P (Str.ofString "ELLIPSIS_MARKER"), .str (Str.ofString "ELLIPSIS_MARKER") 2218, .str (Str.ofString "...") 2217⟩, ⟨PyData.keyHash P (Str.ofString "_ellipsis_match"), .str (Str.ofString "_ellipsis_match") 2230, .ref 85⟩] 15, #[]⟩
noncomputable def ho_3_10 (P : Params) : Obj := ⟨.type "dict", none, .dict #[⟨PyData.keyHash P (Str.ofString "__name__"), .str (Str.ofString "__name__") 165, .str (Str.ofString "cpy313.locale") 2231⟩, ⟨PyData.keyHash P (Str.ofString "__doc__"), .str (Str.ofString "__doc__") 166, .none⟩, ⟨PyData.keyHash P (Str.ofString "__package__"), .str (Str.ofString "__package__") 167, .none⟩, ⟨PyData.keyHash P (Str.ofString "__loader__"), .str (Str.ofString "__loader__") 168, .builtin "__main__.__loader__#opaque"⟩, ⟨PyData.keyHash P (Str.ofString "__spec__"), .str (Str.ofString "__spec__") 169, .none⟩, ⟨PyData.keyHash P (Str.ofString "__annotations__"), .str (Str.ofString "__annotations__") 170, .ref 6⟩, ⟨PyData.keyHash P (Str.ofString "__builtins__"), .str (Str.ofString "__builtins__") 171, .ref 4⟩, ⟨PyData.keyHash P (Str.ofString "__file__"), .str (Str.ofString "__file__") 173, .str (Str.ofString "/claim/cut.py") 172⟩, ⟨PyData.keyHash P (Str.ofString "__cached__"), .str (Str.ofString "__cached__") 174, .none⟩, ⟨PyData.keyHash P (Str.ofString "b1_set"), .str (Str.ofString "b1_set") 248, .ref 22⟩, ⟨PyData.keyHash P (Str.ofString "in_table_b1"), .str (Str.ofString "in_table_b1") 255, .ref 32⟩, ⟨PyData.keyHash P (Str.ofString "b3_exceptions"), .str (Str.ofString "b3_exceptions") 2206, .ref 33⟩, ⟨PyData.keyHash P (Str.ofString "map_table_b3"), .str (Str.ofString "map_table_b3") 2214, .ref 78⟩, ⟨PyData.keyHash P (Str.ofString "ELLIPSIS_MARKER"), .str (Str.ofString "ELLIPSIS_MARKER") 2218, .str (Str.ofString "...") 2217⟩, ⟨PyData.keyHash P (Str.ofString "_ellipsis_match"), .str (Str.ofString "_ellipsis_match") 2230, .ref 85⟩, ⟨PyData.keyHash P (Str.ofString "CHAR_MAX"), .str (Str.ofString "CHAR_MAX") 2234, .int 127 2233⟩] 16, #[]⟩
noncomputable def ho_3_11 (P : Params) : Obj := ⟨.type "dict", none, .dict #[⟨PyData.keyHash P (Str.ofString "__name__"), .str (Str.ofString "__name__") 165, .str (Str.ofString "cpy313.locale") 2231⟩, ⟨PyData.keyHash P (Str.ofString "__doc__"), .str (Str.ofString "__doc__") 166, .none⟩, ⟨PyData.keyHash P (Str.ofString "__package__"), .str (Str.ofString "__package__") 167, .none⟩, ⟨PyData.keyHash P (Str.ofString "__loader__"), .str (Str.ofString "__loader__") 168, .builtin "__main__.__loader__#opaque"⟩, ⟨PyData.keyHash P (Str.ofString "__spec__"), .str (Str.ofString "__spec__") 169, .none⟩, ⟨PyData.keyHash P (Str.ofString "__annotations__"), .str (Str.ofString "__annotations__") 170, .ref 6⟩, ⟨PyData.keyHash P (Str.ofString "__builtins__"), .str (Str.ofString "__builtins__") 171, .ref 4⟩, ⟨PyData.keyHash P (Str.ofString "__file__"), .str (Str.ofString "__file__") 173, .str (Str.ofString "/claim/cut.py") 172⟩, ⟨PyData.keyHash P (Str.ofString "__cached__"), .str (Str.ofString "__cached__") 174, .none⟩, ⟨PyData.keyHash P (Str.ofString "b1_set"), .str (Str.ofString "b1_set") 248, .ref 22⟩, ⟨PyData.keyHash P (Str.ofString "in_table_b1"), .str (Str.ofString "in_table_b1") 255, .ref 32⟩, ⟨PyData.keyHash P (Str.ofString "b3_exceptions"), .str (Str.ofString "b3_exceptions") 2206, .ref 33⟩, ⟨PyData.keyHash P (Str.ofString "map_table_b3"), .str (Str.ofString "map_table_b3") 2214, .ref 78⟩, ⟨PyData.keyHash P (Str.ofString "ELLIPSIS_MARKER"), .str (Str.ofString "ELLIPSIS_MARKER") 2218, .str (Str.ofString "...") 2217⟩, ⟨PyData.keyHash P (Str.ofString "_ellipsis_match"), .str (Str.ofString "_ellipsis_match") 2230, .ref 85⟩, ⟨PyData.keyHash P (Str.ofString "CHAR_MAX"), .str (Str.ofString "CHAR_MAX") 2234, .int 127 2233⟩, ⟨PyData.keyHash P (Str.ofString "_grouping_intervals"), .str (Str.ofString "_grouping_intervals") 2243, .ref 92⟩] 17, #[]⟩
noncomputable def ho_3_12 (P : Params) : Obj := ⟨.type "dict", none, .dict #[⟨PyData.keyHash P (Str.ofString "__name__"), .str (Str.ofString "__name__") 165, .str (Str.ofString "cpy313.locale") 2231⟩, ⟨PyData.keyHash P (Str.ofString "__doc__"), .str (Str.ofString "__doc__") 166, .none⟩, ⟨PyData.keyHash P (Str.ofString "__package__"), .str (Str.ofString "__package__") 167, .none⟩, ⟨PyData.keyHash P (Str.ofString "__loader__"), .str (Str.ofString "__loader__") 168, .builtin "__main__.__loader__#opaque"⟩, ⟨PyData.keyHash P (Str.ofString "__spec__"), .str (Str.ofString "__spec__") 169, .none⟩, ⟨PyData.keyHash P (Str.ofString "__annotations__"), .str (Str.ofString "__annotations__") 170, .ref 6⟩, ⟨PyData.keyHash P (Str.ofString "__builtins__"), .str (Str.ofString "__builtins__") 171, .ref 4⟩, ⟨PyData.keyHash P (Str.ofString "__file__"), .str (Str.ofString "__file__") 173, .str (Str.ofString "/claim/cut.py") 172⟩, ⟨PyData.keyHash P (Str.ofString "__cached__"), .str (Str.ofString "__cached__") 174, .none⟩, ⟨PyData.keyHash P (Str.ofString "b1_set"), .str (Str.ofString "b1_set") 248, .ref 22⟩, ⟨PyData.keyHash P (Str.ofString "in_table_b1"), .str (Str.ofString "in_table_b1") 255, .ref 32⟩, ⟨PyData.keyHash P (Str.ofString "b3_exceptions"), .str (Str.ofString "b3_exceptions") 2206, .ref 33⟩, ⟨PyData.keyHash P (Str.ofString "map_table_b3"), .str (Str.ofString "map_table_b3") 2214, .ref 78⟩, ⟨PyData.keyHash P (Str.ofString "ELLIPSIS_MARKER"), .str (Str.ofString "ELLIPSIS_MARKER") 2218, .str (Str.ofString "...") 2217⟩, ⟨PyData.keyHash P (Str.ofString "_ellipsis_match"), .str (Str.ofString "_ellipsis_match") 2230, .ref 85⟩, ⟨PyData.keyHash P (Str.ofString "CHAR_MAX"), .str (Str.ofString "CHAR_MAX") 2234, .int 127 2233⟩, ⟨PyData.keyHash P (Str.ofString "_grouping_intervals"), .str (Str.ofString "_grouping_intervals") 2243, .ref 92⟩, ⟨PyData.keyHash P (Str.ofString "_strip_padding"), .str (Str.ofString "_strip_padding") 2253, .ref 99⟩] 18, #[]⟩
noncomputable def ho_3_13 (P : Params) : Obj := ⟨.type "dict", none, .dict #[⟨PyData.keyHash P (Str.ofString "__name__"), .str (Str.ofString "__name__") 165, .str (Str.ofString "law_ti0043_01") 2254⟩, ⟨PyData.keyHash P (Str.ofString "__doc__"), .str (Str.ofString "__doc__") 166, .none⟩, ⟨PyData.keyHash P (Str.ofString "__package__"), .str (Str.ofString "__package__") 167, .none⟩, ⟨PyData.keyHash P (Str.ofString "__loader__"), .str (Str.ofString "__loader__") 168, .builtin "__main__.__loader__#opaque"⟩, ⟨PyData.keyHash P (Str.ofString "__spec__"), .str (Str.ofString "__spec__") 169, .none⟩, ⟨PyData.keyHash P (Str.ofString "__annotations__"), .str (Str.ofString "__annotations__") 170, .ref 6⟩, ⟨PyData.keyHash P (Str.ofString "__builtins__"), .str (Str.ofString "__builtins__") 171, .ref 4⟩, ⟨PyData.keyHash P (Str.ofString "__file__"), .str (Str.ofString "__file__") 173, .str (Str.ofString "/claim/cut.py") 172⟩, ⟨PyData.keyHash P (Str.ofString "__cached__"), .str (Str.ofString "__cached__") 174, .none⟩, ⟨PyData.keyHash P (Str.ofString "b1_set"), .str (Str.ofString "b1_set") 248, .ref 22⟩, ⟨PyData.keyHash P (Str.ofString "in_table_b1"), .str (Str.ofString "in_table_b1") 255, .ref 32⟩, ⟨PyData.keyHash P (Str.ofString "b3_exceptions"), .str (Str.ofString "b3_exceptions") 2206, .ref 33⟩, ⟨PyData.keyHash P (Str.ofString "map_table_b3"), .str (Str.ofString "map_table_b3") 2214, .ref 78⟩, ⟨PyData.keyHash P (Str.ofString "ELLIPSIS_MARKER"), .str (Str.ofString "ELLIPSIS_MARKER") 2218, .str (Str.ofString "...") 2217⟩, ⟨PyData.keyHash P (Str.ofString "_ellipsis_match"), .str (Str.ofString "_ellipsis_match") 2230, .ref 85⟩, ⟨PyData.keyHash P (Str.ofString "CHAR_MAX"), .str (Str.ofString "CHAR_MAX") 2234, .int 127 2233⟩, ⟨PyData.keyHash P (Str.ofString "_grouping_intervals"), .str (Str.ofString "_grouping_intervals") 2243, .ref 92⟩, ⟨PyData.keyHash P (Str.ofString "_strip_padding"), .str (Str.ofString "_strip_padding") 2253, .ref 99⟩] 18, #[]⟩
noncomputable def ho_3_14 (P : Params) : Obj := ⟨.type "dict", none, .dict #[⟨PyData.keyHash P (Str.ofString "__name__"), .str (Str.ofString "__name__") 165, .str (Str.ofString "law_ti0043_01") 2254⟩, ⟨PyData.keyHash P (Str.ofString "__doc__"), .str (Str.ofString "__doc__") 166, .none⟩, ⟨PyData.keyHash P (Str.ofString "__package__"), .str (Str.ofString "__package__") 167, .none⟩, ⟨PyData.keyHash P (Str.ofString "__loader__"), .str (Str.ofString "__loader__") 168, .builtin "__main__.__loader__#opaque"⟩, ⟨PyData.keyHash P (Str.ofString "__spec__"), .str (Str.ofString "__spec__") 169, .none⟩, ⟨PyData.keyHash P (Str.ofString "__annotations__"), .str (Str.ofString "__annotations__") 170, .ref 6⟩, ⟨PyData.keyHash P (Str.ofString "__builtins__"), .str (Str.ofString "__builtins__") 171, .ref 4⟩, ⟨PyData.keyHash P (Str.ofString "__file__"), .str (Str.ofString "__file__") 173, .str (Str.ofString "/claim/cut.py") 172⟩, ⟨PyData.keyHash P (Str.ofString "__cached__"), .str (Str.ofString "__cached__") 174, .none⟩, ⟨PyData.keyHash P (Str.ofString "b1_set"), .str (Str.ofString "b1_set") 248, .ref 22⟩, ⟨PyData.keyHash P (Str.ofString "in_table_b1"), .str (Str.ofString "in_table_b1") 255, .ref 32⟩, ⟨PyData.keyHash P (Str.ofString "b3_exceptions"), .str (Str.ofString "b3_exceptions") 2206, .ref 33⟩, ⟨PyData.keyHash P (Str.ofString "map_table_b3"), .str (Str.ofString "map_table_b3") 2214, .ref 78⟩, ⟨PyData.keyHash P (Str.ofString "ELLIPSIS_MARKER"), .str (Str.ofString "ELLIPSIS_MARKER") 2218, .str (Str.ofString "...") 2217⟩, ⟨PyData.keyHash P (Str.ofString "_ellipsis_match"), .str (Str.ofString "_ellipsis_match") 2230, .ref 85⟩, ⟨PyData.keyHash P (Str.ofString "CHAR_MAX"), .str (Str.ofString "CHAR_MAX") 2234, .int 127 2233⟩, ⟨PyData.keyHash P (Str.ofString "_grouping_intervals"), .str (Str.ofString "_grouping_intervals") 2243, .ref 92⟩, ⟨PyData.keyHash P (Str.ofString "_strip_padding"), .str (Str.ofString "_strip_padding") 2253, .ref 99⟩, ⟨PyData.keyHash P (Str.ofString "_law_shown"), .str (Str.ofString "_law_shown") 2264, .ref 106⟩] 19, #[]⟩
noncomputable def ho_3_15 (P : Params) : Obj := ⟨.type "dict", none, .dict #[⟨PyData.keyHash P (Str.ofString "__name__"), .str (Str.ofString "__name__") 165, .str (Str.ofString "law_ti0043_01") 2254⟩, ⟨PyData.keyHash P (Str.ofString "__doc__"), .str (Str.ofString "__doc__") 166, .none⟩, ⟨PyData.keyHash P (Str.ofString "__package__"), .str (Str.ofString "__package__") 167, .none⟩, ⟨PyData.keyHash P (Str.ofString "__loader__"), .str (Str.ofString "__loader__") 168, .builtin "__main__.__loader__#opaque"⟩, ⟨PyData.keyHash P (Str.ofString "__spec__"), .str (Str.ofString "__spec__") 169, .none⟩, ⟨PyData.keyHash P (Str.ofString "__annotations__"), .str (Str.ofString "__annotations__") 170, .ref 6⟩, ⟨PyData.keyHash P (Str.ofString "__builtins__"), .str (Str.ofString "__builtins__") 171, .ref 4⟩, ⟨PyData.keyHash P (Str.ofString "__file__"), .str (Str.ofString "__file__") 173, .str (Str.ofString "/claim/cut.py") 172⟩, ⟨PyData.keyHash P (Str.ofString "__cached__"), .str (Str.ofString "__cached__") 174, .none⟩, ⟨PyData.keyHash P (Str.ofString "b1_set"), .str (Str.ofString "b1_set") 248, .ref 22⟩, ⟨PyData.keyHash P (Str.ofString "in_table_b1"), .str (Str.ofString "in_table_b1") 255, .ref 32⟩, ⟨PyData.keyHash P (Str.ofString "b3_exceptions"), .str (Str.ofString "b3_exceptions") 2206, .ref 33⟩, ⟨PyData.keyHash P (Str.ofString "map_table_b3"), .str (Str.ofString "map_table_b3") 2214, .ref 78⟩, ⟨PyData.keyHash P (Str.ofString "ELLIPSIS_MARKER"), .str (Str.ofString "ELLIPSIS_MARKER") 2218, .str (Str.ofString "...") 2217⟩, ⟨PyData.keyHash P (Str.ofString "_ellipsis_match"), .str (Str.ofString "_ellipsis_match") 2230, .ref 85⟩, ⟨PyData.keyHash P (Str.ofString "CHAR_MAX"), .str (Str.ofString "CHAR_MAX") 2234, .int 127 2233⟩, ⟨PyData.keyHash P (Str.ofString "_grouping_intervals"), .str (Str.ofString "_grouping_intervals") 2243, .ref 92⟩, ⟨PyData.keyHash P (Str.ofString "_strip_padding"), .str (Str.ofString "_strip_padding") 2253, .ref 99⟩, ⟨PyData.keyHash P (Str.ofString "_law_shown"), .str (Str.ofString "_law_shown") 2264, .ref 106⟩, ⟨PyData.keyHash P (Str.ofString "_law_hidden"), .str (Str.ofString "_law_hidden") 2271, .ref 113⟩] 20, #[]⟩
noncomputable def ho_3_16 (P : Params) : Obj := ⟨.type "dict", none, .dict #[⟨PyData.keyHash P (Str.ofString "__name__"), .str (Str.ofString "__name__") 165, .str (Str.ofString "law_ti0043_01") 2254⟩, ⟨PyData.keyHash P (Str.ofString "__doc__"), .str (Str.ofString "__doc__") 166, .none⟩, ⟨PyData.keyHash P (Str.ofString "__package__"), .str (Str.ofString "__package__") 167, .none⟩, ⟨PyData.keyHash P (Str.ofString "__loader__"), .str (Str.ofString "__loader__") 168, .builtin "__main__.__loader__#opaque"⟩, ⟨PyData.keyHash P (Str.ofString "__spec__"), .str (Str.ofString "__spec__") 169, .none⟩, ⟨PyData.keyHash P (Str.ofString "__annotations__"), .str (Str.ofString "__annotations__") 170, .ref 6⟩, ⟨PyData.keyHash P (Str.ofString "__builtins__"), .str (Str.ofString "__builtins__") 171, .ref 4⟩, ⟨PyData.keyHash P (Str.ofString "__file__"), .str (Str.ofString "__file__") 173, .str (Str.ofString "/claim/cut.py") 172⟩, ⟨PyData.keyHash P (Str.ofString "__cached__"), .str (Str.ofString "__cached__") 174, .none⟩, ⟨PyData.keyHash P (Str.ofString "b1_set"), .str (Str.ofString "b1_set") 248, .ref 22⟩, ⟨PyData.keyHash P (Str.ofString "in_table_b1"), .str (Str.ofString "in_table_b1") 255, .ref 32⟩, ⟨PyData.keyHash P (Str.ofString "b3_exceptions"), .str (Str.ofString "b3_exceptions") 2206, .ref 33⟩, ⟨PyData.keyHash P (Str.ofString "map_table_b3"), .str (Str.ofString "map_table_b3") 2214, .ref 78⟩, ⟨PyData.keyHash P (Str.ofString "ELLIPSIS_MARKER"), .str (Str.ofString "ELLIPSIS_MARKER") 2218, .str (Str.ofString "...") 2217⟩, ⟨PyData.keyHash P (Str.ofString "_ellipsis_match"), .str (Str.ofString "_ellipsis_match") 2230, .ref 85⟩, ⟨PyData.keyHash P (Str.ofString "CHAR_MAX"), .str (Str.ofString "CHAR_MAX") 2234, .int 127 2233⟩, ⟨PyData.keyHash P (Str.ofString "_grouping_intervals"), .str (Str.ofString "_grouping_intervals") 2243, .ref 92⟩, ⟨PyData.keyHash P (Str.ofString "_strip_padding"), .str (Str.ofString "_strip_padding") 2253, .ref 99⟩, ⟨PyData.keyHash P (Str.ofString "_law_shown"), .str (Str.ofString "_law_shown") 2264, .ref 106⟩, ⟨PyData.keyHash P (Str.ofString "_law_hidden"), .str (Str.ofString "_law_hidden") 2271, .ref 113⟩, ⟨PyData.keyHash P (Str.ofString "_law_gap"), .str (Str.ofString "_law_gap") 2281, .ref 120⟩] 21, #[]⟩
noncomputable def ho_3_17 (P : Params) : Obj := ⟨.type "dict", none, .dict #[⟨PyData.keyHash P (Str.ofString "__name__"), .str (Str.ofString "__name__") 165, .str (Str.ofString "law_ti0043_01") 2254⟩, ⟨PyData.keyHash P (Str.ofString "__doc__"), .str (Str.ofString "__doc__") 166, .none⟩, ⟨PyData.keyHash P (Str.ofString "__package__"), .str (Str.ofString "__package__") 167, .none⟩, ⟨PyData.keyHash P (Str.ofString "__loader__"), .str (Str.ofString "__loader__") 168, .builtin "__main__.__loader__#opaque"⟩, ⟨PyData.keyHash P (Str.ofString "__spec__"), .str (Str.ofString "__spec__") 169, .none⟩, ⟨PyData.keyHash P (Str.ofString "__annotations__"), .str (Str.ofString "__annotations__") 170, .ref 6⟩, ⟨PyData.keyHash P (Str.ofString "__builtins__"), .str (Str.ofString "__builtins__") 171, .ref 4⟩, ⟨PyData.keyHash P (Str.ofString "__file__"), .str (Str.ofString "__file__") 173, .str (Str.ofString "/claim/cut.py") 172⟩, ⟨PyData.keyHash P (Str.ofString "__cached__"), .str (Str.ofString "__cached__") 174, .none⟩, ⟨PyData.keyHash P (Str.ofString "b1_set"), .str (Str.ofString "b1_set") 248, .ref 22⟩, ⟨PyData.keyHash P (Str.ofString "in_table_b1"), .str (Str.ofString "in_table_b1") 255, .ref 32⟩, ⟨PyData.keyHash P (Str.ofString "b3_exceptions"), .str (Str.ofString "b3_exceptions") 2206, .ref 33⟩, ⟨PyData.keyHash P (Str.ofString "map_table_b3"), .str (Str.ofString "map_table_b3") 2214, .ref 78⟩, ⟨PyData.keyHash P (Str.ofString "ELLIPSIS_MARKER"), .str (Str.ofString "ELLIPSIS_MARKER") 2218, .str (Str.ofString "...") 2217⟩, ⟨PyData.keyHash P (Str.ofString "_ellipsis_match"), .str (Str.ofString "_ellipsis_match") 2230, .ref 85⟩, ⟨PyData.keyHash P (Str.ofString "CHAR_MAX"), .str (Str.ofString "CHAR_MAX") 2234, .int 127 2233⟩, ⟨PyData.keyHash P (Str.ofString "_grouping_intervals"), .str (Str.ofString "_grouping_intervals") 2243, .ref 92⟩, ⟨PyData.keyHash P (Str.ofString "_strip_padding"), .str (Str.ofString "_strip_padding") 2253, .ref 99⟩, ⟨PyData.keyHash P (Str.ofString "_law_shown"), .str (Str.ofString "_law_shown") 2264, .ref 106⟩, ⟨PyData.keyHash P (Str.ofString "_law_hidden"), .str (Str.ofString "_law_hidden") 2271, .ref 113⟩, ⟨PyData.keyHash P (Str.ofString "_law_gap"), .str (Str.ofString "_law_gap") 2281, .ref 120⟩, ⟨PyData.keyHash P (Str.ofString "_law_plan"), .str (Str.ofString "_law_plan") 2294, .ref 127⟩] 22, #[]⟩
noncomputable def ho_3_18 (P : Params) : Obj := ⟨.type "dict", none, .dict #[⟨PyData.keyHash P (Str.ofString "__name__"), .str (Str.ofString "__name__") 165, .str (Str.ofString "law_ti0043_01") 2254⟩, ⟨PyData.keyHash P (Str.ofString "__doc__"), .str (Str.ofString "__doc__") 166, .none⟩, ⟨PyData.keyHash P (Str.ofString "__package__"), .str (Str.ofString "__package__") 167, .none⟩, ⟨PyData.keyHash P (Str.ofString "__loader__"), .str (Str.ofString "__loader__") 168, .builtin "__main__.__loader__#opaque"⟩, ⟨PyData.keyHash P (Str.ofString "__spec__"), .str (Str.ofString "__spec__") 169, .none⟩, ⟨PyData.keyHash P (Str.ofString "__annotations__"), .str (Str.ofString "__annotations__") 170, .ref 6⟩, ⟨PyData.keyHash P (Str.ofString "__builtins__"), .str (Str.ofString "__builtins__") 171, .ref 4⟩, ⟨PyData.keyHash P (Str.ofString "__file__"), .str (Str.ofString "__file__") 173, .str (Str.ofString "/claim/cut.py") 172⟩, ⟨PyData.keyHash P (Str.ofString "__cached__"), .str (Str.ofString "__cached__") 174, .none⟩, ⟨PyData.keyHash P (Str.ofString "b1_set"), .str (Str.ofString "b1_set") 248, .ref 22⟩, ⟨PyData.keyHash P (Str.ofString "in_table_b1"), .str (Str.ofString "in_table_b1") 255, .ref 32⟩, ⟨PyData.keyHash P (Str.ofString "b3_exceptions"), .str (Str.ofString "b3_exceptions") 2206, .ref 33⟩, ⟨PyData.keyHash P (Str.ofString "map_table_b3"), .str (Str.ofString "map_table_b3") 2214, .ref 78⟩, ⟨PyData.keyHash P (Str.ofString "ELLIPSIS_MARKER"), .str (Str.ofString "ELLIPSIS_MARKER") 2218, .str (Str.ofString "...") 2217⟩, ⟨PyData.keyHash P (Str.ofString "_ellipsis_match"), .str (Str.ofString "_ellipsis_match") 2230, .ref 85⟩, ⟨PyData.keyHash P (Str.ofString "CHAR_MAX"), .str (Str.ofString "CHAR_MAX") 2234, .int 127 2233⟩, ⟨PyData.keyHash P (Str.ofString "_grouping_intervals"), .str (Str.ofString "_grouping_intervals") 2243, .ref 92⟩, ⟨PyData.keyHash P (Str.ofString "_strip_padding"), .str (Str.ofString "_strip_padding") 2253, .ref 99⟩, ⟨PyData.keyHash P (Str.ofString "_law_shown"), .str (Str.ofString "_law_shown") 2264, .ref 106⟩, ⟨PyData.keyHash P (Str.ofString "_law_hidden"), .str (Str.ofString "_law_hidden") 2271, .ref 113⟩, ⟨PyData.keyHash P (Str.ofString "_law_gap"), .str (Str.ofString "_law_gap") 2281, .ref 120⟩, ⟨PyData.keyHash P (Str.ofString "_law_plan"), .str (Str.ofString "_law_plan") 2294, .ref 127⟩, ⟨PyData.keyHash P (Str.ofString "_law_line"), .str (Str.ofString "_law_line") 2306, .ref 134⟩] 23, #[]⟩
noncomputable def ho_3_19 (P : Params) : Obj := ⟨.type "dict", none, .dict #[⟨PyData.keyHash P (Str.ofString "__name__"), .str (Str.ofString "__name__") 165, .str (Str.ofString "law_ti0043_01") 2254⟩, ⟨PyData.keyHash P (Str.ofString "__doc__"), .str (Str.ofString "__doc__") 166, .none⟩, ⟨PyData.keyHash P (Str.ofString "__package__"), .str (Str.ofString "__package__") 167, .none⟩, ⟨PyData.keyHash P (Str.ofString "__loader__"), .str (Str.ofString "__loader__") 168, .builtin "__main__.__loader__#opaque"⟩, ⟨PyData.keyHash P (Str.ofString "__spec__"), .str (Str.ofString "__spec__") 169, .none⟩, ⟨PyData.keyHash P (Str.ofString "__annotations__"), .str (Str.ofString "__annotations__") 170, .ref 6⟩, ⟨PyData.keyHash P (Str.ofString "__builtins__"), .str (Str.ofString "__builtins__") 171, .ref 4⟩, ⟨PyData.keyHash P (Str.ofString "__file__"), .str (Str.ofString "__file__") 173, .str (Str.ofString "/claim/cut.py") 172⟩, ⟨PyData.keyHash P (Str.ofString "__cached__"), .str (Str.ofString "__cached__") 174, .none⟩, ⟨PyData.keyHash P (Str.ofString "b1_set"), .str (Str.ofString "b1_set") 248, .ref 22⟩, ⟨PyData.keyHash P (Str.ofString "in_table_b1"), .str (Str.ofString "in_table_b1") 255, .ref 32⟩, ⟨PyData.keyHash P (Str.ofString "b3_exceptions"), .str (Str.ofString "b3_exceptions") 2206, .ref 33⟩, ⟨PyData.keyHash P (Str.ofString "map_table_b3"), .str (Str.ofString "map_table_b3") 2214, .ref 78⟩, ⟨PyData.keyHash P (Str.ofString "ELLIPSIS_MARKER"), .str (Str.ofString "ELLIPSIS_MARKER") 2218, .str (Str.ofString "...") 2217⟩, ⟨PyData.keyHash P (Str.ofString "_ellipsis_match"), .str (Str.ofString "_ellipsis_match") 2230, .ref 85⟩, ⟨PyData.keyHash P (Str.ofString "CHAR_MAX"), .str (Str.ofString "CHAR_MAX") 2234, .int 127 2233⟩, ⟨PyData.keyHash P (Str.ofString "_grouping_intervals"), .str (Str.ofString "_grouping_intervals") 2243, .ref 92⟩, ⟨PyData.keyHash P (Str.ofString "_strip_padding"), .str (Str.ofString "_strip_padding") 2253, .ref 99⟩, ⟨PyData.keyHash P (Str.ofString "_law_shown"), .str (Str.ofString "_law_shown") 2264, .ref 106⟩, ⟨PyData.keyHash P (Str.ofString "_law_hidden"), .str (Str.ofString "_law_hidden") 2271, .ref 113⟩, ⟨PyData.keyHash P (Str.ofString "_law_gap"), .str (Str.ofString "_law_gap") 2281, .ref 120⟩, ⟨PyData.keyHash P (Str.ofString "_law_plan"), .str (Str.ofString "_law_plan") 2294, .ref 127⟩, ⟨PyData.keyHash P (Str.ofString "_law_line"), .str (Str.ofString "_law_line") 2306, .ref 134⟩, ⟨PyData.keyHash P (Str.ofString "_law_read"), .str (Str.ofString "_law_read") 2312, .ref 139⟩] 24, #[]⟩
noncomputable def ho_3_20 (P : Params) : Obj := ⟨.type "dict", none, .dict #[⟨PyData.keyHash P (Str.ofString "__name__"), .str (Str.ofString "__name__") 165, .str (Str.ofString "law_ti0043_01") 2254⟩, ⟨PyData.keyHash P (Str.ofString "__doc__"), .str (Str.ofString "__doc__") 166, .none⟩, ⟨PyData.keyHash P (Str.ofString "__package__"), .str (Str.ofString "__package__") 167, .none⟩, ⟨PyData.keyHash P (Str.ofString "__loader__"), .str (Str.ofString "__loader__") 168, .builtin "__main__.__loader__#opaque"⟩, ⟨PyData.keyHash P (Str.ofString "__spec__"), .str (Str.ofString "__spec__") 169, .none⟩, ⟨PyData.keyHash P (Str.ofString "__annotations__"), .str (Str.ofString "__annotations__") 170, .ref 6⟩, ⟨PyData.keyHash P (Str.ofString "__builtins__"), .str (Str.ofString "__builtins__") 171, .ref 4⟩, ⟨PyData.keyHash P (Str.ofString "__file__"), .str (Str.ofString "__file__") 173, .str (Str.ofString "/claim/cut.py") 172⟩, ⟨PyData.keyHash P (Str.ofString "__cached__"), .str (Str.ofString "__cached__") 174, .none⟩, ⟨PyData.keyHash P (Str.ofString "b1_set"), .str (Str.ofString "b1_set") 248, .ref 22⟩, ⟨PyData.keyHash P (Str.ofString "in_table_b1"), .str (Str.ofString "in_table_b1") 255, .ref 32⟩, ⟨PyData.keyHash P (Str.ofString "b3_exceptions"), .str (Str.ofString "b3_exceptions") 2206, .ref 33⟩, ⟨PyData.keyHash P (Str.ofString "map_table_b3"), .str (Str.ofString "map_table_b3") 2214, .ref 78⟩, ⟨PyData.keyHash P (Str.ofString "ELLIPSIS_MARKER"), .str (Str.ofString "ELLIPSIS_MARKER") 2218, .str (Str.ofString "...") 2217⟩, ⟨PyData.keyHash P (Str.ofString "_ellipsis_match"), .str (Str.ofString "_ellipsis_match") 2230, .ref 85⟩, ⟨PyData.keyHash P (Str.ofString "CHAR_MAX"), .str (Str.ofString "CHAR_MAX") 2234, .int 127 2233⟩, ⟨PyData.keyHash P (Str.ofString "_grouping_intervals"), .str (Str.ofString "_grouping_intervals") 2243, .ref 92⟩, ⟨PyData.keyHash P (Str.ofString "_strip_padding"), .str (Str.ofString "_strip_padding") 2253, .ref 99⟩, ⟨PyData.keyHash P (Str.ofString "_law_shown"), .str (Str.ofString "_law_shown") 2264, .ref 106⟩, ⟨PyData.keyHash P (Str.ofString "_law_hidden"), .str (Str.ofString "_law_hidden") 2271, .ref 113⟩, ⟨PyData.keyHash P (Str.ofString "_law_gap"), .str (Str.ofString "_law_gap") 2281, .ref 120⟩, ⟨PyData.keyHash P (Str.ofString "_law_plan"), .str (Str.ofString "_law_plan") 2294, .ref 127⟩, ⟨PyData.keyHash P (Str.ofString "_law_line"), .str (Str.ofString "_law_line") 2306, .ref 134⟩, ⟨PyData.keyHash P (Str.ofString "_law_read"), .str (Str.ofString "_law_read") 2312, .ref 139⟩, ⟨PyData.keyHash P (Str.ofString "_law_seated"), .str (Str.ofString "_law_seated") 2318, .ref 144⟩] 25, #[]⟩
noncomputable def ho_3_21 (P : Params) : Obj := ⟨.type "dict", none, .dict #[⟨PyData.keyHash P (Str.ofString "__name__"), .str (Str.ofString "__name__") 165, .str (Str.ofString "law_ti0043_01") 2254⟩, ⟨PyData.keyHash P (Str.ofString "__doc__"), .str (Str.ofString "__doc__") 166, .none⟩, ⟨PyData.keyHash P (Str.ofString "__package__"), .str (Str.ofString "__package__") 167, .none⟩, ⟨PyData.keyHash P (Str.ofString "__loader__"), .str (Str.ofString "__loader__") 168, .builtin "__main__.__loader__#opaque"⟩, ⟨PyData.keyHash P (Str.ofString "__spec__"), .str (Str.ofString "__spec__") 169, .none⟩, ⟨PyData.keyHash P (Str.ofString "__annotations__"), .str (Str.ofString "__annotations__") 170, .ref 6⟩, ⟨PyData.keyHash P (Str.ofString "__builtins__"), .str (Str.ofString "__builtins__") 171, .ref 4⟩, ⟨PyData.keyHash P (Str.ofString "__file__"), .str (Str.ofString "__file__") 173, .str (Str.ofString "/claim/cut.py") 172⟩, ⟨PyData.keyHash P (Str.ofString "__cached__"), .str (Str.ofString "__cached__") 174, .none⟩, ⟨PyData.keyHash P (Str.ofString "b1_set"), .str (Str.ofString "b1_set") 248, .ref 22⟩, ⟨PyData.keyHash P (Str.ofString "in_table_b1"), .str (Str.ofString "in_table_b1") 255, .ref 32⟩, ⟨PyData.keyHash P (Str.ofString "b3_exceptions"), .str (Str.ofString "b3_exceptions") 2206, .ref 33⟩, ⟨PyData.keyHash P (Str.ofString "map_table_b3"), .str (Str.ofString "map_table_b3") 2214, .ref 78⟩, ⟨PyData.keyHash P (Str.ofString "ELLIPSIS_MARKER"), .str (Str.ofString "ELLIPSIS_MARKER") 2218, .str (Str.ofString "...") 2217⟩, ⟨PyData.keyHash P (Str.ofString "_ellipsis_match"), .str (Str.ofString "_ellipsis_match") 2230, .ref 85⟩, ⟨PyData.keyHash P (Str.ofString "CHAR_MAX"), .str (Str.ofString "CHAR_MAX") 2234, .int 127 2233⟩, ⟨PyData.keyHash P (Str.ofString "_grouping_intervals"), .str (Str.ofString "_grouping_intervals") 2243, .ref 92⟩, ⟨PyData.keyHash P (Str.ofString "_strip_padding"), .str (Str.ofString "_strip_padding") 2253, .ref 99⟩, ⟨PyData.keyHash P (Str.ofString "_law_shown"), .str (Str.ofString "_law_shown") 2264, .ref 106⟩, ⟨PyData.keyHash P (Str.ofString "_law_hidden"), .str (Str.ofString "_law_hidden") 2271, .ref 113⟩, ⟨PyData.keyHash P (Str.ofString "_law_gap"), .str (Str.ofString "_law_gap") 2281, .ref 120⟩, ⟨PyData.keyHash P (Str.ofString "_law_plan"), .str (Str.ofString "_law_plan") 2294, .ref 127⟩, ⟨PyData.keyHash P (Str.ofString "_law_line"), .str (Str.ofString "_law_line") 2306, .ref 134⟩, ⟨PyData.keyHash P (Str.ofString "_law_read"), .str (Str.ofString "_law_read") 2312, .ref 139⟩, ⟨PyData.keyHash P (Str.ofString "_law_seated"), .str (Str.ofString "_law_seated") 2318, .ref 144⟩, ⟨PyData.keyHash P (Str.ofString "_law_factorial"), .str (Str.ofString "_law_factorial") 2327, .ref 151⟩] 26, #[]⟩
noncomputable def ho_3_22 (P : Params) : Obj := ⟨.type "dict", none, .dict #[⟨PyData.keyHash P (Str.ofString "__name__"), .str (Str.ofString "__name__") 165, .str (Str.ofString "law_ti0043_01") 2254⟩, ⟨PyData.keyHash P (Str.ofString "__doc__"), .str (Str.ofString "__doc__") 166, .none⟩, ⟨PyData.keyHash P (Str.ofString "__package__"), .str (Str.ofString "__package__") 167, .none⟩, ⟨PyData.keyHash P (Str.ofString "__loader__"), .str (Str.ofString "__loader__") 168, .builtin "__main__.__loader__#opaque"⟩, ⟨PyData.keyHash P (Str.ofString "__spec__"), .str (Str.ofString "__spec__") 169, .none⟩, ⟨PyData.keyHash P (Str.ofString "__annotations__"), .str (Str.ofString "__annotations__") 170, .ref 6⟩, ⟨PyData.keyHash P (Str.ofString "__builtins__"), .str (Str.ofString "__builtins__") 171, .ref 4⟩, ⟨PyData.keyHash P (Str.ofString "__file__"), .str (Str.ofString "__file__") 173, .str (Str.ofString "/claim/cut.py") 172⟩, ⟨PyData.keyHash P (Str.ofString "__cached__"), .str (Str.ofString "__cached__") 174, .none⟩, ⟨PyData.keyHash P (Str.ofString "b1_set"), .str (Str.ofString "b1_set") 248, .ref 22⟩, ⟨PyData.keyHash P (Str.ofString "in_table_b1"), .str (Str.ofString "in_table_b1") 255, .ref 32⟩, ⟨PyData.keyHash P (Str.ofString "b3_exceptions"), .str (Str.ofString "b3_exceptions") 2206, .ref 33⟩, ⟨PyData.keyHash P (Str.ofString "map_table_b3"), .str (Str.ofString "map_table_b3") 2214, .ref 78⟩, ⟨PyData.keyHash P (Str.ofString "ELLIPSIS_MARKER"), .str (Str.ofString "ELLIPSIS_MARKER") 2218, .str (Str.ofString "...") 2217⟩, ⟨PyData.keyHash P (Str.ofString "_ellipsis_match"), .str (Str.ofString "_ellipsis_match") 2230, .ref 85⟩, ⟨PyData.keyHash P (Str.ofString "CHAR_MAX"), .str (Str.ofString "CHAR_MAX") 2234, .int 127 2233⟩, ⟨PyData.keyHash P (Str.ofString "_grouping_intervals"), .str (Str.ofString "_grouping_intervals") 2243, .ref 92⟩, ⟨PyData.keyHash P (Str.ofString "_strip_padding"), .str (Str.ofString "_strip_padding") 2253, .ref 99⟩, ⟨PyData.keyHash P (Str.ofString "_law_shown"), .str (Str.ofString "_law_shown") 2264, .ref 106⟩, ⟨PyData.keyHash P (Str.ofString "_law_hidden"), .str (Str.ofString "_law_hidden") 2271, .ref 113⟩, ⟨PyData.keyHash P (Str.ofString "_law_gap"), .str (Str.ofString "_law_gap") 2281, .ref 120⟩, ⟨PyData.keyHash P (Str.ofString "_law_plan"), .str (Str.ofString "_law_plan") 2294, .ref 127⟩, ⟨PyData.keyHash P (Str.ofString "_law_line"), .str (Str.ofString "_law_line") 2306, .ref 134⟩, ⟨PyData.keyHash P (Str.ofString "_law_read"), .str (Str.ofString "_law_read") 2312, .ref 139⟩, ⟨PyData.keyHash P (Str.ofString "_law_seated"), .str (Str.ofString "_law_seated") 2318, .ref 144⟩, ⟨PyData.keyHash P (Str.ofString "_law_factorial"), .str (Str.ofString "_law_factorial") 2327, .ref 151⟩, ⟨PyData.keyHash P (Str.ofString "_law_chosen"), .str (Str.ofString "_law_chosen") 2333, .ref 156⟩] 27, #[]⟩
noncomputable def ho_3_23 (P : Params) : Obj := ⟨.type "dict", none, .dict #[⟨PyData.keyHash P (Str.ofString "__name__"), .str (Str.ofString "__name__") 165, .str (Str.ofString "law_ti0043_01") 2254⟩, ⟨PyData.keyHash P (Str.ofString "__doc__"), .str (Str.ofString "__doc__") 166, .none⟩, ⟨PyData.keyHash P (Str.ofString "__package__"), .str (Str.ofString "__package__") 167, .none⟩, ⟨PyData.keyHash P (Str.ofString "__loader__"), .str (Str.ofString "__loader__") 168, .builtin "__main__.__loader__#opaque"⟩, ⟨PyData.keyHash P (Str.ofString "__spec__"), .str (Str.ofString "__spec__") 169, .none⟩, ⟨PyData.keyHash P (Str.ofString "__annotations__"), .str (Str.ofString "__annotations__") 170, .ref 6⟩, ⟨PyData.keyHash P (Str.ofString "__builtins__"), .str (Str.ofString "__builtins__") 171, .ref 4⟩, ⟨PyData.keyHash P (Str.ofString "__file__"), .str (Str.ofString "__file__") 173, .str (Str.ofString "/claim/cut.py") 172⟩, ⟨PyData.keyHash P (Str.ofString "__cached__"), .str (Str.ofString "__cached__") 174, .none⟩, ⟨PyData.keyHash P (Str.ofString "b1_set"), .str (Str.ofString "b1_set") 248, .ref 22⟩, ⟨PyData.keyHash P (Str.ofString "in_table_b1"), .str (Str.ofString "in_table_b1") 255, .ref 32⟩, ⟨PyData.keyHash P (Str.ofString "b3_exceptions"), .str (Str.ofString "b3_exceptions") 2206, .ref 33⟩, ⟨PyData.keyHash P (Str.ofString "map_table_b3"), .str (Str.ofString "map_table_b3") 2214, .ref 78⟩, ⟨PyData.keyHash P (Str.ofString "ELLIPSIS_MARKER"), .str (Str.ofString "ELLIPSIS_MARKER") 2218, .str (Str.ofString "...") 2217⟩, ⟨PyData.keyHash P (Str.ofString "_ellipsis_match"), .str (Str.ofString "_ellipsis_match") 2230, .ref 85⟩, ⟨PyData.keyHash P (Str.ofString "CHAR_MAX"), .str (Str.ofString "CHAR_MAX") 2234, .int 127 2233⟩, ⟨PyData.keyHash P (Str.ofString "_grouping_intervals"), .str (Str.ofString "_grouping_intervals") 2243, .ref 92⟩, ⟨PyData.keyHash P (Str.ofString "_strip_padding"), .str (Str.ofString "_strip_padding") 2253, .ref 99⟩, ⟨PyData.keyHash P (Str.ofString "_law_shown"), .str (Str.ofString "_law_shown") 2264, .ref 106⟩, ⟨PyData.keyHash P (Str.ofString "_law_hidden"), .str (Str.ofString "_law_hidden") 2271, .ref 113⟩, ⟨PyData.keyHash P (Str.ofString "_law_gap"), .str (Str.ofString "_law_gap") 2281, .ref 120⟩, ⟨PyData.keyHash P (Str.ofString "_law_plan"), .str (Str.ofString "_law_plan") 2294, .ref 127⟩, ⟨PyData.keyHash P (Str.ofString "_law_line"), .str (Str.ofString "_law_line") 2306, .ref 134⟩, ⟨PyData.keyHash P (Str.ofString "_law_read"), .str (Str.ofString "_law_read") 2312, .ref 139⟩, ⟨PyData.keyHash P (Str.ofString "_law_seated"), .str (Str.ofString "_law_seated") 2318, .ref 144⟩, ⟨PyData.keyHash P (Str.ofString "_law_factorial"), .str (Str.ofString "_law_factorial") 2327, .ref 151⟩, ⟨PyData.keyHash P (Str.ofString "_law_chosen"), .str (Str.ofString "_law_chosen") 2333, .ref 156⟩, ⟨PyData.keyHash P (Str.ofString "_law_due"), .str (Str.ofString "_law_due") 2339, .ref 161⟩] 28, #[]⟩
noncomputable def ho_3_24 (P : Params) : Obj := ⟨.type "dict", none, .dict #[⟨PyData.keyHash P (Str.ofString "__name__"), .str (Str.ofString "__name__") 165, .str (Str.ofString "law_ti0043_01") 2254⟩, ⟨PyData.keyHash P (Str.ofString "__doc__"), .str (Str.ofString "__doc__") 166, .none⟩, ⟨PyData.keyHash P (Str.ofString "__package__"), .str (Str.ofString "__package__") 167, .none⟩, ⟨PyData.keyHash P (Str.ofString "__loader__"), .str (Str.ofString "__loader__") 168, .builtin "__main__.__loader__#opaque"⟩, ⟨PyData.keyHash P (Str.ofString "__spec__"), .str (Str.ofString "__spec__") 169, .none⟩, ⟨PyData.keyHash P (Str.ofString "__annotations__"), .str (Str.ofString "__annotations__") 170, .ref 6⟩, ⟨PyData.keyHash P (Str.ofString "__builtins__"), .str (Str.ofString "__builtins__") 171, .ref 4⟩, ⟨PyData.keyHash P (Str.ofString "__file__"), .str (Str.ofString "__file__") 173, .str (Str.ofString "/claim/cut.py") 172⟩, ⟨PyData.keyHash P (Str.ofString "__cached__"), .str (Str.ofString "__cached__") 174, .none⟩, ⟨PyData.keyHash P (Str.ofString "b1_set"), .str (Str.ofString "b1_set") 248, .ref 22⟩, ⟨PyData.keyHash P (Str.ofString "in_table_b1"), .str (Str.ofString "in_table_b1") 255, .ref 32⟩, ⟨PyData.keyHash P (Str.ofString "b3_exceptions"), .str (Str.ofString "b3_exceptions") 2206, .ref 33⟩, ⟨PyData.keyHash P (Str.ofString "map_table_b3"), .str (Str.ofString "map_table_b3") 2214, .ref 78⟩, ⟨PyData.keyHash P (Str.ofString "ELLIPSIS_MARKER"), .str (Str.ofString "ELLIPSIS_MARKER") 2218, .str (Str.ofString "...") 2217⟩, ⟨PyData.keyHash P (Str.ofString "_ellipsis_match"), .str (Str.ofString "_ellipsis_match") 2230, .ref 85⟩, ⟨PyData.keyHash P (Str.ofString "CHAR_MAX"), .str (Str.ofString "CHAR_MAX") 2234, .int 127 2233⟩, ⟨PyData.keyHash P (Str.ofString "_grouping_intervals"), .str (Str.ofString "_grouping_intervals") 2243, .ref 92⟩, ⟨PyData.keyHash P (Str.ofString "_strip_padding"), .str (Str.ofString "_strip_padding") 2253, .ref 99⟩, ⟨PyData.keyHash P (Str.ofString "_law_shown"), .str (Str.ofString "_law_shown") 2264, .ref 106⟩, ⟨PyData.keyHash P (Str.ofString "_law_hidden"), .str (Str.ofString "_law_hidden") 2271, .ref 113⟩, ⟨PyData.keyHash P (Str.ofString "_law_gap"), .str (Str.ofString "_law_gap") 2281, .ref 120⟩, ⟨PyData.keyHash P (Str.ofString "_law_plan"), .str (Str.ofString "_law_plan") 2294, .ref 127⟩, ⟨PyData.keyHash P (Str.ofString "_law_line"), .str (Str.ofString "_law_line") 2306, .ref 134⟩, ⟨PyData.keyHash P (Str.ofString "_law_read"), .str (Str.ofString "_law_read") 2312, .ref 139⟩, ⟨PyData.keyHash P (Str.ofString "_law_seated"), .str (Str.ofString "_law_seated") 2318, .ref 144⟩, ⟨PyData.keyHash P (Str.ofString "_law_factorial"), .str (Str.ofString "_law_factorial") 2327, .ref 151⟩, ⟨PyData.keyHash P (Str.ofString "_law_chosen"), .str (Str.ofString "_law_chosen") 2333, .ref 156⟩, ⟨PyData.keyHash P (Str.ofString "_law_due"), .str (Str.ofString "_law_due") 2339, .ref 161⟩, ⟨PyData.keyHash P (Str.ofString "law"), .str (Str.ofString "law") 2345, .ref 166⟩] 29, #[]⟩
noncomputable def ho_11_0 (P : Params) : Obj := ⟨.type "tuple", none, .seq #[] 0, #[]⟩
noncomputable def ho_12_0 (P : Params) : Obj := ⟨.none, none, .fields #[], #[]⟩
noncomputable def ho_12_3 (P : Params) : Obj := ⟨.none, none, .fields #[.int 3 0, .int 0 0, .ref 31], #[]⟩
noncomputable def ho_12_5 (P : Params) : Obj := ⟨.none, none, .fields #[.int 3 0, .int 0 0, .ref 31, .int 6 0, .int 0 0, .ref 77], #[]⟩
noncomputable def ho_12_8 (P : Params) : Obj := ⟨.none, none, .fields #[.int 3 0, .int 0 0, .ref 31, .int 6 0, .int 0 0, .ref 77, .int 13 0, .int 0 0, .ref 84], #[]⟩
noncomputable def ho_12_11 (P : Params) : Obj := ⟨.none, none, .fields #[.int 3 0, .int 0 0, .ref 31, .int 6 0, .int 0 0, .ref 77, .int 13 0, .int 0 0, .ref 84, .int 43 0, .int 0 0, .ref 91], #[]⟩
noncomputable def ho_12_12 (P : Params) : Obj := ⟨.none, none, .fields #[.int 3 0, .int 0 0, .ref 31, .int 6 0, .int 0 0, .ref 77, .int 13 0, .int 0 0, .ref 84, .int 43 0, .int 0 0, .ref 91, .int 55 0, .int 0 0, .ref 98], #[]⟩
noncomputable def ho_12_14 (P : Params) : Obj := ⟨.none, none, .fields #[.int 3 0, .int 0 0, .ref 31, .int 6 0, .int 0 0, .ref 77, .int 13 0, .int 0 0, .ref 84, .int 43 0, .int 0 0, .ref 91, .int 55 0, .int 0 0, .ref 98, .int 66 0, .int 0 0, .ref 105], #[]⟩
noncomputable def ho_12_15 (P : Params) : Obj := ⟨.none, none, .fields #[.int 3 0, .int 0 0, .ref 31, .int 6 0, .int 0 0, .ref 77, .int 13 0, .int 0 0, .ref 84, .int 43 0, .int 0 0, .ref 91, .int 55 0, .int 0 0, .ref 98, .int 66 0, .int 0 0, .ref 105, .int 71 0, .int 0 0, .ref 112], #[]⟩
noncomputable def ho_12_16 (P : Params) : Obj := ⟨.none, none, .fields #[.int 3 0, .int 0 0, .ref 31, .int 6 0, .int 0 0, .ref 77, .int 13 0, .int 0 0, .ref 84, .int 43 0, .int 0 0, .ref 91, .int 55 0, .int 0 0, .ref 98, .int 66 0, .int 0 0, .ref 105, .int 71 0, .int 0 0, .ref 112, .int 75 0, .int 0 0, .ref 119], #[]⟩
noncomputable def ho_12_17 (P : Params) : Obj := ⟨.none, none, .fields #[.int 3 0, .int 0 0, .ref 31, .int 6 0, .int 0 0, .ref 77, .int 13 0, .int 0 0, .ref 84, .int 43 0, .int 0 0, .ref 91, .int 55 0, .int 0 0, .ref 98, .int 66 0, .int 0 0, .ref 105, .int 71 0, .int 0 0, .ref 112, .int 75 0, .int 0 0, .ref 119, .int 84 0, .int 0 0, .ref 126], #[]⟩
noncomputable def ho_12_18 (P : Params) : Obj := ⟨.none, none, .fields #[.int 3 0, .int 0 0, .ref 31, .int 6 0, .int 0 0, .ref 77, .int 13 0, .int 0 0, .ref 84, .int 43 0, .int 0 0, .ref 91, .int 55 0, .int 0 0, .ref 98, .int 66 0, .int 0 0, .ref 105, .int 71 0, .int 0 0, .ref 112, .int 75 0, .int 0 0, .ref 119, .int 84 0, .int 0 0, .ref 126, .int 92 0, .int 0 0, .ref 133], #[]⟩
noncomputable def ho_12_19 (P : Params) : Obj := ⟨.none, none, .fields #[.int 3 0, .int 0 0, .ref 31, .int 6 0, .int 0 0, .ref 77, .int 13 0, .int 0 0, .ref 84, .int 43 0, .int 0 0, .ref 91, .int 55 0, .int 0 0, .ref 98, .int 66 0, .int 0 0, .ref 105, .int 71 0, .int 0 0, .ref 112, .int 75 0, .int 0 0, .ref 119, .int 84 0, .int 0 0, .ref 126, .int 92 0, .int 0 0, .ref 133, .int 97 0, .int 0 0, .ref 138], #[]⟩
noncomputable def ho_12_20 (P : Params) : Obj := ⟨.none, none, .fields #[.int 3 0, .int 0 0, .ref 31, .int 6 0, .int 0 0, .ref 77, .int 13 0, .int 0 0, .ref 84, .int 43 0, .int 0 0, .ref 91, .int 55 0, .int 0 0, .ref 98, .int 66 0, .int 0 0, .ref 105, .int 71 0, .int 0 0, .ref 112, .int 75 0, .int 0 0, .ref 119, .int 84 0, .int 0 0, .ref 126, .int 92 0, .int 0 0, .ref 133, .int 97 0, .int 0 0, .ref 138, .int 106 0, .int 0 0, .ref 143], #[]⟩
noncomputable def ho_12_21 (P : Params) : Obj := ⟨.none, none, .fields #[.int 3 0, .int 0 0, .ref 31, .int 6 0, .int 0 0, .ref 77, .int 13 0, .int 0 0, .ref 84, .int 43 0, .int 0 0, .ref 91, .int 55 0, .int 0 0, .ref 98, .int 66 0, .int 0 0, .ref 105, .int 71 0, .int 0 0, .ref 112, .int 75 0, .int 0 0, .ref 119, .int 84 0, .int 0 0, .ref 126, .int 92 0, .int 0 0, .ref 133, .int 97 0, .int 0 0, .ref 138, .int 106 0, .int 0 0, .ref 143, .int 116 0, .int 0 0, .ref 150], #[]⟩
noncomputable def ho_12_22 (P : Params) : Obj := ⟨.none, none, .fields #[.int 3 0, .int 0 0, .ref 31, .int 6 0, .int 0 0, .ref 77, .int 13 0, .int 0 0, .ref 84, .int 43 0, .int 0 0, .ref 91, .int 55 0, .int 0 0, .ref 98, .int 66 0, .int 0 0, .ref 105, .int 71 0, .int 0 0, .ref 112, .int 75 0, .int 0 0, .ref 119, .int 84 0, .int 0 0, .ref 126, .int 92 0, .int 0 0, .ref 133, .int 97 0, .int 0 0, .ref 138, .int 106 0, .int 0 0, .ref 143, .int 116 0, .int 0 0, .ref 150, .int 121 0, .int 0 0, .ref 155], #[]⟩
noncomputable def ho_12_23 (P : Params) : Obj := ⟨.none, none, .fields #[.int 3 0, .int 0 0, .ref 31, .int 6 0, .int 0 0, .ref 77, .int 13 0, .int 0 0, .ref 84, .int 43 0, .int 0 0, .ref 91, .int 55 0, .int 0 0, .ref 98, .int 66 0, .int 0 0, .ref 105, .int 71 0, .int 0 0, .ref 112, .int 75 0, .int 0 0, .ref 119, .int 84 0, .int 0 0, .ref 126, .int 92 0, .int 0 0, .ref 133, .int 97 0, .int 0 0, .ref 138, .int 106 0, .int 0 0, .ref 143, .int 116 0, .int 0 0, .ref 150, .int 121 0, .int 0 0, .ref 155, .int 127 0, .int 0 0, .ref 160], #[]⟩
noncomputable def ho_12_24 (P : Params) : Obj := ⟨.none, none, .fields #[.int 3 0, .int 0 0, .ref 31, .int 6 0, .int 0 0, .ref 77, .int 13 0, .int 0 0, .ref 84, .int 43 0, .int 0 0, .ref 91, .int 55 0, .int 0 0, .ref 98, .int 66 0, .int 0 0, .ref 105, .int 71 0, .int 0 0, .ref 112, .int 75 0, .int 0 0, .ref 119, .int 84 0, .int 0 0, .ref 126, .int 92 0, .int 0 0, .ref 133, .int 97 0, .int 0 0, .ref 138, .int 106 0, .int 0 0, .ref 143, .int 116 0, .int 0 0, .ref 150, .int 121 0, .int 0 0, .ref 155, .int 127 0, .int 0 0, .ref 160, .int 141 0, .int 0 0, .ref 165], #[]⟩
noncomputable def ho_13_0 (P : Params) : Obj := ⟨.type "code", none, .fields #[.str (Str.ofString "<module>") 182, .str (Str.ofString "<module>") 183, .str (Str.ofString "/claim/cut.py") 184, .int 1 0, .int 0 0, .int 0 0, .int 0 0, .int 0 0, .ref 11, .bool false, .int 181 0, .ref 12, .none, .none, .none, .none, .int 185 0, .int 1 0, .str (Str.ofString "/claim/cut.py") 186], #[]⟩
noncomputable def ho_14_0 (P : Params) : Obj := ⟨.type "frame", none, .plain, #[some (.ref 13), some (.ref 3), some (.ref 3), none, some (.str (Str.ofString "__main__") 164), none, some (.ref 0)]⟩
noncomputable def ho_15_2 (P : Params) : Obj := ⟨.type "list", none, .seq #[.int 173 189, .int 847 190, .int 6150 191, .int 6155 192, .int 6156 193, .int 6157 194, .int 8203 195, .int 8204 196, .int 8205 197, .int 8288 198, .int 65279 199] 0, #[]⟩
noncomputable def ho_16_2 (P : Params) : Obj := ⟨.type "range", none, .fields #[.int 65024 200, .int 65040 201, .int 1 202], #[]⟩
noncomputable def ho_17_2 (P : Params) : Obj := ⟨.type "list", none, .seq #[.int 65024 205, .int 65025 206, .int 65026 207, .int 65027 208, .int 65028 209, .int 65029 210, .int 65030 211, .int 65031 212, .int 65032 213, .int 65033 214, .int 65034 215, .int 65035 216, .int 65036 217, .int 65037 218, .int 65038 219, .int 65039 220] 18, #[]⟩
noncomputable def ho_18_2 (P : Params) : Obj := ⟨.type "range_iterator", none, .fields #[.int 65040 0, .int 0 0, .int 1 0], #[]⟩
noncomputable def ho_19_2 (P : Params) : Obj := ⟨.type "tuple", none, .seq #[] 0, #[]⟩
noncomputable def ho_20_2 (P : Params) : Obj := ⟨.type "StopIteration", none, .fields #[.ref 19, .none, .none, .none, .bool false, .none], #[]⟩
noncomputable def ho_21_2 (P : Params) : Obj := ⟨.type "list", none, .seq #[.int 173 189, .int 847 190, .int 6150 191, .int 6155 192, .int 6156 193, .int 6157 194, .int 8203 195, .int 8204 196, .int 8205 197, .int 8288 198, .int 65279 199, .int 65024 205, .int 65025 206, .int 65026 207, .int 65027 208, .int 65028 209, .int 65029 210, .int 65030 211, .int 65031 212, .int 65032 213, .int 65033 214, .int 65034 215, .int 65035 216, .int 65036 217, .int 65037 218, .int 65038 219, .int 65039 220] 0, #[]⟩
noncomputable def ho_22_2 (P : Params) : Obj := ⟨.type "set", none, .set #[(65024, .int 65024 205), (65025, .int 65025 206), (65026, .int 65026 207), (65027, .int 65027 208), (65028, .int 65028 209), (65029, .int 65029 210), (6150, .int 6150 191), (65030, .int 65030 211), (65031, .int 65031 212), (65032, .int 65032 213), (65033, .int 65033 214), (6155, .int 6155 192), (6156, .int 6156 193), (6157, .int 6157 194), (8203, .int 8203 195), (8204, .int 8204 196), (8205, .int 8205 197), (65034, .int 65034 215), (65035, .int 65035 216), (65036, .int 65036 217), (65037, .int 65037 218), (65038, .int 65038 219), (65039, .int 65039 220), (173, .int 173 189), (847, .int 847 190), (8288, .int 8288 198), (65279, .int 65279 199)] 29 ⟨127, #[0, 1, 2, 3, 4, 5, 6, 7, 8, 9, 10, 11, 12, 13, 14, 15, 16, 17, 18, 19, 20, 21, 22, 45, 79, 96, 127], #[], 0, !P.followText "set-order", 2, true⟩, #[]⟩
noncomputable def ho_23_2 (P : Params) : Obj := ⟨.type "list_iterator", none, .fields #[.none, .int 27 0], #[]⟩
noncomputable def ho_24_2 (P : Params) : Obj := ⟨.type "tuple", none, .seq #[] 0, #[]⟩
noncomputable def ho_25_2 (P : Params) : Obj := ⟨.type "StopIteration", none, .fields #[.ref 24, .none, .none, .none, .bool false, .none], #[]⟩
noncomputable def ho_26_3 (P : Params) : Obj := ⟨.type "tuple", none, .seq #[] 0, #[]⟩
noncomputable def ho_27_3 (P : Params) : Obj := ⟨.none, none, .fields #[], #[]⟩
noncomputable def ho_28_3 (P : Params) : Obj := ⟨.type "tuple", none, .seq #[.str (Str.ofString "code") 252] 0, #[]⟩
noncomputable def ho_29_3 (P : Params) : Obj := ⟨.type "tuple", none, .seq #[] 0, #[]⟩
noncomputable def ho_30_3 (P : Params) : Obj := ⟨.none, none, .func (fnD 2 (Str.ofString "in_table_b1") (Str.ofString "in_table_b1") 0 (.none) (.none) (.none) (.none) (.none) (.none) 0), #[]⟩
noncomputable def ho_31_3 (P : Params) : Obj := ⟨.type "code", none, .fields #[.str (Str.ofString "in_table_b1") 249, .str (Str.ofString "in_table_b1") 250, .str (Str.ofString "/claim/cut.py") 251, .int 3 0, .int 1 0, .int 0 0, .int 0 0, .int 3 0, .ref 26, .bool true, .int 181 0, .ref 27, .none, .ref 28, .ref 29, .ref 30, .int 253 0, .int 3 0, .str (Str.ofString "/claim/cut.py") 254], #[]⟩
noncomputable def ho_32_3 (P : Params) : Obj := ⟨.type "function", none, .func (fnD 2 (Str.ofString "in_table_b1") (Str.ofString "in_table_b1") 3 (.none) (.none) (.none) (.str (Str.ofString "cpy313.stringprep") 187) (.ref 31) (.none) 0), #[]⟩
noncomputable def ho_72_5 (P : Params) : Obj := ⟨.type "tuple", none, .seq #[] 0, #[]⟩
noncomputable def ho_73_5 (P : Params) : Obj := ⟨.none, none, .fields #[], #[]⟩
noncomputable def ho_74_5 (P : Params) : Obj := ⟨.type "tuple", none, .seq #[.str (Str.ofString "code") 2210, .str (Str.ofString "r") 2211] 0, #[]⟩
noncomputable def ho_75_5 (P : Params) : Obj := ⟨.type "tuple", none, .seq #[] 0, #[]⟩
noncomputable def ho_76_5 (P : Params) : Obj := ⟨.none, none, .func (fnD 4 (Str.ofString "map_table_b3") (Str.ofString "map_table_b3") 0 (.none) (.none) (.none) (.none) (.none) (.none) 0), #[]⟩
noncomputable def ho_77_5 (P : Params) : Obj := ⟨.type "code", none, .fields #[.str (Str.ofString "map_table_b3") 2207, .str (Str.ofString "map_table_b3") 2208, .str (Str.ofString "/claim/cut.py") 2209, .int 6 0, .int 1 0, .int 0 0, .int 0 0, .int 3 0, .ref 72, .bool true, .int 181 0, .ref 73, .none, .ref 74, .ref 75, .ref 76, .int 2212 0, .int 6 0, .str (Str.ofString "/claim/cut.py") 2213], #[]⟩
noncomputable def ho_78_5 (P : Params) : Obj := ⟨.type "function", none, .func (fnD 4 (Str.ofString "map_table_b3") (Str.ofString "map_table_b3") 3 (.none) (.none) (.none) (.str (Str.ofString "cpy313.stringprep") 187) (.ref 77) (.none) 0), #[]⟩
noncomputable def ho_79_8 (P : Params) : Obj := ⟨.type "tuple", none, .seq #[] 0, #[]⟩
noncomputable def ho_80_8 (P : Params) : Obj := ⟨.none, none, .fields #[], #[]⟩
noncomputable def ho_81_8 (P : Params) : Obj := ⟨.type "tuple", none, .seq #[.str (Str.ofString "want") 2222, .str (Str.ofString "got") 2223, .str (Str.ofString "ws") 2224, .str (Str.ofString "startpos") 2225, .str (Str.ofString "endpos") 2226, .str (Str.ofString "w") 2227] 0, #[]⟩
noncomputable def ho_82_8 (P : Params) : Obj := ⟨.type "tuple", none, .seq #[] 0, #[]⟩
noncomputable def ho_83_8 (P : Params) : Obj := ⟨.none, none, .func (fnD 7 (Str.ofString "_ellipsis_match") (Str.ofString "_ellipsis_match") 0 (.none) (.none) (.none) (.none) (.none) (.none) 0), #[]⟩
noncomputable def ho_84_8 (P : Params) : Obj := ⟨.type "code", none, .fields #[.str (Str.ofString "_ellipsis_match") 2219, .str (Str.ofString "_ellipsis_match") 2220, .str (Str.ofString "/claim/cut.py") 2221, .int 13 0, .int 2 0, .int 0 0, .int 0 0, .int 3 0, .ref 79, .bool true, .int 181 0, .ref 80, .none, .ref 81, .ref 82, .ref 83, .int 2228 0, .int 13 0, .str (Str.ofString "/claim/cut.py") 2229], #[]⟩
noncomputable def ho_85_8 (P : Params) : Obj := ⟨.type "function", none, .func (fnD 7 (Str.ofString "_ellipsis_match") (Str.ofString "_ellipsis_match") 3 (.none) (.none) (.none) (.str (Str.ofString "cpy313.doctest") 2215) (.ref 84) (.none) 0), #[]⟩
noncomputable def ho_86_11 (P : Params) : Obj := ⟨.type "tuple", none, .seq #[] 0, #[]⟩
noncomputable def ho_87_11 (P : Params) : Obj := ⟨.none, none, .fields #[], #[]⟩
noncomputable def ho_88_11 (P : Params) : Obj := ⟨.type "tuple", none, .seq #[.str (Str.ofString "grouping") 2238, .str (Str.ofString "last_interval") 2239, .str (Str.ofString "interval") 2240] 0, #[]⟩
noncomputable def ho_89_11 (P : Params) : Obj := ⟨.type "tuple", none, .seq #[] 0, #[]⟩
noncomputable def ho_90_11 (P : Params) : Obj := ⟨.none, none, .func (fnD 10 (Str.ofString "_grouping_intervals") (Str.ofString "_grouping_intervals") 0 (.none) (.none) (.none) (.none) (.none) (.none) 0), #[]⟩
noncomputable def ho_91_11 (P : Params) : Obj := ⟨.type "code", none, .fields #[.str (Str.ofString "_grouping_intervals") 2235, .str (Str.ofString "_grouping_intervals") 2236, .str (Str.ofString "/claim/cut.py") 2237, .int 43 0, .int 1 0, .int 0 0, .int 0 0, .int 35 0, .ref 86, .bool true, .int 181 0, .ref 87, .none, .ref 88, .ref 89, .ref 90, .int 2241 0, .int 43 0, .str (Str.ofString "/claim/cut.py") 2242], #[]⟩
noncomputable def ho_92_11 (P : Params) : Obj := ⟨.type "function", none, .func (fnD 10 (Str.ofString "_grouping_intervals") (Str.ofString "_grouping_intervals") 3 (.none) (.none) (.none) (.str (Str.ofString "cpy313.locale") 2231) (.ref 91) (.none) 0), #[]⟩
noncomputable def ho_93_12 (P : Params) : Obj := ⟨.type "tuple", none, .seq #[] 0, #[]⟩
noncomputable def ho_94_12 (P : Params) : Obj := ⟨.none, none, .fields #[], #[]⟩
noncomputable def ho_95_12 (P : Params) : Obj := ⟨.type "tuple", none, .seq #[.str (Str.ofString "s") 2247, .str (Str.ofString "amount") 2248, .str (Str.ofString "lpos") 2249, .str (Str.ofString "rpos") 2250] 0, #[]⟩
noncomputable def ho_96_12 (P : Params) : Obj := ⟨.type "tuple", none, .seq #[] 0, #[]⟩
noncomputable def ho_97_12 (P : Params) : Obj := ⟨.none, none, .func (fnD 11 (Str.ofString "_strip_padding") (Str.ofString "_strip_padding") 0 (.none) (.none) (.none) (.none) (.none) (.none) 0), #[]⟩
noncomputable def ho_98_12 (P : Params) : Obj := ⟨.type "code", none, .fields #[.str (Str.ofString "_strip_padding") 2244, .str (Str.ofString "_strip_padding") 2245, .str (Str.ofString "/claim/cut.py") 2246, .int 55 0, .int 2 0, .int 0 0, .int 0 0, .int 3 0, .ref 93, .bool true, .int 181 0, .ref 94, .none, .ref 95, .ref 96, .ref 97, .int 2251 0, .int 55 0, .str (Str.ofString "/claim/cut.py") 2252], #[]⟩
noncomputable def ho_99_12 (P : Params) : Obj := ⟨.type "function", none, .func (fnD 11 (Str.ofString "_strip_padding") (Str.ofString "_strip_padding") 3 (.none) (.none) (.none) (.str (Str.ofString "cpy313.locale") 2231) (.ref 98) (.none) 0), #[]⟩
noncomputable def ho_100_14 (P : Params) : Obj := ⟨.type "tuple", none, .seq #[] 0, #[]⟩
noncomputable def ho_101_14 (P : Params) : Obj := ⟨.none, none, .fields #[], #[]⟩
noncomputable def ho_102_14 (P : Params) : Obj := ⟨.type "tuple", none, .seq #[.str (Str.ofString "letter") 2259, .str (Str.ofString "form") 2260, .str (Str.ofString "alphabets") 2261] 0, #[]⟩
noncomputable def ho_103_14 (P : Params) : Obj := ⟨.type "tuple", none, .seq #[] 0, #[]⟩
noncomputable def ho_104_14 (P : Params) : Obj := ⟨.none, none, .func (fnD 13 (Str.ofString "_law_shown") (Str.ofString "_law_shown") 0 (.none) (.none) (.none) (.none) (.none) (.none) 0), #[]⟩
noncomputable def ho_105_14 (P : Params) : Obj := ⟨.type "code", none, .fields #[.str (Str.ofString "_law_shown") 2256, .str (Str.ofString "_law_shown") 2257, .str (Str.ofString "/claim/cut.py") 2258, .int 66 0, .int 2 0, .int 0 0, .int 0 0, .int 3 0, .ref 100, .bool true, .int 181 0, .ref 101, .none, .ref 102, .ref 103, .ref 104, .int 2262 0, .int 66 0, .str (Str.ofString "/claim/cut.py") 2263], #[]⟩
noncomputable def ho_106_14 (P : Params) : Obj := ⟨.type "function", none, .func (fnD 13 (Str.ofString "_law_shown") (Str.ofString "_law_shown") 3 (.none) (.none) (.none) (.str (Str.ofString "law_ti0043_01") 2254) (.ref 105) (.none) 0), #[]⟩
noncomputable def ho_107_15 (P : Params) : Obj := ⟨.type "tuple", none, .seq #[] 0, #[]⟩
noncomputable def ho_108_15 (P : Params) : Obj := ⟨.none, none, .fields #[], #[]⟩
noncomputable def ho_109_15 (P : Params) : Obj := ⟨.type "tuple", none, .seq #[.str (Str.ofString "spot") 2268] 0, #[]⟩
noncomputable def ho_110_15 (P : Params) : Obj := ⟨.type "tuple", none, .seq #[] 0, #[]⟩
noncomputable def ho_111_15 (P : Params) : Obj := ⟨.none, none, .func (fnD 14 (Str.ofString "_law_hidden") (Str.ofString "_law_hidden") 0 (.none) (.none) (.none) (.none) (.none) (.none) 0), #[]⟩
noncomputable def ho_112_15 (P : Params) : Obj := ⟨.type "code", none, .fields #[.str (Str.ofString "_law_hidden") 2265, .str (Str.ofString "_law_hidden") 2266, .str (Str.ofString "/claim/cut.py") 2267, .int 71 0, .int 1 0, .int 0 0, .int 0 0, .int 3 0, .ref 107, .bool true, .int 181 0, .ref 108, .none, .ref 109, .ref 110, .ref 111, .int 2269 0, .int 71 0, .str (Str.ofString "/claim/cut.py") 2270], #[]⟩
noncomputable def ho_113_15 (P : Params) : Obj := ⟨.type "function", none, .func (fnD 14 (Str.ofString "_law_hidden") (Str.ofString "_law_hidden") 3 (.none) (.none) (.none) (.str (Str.ofString "law_ti0043_01") 2254) (.ref 112) (.none) 0), #[]⟩
noncomputable def ho_114_16 (P : Params) : Obj := ⟨.type "tuple", none, .seq #[] 0, #[]⟩
noncomputable def ho_115_16 (P : Params) : Obj := ⟨.none, none, .fields #[], #[]⟩
noncomputable def ho_116_16 (P : Params) : Obj := ⟨.type "tuple", none, .seq #[.str (Str.ofString "kind") 2275, .str (Str.ofString "strange") 2276, .str (Str.ofString "spot") 2277, .str (Str.ofString "stranger") 2278] 0, #[]⟩
noncomputable def ho_117_16 (P : Params) : Obj := ⟨.type "tuple", none, .seq #[] 0, #[]⟩
noncomputable def ho_118_16 (P : Params) : Obj := ⟨.none, none, .func (fnD 15 (Str.ofString "_law_gap") (Str.ofString "_law_gap") 0 (.none) (.none) (.none) (.none) (.none) (.none) 0), #[]⟩
noncomputable def ho_119_16 (P : Params) : Obj := ⟨.type "code", none, .fields #[.str (Str.ofString "_law_gap") 2272, .str (Str.ofString "_law_gap") 2273, .str (Str.ofString "/claim/cut.py") 2274, .int 75 0, .int 3 0, .int 0 0, .int 0 0, .int 3 0, .ref 114, .bool true, .int 181 0, .ref 115, .none, .ref 116, .ref 117, .ref 118, .int 2279 0, .int 75 0, .str (Str.ofString "/claim/cut.py") 2280], #[]⟩
noncomputable def ho_120_16 (P : Params) : Obj := ⟨.type "function", none, .func (fnD 15 (Str.ofString "_law_gap") (Str.ofString "_law_gap") 3 (.none) (.none) (.none) (.str (Str.ofString "law_ti0043_01") 2254) (.ref 119) (.none) 0), #[]⟩
noncomputable def ho_121_17 (P : Params) : Obj := ⟨.type "tuple", none, .seq #[] 0, #[]⟩
noncomputable def ho_122_17 (P : Params) : Obj := ⟨.none, none, .fields #[], #[]⟩
noncomputable def ho_123_17 (P : Params) : Obj := ⟨.type "tuple", none, .seq #[.str (Str.ofString "letters") 2285, .str (Str.ofString "kinds") 2286, .str (Str.ofString "forms") 2287, .str (Str.ofString "strange") 2288, .str (Str.ofString "pairs") 2289, .str (Str.ofString "place") 2290, .str (Str.ofString "letter") 2291] 0, #[]⟩
noncomputable def ho_124_17 (P : Params) : Obj := ⟨.type "tuple", none, .seq #[] 0, #[]⟩
noncomputable def ho_125_17 (P : Params) : Obj := ⟨.none, none, .func (fnD 16 (Str.ofString "_law_plan") (Str.ofString "_law_plan") 0 (.none) (.none) (.none) (.none) (.none) (.none) 0), #[]⟩
noncomputable def ho_126_17 (P : Params) : Obj := ⟨.type "code", none, .fields #[.str (Str.ofString "_law_plan") 2282, .str (Str.ofString "_law_plan") 2283, .str (Str.ofString "/claim/cut.py") 2284, .int 84 0, .int 4 0, .int 0 0, .int 0 0, .int 3 0, .ref 121, .bool true, .int 181 0, .ref 122, .none, .ref 123, .ref 124, .ref 125, .int 2292 0, .int 84 0, .str (Str.ofString "/claim/cut.py") 2293], #[]⟩
noncomputable def ho_127_17 (P : Params) : Obj := ⟨.type "function", none, .func (fnD 16 (Str.ofString "_law_plan") (Str.ofString "_law_plan") 3 (.none) (.none) (.none) (.str (Str.ofString "law_ti0043_01") 2254) (.ref 126) (.none) 0), #[]⟩
noncomputable def ho_128_18 (P : Params) : Obj := ⟨.type "tuple", none, .seq #[] 0, #[]⟩
noncomputable def ho_129_18 (P : Params) : Obj := ⟨.none, none, .fields #[], #[]⟩
noncomputable def ho_130_18 (P : Params) : Obj := ⟨.type "tuple", none, .seq #[.str (Str.ofString "cards") 2298, .str (Str.ofString "start") 2299, .str (Str.ofString "width") 2300, .str (Str.ofString "line") 2301, .str (Str.ofString "place") 2302, .str (Str.ofString "sign") 2303] 0, #[]⟩
noncomputable def ho_131_18 (P : Params) : Obj := ⟨.type "tuple", none, .seq #[] 0, #[]⟩
noncomputable def ho_132_18 (P : Params) : Obj := ⟨.none, none, .func (fnD 17 (Str.ofString "_law_line") (Str.ofString "_law_line") 0 (.none) (.none) (.none) (.none) (.none) (.none) 0), #[]⟩
noncomputable def ho_133_18 (P : Params) : Obj := ⟨.type "code", none, .fields #[.str (Str.ofString "_law_line") 2295, .str (Str.ofString "_law_line") 2296, .str (Str.ofString "/claim/cut.py") 2297, .int 92 0, .int 3 0, .int 0 0, .int 0 0, .int 3 0, .ref 128, .bool true, .int 181 0, .ref 129, .none, .ref 130, .ref 131, .ref 132, .int 2304 0, .int 92 0, .str (Str.ofString "/claim/cut.py") 2305], #[]⟩
noncomputable def ho_134_18 (P : Params) : Obj := ⟨.type "function", none, .func (fnD 17 (Str.ofString "_law_line") (Str.ofString "_law_line") 3 (.none) (.none) (.none) (.str (Str.ofString "law_ti0043_01") 2254) (.ref 133) (.none) 0), #[]⟩
noncomputable def ho_135_19 (P : Params) : Obj := ⟨.type "tuple", none, .seq #[] 0, #[]⟩
noncomputable def ho_136_19 (P : Params) : Obj := ⟨.none, none, .fields #[], #[]⟩
noncomputable def ho_137_19 (P : Params) : Obj := ⟨.none, none, .func (fnD 18 (Str.ofString "_law_read") (Str.ofString "_law_read") 0 (.none) (.none) (.none) (.none) (.none) (.none) 0), #[]⟩
noncomputable def ho_138_19 (P : Params) : Obj := ⟨.type "code", none, .fields #[.str (Str.ofString "_law_read") 2307, .str (Str.ofString "_law_read") 2308, .str (Str.ofString "/claim/cut.py") 2309, .int 97 0, .int 2 0, .int 0 0, .int 0 0, .int 3 0, .ref 135, .bool true, .int 181 0, .ref 136, .none, .none, .none, .ref 137, .int 2310 0, .int 97 0, .str (Str.ofString "/claim/cut.py") 2311], #[]⟩
noncomputable def ho_139_19 (P : Params) : Obj := ⟨.type "function", none, .func (fnD 18 (Str.ofString "_law_read") (Str.ofString "_law_read") 3 (.none) (.none) (.none) (.str (Str.ofString "law_ti0043_01") 2254) (.ref 138) (.none) 0), #[]⟩
noncomputable def ho_140_20 (P : Params) : Obj := ⟨.type "tuple", none, .seq #[] 0, #[]⟩
noncomputable def ho_141_20 (P : Params) : Obj := ⟨.none, none, .fields #[], #[]⟩
noncomputable def ho_142_20 (P : Params) : Obj := ⟨.none, none, .func (fnD 19 (Str.ofString "_law_seated") (Str.ofString "_law_seated") 0 (.none) (.none) (.none) (.none) (.none) (.none) 0), #[]⟩
noncomputable def ho_143_20 (P : Params) : Obj := ⟨.type "code", none, .fields #[.str (Str.ofString "_law_seated") 2313, .str (Str.ofString "_law_seated") 2314, .str (Str.ofString "/claim/cut.py") 2315, .int 106 0, .int 3 0, .int 0 0, .int 0 0, .int 3 0, .ref 140, .bool true, .int 181 0, .ref 141, .none, .none, .none, .ref 142, .int 2316 0, .int 106 0, .str (Str.ofString "/claim/cut.py") 2317], #[]⟩
noncomputable def ho_144_20 (P : Params) : Obj := ⟨.type "function", none, .func (fnD 19 (Str.ofString "_law_seated") (Str.ofString "_law_seated") 3 (.none) (.none) (.none) (.str (Str.ofString "law_ti0043_01") 2254) (.ref 143) (.none) 0), #[]⟩
noncomputable def ho_145_21 (P : Params) : Obj := ⟨.type "tuple", none, .seq #[] 0, #[]⟩
noncomputable def ho_146_21 (P : Params) : Obj := ⟨.none, none, .fields #[], #[]⟩
noncomputable def ho_147_21 (P : Params) : Obj := ⟨.type "tuple", none, .seq #[.str (Str.ofString "number") 2322, .str (Str.ofString "product") 2323, .str (Str.ofString "factor") 2324] 0, #[]⟩
noncomputable def ho_148_21 (P : Params) : Obj := ⟨.type "tuple", none, .seq #[] 0, #[]⟩
noncomputable def ho_149_21 (P : Params) : Obj := ⟨.none, none, .func (fnD 20 (Str.ofString "_law_factorial") (Str.ofString "_law_factorial") 0 (.none) (.none) (.none) (.none) (.none) (.none) 0), #[]⟩
noncomputable def ho_150_21 (P : Params) : Obj := ⟨.type "code", none, .fields #[.str (Str.ofString "_law_factorial") 2319, .str (Str.ofString "_law_factorial") 2320, .str (Str.ofString "/claim/cut.py") 2321, .int 116 0, .int 1 0, .int 0 0, .int 0 0, .int 3 0, .ref 145, .bool true, .int 181 0, .ref 146, .none, .ref 147, .ref 148, .ref 149, .int 2325 0, .int 116 0, .str (Str.ofString "/claim/cut.py") 2326], #[]⟩
noncomputable def ho_151_21 (P : Params) : Obj := ⟨.type "function", none, .func (fnD 20 (Str.ofString "_law_factorial") (Str.ofString "_law_factorial") 3 (.none) (.none) (.none) (.str (Str.ofString "law_ti0043_01") 2254) (.ref 150) (.none) 0), #[]⟩
noncomputable def ho_152_22 (P : Params) : Obj := ⟨.type "tuple", none, .seq #[] 0, #[]⟩
noncomputable def ho_153_22 (P : Params) : Obj := ⟨.none, none, .fields #[], #[]⟩
noncomputable def ho_154_22 (P : Params) : Obj := ⟨.none, none, .func (fnD 21 (Str.ofString "_law_chosen") (Str.ofString "_law_chosen") 0 (.none) (.none) (.none) (.none) (.none) (.none) 0), #[]⟩
noncomputable def ho_155_22 (P : Params) : Obj := ⟨.type "code", none, .fields #[.str (Str.ofString "_law_chosen") 2328, .str (Str.ofString "_law_chosen") 2329, .str (Str.ofString "/claim/cut.py") 2330, .int 121 0, .int 2 0, .int 0 0, .int 0 0, .int 3 0, .ref 152, .bool true, .int 181 0, .ref 153, .none, .none, .none, .ref 154, .int 2331 0, .int 121 0, .str (Str.ofString "/claim/cut.py") 2332], #[]⟩
noncomputable def ho_156_22 (P : Params) : Obj := ⟨.type "function", none, .func (fnD 21 (Str.ofString "_law_chosen") (Str.ofString "_law_chosen") 3 (.none) (.none) (.none) (.str (Str.ofString "law_ti0043_01") 2254) (.ref 155) (.none) 0), #[]⟩
noncomputable def ho_157_23 (P : Params) : Obj := ⟨.type "tuple", none, .seq #[] 0, #[]⟩
noncomputable def ho_158_23 (P : Params) : Obj := ⟨.none, none, .fields #[], #[]⟩
noncomputable def ho_159_23 (P : Params) : Obj := ⟨.none, none, .func (fnD 22 (Str.ofString "_law_due") (Str.ofString "_law_due") 0 (.none) (.none) (.none) (.none) (.none) (.none) 0), #[]⟩
noncomputable def ho_160_23 (P : Params) : Obj := ⟨.type "code", none, .fields #[.str (Str.ofString "_law_due") 2334, .str (Str.ofString "_law_due") 2335, .str (Str.ofString "/claim/cut.py") 2336, .int 127 0, .int 1 0, .int 0 0, .int 0 0, .int 3 0, .ref 157, .bool true, .int 181 0, .ref 158, .none, .none, .none, .ref 159, .int 2337 0, .int 127 0, .str (Str.ofString "/claim/cut.py") 2338], #[]⟩
noncomputable def ho_161_23 (P : Params) : Obj := ⟨.type "function", none, .func (fnD 22 (Str.ofString "_law_due") (Str.ofString "_law_due") 3 (.none) (.none) (.none) (.str (Str.ofString "law_ti0043_01") 2254) (.ref 160) (.none) 0), #[]⟩
noncomputable def ho_162_24 (P : Params) : Obj := ⟨.type "tuple", none, .seq #[] 0, #[]⟩
noncomputable def ho_163_24 (P : Params) : Obj := ⟨.none, none, .fields #[], #[]⟩
noncomputable def ho_164_24 (P : Params) : Obj := ⟨.none, none, .func (fnD 23 (Str.ofString "law") (Str.ofString "law") 0 (.none) (.none) (.none) (.none) (.none) (.none) 0), #[]⟩
noncomputable def ho_165_24 (P : Params) : Obj := ⟨.type "code", none, .fields #[.str (Str.ofString "law") 2340, .str (Str.ofString "law") 2341, .str (Str.ofString "/claim/cut.py") 2342, .int 141 0, .int 1 0, .int 0 0, .int 0 0, .int 3 0, .ref 162, .bool true, .int 181 0, .ref 163, .none, .none, .none, .ref 164, .int 2343 0, .int 141 0, .str (Str.ofString "/claim/cut.py") 2344], #[]⟩
noncomputable def ho_166_24 (P : Params) : Obj := ⟨.type "function", none, .func (fnD 23 (Str.ofString "law") (Str.ofString "law") 3 (.none) (.none) (.none) (.str (Str.ofString "law_ti0043_01") 2254) (.ref 165) (.none) 0), #[]⟩
noncomputable def tr_0 (P : Params) : BT := (.node (boot_o_0 P) (.node (boot_o_1 P) (.node (ho_3_0 P) (.node (boot_o_7 P) .nil .nil) (.node (ho_11_0 P) .nil .nil)) (.node (boot_o_5 P) (.node (boot_o_9 P) .nil .nil) (.node (ho_13_0 P) .nil .nil))) (.node (boot_o_2 P) (.node (boot_o_4 P) (.node (boot_o_8 P) .nil .nil) (.node (ho_12_0 P) .nil .nil)) (.node (boot_o_6 P) (.node (boot_o_10 P) .nil .nil) (.node (ho_14_0 P) .nil .nil))))
noncomputable def st_0 (w : World) (os : OsState) : SharedT := ⟨tr_0 w.params, 15, lf, #[], boot_drawn, 187, os⟩
noncomputable def ps_0 : Pos := ⟨0, 0, 0, 0⟩
noncomputable def tr_1 (P : Params) : BT := (.node (boot_o_0 P) (.node (boot_o_1 P) (.node (ho_3_1 P) (.node (boot_o_7 P) .nil .nil) (.node (ho_11_0 P) .nil .nil)) (.node (boot_o_5 P) (.node (boot_o_9 P) .nil .nil) (.node (ho_13_0 P) .nil .nil))) (.node (boot_o_2 P) (.node (boot_o_4 P) (.node (boot_o_8 P) .nil .nil) (.node (ho_12_0 P) .nil .nil)) (.node (boot_o_6 P) (.node (boot_o_10 P) .nil .nil) (.node (ho_14_0 P) .nil .nil))))
noncomputable def st_1 (w : World) (os : OsState) : SharedT := ⟨tr_1 w.params, 15, lf, #[], boot_drawn, 189, os⟩
noncomputable def ps_1 : Pos := ⟨1, 0, 1, 8⟩
noncomputable def tr_2 (P : Params) : BT := (.node (boot_o_0 P) (.node (boot_o_1 P) (.node (ho_3_2 P) (.node (boot_o_7 P) (.node (ho_15_2 P) .nil .nil) (.node (ho_23_2 P) .nil .nil)) (.node (ho_11_0 P) (.node (ho_19_2 P) .nil .nil) .nil)) (.node (boot_o_5 P) (.node (boot_o_9 P) (.node (ho_17_2 P) .nil .nil) (.node (ho_25_2 P) .nil .nil)) (.node (ho_13_0 P) (.node (ho_21_2 P) .nil .nil) .nil))) (.node (boot_o_2 P) (.node (boot_o_4 P) (.node (boot_o_8 P) (.node (ho_16_2 P) .nil .nil) (.node (ho_24_2 P) .nil .nil)) (.node (ho_12_0 P) (.node (ho_20_2 P) .nil .nil) .nil)) (.node (boot_o_6 P) (.node (boot_o_10 P) (.node (ho_18_2 P) .nil .nil) .nil) (.node (ho_14_0 P) (.node (ho_22_2 P) .nil .nil) .nil))))
noncomputable def st_2 (w : World) (os : OsState) : SharedT := ⟨tr_2 w.params, 26, lf, #[], boot_drawn, 249, os⟩
noncomputable def ps_2 : Pos := ⟨2, 0, 2, 6⟩
noncomputable def tr_3 (P : Params) : BT := (.node (boot_o_0 P) (.node (boot_o_1 P) (.node (ho_3_3 P) (.node (boot_o_7 P) (.node (ho_15_2 P) (.node (ho_31_3 P) .nil .nil) .nil) (.node (ho_23_2 P) .nil .nil)) (.node (ho_11_0 P) (.node (ho_19_2 P) .nil .nil) (.node (ho_27_3 P) .nil .nil))) (.node (boot_o_5 P) (.node (boot_o_9 P) (.node (ho_17_2 P) .nil .nil) (.node (ho_25_2 P) .nil .nil)) (.node (ho_13_0 P) (.node (ho_21_2 P) .nil .nil) (.node (ho_29_3 P) .nil .nil)))) (.node (boot_o_2 P) (.node (boot_o_4 P) (.node (boot_o_8 P) (.node (ho_16_2 P) (.node (ho_32_3 P) .nil .nil) .nil) (.node (ho_24_2 P) .nil .nil)) (.node (ho_12_3 P) (.node (ho_20_2 P) .nil .nil) (.node (ho_28_3 P) .nil .nil))) (.node (boot_o_6 P) (.node (boot_o_10 P) (.node (ho_18_2 P) .nil .nil) (.node (ho_26_3 P) .nil .nil)) (.node (ho_14_0 P) (.node (ho_22_2 P) .nil .nil) (.node (ho_30_3 P) .nil .nil)))))
noncomputable def st_3 (w : World) (os : OsState) : SharedT := ⟨tr_3 w.params, 33, lf, #[], boot_drawn, 256, os⟩
noncomputable def ps_3 : Pos := ⟨3, 0, 4, 30⟩
noncomputable def tr_4 (P : Params) : BT := (.node (boot_o_0 P) (.node (boot_o_1 P) (.node (ho_3_4 P) (.node (boot_o_7 P) (.node (ho_15_2 P) (.node (ho_31_3 P) (.node (ho_b3 30) .nil .nil) .nil) (.node (ho_b3 14) .nil .nil)) (.node (ho_23_2 P) (.node (ho_b3 6) (.node (ho_b3 38) .nil .nil) .nil) (.node (ho_b3 22) .nil .nil))) (.node (ho_11_0 P) (.node (ho_19_2 P) (.node (ho_b3 2) (.node (ho_b3 34) .nil .nil) .nil) (.node (ho_b3 18) .nil .nil)) (.node (ho_27_3 P) (.node (ho_b3 10) .nil .nil) (.node (ho_b3 26) .nil .nil)))) (.node (boot_o_5 P) (.node (boot_o_9 P) (.node (ho_17_2 P) (.node (ho_b3 0) (.node (ho_b3 32) .nil .nil) .nil) (.node (ho_b3 16) .nil .nil)) (.node (ho_25_2 P) (.node (ho_b3 8) .nil .nil) (.node (ho_b3 24) .nil .nil))) (.node (ho_13_0 P) (.node (ho_21_2 P) (.node (ho_b3 4) (.node (ho_b3 36) .nil .nil) .nil) (.node (ho_b3 20) .nil .nil)) (.node (ho_29_3 P) (.node (ho_b3 12) .nil .nil) (.node (ho_b3 28) .nil .nil))))) (.node (boot_o_2 P) (.node (boot_o_4 P) (.node (boot_o_8 P) (.node (ho_16_2 P) (.node (ho_32_3 P) (.node (ho_b3 31) .nil .nil) .nil) (.node (ho_b3 15) .nil .nil)) (.node (ho_24_2 P) (.node (ho_b3 7) .nil .nil) (.node (ho_b3 23) .nil .nil))) (.node (ho_12_3 P) (.node (ho_20_2 P) (.node (ho_b3 3) (.node (ho_b3 35) .nil .nil) .nil) (.node (ho_b3 19) .nil .nil)) (.node (ho_28_3 P) (.node (ho_b3 11) .nil .nil) (.node (ho_b3 27) .nil .nil)))) (.node (boot_o_6 P) (.node (boot_o_10 P) (.node (ho_18_2 P) (.node (ho_b3 1) (.node (ho_b3 33) .nil .nil) .nil) (.node (ho_b3 17) .nil .nil)) (.node (ho_26_3 P) (.node (ho_b3 9) .nil .nil) (.node (ho_b3 25) .nil .nil))) (.node (ho_14_0 P) (.node (ho_22_2 P) (.node (ho_b3 5) (.node (ho_b3 37) .nil .nil) .nil) (.node (ho_b3 21) .nil .nil)) (.node (ho_30_3 P) (.node (ho_b3 13) .nil .nil) (.node (ho_b3 29) .nil .nil))))))
noncomputable def st_4 (w : World) (os : OsState) : SharedT := ⟨tr_4 w.params, 72, lf, #[], boot_drawn, 2207, os⟩
noncomputable def ps_4 : Pos := ⟨5, 0, 5, 13⟩
noncomputable def tr_5 (P : Params) : BT := (.node (boot_o_0 P) (.node (boot_o_1 P) (.node (ho_3_5 P) (.node (boot_o_7 P) (.node (ho_15_2 P) (.node (ho_31_3 P) (.node (ho_b3 30) .nil .nil) .nil) (.node (ho_b3 14) .nil .nil)) (.node (ho_23_2 P) (.node (ho_b3 6) (.node (ho_b3 38) .nil .nil) .nil) (.node (ho_b3 22) .nil .nil))) (.node (ho_11_0 P) (.node (ho_19_2 P) (.node (ho_b3 2) (.node (ho_b3 34) .nil .nil) .nil) (.node (ho_b3 18) .nil .nil)) (.node (ho_27_3 P) (.node (ho_b3 10) (.node (ho_75_5 P) .nil .nil) .nil) (.node (ho_b3 26) .nil .nil)))) (.node (boot_o_5 P) (.node (boot_o_9 P) (.node (ho_17_2 P) (.node (ho_b3 0) (.node (ho_b3 32) .nil .nil) .nil) (.node (ho_b3 16) .nil .nil)) (.node (ho_25_2 P) (.node (ho_b3 8) (.node (ho_73_5 P) .nil .nil) .nil) (.node (ho_b3 24) .nil .nil))) (.node (ho_13_0 P) (.node (ho_21_2 P) (.node (ho_b3 4) (.node (ho_b3 36) .nil .nil) .nil) (.node (ho_b3 20) .nil .nil)) (.node (ho_29_3 P) (.node (ho_b3 12) (.node (ho_77_5 P) .nil .nil) .nil) (.node (ho_b3 28) .nil .nil))))) (.node (boot_o_2 P) (.node (boot_o_4 P) (.node (boot_o_8 P) (.node (ho_16_2 P) (.node (ho_32_3 P) (.node (ho_b3 31) .nil .nil) .nil) (.node (ho_b3 15) .nil .nil)) (.node (ho_24_2 P) (.node (ho_b3 7) (.node (ho_72_5 P) .nil .nil) .nil) (.node (ho_b3 23) .nil .nil))) (.node (ho_12_5 P) (.node (ho_20_2 P) (.node (ho_b3 3) (.node (ho_b3 35) .nil .nil) .nil) (.node (ho_b3 19) .nil .nil)) (.node (ho_28_3 P) (.node (ho_b3 11) (.node (ho_76_5 P) .nil .nil) .nil) (.node (ho_b3 27) .nil .nil)))) (.node (boot_o_6 P) (.node (boot_o_10 P) (.node (ho_18_2 P) (.node (ho_b3 1) (.node (ho_b3 33) .nil .nil) .nil) (.node (ho_b3 17) .nil .nil)) (.node (ho_26_3 P) (.node (ho_b3 9) (.node (ho_74_5 P) .nil .nil) .nil) (.node (ho_b3 25) .nil .nil))) (.node (ho_14_0 P) (.node (ho_22_2 P) (.node (ho_b3 5) (.node (ho_b3 37) .nil .nil) .nil) (.node (ho_b3 21) .nil .nil)) (.node (ho_30_3 P) (.node (ho_b3 13) (.node (ho_78_5 P) .nil .nil) .nil) (.node (ho_b3 29) .nil .nil))))))
noncomputable def st_5 (w : World) (os : OsState) : SharedT := ⟨tr_5 w.params, 79, lf, #[], boot_drawn, 2215, os⟩
noncomputable def ps_5 : Pos := ⟨6, 0, 10, 23⟩
noncomputable def tr_6 (P : Params) : BT := (.node (boot_o_0 P) (.node (boot_o_1 P) (.node (ho_3_6 P) (.node (boot_o_7 P) (.node (ho_15_2 P) (.node (ho_31_3 P) (.node (ho_b3 30) .nil .nil) .nil) (.node (ho_b3 14) .nil .nil)) (.node (ho_23_2 P) (.node (ho_b3 6) (.node (ho_b3 38) .nil .nil) .nil) (.node (ho_b3 22) .nil .nil))) (.node (ho_11_0 P) (.node (ho_19_2 P) (.node (ho_b3 2) (.node (ho_b3 34) .nil .nil) .nil) (.node (ho_b3 18) .nil .nil)) (.node (ho_27_3 P) (.node (ho_b3 10) (.node (ho_75_5 P) .nil .nil) .nil) (.node (ho_b3 26) .nil .nil)))) (.node (boot_o_5 P) (.node (boot_o_9 P) (.node (ho_17_2 P) (.node (ho_b3 0) (.node (ho_b3 32) .nil .nil) .nil) (.node (ho_b3 16) .nil .nil)) (.node (ho_25_2 P) (.node (ho_b3 8) (.node (ho_73_5 P) .nil .nil) .nil) (.node (ho_b3 24) .nil .nil))) (.node (ho_13_0 P) (.node (ho_21_2 P) (.node (ho_b3 4) (.node (ho_b3 36) .nil .nil) .nil) (.node (ho_b3 20) .nil .nil)) (.node (ho_29_3 P) (.node (ho_b3 12) (.node (ho_77_5 P) .nil .nil) .nil) (.node (ho_b3 28) .nil .nil))))) (.node (boot_o_2 P) (.node (boot_o_4 P) (.node (boot_o_8 P) (.node (ho_16_2 P) (.node (ho_32_3 P) (.node (ho_b3 31) .nil .nil) .nil) (.node (ho_b3 15) .nil .nil)) (.node (ho_24_2 P) (.node (ho_b3 7) (.node (ho_72_5 P) .nil .nil) .nil) (.node (ho_b3 23) .nil .nil))) (.node (ho_12_5 P) (.node (ho_20_2 P) (.node (ho_b3 3) (.node (ho_b3 35) .nil .nil) .nil) (.node (ho_b3 19) .nil .nil)) (.node (ho_28_3 P) (.node (ho_b3 11) (.node (ho_76_5 P) .nil .nil) .nil) (.node (ho_b3 27) .nil .nil)))) (.node (boot_o_6 P) (.node (boot_o_10 P) (.node (ho_18_2 P) (.node (ho_b3 1) (.node (ho_b3 33) .nil .nil) .nil) (.node (ho_b3 17) .nil .nil)) (.node (ho_26_3 P) (.node (ho_b3 9) (.node (ho_74_5 P) .nil .nil) .nil) (.node (ho_b3 25) .nil .nil))) (.node (ho_14_0 P) (.node (ho_22_2 P) (.node (ho_b3 5) (.node (ho_b3 37) .nil .nil) .nil) (.node (ho_b3 21) .nil .nil)) (.node (ho_30_3 P) (.node (ho_b3 13) (.node (ho_78_5 P) .nil .nil) .nil) (.node (ho_b3 29) .nil .nil))))))
noncomputable def st_6 (w : World) (os : OsState) : SharedT := ⟨tr_6 w.params, 79, lf, #[], boot_drawn, 2217, os⟩
noncomputable def ps_6 : Pos := ⟨11, 0, 11, 8⟩
noncomputable def tr_7 (P : Params) : BT := (.node (boot_o_0 P) (.node (boot_o_1 P) (.node (ho_3_7 P) (.node (boot_o_7 P) (.node (ho_15_2 P) (.node (ho_31_3 P) (.node (ho_b3 30) .nil .nil) .nil) (.node (ho_b3 14) .nil .nil)) (.node (ho_23_2 P) (.node (ho_b3 6) (.node (ho_b3 38) .nil .nil) .nil) (.node (ho_b3 22) .nil .nil))) (.node (ho_11_0 P) (.node (ho_19_2 P) (.node (ho_b3 2) (.node (ho_b3 34) .nil .nil) .nil) (.node (ho_b3 18) .nil .nil)) (.node (ho_27_3 P) (.node (ho_b3 10) (.node (ho_75_5 P) .nil .nil) .nil) (.node (ho_b3 26) .nil .nil)))) (.node (boot_o_5 P) (.node (boot_o_9 P) (.node (ho_17_2 P) (.node (ho_b3 0) (.node (ho_b3 32) .nil .nil) .nil) (.node (ho_b3 16) .nil .nil)) (.node (ho_25_2 P) (.node (ho_b3 8) (.node (ho_73_5 P) .nil .nil) .nil) (.node (ho_b3 24) .nil .nil))) (.node (ho_13_0 P) (.node (ho_21_2 P) (.node (ho_b3 4) (.node (ho_b3 36) .nil .nil) .nil) (.node (ho_b3 20) .nil .nil)) (.node (ho_29_3 P) (.node (ho_b3 12) (.node (ho_77_5 P) .nil .nil) .nil) (.node (ho_b3 28) .nil .nil))))) (.node (boot_o_2 P) (.node (boot_o_4 P) (.node (boot_o_8 P) (.node (ho_16_2 P) (.node (ho_32_3 P) (.node (ho_b3 31) .nil .nil) .nil) (.node (ho_b3 15) .nil .nil)) (.node (ho_24_2 P) (.node (ho_b3 7) (.node (ho_72_5 P) .nil .nil) .nil) (.node (ho_b3 23) .nil .nil))) (.node (ho_12_5 P) (.node (ho_20_2 P) (.node (ho_b3 3) (.node (ho_b3 35) .nil .nil) .nil) (.node (ho_b3 19) .nil .nil)) (.node (ho_28_3 P) (.node (ho_b3 11) (.node (ho_76_5 P) .nil .nil) .nil) (.node (ho_b3 27) .nil .nil)))) (.node (boot_o_6 P) (.node (boot_o_10 P) (.node (ho_18_2 P) (.node (ho_b3 1) (.node (ho_b3 33) .nil .nil) .nil) (.node (ho_b3 17) .nil .nil)) (.node (ho_26_3 P) (.node (ho_b3 9) (.node (ho_74_5 P) .nil .nil) .nil) (.node (ho_b3 25) .nil .nil))) (.node (ho_14_0 P) (.node (ho_22_2 P) (.node (ho_b3 5) (.node (ho_b3 37) .nil .nil) .nil) (.node (ho_b3 21) .nil .nil)) (.node (ho_30_3 P) (.node (ho_b3 13) (.node (ho_78_5 P) .nil .nil) .nil) (.node (ho_b3 29) .nil .nil))))))
noncomputable def st_7 (w : World) (os : OsState) : SharedT := ⟨tr_7 w.params, 79, lf, #[], boot_drawn, 2219, os⟩
noncomputable def ps_7 : Pos := ⟨12, 0, 12, 15⟩
noncomputable def tr_8 (P : Params) : BT := (.node (boot_o_0 P) (.node (boot_o_1 P) (.node (ho_3_8 P) (.node (boot_o_7 P) (.node (ho_15_2 P) (.node (ho_31_3 P) (.node (ho_b3 30) .nil .nil) .nil) (.node (ho_b3 14) (.node (ho_79_8 P) .nil .nil) .nil)) (.node (ho_23_2 P) (.node (ho_b3 6) (.node (ho_b3 38) .nil .nil) .nil) (.node (ho_b3 22) .nil .nil))) (.node (ho_11_0 P) (.node (ho_19_2 P) (.node (ho_b3 2) (.node (ho_b3 34) .nil .nil) .nil) (.node (ho_b3 18) (.node (ho_83_8 P) .nil .nil) .nil)) (.node (ho_27_3 P) (.node (ho_b3 10) (.node (ho_75_5 P) .nil .nil) .nil) (.node (ho_b3 26) .nil .nil)))) (.node (boot_o_5 P) (.node (boot_o_9 P) (.node (ho_17_2 P) (.node (ho_b3 0) (.node (ho_b3 32) .nil .nil) .nil) (.node (ho_b3 16) (.node (ho_81_8 P) .nil .nil) .nil)) (.node (ho_25_2 P) (.node (ho_b3 8) (.node (ho_73_5 P) .nil .nil) .nil) (.node (ho_b3 24) .nil .nil))) (.node (ho_13_0 P) (.node (ho_21_2 P) (.node (ho_b3 4) (.node (ho_b3 36) .nil .nil) .nil) (.node (ho_b3 20) (.node (ho_85_8 P) .nil .nil) .nil)) (.node (ho_29_3 P) (.node (ho_b3 12) (.node (ho_77_5 P) .nil .nil) .nil) (.node (ho_b3 28) .nil .nil))))) (.node (boot_o_2 P) (.node (boot_o_4 P) (.node (boot_o_8 P) (.node (ho_16_2 P) (.node (ho_32_3 P) (.node (ho_b3 31) .nil .nil) .nil) (.node (ho_b3 15) (.node (ho_80_8 P) .nil .nil) .nil)) (.node (ho_24_2 P) (.node (ho_b3 7) (.node (ho_72_5 P) .nil .nil) .nil) (.node (ho_b3 23) .nil .nil))) (.node (ho_12_8 P) (.node (ho_20_2 P) (.node (ho_b3 3) (.node (ho_b3 35) .nil .nil) .nil) (.node (ho_b3 19) (.node (ho_84_8 P) .nil .nil) .nil)) (.node (ho_28_3 P) (.node (ho_b3 11) (.node (ho_76_5 P) .nil .nil) .nil) (.node (ho_b3 27) .nil .nil)))) (.node (boot_o_6 P) (.node (boot_o_10 P) (.node (ho_18_2 P) (.node (ho_b3 1) (.node (ho_b3 33) .nil .nil) .nil) (.node (ho_b3 17) (.node (ho_82_8 P) .nil .nil) .nil)) (.node (ho_26_3 P) (.node (ho_b3 9) (.node (ho_74_5 P) .nil .nil) .nil) (.node (ho_b3 25) .nil .nil))) (.node (ho_14_0 P) (.node (ho_22_2 P) (.node (ho_b3 5) (.node (ho_b3 37) .nil .nil) .nil) (.node (ho_b3 21) .nil .nil)) (.node (ho_30_3 P) (.node (ho_b3 13) (.node (ho_78_5 P) .nil .nil) .nil) (.node (ho_b3 29) .nil .nil))))))
noncomputable def st_8 (w : World) (os : OsState) : SharedT := ⟨tr_8 w.params, 86, lf, #[], boot_drawn, 2231, os⟩
noncomputable def ps_8 : Pos := ⟨13, 0, 40, 15⟩
noncomputable def tr_9 (P : Params) : BT := (.node (boot_o_0 P) (.node (boot_o_1 P) (.node (ho_3_9 P) (.node (boot_o_7 P) (.node (ho_15_2 P) (.node (ho_31_3 P) (.node (ho_b3 30) .nil .nil) .nil) (.node (ho_b3 14) (.node (ho_79_8 P) .nil .nil) .nil)) (.node (ho_23_2 P) (.node (ho_b3 6) (.node (ho_b3 38) .nil .nil) .nil) (.node (ho_b3 22) .nil .nil))) (.node (ho_11_0 P) (.node (ho_19_2 P) (.node (ho_b3 2) (.node (ho_b3 34) .nil .nil) .nil) (.node (ho_b3 18) (.node (ho_83_8 P) .nil .nil) .nil)) (.node (ho_27_3 P) (.node (ho_b3 10) (.node (ho_75_5 P) .nil .nil) .nil) (.node (ho_b3 26) .nil .nil)))) (.node (boot_o_5 P) (.node (boot_o_9 P) (.node (ho_17_2 P) (.node (ho_b3 0) (.node (ho_b3 32) .nil .nil) .nil) (.node (ho_b3 16) (.node (ho_81_8 P) .nil .nil) .nil)) (.node (ho_25_2 P) (.node (ho_b3 8) (.node (ho_73_5 P) .nil .nil) .nil) (.node (ho_b3 24) .nil .nil))) (.node (ho_13_0 P) (.node (ho_21_2 P) (.node (ho_b3 4) (.node (ho_b3 36) .nil .nil) .nil) (.node (ho_b3 20) (.node (ho_85_8 P) .nil .nil) .nil)) (.node (ho_29_3 P) (.node (ho_b3 12) (.node (ho_77_5 P) .nil .nil) .nil) (.node (ho_b3 28) .nil .nil))))) (.node (boot_o_2 P) (.node (boot_o_4 P) (.node (boot_o_8 P) (.node (ho_16_2 P) (.node (ho_32_3 P) (.node (ho_b3 31) .nil .nil) .nil) (.node (ho_b3 15) (.node (ho_80_8 P) .nil .nil) .nil)) (.node (ho_24_2 P) (.node (ho_b3 7) (.node (ho_72_5 P) .nil .nil) .nil) (.node (ho_b3 23) .nil .nil))) (.node (ho_12_8 P) (.node (ho_20_2 P) (.node (ho_b3 3) (.node (ho_b3 35) .nil .nil) .nil) (.node (ho_b3 19) (.node (ho_84_8 P) .nil .nil) .nil)) (.node (ho_28_3 P) (.node (ho_b3 11) (.node (ho_76_5 P) .nil .nil) .nil) (.node (ho_b3 27) .nil .nil)))) (.node (boot_o_6 P) (.node (boot_o_10 P) (.node (ho_18_2 P) (.node (ho_b3 1) (.node (ho_b3 33) .nil .nil) .nil) (.node (ho_b3 17) (.node (ho_82_8 P) .nil .nil) .nil)) (.node (ho_26_3 P) (.node (ho_b3 9) (.node (ho_74_5 P) .nil .nil) .nil) (.node (ho_b3 25) .nil .nil))) (.node (ho_14_0 P) (.node (ho_22_2 P) (.node (ho_b3 5) (.node (ho_b3 37) .nil .nil) .nil) (.node (ho_b3 21) .nil .nil)) (.node (ho_30_3 P) (.node (ho_b3 13) (.node (ho_78_5 P) .nil .nil) .nil) (.node (ho_b3 29) .nil .nil))))))
noncomputable def st_9 (w : World) (os : OsState) : SharedT := ⟨tr_9 w.params, 86, lf, #[], boot_drawn, 2233, os⟩
noncomputable def ps_9 : Pos := ⟨41, 0, 41, 8⟩
noncomputable def tr_10 (P : Params) : BT := (.node (boot_o_0 P) (.node (boot_o_1 P) (.node (ho_3_10 P) (.node (boot_o_7 P) (.node (ho_15_2 P) (.node (ho_31_3 P) (.node (ho_b3 30) .nil .nil) .nil) (.node (ho_b3 14) (.node (ho_79_8 P) .nil .nil) .nil)) (.node (ho_23_2 P) (.node (ho_b3 6) (.node (ho_b3 38) .nil .nil) .nil) (.node (ho_b3 22) .nil .nil))) (.node (ho_11_0 P) (.node (ho_19_2 P) (.node (ho_b3 2) (.node (ho_b3 34) .nil .nil) .nil) (.node (ho_b3 18) (.node (ho_83_8 P) .nil .nil) .nil)) (.node (ho_27_3 P) (.node (ho_b3 10) (.node (ho_75_5 P) .nil .nil) .nil) (.node (ho_b3 26) .nil .nil)))) (.node (boot_o_5 P) (.node (boot_o_9 P) (.node (ho_17_2 P) (.node (ho_b3 0) (.node (ho_b3 32) .nil .nil) .nil) (.node (ho_b3 16) (.node (ho_81_8 P) .nil .nil) .nil)) (.node (ho_25_2 P) (.node (ho_b3 8) (.node (ho_73_5 P) .nil .nil) .nil) (.node (ho_b3 24) .nil .nil))) (.node (ho_13_0 P) (.node (ho_21_2 P) (.node (ho_b3 4) (.node (ho_b3 36) .nil .nil) .nil) (.node (ho_b3 20) (.node (ho_85_8 P) .nil .nil) .nil)) (.node (ho_29_3 P) (.node (ho_b3 12) (.node (ho_77_5 P) .nil .nil) .nil) (.node (ho_b3 28) .nil .nil))))) (.node (boot_o_2 P) (.node (boot_o_4 P) (.node (boot_o_8 P) (.node (ho_16_2 P) (.node (ho_32_3 P) (.node (ho_b3 31) .nil .nil) .nil) (.node (ho_b3 15) (.node (ho_80_8 P) .nil .nil) .nil)) (.node (ho_24_2 P) (.node (ho_b3 7) (.node (ho_72_5 P) .nil .nil) .nil) (.node (ho_b3 23) .nil .nil))) (.node (ho_12_8 P) (.node (ho_20_2 P) (.node (ho_b3 3) (.node (ho_b3 35) .nil .nil) .nil) (.node (ho_b3 19) (.node (ho_84_8 P) .nil .nil) .nil)) (.node (ho_28_3 P) (.node (ho_b3 11) (.node (ho_76_5 P) .nil .nil) .nil) (.node (ho_b3 27) .nil .nil)))) (.node (boot_o_6 P) (.node (boot_o_10 P) (.node (ho_18_2 P) (.node (ho_b3 1) (.node (ho_b3 33) .nil .nil) .nil) (.node (ho_b3 17) (.node (ho_82_8 P) .nil .nil) .nil)) (.node (ho_26_3 P) (.node (ho_b3 9) (.node (ho_74_5 P) .nil .nil) .nil) (.node (ho_b3 25) .nil .nil))) (.node (ho_14_0 P) (.node (ho_22_2 P) (.node (ho_b3 5) (.node (ho_b3 37) .nil .nil) .nil) (.node (ho_b3 21) .nil .nil)) (.node (ho_30_3 P) (.node (ho_b3 13) (.node (ho_78_5 P) .nil .nil) .nil) (.node (ho_b3 29) .nil .nil))))))
noncomputable def st_10 (w : World) (os : OsState) : SharedT := ⟨tr_10 w.params, 86, lf, #[], boot_drawn, 2235, os⟩
noncomputable def ps_10 : Pos := ⟨42, 0, 42, 8⟩
noncomputable def tr_11 (P : Params) : BT := (.node (boot_o_0 P) (.node (boot_o_1 P) (.node (ho_3_11 P) (.node (boot_o_7 P) (.node (ho_15_2 P) (.node (ho_31_3 P) (.node (ho_b3 30) .nil .nil) .nil) (.node (ho_b3 14) (.node (ho_79_8 P) .nil .nil) .nil)) (.node (ho_23_2 P) (.node (ho_b3 6) (.node (ho_b3 38) .nil .nil) .nil) (.node (ho_b3 22) (.node (ho_87_11 P) .nil .nil) .nil))) (.node (ho_11_0 P) (.node (ho_19_2 P) (.node (ho_b3 2) (.node (ho_b3 34) .nil .nil) .nil) (.node (ho_b3 18) (.node (ho_83_8 P) .nil .nil) .nil)) (.node (ho_27_3 P) (.node (ho_b3 10) (.node (ho_75_5 P) .nil .nil) .nil) (.node (ho_b3 26) (.node (ho_91_11 P) .nil .nil) .nil)))) (.node (boot_o_5 P) (.node (boot_o_9 P) (.node (ho_17_2 P) (.node (ho_b3 0) (.node (ho_b3 32) .nil .nil) .nil) (.node (ho_b3 16) (.node (ho_81_8 P) .nil .nil) .nil)) (.node (ho_25_2 P) (.node (ho_b3 8) (.node (ho_73_5 P) .nil .nil) .nil) (.node (ho_b3 24) (.node (ho_89_11 P) .nil .nil) .nil))) (.node (ho_13_0 P) (.node (ho_21_2 P) (.node (ho_b3 4) (.node (ho_b3 36) .nil .nil) .nil) (.node (ho_b3 20) (.node (ho_85_8 P) .nil .nil) .nil)) (.node (ho_29_3 P) (.node (ho_b3 12) (.node (ho_77_5 P) .nil .nil) .nil) (.node (ho_b3 28) .nil .nil))))) (.node (boot_o_2 P) (.node (boot_o_4 P) (.node (boot_o_8 P) (.node (ho_16_2 P) (.node (ho_32_3 P) (.node (ho_b3 31) .nil .nil) .nil) (.node (ho_b3 15) (.node (ho_80_8 P) .nil .nil) .nil)) (.node (ho_24_2 P) (.node (ho_b3 7) (.node (ho_72_5 P) .nil .nil) .nil) (.node (ho_b3 23) (.node (ho_88_11 P) .nil .nil) .nil))) (.node (ho_12_11 P) (.node (ho_20_2 P) (.node (ho_b3 3) (.node (ho_b3 35) .nil .nil) .nil) (.node (ho_b3 19) (.node (ho_84_8 P) .nil .nil) .nil)) (.node (ho_28_3 P) (.node (ho_b3 11) (.node (ho_76_5 P) .nil .nil) .nil) (.node (ho_b3 27) (.node (ho_92_11 P) .nil .nil) .nil)))) (.node (boot_o_6 P) (.node (boot_o_10 P) (.node (ho_18_2 P) (.node (ho_b3 1) (.node (ho_b3 33) .nil .nil) .nil) (.node (ho_b3 17) (.node (ho_82_8 P) .nil .nil) .nil)) (.node (ho_26_3 P) (.node (ho_b3 9) (.node (ho_74_5 P) .nil .nil) .nil) (.node (ho_b3 25) (.node (ho_90_11 P) .nil .nil) .nil))) (.node (ho_14_0 P) (.node (ho_22_2 P) (.node (ho_b3 5) (.node (ho_b3 37) .nil .nil) .nil) (.node (ho_b3 21) (.node (ho_86_11 P) .nil .nil) .nil)) (.node (ho_30_3 P) (.node (ho_b3 13) (.node (ho_78_5 P) .nil .nil) .nil) (.node (ho_b3 29) .nil .nil))))))
noncomputable def st_11 (w : World) (os : OsState) : SharedT := ⟨tr_11 w.params, 93, lf, #[], boot_drawn, 2244, os⟩
noncomputable def ps_11 : Pos := ⟨43, 0, 54, 32⟩
noncomputable def tr_12 (P : Params) : BT := (.node (boot_o_0 P) (.node (boot_o_1 P) (.node (ho_3_12 P) (.node (boot_o_7 P) (.node (ho_15_2 P) (.node (ho_31_3 P) (.node (ho_b3 30) .nil .nil) (.node (ho_95_12 P) .nil .nil)) (.node (ho_b3 14) (.node (ho_79_8 P) .nil .nil) .nil)) (.node (ho_23_2 P) (.node (ho_b3 6) (.node (ho_b3 38) .nil .nil) .nil) (.node (ho_b3 22) (.node (ho_87_11 P) .nil .nil) .nil))) (.node (ho_11_0 P) (.node (ho_19_2 P) (.node (ho_b3 2) (.node (ho_b3 34) .nil .nil) (.node (ho_99_12 P) .nil .nil)) (.node (ho_b3 18) (.node (ho_83_8 P) .nil .nil) .nil)) (.node (ho_27_3 P) (.node (ho_b3 10) (.node (ho_75_5 P) .nil .nil) .nil) (.node (ho_b3 26) (.node (ho_91_11 P) .nil .nil) .nil)))) (.node (boot_o_5 P) (.node (boot_o_9 P) (.node (ho_17_2 P) (.node (ho_b3 0) (.node (ho_b3 32) .nil .nil) (.node (ho_97_12 P) .nil .nil)) (.node (ho_b3 16) (.node (ho_81_8 P) .nil .nil) .nil)) (.node (ho_25_2 P) (.node (ho_b3 8) (.node (ho_73_5 P) .nil .nil) .nil) (.node (ho_b3 24) (.node (ho_89_11 P) .nil .nil) .nil))) (.node (ho_13_0 P) (.node (ho_21_2 P) (.node (ho_b3 4) (.node (ho_b3 36) .nil .nil) .nil) (.node (ho_b3 20) (.node (ho_85_8 P) .nil .nil) .nil)) (.node (ho_29_3 P) (.node (ho_b3 12) (.node (ho_77_5 P) .nil .nil) .nil) (.node (ho_b3 28) (.node (ho_93_12 P) .nil .nil) .nil))))) (.node (boot_o_2 P) (.node (boot_o_4 P) (.node (boot_o_8 P) (.node (ho_16_2 P) (.node (ho_32_3 P) (.node (ho_b3 31) .nil .nil) (.node (ho_96_12 P) .nil .nil)) (.node (ho_b3 15) (.node (ho_80_8 P) .nil .nil) .nil)) (.node (ho_24_2 P) (.node (ho_b3 7) (.node (ho_72_5 P) .nil .nil) .nil) (.node (ho_b3 23) (.node (ho_88_11 P) .nil .nil) .nil))) (.node (ho_12_12 P) (.node (ho_20_2 P) (.node (ho_b3 3) (.node (ho_b3 35) .nil .nil) .nil) (.node (ho_b3 19) (.node (ho_84_8 P) .nil .nil) .nil)) (.node (ho_28_3 P) (.node (ho_b3 11) (.node (ho_76_5 P) .nil .nil) .nil) (.node (ho_b3 27) (.node (ho_92_11 P) .nil .nil) .nil)))) (.node (boot_o_6 P) (.node (boot_o_10 P) (.node (ho_18_2 P) (.node (ho_b3 1) (.node (ho_b3 33) .nil .nil) (.node (ho_98_12 P) .nil .nil)) (.node (ho_b3 17) (.node (ho_82_8 P) .nil .nil) .nil)) (.node (ho_26_3 P) (.node (ho_b3 9) (.node (ho_74_5 P) .nil .nil) .nil) (.node (ho_b3 25) (.node (ho_90_11 P) .nil .nil) .nil))) (.node (ho_14_0 P) (.node (ho_22_2 P) (.node (ho_b3 5) (.node (ho_b3 37) .nil .nil) .nil) (.node (ho_b3 21) (.node (ho_86_11 P) .nil .nil) .nil)) (.node (ho_30_3 P) (.node (ho_b3 13) (.node (ho_78_5 P) .nil .nil) .nil) (.node (ho_b3 29) (.node (ho_94_12 P) .nil .nil) .nil))))))
noncomputable def st_12 (w : World) (os : OsState) : SharedT := ⟨tr_12 w.params, 100, lf, #[], boot_drawn, 2254, os⟩
noncomputable def ps_12 : Pos := ⟨55, 0, 64, 27⟩
noncomputable def tr_13 (P : Params) : BT := (.node (boot_o_0 P) (.node (boot_o_1 P) (.node (ho_3_13 P) (.node (boot_o_7 P) (.node (ho_15_2 P) (.node (ho_31_3 P) (.node (ho_b3 30) .nil .nil) (.node (ho_95_12 P) .nil .nil)) (.node (ho_b3 14) (.node (ho_79_8 P) .nil .nil) .nil)) (.node (ho_23_2 P) (.node (ho_b3 6) (.node (ho_b3 38) .nil .nil) .nil) (.node (ho_b3 22) (.node (ho_87_11 P) .nil .nil) .nil))) (.node (ho_11_0 P) (.node (ho_19_2 P) (.node (ho_b3 2) (.node (ho_b3 34) .nil .nil) (.node (ho_99_12 P) .nil .nil)) (.node (ho_b3 18) (.node (ho_83_8 P) .nil .nil) .nil)) (.node (ho_27_3 P) (.node (ho_b3 10) (.node (ho_75_5 P) .nil .nil) .nil) (.node (ho_b3 26) (.node (ho_91_11 P) .nil .nil) .nil)))) (.node (boot_o_5 P) (.node (boot_o_9 P) (.node (ho_17_2 P) (.node (ho_b3 0) (.node (ho_b3 32) .nil .nil) (.node (ho_97_12 P) .nil .nil)) (.node (ho_b3 16) (.node (ho_81_8 P) .nil .nil) .nil)) (.node (ho_25_2 P) (.node (ho_b3 8) (.node (ho_73_5 P) .nil .nil) .nil) (.node (ho_b3 24) (.node (ho_89_11 P) .nil .nil) .nil))) (.node (ho_13_0 P) (.node (ho_21_2 P) (.node (ho_b3 4) (.node (ho_b3 36) .nil .nil) .nil) (.node (ho_b3 20) (.node (ho_85_8 P) .nil .nil) .nil)) (.node (ho_29_3 P) (.node (ho_b3 12) (.node (ho_77_5 P) .nil .nil) .nil) (.node (ho_b3 28) (.node (ho_93_12 P) .nil .nil) .nil))))) (.node (boot_o_2 P) (.node (boot_o_4 P) (.node (boot_o_8 P) (.node (ho_16_2 P) (.node (ho_32_3 P) (.node (ho_b3 31) .nil .nil) (.node (ho_96_12 P) .nil .nil)) (.node (ho_b3 15) (.node (ho_80_8 P) .nil .nil) .nil)) (.node (ho_24_2 P) (.node (ho_b3 7) (.node (ho_72_5 P) .nil .nil) .nil) (.node (ho_b3 23) (.node (ho_88_11 P) .nil .nil) .nil))) (.node (ho_12_12 P) (.node (ho_20_2 P) (.node (ho_b3 3) (.node (ho_b3 35) .nil .nil) .nil) (.node (ho_b3 19) (.node (ho_84_8 P) .nil .nil) .nil)) (.node (ho_28_3 P) (.node (ho_b3 11) (.node (ho_76_5 P) .nil .nil) .nil) (.node (ho_b3 27) (.node (ho_92_11 P) .nil .nil) .nil)))) (.node (boot_o_6 P) (.node (boot_o_10 P) (.node (ho_18_2 P) (.node (ho_b3 1) (.node (ho_b3 33) .nil .nil) (.node (ho_98_12 P) .nil .nil)) (.node (ho_b3 17) (.node (ho_82_8 P) .nil .nil) .nil)) (.node (ho_26_3 P) (.node (ho_b3 9) (.node (ho_74_5 P) .nil .nil) .nil) (.node (ho_b3 25) (.node (ho_90_11 P) .nil .nil) .nil))) (.node (ho_14_0 P) (.node (ho_22_2 P) (.node (ho_b3 5) (.node (ho_b3 37) .nil .nil) .nil) (.node (ho_b3 21) (.node (ho_86_11 P) .nil .nil) .nil)) (.node (ho_30_3 P) (.node (ho_b3 13) (.node (ho_78_5 P) .nil .nil) .nil) (.node (ho_b3 29) (.node (ho_94_12 P) .nil .nil) .nil))))))
noncomputable def st_13 (w : World) (os : OsState) : SharedT := ⟨tr_13 w.params, 100, lf, #[], boot_drawn, 2256, os⟩
noncomputable def ps_13 : Pos := ⟨65, 0, 65, 8⟩
noncomputable def tr_14 (P : Params) : BT := (.node (boot_o_0 P) (.node (boot_o_1 P) (.node (ho_3_14 P) (.node (boot_o_7 P) (.node (ho_15_2 P) (.node (ho_31_3 P) (.node (ho_b3 30) .nil .nil) (.node (ho_95_12 P) .nil .nil)) (.node (ho_b3 14) (.node (ho_79_8 P) .nil .nil) .nil)) (.node (ho_23_2 P) (.node (ho_b3 6) (.node (ho_b3 38) .nil .nil) (.node (ho_103_14 P) .nil .nil)) (.node (ho_b3 22) (.node (ho_87_11 P) .nil .nil) .nil))) (.node (ho_11_0 P) (.node (ho_19_2 P) (.node (ho_b3 2) (.node (ho_b3 34) .nil .nil) (.node (ho_99_12 P) .nil .nil)) (.node (ho_b3 18) (.node (ho_83_8 P) .nil .nil) .nil)) (.node (ho_27_3 P) (.node (ho_b3 10) (.node (ho_75_5 P) .nil .nil) .nil) (.node (ho_b3 26) (.node (ho_91_11 P) .nil .nil) .nil)))) (.node (boot_o_5 P) (.node (boot_o_9 P) (.node (ho_17_2 P) (.node (ho_b3 0) (.node (ho_b3 32) .nil .nil) (.node (ho_97_12 P) .nil .nil)) (.node (ho_b3 16) (.node (ho_81_8 P) .nil .nil) .nil)) (.node (ho_25_2 P) (.node (ho_b3 8) (.node (ho_73_5 P) .nil .nil) (.node (ho_105_14 P) .nil .nil)) (.node (ho_b3 24) (.node (ho_89_11 P) .nil .nil) .nil))) (.node (ho_13_0 P) (.node (ho_21_2 P) (.node (ho_b3 4) (.node (ho_b3 36) .nil .nil) (.node (ho_101_14 P) .nil .nil)) (.node (ho_b3 20) (.node (ho_85_8 P) .nil .nil) .nil)) (.node (ho_29_3 P) (.node (ho_b3 12) (.node (ho_77_5 P) .nil .nil) .nil) (.node (ho_b3 28) (.node (ho_93_12 P) .nil .nil) .nil))))) (.node (boot_o_2 P) (.node (boot_o_4 P) (.node (boot_o_8 P) (.node (ho_16_2 P) (.node (ho_32_3 P) (.node (ho_b3 31) .nil .nil) (.node (ho_96_12 P) .nil .nil)) (.node (ho_b3 15) (.node (ho_80_8 P) .nil .nil) .nil)) (.node (ho_24_2 P) (.node (ho_b3 7) (.node (ho_72_5 P) .nil .nil) (.node (ho_104_14 P) .nil .nil)) (.node (ho_b3 23) (.node (ho_88_11 P) .nil .nil) .nil))) (.node (ho_12_14 P) (.node (ho_20_2 P) (.node (ho_b3 3) (.node (ho_b3 35) .nil .nil) (.node (ho_100_14 P) .nil .nil)) (.node (ho_b3 19) (.node (ho_84_8 P) .nil .nil) .nil)) (.node (ho_28_3 P) (.node (ho_b3 11) (.node (ho_76_5 P) .nil .nil) .nil) (.node (ho_b3 27) (.node (ho_92_11 P) .nil .nil) .nil)))) (.node (boot_o_6 P) (.node (boot_o_10 P) (.node (ho_18_2 P) (.node (ho_b3 1) (.node (ho_b3 33) .nil .nil) (.node (ho_98_12 P) .nil .nil)) (.node (ho_b3 17) (.node (ho_82_8 P) .nil .nil) .nil)) (.node (ho_26_3 P) (.node (ho_b3 9) (.node (ho_74_5 P) .nil .nil) (.node (ho_106_14 P) .nil .nil)) (.node (ho_b3 25) (.node (ho_90_11 P) .nil .nil) .nil))) (.node (ho_14_0 P) (.node (ho_22_2 P) (.node (ho_b3 5) (.node (ho_b3 37) .nil .nil) (.node (ho_102_14 P) .nil .nil)) (.node (ho_b3 21) (.node (ho_86_11 P) .nil .nil) .nil)) (.node (ho_30_3 P) (.node (ho_b3 13) (.node (ho_78_5 P) .nil .nil) .nil) (.node (ho_b3 29) (.node (ho_94_12 P) .nil .nil) .nil))))))
noncomputable def st_14 (w : World) (os : OsState) : SharedT := ⟨tr_14 w.params, 107, lf, #[], boot_drawn, 2265, os⟩
noncomputable def ps_14 : Pos := ⟨66, 0, 70, 54⟩
noncomputable def tr_15 (P : Params) : BT := (.node (boot_o_0 P) (.node (boot_o_1 P) (.node (ho_3_15 P) (.node (boot_o_7 P) (.node (ho_15_2 P) (.node (ho_31_3 P) (.node (ho_b3 30) .nil .nil) (.node (ho_95_12 P) .nil .nil)) (.node (ho_b3 14) (.node (ho_79_8 P) .nil .nil) (.node (ho_111_15 P) .nil .nil))) (.node (ho_23_2 P) (.node (ho_b3 6) (.node (ho_b3 38) .nil .nil) (.node (ho_103_14 P) .nil .nil)) (.node (ho_b3 22) (.node (ho_87_11 P) .nil .nil) .nil))) (.node (ho_11_0 P) (.node (ho_19_2 P) (.node (ho_b3 2) (.node (ho_b3 34) .nil .nil) (.node (ho_99_12 P) .nil .nil)) (.node (ho_b3 18) (.node (ho_83_8 P) .nil .nil) .nil)) (.node (ho_27_3 P) (.node (ho_b3 10) (.node (ho_75_5 P) .nil .nil) (.node (ho_107_15 P) .nil .nil)) (.node (ho_b3 26) (.node (ho_91_11 P) .nil .nil) .nil)))) (.node (boot_o_5 P) (.node (boot_o_9 P) (.node (ho_17_2 P) (.node (ho_b3 0) (.node (ho_b3 32) .nil .nil) (.node (ho_97_12 P) .nil .nil)) (.node (ho_b3 16) (.node (ho_81_8 P) .nil .nil) (.node (ho_113_15 P) .nil .nil))) (.node (ho_25_2 P) (.node (ho_b3 8) (.node (ho_73_5 P) .nil .nil) (.node (ho_105_14 P) .nil .nil)) (.node (ho_b3 24) (.node (ho_89_11 P) .nil .nil) .nil))) (.node (ho_13_0 P) (.node (ho_21_2 P) (.node (ho_b3 4) (.node (ho_b3 36) .nil .nil) (.node (ho_101_14 P) .nil .nil)) (.node (ho_b3 20) (.node (ho_85_8 P) .nil .nil) .nil)) (.node (ho_29_3 P) (.node (ho_b3 12) (.node (ho_77_5 P) .nil .nil) (.node (ho_109_15 P) .nil .nil)) (.node (ho_b3 28) (.node (ho_93_12 P) .nil .nil) .nil))))) (.node (boot_o_2 P) (.node (boot_o_4 P) (.node (boot_o_8 P) (.node (ho_16_2 P) (.node (ho_32_3 P) (.node (ho_b3 31) .nil .nil) (.node (ho_96_12 P) .nil .nil)) (.node (ho_b3 15) (.node (ho_80_8 P) .nil .nil) (.node (ho_112_15 P) .nil .nil))) (.node (ho_24_2 P) (.node (ho_b3 7) (.node (ho_72_5 P) .nil .nil) (.node (ho_104_14 P) .nil .nil)) (.node (ho_b3 23) (.node (ho_88_11 P) .nil .nil) .nil))) (.node (ho_12_15 P) (.node (ho_20_2 P) (.node (ho_b3 3) (.node (ho_b3 35) .nil .nil) (.node (ho_100_14 P) .nil .nil)) (.node (ho_b3 19) (.node (ho_84_8 P) .nil .nil) .nil)) (.node (ho_28_3 P) (.node (ho_b3 11) (.node (ho_76_5 P) .nil .nil) (.node (ho_108_15 P) .nil .nil)) (.node (ho_b3 27) (.node (ho_92_11 P) .nil .nil) .nil)))) (.node (boot_o_6 P) (.node (boot_o_10 P) (.node (ho_18_2 P) (.node (ho_b3 1) (.node (ho_b3 33) .nil .nil) (.node (ho_98_12 P) .nil .nil)) (.node (ho_b3 17) (.node (ho_82_8 P) .nil .nil) .nil)) (.node (ho_26_3 P) (.node (ho_b3 9) (.node (ho_74_5 P) .nil .nil) (.node (ho_106_14 P) .nil .nil)) (.node (ho_b3 25) (.node (ho_90_11 P) .nil .nil) .nil))) (.node (ho_14_0 P) (.node (ho_22_2 P) (.node (ho_b3 5) (.node (ho_b3 37) .nil .nil) (.node (ho_102_14 P) .nil .nil)) (.node (ho_b3 21) (.node (ho_86_11 P) .nil .nil) .nil)) (.node (ho_30_3 P) (.node (ho_b3 13) (.node (ho_78_5 P) .nil .nil) (.node (ho_110_15 P) .nil .nil)) (.node (ho_b3 29) (.node (ho_94_12 P) .nil .nil) .nil))))))
noncomputable def st_15 (w : World) (os : OsState) : SharedT := ⟨tr_15 w.params, 114, lf, #[], boot_drawn, 2272, os⟩
noncomputable def ps_15 : Pos := ⟨71, 0, 74, 87⟩
noncomputable def tr_16 (P : Params) : BT := (.node (boot_o_0 P) (.node (boot_o_1 P) (.node (ho_3_16 P) (.node (boot_o_7 P) (.node (ho_15_2 P) (.node (ho_31_3 P) (.node (ho_b3 30) .nil .nil) (.node (ho_95_12 P) .nil .nil)) (.node (ho_b3 14) (.node (ho_79_8 P) .nil .nil) (.node (ho_111_15 P) .nil .nil))) (.node (ho_23_2 P) (.node (ho_b3 6) (.node (ho_b3 38) .nil .nil) (.node (ho_103_14 P) .nil .nil)) (.node (ho_b3 22) (.node (ho_87_11 P) .nil .nil) (.node (ho_119_16 P) .nil .nil)))) (.node (ho_11_0 P) (.node (ho_19_2 P) (.node (ho_b3 2) (.node (ho_b3 34) .nil .nil) (.node (ho_99_12 P) .nil .nil)) (.node (ho_b3 18) (.node (ho_83_8 P) .nil .nil) (.node (ho_115_16 P) .nil .nil))) (.node (ho_27_3 P) (.node (ho_b3 10) (.node (ho_75_5 P) .nil .nil) (.node (ho_107_15 P) .nil .nil)) (.node (ho_b3 26) (.node (ho_91_11 P) .nil .nil) .nil)))) (.node (boot_o_5 P) (.node (boot_o_9 P) (.node (ho_17_2 P) (.node (ho_b3 0) (.node (ho_b3 32) .nil .nil) (.node (ho_97_12 P) .nil .nil)) (.node (ho_b3 16) (.node (ho_81_8 P) .nil .nil) (.node (ho_113_15 P) .nil .nil))) (.node (ho_25_2 P) (.node (ho_b3 8) (.node (ho_73_5 P) .nil .nil) (.node (ho_105_14 P) .nil .nil)) (.node (ho_b3 24) (.node (ho_89_11 P) .nil .nil) .nil))) (.node (ho_13_0 P) (.node (ho_21_2 P) (.node (ho_b3 4) (.node (ho_b3 36) .nil .nil) (.node (ho_101_14 P) .nil .nil)) (.node (ho_b3 20) (.node (ho_85_8 P) .nil .nil) (.node (ho_117_16 P) .nil .nil))) (.node (ho_29_3 P) (.node (ho_b3 12) (.node (ho_77_5 P) .nil .nil) (.node (ho_109_15 P) .nil .nil)) (.node (ho_b3 28) (.node (ho_93_12 P) .nil .nil) .nil))))) (.node (boot_o_2 P) (.node (boot_o_4 P) (.node (boot_o_8 P) (.node (ho_16_2 P) (.node (ho_32_3 P) (.node (ho_b3 31) .nil .nil) (.node (ho_96_12 P) .nil .nil)) (.node (ho_b3 15) (.node (ho_80_8 P) .nil .nil) (.node (ho_112_15 P) .nil .nil))) (.node (ho_24_2 P) (.node (ho_b3 7) (.node (ho_72_5 P) .nil .nil) (.node (ho_104_14 P) .nil .nil)) (.node (ho_b3 23) (.node (ho_88_11 P) .nil .nil) (.node (ho_120_16 P) .nil .nil)))) (.node (ho_12_16 P) (.node (ho_20_2 P) (.node (ho_b3 3) (.node (ho_b3 35) .nil .nil) (.node (ho_100_14 P) .nil .nil)) (.node (ho_b3 19) (.node (ho_84_8 P) .nil .nil) (.node (ho_116_16 P) .nil .nil))) (.node (ho_28_3 P) (.node (ho_b3 11) (.node (ho_76_5 P) .nil .nil) (.node (ho_108_15 P) .nil .nil)) (.node (ho_b3 27) (.node (ho_92_11 P) .nil .nil) .nil)))) (.node (boot_o_6 P) (.node (boot_o_10 P) (.node (ho_18_2 P) (.node (ho_b3 1) (.node (ho_b3 33) .nil .nil) (.node (ho_98_12 P) .nil .nil)) (.node (ho_b3 17) (.node (ho_82_8 P) .nil .nil) (.node (ho_114_16 P) .nil .nil))) (.node (ho_26_3 P) (.node (ho_b3 9) (.node (ho_74_5 P) .nil .nil) (.node (ho_106_14 P) .nil .nil)) (.node (ho_b3 25) (.node (ho_90_11 P) .nil .nil) .nil))) (.node (ho_14_0 P) (.node (ho_22_2 P) (.node (ho_b3 5) (.node (ho_b3 37) .nil .nil) (.node (ho_102_14 P) .nil .nil)) (.node (ho_b3 21) (.node (ho_86_11 P) .nil .nil) (.node (ho_118_16 P) .nil .nil))) (.node (ho_30_3 P) (.node (ho_b3 13) (.node (ho_78_5 P) .nil .nil) (.node (ho_110_15 P) .nil .nil)) (.node (ho_b3 29) (.node (ho_94_12 P) .nil .nil) .nil))))))
noncomputable def st_16 (w : World) (os : OsState) : SharedT := ⟨tr_16 w.params, 121, lf, #[], boot_drawn, 2282, os⟩
noncomputable def ps_16 : Pos := ⟨75, 0, 83, 31⟩
noncomputable def tr_17 (P : Params) : BT := (.node (boot_o_0 P) (.node (boot_o_1 P) (.node (ho_3_17 P) (.node (boot_o_7 P) (.node (ho_15_2 P) (.node (ho_31_3 P) (.node (ho_b3 30) (.node (ho_127_17 P) .nil .nil) .nil) (.node (ho_95_12 P) .nil .nil)) (.node (ho_b3 14) (.node (ho_79_8 P) .nil .nil) (.node (ho_111_15 P) .nil .nil))) (.node (ho_23_2 P) (.node (ho_b3 6) (.node (ho_b3 38) .nil .nil) (.node (ho_103_14 P) .nil .nil)) (.node (ho_b3 22) (.node (ho_87_11 P) .nil .nil) (.node (ho_119_16 P) .nil .nil)))) (.node (ho_11_0 P) (.node (ho_19_2 P) (.node (ho_b3 2) (.node (ho_b3 34) .nil .nil) (.node (ho_99_12 P) .nil .nil)) (.node (ho_b3 18) (.node (ho_83_8 P) .nil .nil) (.node (ho_115_16 P) .nil .nil))) (.node (ho_27_3 P) (.node (ho_b3 10) (.node (ho_75_5 P) .nil .nil) (.node (ho_107_15 P) .nil .nil)) (.node (ho_b3 26) (.node (ho_91_11 P) .nil .nil) (.node (ho_123_17 P) .nil .nil))))) (.node (boot_o_5 P) (.node (boot_o_9 P) (.node (ho_17_2 P) (.node (ho_b3 0) (.node (ho_b3 32) .nil .nil) (.node (ho_97_12 P) .nil .nil)) (.node (ho_b3 16) (.node (ho_81_8 P) .nil .nil) (.node (ho_113_15 P) .nil .nil))) (.node (ho_25_2 P) (.node (ho_b3 8) (.node (ho_73_5 P) .nil .nil) (.node (ho_105_14 P) .nil .nil)) (.node (ho_b3 24) (.node (ho_89_11 P) .nil .nil) (.node (ho_121_17 P) .nil .nil)))) (.node (ho_13_0 P) (.node (ho_21_2 P) (.node (ho_b3 4) (.node (ho_b3 36) .nil .nil) (.node (ho_101_14 P) .nil .nil)) (.node (ho_b3 20) (.node (ho_85_8 P) .nil .nil) (.node (ho_117_16 P) .nil .nil))) (.node (ho_29_3 P) (.node (ho_b3 12) (.node (ho_77_5 P) .nil .nil) (.node (ho_109_15 P) .nil .nil)) (.node (ho_b3 28) (.node (ho_93_12 P) .nil .nil) (.node (ho_125_17 P) .nil .nil)))))) (.node (boot_o_2 P) (.node (boot_o_4 P) (.node (boot_o_8 P) (.node (ho_16_2 P) (.node (ho_32_3 P) (.node (ho_b3 31) .nil .nil) (.node (ho_96_12 P) .nil .nil)) (.node (ho_b3 15) (.node (ho_80_8 P) .nil .nil) (.node (ho_112_15 P) .nil .nil))) (.node (ho_24_2 P) (.node (ho_b3 7) (.node (ho_72_5 P) .nil .nil) (.node (ho_104_14 P) .nil .nil)) (.node (ho_b3 23) (.node (ho_88_11 P) .nil .nil) (.node (ho_120_16 P) .nil .nil)))) (.node (ho_12_17 P) (.node (ho_20_2 P) (.node (ho_b3 3) (.node (ho_b3 35) .nil .nil) (.node (ho_100_14 P) .nil .nil)) (.node (ho_b3 19) (.node (ho_84_8 P) .nil .nil) (.node (ho_116_16 P) .nil .nil))) (.node (ho_28_3 P) (.node (ho_b3 11) (.node (ho_76_5 P) .nil .nil) (.node (ho_108_15 P) .nil .nil)) (.node (ho_b3 27) (.node (ho_92_11 P) .nil .nil) (.node (ho_124_17 P) .nil .nil))))) (.node (boot_o_6 P) (.node (boot_o_10 P) (.node (ho_18_2 P) (.node (ho_b3 1) (.node (ho_b3 33) .nil .nil) (.node (ho_98_12 P) .nil .nil)) (.node (ho_b3 17) (.node (ho_82_8 P) .nil .nil) (.node (ho_114_16 P) .nil .nil))) (.node (ho_26_3 P) (.node (ho_b3 9) (.node (ho_74_5 P) .nil .nil) (.node (ho_106_14 P) .nil .nil)) (.node (ho_b3 25) (.node (ho_90_11 P) .nil .nil) (.node (ho_122_17 P) .nil .nil)))) (.node (ho_14_0 P) (.node (ho_22_2 P) (.node (ho_b3 5) (.node (ho_b3 37) .nil .nil) (.node (ho_102_14 P) .nil .nil)) (.node (ho_b3 21) (.node (ho_86_11 P) .nil .nil) (.node (ho_118_16 P) .nil .nil))) (.node (ho_30_3 P) (.node (ho_b3 13) (.node (ho_78_5 P) .nil .nil) (.node (ho_110_15 P) .nil .nil)) (.node (ho_b3 29) (.node (ho_94_12 P) .nil .nil) (.node (ho_126_17 P) .nil .nil)))))))
noncomputable def st_17 (w : World) (os : OsState) : SharedT := ⟨tr_17 w.params, 128, lf, #[], boot_drawn, 2295, os⟩
noncomputable def ps_17 : Pos := ⟨84, 0, 91, 16⟩
noncomputable def tr_18 (P : Params) : BT := (.node (boot_o_0 P) (.node (boot_o_1 P) (.node (ho_3_18 P) (.node (boot_o_7 P) (.node (ho_15_2 P) (.node (ho_31_3 P) (.node (ho_b3 30) (.node (ho_127_17 P) .nil .nil) .nil) (.node (ho_95_12 P) .nil .nil)) (.node (ho_b3 14) (.node (ho_79_8 P) .nil .nil) (.node (ho_111_15 P) .nil .nil))) (.node (ho_23_2 P) (.node (ho_b3 6) (.node (ho_b3 38) .nil .nil) (.node (ho_103_14 P) .nil .nil)) (.node (ho_b3 22) (.node (ho_87_11 P) .nil .nil) (.node (ho_119_16 P) .nil .nil)))) (.node (ho_11_0 P) (.node (ho_19_2 P) (.node (ho_b3 2) (.node (ho_b3 34) (.node (ho_131_18 P) .nil .nil) .nil) (.node (ho_99_12 P) .nil .nil)) (.node (ho_b3 18) (.node (ho_83_8 P) .nil .nil) (.node (ho_115_16 P) .nil .nil))) (.node (ho_27_3 P) (.node (ho_b3 10) (.node (ho_75_5 P) .nil .nil) (.node (ho_107_15 P) .nil .nil)) (.node (ho_b3 26) (.node (ho_91_11 P) .nil .nil) (.node (ho_123_17 P) .nil .nil))))) (.node (boot_o_5 P) (.node (boot_o_9 P) (.node (ho_17_2 P) (.node (ho_b3 0) (.node (ho_b3 32) (.node (ho_129_18 P) .nil .nil) .nil) (.node (ho_97_12 P) .nil .nil)) (.node (ho_b3 16) (.node (ho_81_8 P) .nil .nil) (.node (ho_113_15 P) .nil .nil))) (.node (ho_25_2 P) (.node (ho_b3 8) (.node (ho_73_5 P) .nil .nil) (.node (ho_105_14 P) .nil .nil)) (.node (ho_b3 24) (.node (ho_89_11 P) .nil .nil) (.node (ho_121_17 P) .nil .nil)))) (.node (ho_13_0 P) (.node (ho_21_2 P) (.node (ho_b3 4) (.node (ho_b3 36) (.node (ho_133_18 P) .nil .nil) .nil) (.node (ho_101_14 P) .nil .nil)) (.node (ho_b3 20) (.node (ho_85_8 P) .nil .nil) (.node (ho_117_16 P) .nil .nil))) (.node (ho_29_3 P) (.node (ho_b3 12) (.node (ho_77_5 P) .nil .nil) (.node (ho_109_15 P) .nil .nil)) (.node (ho_b3 28) (.node (ho_93_12 P) .nil .nil) (.node (ho_125_17 P) .nil .nil)))))) (.node (boot_o_2 P) (.node (boot_o_4 P) (.node (boot_o_8 P) (.node (ho_16_2 P) (.node (ho_32_3 P) (.node (ho_b3 31) (.node (ho_128_18 P) .nil .nil) .nil) (.node (ho_96_12 P) .nil .nil)) (.node (ho_b3 15) (.node (ho_80_8 P) .nil .nil) (.node (ho_112_15 P) .nil .nil))) (.node (ho_24_2 P) (.node (ho_b3 7) (.node (ho_72_5 P) .nil .nil) (.node (ho_104_14 P) .nil .nil)) (.node (ho_b3 23) (.node (ho_88_11 P) .nil .nil) (.node (ho_120_16 P) .nil .nil)))) (.node (ho_12_18 P) (.node (ho_20_2 P) (.node (ho_b3 3) (.node (ho_b3 35) (.node (ho_132_18 P) .nil .nil) .nil) (.node (ho_100_14 P) .nil .nil)) (.node (ho_b3 19) (.node (ho_84_8 P) .nil .nil) (.node (ho_116_16 P) .nil .nil))) (.node (ho_28_3 P) (.node (ho_b3 11) (.node (ho_76_5 P) .nil .nil) (.node (ho_108_15 P) .nil .nil)) (.node (ho_b3 27) (.node (ho_92_11 P) .nil .nil) (.node (ho_124_17 P) .nil .nil))))) (.node (boot_o_6 P) (.node (boot_o_10 P) (.node (ho_18_2 P) (.node (ho_b3 1) (.node (ho_b3 33) (.node (ho_130_18 P) .nil .nil) .nil) (.node (ho_98_12 P) .nil .nil)) (.node (ho_b3 17) (.node (ho_82_8 P) .nil .nil) (.node (ho_114_16 P) .nil .nil))) (.node (ho_26_3 P) (.node (ho_b3 9) (.node (ho_74_5 P) .nil .nil) (.node (ho_106_14 P) .nil .nil)) (.node (ho_b3 25) (.node (ho_90_11 P) .nil .nil) (.node (ho_122_17 P) .nil .nil)))) (.node (ho_14_0 P) (.node (ho_22_2 P) (.node (ho_b3 5) (.node (ho_b3 37) (.node (ho_134_18 P) .nil .nil) .nil) (.node (ho_102_14 P) .nil .nil)) (.node (ho_b3 21) (.node (ho_86_11 P) .nil .nil) (.node (ho_118_16 P) .nil .nil))) (.node (ho_30_3 P) (.node (ho_b3 13) (.node (ho_78_5 P) .nil .nil) (.node (ho_110_15 P) .nil .nil)) (.node (ho_b3 29) (.node (ho_94_12 P) .nil .nil) (.node (ho_126_17 P) .nil .nil)))))))
noncomputable def st_18 (w : World) (os : OsState) : SharedT := ⟨tr_18 w.params, 135, lf, #[], boot_drawn, 2307, os⟩
noncomputable def ps_18 : Pos := ⟨92, 0, 96, 15⟩
noncomputable def tr_19 (P : Params) : BT := (.node (boot_o_0 P) (.node (boot_o_1 P) (.node (ho_3_19 P) (.node (boot_o_7 P) (.node (ho_15_2 P) (.node (ho_31_3 P) (.node (ho_b3 30) (.node (ho_127_17 P) .nil .nil) .nil) (.node (ho_95_12 P) .nil .nil)) (.node (ho_b3 14) (.node (ho_79_8 P) .nil .nil) (.node (ho_111_15 P) .nil .nil))) (.node (ho_23_2 P) (.node (ho_b3 6) (.node (ho_b3 38) (.node (ho_135_19 P) .nil .nil) .nil) (.node (ho_103_14 P) .nil .nil)) (.node (ho_b3 22) (.node (ho_87_11 P) .nil .nil) (.node (ho_119_16 P) .nil .nil)))) (.node (ho_11_0 P) (.node (ho_19_2 P) (.node (ho_b3 2) (.node (ho_b3 34) (.node (ho_131_18 P) .nil .nil) .nil) (.node (ho_99_12 P) .nil .nil)) (.node (ho_b3 18) (.node (ho_83_8 P) .nil .nil) (.node (ho_115_16 P) .nil .nil))) (.node (ho_27_3 P) (.node (ho_b3 10) (.node (ho_75_5 P) (.node (ho_139_19 P) .nil .nil) .nil) (.node (ho_107_15 P) .nil .nil)) (.node (ho_b3 26) (.node (ho_91_11 P) .nil .nil) (.node (ho_123_17 P) .nil .nil))))) (.node (boot_o_5 P) (.node (boot_o_9 P) (.node (ho_17_2 P) (.node (ho_b3 0) (.node (ho_b3 32) (.node (ho_129_18 P) .nil .nil) .nil) (.node (ho_97_12 P) .nil .nil)) (.node (ho_b3 16) (.node (ho_81_8 P) .nil .nil) (.node (ho_113_15 P) .nil .nil))) (.node (ho_25_2 P) (.node (ho_b3 8) (.node (ho_73_5 P) (.node (ho_137_19 P) .nil .nil) .nil) (.node (ho_105_14 P) .nil .nil)) (.node (ho_b3 24) (.node (ho_89_11 P) .nil .nil) (.node (ho_121_17 P) .nil .nil)))) (.node (ho_13_0 P) (.node (ho_21_2 P) (.node (ho_b3 4) (.node (ho_b3 36) (.node (ho_133_18 P) .nil .nil) .nil) (.node (ho_101_14 P) .nil .nil)) (.node (ho_b3 20) (.node (ho_85_8 P) .nil .nil) (.node (ho_117_16 P) .nil .nil))) (.node (ho_29_3 P) (.node (ho_b3 12) (.node (ho_77_5 P) .nil .nil) (.node (ho_109_15 P) .nil .nil)) (.node (ho_b3 28) (.node (ho_93_12 P) .nil .nil) (.node (ho_125_17 P) .nil .nil)))))) (.node (boot_o_2 P) (.node (boot_o_4 P) (.node (boot_o_8 P) (.node (ho_16_2 P) (.node (ho_32_3 P) (.node (ho_b3 31) (.node (ho_128_18 P) .nil .nil) .nil) (.node (ho_96_12 P) .nil .nil)) (.node (ho_b3 15) (.node (ho_80_8 P) .nil .nil) (.node (ho_112_15 P) .nil .nil))) (.node (ho_24_2 P) (.node (ho_b3 7) (.node (ho_72_5 P) (.node (ho_136_19 P) .nil .nil) .nil) (.node (ho_104_14 P) .nil .nil)) (.node (ho_b3 23) (.node (ho_88_11 P) .nil .nil) (.node (ho_120_16 P) .nil .nil)))) (.node (ho_12_19 P) (.node (ho_20_2 P) (.node (ho_b3 3) (.node (ho_b3 35) (.node (ho_132_18 P) .nil .nil) .nil) (.node (ho_100_14 P) .nil .nil)) (.node (ho_b3 19) (.node (ho_84_8 P) .nil .nil) (.node (ho_116_16 P) .nil .nil))) (.node (ho_28_3 P) (.node (ho_b3 11) (.node (ho_76_5 P) .nil .nil) (.node (ho_108_15 P) .nil .nil)) (.node (ho_b3 27) (.node (ho_92_11 P) .nil .nil) (.node (ho_124_17 P) .nil .nil))))) (.node (boot_o_6 P) (.node (boot_o_10 P) (.node (ho_18_2 P) (.node (ho_b3 1) (.node (ho_b3 33) (.node (ho_130_18 P) .nil .nil) .nil) (.node (ho_98_12 P) .nil .nil)) (.node (ho_b3 17) (.node (ho_82_8 P) .nil .nil) (.node (ho_114_16 P) .nil .nil))) (.node (ho_26_3 P) (.node (ho_b3 9) (.node (ho_74_5 P) (.node (ho_138_19 P) .nil .nil) .nil) (.node (ho_106_14 P) .nil .nil)) (.node (ho_b3 25) (.node (ho_90_11 P) .nil .nil) (.node (ho_122_17 P) .nil .nil)))) (.node (ho_14_0 P) (.node (ho_22_2 P) (.node (ho_b3 5) (.node (ho_b3 37) (.node (ho_134_18 P) .nil .nil) .nil) (.node (ho_102_14 P) .nil .nil)) (.node (ho_b3 21) (.node (ho_86_11 P) .nil .nil) (.node (ho_118_16 P) .nil .nil))) (.node (ho_30_3 P) (.node (ho_b3 13) (.node (ho_78_5 P) .nil .nil) (.node (ho_110_15 P) .nil .nil)) (.node (ho_b3 29) (.node (ho_94_12 P) .nil .nil) (.node (ho_126_17 P) .nil .nil)))))))
noncomputable def st_19 (w : World) (os : OsState) : SharedT := ⟨tr_19 w.params, 140, lf, #[], boot_drawn, 2313, os⟩
noncomputable def ps_19 : Pos := ⟨97, 0, 105, 22⟩
noncomputable def tr_20 (P : Params) : BT := (.node (boot_o_0 P) (.node (boot_o_1 P) (.node (ho_3_20 P) (.node (boot_o_7 P) (.node (ho_15_2 P) (.node (ho_31_3 P) (.node (ho_b3 30) (.node (ho_127_17 P) .nil .nil) .nil) (.node (ho_95_12 P) .nil .nil)) (.node (ho_b3 14) (.node (ho_79_8 P) (.node (ho_143_20 P) .nil .nil) .nil) (.node (ho_111_15 P) .nil .nil))) (.node (ho_23_2 P) (.node (ho_b3 6) (.node (ho_b3 38) (.node (ho_135_19 P) .nil .nil) .nil) (.node (ho_103_14 P) .nil .nil)) (.node (ho_b3 22) (.node (ho_87_11 P) .nil .nil) (.node (ho_119_16 P) .nil .nil)))) (.node (ho_11_0 P) (.node (ho_19_2 P) (.node (ho_b3 2) (.node (ho_b3 34) (.node (ho_131_18 P) .nil .nil) .nil) (.node (ho_99_12 P) .nil .nil)) (.node (ho_b3 18) (.node (ho_83_8 P) .nil .nil) (.node (ho_115_16 P) .nil .nil))) (.node (ho_27_3 P) (.node (ho_b3 10) (.node (ho_75_5 P) (.node (ho_139_19 P) .nil .nil) .nil) (.node (ho_107_15 P) .nil .nil)) (.node (ho_b3 26) (.node (ho_91_11 P) .nil .nil) (.node (ho_123_17 P) .nil .nil))))) (.node (boot_o_5 P) (.node (boot_o_9 P) (.node (ho_17_2 P) (.node (ho_b3 0) (.node (ho_b3 32) (.node (ho_129_18 P) .nil .nil) .nil) (.node (ho_97_12 P) .nil .nil)) (.node (ho_b3 16) (.node (ho_81_8 P) .nil .nil) (.node (ho_113_15 P) .nil .nil))) (.node (ho_25_2 P) (.node (ho_b3 8) (.node (ho_73_5 P) (.node (ho_137_19 P) .nil .nil) .nil) (.node (ho_105_14 P) .nil .nil)) (.node (ho_b3 24) (.node (ho_89_11 P) .nil .nil) (.node (ho_121_17 P) .nil .nil)))) (.node (ho_13_0 P) (.node (ho_21_2 P) (.node (ho_b3 4) (.node (ho_b3 36) (.node (ho_133_18 P) .nil .nil) .nil) (.node (ho_101_14 P) .nil .nil)) (.node (ho_b3 20) (.node (ho_85_8 P) .nil .nil) (.node (ho_117_16 P) .nil .nil))) (.node (ho_29_3 P) (.node (ho_b3 12) (.node (ho_77_5 P) (.node (ho_141_20 P) .nil .nil) .nil) (.node (ho_109_15 P) .nil .nil)) (.node (ho_b3 28) (.node (ho_93_12 P) .nil .nil) (.node (ho_125_17 P) .nil .nil)))))) (.node (boot_o_2 P) (.node (boot_o_4 P) (.node (boot_o_8 P) (.node (ho_16_2 P) (.node (ho_32_3 P) (.node (ho_b3 31) (.node (ho_128_18 P) .nil .nil) .nil) (.node (ho_96_12 P) .nil .nil)) (.node (ho_b3 15) (.node (ho_80_8 P) (.node (ho_144_20 P) .nil .nil) .nil) (.node (ho_112_15 P) .nil .nil))) (.node (ho_24_2 P) (.node (ho_b3 7) (.node (ho_72_5 P) (.node (ho_136_19 P) .nil .nil) .nil) (.node (ho_104_14 P) .nil .nil)) (.node (ho_b3 23) (.node (ho_88_11 P) .nil .nil) (.node (ho_120_16 P) .nil .nil)))) (.node (ho_12_20 P) (.node (ho_20_2 P) (.node (ho_b3 3) (.node (ho_b3 35) (.node (ho_132_18 P) .nil .nil) .nil) (.node (ho_100_14 P) .nil .nil)) (.node (ho_b3 19) (.node (ho_84_8 P) .nil .nil) (.node (ho_116_16 P) .nil .nil))) (.node (ho_28_3 P) (.node (ho_b3 11) (.node (ho_76_5 P) (.node (ho_140_20 P) .nil .nil) .nil) (.node (ho_108_15 P) .nil .nil)) (.node (ho_b3 27) (.node (ho_92_11 P) .nil .nil) (.node (ho_124_17 P) .nil .nil))))) (.node (boot_o_6 P) (.node (boot_o_10 P) (.node (ho_18_2 P) (.node (ho_b3 1) (.node (ho_b3 33) (.node (ho_130_18 P) .nil .nil) .nil) (.node (ho_98_12 P) .nil .nil)) (.node (ho_b3 17) (.node (ho_82_8 P) .nil .nil) (.node (ho_114_16 P) .nil .nil))) (.node (ho_26_3 P) (.node (ho_b3 9) (.node (ho_74_5 P) (.node (ho_138_19 P) .nil .nil) .nil) (.node (ho_106_14 P) .nil .nil)) (.node (ho_b3 25) (.node (ho_90_11 P) .nil .nil) (.node (ho_122_17 P) .nil .nil)))) (.node (ho_14_0 P) (.node (ho_22_2 P) (.node (ho_b3 5) (.node (ho_b3 37) (.node (ho_134_18 P) .nil .nil) .nil) (.node (ho_102_14 P) .nil .nil)) (.node (ho_b3 21) (.node (ho_86_11 P) .nil .nil) (.node (ho_118_16 P) .nil .nil))) (.node (ho_30_3 P) (.node (ho_b3 13) (.node (ho_78_5 P) (.node (ho_142_20 P) .nil .nil) .nil) (.node (ho_110_15 P) .nil .nil)) (.node (ho_b3 29) (.node (ho_94_12 P) .nil .nil) (.node (ho_126_17 P) .nil .nil)))))))
noncomputable def st_20 (w : World) (os : OsState) : SharedT := ⟨tr_20 w.params, 145, lf, #[], boot_drawn, 2319, os⟩
noncomputable def ps_20 : Pos := ⟨106, 0, 115, 16⟩
noncomputable def tr_21 (P : Params) : BT := (.node (boot_o_0 P) (.node (boot_o_1 P) (.node (ho_3_21 P) (.node (boot_o_7 P) (.node (ho_15_2 P) (.node (ho_31_3 P) (.node (ho_b3 30) (.node (ho_127_17 P) .nil .nil) .nil) (.node (ho_95_12 P) .nil .nil)) (.node (ho_b3 14) (.node (ho_79_8 P) (.node (ho_143_20 P) .nil .nil) .nil) (.node (ho_111_15 P) .nil .nil))) (.node (ho_23_2 P) (.node (ho_b3 6) (.node (ho_b3 38) (.node (ho_135_19 P) .nil .nil) .nil) (.node (ho_103_14 P) .nil .nil)) (.node (ho_b3 22) (.node (ho_87_11 P) (.node (ho_151_21 P) .nil .nil) .nil) (.node (ho_119_16 P) .nil .nil)))) (.node (ho_11_0 P) (.node (ho_19_2 P) (.node (ho_b3 2) (.node (ho_b3 34) (.node (ho_131_18 P) .nil .nil) .nil) (.node (ho_99_12 P) .nil .nil)) (.node (ho_b3 18) (.node (ho_83_8 P) (.node (ho_147_21 P) .nil .nil) .nil) (.node (ho_115_16 P) .nil .nil))) (.node (ho_27_3 P) (.node (ho_b3 10) (.node (ho_75_5 P) (.node (ho_139_19 P) .nil .nil) .nil) (.node (ho_107_15 P) .nil .nil)) (.node (ho_b3 26) (.node (ho_91_11 P) .nil .nil) (.node (ho_123_17 P) .nil .nil))))) (.node (boot_o_5 P) (.node (boot_o_9 P) (.node (ho_17_2 P) (.node (ho_b3 0) (.node (ho_b3 32) (.node (ho_129_18 P) .nil .nil) .nil) (.node (ho_97_12 P) .nil .nil)) (.node (ho_b3 16) (.node (ho_81_8 P) (.node (ho_145_21 P) .nil .nil) .nil) (.node (ho_113_15 P) .nil .nil))) (.node (ho_25_2 P) (.node (ho_b3 8) (.node (ho_73_5 P) (.node (ho_137_19 P) .nil .nil) .nil) (.node (ho_105_14 P) .nil .nil)) (.node (ho_b3 24) (.node (ho_89_11 P) .nil .nil) (.node (ho_121_17 P) .nil .nil)))) (.node (ho_13_0 P) (.node (ho_21_2 P) (.node (ho_b3 4) (.node (ho_b3 36) (.node (ho_133_18 P) .nil .nil) .nil) (.node (ho_101_14 P) .nil .nil)) (.node (ho_b3 20) (.node (ho_85_8 P) (.node (ho_149_21 P) .nil .nil) .nil) (.node (ho_117_16 P) .nil .nil))) (.node (ho_29_3 P) (.node (ho_b3 12) (.node (ho_77_5 P) (.node (ho_141_20 P) .nil .nil) .nil) (.node (ho_109_15 P) .nil .nil)) (.node (ho_b3 28) (.node (ho_93_12 P) .nil .nil) (.node (ho_125_17 P) .nil .nil)))))) (.node (boot_o_2 P) (.node (boot_o_4 P) (.node (boot_o_8 P) (.node (ho_16_2 P) (.node (ho_32_3 P) (.node (ho_b3 31) (.node (ho_128_18 P) .nil .nil) .nil) (.node (ho_96_12 P) .nil .nil)) (.node (ho_b3 15) (.node (ho_80_8 P) (.node (ho_144_20 P) .nil .nil) .nil) (.node (ho_112_15 P) .nil .nil))) (.node (ho_24_2 P) (.node (ho_b3 7) (.node (ho_72_5 P) (.node (ho_136_19 P) .nil .nil) .nil) (.node (ho_104_14 P) .nil .nil)) (.node (ho_b3 23) (.node (ho_88_11 P) .nil .nil) (.node (ho_120_16 P) .nil .nil)))) (.node (ho_12_21 P) (.node (ho_20_2 P) (.node (ho_b3 3) (.node (ho_b3 35) (.node (ho_132_18 P) .nil .nil) .nil) (.node (ho_100_14 P) .nil .nil)) (.node (ho_b3 19) (.node (ho_84_8 P) (.node (ho_148_21 P) .nil .nil) .nil) (.node (ho_116_16 P) .nil .nil))) (.node (ho_28_3 P) (.node (ho_b3 11) (.node (ho_76_5 P) (.node (ho_140_20 P) .nil .nil) .nil) (.node (ho_108_15 P) .nil .nil)) (.node (ho_b3 27) (.node (ho_92_11 P) .nil .nil) (.node (ho_124_17 P) .nil .nil))))) (.node (boot_o_6 P) (.node (boot_o_10 P) (.node (ho_18_2 P) (.node (ho_b3 1) (.node (ho_b3 33) (.node (ho_130_18 P) .nil .nil) .nil) (.node (ho_98_12 P) .nil .nil)) (.node (ho_b3 17) (.node (ho_82_8 P) (.node (ho_146_21 P) .nil .nil) .nil) (.node (ho_114_16 P) .nil .nil))) (.node (ho_26_3 P) (.node (ho_b3 9) (.node (ho_74_5 P) (.node (ho_138_19 P) .nil .nil) .nil) (.node (ho_106_14 P) .nil .nil)) (.node (ho_b3 25) (.node (ho_90_11 P) .nil .nil) (.node (ho_122_17 P) .nil .nil)))) (.node (ho_14_0 P) (.node (ho_22_2 P) (.node (ho_b3 5) (.node (ho_b3 37) (.node (ho_134_18 P) .nil .nil) .nil) (.node (ho_102_14 P) .nil .nil)) (.node (ho_b3 21) (.node (ho_86_11 P) (.node (ho_150_21 P) .nil .nil) .nil) (.node (ho_118_16 P) .nil .nil))) (.node (ho_30_3 P) (.node (ho_b3 13) (.node (ho_78_5 P) (.node (ho_142_20 P) .nil .nil) .nil) (.node (ho_110_15 P) .nil .nil)) (.node (ho_b3 29) (.node (ho_94_12 P) .nil .nil) (.node (ho_126_17 P) .nil .nil)))))))
noncomputable def st_21 (w : World) (os : OsState) : SharedT := ⟨tr_21 w.params, 152, lf, #[], boot_drawn, 2328, os⟩
noncomputable def ps_21 : Pos := ⟨116, 0, 120, 18⟩
noncomputable def tr_22 (P : Params) : BT := (.node (boot_o_0 P) (.node (boot_o_1 P) (.node (ho_3_22 P) (.node (boot_o_7 P) (.node (ho_15_2 P) (.node (ho_31_3 P) (.node (ho_b3 30) (.node (ho_127_17 P) .nil .nil) .nil) (.node (ho_95_12 P) .nil .nil)) (.node (ho_b3 14) (.node (ho_79_8 P) (.node (ho_143_20 P) .nil .nil) .nil) (.node (ho_111_15 P) .nil .nil))) (.node (ho_23_2 P) (.node (ho_b3 6) (.node (ho_b3 38) (.node (ho_135_19 P) .nil .nil) .nil) (.node (ho_103_14 P) .nil .nil)) (.node (ho_b3 22) (.node (ho_87_11 P) (.node (ho_151_21 P) .nil .nil) .nil) (.node (ho_119_16 P) .nil .nil)))) (.node (ho_11_0 P) (.node (ho_19_2 P) (.node (ho_b3 2) (.node (ho_b3 34) (.node (ho_131_18 P) .nil .nil) .nil) (.node (ho_99_12 P) .nil .nil)) (.node (ho_b3 18) (.node (ho_83_8 P) (.node (ho_147_21 P) .nil .nil) .nil) (.node (ho_115_16 P) .nil .nil))) (.node (ho_27_3 P) (.node (ho_b3 10) (.node (ho_75_5 P) (.node (ho_139_19 P) .nil .nil) .nil) (.node (ho_107_15 P) .nil .nil)) (.node (ho_b3 26) (.node (ho_91_11 P) (.node (ho_155_22 P) .nil .nil) .nil) (.node (ho_123_17 P) .nil .nil))))) (.node (boot_o_5 P) (.node (boot_o_9 P) (.node (ho_17_2 P) (.node (ho_b3 0) (.node (ho_b3 32) (.node (ho_129_18 P) .nil .nil) .nil) (.node (ho_97_12 P) .nil .nil)) (.node (ho_b3 16) (.node (ho_81_8 P) (.node (ho_145_21 P) .nil .nil) .nil) (.node (ho_113_15 P) .nil .nil))) (.node (ho_25_2 P) (.node (ho_b3 8) (.node (ho_73_5 P) (.node (ho_137_19 P) .nil .nil) .nil) (.node (ho_105_14 P) .nil .nil)) (.node (ho_b3 24) (.node (ho_89_11 P) (.node (ho_153_22 P) .nil .nil) .nil) (.node (ho_121_17 P) .nil .nil)))) (.node (ho_13_0 P) (.node (ho_21_2 P) (.node (ho_b3 4) (.node (ho_b3 36) (.node (ho_133_18 P) .nil .nil) .nil) (.node (ho_101_14 P) .nil .nil)) (.node (ho_b3 20) (.node (ho_85_8 P) (.node (ho_149_21 P) .nil .nil) .nil) (.node (ho_117_16 P) .nil .nil))) (.node (ho_29_3 P) (.node (ho_b3 12) (.node (ho_77_5 P) (.node (ho_141_20 P) .nil .nil) .nil) (.node (ho_109_15 P) .nil .nil)) (.node (ho_b3 28) (.node (ho_93_12 P) .nil .nil) (.node (ho_125_17 P) .nil .nil)))))) (.node (boot_o_2 P) (.node (boot_o_4 P) (.node (boot_o_8 P) (.node (ho_16_2 P) (.node (ho_32_3 P) (.node (ho_b3 31) (.node (ho_128_18 P) .nil .nil) .nil) (.node (ho_96_12 P) .nil .nil)) (.node (ho_b3 15) (.node (ho_80_8 P) (.node (ho_144_20 P) .nil .nil) .nil) (.node (ho_112_15 P) .nil .nil))) (.node (ho_24_2 P) (.node (ho_b3 7) (.node (ho_72_5 P) (.node (ho_136_19 P) .nil .nil) .nil) (.node (ho_104_14 P) .nil .nil)) (.node (ho_b3 23) (.node (ho_88_11 P) (.node (ho_152_22 P) .nil .nil) .nil) (.node (ho_120_16 P) .nil .nil)))) (.node (ho_12_22 P) (.node (ho_20_2 P) (.node (ho_b3 3) (.node (ho_b3 35) (.node (ho_132_18 P) .nil .nil) .nil) (.node (ho_100_14 P) .nil .nil)) (.node (ho_b3 19) (.node (ho_84_8 P) (.node (ho_148_21 P) .nil .nil) .nil) (.node (ho_116_16 P) .nil .nil))) (.node (ho_28_3 P) (.node (ho_b3 11) (.node (ho_76_5 P) (.node (ho_140_20 P) .nil .nil) .nil) (.node (ho_108_15 P) .nil .nil)) (.node (ho_b3 27) (.node (ho_92_11 P) (.node (ho_156_22 P) .nil .nil) .nil) (.node (ho_124_17 P) .nil .nil))))) (.node (boot_o_6 P) (.node (boot_o_10 P) (.node (ho_18_2 P) (.node (ho_b3 1) (.node (ho_b3 33) (.node (ho_130_18 P) .nil .nil) .nil) (.node (ho_98_12 P) .nil .nil)) (.node (ho_b3 17) (.node (ho_82_8 P) (.node (ho_146_21 P) .nil .nil) .nil) (.node (ho_114_16 P) .nil .nil))) (.node (ho_26_3 P) (.node (ho_b3 9) (.node (ho_74_5 P) (.node (ho_138_19 P) .nil .nil) .nil) (.node (ho_106_14 P) .nil .nil)) (.node (ho_b3 25) (.node (ho_90_11 P) (.node (ho_154_22 P) .nil .nil) .nil) (.node (ho_122_17 P) .nil .nil)))) (.node (ho_14_0 P) (.node (ho_22_2 P) (.node (ho_b3 5) (.node (ho_b3 37) (.node (ho_134_18 P) .nil .nil) .nil) (.node (ho_102_14 P) .nil .nil)) (.node (ho_b3 21) (.node (ho_86_11 P) (.node (ho_150_21 P) .nil .nil) .nil) (.node (ho_118_16 P) .nil .nil))) (.node (ho_30_3 P) (.node (ho_b3 13) (.node (ho_78_5 P) (.node (ho_142_20 P) .nil .nil) .nil) (.node (ho_110_15 P) .nil .nil)) (.node (ho_b3 29) (.node (ho_94_12 P) .nil .nil) (.node (ho_126_17 P) .nil .nil)))))))
noncomputable def st_22 (w : World) (os : OsState) : SharedT := ⟨tr_22 w.params, 157, lf, #[], boot_drawn, 2334, os⟩
noncomputable def ps_22 : Pos := ⟨121, 0, 126, 16⟩
noncomputable def tr_23 (P : Params) : BT := (.node (boot_o_0 P) (.node (boot_o_1 P) (.node (ho_3_23 P) (.node (boot_o_7 P) (.node (ho_15_2 P) (.node (ho_31_3 P) (.node (ho_b3 30) (.node (ho_127_17 P) .nil .nil) .nil) (.node (ho_95_12 P) (.node (ho_159_23 P) .nil .nil) .nil)) (.node (ho_b3 14) (.node (ho_79_8 P) (.node (ho_143_20 P) .nil .nil) .nil) (.node (ho_111_15 P) .nil .nil))) (.node (ho_23_2 P) (.node (ho_b3 6) (.node (ho_b3 38) (.node (ho_135_19 P) .nil .nil) .nil) (.node (ho_103_14 P) .nil .nil)) (.node (ho_b3 22) (.node (ho_87_11 P) (.node (ho_151_21 P) .nil .nil) .nil) (.node (ho_119_16 P) .nil .nil)))) (.node (ho_11_0 P) (.node (ho_19_2 P) (.node (ho_b3 2) (.node (ho_b3 34) (.node (ho_131_18 P) .nil .nil) .nil) (.node (ho_99_12 P) .nil .nil)) (.node (ho_b3 18) (.node (ho_83_8 P) (.node (ho_147_21 P) .nil .nil) .nil) (.node (ho_115_16 P) .nil .nil))) (.node (ho_27_3 P) (.node (ho_b3 10) (.node (ho_75_5 P) (.node (ho_139_19 P) .nil .nil) .nil) (.node (ho_107_15 P) .nil .nil)) (.node (ho_b3 26) (.node (ho_91_11 P) (.node (ho_155_22 P) .nil .nil) .nil) (.node (ho_123_17 P) .nil .nil))))) (.node (boot_o_5 P) (.node (boot_o_9 P) (.node (ho_17_2 P) (.node (ho_b3 0) (.node (ho_b3 32) (.node (ho_129_18 P) .nil .nil) .nil) (.node (ho_97_12 P) (.node (ho_161_23 P) .nil .nil) .nil)) (.node (ho_b3 16) (.node (ho_81_8 P) (.node (ho_145_21 P) .nil .nil) .nil) (.node (ho_113_15 P) .nil .nil))) (.node (ho_25_2 P) (.node (ho_b3 8) (.node (ho_73_5 P) (.node (ho_137_19 P) .nil .nil) .nil) (.node (ho_105_14 P) .nil .nil)) (.node (ho_b3 24) (.node (ho_89_11 P) (.node (ho_153_22 P) .nil .nil) .nil) (.node (ho_121_17 P) .nil .nil)))) (.node (ho_13_0 P) (.node (ho_21_2 P) (.node (ho_b3 4) (.node (ho_b3 36) (.node (ho_133_18 P) .nil .nil) .nil) (.node (ho_101_14 P) .nil .nil)) (.node (ho_b3 20) (.node (ho_85_8 P) (.node (ho_149_21 P) .nil .nil) .nil) (.node (ho_117_16 P) .nil .nil))) (.node (ho_29_3 P) (.node (ho_b3 12) (.node (ho_77_5 P) (.node (ho_141_20 P) .nil .nil) .nil) (.node (ho_109_15 P) .nil .nil)) (.node (ho_b3 28) (.node (ho_93_12 P) (.node (ho_157_23 P) .nil .nil) .nil) (.node (ho_125_17 P) .nil .nil)))))) (.node (boot_o_2 P) (.node (boot_o_4 P) (.node (boot_o_8 P) (.node (ho_16_2 P) (.node (ho_32_3 P) (.node (ho_b3 31) (.node (ho_128_18 P) .nil .nil) .nil) (.node (ho_96_12 P) (.node (ho_160_23 P) .nil .nil) .nil)) (.node (ho_b3 15) (.node (ho_80_8 P) (.node (ho_144_20 P) .nil .nil) .nil) (.node (ho_112_15 P) .nil .nil))) (.node (ho_24_2 P) (.node (ho_b3 7) (.node (ho_72_5 P) (.node (ho_136_19 P) .nil .nil) .nil) (.node (ho_104_14 P) .nil .nil)) (.node (ho_b3 23) (.node (ho_88_11 P) (.node (ho_152_22 P) .nil .nil) .nil) (.node (ho_120_16 P) .nil .nil)))) (.node (ho_12_23 P) (.node (ho_20_2 P) (.node (ho_b3 3) (.node (ho_b3 35) (.node (ho_132_18 P) .nil .nil) .nil) (.node (ho_100_14 P) .nil .nil)) (.node (ho_b3 19) (.node (ho_84_8 P) (.node (ho_148_21 P) .nil .nil) .nil) (.node (ho_116_16 P) .nil .nil))) (.node (ho_28_3 P) (.node (ho_b3 11) (.node (ho_76_5 P) (.node (ho_140_20 P) .nil .nil) .nil) (.node (ho_108_15 P) .nil .nil)) (.node (ho_b3 27) (.node (ho_92_11 P) (.node (ho_156_22 P) .nil .nil) .nil) (.node (ho_124_17 P) .nil .nil))))) (.node (boot_o_6 P) (.node (boot_o_10 P) (.node (ho_18_2 P) (.node (ho_b3 1) (.node (ho_b3 33) (.node (ho_130_18 P) .nil .nil) .nil) (.node (ho_98_12 P) .nil .nil)) (.node (ho_b3 17) (.node (ho_82_8 P) (.node (ho_146_21 P) .nil .nil) .nil) (.node (ho_114_16 P) .nil .nil))) (.node (ho_26_3 P) (.node (ho_b3 9) (.node (ho_74_5 P) (.node (ho_138_19 P) .nil .nil) .nil) (.node (ho_106_14 P) .nil .nil)) (.node (ho_b3 25) (.node (ho_90_11 P) (.node (ho_154_22 P) .nil .nil) .nil) (.node (ho_122_17 P) .nil .nil)))) (.node (ho_14_0 P) (.node (ho_22_2 P) (.node (ho_b3 5) (.node (ho_b3 37) (.node (ho_134_18 P) .nil .nil) .nil) (.node (ho_102_14 P) .nil .nil)) (.node (ho_b3 21) (.node (ho_86_11 P) (.node (ho_150_21 P) .nil .nil) .nil) (.node (ho_118_16 P) .nil .nil))) (.node (ho_30_3 P) (.node (ho_b3 13) (.node (ho_78_5 P) (.node (ho_142_20 P) .nil .nil) .nil) (.node (ho_110_15 P) .nil .nil)) (.node (ho_b3 29) (.node (ho_94_12 P) (.node (ho_158_23 P) .nil .nil) .nil) (.node (ho_126_17 P) .nil .nil)))))))
noncomputable def st_23 (w : World) (os : OsState) : SharedT := ⟨tr_23 w.params, 162, lf, #[], boot_drawn, 2340, os⟩
noncomputable def ps_23 : Pos := ⟨127, 0, 140, 14⟩
noncomputable def tr_24 (P : Params) : BT := (.node (boot_o_0 P) (.node (boot_o_1 P) (.node (ho_3_24 P) (.node (boot_o_7 P) (.node (ho_15_2 P) (.node (ho_31_3 P) (.node (ho_b3 30) (.node (ho_127_17 P) .nil .nil) .nil) (.node (ho_95_12 P) (.node (ho_159_23 P) .nil .nil) .nil)) (.node (ho_b3 14) (.node (ho_79_8 P) (.node (ho_143_20 P) .nil .nil) .nil) (.node (ho_111_15 P) .nil .nil))) (.node (ho_23_2 P) (.node (ho_b3 6) (.node (ho_b3 38) (.node (ho_135_19 P) .nil .nil) .nil) (.node (ho_103_14 P) .nil .nil)) (.node (ho_b3 22) (.node (ho_87_11 P) (.node (ho_151_21 P) .nil .nil) .nil) (.node (ho_119_16 P) .nil .nil)))) (.node (ho_11_0 P) (.node (ho_19_2 P) (.node (ho_b3 2) (.node (ho_b3 34) (.node (ho_131_18 P) .nil .nil) .nil) (.node (ho_99_12 P) (.node (ho_163_24 P) .nil .nil) .nil)) (.node (ho_b3 18) (.node (ho_83_8 P) (.node (ho_147_21 P) .nil .nil) .nil) (.node (ho_115_16 P) .nil .nil))) (.node (ho_27_3 P) (.node (ho_b3 10) (.node (ho_75_5 P) (.node (ho_139_19 P) .nil .nil) .nil) (.node (ho_107_15 P) .nil .nil)) (.node (ho_b3 26) (.node (ho_91_11 P) (.node (ho_155_22 P) .nil .nil) .nil) (.node (ho_123_17 P) .nil .nil))))) (.node (boot_o_5 P) (.node (boot_o_9 P) (.node (ho_17_2 P) (.node (ho_b3 0) (.node (ho_b3 32) (.node (ho_129_18 P) .nil .nil) .nil) (.node (ho_97_12 P) (.node (ho_161_23 P) .nil .nil) .nil)) (.node (ho_b3 16) (.node (ho_81_8 P) (.node (ho_145_21 P) .nil .nil) .nil) (.node (ho_113_15 P) .nil .nil))) (.node (ho_25_2 P) (.node (ho_b3 8) (.node (ho_73_5 P) (.node (ho_137_19 P) .nil .nil) .nil) (.node (ho_105_14 P) .nil .nil)) (.node (ho_b3 24) (.node (ho_89_11 P) (.node (ho_153_22 P) .nil .nil) .nil) (.node (ho_121_17 P) .nil .nil)))) (.node (ho_13_0 P) (.node (ho_21_2 P) (.node (ho_b3 4) (.node (ho_b3 36) (.node (ho_133_18 P) .nil .nil) .nil) (.node (ho_101_14 P) (.node (ho_165_24 P) .nil .nil) .nil)) (.node (ho_b3 20) (.node (ho_85_8 P) (.node (ho_149_21 P) .nil .nil) .nil) (.node (ho_117_16 P) .nil .nil))) (.node (ho_29_3 P) (.node (ho_b3 12) (.node (ho_77_5 P) (.node (ho_141_20 P) .nil .nil) .nil) (.node (ho_109_15 P) .nil .nil)) (.node (ho_b3 28) (.node (ho_93_12 P) (.node (ho_157_23 P) .nil .nil) .nil) (.node (ho_125_17 P) .nil .nil)))))) (.node (boot_o_2 P) (.node (boot_o_4 P) (.node (boot_o_8 P) (.node (ho_16_2 P) (.node (ho_32_3 P) (.node (ho_b3 31) (.node (ho_128_18 P) .nil .nil) .nil) (.node (ho_96_12 P) (.node (ho_160_23 P) .nil .nil) .nil)) (.node (ho_b3 15) (.node (ho_80_8 P) (.node (ho_144_20 P) .nil .nil) .nil) (.node (ho_112_15 P) .nil .nil))) (.node (ho_24_2 P) (.node (ho_b3 7) (.node (ho_72_5 P) (.node (ho_136_19 P) .nil .nil) .nil) (.node (ho_104_14 P) .nil .nil)) (.node (ho_b3 23) (.node (ho_88_11 P) (.node (ho_152_22 P) .nil .nil) .nil) (.node (ho_120_16 P) .nil .nil)))) (.node (ho_12_24 P) (.node (ho_20_2 P) (.node (ho_b3 3) (.node (ho_b3 35) (.node (ho_132_18 P) .nil .nil) .nil) (.node (ho_100_14 P) (.node (ho_164_24 P) .nil .nil) .nil)) (.node (ho_b3 19) (.node (ho_84_8 P) (.node (ho_148_21 P) .nil .nil) .nil) (.node (ho_116_16 P) .nil .nil))) (.node (ho_28_3 P) (.node (ho_b3 11) (.node (ho_76_5 P) (.node (ho_140_20 P) .nil .nil) .nil) (.node (ho_108_15 P) .nil .nil)) (.node (ho_b3 27) (.node (ho_92_11 P) (.node (ho_156_22 P) .nil .nil) .nil) (.node (ho_124_17 P) .nil .nil))))) (.node (boot_o_6 P) (.node (boot_o_10 P) (.node (ho_18_2 P) (.node (ho_b3 1) (.node (ho_b3 33) (.node (ho_130_18 P) .nil .nil) .nil) (.node (ho_98_12 P) (.node (ho_162_24 P) .nil .nil) .nil)) (.node (ho_b3 17) (.node (ho_82_8 P) (.node (ho_146_21 P) .nil .nil) .nil) (.node (ho_114_16 P) .nil .nil))) (.node (ho_26_3 P) (.node (ho_b3 9) (.node (ho_74_5 P) (.node (ho_138_19 P) .nil .nil) .nil) (.node (ho_106_14 P) .nil .nil)) (.node (ho_b3 25) (.node (ho_90_11 P) (.node (ho_154_22 P) .nil .nil) .nil) (.node (ho_122_17 P) .nil .nil)))) (.node (ho_14_0 P) (.node (ho_22_2 P) (.node (ho_b3 5) (.node (ho_b3 37) (.node (ho_134_18 P) .nil .nil) .nil) (.node (ho_102_14 P) (.node (ho_166_24 P) .nil .nil) .nil)) (.node (ho_b3 21) (.node (ho_86_11 P) (.node (ho_150_21 P) .nil .nil) .nil) (.node (ho_118_16 P) .nil .nil))) (.node (ho_30_3 P) (.node (ho_b3 13) (.node (ho_78_5 P) (.node (ho_142_20 P) .nil .nil) .nil) (.node (ho_110_15 P) .nil .nil)) (.node (ho_b3 29) (.node (ho_94_12 P) (.node (ho_158_23 P) .nil .nil) .nil) (.node (ho_126_17 P) .nil .nil)))))))
noncomputable def st_24 (w : World) (os : OsState) : SharedT := ⟨tr_24 w.params, 167, lf, #[], boot_drawn, 2346, os⟩
noncomputable def ps_24 : Pos := ⟨141, 0, 153, 84⟩
end
section
noncomputable def env0 : Env := { scope := pw.main.scope, locals := mainNs, globals := mainNs, cells := [], code := .ref 13, frame := some 14 }
noncomputable def b0 : List Stmt := behindTheImports pw
noncomputable def c0 : Code := .body b0 env0
noncomputable def B0 : List Frame := [topFrame ⟨0, 0, 0, 0⟩]
noncomputable def ann0 : Option Value := some (.ref 6)
theorem pc_1 (w : World) (os : OsState) : segRunT treeTable pw w 11 ann0 1 10 (st_0 w os) (piecesOf [stAt 0] env0 c0 ps_0 B0) = some (.next, st_1 w os, c0, ps_1) := by kernel_rfl
theorem pc_3 (w : World) (os : OsState) : segRunT treeTable pw w 11 ann0 1 30 (st_2 w os) (piecesOf [stAt 2] env0 c0 ps_2 B0) = some (.next, st_3 w os, c0, ps_3) := by kernel_rfl
theorem pc_5 (w : World) (os : OsState) : segRunT treeTable pw w 11 ann0 1 31 (st_4 w os) (piecesOf [stAt 4] env0 c0 ps_4 B0) = some (.next, st_5 w os, c0, ps_5) := by kernel_rfl
theorem pc_6 (w : World) (os : OsState) : segRunT treeTable pw w 11 ann0 1 10 (st_5 w os) (piecesOf [stAt 5] env0 c0 ps_5 B0) = some (.next, st_6 w os, c0, ps_6) := by kernel_rfl
theorem pc_7 (w : World) (os : OsState) : segRunT treeTable pw w 11 ann0 1 10 (st_6 w os) (piecesOf [stAt 6] env0 c0 ps_6 B0) = some (.next, st_7 w os, c0, ps_7) := by kernel_rfl
theorem pc_8 (w : World) (os : OsState) : segRunT treeTable pw w 11 ann0 1 35 (st_7 w os) (piecesOf [stAt 7] env0 c0 ps_7 B0) = some (.next, st_8 w os, c0, ps_8) := by kernel_rfl
theorem pc_9 (w : World) (os : OsState) : segRunT treeTable pw w 11 ann0 1 10 (st_8 w os) (piecesOf [stAt 8] env0 c0 ps_8 B0) = some (.next, st_9 w os, c0, ps_9) := by kernel_rfl
theorem pc_10 (w : World) (os : OsState) : segRunT treeTable pw w 11 ann0 1 10 (st_9 w os) (piecesOf [stAt 9] env0 c0 ps_9 B0) = some (.next, st_10 w os, c0, ps_10) := by kernel_rfl
theorem pc_11 (w : World) (os : OsState) : segRunT treeTable pw w 11 ann0 1 32 (st_10 w os) (piecesOf [stAt 10] env0 c0 ps_10 B0) = some (.next, st_11 w os, c0, ps_11) := by kernel_rfl
theorem pc_12 (w : World) (os : OsState) : segRunT treeTable pw w 11 ann0 1 33 (st_11 w os) (piecesOf [stAt 11] env0 c0 ps_11 B0) = some (.next, st_12 w os, c0, ps_12) := by kernel_rfl
theorem pc_13 (w : World) (os : OsState) : segRunT treeTable pw w 11 ann0 1 10 (st_12 w os) (piecesOf [stAt 12] env0 c0 ps_12 B0) = some (.next, st_13 w os, c0, ps_13) := by kernel_rfl
theorem pc_14 (w : World) (os : OsState) : segRunT treeTable pw w 11 ann0 1 32 (st_13 w os) (piecesOf [stAt 13] env0 c0 ps_13 B0) = some (.next, st_14 w os, c0, ps_14) := by kernel_rfl
theorem pc_15 (w : World) (os : OsState) : segRunT treeTable pw w 11 ann0 1 30 (st_14 w os) (piecesOf [stAt 14] env0 c0 ps_14 B0) = some (.next, st_15 w os, c0, ps_15) := by kernel_rfl
theorem pc_16 (w : World) (os : OsState) : segRunT treeTable pw w 11 ann0 1 33 (st_15 w os) (piecesOf [stAt 15] env0 c0 ps_15 B0) = some (.next, st_16 w os, c0, ps_16) := by kernel_rfl
theorem pc_17 (w : World) (os : OsState) : segRunT treeTable pw w 11 ann0 1 36 (st_16 w os) (piecesOf [stAt 16] env0 c0 ps_16 B0) = some (.next, st_17 w os, c0, ps_17) := by kernel_rfl
theorem pc_18 (w : World) (os : OsState) : segRunT treeTable pw w 11 ann0 1 35 (st_17 w os) (piecesOf [stAt 17] env0 c0 ps_17 B0) = some (.next, st_18 w os, c0, ps_18) := by kernel_rfl
theorem pc_19 (w : World) (os : OsState) : segRunT treeTable pw w 11 ann0 1 27 (st_18 w os) (piecesOf [stAt 18] env0 c0 ps_18 B0) = some (.next, st_19 w os, c0, ps_19) := by kernel_rfl
theorem pc_20 (w : World) (os : OsState) : segRunT treeTable pw w 11 ann0 1 27 (st_19 w os) (piecesOf [stAt 19] env0 c0 ps_19 B0) = some (.next, st_20 w os, c0, ps_20) := by kernel_rfl
theorem pc_21 (w : World) (os : OsState) : segRunT treeTable pw w 11 ann0 1 32 (st_20 w os) (piecesOf [stAt 20] env0 c0 ps_20 B0) = some (.next, st_21 w os, c0, ps_21) := by kernel_rfl
theorem pc_22 (w : World) (os : OsState) : segRunT treeTable pw w 11 ann0 1 27 (st_21 w os) (piecesOf [stAt 21] env0 c0 ps_21 B0) = some (.next, st_22 w os, c0, ps_22) := by kernel_rfl
theorem pc_23 (w : World) (os : OsState) : segRunT treeTable pw w 11 ann0 1 27 (st_22 w os) (piecesOf [stAt 22] env0 c0 ps_22 B0) = some (.next, st_23 w os, c0, ps_23) := by kernel_rfl
theorem pc_24 (w : World) (os : OsState) : segRunT treeTable pw w 11 ann0 1 27 (st_23 w os) (piecesOf [stAt 23] env0 c0 ps_23 B0) = some (.next, st_24 w os, c0, ps_24) := by kernel_rfl
end
section
abbrev G1 (w : World) (n : Nat) (s : Shared) (t : Thread) := segGo treeTable pw w 11 ann0 1 n s t
theorem G1_trans {w : World} : ∀ {n m : Nat} {s s1 : Shared} {t t1 : Thread} {r : Option (Shared × Thread)}, G1 w n s t = some (s1, t1) → G1 w m s1 t1 = r → G1 w (n + m) s t = r
  | 0, m, s, s1, t, t1, r, h, k => by
    obtain ⟨rfl, rfl⟩ : s = s1 ∧ t = t1 := by simpa [segGo] using h
    rw [Nat.zero_add]; exact k
  | n + 1, m, s, s1, t, t1, r, h, k => by
    rw [show n + 1 + m = n + m + 1 by omega]
    unfold G1 segGo at h ⊢
    cases he : endAt 1 t with
    | some f => rw [he] at h; cases h
    | none =>
      rw [he] at h
      cases hk : stepOk 11 ann0 t with
      | false => rw [hk] at h; cases h
      | true =>
        rw [hk] at h
        cases hs : step (denote treeTable) pw w s t with
        | halt o s2 => rw [hs] at h; cases h
        | go s2 t2 => rw [hs] at h; exact G1_trans h k
/-- the tree runs from s to s' at the top's own block and hands on a -/
noncomputable def Do (w : World) (B : Nat) {α : Type} (m : Sem α) (s : Shared) (a : α) (s' : Shared) : Prop :=
  ∀ (K : α → Sem Fin) (H : Value → Sem Fin) (gd : Bool → Bool) (lv : List Value → List Value) (p : Pos),
    ∃ n p', n ≤ B ∧ G1 w n s ⟨m.wrap K H gd lv, c0, p, B0⟩ = some (s', ⟨K a, c0, p', B0⟩)
section
variable {w : World} {B B1 B2 : Nat} {α β : Type} {s s1 s2 s' : Shared} {a : α} {b : β}
theorem Do.pure : Do w 0 (Pure.pure a : Sem α) s a s := fun K H gd lv p => ⟨0, p, Nat.le_refl _, rfl⟩
theorem Do.le {m : Sem α} (h : Do w B1 m s a s') (hb : B1 ≤ B2) : Do w B2 m s a s' := fun K H gd lv p => by
  obtain ⟨n, p', l, e⟩ := h K H gd lv p
  exact ⟨n, p', Nat.le_trans l hb, e⟩
theorem Do.bind {m : Sem α} {f : α → Sem β} (h1 : Do w B1 m s a s1) (h2 : Do w B2 (f a) s1 b s2) : Do w (B1 + B2) (m >>= f) s b s2 := fun K H gd lv p => by
  obtain ⟨n, p', l1, e1⟩ := h1 (fun a => (f a).wrap K H gd lv) (fun e => (Sem.raise e : Sem β).wrap K H gd lv) gd lv p
  obtain ⟨m', p'', l2, e2⟩ := h2 K H gd lv p'
  refine ⟨n + m', p'', Nat.add_le_add l1 l2, G1_trans ?_ e2⟩
  rw [Sem.bind_eq_wrap', Sem.wrap_wrap]
  exact e1
theorem Do.keep {m : Sem α} {vs : List Value} (h : Do w B m s a s') : Do w B (m.keep vs) s a s' := fun K H gd lv p => by
  rw [Sem.keep_eq_wrap, Sem.wrap_wrap]
  exact h K H gd (fun l => lv (vs ++ l)) p
theorem Do.holding {m : Sem α} {vs : List Value} (h : Do w B m s a s') : Do w B (holding vs m) s a s' := by
  unfold PySem.holding
  split
  · exact h
  · exact h.keep
theorem Do.onRaise {m : Sem α} {f : Value → Sem Unit} (h : Do w B m s a s') : Do w B (m.onRaise f) s a s' := fun K H gd lv p => by
  rw [Sem.onRaise_eq_wrap, Sem.wrap_wrap]
  exact h K _ gd lv p
theorem one {t t' : Thread} (e : endAt 1 t = none) (k : stepOk 11 ann0 t = true) (h : step (denote treeTable) pw w s t = .go s' t') : G1 w 1 s t = some (s', t') := by
  unfold G1 segGo
  rw [e, k, h]
  rfl
theorem Do.load {ad : Addr} {part : Option Value} {o : Obj} {k : Obj → Sem α} (ho : s.heap.get? ad = some o) (h : Do w B (k o) s a s') : Do w (1 + B) (.load ad part k) s a s' := fun K H gd lv p => by
  obtain ⟨n, p', le, e⟩ := h K H gd lv p
  refine ⟨1 + n, p', Nat.add_le_add_left le 1, G1_trans (one rfl rfl ?_) e⟩
  show step (denote treeTable) pw w s ⟨.load ad part fun x => (k x).wrap K H gd lv, c0, p, B0⟩ = _
  simp only [step, ho]
theorem Do.update {ad : Addr} {part : Option Value} {f : Obj → Obj} {k : Unit → Sem α} (h0 : (s.heap.get? ad).isSome = true) (hb : Nat.ble 11 ad = true) (h : Do w B (k ()) { s with heap := s.heap.update ad f } a s') : Do w (1 + B) (.update ad part f k) s a s' := fun K H gd lv p => by
  obtain ⟨n, p', le, e⟩ := h K H gd lv p
  refine ⟨1 + n, p', Nat.add_le_add_left le 1, G1_trans (one rfl ?_ ?_) e⟩
  · show (true && (Nat.ble 11 ad || _ || _ || _)) = true
    rw [hb]; rfl
  · show step (denote treeTable) pw w s ⟨.update ad part f fun x => (k x).wrap K H gd lv, c0, p, B0⟩ = _
    simp only [step, h0, if_true]
theorem Do.alloc {o : Obj} {k : Addr → Sem α} (h : Do w B (k s.heap.objs.size) { s with heap := s.heap.push o } a s') : Do w (1 + B) (.alloc o k) s a s' := fun K H gd lv p => by
  obtain ⟨n, p', le, e⟩ := h K H gd lv p
  exact ⟨1 + n, p', Nat.add_le_add_left le 1, G1_trans (one rfl rfl rfl) e⟩
theorem Do.rule {t : String} {k : Unit → Sem α} (h : Do w B (k ()) s a s') : Do w (1 + B) (.rule t k) s a s' := fun K H gd lv p => by
  obtain ⟨n, p', le, e⟩ := h K H gd lv p
  exact ⟨1 + n, p', Nat.add_le_add_left le 1, G1_trans (one rfl rfl rfl) e⟩
theorem Do.at' {q : Pos} {k : Unit → Sem α} (h : Do w B (k ()) s a s') : Do w (1 + B) (.at q k) s a s' := fun K H gd lv p => by
  obtain ⟨n, p', le, e⟩ := h K H gd lv q
  exact ⟨1 + n, p', Nat.add_le_add_left le 1, G1_trans (one rfl rfl rfl) e⟩
theorem Do.fresh {k : Tok → Sem α} (h : Do w B (k s.toks) { s with toks := s.toks + 1 } a s') : Do w (1 + B) (.fresh k) s a s' := fun K H gd lv p => by
  obtain ⟨n, p', le, e⟩ := h K H gd lv p
  exact ⟨1 + n, p', Nat.add_le_add_left le 1, G1_trans (one rfl rfl rfl) e⟩
theorem Do.point {l : List Value} {k : Unit → Sem α} (h : Do w B (k ()) s a s') : Do w (1 + B) (.point l k) s a s' := fun K H gd lv p => by
  obtain ⟨n, p', le, e⟩ := h K H gd lv p
  exact ⟨1 + n, p', Nat.add_le_add_left le 1, G1_trans (one rfl rfl rfl) e⟩
end
/-- the hash of a small int -/
noncomputable def hI (i : Int) : Int := if ((if i < 0 then -((i.natAbs : Int) % (2 ^ 61 - 1)) else (i.natAbs : Int) % (2 ^ 61 - 1)) == -1) = true then -2 else if i < 0 then -((i.natAbs : Int) % (2 ^ 61 - 1)) else (i.natAbs : Int) % (2 ^ 61 - 1)
theorem hI_eq {i : Int} (h0 : 0 ≤ i) (h1 : i < 2 ^ 61 - 1) : hI i = i := by
  unfold hI
  have e : ¬ i < 0 := by omega
  have e2 : (i.natAbs : Int) % (2 ^ 61 - 1) = i := by omega
  simp only [e, if_false, e2]
  rw [if_neg]
  simp
  omega
theorem hash_steps (w : World) (i : Int) (t : Tok) (s : Shared) (K : Int → Sem Fin) (H : Value → Sem Fin) (gd : Bool → Bool) (lv : List Value → List Value) (p : Pos) :
    G1 w 5 s ⟨(pyHash (.int i t)).wrap K H gd lv, c0, p, B0⟩ = some ({ s with toks := s.toks + 1 }, ⟨(pyHashByItsType.reduced (hI i)).wrap K H gd lv, c0, p, B0⟩) :=
  byRow2 "special-get-raises" (P := fun w => G1 w 5 s ⟨(pyHash (.int i t)).wrap K H gd lv, c0, p, B0⟩ = some ({ s with toks := s.toks + 1 }, ⟨(pyHashByItsType.reduced (hI i)).wrap K H gd lv, c0, p, B0⟩)) (fun w => by kernel_rfl) (fun w => by kernel_rfl) w
theorem reduced_eq {i : Int} (h0 : 0 ≤ i) (h1 : i < 2 ^ 61 - 1) : pyHashByItsType.reduced i = Pure.pure i := by
  unfold pyHashByItsType.reduced
  have e : (decide (-(2 ^ 63 : Int) ≤ i) && decide (i < 2 ^ 63)) = true := by simp; omega
  have e2 : (i == -1) = false := by simp; omega
  simp only [e, if_true, e2]
  rfl
theorem do_hash {w : World} {i : Int} {t : Tok} {s : Shared} (h0 : 0 ≤ i) (h1 : i < 2 ^ 61 - 1) : Do w 5 (pyHash (.int i t)) s i { s with toks := s.toks + 1 } := fun K H gd lv p =>
  ⟨5, p, Nat.le_refl _, by rw [hash_steps, hI_eq h0 h1, reduced_eq h0 h1]; rfl⟩
section
variable {w : World} {s : Shared}
theorem places_nil {es : Array DictEntry} {h : Int} (hn : ∀ e ∈ es.toList, e.hash ≠ h) : placesWithHash es.size (fun i => es[i]?.map (·.hash)) h = [] := by
  unfold placesWithHash
  rw [List.filter_eq_nil_iff]
  intro i hi
  rw [List.mem_range] at hi
  have : es[i]? = some es[i] := by simp [hi]
  dsimp only
  rw [this]
  simp only [Option.map_some, beq_iff_eq, Option.some.injEq]
  exact hn _ (Array.mem_toList_iff.mpr (Array.getElem_mem hi))
theorem do_find {d : Addr} {es : List DictEntry} {n : Nat} {k : Int} {t : Tok} {h : Int} (ho : s.heap.get? d = some (dO es n)) (hn : ∀ e ∈ es, e.hash ≠ h) : Do w 1 (dictFind d (.int k t) h) s none s := by
  unfold dictFind
  refine Do.holding ?_
  refine Do.bind (B1 := 1) (B2 := 0) (a := es.toArray) (s1 := s) ?_ ?_
  · exact Do.load (B := 0) (k := fun o => (match o.data with | .dict es _ => Pure.pure es | _ => unsupported _ : Sem (Array DictEntry))) ho Do.pure
  · rw [places_nil (by simpa using hn)]
    exact Do.pure
theorem do_push {d : Addr} {es : List DictEntry} {n : Nat} {e : DictEntry} {part : Option Value} (hd : Nat.ble 11 d = true) (ho : s.heap.get? d = some (dO es n)) (hs : es.length < 1000)
    (hu : ∀ f, (s.heap.update d f).get? d = some (f (dO es n)) ∨ (f (dO es n)).isFreed = true) :
    Do w 3 (updateDictKeys d (·.push e) part) s () { s with heap := s.heap.update d (Obj.mapDictKeys (·.push e)) } := by
  unfold updateDictKeys
  refine Do.bind (B1 := 1) (B2 := 2) (a := dO es n) (s1 := s) (Do.load (B := 0) ho Do.pure) ?_
  refine Do.bind (B1 := 1) (B2 := 1) (a := ()) (s1 := { s with heap := s.heap.update d (Obj.mapDictKeys (·.push e)) }) ?_ ?_
  · exact Do.update (B := 0) (by rw [ho]; rfl) hd Do.pure
  · unfold lookBehind
    have hg : (s.heap.update d (Obj.mapDictKeys (·.push e))).get? d = some (dO (es ++ [e]) (n + 1)) := by
      rcases hu (Obj.mapDictKeys (·.push e)) with h | h
      · rw [h]; simp [dO, Obj.mapDictKeys]
      · simp [dO, Obj.mapDictKeys, Obj.isFreed] at h
    refine Do.bind (B1 := 1) (B2 := 0) (a := dO (es ++ [e]) (n + 1)) (Do.load (B := 0) hg Do.pure) ?_
    have : (dO (es ++ [e]) (n + 1)).data.pastItsLine = none := by
      simp [dO, Data.pastItsLine, sizeLine]; omega
    rw [this]
    exact Do.pure
end
noncomputable def Hp (l : List Obj) (m : Obj) (r : List Obj) : Heap := ⟨(l ++ m :: r).toArray, lf⟩
noncomputable def Sh (l : List Obj) (m : Obj) (r : List Obj) (tk : Nat) (os : OsState) : Shared := ⟨Hp l m r, #[], boot_drawn, tk, os⟩
noncomputable def Sh0 (l : List Obj) (tk : Nat) (os : OsState) : Shared := ⟨⟨l.toArray, lf⟩, #[], boot_drawn, tk, os⟩
theorem Hp_get {l : List Obj} {m : Obj} {r : List Obj} (hf : m.isFreed = false) : (Hp l m r).get? l.length = some m := by
  unfold Hp Heap.get?
  have : (l ++ m :: r).toArray[l.length]? = some m := by simp
  rw [this]
  obtain ⟨c, d, dt, sl⟩ := m
  cases dt <;> first | rfl | simp [Obj.isFreed] at hf
theorem Hp_upd {l : List Obj} {m : Obj} {r : List Obj} {f : Obj → Obj} : (Hp l m r).update l.length f = Hp l (f m) r := by
  show (⟨(l ++ m :: r).toArray.modify l.length f, lf⟩ : Heap) = ⟨(l ++ f m :: r).toArray, lf⟩
  have e : (l ++ m :: r).toArray.modify l.length f = (l ++ f m :: r).toArray := ?_
  · rw [e]
  apply Array.ext_getElem?
  intro i
  rw [Array.getElem?_modify]
  simp only [List.getElem?_toArray]
  by_cases h : l.length = i
  · subst h; simp
  · rw [if_neg h]
    rcases Nat.lt_or_ge i l.length with hi | hi
    · rw [List.getElem?_append_left hi, List.getElem?_append_left hi]
    · have : i - l.length = (i - l.length - 1) + 1 := by omega
      rw [List.getElem?_append_right hi, List.getElem?_append_right hi, this, List.getElem?_cons_succ, List.getElem?_cons_succ]
theorem dO_live {es : List DictEntry} {n : Nat} : (dO es n).isFreed = false := rfl
theorem dO_push {es : List DictEntry} {n : Nat} {e : DictEntry} : Obj.mapDictKeys (·.push e) (dO es n) = dO (es ++ [e]) (n + 1) := by simp [dO, Obj.mapDictKeys]
section
variable {w : World} {l r : List Obj} {es : List DictEntry} {n tk : Nat} {os : OsState}
theorem do_pushH {e : DictEntry} {part : Option Value} {d : Addr} (hd : d = l.length) (h11 : 11 ≤ l.length) (hs : es.length < 1000) :
    Do w 3 (updateDictKeys d (·.push e) part) (Sh l (dO es n) r tk os) () (Sh l (dO (es ++ [e]) (n + 1)) r tk os) := by
  subst hd
  have h := do_push (w := w) (s := Sh l (dO es n) r tk os) (d := l.length) (es := es) (n := n) (e := e) (part := part) (Nat.ble_eq_true_of_le h11) (Hp_get dO_live) hs (fun f => by
    show ((Hp l (dO es n) r).update l.length f).get? l.length = _ ∨ _
    rw [Hp_upd]
    cases hf : (f (dO es n)).isFreed with
    | true => exact .inr rfl
    | false => exact .inl (Hp_get hf))
  have e' : ({ Sh l (dO es n) r tk os with heap := (Sh l (dO es n) r tk os).heap.update l.length (Obj.mapDictKeys (·.push e)) } : Shared) = Sh l (dO (es ++ [e]) (n + 1)) r tk os := by
    show (⟨(Hp l (dO es n) r).update l.length _, _, _, _, _⟩ : Shared) = _
    rw [Hp_upd, dO_push]; rfl
  rw [e'] at h
  exact h
theorem do_put {k : Int} {t : Tok} {v : Value} {d : Addr} (hd : d = l.length) (h11 : 11 ≤ l.length) (hs : es.length < 1000) (hn : ∀ e ∈ es, e.hash ≠ k) :
    Do w 4 (dictPut d k (.int k t) v) (Sh l (dO es n) r tk os) () (Sh l (dO (es ++ [⟨k, .int k t, v⟩]) (n + 1)) r tk os) := by
  unfold dictPut
  refine Do.bind (B1 := 1) (B2 := 3) (do_find (by subst hd; exact Hp_get dO_live) hn) ?_
  exact do_pushH hd h11 hs
theorem do_set {k : Int} {t : Tok} {v : Value} {d : Addr} (hd : d = l.length) (h11 : 11 ≤ l.length) (hs : es.length < 1000) (hn : ∀ e ∈ es, e.hash ≠ k) (h0 : 0 ≤ k) (h1 : k < 2 ^ 61 - 1) :
    Do w 10 (dictSet d (.int k t) v) (Sh l (dO es n) r tk os) () (Sh l (dO (es ++ [⟨k, .int k t, v⟩]) (n + 1)) r (tk + 1) os) := by
  unfold dictSet
  refine Do.holding (Do.bind (B1 := 5) (B2 := 5) (do_hash h0 h1) ?_)
  unfold dictSetHashed
  refine Do.holding (Do.bind (B1 := 1) (B2 := 4) (a := (none : Option Nat)) (s1 := Sh l (dO es n) r (tk + 1) os) (do_find (by subst hd; exact Hp_get dO_live) hn) ?_)
  exact Do.rule (B := 3) (do_pushH hd h11 hs)
end
theorem ents3_hash : ∀ (l : List (Int × Str)) (t : Nat), (ents3 l t).map (·.hash) = l.map (·.1)
  | [], _ => rfl
  | p :: r, t => by simp [ents3, ents3_hash r]
theorem ents2_hash : ∀ (l : List (Int × Str)) (t : Nat), (ents2 l t).map (·.hash) = l.map (·.1)
  | [], _ => rfl
  | p :: r, t => by simp [ents2, ents2_hash r]
abbrev vSem (pos : Pos) (x : Str) : Sem Value := (do let v ← mkText x; standAt pos; Pure.pure v)
abbrev prs (pos : Pos) (l : List (Int × Str)) : List (Sem Value × Sem Value) := l.map fun q => (mkInt q.1, vSem pos q.2)
noncomputable def Small (l : List (Int × Str)) : Prop := ∀ q ∈ l, 0 ≤ q.1 ∧ q.1 < 2 ^ 61 - 1
/-- the hashes of what is there and the keys to come: all unlike -/
noncomputable def Apart (es : List DictEntry) (l : List (Int × Str)) : Prop := (es.map (·.hash) ++ l.map (·.1)).Nodup
theorem Apart.head {es : List DictEntry} {q : Int × Str} {l : List (Int × Str)} (h : Apart es (q :: l)) : ∀ e ∈ es, e.hash ≠ q.1 := by
  intro e he
  unfold Apart at h
  rw [List.nodup_append] at h
  exact h.2.2 _ (List.mem_map_of_mem he) _ (by simp)
theorem Apart.next {es : List DictEntry} {q : Int × Str} {l : List (Int × Str)} (h : Apart es (q :: l)) (e : DictEntry) (he : e.hash = q.1) : Apart (es ++ [e]) l := by
  unfold Apart at h ⊢
  simpa [he] using h
section
variable {w : World} {l r : List Obj} {os : OsState}
theorem do_mkInt {i : Int} {s : Shared} : Do w 1 (mkInt i) s (.int i s.toks) { s with toks := s.toks + 1 } := Do.fresh (B := 0) Do.pure
theorem do_vSem {x : Str} {pos : Pos} {s : Shared} : Do w 2 (vSem pos x) s (.str x s.toks) { s with toks := s.toks + 1 } :=
  Do.bind (B1 := 1) (B2 := 1) (Do.fresh (B := 0) Do.pure) (Do.at' (B := 0) Do.pure)
theorem do_long (pos : Pos) {d : Addr} (hd : d = l.length) (h11 : 11 ≤ l.length) : ∀ (q : List (Int × Str)) (es : List DictEntry) (n tk : Nat), Small q → Apart es q → es.length + q.length < 1000 →
    Do w (13 * q.length) (forIn (prs pos q) PUnit.unit fun x (_ : PUnit) => do
      let kv ← x.1
      let vv ← holding [kv] x.2
      holding [kv, vv] (dictSet d kv vv)
      Pure.pure (ForInStep.yield PUnit.unit)) (Sh l (dO es n) r tk os) PUnit.unit (Sh l (dO (es ++ ents3 q tk) (n + q.length)) r (tk + 3 * q.length) os)
  | [], es, n, tk, _, _, _ => by simp only [List.map_nil, List.forIn_nil, ents3, List.append_nil, List.length_nil, Nat.add_zero, Nat.mul_zero]; exact Do.pure
  | p :: q, es, n, tk, hS, hA, hL => by
    simp only [List.map_cons, List.forIn_cons]
    have hp := hS p (.head _)
    refine Do.le (Do.bind (B1 := 13) (B2 := 13 * q.length) (a := ForInStep.yield PUnit.unit) (s1 := Sh l (dO (es ++ [⟨p.1, .int p.1 tk, .str p.2 (tk + 1)⟩]) (n + 1)) r (tk + 3) os) ?_ ?_) (by simp only [List.length_cons]; omega)
    · refine Do.bind (B1 := 1) (B2 := 12) do_mkInt (Do.bind (B1 := 2) (B2 := 10) (Do.holding do_vSem) (Do.bind (B1 := 10) (B2 := 0) (a := ()) (s1 := Sh l (dO (es ++ [⟨p.1, .int p.1 tk, .str p.2 (tk + 1)⟩]) (n + 1)) r (tk + 3) os) ?_ Do.pure))
      exact Do.holding (do_set (tk := tk + 2) hd h11 (by simp at hL; omega) hA.head hp.1 hp.2)
    · have ih := do_long pos hd h11 q (es ++ [⟨p.1, .int p.1 tk, .str p.2 (tk + 1)⟩]) (n + 1) (tk + 3) (fun x hx => hS x (.tail _ hx)) (hA.next _ rfl) (by simp at hL ⊢; omega)
      have e1 : (es ++ [⟨p.1, .int p.1 tk, .str p.2 (tk + 1)⟩]) ++ ents3 q (tk + 3) = es ++ ents3 (p :: q) tk := by simp [ents3]
      have e2 : n + 1 + q.length = n + (p :: q).length := by simp; omega
      have e3 : tk + 3 + 3 * q.length = tk + 3 * (p :: q).length := by simp; omega
      rw [e1, e2, e3] at ih
      exact ih
theorem do_alloc {o : Obj} {s : Shared} : Do w 1 (alloc o) s s.heap.objs.size { s with heap := s.heap.push o } := Do.alloc (B := 0) Do.pure
theorem push_eq {tk : Nat} {o : Obj} : ({ Sh0 l tk os with heap := (Sh0 l tk os).heap.push o } : Shared) = Sh l o [] tk os := by
  show (⟨⟨l.toArray.push o, lf⟩, _, _, _, _⟩ : Shared) = ⟨⟨(l ++ [o]).toArray, lf⟩, _, _, _, _⟩
  rw [List.push_toArray]
  rfl
theorem size_eq0 {tk : Nat} : (Sh0 l tk os).heap.objs.size = l.length := by simp [Sh0]
theorem dO_nil : ({ cls := .type "dict", data := .dict #[] } : Obj) = dO [] 0 := rfl
theorem do_sub_long (pos : Pos) (h11 : 11 ≤ l.length) (q : List (Int × Str)) (tk : Nat) (hS : Small q) (hA : Apart [] q) (hL : q.length < 1000) (h15 : 15 < q.length) :
    Do w (2 + 13 * q.length) (subDict (prs pos q)) (Sh0 l tk os) l.length (Sh l (dO (ents3 q tk) q.length) [] (tk + 3 * q.length) os) := by
  unfold subDict
  refine Do.le (Do.bind (B1 := 1) (B2 := 1 + 13 * q.length) (a := l.length) (s1 := Sh l (dO [] 0) [] tk os) ?_ ?_) (by omega)
  · have := do_alloc (w := w) (o := { cls := .type "dict", data := .dict #[] }) (s := Sh0 l tk os)
    rw [push_eq, size_eq0] at this
    exact this
  · have e : ¬ (prs pos q).length ≤ 15 := by simp; omega
    have h := do_long (w := w) (os := os) (r := []) pos (d := l.length) rfl h11 q [] 0 tk hS hA (by simpa using hL)
    simp only [List.nil_append, Nat.zero_add] at h
    refine Do.bind (B1 := 1 + 13 * q.length) (B2 := 0) (a := ()) (s1:= Sh l (dO (ents3 q tk) q.length) [] (tk + 3 * q.length) os) (Do.holding ?_) Do.pure
    rw [if_neg e]
    exact Do.rule (Do.le (Do.bind (B1 := 0) (B2 := 13 * q.length) (a := ()) Do.pure (Do.bind (B1 := 13 * q.length) (B2 := 0) h Do.pure)) (by omega))
noncomputable def vals2 : List (Int × Str) → Nat → List (Value × Value)
  | [], _ => []
  | p :: q, t => (.int p.1 t, .str p.2 (t + 1)) :: vals2 q (t + 2)
theorem do_evalPairs (pos : Pos) : ∀ (q : List (Int × Str)) (s : Shared), Do w (3 * q.length) (evalPairs (prs pos q)) s (vals2 q s.toks) { s with toks := s.toks + 2 * q.length }
  | [], s => Do.pure
  | p :: q, s => by
    simp only [List.map_cons, evalPairs]
    refine Do.le (Do.bind (B1 := 1) (B2 := 2 + 3 * q.length) do_mkInt (Do.bind (B1 := 2) (B2 := 3 * q.length) (Do.holding do_vSem) (Do.bind (B1 := 3 * q.length) (B2 := 0) (Do.holding (do_evalPairs pos q _)) ?_))) (by simp only [List.length_cons]; omega)
    have e : ({ s with toks := s.toks + 1 + 1 + 2 * q.length } : Shared) = { s with toks := s.toks + 2 * (p :: q).length } := by
      congr 1; simp; omega
    rw [← e]
    exact Do.pure
theorem do_short {d : Addr} (hd : d = l.length) (h11 : 11 ≤ l.length) : ∀ (q : List (Int × Str)) (es : List DictEntry) (n tk t0 : Nat), Small q → Apart es q → es.length + q.length < 1000 →
    Do w (10 * q.length) (forIn (vals2 q t0) PUnit.unit fun x (_ : PUnit) => do
      dictSet d x.1 x.2
      Pure.pure (ForInStep.yield PUnit.unit)) (Sh l (dO es n) r tk os) PUnit.unit (Sh l (dO (es ++ ents2 q t0) (n + q.length)) r (tk + q.length) os)
  | [], es, n, tk, t0, _, _, _ => by simp only [vals2, List.forIn_nil, ents2, List.append_nil, List.length_nil, Nat.add_zero]; exact Do.pure
  | p :: q, es, n, tk, t0, hS, hA, hL => by
    simp only [vals2, List.forIn_cons]
    have hp := hS p (.head _)
    refine Do.le (Do.bind (B1 := 10) (B2 := 10 * q.length) (a := ForInStep.yield PUnit.unit) (s1 := Sh l (dO (es ++ [⟨p.1, .int p.1 t0, .str p.2 (t0 + 1)⟩]) (n + 1)) r (tk + 1) os) ?_ ?_) (by simp only [List.length_cons]; omega)
    · exact Do.bind (B1 := 10) (B2 := 0) (do_set (tk := tk) hd h11 (by simp at hL; omega) hA.head hp.1 hp.2) Do.pure
    · have ih := do_short hd h11 q (es ++ [⟨p.1, .int p.1 t0, .str p.2 (t0 + 1)⟩]) (n + 1) (tk + 1) (t0 + 2) (fun x hx => hS x (.tail _ hx)) (hA.next _ rfl) (by simp at hL ⊢; omega)
      have e1 : (es ++ [⟨p.1, .int p.1 t0, .str p.2 (t0 + 1)⟩]) ++ ents2 q (t0 + 2) = es ++ ents2 (p :: q) t0 := by simp [ents2]
      have e2 : n + 1 + q.length = n + (p :: q).length := by simp; omega
      have e3 : tk + 1 + q.length = tk + (p :: q).length := by simp; omega
      rw [e1, e2, e3] at ih
      exact ih
theorem do_sub_short (pos : Pos) (h11 : 11 ≤ l.length) (q : List (Int × Str)) (tk : Nat) (hS : Small q) (hA : Apart [] q) (h15 : q.length ≤ 15) :
    Do w (2 + 13 * q.length) (subDict (prs pos q)) (Sh0 l tk os) l.length (Sh l (dO (ents2 q tk) q.length) [] (tk + 3 * q.length) os) := by
  unfold subDict
  refine Do.le (Do.bind (B1 := 1) (B2 := 1 + 13 * q.length) (a := l.length) (s1 := Sh l (dO [] 0) [] tk os) ?_ ?_) (by omega)
  · have := do_alloc (w := w) (o := { cls := .type "dict", data := .dict #[] }) (s := Sh0 l tk os)
    rw [push_eq, size_eq0] at this
    exact this
  · have e : (prs pos q).length ≤ 15 := by simpa using h15
    have h := do_short (w := w) (os := os) (r := []) (d := l.length) rfl h11 q [] 0 (tk + 2 * q.length) tk hS hA (by simp; omega)
    simp only [List.nil_append, Nat.zero_add] at h
    refine Do.le (B1 := 13 * q.length) (Do.bind (B1 := 13 * q.length) (B2 := 0) (a := ()) (s1 := Sh l (dO (ents2 q tk) q.length) [] (tk + 3 * q.length) os) (Do.holding ?_) Do.pure) (by omega)
    rw [if_pos e]
    refine Do.le (Do.bind (B1 := 3 * q.length) (B2 := 10 * q.length) (do_evalPairs pos q _) (Do.holding ?_)) (by omega)
    have e3 : tk + 2 * q.length + q.length = tk + 3 * q.length := by omega
    rw [e3] at h
    exact Do.bind (B1 := 10 * q.length) (B2 := 0) h Do.pure
end
end
section
theorem sub_dict : isSubtype (.type "dict") (.type "dict") = (Pure.pure true : Sem Bool) := by kernel_rfl
theorem look_dict_iter : typeLookup (.type "dict") (Str.ofString "__iter__") = (Pure.pure (some (.builtin "dict.__iter__")) : Sem (Option Value)) := by kernel_rfl
theorem Hp_get2 {l : List Obj} {m : Obj} {r : List Obj} {j : Nat} {o : Obj} (hj : r[j]? = some o) (hf : o.isFreed = false) : (Hp l m r).get? (l.length + 1 + j) = some o := by
  unfold Hp Heap.get?
  have : (l ++ m :: r).toArray[l.length + 1 + j]? = some o := by
    rw [List.getElem?_toArray, List.getElem?_append_right (by omega)]
    have : l.length + 1 + j - l.length = j + 1 := by omega
    rw [this, List.getElem?_cons_succ, hj]
  dsimp only
  rw [this]
  obtain ⟨c, d, dt, sl⟩ := o
  cases dt <;> first | rfl | simp [Obj.isFreed] at hf
section
variable {w : World} {s : Shared}
theorem do_typeOf {a : Addr} {o : Obj} (ho : s.heap.get? a = some o) : Do w 1 (typeOf (.ref a)) s o.cls s := Do.bind (B1 := 1) (B2 := 0) (Do.load (B := 0) ho Do.pure) Do.pure
theorem do_isDict {a : Addr} {es : List DictEntry} {n : Nat} (ho : s.heap.get? a = some (dO es n)) : Do w 1 (isInstance (.ref a) (.type "dict")) s true s := by
  unfold isInstance
  refine Do.bind (B1 := 1) (B2 := 0) (do_typeOf ho) ?_
  show Do w 0 (isSubtype (.type "dict") (.type "dict")) s true s
  rw [sub_dict]
  exact Do.pure
theorem do_iterOf {a : Addr} {es : List DictEntry} {n : Nat} (ho : s.heap.get? a = some (dO es n)) : Do w 1 (specialOf (.ref a) (Str.ofString "__iter__")) s (some (.builtin "dict.__iter__")) s := by
  unfold specialOf
  refine Do.bind (B1 := 1) (B2 := 0) (do_typeOf ho) ?_
  show Do w 0 (typeLookup (.type "dict") (Str.ofString "__iter__")) s _ s
  rw [look_dict_iter]
  exact Do.pure
theorem do_entries {a : Addr} {es : List DictEntry} {n : Nat} {part : Option Value} (ho : s.heap.get? a = some (dO es n)) : Do w 1 (dictEntries a part) s es.toArray s := by
  unfold dictEntries
  exact Do.bind (B1 := 1) (B2 := 0) (Do.load (B := 0) ho Do.pure) Do.pure
theorem do_epoch {a : Addr} {es : List DictEntry} {n : Nat} {part : Option Value} (ho : s.heap.get? a = some (dO es n)) : Do w 1 (dictEpoch a part) s n s := by
  unfold dictEpoch
  exact Do.bind (B1 := 1) (B2 := 0) (Do.load (B := 0) ho Do.pure) Do.pure
end
noncomputable def IntKeys (es : List DictEntry) : Prop := ∀ e ∈ es, ∃ t, e.key = .int e.hash t
section
variable {w : World} {l r : List Obj} {os : OsState}
theorem do_merge (h11 : 11 ≤ l.length) {d a : Addr} (hd : d = l.length) {j : Nat} (ha : a = l.length + 1 + j) {es sub : List DictEntry} {n tk ns : Nat} (hne : es ≠ []) (hj : r[j]? = some (dO sub ns)) (hk : IntKeys sub)
    (hA : (es.map (·.hash) ++ sub.map (·.hash)).Nodup) (hL : es.length + sub.length < 1000) :
    Do w (5 + 6 * sub.length) (mergeMapping d (.ref a) false) (Sh l (dO es n) r tk os) () (Sh l (dO (es ++ sub) (n + sub.length)) r tk os) := by
  have ho : ∀ (es' : List DictEntry) (n' : Nat), (Sh l (dO es' n') r tk os).heap.get? a = some (dO sub ns) := fun es' n' => by subst ha; exact Hp_get2 hj dO_live
  have hm : ∀ (es' : List DictEntry) (n' : Nat), (Sh l (dO es' n') r tk os).heap.get? d = some (dO es' n') := fun es' n' => by subst hd; exact Hp_get dO_live
  unfold mergeMapping
  have e1 : (a == sysModules) = false := by
    subst ha
    have : l.length + 1 + j ≠ sysModules := by unfold sysModules; omega
    simpa using this
  have e2 : es.toArray.isEmpty = false := by simpa using hne
  refine Do.le (B1 := 1 + (1 + (0 + (1 + (1 + (1 + (6 * sub.length + 0))))))) (Do.bind (m := isInstance (.ref a) (.type "dict")) (a := true) (do_isDict (ho _ _)) ?_) (by omega)
  rw [if_pos rfl]
  refine Do.bind (do_iterOf (ho _ _)) (Do.bind Do.pure ?_)
  show Do w _ (if (a == sysModules) = true then _ else _) _ _ _
  rw [e1, if_neg Bool.false_ne_true]
  refine Do.bind (do_entries (hm _ _)) ?_
  rw [e2, if_neg Bool.false_ne_true]
  refine Do.bind (do_entries (ho _ _)) (Do.bind (do_epoch (ho _ _)) (Do.bind (a := PUnit.unit) (s1 := Sh l (dO (es ++ sub) (n + sub.length)) r tk os) ?_ Do.pure))
  have hz : sub.toArray.size = sub.length := by simp
  rw [hz, List.range_eq_range']
  -- by what is still to come
  have key : ∀ (suf pre : List DictEntry), pre ++ suf = sub → Do w (6 * suf.length) (forIn (List.range' pre.length suf.length) PUnit.unit fun i (_ : PUnit) => do
      let x ← dictEntries a
      match x[i]? with
        | some e => do
          holding [e.key, e.val] (dictPut d e.hash e.key e.val)
          let y ← dictEpoch a
          if (y != ns) = true then do
              let _ : PUnit ← unsupported "dict.changed-during-merge"
              Pure.pure (ForInStep.yield PUnit.unit)
            else Pure.pure (ForInStep.yield PUnit.unit)
        | x => do
          let _ : PUnit ← unsupported "dict.changed-during-merge"
          Pure.pure (ForInStep.yield PUnit.unit)) (Sh l (dO (es ++ pre) (n + pre.length)) r tk os) PUnit.unit (Sh l (dO (es ++ sub) (n + sub.length)) r tk os) := by
    intro suf
    induction suf with
    | nil => intro pre e; rw [List.append_nil] at e; subst e; simp only [List.length_nil, List.range'_zero, List.forIn_nil]; exact Do.pure
    | cons x suf ih =>
      intro pre e
      simp only [List.length_cons, List.range'_succ, List.forIn_cons]
      have hx : sub.toArray[pre.length]? = some x := by rw [← e]; simp
      obtain ⟨t, ht⟩ := hk x (by rw [← e]; simp)
      have hnx : ∀ y ∈ es ++ pre, y.hash ≠ x.hash := by
        intro y hy
        have e' : es.map (·.hash) ++ sub.map (·.hash) = (es ++ pre).map (·.hash) ++ (x :: suf).map (·.hash) := by rw [← e]; simp
        rw [e', List.nodup_append] at hA
        exact hA.2.2 _ (List.mem_map_of_mem hy) _ (by simp)
      refine Do.le (Do.bind (B1 := 6) (B2 := 6 * suf.length) (a := ForInStep.yield PUnit.unit) (s1 := Sh l (dO (es ++ (pre ++ [x])) (n + (pre ++ [x]).length)) r tk os) ?_ ?_) (by omega)
      · refine Do.bind (B1 := 1) (B2 := 5) (do_entries (ho _ _)) ?_
        rw [hx]
        refine Do.bind (B1 := 4) (B2 := 1) (a := ()) (s1 := Sh l (dO (es ++ (pre ++ [x])) (n + (pre ++ [x]).length)) r tk os) (Do.holding ?_) ?_
        · have h := do_put (w := w) (os := os) (r := r) (tk := tk) (n := n + pre.length) (k := x.hash) (t := t) (v := x.val) hd h11 (es := es ++ pre) (by rw [← e] at hL; simp at hL ⊢; omega) hnx
          have ex : (⟨x.hash, .int x.hash t, x.val⟩ : DictEntry) = x := by rw [← ht]
          rw [ex] at h
          have el : n + pre.length + 1 = n + (pre ++ [x]).length := by simp; omega
          rw [List.append_assoc, el] at h
          rw [ht]
          exact h
        · refine Do.bind (B1 := 1) (B2 := 0) (do_epoch (ho _ _)) ?_
          have : (ns != ns) = false := by simp
          rw [this, if_neg Bool.false_ne_true]
          exact Do.pure
      · have := ih (pre ++ [x]) (by rw [List.append_assoc]; exact e)
        have el : (pre ++ [x]).length = pre.length + 1 := by simp
        rw [el] at this
        rw [el]
        exact this
  have k := key sub [] rfl
  rw [List.append_nil] at k
  exact k
end
end
section
abbrev its (pos : Pos) (l : List (Int × Str)) : List (Option (Sem Value) × Sem Value) := l.map fun q => (some (mkInt q.1), vSem pos q.2)
noncomputable def fl (run : List (Sem Value × Sem Value)) (main : Option Addr) : Sem (Option Addr) :=
  if run.isEmpty = true then Pure.pure main
  else match main with
    | none => do
      let x ← subDict run
      Pure.pure (some x)
    | some d => do
      let sub ← holding [Value.ref d] (subDict run)
      (holding [Value.ref d, Value.ref sub] (mergeMapping d (Value.ref sub) false)).onRaise fun x => do
          let _ ← holding [Value.ref d, x] (runValue (Code.builtin "proto.let_go" { }))
          Pure.pure ()
      Pure.pure (some d)
theorem ents3_length : ∀ (l : List (Int × Str)) (t : Nat), (ents3 l t).length = l.length
  | [], _ => rfl
  | _ :: r, t => by simp [ents3, ents3_length r]
theorem ents2_length : ∀ (l : List (Int × Str)) (t : Nat), (ents2 l t).length = l.length
  | [], _ => rfl
  | _ :: r, t => by simp [ents2, ents2_length r]
theorem ents3_keys : ∀ (l : List (Int × Str)) (t : Nat), IntKeys (ents3 l t)
  | [], _ => fun _ h => (nomatch h)
  | _ :: r, t => fun e h => by
    rcases List.mem_cons.mp h with rfl | h
    · exact ⟨_, rfl⟩
    · exact ents3_keys r _ e h
theorem ents2_keys : ∀ (l : List (Int × Str)) (t : Nat), IntKeys (ents2 l t)
  | [], _ => fun _ h => (nomatch h)
  | _ :: r, t => fun e h => by
    rcases List.mem_cons.mp h with rfl | h
    · exact ⟨_, rfl⟩
    · exact ents2_keys r _ e h
section
variable {w : World} {l r : List Obj} {os : OsState}
theorem Sh_snoc {m : Obj} {tk : Nat} {o : Obj} : Sh (l ++ m :: r) o [] tk os = Sh l m (r ++ [o]) tk os := by
  unfold Sh Hp
  rw [List.append_assoc]
  rfl
theorem Sh0_of {m : Obj} {tk : Nat} : Sh0 (l ++ m :: r) tk os = Sh l m r tk os := rfl
/-- the first run -/
theorem fl_first (pos : Pos) (h11 : 11 ≤ l.length) (q : List (Int × Str)) (tk : Nat) (hS : Small q) (hA : Apart [] q) (hL : q.length < 1000) (h15 : 15 < q.length) :
    Do w (2 + 13 * q.length) (fl (prs pos q) none) (Sh0 l tk os) (some l.length) (Sh l (dO (ents3 q tk) q.length) [] (tk + 3 * q.length) os) := by
  unfold fl
  have e : ¬ (prs pos q).isEmpty = true := by
    cases q with
    | nil => simp at h15
    | cons => simp
  rw [if_neg e]
  exact Do.bind (B1 := 2 + 13 * q.length) (B2 := 0) (do_sub_long pos h11 q tk hS hA hL h15) Do.pure
theorem fl_next {es : List DictEntry} {n : Nat} (pos : Pos) (h11 : 11 ≤ l.length) (q : List (Int × Str)) (tk : Nat) {sub : List DictEntry} (hne : es ≠ []) (hq : q ≠ [])
    (hA : (es.map (·.hash) ++ sub.map (·.hash)).Nodup) (hk : IntKeys sub) (hL : es.length + sub.length < 1000)
    (hsub : Do w (2 + 13 * q.length) (subDict (prs pos q)) (Sh0 (l ++ dO es n :: r) tk os) (l.length + 1 + r.length) (Sh (l ++ dO es n :: r) (dO sub q.length) [] (tk + 3 * q.length) os)) :
    Do w (7 + 13 * q.length + 6 * sub.length) (fl (prs pos q) (some l.length)) (Sh l (dO es n) r tk os) (some l.length) (Sh l (dO (es ++ sub) (n + sub.length)) (r ++ [dO sub q.length]) (tk + 3 * q.length) os) := by
  unfold fl
  have e : ¬ (prs pos q).isEmpty = true := by
    cases q with
    | nil => exact absurd rfl hq
    | cons => simp
  rw [if_neg e]
  rw [Sh_snoc] at hsub
  refine Do.le (Do.bind (B1 := 2 + 13 * q.length) (B2 := 5 + 6 * sub.length + 0) (Do.holding hsub) (Do.bind (B1 := 5 + 6 * sub.length) (B2 := 0) (a := ()) (Do.onRaise (Do.holding ?_)) Do.pure)) (by omega)
  exact do_merge h11 rfl (j := r.length) (ns := q.length) rfl hne (by simp) hk hA hL
end
section
variable {w : World} {l : List Obj} {os : OsState}
abbrev St2 := Option Addr × List (Sem Value × Sem Value)
theorem do_loop (pos : Pos) (h11 : 11 ≤ l.length) (f : Option (Sem Value) × Sem Value → St2 → Sem (ForInStep St2))
    (hf : ∀ i x m run, f (some (mkInt i), vSem pos x) (m, run) = (if ((run ++ [(mkInt i, vSem pos x)]).length == 17) = true then do
        let m' ← fl (run ++ [(mkInt i, vSem pos x)]) m
        Pure.pure (ForInStep.yield (m', [])) else Pure.pure (ForInStep.yield (m, run ++ [(mkInt i, vSem pos x)])))) :
    ∀ (q : List (Int × Str)) (x : Fd), x.rp.length < 17 → x.es ≠ [] → Small (x.rp ++ q) → Apart x.es (x.rp ++ q) → x.es.length + x.rp.length + q.length < 1000 →
      Do w (400 * q.length) (forIn (its pos q) (some l.length, prs pos x.rp) f) (Sh l (dO x.es x.n) x.r x.tk os) (some l.length, prs pos (feed q x).rp) (Sh l (dO (feed q x).es (feed q x).n) (feed q x).r (feed q x).tk os)
  | [], x, _, _, _, _, _ => by simp only [List.map_nil, List.forIn_nil, feed]; exact Do.pure
  | p :: q, x, hr, hne, hS, hA, hL => by
    simp only [List.map_cons, List.forIn_cons, hf]
    have hs : (prs pos x.rp ++ [(mkInt p.1, vSem pos p.2)]) = prs pos (x.rp ++ [p]) := by simp
    rw [hs]
    have hlen : (prs pos (x.rp ++ [p])).length = x.rp.length + 1 := by simp
    rw [hlen]
    have hrw : x.rp ++ p :: q = (x.rp ++ [p]) ++ q := by simp
    rw [hrw] at hS hA
    by_cases h : x.rp.length = 16
    · have e : (x.rp.length + 1 == 17) = true := by simp [h]
      rw [if_pos e]
      simp only [feed, if_pos h]
      have hlen2 : (x.rp ++ [p]).length = 17 := by simp [h]
      have hS1 : Small (x.rp ++ [p]) := fun y hy => hS y (List.mem_append_left _ hy)
      have hA' := hA
      unfold Apart at hA'
      rw [List.map_append, ← List.append_assoc] at hA'
      have hA1 : ((x.es.map (·.hash)) ++ (x.rp ++ [p]).map (·.1)).Nodup := (List.nodup_append.mp hA').1
      have hA0 : Apart [] (x.rp ++ [p]) := by
        unfold Apart
        simpa using (List.nodup_append.mp hA1).2.1
      refine Do.le (Do.bind (B1 := 400) (B2 := 400 * q.length) (a := ForInStep.yield (some l.length, [])) (s1 := Sh l (dO (x.es ++ ents3 (x.rp ++ [p]) x.tk) (x.n + 17)) (x.r ++ [dO (ents3 (x.rp ++ [p]) x.tk) 17]) (x.tk + 51) os) ?_ ?_) (by simp only [List.length_cons]; omega)
      · refine Do.bind (B1 := 400) (B2 := 0) (a := some l.length) (s1 := Sh l (dO (x.es ++ ents3 (x.rp ++ [p]) x.tk) (x.n + 17)) (x.r ++ [dO (ents3 (x.rp ++ [p]) x.tk) 17]) (x.tk + 51) os) ?_ Do.pure
        have hsub := do_sub_long (w := w) (os := os) (l := l ++ dO x.es x.n :: x.r) pos (by simp; omega) (x.rp ++ [p]) x.tk hS1 hA0 (by omega) (by omega)
        have el : (l ++ dO x.es x.n :: x.r).length = l.length + 1 + x.r.length := by simp; omega
        rw [el] at hsub
        have := fl_next (w := w) (os := os) (r := x.r) (n := x.n) pos h11 (x.rp ++ [p]) x.tk (sub := ents3 (x.rp ++ [p]) x.tk) hne (by simp) (by rw [ents3_hash]; exact hA1) (ents3_keys _ _) (by rw [ents3_length]; simp only [List.length_cons] at hL; simp; omega) hsub
        rw [ents3_length, hlen2] at this
        exact this.le (by omega)
      · refine do_loop pos h11 f hf q ⟨[], x.es ++ ents3 (x.rp ++ [p]) x.tk, x.n + 17, x.r ++ [dO (ents3 (x.rp ++ [p]) x.tk) 17], x.tk + 51⟩ (by simp) (by simp [hne]) (fun y hy => hS y (List.mem_append_right _ (by simpa using hy))) ?_ (by simp only [List.length_append, ents3_length]; simp only [List.length_cons, List.length_nil] at hL ⊢; omega)
        unfold Apart
        rw [List.map_append, ents3_hash, List.nil_append]
        exact hA'
    · have e : ¬ (x.rp.length + 1 == 17) = true := by simp; omega
      rw [if_neg e]
      simp only [feed, if_neg h]
      refine Do.le (Do.bind (B1 := 0) (B2 := 400 * q.length) (Do.pure) ?_) (by simp only [List.length_cons]; omega)
      exact do_loop pos h11 f hf q ⟨x.rp ++ [p], x.es, x.n, x.r, x.tk⟩ (by simp; omega) hne hS hA (by simp only [List.length_append]; simp only [List.length_cons, List.length_nil] at hL ⊢; omega)
/-- ahead of the first flush -/
theorem do_loop0 (pos : Pos) (h11 : 11 ≤ l.length) (f : Option (Sem Value) × Sem Value → St2 → Sem (ForInStep St2))
    (hf : ∀ i x m run, f (some (mkInt i), vSem pos x) (m, run) = (if ((run ++ [(mkInt i, vSem pos x)]).length == 17) = true then do
        let m' ← fl (run ++ [(mkInt i, vSem pos x)]) m
        Pure.pure (ForInStep.yield (m', [])) else Pure.pure (ForInStep.yield (m, run ++ [(mkInt i, vSem pos x)])))) (q : List (Int × Str)) (tk : Nat) :
    ∀ (p rp : List (Int × Str)), rp.length + p.length = 17 → p ≠ [] → Small (rp ++ p ++ q) → Apart [] (rp ++ p ++ q) → q.length < 900 →
      Do w (400 * p.length + 400 * q.length) (forIn (its pos (p ++ q)) ((none : Option Addr), prs pos rp) f) (Sh0 l tk os) (some l.length, prs pos (feed q ⟨[], ents3 (rp ++ p) tk, 17, [], tk + 51⟩).rp)
        (Sh l (dO (feed q ⟨[], ents3 (rp ++ p) tk, 17, [], tk + 51⟩).es (feed q ⟨[], ents3 (rp ++ p) tk, 17, [], tk + 51⟩).n) (feed q ⟨[], ents3 (rp ++ p) tk, 17, [], tk + 51⟩).r (feed q ⟨[], ents3 (rp ++ p) tk, 17, [], tk + 51⟩).tk os)
  | [], rp, _, h, _, _, _ => absurd rfl h
  | y :: p, rp, hl, _, hS, hA, hq => by
    simp only [List.cons_append, List.map_cons, List.forIn_cons, hf]
    have hs : (prs pos rp ++ [(mkInt y.1, vSem pos y.2)]) = prs pos (rp ++ [y]) := by simp
    rw [hs]
    have hlen : (prs pos (rp ++ [y])).length = rp.length + 1 := by simp
    rw [hlen]
    have hrw : rp ++ y :: p = (rp ++ [y]) ++ p := by simp
    by_cases h : rp.length = 16
    · have hp : p = [] := by
        rw [List.length_cons] at hl
        exact List.eq_nil_of_length_eq_zero (by omega)
      subst hp
      have e : (rp.length + 1 == 17) = true := by simp [h]
      rw [if_pos e]
      have hlen2 : (rp ++ [y]).length = 17 := by simp [h]
      have hS1 : Small (rp ++ [y]) := fun z hz => hS z (List.mem_append_left _ hz)
      have hA' := hA
      unfold Apart at hA'
      rw [List.map_nil, List.nil_append, List.map_append] at hA'
      refine Do.le (Do.bind (B1 := 400) (B2 := 400 * q.length) (a := ForInStep.yield (some l.length, [])) (s1 := Sh l (dO (ents3 (rp ++ [y]) tk) 17) [] (tk + 51) os) ?_ ?_) (by simp only [List.length_cons, List.length_nil]; omega)
      · refine Do.bind (B1 := 400) (B2 := 0) (a := some l.length) (s1 := Sh l (dO (ents3 (rp ++ [y]) tk) 17) [] (tk + 51) os) ?_ Do.pure
        have := fl_first (w := w) (os := os) (l := l) pos h11 (rp ++ [y]) tk hS1 (by unfold Apart; simpa using (List.nodup_append.mp hA').1) (by omega) (by omega)
        rw [hlen2] at this
        exact this.le (by omega)
      · refine do_loop pos h11 f hf q ⟨[], ents3 (rp ++ [y]) tk, 17, [], tk + 51⟩ (by simp) ?_ (fun z hz => hS z (List.mem_append_right _ (by simpa using hz))) ?_ (by simp only [ents3_length, hlen2]; simp; omega)
        · intro z
          have := congrArg List.length z
          rw [ents3_length, hlen2] at this
          cases this
        · unfold Apart
          rw [ents3_hash, List.nil_append]
          exact hA'
    · have e : ¬ (rp.length + 1 == 17) = true := by simp; omega
      rw [if_neg e]
      refine Do.le (Do.bind (B1 := 0) (B2 := 400 * p.length + 400 * q.length) (Do.pure) ?_) (by simp only [List.length_cons]; omega)
      rw [hrw]
      rw [hrw] at hS hA
      exact do_loop0 pos h11 f hf q tk p (rp ++ [y]) (by simp only [List.length_append, List.length_cons, List.length_nil] at hl ⊢; omega) (by
        rintro rfl
        simp only [List.length_cons, List.length_nil] at hl
        omega) hS hA hq
end
end
section
theorem feed_hash : ∀ (q : List (Int × Str)) (x : Fd), (feed q x).es.map (·.hash) ++ (feed q x).rp.map (·.1) = x.es.map (·.hash) ++ (x.rp ++ q).map (·.1)
  | [], x => by simp [feed]
  | p :: q, x => by
    unfold feed
    split
    · rw [feed_hash q]; simp [ents3_hash]
    · rw [feed_hash q]; simp
theorem feed_es : ∀ (q : List (Int × Str)) (x : Fd), x.es ≠ [] → (feed q x).es ≠ []
  | [], x, h => h
  | p :: q, x, h => by
    unfold feed
    split
    · exact feed_es q _ (by simp [h])
    · exact feed_es q _ h
theorem feed_small : ∀ (q : List (Int × Str)) (x : Fd), Small (x.rp ++ q) → Small (feed q x).rp
  | [], x, h => by simpa [feed] using h
  | p :: q, x, h => by
    unfold feed
    split
    · exact feed_small q _ (fun y hy => h y (List.mem_append_right _ (List.mem_cons_of_mem _ (by simpa using hy))))
    · exact feed_small q _ (by simpa using h)
theorem feed_len : ∀ (q : List (Int × Str)) (x : Fd), (feed q x).es.length + (feed q x).rp.length = x.es.length + x.rp.length + q.length := fun q x => by
  have := congrArg List.length (feed_hash q x)
  simp only [List.length_append, List.length_map] at this
  omega
section
variable {w : World} {l : List Obj} {os : OsState}
theorem do_display (pos : Pos) (h11 : 11 ≤ l.length) (p q : List (Int × Str)) (tk : Nat) (hp : p.length = 17) (hS : Small (p ++ q)) (hA : Apart [] (p ++ q)) (hq : q.length < 900) (F : Fd) (hF : F = feed q ⟨[], ents3 p tk, 17, [], tk + 51⟩)
    (hr : F.rp ≠ []) (hr15 : F.rp.length ≤ 15) :
    Do w (7200 + 400 * q.length) (dictDisplay (its pos (p ++ q))) (Sh0 l tk os) (.ref l.length) (Sh l (dO (F.es ++ ents2 F.rp F.tk) (F.n + F.rp.length)) (F.r ++ [dO (ents2 F.rp F.tk) F.rp.length]) (F.tk + 3 * F.rp.length) os) := by
  have h0 := do_loop0 (w := w) (os := os) (l := l) pos h11
  unfold dictDisplay
  refine Do.le (Do.bind (B1 := 6800 + 400 * q.length) (B2 := 400) (a := (some l.length, prs pos F.rp)) (s1 := Sh l (dO F.es F.n) F.r F.tk os) ?_ ?_) (by omega)
  · subst hF
    refine Do.le (h0 _ ?hf q tk p [] (by simpa using hp) (by rintro rfl; simp at hp) (by simpa using hS) (by simpa using hA) hq) (by omega)
    exact fun _ _ _ _ => rfl
  · have e := feed_hash q ⟨[], ents3 p tk, 17, [], tk + 51⟩
    rw [← hF] at e
    simp only [List.nil_append, ents3_hash] at e
    have hA' : (F.es.map (·.hash) ++ F.rp.map (·.1)).Nodup := by
      rw [e]
      unfold Apart at hA
      simpa using hA
    have hne : F.es ≠ [] := by
      rw [hF]
      apply feed_es
      intro z
      have := congrArg List.length z
      rw [ents3_length, hp] at this
      cases this
    have hSr : Small F.rp := by
      rw [hF]
      apply feed_small
      intro y hy
      exact hS y (List.mem_append_right _ (by simpa using hy))
    have hlen := feed_len q ⟨[], ents3 p tk, 17, [], tk + 51⟩
    rw [← hF] at hlen
    simp only [ents3_length, hp, List.length_nil] at hlen
    have hsub := do_sub_short (w := w) (os := os) (l := l ++ dO F.es F.n :: F.r) pos (by simp; omega) F.rp F.tk hSr (by unfold Apart; simpa using (List.nodup_append.mp hA').2.1) hr15
    have el : (l ++ dO F.es F.n :: F.r).length = l.length + 1 + F.r.length := by simp; omega
    rw [el] at hsub
    have := fl_next (w := w) (os := os) (r := F.r) (n := F.n) pos h11 F.rp F.tk (sub := ents2 F.rp F.tk) hne hr (by rw [ents2_hash]; exact hA') (ents2_keys _ _) (by rw [ents2_length]; omega) hsub
    rw [ents2_length] at this
    refine Do.le (Do.bind (B2 := 0) (a := some l.length) this Do.pure) (by omega)
end
/-- the statement itself -/
noncomputable def pA : Pos := match stAt 3 with
  | .Assign _ _ p => p
  | _ => default
noncomputable def pN : Pos := match stAt 3 with
  | .Assign [.Name _ p] _ _ => p
  | _ => default
noncomputable def pB : Pos := match stAt 3 with
  | .Assign _ (.Dict _ _ p) _ => p
  | _ => default
theorem st3_eq : stAt 3 = .Assign [.Name (Str.ofString "b3_exceptions") pN] (.Dict b3Ks b3Vs pB) pA := by kernel_rfl
theorem its_eq : (evalEachOpt b3Ks env0).zip ((evalEach b3Vs env0).map fun v => (do let x ← v; standAt pB; Pure.pure x)) = its pB b3L := by kernel_rfl
noncomputable def b3ok : Bool := (b3L.all fun q => decide (0 ≤ q.1) && decide (q.1 < 2 ^ 61 - 1)) && b3L.length == 650 && F0.rp.length == 4
noncomputable def ups : List (Int × Str) → Bool
  | a :: b :: r => decide (a.1 < b.1) && ups (b :: r)
  | _ => true
theorem b3_ok : b3ok = true := by kernel_rfl
theorem b3_ups : ups b3L = true := by kernel_rfl
theorem ups_pair : ∀ (l : List (Int × Str)), ups l = true → (l.map (·.1)).Pairwise (· < ·)
  | [], _ => .nil
  | [a], _ => by simp
  | a :: b :: r, h => by
    simp only [ups, Bool.and_eq_true, decide_eq_true_eq] at h
    have ih := ups_pair (b :: r) h.2
    simp only [List.map_cons] at ih ⊢
    refine List.Pairwise.cons ?_ ih
    intro c hc
    rcases List.mem_cons.mp hc with rfl | hc
    · exact h.1
    · exact Int.lt_trans h.1 ((List.pairwise_cons.mp ih).1 c hc)
theorem b3_nodup : (b3L.map (·.1)).Nodup := (ups_pair _ b3_ups).imp fun h => Int.ne_of_lt h
noncomputable def tr_3b (P : Params) : BT := (.node (boot_o_0 P) (.node (boot_o_1 P) (.node (ho_3_3 P) (.node (boot_o_7 P) (.node (ho_15_2 P) (.node (ho_31_3 P) (.node (ho_b3 30) .nil .nil) .nil) (.node (ho_b3 14) .nil .nil)) (.node (ho_23_2 P) (.node (ho_b3 6) (.node (ho_b3 38) .nil .nil) .nil) (.node (ho_b3 22) .nil .nil))) (.node (ho_11_0 P) (.node (ho_19_2 P) (.node (ho_b3 2) (.node (ho_b3 34) .nil .nil) .nil) (.node (ho_b3 18) .nil .nil)) (.node (ho_27_3 P) (.node (ho_b3 10) .nil .nil) (.node (ho_b3 26) .nil .nil)))) (.node (boot_o_5 P) (.node (boot_o_9 P) (.node (ho_17_2 P) (.node (ho_b3 0) (.node (ho_b3 32) .nil .nil) .nil) (.node (ho_b3 16) .nil .nil)) (.node (ho_25_2 P) (.node (ho_b3 8) .nil .nil) (.node (ho_b3 24) .nil .nil))) (.node (ho_13_0 P) (.node (ho_21_2 P) (.node (ho_b3 4) (.node (ho_b3 36) .nil .nil) .nil) (.node (ho_b3 20) .nil .nil)) (.node (ho_29_3 P) (.node (ho_b3 12) .nil .nil) (.node (ho_b3 28) .nil .nil))))) (.node (boot_o_2 P) (.node (boot_o_4 P) (.node (boot_o_8 P) (.node (ho_16_2 P) (.node (ho_32_3 P) (.node (ho_b3 31) .nil .nil) .nil) (.node (ho_b3 15) .nil .nil)) (.node (ho_24_2 P) (.node (ho_b3 7) .nil .nil) (.node (ho_b3 23) .nil .nil))) (.node (ho_12_3 P) (.node (ho_20_2 P) (.node (ho_b3 3) (.node (ho_b3 35) .nil .nil) .nil) (.node (ho_b3 19) .nil .nil)) (.node (ho_28_3 P) (.node (ho_b3 11) .nil .nil) (.node (ho_b3 27) .nil .nil)))) (.node (boot_o_6 P) (.node (boot_o_10 P) (.node (ho_18_2 P) (.node (ho_b3 1) (.node (ho_b3 33) .nil .nil) .nil) (.node (ho_b3 17) .nil .nil)) (.node (ho_26_3 P) (.node (ho_b3 9) .nil .nil) (.node (ho_b3 25) .nil .nil))) (.node (ho_14_0 P) (.node (ho_22_2 P) (.node (ho_b3 5) (.node (ho_b3 37) .nil .nil) .nil) (.node (ho_b3 21) .nil .nil)) (.node (ho_30_3 P) (.node (ho_b3 13) .nil .nil) (.node (ho_b3 29) .nil .nil))))))
noncomputable def st_3b (w : World) (os : OsState) : SharedT := ⟨tr_3b w.params, 72, lf, #[], boot_drawn, 2206, os⟩
noncomputable def base3 (P : Params) : List Obj := (tr_3 P).list 33
theorem base3_len (P : Params) : (base3 P).length = 33 := by simp [base3, BT.list]
theorem abs3 (w : World) (os : OsState) : (st_3 w os).abs = Sh0 (base3 w.params) 256 os := by kernel_rfl
theorem abs3b (w : World) (os : OsState) : (st_3b w os).abs = Sh (base3 w.params) (dO b3E (F0.n + F0.rp.length)) b3subs 2206 os := by kernel_rfl
/-- what is left behind the display -/
noncomputable def Rest (v : Value) : Sem Flow := (do standAt pN; bindName env0 (Str.ofString "b3_exceptions") v; Pure.pure Flow.next) >>= fun f => match f with
  | .next => execs [] env0
  | f => Pure.pure f
theorem bind_assoc' {α β gam : Type} (m : Sem α) (f : α → Sem β) (g : β → Sem gam) : (m >>= f) >>= g = m >>= fun a => f a >>= g := by
  rw [Sem.bind_eq_wrap', Sem.bind_eq_wrap', Sem.wrap_wrap, Sem.bind_eq_wrap']
  refine Sem.wrap_congr m _ _ (fun a => ?_) fun _ => rfl
  rw [Sem.bind_eq_wrap']
theorem exec3_eq : execs [stAt 3] env0 = (standAt pA >>= fun _ => (standAt pB >>= fun _ => dictDisplay (its pB b3L))) >>= Rest := by
  rw [execs_cons, st3_eq, exec_Assign_Name env0 _ _ _ _ rfl]
  have e : eval (.Dict b3Ks b3Vs pB) env0 = (standAt pB >>= fun _ => dictDisplay (its pB b3L)) := by
    rw [← its_eq]; rfl
  rw [e]
  unfold Rest
  simp only [bind_assoc']
  rfl
theorem rest_ends (p : Pos) (os : OsState) (w : World) : segRunT treeTable pw w 11 ann0 1 20 (st_3b w os) ⟨(Rest (.ref 33)).wrap doneF deadEnd id id, c0, p, B0⟩ = some (.next, st_4 w os, c0, ps_4) := by kernel_rfl
theorem split17 : b3L = b3L.take 17 ++ b3L.drop 17 := (List.take_append_drop 17 b3L).symm
theorem pc_4 (w : World) (os : OsState) : ∃ n, n ≤ 300000 ∧ segRun treeTable pw w 11 ann0 1 n (st_3 w os).abs (piecesOf [stAt 3] env0 c0 ps_3 B0) = some (.next, (st_4 w os).abs, c0, ps_4) := by
  have hok := b3_ok
  unfold b3ok at hok
  simp only [Bool.and_eq_true, List.all_eq_true, decide_eq_true_eq, beq_iff_eq] at hok
  obtain ⟨⟨hs, hl⟩, hr⟩ := hok
  have hd := do_display (w := w) (os := os) (l := base3 w.params) pB (by rw [base3_len]; omega) (b3L.take 17) (b3L.drop 17) 256 (by simp [hl]) (by rw [← split17]; exact hs) (by rw [← split17]; unfold Apart; simpa using b3_nodup) (by simp [hl]) F0 rfl
    (by intro e; rw [e] at hr; simp at hr) (by omega)
  rw [← split17, base3_len] at hd
  have hall : Do w (1 + (1 + (7200 + 400 * (b3L.drop 17).length))) (standAt pA >>= fun _ => (standAt pB >>= fun _ => dictDisplay (its pB b3L))) (Sh0 (base3 w.params) 256 os) (.ref 33) (Sh (base3 w.params) (dO b3E (F0.n + F0.rp.length)) b3subs (F0.tk + 3 * F0.rp.length) os) :=
    Do.at' (Do.at' hd)
  have etk : F0.tk + 3 * F0.rp.length = 2206 := by kernel_rfl
  rw [etk, ← abs3, ← abs3b] at hall
  obtain ⟨n, p', le, e⟩ := hall (fun v => (Rest v).wrap doneF deadEnd id id) (fun e => (Sem.raise e : Sem Flow).wrap doneF deadEnd id id) id id ps_3
  refine ⟨n + 20, by rw [List.length_drop, hl] at le; omega, ?_⟩
  have e2 := segRun_of (rest_ends p' os w)
  have := seg_go e e2
  rw [← this]
  show segRun _ _ _ _ _ _ _ _ ⟨(execs [stAt 3] env0).wrap doneF deadEnd id id, c0, ps_3, B0⟩ = _
  rw [exec3_eq, Sem.bind_eq_wrap' (_ >>= _) Rest, Sem.wrap_wrap]
  rfl
end
section
theorem opening_eq : opening pw = plainProg pw.main.scope.names := by kernel_rfl
theorem fence_eq (s : Shared) : fenceModules? pw s = some s := by kernel_rfl
theorem open_eq (N : Nat) (h : Nat.ble 600 N = true) : ∀ w : World, (fencedOpening treeTable pw w N).map (fun s => (s.heap, s.gens, s.drawn, s.toks)) = some (boot_heap w.params, Array.mk [], boot_drawn, boot_toks) :=
  boot_open opening_eq h fence_eq
theorem size_eq (w : World) : ((boot_heap w.params).isNs mainGlobals && (Array.mk [] : Array GenState).size == 0, (boot_heap w.params).objs.size, (boot_heap w.params).nsMap mainGlobals "__annotations__") = (true, 11, ann0) := by kernel_rfl
theorem pre_eq (w : World) (os : OsState) : topGo treeTable pw w 11 ann0 12 ⟨boot_heap w.params, Array.mk [], boot_drawn, boot_toks, os⟩ (topStub pw) = some ((st_0 w os).abs, ⟨denote treeTable c0, c0, ⟨0, 0, 0, 0⟩, B0⟩) := by kernel_rfl
theorem block_eq (w : World) (os : OsState) : segRun treeTable pw w 11 ann0 1 1 (st_0 w os).abs (blockOf b0 env0 c0 ⟨0, 0, 0, 0⟩ B0) = some (.next, (st_0 w os).abs, c0, ps_0) := by kernel_rfl
theorem fin_eq (w : World) (os : OsState) : topRun treeTable pw w 11 ann0 2 (st_24 w os).abs ⟨doneF .next, c0, ps_24, B0⟩ = some ((st_24 w os).abs) := by kernel_rfl
theorem b0_eq : b0 = [stAt 0] ++ ([stAt 1] ++ ([stAt 2] ++ ([stAt 3] ++ ([stAt 4] ++ ([stAt 5] ++ ([stAt 6] ++ ([stAt 7] ++ ([stAt 8] ++ ([stAt 9] ++ ([stAt 10] ++ ([stAt 11] ++ ([stAt 12] ++ ([stAt 13] ++ ([stAt 14] ++ ([stAt 15] ++ ([stAt 16] ++ ([stAt 17] ++ ([stAt 18] ++ ([stAt 19] ++ ([stAt 20] ++ ([stAt 21] ++ ([stAt 22] ++ ([stAt 23] ++ []))))))))))))))))))))))) := by kernel_rfl
end
section
noncomputable def qv : Program := view pw [2, 4, 6, 7, 9, 10, 11, 13, 14, 15, 16, 17, 18, 19, 20, 21, 22, 23]
noncomputable def loose : List Str := [Str.ofString "b1_set", Str.ofString "b3_exceptions"]
noncomputable def rw' : OpenLaw := PySem.Challenge.rw_ti0043_01
noncomputable def fin1 (w : World) (os : OsState) : Shared := ⟨absHeap (tr_24 w.params) 167 lf, Array.mk [], boot_drawn, 2346, os⟩
theorem lk1 (w : World) : (fun os => staticsOk (importedModules pw.main.body) (boot_heap w.params) (fin1 w os).heap) = fun _ => true := by kernel_rfl
theorem lk2 (w : World) : (fun os => namesBound pw (fin1 w os).heap) = fun _ => true := by kernel_rfl
theorem lk3 (w : World) : (fun os => gensDone (fin1 w os)) = fun _ => true := by kernel_rfl
theorem lk4 (w : World) : (fun os => laidKept (boot_heap w.params) (fin1 w os).heap) = fun _ => true := by kernel_rfl
end
section
noncomputable def Xt (s : Shared) : Bool := xlAt qv [] s && recOk (RowW.records rw'.row.toRowW) s
open PySem.W.Fast in
theorem os_q : @openSeen = tw4187177175401517315 := te4187177175401517315
theorem ls1 (w : World) : (fun os => seen ((recsOf qv).map (·.name)) (ownsOf qv) [] { fin1 w os with gens := #[] }) = fun _ => expectedOf qv := by kernel_rfl
theorem ls2 (w : World) : (fun os => (fin1 w os).heap.bltView) = fun _ => bltViewBooted := by kernel_rfl
theorem ls3 (w : World) : (fun os => tabsOk qv (fin1 w os)) = fun _ => true := by kernel_rfl
end
section
theorem l1 (w : World) : (fun os => (fin1 w os).heap.keysOk (looseW qv loose) ((recsOf qv).map (·.name)) ((litsOf qv).map (·.1)) ((clssOf qv (looseW qv loose)).map (·.name))) = fun _ => true := by kernel_rfl
theorem l2 (w : World) : (fun os => (fin1 w os).heap.accountedOkI (importedModules pw.main.body) && (fin1 w os).heap.isNs mainGlobals && (fin1 w os).heap.isNs builtinsNs) = fun _ => true := by kernel_rfl
theorem l3 (w : World) : (fun os => tablesOk qv (fin1 w os).heap) = fun _ => true := by kernel_rfl
theorem l4 (w : World) : (fun os => Xt (fin1 w os)) = fun _ => true := by kernel_rfl
theorem l5 (w : World) : (fun os => pinSeenD qv (drecsOf qv) (fin1 w os)) = fun _ => pinGoodD (drecsOf qv) := by kernel_rfl
theorem l6 (w : World) : (fun os => plainSeenE qv (looseW qv loose) (fin1 w os)) = fun _ => plainGoodE qv (looseW qv loose) := by kernel_rfl
theorem l7 (w : World) : (fun os => plainSeenD qv loose (fin1 w os)) = fun _ => plainGoodD qv loose := by kernel_rfl
theorem l8 (w : World) : (fun os => wideSeen qv (fin1 w os)) = fun _ => wideGood qv := by kernel_rfl
theorem l9 (w : World) : (fun os => clsSeenW qv loose (fin1 w os)) = fun _ => clsGoodW qv loose := by kernel_rfl
end
section
theorem segRun_more {w : World} (k : Nat) : ∀ (n : Nat) (s : Shared) (t : Thread) (r : Flow × Shared × Code × Pos), segRun treeTable pw w 11 ann0 1 n s t = some r → segRun treeTable pw w 11 ann0 1 (n + k) s t = some r
  | 0, _, _, _, h => by simp [segRun] at h
  | n + 1, s, t, r, h => by
    rw [show n + 1 + k = n + k + 1 by omega]
    unfold segRun at h ⊢
    cases he : endAt 1 t with
    | some f => rw [he] at h; exact h
    | none =>
      rw [he] at h
      cases hk : stepOk 11 ann0 t with
      | false => rw [hk] at h; cases h
      | true =>
        rw [hk] at h
        cases hs : step (denote treeTable) pw w s t with
        | halt o s2 => rw [hs] at h; cases h
        | go s2 t2 => rw [hs] at h; exact segRun_more k n s2 t2 r h
theorem pc_4' (w : World) (os : OsState) : segRun treeTable pw w 11 ann0 1 300000 (st_3 w os).abs (piecesOf [stAt 3] env0 c0 ps_3 B0) = some (.next, (st_4 w os).abs, c0, ps_4) := by
  obtain ⟨n, le, h⟩ := pc_4 w os
  have := segRun_more (300000 - n) n _ _ _ h
  rwa [show n + (300000 - n) = 300000 by omega] at this
open PySem.W.Fast in
theorem sr_q : @segRunT treeTable = tw10110043849684766642 tw14364793385576792824 := by rw [te10110043849684766642, te14364793385576792824]
open PySem.W.Fast in
theorem ex_q : @execs = tw12563942051412417395 := te12563942051412417395
open PySem.W.Fast in
theorem pc_2q (os : OsState) (w : World) : tw10110043849684766642 tw14364793385576792824 pw w 11 ann0 1 999 (st_1 w os) ⟨(tw12563942051412417395 [stAt 1] env0).wrap doneF deadEnd id id, c0, ps_1, B0⟩ = some (.next, st_2 w os, c0, ps_2) :=
  byRow2 "special-get-raises" (P := fun w => tw10110043849684766642 tw14364793385576792824 pw w 11 ann0 1 999 (st_1 w os) ⟨(tw12563942051412417395 [stAt 1] env0).wrap doneF deadEnd id id, c0, ps_1, B0⟩ = some (.next, st_2 w os, c0, ps_2)) (fun w => by kernel_rfl) (fun w => by kernel_rfl) w
theorem pc_2 (w : World) (os : OsState) : segRunT treeTable pw w 11 ann0 1 999 (st_1 w os) (piecesOf [stAt 1] env0 c0 ps_1 B0) = some (.next, st_2 w os, c0, ps_2) := by
  have h := pc_2q os w
  rw [← sr_q, ← ex_q] at h
  exact h
end
section
noncomputable def MM : Nat := 12 + (1 + (10 + (999 + (30 + (300000 + (31 + (10 + (10 + (35 + (10 + (10 + (32 + (33 + (10 + (32 + (30 + (33 + (36 + (35 + (27 + (27 + (32 + (27 + (27 + (27 + 2)))))))))))))))))))))))))
theorem rest_run (w : World) (os : OsState) : topRun treeTable pw w 11 ann0 (10 + (999 + (30 + (300000 + (31 + (10 + (10 + (35 + (10 + (10 + (32 + (33 + (10 + (32 + (30 + (33 + (36 + (35 + (27 + (27 + (32 + (27 + (27 + (27 + 2)))))))))))))))))))))))) (st_0 w os).abs (restOf b0 env0 c0 ps_0 [topFrame ⟨0, 0, 0, 0⟩]) = some (st_24 w os).abs := by
  rw [b0_eq]
  exact (piece_app (segRun_of (pc_1 w os)) (piece_app (segRun_of (pc_2 w os)) (piece_app (segRun_of (pc_3 w os)) (piece_app (pc_4' w os) (piece_app (segRun_of (pc_5 w os)) (piece_app (segRun_of (pc_6 w os)) (piece_app (segRun_of (pc_7 w os)) (piece_app (segRun_of (pc_8 w os)) (piece_app (segRun_of (pc_9 w os)) (piece_app (segRun_of (pc_10 w os)) (piece_app (segRun_of (pc_11 w os)) (piece_app (segRun_of (pc_12 w os)) (piece_app (segRun_of (pc_13 w os)) (piece_app (segRun_of (pc_14 w os)) (piece_app (segRun_of (pc_15 w os)) (piece_app (segRun_of (pc_16 w os)) (piece_app (segRun_of (pc_17 w os)) (piece_app (segRun_of (pc_18 w os)) (piece_app (segRun_of (pc_19 w os)) (piece_app (segRun_of (pc_20 w os)) (piece_app (segRun_of (pc_21 w os)) (piece_app (segRun_of (pc_22 w os)) (piece_app (segRun_of (pc_23 w os)) (piece_app (segRun_of (pc_24 w os)) (piece_nil (fin_eq w os))))))))))))))))))))))))))
theorem run_eq (w : World) (os : OsState) : topRun treeTable pw w 11 ann0 MM ⟨boot_heap w.params, Array.mk [], boot_drawn, boot_toks, os⟩ (topStub pw) = some (fin1 w os) :=
  go_top (pre_eq w os) (piece_block (block_eq w os) (rest_run w os))
theorem gs (w : World) : openSeen qv loose (importedModules pw.main.body) Xt true (fin1 w default) = openSeen qv loose (importedModules pw.main.body) Xt true (fin1 w default) := rfl
theorem seen_good (w : World) (os : OsState) : openSeen qv loose (importedModules pw.main.body) Xt true (fin1 w os) = openGood qv loose := by
  unfold openSeen openGood
  have a1 := congrFun (ls1 w) os
  have a2 := congrFun (ls2 w) os
  have a3 := congrFun (ls3 w) os
  have b1 := congrFun (l1 w) os
  have b2 := congrFun (l2 w) os
  have b3 := congrFun (l3 w) os
  have b4 := congrFun (l4 w) os
  have b5 := congrFun (l5 w) os
  have b6 := congrFun (l6 w) os
  have b7 := congrFun (l7 w) os
  have b8 := congrFun (l8 w) os
  have b9 := congrFun (l9 w) os
  dsimp only at a1 a2 a3 b1 b2 b3 b4 b5 b6 b7 b8 b9
  have b2' : ((fin1 w os).heap.accountedOkI (importedModules pw.main.body) = true ∧ (fin1 w os).heap.isNs mainGlobals = true) ∧ (fin1 w os).heap.isNs builtinsNs = true := by
    simpa only [Bool.and_eq_true] using b2
  rw [a1, a2, a3, b1, b2'.1.1, b2'.1.2, b2'.2, b3, b4, b5, b6, b7, b8, b9]
  rfl
end
section
noncomputable def Kf (P : Params) : Frag := [(3, ho_3_24 P), (22, ho_22_2 P), (33, ho_b3 0)]
theorem Kf_as (P : Params) : [3, 22, 33] = (Kf P).map (·.1) := rfl
abbrev Hk : Hook := kHook Kf [3, 22, 33] Kf_as
theorem obs_eq (w : World) (os : OsState) : Hk.obs (fin1 w os) = Hk.val w := by
  show ([3, 22, 33] : List Addr).map (fin1 w os).heap.get? = (Kf w.params).map fun p => some p.2
  kernel_rfl
theorem MM_le : Nat.ble MM 400000 = true := by decide +kernel
theorem left : LeftO pw qv loose Xt Hk.obs Hk.val 400000 true :=
  LeftO.of_pieces (g0 := true) (H₀ := boot_heap) (H₁ := fun P => absHeap (tr_24 P) 167 lf) (gs₀ := Array.mk []) (gs₁ := Array.mk []) (d₀ := boot_drawn) (d₁ := boot_drawn) (k₀ := boot_toks) (k₁ := 2346) (m₀ := 11) (ann := ann0) (M := MM)
    (open_eq 400000 (by decide +kernel)) size_eq run_eq MM_le (fun w => by
      funext os
      have a1 := congrFun (lk1 w) os
      have a2 := congrFun (lk2 w) os
      have a3 := congrFun (lk3 w) os
      have a4 := congrFun (lk4 w) os
      have e := seen_good w os
      have o := obs_eq w os
      show ((staticsOk (importedModules pw.main.body) (boot_heap w.params) (fin1 w os).heap && namesBound pw (fin1 w os).heap && gensDone (fin1 w os) && laidKept (boot_heap w.params) (fin1 w os).heap), openSeen qv loose (importedModules pw.main.body) Xt true (fin1 w os), Hk.obs (fin1 w os)) = _
      rw [a1, a2, a3, a4, e, o]
      rfl)
noncomputable def fPos : Stmt → Pos
  | .FunctionDef _ _ _ _ _ _ _ _ _ p => p
  | _ => default
noncomputable def dLaw : DefRec := ⟨Str.ofString "law", fArgs (stAt 23), fBody (stAt 23), fScope (stAt 23), fPos (stAt 23)⟩
abbrev WalkGoal : Prop := WalkO qv loose (XL qv []) Hk.says rw'.row.toRowW dLaw [] fun f vs => PySem.call f vs
theorem said0 : rw'.wellSaid = true := by kernel_rfl
theorem head (hc : WalkGoal) : PySem.Challenge.rw_ti0043_01.Holds := by
  w_on
  refine holds_law said0 fun said => ?_
  refine holds_open (q := qv) (loose := loose) (Xt := Xt) (XP := XL qv []) (Yf := Hk.obs) (Ya := Hk.val) (YP := Hk.says) (N := 400000) left Hk.of Hk.keeps (fun s e => xl_of s (Bool.and_eq_true_iff.mp e).1) XL.keeps (by kernel_rfl) (by kernel_rfl) (by kernel_rfl) (fun s e => recFacts_of (Bool.and_eq_true_iff.mp e).2) (by rfl) (by first | assumption | decide +kernel) (by decide +kernel) ⟨rfl, rfl, rfl, rfl, rfl, by decide +kernel⟩ ?hw hc
  w_witness2
end
section
/-- what a value is, as a tree -/
inductive D where
  | undef
  | none
  | bool (b : Bool)
  | int (i : Int)
  | str (x : List Nat)
  | tup (l : List D)
  | lst (l : List D)
  | obj (a : Addr)
noncomputable def D.undefd : D → Bool
  | .undef => true
  | _ => false
mutual
inductive Rep (N : List Addr) (h : Heap) : Value → D → Prop where
  | none : Rep N h .none .none
  | bool (b : Bool) : Rep N h (.bool b) (.bool b)
  | int (i : Int) (t : Tok) : Rep N h (.int i t) (.int i)
  | str (x : List Nat) (t : Tok) : Rep N h (.str ⟨x.toArray⟩ t) (.str x)
  | obj (a : Addr) : Rep N h (.ref a) (.obj a)
  | tup {a : Addr} {vs : List Value} {l : List D} : a ∉ N → IsTup h a vs.toArray → Reps N h vs l → Rep N h (.ref a) (.tup l)
  | lst {a : Addr} {vs : List Value} {l : List D} : a ∉ N → h.IsList a vs.toArray → Reps N h vs l → Rep N h (.ref a) (.lst l)
inductive Reps (N : List Addr) (h : Heap) : List Value → List D → Prop where
  | nil : Reps N h [] []
  | cons {v : Value} {d : D} {vs : List Value} {l : List D} : Rep N h v d → Reps N h vs l → Reps N h (v :: vs) (d :: l)
end
noncomputable def Kp (h h' : Heap) : Prop := ∀ b o, h.get? b = some o → h'.get? b = some o
/-- lists and tuples beside N stay -/
noncomputable def Ks (N : List Addr) (h h' : Heap) : Prop := ∀ b o, b ∉ N → (∃ xs n, o.data = .seq xs n) → h.get? b = some o → h'.get? b = some o
theorem Kp.ks {N : List Addr} {h h' : Heap} (k : Kp h h') : Ks N h h' := fun b o _ _ e => k b o e
theorem Kp.trans {h h' h'' : Heap} (a : Kp h h') (b : Kp h' h'') : Kp h h'' := fun x o e => b x o (a x o e)
theorem Kp.refl {h : Heap} : Kp h h := fun _ _ e => e
mutual
theorem Rep.mono {N N' : List Addr} {h h' : Heap} (hN : ∀ a, a ∈ N' → a ∈ N ∨ h.get? a = none) (k : Ks N h h') : ∀ {v : Value} {d : D}, Rep N h v d → Rep N' h' v d
  | _, _, .none => .none
  | _, _, .bool b => .bool b
  | _, _, .int i t => .int i t
  | _, _, .str x t => .str x t
  | _, _, .obj a => .obj a
  | _, _, .tup ha ⟨o, ho, hc, n, hd⟩ hr => .tup (fun hm => (hN _ hm).elim ha fun e => by rw [e] at ho; cases ho) ⟨o, k _ _ ha ⟨_, _, hd⟩ ho, hc, n, hd⟩ (Reps.mono hN k hr)
  | _, _, .lst ha ⟨o, ho, hc, n, hd⟩ hr => .lst (fun hm => (hN _ hm).elim ha fun e => by rw [e] at ho; cases ho) ⟨o, k _ _ ha ⟨_, _, hd⟩ ho, hc, n, hd⟩ (Reps.mono hN k hr)
theorem Reps.mono {N N' : List Addr} {h h' : Heap} (hN : ∀ a, a ∈ N' → a ∈ N ∨ h.get? a = none) (k : Ks N h h') : ∀ {vs : List Value} {l : List D}, Reps N h vs l → Reps N' h' vs l
  | _, _, .nil => .nil
  | _, _, .cons r rs => .cons (Rep.mono hN k r) (Reps.mono hN k rs)
end
theorem Rep.ks {N : List Addr} {h h' : Heap} {v : Value} {d : D} (r : Rep N h v d) (k : Ks N h h') : Rep N h' v d := r.mono (fun _ => .inl) k
theorem Reps.ks {N : List Addr} {h h' : Heap} {v : List Value} {d : List D} (r : Reps N h v d) (k : Ks N h h') : Reps N h' v d := r.mono (fun _ => .inl) k
theorem Rep.kp {N : List Addr} {h h' : Heap} {v : Value} {d : D} (r : Rep N h v d) (k : Kp h h') : Rep N h' v d := r.ks k.ks
theorem Reps.kp {N : List Addr} {h h' : Heap} {v : List Value} {d : List D} (r : Reps N h v d) (k : Kp h h') : Reps N h' v d := r.ks k.ks
theorem Rep.int_inv {N : List Addr} {h : Heap} {v : Value} {i : Int} (r : Rep N h v (.int i)) : ∃ t, v = .int i t := by
  cases r with | int _ t => exact ⟨t, rfl⟩
theorem Rep.str_inv {N : List Addr} {h : Heap} {v : Value} {x : List Nat} (r : Rep N h v (.str x)) : ∃ t, v = .str ⟨x.toArray⟩ t := by
  cases r with | str _ t => exact ⟨t, rfl⟩
theorem Rep.bool_inv {N : List Addr} {h : Heap} {v : Value} {b : Bool} (r : Rep N h v (.bool b)) : v = .bool b := by
  cases r; rfl
theorem Rep.none_inv {N : List Addr} {h : Heap} {v : Value} (r : Rep N h v .none) : v = .none := by
  cases r; rfl
theorem Rep.obj_inv {N : List Addr} {h : Heap} {v : Value} {a : Addr} (r : Rep N h v (.obj a)) : v = .ref a := by
  cases r; rfl
theorem Rep.lst_inv {N : List Addr} {h : Heap} {v : Value} {l : List D} (r : Rep N h v (.lst l)) : ∃ a vs, v = .ref a ∧ a ∉ N ∧ h.IsList a (List.toArray vs) ∧ Reps N h vs l := by
  cases r with | lst ha hl rs => exact ⟨_, _, rfl, ha, hl, rs⟩
theorem Reps.nil_inv {N : List Addr} {h : Heap} {vs : List Value} (r : Reps N h vs []) : vs = [] := by
  cases r; rfl
theorem Reps.cons_inv {N : List Addr} {h : Heap} {vs : List Value} {d : D} {l : List D} (r : Reps N h vs (d :: l)) : ∃ v ws, vs = v :: ws ∧ Rep N h v d ∧ Reps N h ws l := by
  cases r with | cons r rs => exact ⟨_, _, rfl, r, rs⟩
theorem Reps.one {N : List Addr} {h : Heap} {vs : List Value} {d : D} (r : Reps N h vs [d]) : ∃ v, vs = [v] ∧ Rep N h v d := by
  obtain ⟨v, ws, rfl, r1, rs⟩ := r.cons_inv
  rw [rs.nil_inv]
  exact ⟨v, rfl, r1⟩
theorem Reps.length {N : List Addr} {h : Heap} : ∀ {vs : List Value} {l : List D}, Reps N h vs l → vs.length = l.length
  | _, _, .nil => rfl
  | _, _, .cons _ r => congrArg (· + 1) r.length
theorem Reps.get {N : List Addr} {h : Heap} : ∀ {vs : List Value} {l : List D}, Reps N h vs l → ∀ {i : Nat} {d : D}, l[i]? = some d → ∃ v, vs[i]? = some v ∧ Rep N h v d
  | _, _, .nil, _, _, e => by simp at e
  | _, _, .cons r rs, 0, _, e => by simp at e; subst e; exact ⟨_, rfl, r⟩
  | _, _, .cons r rs, i + 1, _, e => by simp only [List.getElem?_cons_succ] at e ⊢; exact rs.get e
theorem Reps.append {N : List Addr} {h : Heap} : ∀ {vs ws : List Value} {l m : List D}, Reps N h vs l → Reps N h ws m → Reps N h (vs ++ ws) (l ++ m)
  | _, _, _, _, .nil, r => r
  | _, _, _, _, .cons a r, s => .cons a (r.append s)
theorem Reps.snoc {N : List Addr} {h : Heap} {vs : List Value} {l : List D} {v : Value} {d : D} (r : Reps N h vs l) (a : Rep N h v d) : Reps N h (vs ++ [v]) (l ++ [d]) := r.append (.cons a .nil)
theorem Reps.drop {N : List Addr} {h : Heap} : ∀ {vs : List Value} {l : List D} (n : Nat), Reps N h vs l → Reps N h (vs.drop n) (l.drop n)
  | _, _, 0, r => r
  | _, _, _ + 1, .nil => .nil
  | _, _, n + 1, .cons _ r => r.drop n
theorem Reps.take {N : List Addr} {h : Heap} : ∀ {vs : List Value} {l : List D} (n : Nat), Reps N h vs l → Reps N h (vs.take n) (l.take n)
  | _, _, 0, r => .nil
  | _, _, _ + 1, .nil => .nil
  | _, _, n + 1, .cons a r => .cons a (r.take n)
theorem Reps.reverse {N : List Addr} {h : Heap} : ∀ {vs : List Value} {l : List D}, Reps N h vs l → Reps N h vs.reverse l.reverse
  | _, _, .nil => .nil
  | _, _, .cons a r => by rw [List.reverse_cons, List.reverse_cons]; exact r.reverse.snoc a
/-- suspended generators stay as they are; new ones are bare -/
noncomputable def GensUp (g g' : Array GenState) : Prop := (∀ (i : Nat) (x : GenState), g[i]? = some x → g'[i]? = some x) ∧ (AllBare g → AllBare g')
theorem GensUp.refl {g : Array GenState} : GensUp g g := ⟨fun _ _ e => e, fun a => a⟩
theorem GensUp.trans {g g' g'' : Array GenState} (a : GensUp g g') (b : GensUp g' g'') : GensUp g g'' := ⟨fun i x e => b.1 i x (a.1 i x e), fun x => b.2 (a.2 x)⟩
/-- a run that keeps all that was -/
noncomputable def Keeps (s s' : Shared) : Prop := ∃ h' tk g, s' = { s with heap := h', toks := tk, gens := g } ∧ Kp s.heap h' ∧ GensUp s.gens g
theorem Keeps.kp {s s' : Shared} (k : Keeps s s') : Kp s.heap s'.heap := by
  obtain ⟨h', tk, g, rfl, hk, _⟩ := k
  exact hk
theorem keeps_trans {s s' s'' : Shared} (a : Keeps s s') (b : Keeps s' s'') : Keeps s s'' := by
  obtain ⟨h1, t1, g1, rfl, k1, u1⟩ := a
  obtain ⟨h2, t2, g2, rfl, k2, u2⟩ := b
  exact ⟨h2, t2, g2, rfl, fun x o e => k2 x o (k1 x o e), u1.trans u2⟩
theorem keeps_refl {s : Shared} : Keeps s s := ⟨s.heap, s.toks, s.gens, rfl, fun _ _ e => e, .refl⟩
theorem keeps_of {s : Shared} {h' : Heap} {tk : Nat} (k : Kp s.heap h') : Keeps s { s with heap := h', toks := tk } := ⟨h', tk, s.gens, rfl, k, .refl⟩
theorem keeps_tok {s : Shared} {tk : Nat} : Keeps s { s with toks := tk } := ⟨s.heap, tk, s.gens, rfl, fun _ _ e => e, .refl⟩
/-- a run that never raises -/
abbrev Wp (w : World) (A : Around) {α : Type} (t : Sem α) (Q : α → Shared → Prop) (s : Shared) : Prop := wpAny (model pw w) A t Q (fun _ _ => False) s
theorem Wp.any {w : World} {A : Around} {α : Type} {t : Sem α} {Q : α → Shared → Prop} {E : Value → Shared → Prop} {s : Shared} (h : Wp w A t Q s) : wpAny (model pw w) A t Q E s :=
  wpAny_mono h (fun _ _ q => q) fun _ _ f => f.elim
theorem Wp.mono {w : World} {A : Around} {α : Type} {t : Sem α} {Q Q' : α → Shared → Prop} {s : Shared} (h : Wp w A t Q s) (k : ∀ a s, Q a s → Q' a s) : Wp w A t Q' s :=
  wpAny_mono h k fun _ _ f => f
/-- the text's own facts, at a heap -/
noncomputable def Gl (w : World) (h : Heap) : Prop := ∃ mg mb mean, Top qv (looseW qv loose) mean mg mb h ∧ (Kf w.params).In h
theorem Gl.kp {w : World} {h h' : Heap} (g : Gl w h) (k : Kp h h') : Gl w h' := let ⟨mg, mb, mean, T, K⟩ := g; ⟨mg, mb, mean, T.keeps k, K.keeps k⟩
structure Cx where
  w : World
  A : Around
  env : Env
  N : List Addr
  h0 : Heap
abbrev Sto := List (Str × D)
/-- the name x of the block holds v -/
noncomputable def VarIs (env : Env) (h : Heap) (x : Str) (v : Value) : Prop :=
  (env.kindOf x = some .local ∧ ∃ m, h.Ns env.locals m ∧ m x = some v) ∨ (env.kindOf x = some .cell ∧ ∃ c, env.cells.lookup x = some c ∧ h.IsCell c (some v))
theorem VarIs.kp {env : Env} {h h' : Heap} {x : Str} {v : Value} (r : VarIs env h x v) (k : Kp h h') : VarIs env h' x v := by
  rcases r with ⟨a, m, n, e⟩ | ⟨a, c, e, o, ho, hd⟩
  · exact .inl ⟨a, m, n.keeps k, e⟩
  · exact .inr ⟨a, c, e, o, k _ _ ho, hd⟩
structure Cx.Ok (X : Cx) : Prop where
  kind : X.env.scope.kind = .function
  gl : X.env.globals = mainGlobals
  bl : X.env.builtins = builtinsNs
  glob : Gl X.w X.h0
  fresh : X.h0.get? X.env.locals = none
  hd : X.A.handled = none
  units : X.A.units + 64 < cLine
  cells : ∀ x, X.env.kindOf x = some .cell → ∃ c, X.env.cells.lookup x = some c
structure Rel (X : Cx) (σ : Sto) (h : Heap) : Prop where
  base : Kp X.h0 h
  ns : ∃ m, h.Ns X.env.locals m
  vars : ∀ x d, σ.lookup x = some d → d.undefd = false → ∃ v, VarIs X.env h x v ∧ Rep X.N h v d
  nin : ∀ a ∈ X.N, ∃ o, h.get? a = some o
  cl : ∀ x c, X.env.cells.lookup x = some c → ∃ o, h.get? c = some o
theorem Rel.kp {X : Cx} {σ : Sto} {h h' : Heap} (r : Rel X σ h) (k : Kp h h') : Rel X σ h' :=
  ⟨r.base.trans k, let ⟨m, n⟩ := r.ns; ⟨m, n.keeps k⟩, fun x d e hu => let ⟨v, a, b⟩ := r.vars x d e hu; ⟨v, a.kp k, b.kp k⟩, fun a ha => let ⟨o, e⟩ := r.nin a ha; ⟨o, k _ _ e⟩, fun x c hc => let ⟨o, e⟩ := r.cl x c hc; ⟨o, k _ _ e⟩⟩
theorem Rel.keeps {X : Cx} {σ : Sto} {s s' : Shared} (r : Rel X σ s.heap) (k : Keeps s s') : Rel X σ s'.heap := r.kp (Keeps.kp k)
theorem Rel.sub {X : Cx} {σ σ' : Sto} {h : Heap} (r : Rel X σ h) (k : ∀ x d, σ'.lookup x = some d → σ.lookup x = some d) : Rel X σ' h := ⟨r.base, r.ns, fun x d e hu => r.vars x d (k x d e) hu, r.nin, r.cl⟩
/-- the ambient facts that an operation may lean on -/
structure Am (X : Cx) (h : Heap) : Prop where
  glob : Gl X.w h
  units : X.A.units + 64 < cLine
  nin : ∀ a ∈ X.N, ∃ o, h.get? a = some o
theorem Am.kp {X : Cx} {h h' : Heap} (r : Am X h) (k : Kp h h') : Am X h' := ⟨r.glob.kp k, r.units, fun a ha => let ⟨o, e⟩ := r.nin a ha; ⟨o, k _ _ e⟩⟩
theorem Rel.am {X : Cx} (ok : X.Ok) {σ : Sto} {h : Heap} (r : Rel X σ h) : Am X h := ⟨ok.glob.kp r.base, ok.units, r.nin⟩
theorem Am.newAddr {X : Cx} {h : Heap} (r : Am X h) : h.objs.size ∉ X.N := fun hm => by
  obtain ⟨o, e⟩ := r.nin _ hm
  exact Nat.lt_irrefl _ (Heap.lt_size e)
/-- the outcome of an evaluation: some data that answers as Q says, and all that was stays -/
abbrev Gq (X : Cx) (Q : D → Prop) (s : Shared) : Value → Shared → Prop := fun v s' => ∃ d, Rep X.N s'.heap v d ∧ Q d ∧ Keeps s s'
noncomputable def small (i : Int) : Prop := i.natAbs < 2 ^ 64
noncomputable def binW (o : Operator) (a b : D) (Q : D → Prop) : Prop :=
  match o, a, b with
  | .Add, .int i, .int j => Q (.int (i + j))
  | .Add, .str x, .str y => x.length + y.length ≤ sizeLine ∧ Q (.str (x ++ y))
  | .Add, .lst x, .lst y => x.length + y.length ≤ sizeLine ∧ Q (.lst (x ++ y))
  | .Sub, .int i, .int j => Q (.int (i - j))
  | .Mult, .int i, .int j => small i ∧ small j ∧ Q (.int (i * j))
  | .Mult, .str x, .int j => x.length ≤ 16 ∧ j.natAbs ≤ 1000 ∧ Q (.str (List.replicate j.toNat x).flatten)
  | .Mult, .lst x, .int j => x.length ≤ 16 ∧ j.natAbs ≤ 16 ∧ Q (.lst (List.replicate j.toNat x).flatten)
  | .FloorDiv, .int i, .int j => j ≠ 0 ∧ j.natAbs < 1073741824 ∧ Q (.int (i.fdiv j))
  | .Mod, .int i, .int j => j ≠ 0 ∧ Q (.int (i.fmod j))
  | .Pow, .int i, .int j => 0 ≤ j ∧ j ≤ 1000000 ∧ small i ∧ Q (.int (i ^ j.toNat))
  | _, _, _ => False
noncomputable def D.isInt : D → Bool
  | .int _ => true
  | _ => false
noncomputable def D.isStr : D → Bool
  | .str _ => true
  | _ => false
/-- the signs of table B.1 -/
noncomputable def b1 (i : Int) : Bool := [(173 : Int), 847, 6150, 6155, 6156, 6157, 8203, 8204, 8205, 8288, 65279, 65024, 65025, 65026, 65027, 65028, 65029, 65030, 65031, 65032, 65033, 65034, 65035, 65036, 65037, 65038, 65039].contains i
noncomputable def cmpW (o : CmpOp) (a b : D) (Q : D → Prop) : Prop :=
  match o, a, b with
  | .Lt, .int i, .int j => Q (.bool (decide (i < j)))
  | .Gt, .int i, .int j => Q (.bool (decide (j < i)))
  | .GtE, .int i, .int j => Q (.bool (decide (j ≤ i)))
  | .Eq, .int i, .int j => Q (.bool (i == j))
  | .Eq, .str x, .str y => Q (.bool (x == y))
  | .Eq, .lst x, .lst y => x.length ≤ 64 ∧ y.length ≤ 64 ∧ ((x.all D.isInt = true ∧ y.all D.isInt = true) ∨ (x.all D.isStr = true ∧ y.all D.isStr = true)) ∧ ∀ c : Bool, (c = true ↔ x = y) → Q (.bool c)
  | .NotEq, .lst x, .lst y => x.length ≤ 64 ∧ y.length ≤ 64 ∧ ((x.all D.isInt = true ∧ y.all D.isInt = true) ∨ (x.all D.isStr = true ∧ y.all D.isStr = true)) ∧ ∀ c : Bool, (c = true ↔ x = y) → Q (.bool (!c))
  | .Is, .bool c, .bool d => Q (.bool (c == d))
  | .Is, .none, .none => Q (.bool true)
  | .Is, .int _, .none => Q (.bool false)
  | .IsNot, .none, .none => Q (.bool false)
  | .IsNot, .str _, .none => Q (.bool true)
  | .In, .int i, .obj n => n = 22 ∧ Q (.bool (b1 i))
  | .NotIn, .str y, .str x => Q (.bool (!!(Builtin.Str.occurrences ⟨x.toArray⟩ ⟨y.toArray⟩ 0 x.length 1).isEmpty))
  | _, _, _ => False
noncomputable def onSome {α : Type} (o : Option α) (Q : α → Prop) : Prop :=
  match o with
  | some d => Q d
  | none => False
theorem onSome_intro {α : Type} {o : Option α} {Q : α → Prop} {d : α} (h : o = some d) (q : Q d) : onSome o Q := by
  subst h; exact q
theorem onSome_elim {α : Type} {o : Option α} {Q : α → Prop} (h : onSome o Q) : ∃ d, o = some d ∧ Q d := by
  cases o with
  | none => exact h.elim
  | some d => exact ⟨d, rfl, h⟩
noncomputable def getW (a b : D) (Q : D → Prop) : Prop :=
  match a, b with
  | .lst l, .int k => -2 ^ 63 ≤ k ∧ k < 2 ^ 63 ∧ onSome (seqIndex? k l.length) fun j => onSome l[j]? Q
  | .tup l, .int k => -2 ^ 63 ≤ k ∧ k < 2 ^ 63 ∧ onSome (seqIndex? k l.length) fun j => onSome l[j]? Q
  | .str x, .int k => 0 ≤ k ∧ k < x.length ∧ x.length ≤ sizeLine ∧ onSome x[k.toNat]? fun c => Q (.str [c])
  | _, _ => False
/-- a slice with no step -/
noncomputable def cut {α : Type} (lo hi : Option Int) (l : List α) : List α := (l.drop (lo.elim 0 (clipAt l.length))).take (hi.elim l.length (clipAt l.length) - lo.elim 0 (clipAt l.length))
noncomputable def truW (a : D) (Q : Bool → Prop) : Prop :=
  match a with
  | .none => Q false
  | .bool c => Q c
  | .int i => Q (i != 0)
  | .str x => x.length ≤ sizeLine ∧ Q (!x.isEmpty)
  | .lst l => l.length ≤ sizeLine ∧ Q (!l.isEmpty)
  | _ => False
end
section
inductive BinV (Q : D → Prop) : Operator → D → D → Prop where
  | a0 {i j} (h : Q (.int (i + j))) : BinV Q .Add (.int i) (.int j)
  | a1 {x y} (h : x.length + y.length ≤ sizeLine ∧ Q (.str (x ++ y))) : BinV Q .Add (.str x) (.str y)
  | a2 {x y} (h : x.length + y.length ≤ sizeLine ∧ Q (.lst (x ++ y))) : BinV Q .Add (.lst x) (.lst y)
  | a3 {i j} (h : Q (.int (i - j))) : BinV Q .Sub (.int i) (.int j)
  | a4 {i j} (h : small i ∧ small j ∧ Q (.int (i * j))) : BinV Q .Mult (.int i) (.int j)
  | a5 {x j} (h : x.length ≤ 16 ∧ j.natAbs ≤ 1000 ∧ Q (.str (List.replicate j.toNat x).flatten)) : BinV Q .Mult (.str x) (.int j)
  | a6 {x j} (h : x.length ≤ 16 ∧ j.natAbs ≤ 16 ∧ Q (.lst (List.replicate j.toNat x).flatten)) : BinV Q .Mult (.lst x) (.int j)
  | a7 {i j} (h : j ≠ 0 ∧ j.natAbs < 1073741824 ∧ Q (.int (i.fdiv j))) : BinV Q .FloorDiv (.int i) (.int j)
  | a8 {i j} (h : j ≠ 0 ∧ Q (.int (i.fmod j))) : BinV Q .Mod (.int i) (.int j)
  | a9 {i j} (h : 0 ≤ j ∧ j ≤ 1000000 ∧ small i ∧ Q (.int (i ^ j.toNat))) : BinV Q .Pow (.int i) (.int j)
theorem binW_view {o : Operator} {a b : D} {Q : D → Prop} (h : binW o a b Q) : BinV Q o a b := by
  cases o with
  | Add => cases a with
    | int i => cases b with
      | int j => exact .a0 h
      | _ => exact h.elim
    | str x => cases b with
      | str y => exact .a1 h
      | _ => exact h.elim
    | lst x => cases b with
      | lst y => exact .a2 h
      | _ => exact h.elim
    | _ => (first | exact h.elim | (cases b <;> exact h.elim))
  | Sub => cases a with
    | int i => cases b with
      | int j => exact .a3 h
      | _ => exact h.elim
    | _ => (first | exact h.elim | (cases b <;> exact h.elim))
  | Mult => cases a with
    | int i => cases b with
      | int j => exact .a4 h
      | _ => exact h.elim
    | str x => cases b with
      | int j => exact .a5 h
      | _ => exact h.elim
    | lst x => cases b with
      | int j => exact .a6 h
      | _ => exact h.elim
    | _ => (first | exact h.elim | (cases b <;> exact h.elim))
  | FloorDiv => cases a with
    | int i => cases b with
      | int j => exact .a7 h
      | _ => exact h.elim
    | _ => (first | exact h.elim | (cases b <;> exact h.elim))
  | Mod => cases a with
    | int i => cases b with
      | int j => exact .a8 h
      | _ => exact h.elim
    | _ => (first | exact h.elim | (cases b <;> exact h.elim))
  | Pow => cases a with
    | int i => cases b with
      | int j => exact .a9 h
      | _ => exact h.elim
    | _ => (first | exact h.elim | (cases b <;> exact h.elim))
  | _ => first | exact h.elim | (cases a <;> first | exact h.elim | (cases b <;> exact h.elim))
section
variable {X : Cx} {s : Shared} {Q : D → Prop} {Qb : Bool → Prop}
theorem gq_new {X : Cx} {s : Shared} {Q : D → Prop} (am : Am X s.heap) {vs : List Value} {l : List D} (rs : Reps X.N s.heap vs l) (q : Q (.lst l)) {tk : Nat} :
    Gq X Q s (.ref s.heap.objs.size) { s with heap := s.heap.push { cls := .type "list", data := .seq vs.toArray }, toks := tk } := by
  have k : Kp s.heap (s.heap.push { cls := .type "list", data := .seq vs.toArray }) := fun b o e => Heap.get?_push_of_some _ e
  exact ⟨.lst l, .lst am.newAddr ⟨_, Heap.get?_push_size _ rfl, rfl, _, rfl⟩ (rs.kp k), q, keeps_of k⟩
theorem gq_newT {X : Cx} {s : Shared} {Q : D → Prop} (am : Am X s.heap) {vs : List Value} {l : List D} (rs : Reps X.N s.heap vs l) (q : Q (.tup l)) {tk : Nat} :
    Gq X Q s (.ref s.heap.objs.size) { s with heap := s.heap.push { cls := .type "tuple", data := .seq vs.toArray }, toks := tk } := by
  have k : Kp s.heap (s.heap.push { cls := .type "tuple", data := .seq vs.toArray }) := fun b o e => Heap.get?_push_of_some _ e
  exact ⟨.tup l, .tup am.newAddr ⟨_, Heap.get?_push_size _ rfl, rfl, _, rfl⟩ (rs.kp k), q, keeps_of k⟩
theorem add_list_ok {s : Shared} {w : World} {A : Around} {E : Value → Shared → Prop} {l b : Addr} {vs ws : List Value} {Q : Value → Shared → Prop} (hl : s.heap.IsList l vs.toArray) (hb : s.heap.IsList b ws.toArray)
    (h : Q (.ref s.heap.objs.size) { s with heap := s.heap.push { cls := .type "list", data := .seq (vs ++ ws).toArray } })
    (hsz : vs.length + ws.length ≤ sizeLine) : wpAny (model pw w) A (binaryOp .Add (.ref l) (.ref b)) Q E s := by
  obtain ⟨⟨cls, dd, data, sl⟩, ho, hc, n, hd⟩ := id hl
  obtain ⟨⟨cls2, dd2, data2, sl2⟩, ho2, hc2, n2, hd2⟩ := id hb
  simp only at hc hd hc2 hd2
  subst hc hd hc2 hd2
  have e : vs.toArray ++ ws.toArray = (vs ++ ws).toArray := by simp
  refine concat_meets ⟨_, ho, rfl⟩ ⟨_, ho2, rfl⟩ noFill_list_add seq_list_add PySem.F.slot_list_add PySem.F.entry_list_add (PySem.F.args_list_add_2 _ _) (list_addW l b vs.toArray ws.toArray n n2 dd dd2 sl sl2 (by simpa using hsz)) ⟨ho, ho2, ?_⟩
  rw [e]
  exact h
theorem mul_list_ok {s : Shared} {w : World} {A : Around} {E : Value → Shared → Prop} {l : Addr} {vs : List Value} {x : Int} {u : Tok} {Q : Value → Shared → Prop} (hl : s.heap.IsList l vs.toArray) (hlo : -(2 ^ 63 : Int) ≤ x) (hhi : x < 2 ^ 63) (hsz : vs.length * x.toNat ≤ 256)
    (h : Q (.ref s.heap.objs.size) { s with heap := s.heap.push { cls := .type "list", data := .seq (List.replicate x.toNat vs).flatten.toArray } }) : wpAny (model pw w) A (binaryOp .Mult (.ref l) (.int x u)) Q E s := by
  obtain ⟨⟨cls, d, data, sl⟩, ho, hcl, k, hd⟩ := id hl
  simp only at hcl hd
  subst hcl hd
  have hsz' : vs.toArray.size * x.toNat ≤ 256 := by simpa using hsz
  refine wpAny_binaryOp_repeat_ref (T := "list") (U := "int") (by decide) ⟨_, ho, rfl⟩ (fun s' => typeIs_int s' x u) noFill_list_mul F.fills_int_mul F.slot_int_rmul repeat_list F.slot_int_index.lookup
    (call_meets F.slot_int_rmul (typeIs_int s x u) F.entry_int_rmul (F.args_int_rmul_2 _ _) (lm_int_rmul_list_any x u l vs.toArray k d sl)
      ⟨ho, rfl, ⟨_, ho, rfl⟩, call_meets F.slot_list_mul ⟨_, ho, rfl⟩ F.entry_list_mul (F.args_list_mul_2 _ _)
        (lm_list_mul_any l vs.toArray k d sl x u (by simp [Builtin.List.listFitsIndex]; omega) (by omega) (by simp [Builtin.List.listTooLong, sizeLine]; omega))
        ⟨ho, ?_⟩⟩)
  rw [listMul_foldl_if]
  exact h
theorem Reps.rep {N : List Addr} {h : Heap} {vs : List Value} {l : List D} (r : Reps N h vs l) : ∀ n : Nat, Reps N h (List.replicate n vs).flatten (List.replicate n l).flatten
  | 0 => .nil
  | n + 1 => by rw [List.replicate_succ, List.replicate_succ, List.flatten_cons, List.flatten_cons]; exact r.append (r.rep n)
theorem mul_text (x : List Nat) (n : Int) : Txt.mul ⟨x.toArray⟩ n = ⟨(List.replicate n.toNat x).flatten.toArray⟩ := by
  unfold Txt.mul
  by_cases h1 : n < 1
  · rw [if_pos h1]
    have : n.toNat = 0 := by omega
    rw [this]; rfl
  · rw [if_neg h1]
    have key : ∀ k : Nat, ∀ z : Array Nat, List.foldl (fun x1 x2 => x1 ++ x2) z (List.replicate k x.toArray) = z ++ (List.replicate k x).flatten.toArray := by
      intro k
      induction k with
      | zero => intro z; simp
      | succ k ih => intro z; rw [List.replicate_succ, List.foldl_cons, ih, List.replicate_succ, List.flatten_cons]; simp
    split
    · rename_i hc
      rcases Bool.or_eq_true_iff.mp hc with h2 | h2
      · have : n = 1 := by simpa using h2
        subst this
        show _ = (⟨(List.replicate 1 x).flatten.toArray⟩ : Str)
        simp
      · have : x = [] := by simpa [PySem.Str.length] using h2
        subst this
        simp
    · rw [key]; simp
theorem small_bits {i : Int} (h : small i) : Builtin.Int.intBits i ≤ 64 := by
  unfold small at h
  unfold Builtin.Int.intBits
  split
  · omega
  · rename_i hz
    have : i.natAbs.log2 < 64 := (Nat.log2_lt (by intro h0; apply hz; simp; omega)).mpr h
    omega
theorem binW_ok {o : Operator} {a b : D} (am : Am X s.heap) (h : binW o a b Q) {v1 v2 : Value} (r1 : Rep X.N s.heap v1 a) (r2 : Rep X.N s.heap v2 b) : Wp X.w X.A (binaryOp o v1 v2) (Gq X Q s) s := by
  replace h := binW_view h
  rcases h with h | h | h | h | h | h | h | h | h | h
  · obtain ⟨_, rfl⟩ := r1.int_inv; obtain ⟨_, rfl⟩ := r2.int_inv
    exact add_int ⟨_, .int _ _, h, keeps_tok⟩
  · rename_i x y
    obtain ⟨_, rfl⟩ := r1.str_inv; obtain ⟨_, rfl⟩ := r2.str_inv
    refine add_str (fun t' tk => ⟨.str (x ++ y), ?_, h.2, keeps_tok⟩) (by simpa [PySem.Str.length] using h.1)
    have e : (⟨x.toArray⟩ ++ ⟨y.toArray⟩ : Str) = ⟨(x ++ y).toArray⟩ := by
      show (⟨x.toArray ++ y.toArray⟩ : Str) = _
      simp
    rw [e]; exact .str _ _
  · obtain ⟨_, _, rfl, ha1, hl1, rs1⟩ := r1.lst_inv
    obtain ⟨_, _, rfl, ha2, hl2, rs2⟩ := r2.lst_inv
    exact add_list_ok hl1 hl2 (gq_new am (rs1.append rs2) h.2) (by rw [rs1.length, rs2.length]; exact h.1)
  · obtain ⟨_, rfl⟩ := r1.int_inv; obtain ⟨_, rfl⟩ := r2.int_inv
    exact sub_int' ⟨_, .int _ _, h, keeps_tok⟩
  · obtain ⟨_, rfl⟩ := r1.int_inv; obtain ⟨_, rfl⟩ := r2.int_inv
    refine mul_int ⟨_, .int _ _, h.2.2, keeps_tok⟩ ?_
    have h1 := small_bits h.1
    unfold IntMulOk
    simp [shortFactorBits]
    intro h2
    omega
  · rename_i x j
    obtain ⟨_, rfl⟩ := r1.str_inv; obtain ⟨_, rfl⟩ := r2.int_inv
    refine SB.mul ?_ (fun t' k => ⟨_, ?_, h.2.2, keeps_tok⟩)
    · exact mulOk_of 16 1048576 (by simpa [PySem.Str.length] using h.1) (by have := h.2.1; omega) (by have := h.2.1; omega) (by decide) (by decide)
    · rw [mul_text]; exact .str _ _
  · rename_i x j
    obtain ⟨_, rfl⟩ := r2.int_inv
    obtain ⟨_, _, rfl, ha1, hl1, rs1⟩ := r1.lst_inv
    exact mul_list_ok hl1 (by have := h.2.1; omega) (by have := h.2.1; omega) (by
        rw [rs1.length]
        exact Nat.le_trans (Nat.mul_le_mul h.1 (show j.toNat ≤ 16 by have := h.2.1; omega)) (by decide)) (gq_new am (rs1.rep _) h.2.2)
  · obtain ⟨_, rfl⟩ := r1.int_inv; obtain ⟨_, rfl⟩ := r2.int_inv
    exact floordiv_int h.1 ⟨_, .int _ _, h.2.2, keeps_tok⟩ (.inl (PyProof.noPylong_small h.2.1))
  · obtain ⟨_, rfl⟩ := r1.int_inv; obtain ⟨_, rfl⟩ := r2.int_inv
    exact mod_int' h.1 ⟨_, .int _ _, h.2, keeps_tok⟩
  · obtain ⟨_, rfl⟩ := r1.int_inv; obtain ⟨_, rfl⟩ := r2.int_inv
    exact pow_int_small h.1 h.2.1 h.2.2.1 ⟨_, .int _ _, h.2.2.2, keeps_tok⟩
end
end
section
section
variable {X : Cx} {s : Shared} {Q : D → Prop} {Qb : Bool → Prop}
theorem Reps.getv {N : List Addr} {h : Heap} : ∀ {vs : List Value} {l : List D}, Reps N h vs l → ∀ {i : Nat} (h1 : i < vs.length) (h2 : i < l.length), Rep N h vs[i] l[i]
  | _, _, .cons r rs, 0, _, _ => r
  | _, _, .cons r rs, i + 1, h1, h2 => rs.getv (i := i) (by simpa using h1) (by simpa using h2)
noncomputable def dEq : D → D → Bool
  | .int a, .int b => a == b
  | .str x, .str y => x == y
  | _, _ => false
noncomputable def flat (x y : List D) : Prop := (x.all D.isInt = true ∧ y.all D.isInt = true) ∨ (x.all D.isStr = true ∧ y.all D.isStr = true)
theorem dEq_at {x y : List D} (hf : flat x y) {N : List Addr} {vs ws : List Value} (rx : Reps N s.heap vs x) (ry : Reps N s.heap ws y) (A : Around) (j : Nat) (h1 : j < vs.length) (h2 : j < ws.length) :
    SeqAt.EqAt A s vs[j] ws[j] (dEq (x[j]?.getD .none) (y[j]?.getD .none)) ∧ (dEq (x[j]?.getD .none) (y[j]?.getD .none) = true ↔ x[j]? = y[j]?) := by
  have g1 : j < x.length := rx.length ▸ h1
  have g2 : j < y.length := ry.length ▸ h2
  have a := rx.getv h1 g1
  have b := ry.getv h2 g2
  rw [List.getElem?_eq_getElem g1, List.getElem?_eq_getElem g2, Option.getD_some, Option.getD_some]
  have m1 : x[j] ∈ x := List.getElem_mem g1
  have m2 : y[j] ∈ y := List.getElem_mem g2
  generalize vs[j] = u1 at *
  generalize ws[j] = u2 at *
  generalize x[j] = d1 at *
  generalize y[j] = d2 at *
  rcases hf with ⟨p, q⟩ | ⟨p, q⟩
  · have p1 := List.all_eq_true.mp p _ m1
    have q1 := List.all_eq_true.mp q _ m2
    cases d1 <;> simp [D.isInt] at p1
    cases d2 <;> simp [D.isInt] at q1
    cases a; cases b
    refine ⟨SeqAt.EqAt.int_int _ _ _ _, by simp [dEq]⟩
  · have p1 := List.all_eq_true.mp p _ m1
    have q1 := List.all_eq_true.mp q _ m2
    cases d1 <;> simp [D.isStr] at p1
    cases d2 <;> simp [D.isStr] at q1
    cases a; cases b
    rename_i x1 x2 _ _
    refine ⟨?_, by simp [dEq]⟩
    have e : dEq (.str x1) (.str x2) = ((⟨x1.toArray⟩ : Str) == ⟨x2.toArray⟩) := by
      rw [Bool.eq_iff_iff]; simp [dEq]
    rw [e]
    exact SeqAt.EqAt.str_str _ _ _ _
theorem dEq_all {x y : List D} (hf : ∀ j, j < x.length → (dEq (x[j]?.getD .none) (y[j]?.getD .none) = true ↔ x[j]? = y[j]?)) (hl : x.length = y.length) :
    ((List.range x.length).all fun j => dEq (x[j]?.getD .none) (y[j]?.getD .none)) = true ↔ x = y := by
  rw [List.all_eq_true]
  constructor
  · intro h
    apply List.ext_getElem? 
    intro j
    by_cases hj : j < x.length
    · exact (hf j hj).mp (h j (List.mem_range.mpr hj))
    · rw [List.getElem?_eq_none (by omega), List.getElem?_eq_none (by omega)]
  · rintro rfl j hj
    exact (hf j (List.mem_range.mp hj)).mpr rfl
theorem eq_lists_ok {x y : List D} (hf : flat x y) {N : List Addr} {vs ws : List Value} (rx : Reps N s.heap vs x) (ry : Reps N s.heap ws y) {l b : Addr} (hl : s.heap.IsList l vs.toArray) (hb : s.heap.IsList b ws.toArray)
    {A : Around} (hu : A.units < cLine) {w : World} {E : Value → Shared → Prop} {Q : Value → Shared → Prop} (h : ∀ c : Bool, (c = true ↔ x = y) → Q (.bool c) s) : wpAny (model pw w) A (compareOp .Eq (.ref l) (.ref b)) Q E s := by
  by_cases hsz : vs.length = ws.length
  · refine SeqAt.eq_listAt (e := fun j => dEq (x[j]?.getD .none) (y[j]?.getD .none)) hl hb (by simpa using hsz) hu (fun j h1 h2 => ?_) (h _ ?_)
    · exact (dEq_at hf rx ry _ j (by simpa using h1) (by simpa using h2)).1
    · rw [List.size_toArray, rx.length]
      exact dEq_all (fun j hj => (dEq_at hf rx ry A j (by rw [rx.length]; exact hj) (by rw [← hsz, rx.length]; exact hj)).2) (by rw [← rx.length, ← ry.length]; exact hsz)
  · refine SeqAt.eq_list_lengthsAt hl hb (by simpa using hsz) hu (h _ ?_)
    constructor
    · intro e; cases e
    · rintro rfl; exact (hsz (by rw [rx.length, ry.length])).elim
theorem rcne_ok {w : World} {A : Around} {E : Value → Shared → Prop} {s : Shared} {a b : Value} {k : Bool} {Q : Value → Shared → Prop} (h : SeqAt.RcNeAt A s a b k) (hq : Q (.bool k) s) : wpAny (model pw w) A (compareOp .NotEq a b) Q E s := h pw w E Q hq
theorem ne_lists_ok {x y : List D} (hf : flat x y) {N : List Addr} {vs ws : List Value} (rx : Reps N s.heap vs x) (ry : Reps N s.heap ws y) {l b : Addr} (hl : s.heap.IsList l vs.toArray) (hb : s.heap.IsList b ws.toArray)
    {A : Around} (hu : A.units < cLine) {w : World} {E : Value → Shared → Prop} {Q : Value → Shared → Prop} (h : ∀ c : Bool, (c = true ↔ x = y) → Q (.bool (!c)) s) : wpAny (model pw w) A (compareOp .NotEq (.ref l) (.ref b)) Q E s := by
  by_cases hsz : vs.length = ws.length
  · refine rcne_ok (SeqAt.RcNeAt.lists (e := fun j => dEq (x[j]?.getD .none) (y[j]?.getD .none)) hl hb (by simpa using hsz) hu (fun j h1 h2 => ?_)) (h _ ?_)
    · exact (dEq_at hf rx ry _ j (by simpa using h1) (by simpa using h2)).1
    · rw [List.size_toArray, rx.length]
      exact dEq_all (fun j hj => (dEq_at hf rx ry A j (by rw [rx.length]; exact hj) (by rw [← hsz, rx.length]; exact hj)).2) (by rw [← rx.length, ← ry.length]; exact hsz)
  · refine rcne_ok (SeqAt.RcNeAt.lists_lengths hl hb (by simpa using hsz) hu) (h false ?_)
    constructor
    · intro e; cases e
    · rintro rfl; exact (hsz (by rw [rx.length, ry.length])).elim
theorem truW_ok {a : D} (h : truW a Qb) {v : Value} (r : Rep X.N s.heap v a) : Wp X.w X.A (truthy v) (fun c s' => Qb c ∧ Keeps s s') s := by
  unfold truW at h
  split at h
  · cases r; exact truthy_none ⟨h, keeps_refl⟩
  · cases r; exact wpAny_truthy_bool ⟨h, keeps_refl⟩
  · cases r; exact truthy_int ⟨h, keeps_refl⟩
  · cases r
    rename_i x _
    refine P.truthy_str (by have := h.1; simp only [PySem.Str.length, List.size_toArray, sizeLine] at *; omega) ⟨?_, keeps_tok⟩
    have e : ((((⟨x.toArray⟩ : Str).length : Nat) : Int) != 0) = !x.isEmpty := by
      cases x <;> simp [PySem.Str.length]
      omega
    rw [e]; exact h.2
  · cases r with
    | lst ha hl rs =>
      refine wpAny_truthy_list hl (by have := h.1; rw [List.size_toArray, rs.length]; simp only [sizeLine] at *; omega) ⟨?_, keeps_tok⟩
      have e : (!(List.toArray ‹List Value›).isEmpty) = !(‹List D›).isEmpty := by
        cases rs <;> simp
      rw [e]; exact h.2
  · exact h.elim
end
end
section
inductive CmpV (Q : D → Prop) : CmpOp → D → D → Prop where
  | a0 {i j} (h : Q (.bool (decide (i < j)))) : CmpV Q .Lt (.int i) (.int j)
  | a1 {i j} (h : Q (.bool (decide (j < i)))) : CmpV Q .Gt (.int i) (.int j)
  | a2 {i j} (h : Q (.bool (decide (j ≤ i)))) : CmpV Q .GtE (.int i) (.int j)
  | a3 {i j} (h : Q (.bool (i == j))) : CmpV Q .Eq (.int i) (.int j)
  | a4 {x y} (h : Q (.bool (x == y))) : CmpV Q .Eq (.str x) (.str y)
  | a5 {x y} (h : x.length ≤ 64 ∧ y.length ≤ 64 ∧ ((x.all D.isInt = true ∧ y.all D.isInt = true) ∨ (x.all D.isStr = true ∧ y.all D.isStr = true)) ∧ ∀ c : Bool, (c = true ↔ x = y) → Q (.bool c)) : CmpV Q .Eq (.lst x) (.lst y)
  | a6 {x y} (h : x.length ≤ 64 ∧ y.length ≤ 64 ∧ ((x.all D.isInt = true ∧ y.all D.isInt = true) ∨ (x.all D.isStr = true ∧ y.all D.isStr = true)) ∧ ∀ c : Bool, (c = true ↔ x = y) → Q (.bool (!c))) : CmpV Q .NotEq (.lst x) (.lst y)
  | a7 {c d} (h : Q (.bool (c == d))) : CmpV Q .Is (.bool c) (.bool d)
  | a8 (h : Q (.bool true)) : CmpV Q .Is .none .none
  | a9 {i} (h : Q (.bool false)) : CmpV Q .Is (.int i) .none
  | a10 (h : Q (.bool false)) : CmpV Q .IsNot .none .none
  | a11 {x} (h : Q (.bool true)) : CmpV Q .IsNot (.str x) .none
  | a12 {i n} (h : n = 22 ∧ Q (.bool (b1 i))) : CmpV Q .In (.int i) (.obj n)
  | a13 {y x} (h : Q (.bool (!!(Builtin.Str.occurrences ⟨x.toArray⟩ ⟨y.toArray⟩ 0 x.length 1).isEmpty))) : CmpV Q .NotIn (.str y) (.str x)
theorem cmpW_view {o : CmpOp} {a b : D} {Q : D → Prop} (h : cmpW o a b Q) : CmpV Q o a b := by
  cases o with
  | Lt => cases a with
    | int i => cases b with
      | int j => exact .a0 h
      | _ => exact h.elim
    | _ => (first | exact h.elim | (cases b <;> exact h.elim))
  | Gt => cases a with
    | int i => cases b with
      | int j => exact .a1 h
      | _ => exact h.elim
    | _ => (first | exact h.elim | (cases b <;> exact h.elim))
  | GtE => cases a with
    | int i => cases b with
      | int j => exact .a2 h
      | _ => exact h.elim
    | _ => (first | exact h.elim | (cases b <;> exact h.elim))
  | Eq => cases a with
    | int i => cases b with
      | int j => exact .a3 h
      | _ => exact h.elim
    | str x => cases b with
      | str y => exact .a4 h
      | _ => exact h.elim
    | lst x => cases b with
      | lst y => exact .a5 h
      | _ => exact h.elim
    | _ => (first | exact h.elim | (cases b <;> exact h.elim))
  | NotEq => cases a with
    | lst x => cases b with
      | lst y => exact .a6 h
      | _ => exact h.elim
    | _ => (first | exact h.elim | (cases b <;> exact h.elim))
  | Is => cases a with
    | bool c => cases b with
      | bool d => exact .a7 h
      | _ => exact h.elim
    | none => cases b with
      | none => exact .a8 h
      | _ => exact h.elim
    | int i => cases b with
      | none => exact .a9 h
      | _ => exact h.elim
    | _ => (first | exact h.elim | (cases b <;> exact h.elim))
  | IsNot => cases a with
    | none => cases b with
      | none => exact .a10 h
      | _ => exact h.elim
    | str x => cases b with
      | none => exact .a11 h
      | _ => exact h.elim
    | _ => (first | exact h.elim | (cases b <;> exact h.elim))
  | In => cases a with
    | int i => cases b with
      | obj n => exact .a12 h
      | _ => exact h.elim
    | _ => (first | exact h.elim | (cases b <;> exact h.elim))
  | NotIn => cases a with
    | str y => cases b with
      | str x => exact .a13 h
      | _ => exact h.elim
    | _ => (first | exact h.elim | (cases b <;> exact h.elim))
  | _ => first | exact h.elim | (cases a <;> first | exact h.elim | (cases b <;> exact h.elim))
noncomputable def setEs : Obj → Array (Int × Value)
  | ⟨_, _, .set es _ _, _⟩ => es
  | _ => #[]
noncomputable def setNat : Int → (Int × Value) → Bool
  | i, (k, .int j _) => k == j && decide (k = hashInt j) && (match j with | .ofNat _ => true | _ => false)
  | _, _ => false
theorem set_all (P : Params) : ((setEs (ho_22_2 P)).toList.all fun e => setNat 0 e) = true := by kernel_rfl
theorem set_to (P : Params) : ((setEs (ho_22_2 P)).toList.all fun e => match e with | (k, _) => b1 k) = true := by kernel_rfl
noncomputable def b1L : List Int := [(173 : Int), 847, 6150, 6155, 6156, 6157, 8203, 8204, 8205, 8288, 65279, 65024, 65025, 65026, 65027, 65028, 65029, 65030, 65031, 65032, 65033, 65034, 65035, 65036, 65037, 65038, 65039]
theorem set_of (P : Params) : (b1L.all fun k => (setEs (ho_22_2 P)).toList.any fun e => Value.isInt k e.2) = true := by kernel_rfl
theorem b1_set (P : Params) {h : Heap} (hg : h.get? 22 = some (ho_22_2 P)) (prog : Program) (w : World) : h.SetOf (intKind prog w) 22 b1 27 := by
  have ha := List.all_eq_true.mp (set_all P)
  refine ⟨ho_22_2 P, setEs (ho_22_2 P), _, _, hg, ⟨rfl, rfl, rfl⟩, rfl, ?_, ?_, by show (27 : Nat) < 4096; decide, by rfl, rfl⟩
  · rintro ⟨k, v⟩ he
    have h1 := ha _ he
    cases v <;> simp only [setNat, Bool.false_eq_true] at h1
    rename_i j t
    simp only [Bool.and_eq_true, beq_iff_eq, decide_eq_true_eq] at h1
    exact ⟨⟨j, by show Value.isInt j (.int j t) = true; simp [Value.isInt], h1.1.2⟩, rfl⟩
  · intro k
    constructor
    · intro hk
      have := List.all_eq_true.mp (set_of P) k (by
        have : b1 k = b1L.contains k := rfl
        rw [this] at hk
        exact List.contains_iff_mem.mp hk)
      obtain ⟨e, he, h2⟩ := List.any_eq_true.mp this
      exact ⟨e, he, h2⟩
    · rintro ⟨⟨k', v⟩, he, h2⟩
      have h1 := ha _ he
      have h3 := List.all_eq_true.mp (set_to P) _ he
      obtain ⟨t, rfl⟩ := Value.isInt_shape h2
      simp only [setNat, Bool.and_eq_true, beq_iff_eq, decide_eq_true_eq] at h1
      rw [← h1.1.1]
      exact h3
section
variable {X : Cx} {s : Shared} {Q : D → Prop} {Qb : Bool → Prop}
theorem cmpW_ok {o : CmpOp} {a b : D} (am : Am X s.heap) (h : cmpW o a b Q) {v1 v2 : Value} (r1 : Rep X.N s.heap v1 a) (r2 : Rep X.N s.heap v2 b) : Wp X.w X.A (compareOp o v1 v2) (Gq X Q s) s := by
  replace h := cmpW_view h
  rcases h with h | h | h | h | h | h | h | h | h | h | h | h | h | h
  · obtain ⟨_, rfl⟩ := r1.int_inv; obtain ⟨_, rfl⟩ := r2.int_inv; exact lt_int ⟨_, .bool _, h, keeps_refl⟩
  · obtain ⟨_, rfl⟩ := r1.int_inv; obtain ⟨_, rfl⟩ := r2.int_inv; exact gt_int ⟨_, .bool _, h, keeps_refl⟩
  · obtain ⟨_, rfl⟩ := r1.int_inv; obtain ⟨_, rfl⟩ := r2.int_inv; exact ge_int ⟨_, .bool _, h, keeps_refl⟩
  · obtain ⟨_, rfl⟩ := r1.int_inv; obtain ⟨_, rfl⟩ := r2.int_inv; exact eq_int ⟨_, .bool _, h, keeps_refl⟩
  · obtain ⟨_, rfl⟩ := r1.str_inv; obtain ⟨_, rfl⟩ := r2.str_inv
    exact P.eq_str ⟨_, .bool _, h, keeps_refl⟩
  · obtain ⟨_, _, rfl, _, hl, rs⟩ := r1.lst_inv
    obtain ⟨_, _, rfl, _, hb, rs2⟩ := r2.lst_inv
    exact eq_lists_ok h.2.2.1 rs rs2 hl hb (Nat.lt_of_le_of_lt (Nat.le_add_right _ _) am.units) fun c hc => ⟨_, .bool _, h.2.2.2 c hc, keeps_refl⟩
  · obtain ⟨_, _, rfl, _, hl, rs⟩ := r1.lst_inv
    obtain ⟨_, _, rfl, _, hb, rs2⟩ := r2.lst_inv
    exact ne_lists_ok h.2.2.1 rs rs2 hl hb (Nat.lt_of_le_of_lt (Nat.le_add_right _ _) am.units) fun c hc => ⟨_, .bool _, h.2.2.2 c hc, keeps_refl⟩
  · cases r1.bool_inv; cases r2.bool_inv; exact is_bool ⟨_, .bool _, h, keeps_refl⟩
  · cases r1.none_inv; cases r2.none_inv; exact is_none_none ⟨_, .bool _, h, keeps_refl⟩
  · obtain ⟨_, rfl⟩ := r1.int_inv; cases r2.none_inv; exact is_int_none ⟨_, .bool _, h, keeps_refl⟩
  · cases r1.none_inv; cases r2.none_inv; exact isnot_none_none ⟨_, .bool _, h, keeps_refl⟩
  · obtain ⟨_, rfl⟩ := r1.str_inv; cases r2.none_inv; exact isnot_str_none ⟨_, .bool _, h, keeps_refl⟩
  · obtain ⟨rfl, h⟩ := h
    obtain ⟨t, rfl⟩ := r1.int_inv
    cases r2.obj_inv
    · · obtain ⟨mg, mb, mean, T, K⟩ := am.glob
        have hg : s.heap.get? 22 = some (ho_22_2 X.w.params) := K 22 _ rfl
        exact wpAny_inSet_of (knd := intKind pw X.w) (by simp [intKind, Value.isInt]) rfl (b1_set _ hg _ _) ⟨_, .bool _, h, keeps_tok⟩
  · obtain ⟨_, rfl⟩ := r1.str_inv; obtain ⟨_, rfl⟩ := r2.str_inv
    refine notIn_str ⟨_, .bool _, ?_, keeps_refl⟩
    simpa [PySem.Str.length] using h
end
end
section
section
variable {X : Cx} {s : Shared} {Q : D → Prop} {Qb : Bool → Prop}
theorem sub_ops {w : World} {A : Around} {E : Value → Shared → Prop} {value slice : Expr} {o i : Value} {T id : String} {ops : List Value} {Q : Value → Shared → Prop} (hT : s.TypeIs o T)
    (hl : typeLookup (.type T) "__getitem__" = pure (some (.builtin id))) (h : wpAny (model pw w) A (getItem o i) Q E s)
    (hs : subscripted slice false o i = operate ops (getItem o i)) :
    wpAny (model pw w) A (subscriptTail value slice o i) Q E s := by
  unfold subscriptTail
  refine wpAny_bind ?_
  rw [getitemInPython_of_ne hT.not_modules]
  refine wpAny_bind (wpAny_specialOf hT hl ?_)
  have fin : wpAny (model pw w) A (subscripted slice false o i) (fun r s₃ => wpAny (model pw w) A (letTemporaryGo value o r >>= fun _ => pure r) Q E s₃) E s := by
    rw [hs]
    exact wpAny_operating (wpAny_mono h (fun r s₃ h₃ => wpAny_bind (wpAny_letTemporaryGo (wpAny_pure h₃))) fun _ _ x => x)
  first
    | exact wpAny_pure (wpAny_bind fin)
    | exact wpAny_bind (wpAny_pure (wpAny_bind fin))
    | exact wpAny_bind fin
noncomputable def isSlice : Expr → Bool
  | .Slice .. => true
  | _ => false
theorem subscripted_plain {slice : Expr} (h : isSlice slice = false) (o i : Value) : subscripted slice false o i = operate [o, i] (getItem o i) := by
  unfold subscripted
  split
  · simp [isSlice] at h
  · rename_i hc; cases hc
  · rfl
theorem seqIndex_range {k : Int} {n j : Nat} (h : seqIndex? k n = some j) : -(n : Int) ≤ k ∧ k < n ∧ j = (if k < 0 then k + n else k).toNat := by
  have e : seqIndex? k n = if (decide (0 ≤ (if k < 0 then k + n else k)) && decide ((if k < 0 then k + n else k) < (n : Int))) = true then some (if k < 0 then k + n else k).toNat else none := rfl
  rw [e] at h
  by_cases hc : (decide (0 ≤ (if k < 0 then k + n else k)) && decide ((if k < 0 then k + n else k) < (n : Int))) = true
  · rw [if_pos hc] at h
    simp only [Bool.and_eq_true, decide_eq_true_eq] at hc
    injection h with h
    refine ⟨?_, ?_, h.symm⟩ <;> (split at hc <;> omega)
  · rw [if_neg hc] at h
    cases h
theorem getW_ok {a b : D} (h : getW a b Q) {v1 v2 : Value} (r1 : Rep X.N s.heap v1 a) (r2 : Rep X.N s.heap v2 b) {value slice : Expr} (hs : isSlice slice = false) :
    Wp X.w X.A (subscriptTail value slice v1 v2) (Gq X Q s) s := by
  unfold getW at h
  split at h
  · rename_i l k
    obtain ⟨_, rfl⟩ := r2.int_inv
    obtain ⟨_, vs, rfl, ha, hl, rs⟩ := r1.lst_inv
    · obtain ⟨h1, h2, hh⟩ := h
      obtain ⟨j, hj, hh⟩ := onSome_elim hh
      obtain ⟨d, hd, hq⟩ := onSome_elim hh
      obtain ⟨v, hv, hr⟩ := rs.get hd
      refine sub_ops hl.typeIs list_getitem_lookup ?_ (subscripted_plain hs _ _)
      obtain ⟨i1, i2, i3⟩ := seqIndex_range hj
      by_cases hk : k < 0
      · rw [if_pos hk] at i3
        refine wpAny_getItem_list_neg hl hk (by rw [List.size_toArray, rs.length]; exact i1) h1 ?_ ⟨d, hr, hq, keeps_refl⟩
        rw [List.size_toArray, rs.length, ← i3]
        simpa using hv
      · rw [if_neg hk] at i3
        refine wpAny_getItem_list hl (by omega) h2 ?_ ⟨d, hr, hq, keeps_refl⟩
        rw [← i3]
        simpa using hv
  · cases r2
    cases r1 with
    | tup ha hl rs =>
      rename_i l k _ vs
      obtain ⟨h1, h2, hh⟩ := h
      obtain ⟨j, hj, hh⟩ := onSome_elim hh
      obtain ⟨d, hd, hq⟩ := onSome_elim hh
      obtain ⟨v, hv, hr⟩ := rs.get hd
      exact sub_ops hl.typeIs PySem.F.slot_tuple_getitem.lookup (getItem_tuple hl h1 h2 (j := j) (by rw [List.size_toArray, rs.length]; exact hj) (by simpa using hv) ⟨d, hr, hq, keeps_refl⟩) (subscripted_plain hs _ _)
  · rename_i x k
    obtain ⟨_, rfl⟩ := r1.str_inv
    obtain ⟨_, rfl⟩ := r2.int_inv
    obtain ⟨h1, h2, h3, hh⟩ := h
    obtain ⟨c, hc, hq⟩ := onSome_elim hh
    have hz : x.length < 2 ^ 62 := by simp only [sizeLine] at h3; omega
    refine sub_ops (typeIs_str _ _ _) PySem.F.slot_str_getitem.lookup (getItem_str (c := c) ?_ ?_ ⟨_, .str [c] _, hq, keeps_tok⟩) (subscripted_plain hs _ _)
    · simp only [Bool.or_eq_false_iff, decide_eq_false_iff_not]
      omega
    · have : seqIndex? k x.length = some k.toNat := by
        unfold seqIndex?
        rw [if_neg (by omega : ¬ k < 0)]
        simp [h1, h2]
      show (seqIndex? k (⟨x.toArray⟩ : Str).cps.size).bind _ = _
      rw [List.size_toArray, this]
      simpa using hc
  · exact h.elim
/-! slices -/
noncomputable def cutW (a : D) (lo hi : Option Int) (Q : D → Prop) : Prop :=
  match a with
  | .str x => x.length ≤ sizeLine ∧ Q (.str (cut lo hi x))
  | .lst l => l.length ≤ sizeLine ∧ Q (.lst (cut lo hi l))
  | _ => False
theorem Reps.cut {N : List Addr} {h : Heap} {vs : List Value} {l : List D} (r : Reps N h vs l) (lo hi : Option Int) : Reps N h (cut lo hi vs) (cut lo hi l) := by
  unfold Mine.cut
  rw [r.length]
  exact (r.drop _).take _
theorem picks_any {α : Type} (l : List α) (a b : Nat) (hb : b ≤ l.length) : ((List.range (b - a)).map (a + ·)).filterMap (l[·]?) = (l.drop a).take (b - a) := by
  by_cases h : a ≤ b
  · exact StrLaws.picks l (b - a) a (by omega)
  · have : b - a = 0 := by omega
    rw [this]; simp
theorem strIdx_cut (lo hi : Option Int) (n : Nat) : Builtin.Str.strSliceIndices lo hi 1 n = (List.range (hi.elim n (clipAt n) - lo.elim 0 (clipAt n))).map (lo.elim 0 (clipAt n) + ·) := by
  have e : Builtin.Str.strSliceIndices lo hi 1 n = sliceRange ((lo.elim 0 (clipAt n) : Nat) : Int) ((hi.elim n (clipAt n) : Nat) : Int) 1 := by
    unfold Builtin.Str.strSliceIndices
    cases lo <;> cases hi <;> simp [clipAt_cast]
  rw [e, sliceRange_one]
theorem clipAt_le (n : Nat) (i : Int) : clipAt n i ≤ n := by unfold clipAt; omega
theorem elim_le (n : Nat) (hi : Option Int) : hi.elim n (clipAt n) ≤ n := by
  cases hi
  · exact Nat.le_refl _
  · exact clipAt_le _ _
theorem str_cut (lo hi : Option Int) (x : List Nat) : (Builtin.Str.strSliceIndices lo hi 1 x.length).filterMap (x.toArray[·]?) = cut lo hi x := by
  rw [strIdx_cut]
  have := picks_any x (lo.elim 0 (clipAt x.length)) (hi.elim x.length (clipAt x.length)) (elim_le _ _)
  simpa [cut] using this
theorem part_of {v : Value} {k : Option Int} (h : IsPart v k) : ∃ l : Option (Int × Tok), v = partValue l ∧ l.map (·.1) = k := by
  cases h with
  | none => exact ⟨none, rfl, rfl⟩
  | int i t => exact ⟨some (i, t), rfl, rfl⟩
theorem cut_whole {lo hi : Option Int} {x : List Nat} (h : (Builtin.Str.strSliceIndices lo hi 1 x.length).length = x.length) : cut lo hi x = x := by
  rw [strIdx_cut] at h
  simp only [List.length_map, List.length_range] at h
  have h1 := elim_le x.length hi
  have h2 : lo.elim 0 (clipAt x.length) = 0 ∨ x.length = 0 := by omega
  rcases h2 with h2 | h2
  · unfold cut
    rw [h2] at h ⊢
    rw [h, List.drop_zero, List.take_length]
  · have : x = [] := List.eq_nil_of_length_eq_zero h2
    subst this
    simp [cut]
theorem cutW_ok (am : Am X s.heap) {a : D} {lo hi : Option Int} (h : cutW a lo hi Q) {v1 vl vu : Value} (r1 : Rep X.N s.heap v1 a) (pl : IsPart vl lo) (pu : IsPart vu hi) {value : Expr} {lower upper : Option Expr} {p : Pos} :
    Wp X.w X.A (subscriptTail value (.Slice lower upper none p) v1 (.ref s.heap.objs.size)) (Gq X Q s)
      { s with heap := s.heap.push { cls := .type "slice", data := .fields #[vl, vu, .none] } } := by
  have k1 : Kp s.heap (s.heap.push { cls := .type "slice", data := .fields #[vl, vu, .none] }) := fun b o e => Heap.get?_push_of_some _ e
  unfold cutW at h
  split at h
  · rename_i x
    obtain ⟨_, rfl⟩ := r1.str_inv
    obtain ⟨l, rfl, rfl⟩ := part_of pl
    obtain ⟨u, rfl, rfl⟩ := part_of pu
    refine sub_ops (ops := [.ref s.heap.objs.size, .str ⟨x.toArray⟩ _]) (typeIs_str _ _ _) PySem.F.slot_str_getitem.lookup (wpAny_getItem_str_slice (l := l) (u := u) (st := none) ⟨_, Heap.get?_push_size _ rfl, rfl, rfl⟩ rfl ?_) rfl
    have e : (⟨x.toArray⟩ : Str).length = x.length := by simp [PySem.Str.length]
    unfold sliceMade
    split
    · rename_i hc
      rw [Bool.and_eq_true, beq_iff_eq, beq_iff_eq] at hc
      have h2 := hc.2
      unfold slicePicked at h2
      rw [e] at h2
      refine ⟨_, .str x _, ?_, keeps_of k1⟩
      have := cut_whole h2
      rw [← this]; exact h.2
    · have e2 : List.filterMap (fun x_1 => (⟨x.toArray⟩ : Str).cps[x_1]?) (slicePicked ⟨x.toArray⟩ l u none) = cut (l.map (·.1)) (u.map (·.1)) x := by
        unfold slicePicked
        rw [e]
        exact str_cut _ _ _
      rw [e2]
      have hlen : (⟨(cut (l.map (·.1)) (u.map (·.1)) x).toArray⟩ : Str).length ≤ sizeLine := by
        simp only [PySem.Str.length, List.size_toArray]
        refine Nat.le_trans ?_ h.1
        unfold cut
        rw [List.length_take, List.length_drop]
        omega
      exact ⟨hlen, ⟨_, .str _ _, h.2, keeps_of k1⟩⟩
  · rename_i l
    obtain ⟨_, vs, rfl, ha, hl, rs⟩ := r1.lst_inv
    · refine sub_ops (ops := [.ref s.heap.objs.size, .ref _]) (Heap.IsList.typeIs (s := { s with heap := s.heap.push { cls := .type "slice", data := .fields #[vl, vu, .none] } }) (hl.push _)) list_getitem_lookup
        (wpAny_getItem_list_slice (hl.push _) (Heap.IsSliceOf.new ..) pl pu .none (by simp) ?_ (by rw [List.size_toArray, rs.length]; exact h.1)) rfl
      rw [slicePick_plain]
      have e : (List.take (hi.elim vs.toArray.size (clipAt vs.toArray.size) - lo.elim 0 (clipAt vs.toArray.size)) (List.drop (lo.elim 0 (clipAt vs.toArray.size)) vs.toArray.toList)) = cut lo hi vs := by
        unfold cut
        rw [List.size_toArray]
      rw [e]
      have am2 := am.kp k1
      obtain ⟨d, a1, a2, a3⟩ := gq_new (X := X) (s := { s with heap := s.heap.push { cls := .type "slice", data := .fields #[vl, vu, .none] } }) (tk := s.toks) am2 ((rs.cut lo hi).kp k1) h.2
      exact ⟨d, a1, a2, keeps_trans (keeps_of (tk := s.toks) k1) a3⟩
  · exact h.elim
end
end
section
section
variable {X : Cx} {s : Shared} {Q : D → Prop} {Qb : Bool → Prop}
section
open Builtin Builtin.Str
theorem call_split {s : Shared} {w : World} {A : Around} {E : Value → Shared → Prop} {x y : Str} {t u : Tok} {Q : Value → Shared → Prop} (hy : (y.length == 0) = false)
    (hq : ∀ l k, l.map (·.1) = Txt.split x y → Q (.ref s.heap.objs.size) { s with heap := s.heap.push { cls := .type "list", data := .seq (strValues l).toArray }, toks := k })
    (hsz : x.length ≤ sizeLine) (hsz2 : (partsBetween x (occurrences x y 0 x.length (x.length + 1)) y.length).length ≤ sizeLine) :
    wpAny (model pw w) A (call (.builtin "str.split") [.str x t, .str y u]) Q E s := by
  cases h1 : (decide (x.length < y.length) || decide (strKind x < strKind y))
  · cases hf : (occurrences x y 0 x.length (x.length + 1)).isEmpty
    · refine call_meets F.slot_str_split (typeIs_str _ _ _) F.entry_str_split (F.args_str_split_2 _ _) (meets_str_split_sep x y t u h1 hy hf hsz hsz2) ?_
      show wants Q E _ { s with toks := _, heap := s.heap.push { cls := .type "list", data := .seq (strsFrom s.toks (partsBetween x (occurrences x y 0 x.length (x.length + 1)) y.length)).toArray } }
      rw [strsFrom_eq]
      exact hq (numbered s.toks _) _ ((numbered_texts _ _).trans ((if_neg (ne_true_of_eq_false h1)).trans (if_neg (ne_true_of_eq_false hf))).symm)
    · exact call_meets F.slot_str_split (typeIs_str _ _ _) F.entry_str_split (F.args_str_split_2 _ _) (meets_str_split_not_found x y t u h1 hy hf)
        (hq [(x, t)] _ ((if_neg (ne_true_of_eq_false h1)).trans (if_pos hf)).symm)
  · exact call_meets F.slot_str_split (typeIs_str _ _ _) F.entry_str_split (F.args_str_split_2 _ _) (meets_str_split_cannot_occur x y t u h1)
      (hq [(x, t)] _ (if_pos h1).symm)
end
/-! find with both ends -/
noncomputable def find4 (x y : Str) (i j : Int) : Int :=
  match Builtin.Str.occurrences x y (max 0 (if i < 0 then i + x.length else i)).toNat (min (max 0 (if j < 0 then j + x.length else j)).toNat x.length) 1 with
  | i :: _ => (i : Int)
  | [] => -1
theorem gives_find4 (x y : Str) (i j : Int) (t u v z : Tok) : Gives (Builtin.«str.find» ⟨[.str x t, .str y u, .int i v, .int j z], []⟩) (.int (find4 x y i j)) := by
  show Gives (match Builtin.Str.occurrences x y (max 0 (if i < 0 then i + x.length else i)).toNat (min (max 0 (if j < 0 then j + x.length else j)).toNat x.length) 1 with | i :: _ => retInt i | [] => (do rule "str.find.not-found"; retInt (-1))) _
  unfold find4
  cases Builtin.Str.occurrences x y (max 0 (if i < 0 then i + x.length else i)).toNat (min (max 0 (if j < 0 then j + x.length else j)).toNat x.length) 1 with
  | nil => exact .rule (.of_eq rfl)
  | cons i _ => exact .of_eq rfl
theorem call_find4 {w : World} {A : Around} {E : Value → Shared → Prop} {x y : Str} {t u v z : Tok} {i j : Int} {Q : Value → Shared → Prop} (hq : Q (.int (find4 x y i j) s.toks) { s with toks := s.toks + 1 }) :
    wpAny (model pw w) A (call (.builtin "str.find") [.str x t, .str y u, .int i v, .int j z]) Q E s :=
  call_gives PySem.F.slot_str_find (typeIs_str _ _ _) PySem.F.entry_str_find (PySem.F.args_str_find_4 _ _ _ _) (gives_find4 x y i j t u v z) hq
/-! join with nothing between -/
theorem join_text (l : List (List Nat)) : Txt.join ⟨#[]⟩ (l.map fun x => (⟨x.toArray⟩ : Str)) = ⟨l.flatten.toArray⟩ := by
  unfold Txt.join Builtin.Str.glued
  have key : ∀ (l : List (List Nat)) (z : List Nat), List.foldl (fun (acc : Array Nat) (p : Str) => acc ++ (⟨#[]⟩ : Str).cps ++ p.cps) z.toArray (l.map fun x => (⟨x.toArray⟩ : Str)) = (z ++ l.flatten).toArray := by
    intro l
    induction l with
    | nil => intro z; simp
    | cons a l ih =>
      intro z
      rw [List.map_cons, List.foldl_cons]
      have e : z.toArray ++ (⟨#[]⟩ : Str).cps ++ (⟨a.toArray⟩ : Str).cps = (z ++ a).toArray := by simp
      rw [e, ih, List.flatten_cons, List.append_assoc]
  cases l with
  | nil => rfl
  | cons a l =>
    have := key l a
    simp only [List.map_cons, List.drop_succ_cons, List.drop_zero, List.headD_cons, List.flatten_cons]
    rw [this]
noncomputable def strsOf : List D → Option (List (List Nat))
  | [] => some []
  | .str x :: r => (strsOf r).map (x :: ·)
  | _ => none
theorem strsAre_of {N : List Addr} {h : Heap} : ∀ {vs : List Value} {l : List D} {xs : List (List Nat)}, Reps N h vs l → strsOf l = some xs → StrsAre vs (xs.map fun x => (⟨x.toArray⟩ : Str))
  | _, _, _, .nil, e => by injection e with e; subst e; exact .nil
  | _, _, _, .cons r rs, e => by
    cases r with
    | str x t =>
      simp only [strsOf, Option.map_eq_some_iff] at e
      obtain ⟨ys, h1, rfl⟩ := e
      exact .cons _ _ (strsAre_of rs h1)
    | _ => simp [strsOf] at e
noncomputable def sumLen (l : List (List Nat)) : Nat := (l.map List.length).sum
/-- the dict b3_exceptions, looked up -/
noncomputable def b3Get (i : Int) : Option Str := b3L.lookup i
inductive Me where
  | join | lower | split | find | get
noncomputable def Me.id : Me → String
  | .join => "str.join"
  | .lower => "str.lower"
  | .split => "str.split"
  | .find => "str.find"
  | .get => "dict.get"
noncomputable def methOf (m : Str) (a : D) : Option Me :=
  match a with
  | .str _ => match m == ("join" : Str), m == ("lower" : Str), m == ("split" : Str), m == ("find" : Str) with
    | true, _, _, _ => some .join
    | _, true, _, _ => some .lower
    | _, _, true, _ => some .split
    | _, _, _, true => some .find
    | _, _, _, _ => none
  | .obj 33 => match m == ("get" : Str) with
    | true => some .get
    | false => none
  | _ => none
noncomputable def methW (m : Me) (a : D) (ds : List D) (Q : D → Prop) : Prop :=
  match m, a, ds with
  | .join, .str [], [.lst l] => ∃ xs, strsOf l = some xs ∧ sumLen xs + xs.length ≤ 1048576 ∧ Q (.str xs.flatten)
  | .lower, .str x, [] => x.length ≤ 1000 ∧ Q (.str (Txt.lower ⟨x.toArray⟩).cps.toList)
  | .split, .str x, [.str y] => y ≠ [] ∧ x.length ≤ 1000 ∧ (Txt.split ⟨x.toArray⟩ ⟨y.toArray⟩).length ≤ 1000 ∧ (Builtin.Str.partsBetween ⟨x.toArray⟩ (Builtin.Str.occurrences ⟨x.toArray⟩ ⟨y.toArray⟩ 0 x.length (x.length + 1)) y.length).length ≤ sizeLine ∧ Q (.lst ((Txt.split ⟨x.toArray⟩ ⟨y.toArray⟩).map fun z => .str z.cps.toList))
  | .find, .str x, [.str y, .int i, .int j] => Q (.int (find4 ⟨x.toArray⟩ ⟨y.toArray⟩ i j))
  | .get, .obj n, [.int i] => n = 33 ∧ (∀ z, b3Get i = some z → Q (.str z.cps.toList)) ∧ (b3Get i = none → Q .none)
  | _, _, _ => False
theorem rep_str' {N : List Addr} {h : Heap} (z : Str) (t : Tok) : Rep N h (.str z t) (.str z.cps.toList) := by
  have : (⟨z.cps.toList.toArray⟩ : Str) = z := by simp
  exact this ▸ Rep.str (h := h) (N := N) z.cps.toList t
theorem strs_reps {N : List Addr} {h : Heap} : ∀ (l : List (Str × Tok)), Reps N h (strValues l) ((l.map (·.1)).map fun z => .str z.cps.toList)
  | [] => .nil
  | p :: r => .cons (rep_str' p.1 p.2) (strs_reps r)
inductive MethV (Q : D → Prop) : Me → D → List D → Prop where
  | a0 {l} (h : ∃ xs, strsOf l = some xs ∧ sumLen xs + xs.length ≤ 1048576 ∧ Q (.str xs.flatten)) : MethV Q .join (.str []) [.lst l]
  | a1 {x} (h : x.length ≤ 1000 ∧ Q (.str (Txt.lower ⟨x.toArray⟩).cps.toList)) : MethV Q .lower (.str x) []
  | a2 {x y} (h : y ≠ [] ∧ x.length ≤ 1000 ∧ (Txt.split ⟨x.toArray⟩ ⟨y.toArray⟩).length ≤ 1000 ∧ (Builtin.Str.partsBetween ⟨x.toArray⟩ (Builtin.Str.occurrences ⟨x.toArray⟩ ⟨y.toArray⟩ 0 x.length (x.length + 1)) y.length).length ≤ sizeLine ∧ Q (.lst ((Txt.split ⟨x.toArray⟩ ⟨y.toArray⟩).map fun z => .str z.cps.toList))) : MethV Q .split (.str x) [.str y]
  | a3 {x y i j} (h : Q (.int (find4 ⟨x.toArray⟩ ⟨y.toArray⟩ i j))) : MethV Q .find (.str x) [.str y, .int i, .int j]
  | a4 {n i} (h : n = 33 ∧ (∀ z, b3Get i = some z → Q (.str z.cps.toList)) ∧ (b3Get i = none → Q .none)) : MethV Q .get (.obj n) [.int i]
theorem methW_view {m : Me} {a : D} {ds : List D} {Q : D → Prop} (h : methW m a ds Q) : MethV Q m a ds := by
  cases m with
  | join => cases a with
    | str x => cases x with
      | nil =>
        rcases ds with _ | ⟨d, _ | ⟨d2, ds⟩⟩
        · exact h.elim
        · cases d with
          | lst l => exact .a0 h
          | _ => exact h.elim
        · first | exact h.elim | (cases d <;> exact h.elim)
      | cons => first | exact h.elim | (rcases ds with _ | ⟨d, _ | ⟨d2, ds⟩⟩ <;> first | exact h.elim | (cases d <;> exact h.elim))
    | _ => first | exact h.elim | (rcases ds with _ | ⟨d, _ | ⟨d2, ds⟩⟩ <;> first | exact h.elim | (cases d <;> exact h.elim))
  | lower => cases a with
    | str x => cases ds with
      | nil => exact .a1 h
      | cons => exact h.elim
    | _ => first | exact h.elim | (cases ds <;> exact h.elim)
  | split => cases a with
    | str x =>
      rcases ds with _ | ⟨d, _ | ⟨d2, ds⟩⟩
      · exact h.elim
      · cases d with
        | str y => exact .a2 h
        | _ => exact h.elim
      · first | exact h.elim | (cases d <;> exact h.elim)
    | _ => first | exact h.elim | (rcases ds with _ | ⟨d, _ | ⟨d2, ds⟩⟩ <;> first | exact h.elim | (cases d <;> exact h.elim))
  | find => cases a with
    | str x =>
      rcases ds with _ | ⟨d, ds⟩
      · exact h.elim
      · cases d with
        | str y =>
          rcases ds with _ | ⟨d, ds⟩
          · exact h.elim
          · cases d with
            | int i =>
              rcases ds with _ | ⟨d, ds⟩
              · exact h.elim
              · cases d with
                | int j => cases ds with
                  | nil => exact .a3 h
                  | cons => exact h.elim
                | _ => first | exact h.elim | (cases ds <;> exact h.elim)
            | _ => first | exact h.elim | (rcases ds with _ | ⟨d, ds⟩ <;> first | exact h.elim | (cases d <;> first | exact h.elim | (cases ds <;> exact h.elim)))
        | _ => first | exact h.elim | (rcases ds with _ | ⟨d, ds⟩ <;> first | exact h.elim | (cases d <;> first | exact h.elim | (rcases ds with _ | ⟨d, ds⟩ <;> first | exact h.elim | (cases d <;> first | exact h.elim | (cases ds <;> exact h.elim)))))
    | _ => first | exact h.elim | (rcases ds with _ | ⟨d, ds⟩ <;> first | exact h.elim | (cases d <;> first | exact h.elim | (rcases ds with _ | ⟨d, ds⟩ <;> first | exact h.elim | (cases d <;> first | exact h.elim | (rcases ds with _ | ⟨d, ds⟩ <;> first | exact h.elim | (cases d <;> first | exact h.elim | (cases ds <;> exact h.elim)))))))
  | get => cases a with
    | obj n =>
      rcases ds with _ | ⟨d, _ | ⟨d2, ds⟩⟩
      · exact h.elim
      · cases d with
        | int i => exact .a4 h
        | _ => exact h.elim
      · first | exact h.elim | (cases d <;> exact h.elim)
    | _ => first | exact h.elim | (rcases ds with _ | ⟨d, _ | ⟨d2, ds⟩⟩ <;> first | exact h.elim | (cases d <;> exact h.elim))
/-! the dict -/
noncomputable def entP : DictEntry → Option (Int × Str)
  | ⟨h, .int k _, .str x _⟩ => if h == k && h == hashInt k then some (k, x) else none
  | _ => none
theorem b3E_pairs : b3E.map entP = b3L.map some := by kernel_rfl
theorem entP_some {e : DictEntry} {k : Int} {x : Str} (h : entP e = some (k, x)) : ∃ t u, e = ⟨hashInt k, .int k t, .str x u⟩ := by
  unfold entP at h
  split at h
  · rename_i h1 k1 t1 x1 u1
    split at h
    · rename_i hc
      injection h with h
      injection h with h2 h3
      subst h2 h3
      simp only [Bool.and_eq_true, beq_iff_eq] at hc
      exact ⟨_, _, by rw [hc.2]⟩
    · cases h
  · cases h
theorem find_pairs (k : Int) : ∀ {es : List DictEntry} {l : List (Int × Str)}, es.map entP = l.map some → ∃ u, ((es.find? fun e => Value.isInt k e.key).map (·.val)) = (l.lookup k).map fun x => Value.str x u
  | [], [], _ => ⟨0, rfl⟩
  | [], _ :: _, h => by simp at h
  | _ :: _, [], h => by simp at h
  | e :: es, (k1, x1) :: l, h => by
    simp only [List.map_cons, List.cons.injEq] at h
    obtain ⟨t, u, rfl⟩ := entP_some h.1
    by_cases hk : k = k1
    · subst hk
      refine ⟨u, ?_⟩
      simp [Value.isInt]
    · obtain ⟨u', hu⟩ := find_pairs k h.2
      refine ⟨u', ?_⟩
      have e1 : Value.isInt k (.int k1 t) = false := by
        simp only [Value.isInt]
        simpa using fun hh => hk hh.symm
      have e2 : (k == k1) = false := by simpa using hk
      simp only [List.find?_cons, e1, List.lookup_cons, e2]
      exact hu
theorem b3_map {h : Heap} (hg : h.get? 33 = some (ho_b3 0)) (prog : Program) (w : World) : h.MapOf (intKind prog w) 33 (findBy Value.isInt b3E.toArray) := by
  refine ⟨ho_b3 0, b3E.toArray, _, hg, ⟨rfl, rfl, rfl⟩, rfl, ?_, fun k => rfl⟩
  intro e he
  have hm : e ∈ b3E := by simpa using he
  have h1 : entP e ∈ b3L.map some := by rw [← b3E_pairs]; exact List.mem_map_of_mem hm
  obtain ⟨⟨k, x⟩, _, h2⟩ := List.mem_map.mp h1
  obtain ⟨t, u, rfl⟩ := entP_some h2.symm
  exact ⟨k, by simp [intKind, Value.isInt], rfl⟩
theorem b3_find (k : Int) : ∃ u, findBy Value.isInt b3E.toArray k = (b3Get k).map fun x => Value.str x u := by
  have := find_pairs k b3E_pairs
  simpa [findBy, b3Get] using this
theorem getM_ok {m : Str} {a : D} {k : Me} {pl : Sem Bool} {P : Value × List Value → Shared → Prop} (h : methOf m a = some k) (g : Gl X.w s.heap) {v : Value} (r : Rep X.N s.heap v a) (hp : P (.builtin k.id, [v]) s) : Wp X.w X.A (getMethod v m pl) P s := by
  unfold methOf at h
  split at h
  · obtain ⟨_, rfl⟩ := r.str_inv
    cases h1 : m == ("join" : Str) with
    | true =>
      have : m = ("join" : Str) := by simpa using h1
      subst this
      rw [h1] at h; injection h with h; subst h
      exact getMethod_builtin (typeIs_str _ _ _) PySem.F.plainAttrs_str PySem.F.slot_str_join PySem.F.type_str_join (fun a e => nomatch e) hp
    | false =>
      cases h2 : m == ("lower" : Str) with
      | true =>
        have : m = ("lower" : Str) := by simpa using h2
        subst this
        rw [h1, h2] at h; injection h with h; subst h
        exact getMethod_builtin (typeIs_str _ _ _) PySem.F.plainAttrs_str PySem.F.slot_str_lower PySem.F.type_str_lower (fun a e => nomatch e) hp
      | false =>
        cases h3 : m == ("split" : Str) with
        | true =>
          have : m = ("split" : Str) := by simpa using h3
          subst this
          rw [h1, h2, h3] at h; injection h with h; subst h
          exact getMethod_builtin (typeIs_str _ _ _) PySem.F.plainAttrs_str PySem.F.slot_str_split PySem.F.type_str_split (fun a e => nomatch e) hp
        | false =>
          cases h4 : m == ("find" : Str) with
          | true =>
            have : m = ("find" : Str) := by simpa using h4
            subst this
            rw [h1, h2, h3, h4] at h; injection h with h; subst h
            exact getMethod_builtin (typeIs_str _ _ _) PySem.F.plainAttrs_str PySem.F.slot_str_find PySem.F.type_str_find (fun a e => nomatch e) hp
          | false => rw [h1, h2, h3, h4] at h; cases h
  · cases r.obj_inv
    · cases h1 : m == ("get" : Str) with
      | true =>
        have : m = ("get" : Str) := by simpa using h1
        subst this
        rw [h1] at h; injection h with h; subst h
        obtain ⟨mg, mb, mean, T, K⟩ := g
        have hg : s.heap.get? 33 = some (ho_b3 0) := K 33 _ rfl
        exact getMethod_builtin ⟨_, hg, rfl⟩ PySem.F.plainAttrs_dict PySem.F.slot_dict_get PySem.F.type_dict_get (fun a e => by injection e with e; subst e; exact ⟨_, hg, rfl⟩) hp
      | false => rw [h1] at h; cases h
  · cases h
theorem callM_ok {m : Me} {a : D} {ds : List D} (am : Am X s.heap) (h : methW m a ds Q) {v : Value} {vs : List Value} (r : Rep X.N s.heap v a) (rs : Reps X.N s.heap vs ds) :
    Wp X.w X.A (call (.builtin m.id) (v :: vs)) (Gq X Q s) s := by
  replace h := methW_view h
  rcases h with h | h | h | h | h
  · obtain ⟨xs, hx, hs, hq⟩ := h
    obtain ⟨_, rfl⟩ := r.str_inv
    obtain ⟨_, rfl, r1⟩ := rs.one
    obtain ⟨_, _, rfl, ha, hl, rs2⟩ := r1.lst_inv
    refine join_listW hl (strsAre_of (by simpa using rs2) hx) (by simp [PySem.Str.length]) ?_ (fun t' k => ⟨.str xs.flatten, ?_, hq, keeps_tok⟩)
    · rw [List.map_map, List.length_map]
      refine Nat.le_trans (Nat.le_of_eq ?_) hs
      have : xs.map ((fun x => x.length) ∘ fun x => (⟨x.toArray⟩ : Str)) = xs.map List.length := by
        apply List.map_congr_left
        intro x _
        simp [PySem.Str.length]
      unfold sumLen
      rw [this]
    · have := join_text xs
      rw [show (⟨([] : List Nat).toArray⟩ : Str) = ⟨#[]⟩ from rfl, this]
      exact .str _ _
  · obtain ⟨hs, hq⟩ := h
    obtain ⟨_, rfl⟩ := r.str_inv
    cases rs.nil_inv
    exact SCL.lower (by simp only [PySem.Str.length, List.size_toArray]; omega) fun _ => ⟨_, rep_str' _ _, hq, keeps_tok⟩
  · obtain ⟨hy, hs, hs2, hs3, hq⟩ := h
    rename_i x y
    obtain ⟨t, rfl⟩ := r.str_inv
    obtain ⟨_, rfl, r1⟩ := rs.one
    obtain ⟨u, rfl⟩ := r1.str_inv
    refine call_split ?_ (fun l k hl => ?_) ?_ ?_
    · cases y with
      | nil => exact (hy rfl).elim
      | cons _ _ => simp [PySem.Str.length]
    · rw [← hl] at hq
      exact gq_new am (strs_reps l) hq
    · simp only [PySem.Str.length, List.size_toArray, sizeLine]; omega
    · simpa [PySem.Str.length] using hs3
  · obtain ⟨_, rfl⟩ := r.str_inv
    obtain ⟨_, _, rfl, r1, rs1⟩ := rs.cons_inv
    obtain ⟨_, _, rfl, r2, rs2⟩ := rs1.cons_inv
    obtain ⟨_, rfl, r3⟩ := rs2.one
    obtain ⟨_, rfl⟩ := r1.str_inv
    obtain ⟨_, rfl⟩ := r2.int_inv
    obtain ⟨_, rfl⟩ := r3.int_inv
    exact call_find4 ⟨_, .int _ _, h, keeps_tok⟩
  · obtain ⟨rfl, h⟩ := h
    rename_i i
    cases r.obj_inv
    obtain ⟨_, rfl, r1⟩ := rs.one
    obtain ⟨t, rfl⟩ := r1.int_inv
    · · obtain ⟨mg, mb, mean, T, K⟩ := am.glob
        have hg : s.heap.get? 33 = some (ho_b3 0) := K 33 _ rfl
        refine call_meetsIn PySem.F.slot_dict_get ⟨_, hg, rfl⟩ PySem.F.entry_dict_get (PySem.F.args_dict_get_2 _ _) (meets_dict_get (intKind pw X.w) 33 (k := i) (by simp [intKind, Value.isInt]) rfl) ⟨_, b3_map hg _ _, ?_⟩
        obtain ⟨u, hu⟩ := b3_find i
        rw [hu]
        cases hb : b3Get i with
        | none => exact ⟨_, .none, h.2 hb, keeps_tok⟩
        | some z => exact ⟨_, rep_str' z u, h.1 z hb, keeps_tok⟩
end
end
section
abbrev Con := List D → (D → Prop) → Prop
abbrev Gt := List (Str × Con)
noncomputable def Room (r : Nat) (A : Around) : Prop := A.depth + r < recursionLimit ∧ A.units + 64 + 8 * r < cLine
noncomputable def isStar : Expr → Bool
  | .Starred .. => true
  | _ => false
structure FnAt (r : Nat) (w : World) (f : Str) (c : Con) (h : Heap) (fv : Value) : Prop where
  load : ∀ {A : Around} {env : Env} {s : Shared} {Q : Value → Shared → Prop}, env.globals = mainGlobals → env.builtins = builtinsNs → Kp h s.heap → Q fv s → Wp w A (loadGlobal env f) Q s
  cw : ∀ {A : Around} {env : Env} {pos : Pos} {e : Expr} {rest : List Expr} {s : Shared} {Q : Value → Shared → Prop}, (e :: rest).any isStar = false → Kp h s.heap →
    Wp w A (spliced (backTo pos (starEach (e :: rest) env))) (fun vs s1 => Kp h s1.heap ∧ Wp w A (call fv vs) Q s1) s → Wp w A (callWith pos fv [] (backTo pos (starEach (e :: rest) env)) []) Q s
  run : ∀ {X : Cx} {s : Shared} {vs : List Value} {ds : List D} {Q : D → Prop}, X.w = w → Room r X.A → Am X s.heap → X.A.handled = none → Kp h s.heap → Reps X.N s.heap vs ds → c ds Q → Wp w X.A (call fv vs) (Gq X Q s) s
noncomputable def GOk (r : Nat) (w : World) (G : Gt) : Prop := ∀ f c, G.lookup f = some c → ∀ h, Gl w h → ∃ fv, FnAt r w f c h fv
structure Ev where
  ev : List (Str × NameKind) → Sto → Expr → (D → Prop) → Prop
  ts : List (Str × NameKind) → Sto → Expr → (Bool → Prop) → Prop
section
variable (R : Ev) (K : List (Str × NameKind)) (σ : Sto)
noncomputable def evs : List Expr → (List D → Prop) → Prop
  | [], Q => Q []
  | e :: r, Q => match isStar e with
    | true => False
    | false => R.ev K σ e fun d => evs r fun ds => Q (d :: ds)
noncomputable def evsS (es : List Expr) (Q : List D → Prop) : Prop := match es.any isStar with
  | true => False
  | false => evs R K σ es Q
noncomputable def optW : Option Expr → (Option Int → Prop) → Prop
  | none, Q => Q none
  | some e, Q => R.ev K σ e fun d => match d with
    | .int i => Q (some i)
    | _ => False
end
noncomputable def upd : Sto → Str → D → Sto
  | [], x, d => [(x, d)]
  | (y, e) :: r, x, d => match x == y with
    | true => (y, d) :: r
    | false => (y, e) :: upd r x d
noncomputable def isVar (K : List (Str × NameKind)) (x : Str) : Bool := K.lookup x == some .local || K.lookup x == some .cell
noncomputable def bindT (K : List (Str × NameKind)) (σ : Sto) (t : Expr) (d : D) (Q : Sto → Prop) : Prop :=
  match t, d with
  | .Name x _, d => match isVar K x with
    | true => Q (upd σ x d)
    | false => False
  | .Tuple [.Name x _, .Name y _] _ _, .tup [a, b] => match isVar K x && isVar K y with
    | true => Q (upd (upd σ x a) y b)
    | false => False
  | _, _ => False
noncomputable def itemsW (d : D) (Q : List D → Prop) : Prop :=
  match d with
  | .lst l => l.length ≤ 1000 ∧ Q l
  | .str x => x.length ≤ 1000 ∧ Q (x.map fun c => .str [c])
  | _ => False
noncomputable def rngW (a b : Int) (Q : List D → Prop) : Prop := a.natAbs ≤ 1000 ∧ b.natAbs ≤ 1000 ∧ Q ((List.range (b - a).toNat).map fun (k : Nat) => .int (a + k))
noncomputable def enumD (i : Int) : List D → List D
  | [] => []
  | d :: r => .tup [.int i, d] :: enumD (i + 1) r
noncomputable def isTup : Expr → Bool
  | .Tuple [.Name _ _, .Name _ _] _ _ => true
  | _ => false
noncomputable def isNm : Expr → Bool
  | .Name .. => true
  | _ => false
noncomputable def isGlob (K : List (Str × NameKind)) (σ : Sto) (f : Str) : Bool := K.lookup f == some .globalImplicit && (σ.lookup f).isNone && !(f == ("__debug__" : Str))
/-- what a for goes over -/
noncomputable def itW (R : Ev) (K : List (Str × NameKind)) (σ : Sto) (t e : Expr) (Q : List D → Prop) : Prop :=
  match e with
  | .Call (.Name f _) args [] _ => match isGlob K σ f, f == ("range" : Str), f == ("enumerate" : Str) with
    | true, true, _ => evsS R K σ args fun ds => match ds, isNm t with
      | [.int n], true => rngW 0 n Q
      | [.int a, .int b], true => rngW a b Q
      | _, _ => False
    | true, _, true => evsS R K σ args fun ds => match ds, isTup t with
      | [.lst l], true => l.length ≤ 1000 ∧ Q (enumD 0 l)
      | _, _ => False
    | _, _, _ => False
  | .Set .. => False
  | e => match isNm t with
    | true => R.ev K σ e fun d => itemsW d Q
    | false => False
noncomputable def tgtLocal (K : List (Str × NameKind)) : Expr → Bool
  | .Name x _ => K.lookup x == some .local
  | .Tuple [.Name x _, .Name y _] _ _ => K.lookup x == some .local && K.lookup y == some .local
  | _ => false
noncomputable def undefV (σ : Sto) (x : Str) : Bool := match σ.lookup x with
  | some .undef => true
  | _ => false
noncomputable def undefT (σ : Sto) (t : Expr) : Bool := match t with
  | .Name x _ => undefV σ x
  | .Tuple [.Name x _, .Name y _] _ _ => undefV σ x && undefV σ y && !(x == y)
  | _ => false
noncomputable def loopW (R : Ev) (K : List (Str × NameKind)) (σ : Sto) (t : Expr) (ifs : List Expr) (body : Sto → (List D → Prop) → Prop) : List D → (List D → Prop) → Prop
  | [], Q => Q []
  | d :: ds, Q => match undefT σ t && tgtLocal K t with
   | false => False
   | true => bindT K σ t d fun σ1 => match ifs with
    | [] => body σ1 fun rs => loopW R K σ t ifs body ds fun rs' => Q (rs ++ rs')
    | [c] => R.ts K σ1 c fun ok => (ok = true → body σ1 fun rs => loopW R K σ t ifs body ds fun rs' => Q (rs ++ rs')) ∧ (ok = false → loopW R K σ t ifs body ds Q)
    | _ => False
noncomputable def relK (scope : Scope) (K : List (Str × NameKind)) : List (Str × NameKind) :=
  scope.names.map fun (n, k) => if (k == .free && K.lookup n == some .cell) then (n, .cell) else (n, k)
noncomputable def scOk (scope : Scope) (K : List (Str × NameKind)) : Bool :=
  scope.kind == .function && scope.names.all fun (n, k) => match k with
    | .cell => false
    | .local => scope.names.lookup n == some .local
    | .free => K.lookup n == some .cell && scope.names.lookup n == some .free
    | _ => true
noncomputable def compSto (σ : Sto) : List (Str × NameKind) → Sto
  | [] => []
  | (x, k) :: r => match k with
    | .local => (x, .undef) :: compSto σ r
    | .cell => (x, (σ.lookup x).getD .undef) :: compSto σ r
    | _ => compSto σ r
noncomputable def compW (R : Ev) (K : List (Str × NameKind)) (σ : Sto) (e : Expr) (Q : D → Prop) : Prop :=
  match e with
  | .ListComp elt [⟨t, it, ifs, 0⟩] scope _ => match scOk scope K with
    | true => itW R K σ t it fun ds => ds.length ≤ 2000 ∧ loopW R (relK scope K) (compSto σ (relK scope K)) t ifs (fun σ1 Q => R.ev (relK scope K) σ1 elt fun r => Q [r]) ds fun rs => Q (.lst rs)
    | false => False
  | .ListComp elt [⟨t, it, [], 0⟩, ⟨t2, it2, [], 0⟩] scope _ => match scOk scope K with
    | true => itW R K σ t it fun ds => ds.length ≤ 2000 ∧ loopW R (relK scope K) (compSto σ (relK scope K)) t [] (fun σ1 Q =>
        itW R (relK scope K) σ1 t2 it2 fun ds2 => ds2.length ≤ 2000 ∧ loopW R (relK scope K) σ1 t2 [] (fun σ2 Q => R.ev (relK scope K) σ2 elt fun r => Q [r]) ds2 Q) ds fun rs => Q (.lst rs)
    | false => False
  | _ => False
/-- the text's own constants -/
noncomputable def globW (x : Str) (Q : D → Prop) : Prop :=
  match x == ("ELLIPSIS_MARKER" : Str), x == ("b1_set" : Str), x == ("b3_exceptions" : Str), x == ("CHAR_MAX" : Str) with
  | true, _, _, _ => Q (.str [46, 46, 46])
  | _, true, _, _ => Q (.obj 22)
  | _, _, true, _ => Q (.obj 33)
  | _, _, _, true => Q (.int 127)
  | _, _, _, _ => False
noncomputable def stepE (G : Gt) (R : Ev) (K : List (Str × NameKind)) (σ : Sto) (e : Expr) (Q : D → Prop) : Prop :=
  match e with
  | .Constant (.int i) _ _ => Q (.int i)
  | .Constant (.str x) _ _ => Q (.str x.cps.toList)
  | .Constant .none _ _ => Q .none
  | .Constant (.bool b) _ _ => Q (.bool b)
  | .Name x _ => match x == ("__debug__" : Str), σ.lookup x with
    | true, _ => False
    | false, some d => match d.undefd with
      | true => False
      | false => Q d
    | false, none => match K.lookup x == some .globalImplicit with
      | true => globW x Q
      | false => False
  | .BinOp l o r _ => R.ev K σ l fun a => R.ev K σ r fun b => binW o a b Q
  | .UnaryOp .USub x _ => R.ev K σ x fun a => match a with
    | .int i => Q (.int (-i))
    | _ => False
  | .Compare l [o] [r] _ => match behindInMarks o r with
    | true => False
    | false => R.ev K σ l fun a => R.ev K σ r fun b => cmpW o a b Q
  | .IfExp t a b _ => R.ts K σ t fun c => (c = true → R.ev K σ a Q) ∧ (c = false → R.ev K σ b Q)
  | .Tuple es _ _ => evs R K σ es fun ds => ds.length ≤ 1000 ∧ Q (.tup ds)
  | .List es _ => evs R K σ es fun ds => ds.length ≤ 1000 ∧ Q (.lst ds)
  | .Subscript v (.Slice lo hi none _) _ => R.ev K σ v fun a => optW R K σ lo fun l => optW R K σ hi fun h => cutW a l h Q
  | .Subscript v (.Slice none none (some st) _) _ => R.ev K σ v fun a => optW R K σ (some st) fun i => match a, i with
    | .lst l, some (-1) => l.length ≤ 1000 ∧ Q (.lst l.reverse)
    | _, _ => False
  | .Subscript v i _ => match isSlice i with
    | true => False
    | false => R.ev K σ v fun a => R.ev K σ i fun b => getW a b Q
  | .Call (.Name f _) (a :: args) [] _ => match isGlob K σ f, G.lookup f with
    | true, some c => evsS R K σ (a :: args) fun ds => c ds Q
    | _, _ => False
  | .Call (.Attribute o m apos) args [] pos => match o, apos.endLine == pos.line && decide (args.length < 20) with
    | .Call .., _ => False
    | o, true => R.ev K σ o fun a => match methOf m a with
      | some k => evsS R K σ args fun ds => methW k a ds Q
      | none => False
    | _, false => False
  | .ListComp elt gens scope pos => compW R K σ (.ListComp elt gens scope pos) Q
  | _ => False
noncomputable def stepT (R : Ev) (K : List (Str × NameKind)) (σ : Sto) (e : Expr) (Q : Bool → Prop) : Prop :=
  match e with
  | .Compare l [o] [r] _ => match behindInMarks o r with
    | true => False
    | false => R.ev K σ l fun a => R.ev K σ r fun b => cmpW o a b fun d => match d with
      | .bool c => Q c
      | _ => False
  | .Compare .. => False
  | .UnaryOp .Not x _ => R.ts K σ x fun c => Q (!c)
  | .BoolOp .And [x, y] _ => R.ts K σ x fun c => (c = true → R.ts K σ y Q) ∧ (c = false → Q false)
  | .BoolOp .Or [x, y] _ => R.ts K σ x fun c => (c = true → Q true) ∧ (c = false → R.ts K σ y Q)
  | .BoolOp .. => False
  | .IfExp .. => False
  | e => R.ev K σ e fun d => truW d Q
noncomputable def evN (G : Gt) : Nat → Ev
  | 0 => ⟨fun _ _ _ _ => False, fun _ _ _ _ => False⟩
  | n + 1 => ⟨stepE G (evN G n), stepT (evN G n)⟩
end
section
/-- what an evaluator must show -/
structure EvOk (r : Nat) (w : World) (R : Ev) : Prop where
  ev : ∀ {X : Cx} {σ : Sto} {e : Expr} {Q : D → Prop} {s : Shared}, X.Ok → Room r X.A → X.w = w → R.ev X.env.scope.names σ e Q → Rel X σ s.heap → Wp w X.A (eval e X.env) (Gq X Q s) s
  ts : ∀ {X : Cx} {σ : Sto} {e : Expr} {Q : Bool → Prop} {s : Shared}, X.Ok → Room r X.A → X.w = w → R.ts X.env.scope.names σ e Q → Rel X σ s.heap → Wp w X.A (isTrue e X.env (eval e X.env)) (fun c s' => Q c ∧ Keeps s s') s
section
variable {r : Nat} {w : World} {R : Ev} {X : Cx} {σ : Sto} {s : Shared} {G : Gt}
theorem starEach_cons {e : Expr} {rest : List Expr} {env : Env} (h : isStar e = false) : starEach (e :: rest) env = (false, eval e env) :: starEach rest env := by
  cases e <;> first | rfl | (simp [isStar] at h)
theorem Gq.to {X : Cx} {Q : D → Prop} {s s1 s2 : Shared} {v : Value} (k : Keeps s s1) (h : Gq X Q s1 v s2) : Gq X Q s v s2 := let ⟨d, a, b, c⟩ := h; ⟨d, a, b, keeps_trans k c⟩
theorem evs_ok (H : EvOk r w R) (ok : X.Ok) (hr : Room r X.A) (hw : X.w = w) : ∀ {es : List Expr} {Q : List D → Prop} {s : Shared} {pos : Pos}, evs R X.env.scope.names σ es Q → Rel X σ s.heap →
    Wp w X.A (spliced (backTo pos (starEach es X.env))) (fun vs s' => ∃ ds, Reps X.N s'.heap vs ds ∧ Q ds ∧ Keeps s s' ∧ es.any isStar = false ∧ vs.length = es.length) s
  | [], Q, s, pos, h, rel => args_nil ⟨[], .nil, h, keeps_refl, rfl, rfl⟩
  | e :: es, Q, s, pos, h, rel => by
    unfold evs at h
    cases hs : isStar e with
    | true => rw [hs] at h; exact h.elim
    | false =>
      rw [hs] at h
      refine args_cons (Wp.mono (H.ev ok hr hw h rel) ?_) (starEach_cons hs)
      rintro v s1 ⟨d, rd, hq, k1⟩
      refine Wp.mono (evs_ok H ok hr hw hq (rel.keeps k1)) ?_
      rintro vs s2 ⟨ds, rds, hq2, k2, hst, hlen⟩
      exact ⟨d :: ds, .cons (rd.kp (Keeps.kp k2)) rds, hq2, keeps_trans k1 k2, by simp [hs, hst], by simp [hlen]⟩
theorem optW_ok (H : EvOk r w R) (ok : X.Ok) (hr : Room r X.A) (hw : X.w = w) {o : Option Expr} {Q : Option Int → Prop} (h : optW R X.env.scope.names σ o Q) (rel : Rel X σ s.heap) :
    Wp w X.A (evalPart o X.env) (fun v s' => ∃ k, IsPart v k ∧ Q k ∧ Keeps s s') s := by
  cases o with
  | none => rw [evalPart_none]; exact wpAny_pure ⟨none, .none, h, keeps_refl⟩
  | some e =>
    rw [evalPart_some]
    refine Wp.mono (H.ev ok hr hw h rel) ?_
    rintro v s1 ⟨d, rd, hq, k1⟩
    cases rd with
    | int i t => exact ⟨some i, .int i t, hq, k1⟩
    | _ => exact hq.elim
theorem name_glob (ok : X.Ok) (rel : Rel X σ s.heap) {f : Str} (hk : X.env.scope.names.lookup f = some .globalImplicit) (hd : (f == ("__debug__" : Str)) = false) {pos : Pos} {Q : Value → Shared → Prop} (h : Wp w X.A (loadGlobal X.env f) Q s) :
    Wp w X.A (eval (.Name f pos) X.env) Q s := Name_function_global ok.kind hk h hd
theorem globW_ok (ok : X.Ok) (hw : X.w = w) (rel : Rel X σ s.heap) {x : Str} {Q : D → Prop} (h : globW x Q) : Wp w X.A (loadGlobal X.env x) (Gq X Q s) s := by
  have am := rel.am ok
  subst hw
  obtain ⟨mg, mb, mean, T, K⟩ := am.glob
  have hg : s.heap.Ns X.env.globals mg := by rw [ok.gl]; exact T.g
  unfold globW at h
  cases h1 : x == ("ELLIPSIS_MARKER" : Str) with
  | true =>
    rw [h1] at h
    have : x = ("ELLIPSIS_MARKER" : Str) := by simpa using h1
    subst this
    obtain ⟨v, hv, hrd⟩ := T.const ("ELLIPSIS_MARKER" : Str) (.str ⟨#[46, 46, 46]⟩) (by kernel_rfl)
    refine loadGlobal_global hg hv ?_
    have := hrd s.heap
    cases this with
    | str _ t => exact ⟨_, .str [46, 46, 46] t, h, keeps_refl⟩
  | false =>
    cases h2 : x == ("b1_set" : Str) with
    | true =>
      rw [h1, h2] at h
      have : x = ("b1_set" : Str) := by simpa using h2
      subst this
      exact loadGlobal_global hg (mg_of K T.g (by kernel_rfl)) ⟨.obj 22, .obj _, h, keeps_refl⟩
    | false =>
      cases h3 : x == ("b3_exceptions" : Str) with
      | true =>
        rw [h1, h2, h3] at h
        have : x = ("b3_exceptions" : Str) := by simpa using h3
        subst this
        exact loadGlobal_global hg (mg_of K T.g (by kernel_rfl)) ⟨.obj 33, .obj _, h, keeps_refl⟩
      | false =>
        cases h4 : x == ("CHAR_MAX" : Str) with
        | true =>
          rw [h1, h2, h3, h4] at h
          have : x = ("CHAR_MAX" : Str) := by simpa using h4
          subst this
          obtain ⟨v, hv, hrd⟩ := T.const ("CHAR_MAX" : Str) (.int 127) (by kernel_rfl)
          refine loadGlobal_global hg hv ?_
          have := hrd s.heap
          cases this with
          | int _ t => exact ⟨_, .int 127 t, h, keeps_refl⟩
        | false => rw [h1, h2, h3, h4] at h; exact h.elim
theorem evsS_ok (H : EvOk r w R) (ok : X.Ok) (hr : Room r X.A) (hw : X.w = w) {es : List Expr} {Q : List D → Prop} {s : Shared} {pos : Pos} (h : evsS R X.env.scope.names σ es Q) (rel : Rel X σ s.heap) :
    es.any isStar = false ∧ Wp w X.A (spliced (backTo pos (starEach es X.env))) (fun vs s' => ∃ ds, Reps X.N s'.heap vs ds ∧ Q ds ∧ Keeps s s') s := by
  unfold evsS at h
  cases hs : es.any isStar with
  | true => rw [hs] at h; exact h.elim
  | false =>
    rw [hs] at h
    refine ⟨rfl, Wp.mono (evs_ok H ok hr hw h rel) ?_⟩
    rintro vs s1 ⟨ds, a, b, c, _, _⟩
    exact ⟨ds, a, b, c⟩
theorem call_fn (H : EvOk r w R) (GG : GOk r w G) (ok : X.Ok) (hr : Room r X.A) (hw : X.w = w) (rel : Rel X σ s.heap) {f : Str} {p pos : Pos} {a : Expr} {args : List Expr} {c : Con} {Q : D → Prop}
    (hk : isGlob X.env.scope.names σ f = true) (hf : G.lookup f = some c) (h : evsS R X.env.scope.names σ (a :: args) fun ds => c ds Q) :
    Wp w X.A (eval (.Call (.Name f p) (a :: args) [] pos) X.env) (Gq X Q s) s := by
  have am := rel.am ok
  obtain ⟨fv, F⟩ := GG f c hf s.heap (hw ▸ am.glob)
  simp only [isGlob, Bool.and_eq_true, beq_iff_eq, Bool.not_eq_true'] at hk
  obtain ⟨hstar, hev⟩ := evsS_ok (pos := pos) H ok hr hw h rel
  refine Call_ (name_glob ok rel hk.1.1 (by simpa using hk.2) (F.load ok.gl ok.bl Kp.refl ?_))
  refine F.cw hstar Kp.refl (Wp.mono hev ?_)
  rintro vs s1 ⟨ds, rds, hc, k⟩
  refine ⟨Keeps.kp k, ?_⟩
  subst hw
  exact Wp.mono (F.run rfl hr (am.kp (Keeps.kp k)) ok.hd (Keeps.kp k) rds hc) fun v s2 g => Gq.to k g
noncomputable def isCall : Expr → Bool
  | .Call .. => true
  | _ => false
theorem base_plain {o : Expr} (h : isCall o = false) (m : Str) (env : Env) (t : Sem Value) : attributeBase o m env t = t := by
  unfold attributeBase
  cases o <;> first | rfl | (simp [isCall] at h)
theorem any_star {args : List Expr} {env : Env} {pos : Pos} (h : args.any isStar = false) : (backTo pos (starEach args env)).any (·.1) = false := by
  induction args with
  | nil => rfl
  | cons e r ih =>
    simp only [List.any_cons, Bool.or_eq_false_iff] at h
    rw [starEach_cons h.1]
    show (false || (backTo pos (starEach r env)).any (·.1)) = false
    rw [ih h.2]; rfl
theorem all_star {args : List Expr} {env : Env} {pos : Pos} (h : args.any isStar = false) : (backTo pos (starEach args env)).all (fun x => !x.1) = true := by
  induction args with
  | nil => rfl
  | cons e r ih =>
    simp only [List.any_cons, Bool.or_eq_false_iff] at h
    rw [starEach_cons h.1]
    show (true && (backTo pos (starEach r env)).all fun x => !x.1) = true
    rw [ih h.2]; rfl
theorem meth_rule {A : Around} {env : Env} {o : Expr} {m : Str} {apos pos : Pos} {args : List Expr} {Q : Value → Shared → Prop} (ho : isCall o = false) (hp : (apos.endLine == pos.line) = true) (hs : args.any isStar = false) (hl : args.length < 20)
    (h : Wp w A (eval o env) (fun ov s1 => ∀ pl, Wp w A (getMethod ov m pl) (fun fx s2 => Wp w A (callWith pos fx.1 fx.2 (backTo pos (starEach args env)) []) Q s2) s1) s) :
    Wp w A (eval (.Call (.Attribute o m apos) args [] pos) env) Q s := by
  have e : eval (.Call (.Attribute o m apos) args [] pos) env = (do
      let ov ← attributeBase o m env (eval o env)
      standAt apos.atName
      methodCall o m apos pos env ov (args.length + 0) (backTo pos (starEach args env)) []) := rfl
  rw [e, base_plain ho]
  refine wpAny_bind (Wp.mono h fun ov s1 h1 => wpAny_bind (wpAny_standAt ?_))
  unfold methodCall
  have hf : methodCallForm (args.length + 0) (backTo pos (starEach args env)) [] = true := by
    unfold methodCallForm
    rw [all_star hs]
    simp
    omega
  rw [hf]
  refine wpAny_bind (wpAny_holding (Wp.mono (h1 _) fun fx s2 h2 => ?_))
  refine wpAny_bind (wpAny_of_eq (a := pos) ?_ h2)
  unfold methodCallPos
  rw [hp]
  rfl
theorem callWith_meth {A : Around} {env : Env} {pos : Pos} {id : String} {v : Value} {args : List Expr} {Q : Value → Shared → Prop} (hs : args.any isStar = false) (h0 : args = [] → Wp w A (call (.builtin id) [v]) Q s)
    (h : Wp w A (spliced (backTo pos (starEach args env))) (fun vs s1 => Wp w A (call (.builtin id) (v :: vs)) Q s1) s) :
    Wp w A (callWith pos (.builtin id) [v] (backTo pos (starEach args env)) []) Q s := by
  cases args with
  | nil =>
    exact callWith_method0 (h0 rfl)
  | cons e rest =>
    simp only [List.any_cons, Bool.or_eq_false_iff] at hs
    exact callWith_method1 h (starEach_cons hs.1) (any_star hs.2)
theorem call_meth (H : EvOk r w R) (ok : X.Ok) (hr : Room r X.A) (hw : X.w = w) (rel : Rel X σ s.heap) {o : Expr} {m : Str} {apos pos : Pos} {args : List Expr} {Q : D → Prop} (ho : isCall o = false) (hp : (apos.endLine == pos.line) = true) (hl : args.length < 20)
    (h : R.ev X.env.scope.names σ o fun a => match methOf m a with
      | some k => evsS R X.env.scope.names σ args fun ds => methW k a ds Q
      | none => False) (hs : args.any isStar = false) :
    Wp w X.A (eval (.Call (.Attribute o m apos) args [] pos) X.env) (Gq X Q s) s := by
  refine meth_rule ho hp hs hl (Wp.mono (H.ev ok hr hw h rel) ?_)
  rintro v s1 ⟨a, ra, ha, k1⟩ pl
  have rel1 := rel.keeps k1
  cases hm : methOf m a with
  | none => rw [hm] at ha; exact ha.elim
  | some k =>
    rw [hm] at ha
    subst hw
    refine getM_ok hm (rel1.am ok).glob ra ?_
    refine callWith_meth hs (fun he => ?_) (Wp.mono (evsS_ok H ok hr rfl ha rel1).2 ?_)
    case _ => subst he; exact Wp.mono (callM_ok (rel1.am ok) ha ra .nil) fun v s3 g => Gq.to k1 g
    rintro vs s2 ⟨ds, rds, hq, k2⟩
    refine Wp.mono (callM_ok ((rel1.keeps k2).am ok) hq (ra.kp (Keeps.kp k2)) rds) fun v s3 g => Gq.to (keeps_trans k1 k2) g
end
end
section
noncomputable def KpB (wr : List Addr) (h h' : Heap) : Prop := ∀ b o, b ∉ wr → h.get? b = some o → h'.get? b = some o
structure Itr (w : World) (A : Around) (N : List Addr) (t : Expr) (I : Value) (wr : List Addr) (St : List D → Heap → Prop) : Prop where
  frame : ∀ {l h h'}, St l h → (∀ b ∈ wr, ∀ o, h.get? b = some o → h'.get? b = some o) → Ks N h h' → St l h'
  nil : ∀ {s : Shared} {Q : Option Value → Shared → Prop}, St [] s.heap → (∀ h' tk, KpB wr s.heap h' → Ks N s.heap h' → Q none { s with heap := h', toks := tk }) → Wp w A (pyNext I) Q s
  cons : ∀ {d l} {s : Shared} {Q : Value → Shared → Prop}, (∀ a ∈ N, ∃ o, s.heap.get? a = some o) → St (d :: l) s.heap → (∀ v h' tk, Rep N h' v d → St l h' → KpB wr s.heap h' → Ks N s.heap h' → Q v { s with heap := h', toks := tk }) →
    Wp w A (pyNext I) (fun r s1 => ∃ v, r = some v ∧ Wp w A (letOwnedTupleGo t I v) (fun _ s2 => Q v s2) s1) s
  self : ∀ {l} {s : Shared} {Q : Value → Shared → Prop}, St l s.heap → Q I s → Wp w A (pyIter I) Q s
theorem letGo_name {t : Expr} (h : isNm t = true) (it v : Value) : letOwnedTupleGo t it v = pure () := by
  cases t <;> first | rfl | (simp [isNm] at h)
theorem ks_of {N wr : List Addr} {h h' : Heap} (k : KpB wr h h') (hw : ∀ b ∈ wr, ∀ o, h.get? b = some o → ∀ xs n, o.data ≠ .seq xs n) : Ks N h h' := fun b o _ ⟨xs, n, e⟩ hb => by
  by_cases hm : b ∈ wr
  · exact (hw b hm o hb xs n e).elim
  · exact k b o hm hb
section
variable {w : World} {A : Around} {N : List Addr}
theorem Itr.of {I : Addr} {fp wr : List Addr} {n : Nat} {P : Nat → Value → Prop} {St : Nat → Heap → Prop} (W : Walks pw w A I fp wr n P St) (L : List D) (hL : L.length = n) (RP : Heap → Prop) (hRP : ∀ h h', RP h → Ks N h h' → RP h')
    (hv : ∀ i v h d, P i v → RP h → L[i]? = some d → Rep N h v d) (hd : ∀ i h, St i h → ∀ b ∈ wr, ∀ o, h.get? b = some o → ∀ xs n, o.data ≠ .seq xs n)
    (hfr : ∀ i h h', St i h → RP h → (∀ b ∈ wr, ∀ o, h.get? b = some o → h'.get? b = some o) → Ks N h h' → St i h') {t : Expr} (ht : isNm t = true) :
    Itr w A N t (.ref I) wr (fun l h => ∃ i, i ≤ n ∧ l = L.drop i ∧ St i h ∧ RP h) where
  frame := fun ⟨i, hi, e, st, rp⟩ k1 k2 => ⟨i, hi, e, hfr _ _ _ st rp k1 k2, hRP _ _ rp k2⟩
  nil := fun ⟨i, hi, e, st, rp⟩ hQ => by
    have hin : i = n := by
      have := congrArg List.length e
      simp only [List.length_nil, List.length_drop] at this
      omega
    subst hin
    exact W.done _ _ _ st fun h' tk k => hQ h' tk k (ks_of k (hd _ _ st))
  cons := fun {d l s Q} _ ⟨i, hi, e, st, rp⟩ hQ => by
    have hlt : i < n := by
      have := congrArg List.length e
      simp only [List.length_cons, List.length_drop] at this
      omega
    have hdi : L[i]? = some d := by
      have := congrArg (·[0]?) e
      simpa using this.symm
    have hli : l = L.drop (i + 1) := by
      have := congrArg (List.drop 1) e
      simpa [List.drop_drop] using this
    refine W.item i s _ _ hlt st fun v h' tk p st' k => ⟨v, rfl, ?_⟩
    have ks := ks_of (N := N) k (hd _ _ st)
    exact wpAny_of_eq (letGo_name ht _ _) (hQ v h' tk (hv i v h' d p (hRP _ _ rp ks) hdi) ⟨i + 1, hlt, hli, st', hRP _ _ rp ks⟩ k ks)
  self := fun ⟨i, hi, e, st, rp⟩ hQ => W.self i _ _ _ st hQ
end
/-- an iterator is made -/
noncomputable def MkIt (X : Cx) (t : Expr) (l : List D) (s : Shared) (I : Value) (s2 : Shared) : Prop :=
  Keeps s s2 ∧ ∃ wr, (∀ b ∈ wr, s.heap.get? b = none) ∧ (∀ b ∈ wr, ∃ o, s2.heap.get? b = some o) ∧ ∀ N, (∀ a ∈ N, a ∈ X.N ∨ s2.heap.get? a = none) → ∃ St, Itr X.w X.A N t I wr St ∧ St l s2.heap
theorem kp_none {h h' : Heap} (k : Kp h h') {a : Addr} (e : h'.get? a = none) : h.get? a = none := by
  cases e2 : h.get? a with
  | none => rfl
  | some o => rw [k _ _ e2] at e; cases e
section
variable {X : Cx} {s : Shared}
theorem get_size {h : Heap} : h.get? h.objs.size = none := by
  cases e : h.get? h.objs.size with
  | none => rfl
  | some o => exact absurd (Heap.lt_size e) (Nat.lt_irrefl _)
theorem mk_list (am : Am X s.heap) (hh : X.A.handled = none) {l : List D} {v : Value} (r : Rep X.N s.heap v (.lst l)) {t : Expr} (ht : isNm t = true) : Wp X.w X.A (pyIter v) (MkIt X t l s) s := by
  cases r with
  | lst ha hl rs =>
    rename_i a vs
    refine wpAny_pyIter_list hl ?_
    have k : Kp s.heap (s.heap.push { cls := .type "list_iterator", data := .fields #[.ref a, .int 0 0] }) := fun b o e => Heap.get?_push_of_some _ e
    have hne : a ≠ s.heap.objs.size := by
      obtain ⟨o, ho, _⟩ := hl
      exact Nat.ne_of_lt (Heap.lt_size ho)
    refine ⟨keeps_of (tk := s.toks) k, [s.heap.objs.size], fun b hb => by rw [List.mem_singleton.mp hb]; exact get_size, fun b hb => by rw [List.mem_singleton.mp hb]; exact ⟨_, Heap.get?_push_size _ rfl⟩, fun N hN => ?_⟩
    have rr : Rep N s.heap (.ref a) (.lst l) := (Rep.lst ha hl rs).mono (fun b hb => (hN b hb).imp id fun e => kp_none k e) (Kp.ks Kp.refl)
    have ha : a ∉ N := by cases rr with | lst h1 _ _ => exact h1
    have rs : Reps N s.heap vs l := rs.mono (fun b hb => (hN b hb).imp id fun e => kp_none k e) (Kp.ks Kp.refl)
    refine ⟨_, Itr.of (Walks.list hh s.heap.objs.size a hne vs.toArray) l (by simp [rs.length]) (fun h => h.IsList a vs.toArray ∧ Reps N h vs l) ?_ ?_ ?_ ?_ ht, ⟨0, Nat.zero_le _, rfl, ⟨⟨_, Heap.get?_push_size _ rfl, rfl, rfl⟩, hl.push _⟩, hl.push _, rs.kp k⟩⟩
    · rintro h h' ⟨⟨o, ho, hc, n, hd⟩, hr⟩ ks
      exact ⟨⟨o, ks _ _ ha ⟨_, _, hd⟩ ho, hc, n, hd⟩, hr.ks ks⟩
    · rintro i v h d hp ⟨_, hr⟩ hdi
      obtain ⟨v', hv', hr'⟩ := hr.get hdi
      have : v' = v := by
        have h1 : vs[i]? = some v := by simpa using hp
        rw [h1] at hv'
        injection hv' with e; exact e.symm
      exact this ▸ hr'
    · rintro i h ⟨⟨o, ho, hc, hd⟩, _⟩ b hb o' ho' xs n e
      rw [List.mem_singleton.mp hb, ho] at ho'
      injection ho' with ho'
      rw [← ho', hd] at e
      cases e
    · rintro i h h' ⟨⟨o, ho, hc, hd⟩, _⟩ ⟨⟨o2, ho2, hc2, n2, hd2⟩, _⟩ k1 ks
      exact ⟨⟨o, k1 _ (List.mem_singleton.mpr rfl) _ ho, hc, hd⟩, ⟨o2, ks _ _ ha ⟨_, _, hd2⟩ ho2, hc2, n2, hd2⟩⟩
theorem mk_str (hh : X.A.handled = none) {x : List Nat} {v : Value} (r : Rep X.N s.heap v (.str x)) {t : Expr} (ht : isNm t = true) : Wp X.w X.A (pyIter v) (MkIt X t (x.map fun c => .str [c]) s) s := by
  cases r with
  | str _ u =>
    refine wpAny_pyIter_strU ?_
    have k : Kp s.heap (s.heap.push { cls := .type (strIterType ⟨x.toArray⟩), data := .fields #[.str ⟨x.toArray⟩ u, .int 0 0] }) := fun b o e => Heap.get?_push_of_some _ e
    have key : ∀ ty, (strIterType ⟨x.toArray⟩) = ty → Walks pw X.w X.A s.heap.objs.size [s.heap.objs.size] [s.heap.objs.size] (⟨x.toArray⟩ : Str).cps.size (SignAt ⟨x.toArray⟩) (fun i h => h.IsStrIter s.heap.objs.size ty ⟨x.toArray⟩ u i) →
        MkIt X t (x.map fun c => .str [c]) s (.ref s.heap.objs.size) { s with heap := s.heap.push { cls := .type (strIterType ⟨x.toArray⟩), data := .fields #[.str ⟨x.toArray⟩ u, .int 0 0] } } := by
      rintro ty rfl W
      refine ⟨keeps_of (tk := s.toks) k, [s.heap.objs.size], fun b hb => by rw [List.mem_singleton.mp hb]; exact get_size, fun b hb => by rw [List.mem_singleton.mp hb]; exact ⟨_, Heap.get?_push_size _ rfl⟩, fun N hN => ?_⟩
      refine ⟨_, Itr.of W (x.map fun c => .str [c]) (by simp) (fun h => True) (fun _ _ _ _ => trivial) ?_ ?_ ?_ ht, ⟨0, Nat.zero_le _, rfl, ⟨_, Heap.get?_push_size _ rfl, rfl, rfl⟩, trivial⟩⟩
      · rintro i v h d ⟨c, u', hc, rfl⟩ _ hdi
        rw [List.getElem?_map] at hdi
        have h1 : x[i]? = some c := by simpa using hc
        rw [h1] at hdi
        injection hdi with hdi
        subst hdi
        exact .str [c] u'
      · rintro i h ⟨o, ho, hr⟩ b hb o' ho' xs n e
        rw [List.mem_singleton.mp hb, ho] at ho'
        injection ho' with ho'
        rw [← ho', hr.2] at e
        cases e
      · rintro i h h' ⟨o, ho, hr⟩ _ k1 ks
        exact ⟨o, k1 _ (List.mem_singleton.mpr rfl) _ ho, hr⟩
    cases ha : (⟨x.toArray⟩ : Str).cps.all (· < 128)
    · exact key "str_iterator" (by unfold strIterType; rw [ha]; rfl) (Walks.strWide hh _ _ _)
    · exact key "str_ascii_iterator" (by unfold strIterType; rw [ha]; rfl) (Walks.strAscii hh _ _ _)
end
end
section
theorem load_bi {w : World} {h : Heap} (g : Gl w h) {f : Str} {v : Value} (h1 : ∀ P, nsIn (Kf P) mainGlobals f = some none) (h2 : bootBuiltins f = some v) (h3 : f ≠ ("__name__" : Str))
    {A : Around} {env : Env} {s : Shared} {Q : Value → Shared → Prop} (eg : env.globals = mainGlobals) (eb : env.builtins = builtinsNs) (k : Kp h s.heap) (q : Q v s) : Wp w A (loadGlobal env f) Q s := by
  obtain ⟨mg, mb, mean, T, K⟩ := g.kp k
  exact loadGlobal_builtin (mg := mg) (mb := mb) (by rw [eg]; exact T.g) (mg_none_of K T.g (h1 _)) (by rw [eb]; exact T.b) (by rw [T.builtins _ h3]; exact h2) q
section
variable {r : Nat} {w : World} {R : Ev} {X : Cx} {σ : Sto} {s : Shared} {G : Gt}
theorem mk_range (hh : X.A.handled = none) {a b : Int} {rr : Addr} {t0 u0 v0 : Tok} (hr : IsRange s.heap rr a b 1 t0 u0 v0) (ha : a.natAbs ≤ 1000) (hb : b.natAbs ≤ 1000) {t : Expr} (ht : isNm t = true) :
    Wp X.w X.A (pyIter (.ref rr)) (MkIt X t ((List.range (b - a).toNat).map fun (k : Nat) => .int (a + k)) s) s := by
  have hsz : Builtin.Range.rangeSize a b 1 = (((b - a).toNat : Nat) : Int) := by
    unfold Builtin.Range.rangeSize
    simp
    omega
  refine wpAny_pyIter_range hr ?_ ?_
  · unfold Builtin.Range.small
    rw [hsz]
    simp [Builtin.Range.rangeFitsLong]
    omega
  · have k : Kp s.heap (s.heap.push { cls := .type "range_iterator", data := .fields #[rawInt a, rawInt (Builtin.Range.rangeSize a b 1), rawInt 1] }) := fun b o e => Heap.get?_push_of_some _ e
    refine ⟨keeps_of (tk := s.toks) k, [s.heap.objs.size], fun b hb => by rw [List.mem_singleton.mp hb]; exact get_size, fun b hb => by rw [List.mem_singleton.mp hb]; exact ⟨_, Heap.get?_push_size _ rfl⟩, fun N hN => ?_⟩
    refine ⟨_, Itr.of (Walks.range hh s.heap.objs.size a 1 (b - a).toNat) ((List.range (b - a).toNat).map fun (k : Nat) => .int (a + k)) (by simp) (fun h => True) (fun _ _ _ _ => trivial) ?_ ?_ ?_ ht, ⟨0, Nat.zero_le _, rfl, ?_, trivial⟩⟩
    · rintro i v h d ⟨u, rfl⟩ _ hdi
      rw [List.getElem?_map] at hdi
      by_cases hi : i < (b - a).toNat
      · rw [List.getElem?_range hi] at hdi
        injection hdi with hdi
        subst hdi
        rw [Int.mul_one]
        exact .int _ u
      · rw [List.getElem?_eq_none (by simp; omega)] at hdi
        cases hdi
    · intro i h ho b hb o' ho' xs n e
      have ho2 : h.get? s.heap.objs.size = _ := ho
      rw [List.mem_singleton.mp hb, ho2] at ho'
      injection ho' with ho'
      rw [← ho'] at e
      cases e
    · intro i h h' ho _ k1 ks
      exact k1 _ (List.mem_singleton.mpr rfl) _ ho
    · have := Heap.get?_push_size s.heap (o := { cls := .type "range_iterator", data := .fields #[rawInt a, rawInt (Builtin.Range.rangeSize a b 1), rawInt 1] }) rfl
      show Heap.get? _ _ = _
      rw [this, hsz]
      simp
theorem enumD_drop : ∀ (l : List D) (j : Int) (i : Nat), (enumD j l).drop i = enumD (j + i) (l.drop i)
  | [], j, i => by simp [enumD]
  | d :: r, j, 0 => by simp
  | d :: r, j, i + 1 => by
    rw [enumD, List.drop_succ_cons, List.drop_succ_cons, enumD_drop r (j + 1) i]
    congr 1
    omega
theorem enumD_length : ∀ (l : List D) (j : Int), (enumD j l).length = l.length
  | [], _ => rfl
  | _ :: r, j => by simp [enumD, enumD_length r]
theorem mk_enum (am : Am X s.heap) (hh : X.A.handled = none) {l : List D} {v : Value} (r : Rep X.N s.heap v (.lst l)) {t : Expr} (ht : isTup t = true) :
    Wp X.w X.A (call (.type "enumerate") [v]) (fun e s1 => Wp X.w X.A (pyIter e) (MkIt X t (enumD 0 l) s) s1) s := by
  cases r with
  | lst ha hl rs =>
    rename_i a vs
    refine call_enumerate_list hl fun h' he hit hsz k => ?_
    have hlt : a < s.heap.objs.size := by obtain ⟨o, ho, _⟩ := hl; exact Heap.lt_size ho
    have hei : s.heap.objs.size + 1 ≠ s.heap.objs.size := Nat.succ_ne_self _
    have W := WalksT.enumerate (prog := pw) (w := X.w) (A := X.A) hh (s.heap.objs.size + 1) s.heap.objs.size a hei (Nat.ne_of_lt (Nat.lt_succ_of_lt hlt)) (Nat.ne_of_lt hlt) vs.toArray
    have hsplit : ∃ ts k p, t = .Tuple ts k p := by
      cases t <;> first | exact ⟨_, _, _, rfl⟩ | (simp [isTup] at ht)
    obtain ⟨ts, kk, p, rfl⟩ := hsplit
    refine wpAny_pyIter_enum he ?_
    have hl' : h'.IsList a vs.toArray := by obtain ⟨o, ho, q⟩ := hl; exact ⟨o, k _ _ ho, q⟩
    have fresh : ∀ c, s.heap.objs.size ≤ c → s.heap.get? c = none := fun c hc => by
      cases e : s.heap.get? c with
      | none => rfl
      | some o' => exact absurd (Heap.lt_size e) (Nat.not_lt.mpr hc)
    refine ⟨keeps_of (tk := s.toks) k, [s.heap.objs.size + 1, s.heap.objs.size], fun b hb => ?_, fun b hb => ?_, fun N hN => ?_⟩
    · rcases List.mem_cons.mp hb with rfl | hb
      · exact fresh _ (Nat.le_succ _)
      · rw [List.mem_singleton.mp hb]; exact fresh _ (Nat.le_refl _)
    · rcases List.mem_cons.mp hb with rfl | hb
      · exact ⟨_, he⟩
      · rw [List.mem_singleton.mp hb]; exact let ⟨o, x, _⟩ := hit; ⟨o, x⟩
    have rr : Rep N s.heap (.ref a) (.lst l) := (Rep.lst ha hl rs).mono (fun b hb => (hN b hb).imp id fun e => kp_none k e) (Kp.ks Kp.refl)
    have ha : a ∉ N := by cases rr with | lst h1 _ _ => exact h1
    have rs : Reps N s.heap vs l := rs.mono (fun b hb => (hN b hb).imp id fun e => kp_none k e) (Kp.ks Kp.refl)
    let St : List D → Heap → Prop := fun l' h => ∃ i : Nat, i ≤ vs.length ∧ l' = (enumD 0 l).drop i ∧ ((∃ old, IsEnum h (s.heap.objs.size + 1) s.heap.objs.size i old) ∧ h.IsListIter s.heap.objs.size a i ∧ h.IsList a vs.toArray) ∧ Reps N h vs l
    have hnseq : ∀ (i : Nat) h, ((∃ old, IsEnum h (s.heap.objs.size + 1) s.heap.objs.size i old) ∧ h.IsListIter s.heap.objs.size a i ∧ h.IsList a vs.toArray) → ∀ b ∈ [s.heap.objs.size + 1, s.heap.objs.size], ∀ o, h.get? b = some o → ∀ xs n, o.data ≠ .seq xs n := by
      rintro i h ⟨⟨old, h1⟩, ⟨o2, h2, _, h3⟩, _⟩ b hb o ho xs n e
      rcases List.mem_cons.mp hb with rfl | hb
      · have h1' : h.get? (s.heap.objs.size + 1) = _ := h1
        rw [h1'] at ho; injection ho with ho; rw [← ho] at e; cases e
      · rw [List.mem_singleton.mp hb, h2] at ho; injection ho with ho; rw [← ho, h3] at e; cases e
    have hmono : ∀ h h', h.IsList a vs.toArray → Ks N h h' → h'.IsList a vs.toArray := fun h h' ⟨o, ho, hc, n, hd⟩ ks => ⟨o, ks _ _ ha ⟨_, _, hd⟩ ho, hc, n, hd⟩
    refine ⟨St, ⟨?_, ?_, ?_, ?_⟩, ⟨0, Nat.zero_le _, rfl, ⟨⟨_, he⟩, hit, hl'⟩, rs.kp k⟩⟩
    · rintro l' h h' ⟨i, hi, e, st, rp⟩ k1 k2
      exact ⟨i, hi, e, ⟨let ⟨old, x⟩ := st.1; ⟨old, k1 _ (by simp) _ x⟩, let ⟨o, x, y⟩ := st.2.1; ⟨o, k1 _ (by simp) _ x, y⟩, hmono _ _ st.2.2 k2⟩, rp.ks k2⟩
    · rintro s2 Q ⟨i, hi, e, st, rp⟩ hQ
      have hin : i = vs.length := by
        have := congrArg List.length e
        simp only [List.length_nil, List.length_drop, enumD_length] at this
        have := rs.length
        omega
      subst hin
      refine W.done _ _ _ (by simpa using st) fun h2 tk k2 => hQ h2 tk k2 (ks_of k2 (hnseq _ _ st))
    · rintro d l' s2 Q nin ⟨i, hi, e, st, rp⟩ hQ
      have hlen := rs.length
      have hlt : i < vs.length := by
        have := congrArg List.length e
        simp only [List.length_cons, List.length_drop, enumD_length] at this
        omega
      have hd1 : ∃ d1, l[i]? = some d1 := ⟨_, List.getElem?_eq_getElem (by omega)⟩
      obtain ⟨d1, hd1⟩ := hd1
      have he1 : l.drop i = d1 :: l.drop (i + 1) := by
        have h1 : i < l.length := by omega
        rw [List.drop_eq_getElem_cons h1]
        congr 1
        rw [List.getElem?_eq_getElem h1] at hd1
        injection hd1
      have he2 : (enumD 0 l).drop i = .tup [.int i, d1] :: (enumD 0 l).drop (i + 1) := by
        rw [enumD_drop, enumD_drop, he1, enumD]
        congr 2
        · congr 2
          omega
      rw [he2] at e
      injection e with e1 e2
      obtain ⟨v1, hv1, hr1⟩ := rp.get hd1
      refine W.item i s2 _ _ (by simpa using hlt) st fun T vals h2 tk hp hT htup hmid k2 => ⟨_, rfl, ?_⟩
      have ks2 : Ks N s2.heap h2 := ks_of k2 (hnseq _ _ st)
      refine W.go ts kk p i T _ _ _ hmid fun h3 st3 k3 => ?_
      have hmid' := hmid
      obtain ⟨⟨x0, ho0⟩, hit0, hl0, hTe, hTi⟩ := hmid
      have hns3 : ∀ b ∈ [s.heap.objs.size + 1, s.heap.objs.size], ∀ o, h2.get? b = some o → ∀ xs n, o.data ≠ .seq xs n := by
        intro b hb o ho xs n e
        rcases List.mem_cons.mp hb with rfl | hb
        · have h1' : h2.get? (s.heap.objs.size + 1) = _ := ho0
          rw [h1'] at ho; injection ho with ho; rw [← ho] at e; cases e
        · obtain ⟨o2, h2', _, h3'⟩ := hit0
          rw [List.mem_singleton.mp hb, h2'] at ho; injection ho with ho; rw [← ho, h3'] at e; cases e
      have ks3 : Ks N h2 h3 := ks_of k3 hns3
      have ks : Ks N s2.heap h3 := fun b o hb hs ho => ks3 b o hb hs (ks2 b o hb hs ho)
      subst e1
      obtain ⟨t1, x1, hx1, rfl⟩ := hp
      have hxv : x1 = v1 := by
        have : vs[i]? = some x1 := by simpa using hx1
        rw [this] at hv1; injection hv1
      have hTN : T ∉ N := fun hm => by
        obtain ⟨o, ho⟩ := nin _ hm
        exact Nat.lt_irrefl _ (Nat.lt_of_lt_of_le (Heap.lt_size ho) hT)
      refine hQ _ h3 tk (.tup hTN (vs := [.int i t1, x1]) ?_ (.cons (.int _ _) (.cons (hxv ▸ hr1.ks ks) .nil))) ⟨i + 1, by omega, e2, by simpa using st3, rp.ks ks⟩ ?_ ks
      · obtain ⟨o, ho, hq⟩ := htup
        exact ⟨o, k3 _ _ (W.apart _ _ _ hmid') ho, hq⟩
      · exact fun b o hb ho => k3 b o hb (k2 b o hb ho)
    · rintro l' s2 Q ⟨i, hi, e, st, rp⟩ hQ
      exact W.self i _ _ _ st hQ
end
end
section
section
variable {r : Nat} {w : World} {R : Ev} {X : Cx} {σ : Sto} {s : Shared} {G : Gt}
theorem MkIt.to {X : Cx} {t : Expr} {l : List D} {s s1 s2 : Shared} {I : Value} (k : Keeps s s1) (h : MkIt X t l s1 I s2) : MkIt X t l s I s2 :=
  let ⟨a, wr, b, c, d⟩ := h
  ⟨keeps_trans k a, wr, fun x hx => kp_none (Keeps.kp k) (b x hx), c, d⟩
theorem ItW_call {f : Str} {p pos : Pos} {a : Expr} {args : List Expr} {fn : String} (H : EvOk r w R) (ok : X.Ok) (hr : Room r X.A) (hw : X.w = w) (rel : Rel X σ s.heap) (hk : isGlob X.env.scope.names σ f = true)
    (h1 : ∀ P, nsIn (Kf P) mainGlobals f = some none) (h2 : bootBuiltins f = some (.type fn)) (h3 : f ≠ ("__name__" : Str)) {C : List D → Prop} (h : evsS R X.env.scope.names σ (a :: args) C) {P : Value → Shared → Prop}
    (hc : ∀ vs ds s1, Keeps s s1 → Reps X.N s1.heap vs ds → C ds → Wp w X.A (call (.type fn) vs) P s1) : Wp w X.A (eval (.Call (.Name f p) (a :: args) [] pos) X.env) P s := by
  simp only [isGlob, Bool.and_eq_true, beq_iff_eq, Bool.not_eq_true'] at hk
  obtain ⟨hstar, hev⟩ := evsS_ok (pos := pos) H ok hr hw h rel
  have g := (rel.am ok).glob
  rw [hw] at g
  refine Call_ (name_glob ok rel hk.1.1 (by simpa using hk.2) (load_bi g h1 h2 h3 ok.gl ok.bl Kp.refl ?_))
  have hs2 := hstar
  simp only [List.any_cons, Bool.or_eq_false_iff] at hs2
  refine PyProof.Rows.callWith_type1 (Wp.mono hev ?_) (starEach_cons hs2.1) (any_star hs2.2)
  rintro vs s1 ⟨ds, rds, hcd, k⟩
  exact hc vs ds s1 k rds hcd
noncomputable def notSet : Expr → Bool
  | .Set .. => false
  | _ => true
theorem folded_plain {e : Expr} (h : notSet e = true) (env : Env) (x : Value) : foldedSetIterable e env x = pure x := by
  cases e <;> first | rfl | (simp [notSet] at h)
theorem itW_ok (H : EvOk r w R) (ok : X.Ok) (hr : Room r X.A) (hw : X.w = w) {t e : Expr} {Q : List D → Prop} (h : itW R X.env.scope.names σ t e Q) (rel : Rel X σ s.heap) :
    notSet e = true ∧ Wp w X.A (eval e X.env) (fun x s1 => Wp w X.A (pyIter x) (fun I s2 => ∃ l, Q l ∧ MkIt X t l s I s2) s1) s := by
  have gen : isNm t = true → R.ev X.env.scope.names σ e (fun d => itemsW d Q) → Wp w X.A (eval e X.env) (fun x s1 => Wp w X.A (pyIter x) (fun I s2 => ∃ l, Q l ∧ MkIt X t l s I s2) s1) s := by
    intro ht h
    refine Wp.mono (H.ev ok hr hw h rel) ?_
    rintro v s1 ⟨d, rd, hd, k1⟩
    subst hw
    unfold itemsW at hd
    split at hd
    · exact Wp.mono (mk_list ((rel.keeps k1).am ok) ok.hd rd ht) fun I s2 m => ⟨_, hd.2, m.to k1⟩
    · exact Wp.mono (mk_str ok.hd rd ht) fun I s2 m => ⟨_, hd.2, m.to k1⟩
    · exact hd.elim
  unfold itW at h
  split at h
  · rename_i f p args pos
    refine ⟨rfl, ?_⟩
    cases hk : isGlob X.env.scope.names σ f with
    | false => rw [hk] at h; exact h.elim
    | true =>
      cases hf1 : f == ("range" : Str) with
      | true =>
        have : f = ("range" : Str) := by simpa using hf1
        subst this
        rw [hk, hf1] at h
        cases args with
        | nil => exact h.elim
        | cons a args =>
          refine ItW_call H ok hr hw rel hk (fun P => by kernel_rfl) (fn := "range") (by kernel_rfl) (by decide) h ?_
          intro vs ds s1 k1 rds hC
          subst hw
          cases ht : isNm t with
          | false => rw [ht] at hC; split at hC <;> first | exact hC.elim | (rename_i hc; cases hc)
          | true =>
            rw [ht] at hC
            split at hC
            ·
              obtain ⟨_, rfl, r1⟩ := rds.one
              obtain ⟨_, rfl⟩ := r1.int_inv
              · refine call_range_1 ?_
                refine Wp.mono (mk_range ok.hd (IsRange.new ..) hC.1 hC.2.1 ht) fun I s2 m => ⟨_, hC.2.2, m.to (keeps_trans k1 (keeps_of (tk := _) fun b o e => Heap.get?_push_of_some _ e))⟩
            ·
              obtain ⟨_, _, rfl, r1, rs⟩ := rds.cons_inv
              obtain ⟨_, rfl, r2⟩ := rs.one
              obtain ⟨_, rfl⟩ := r1.int_inv
              obtain ⟨_, rfl⟩ := r2.int_inv
              · · refine call_range_2 ?_
                  refine Wp.mono (mk_range ok.hd (IsRange.new ..) hC.1 hC.2.1 ht) fun I s2 m => ⟨_, hC.2.2, m.to (keeps_trans k1 (keeps_of (tk := _) fun b o e => Heap.get?_push_of_some _ e))⟩
            · exact hC.elim
      | false =>
        cases hf2 : f == ("enumerate" : Str) with
        | false => rw [hk, hf1, hf2] at h; exact h.elim
        | true =>
          have : f = ("enumerate" : Str) := by simpa using hf2
          subst this
          rw [hk, hf1, hf2] at h
          cases args with
          | nil => exact h.elim
          | cons a args =>
            refine ItW_call H ok hr hw rel hk (fun P => by kernel_rfl) (fn := "enumerate") (by kernel_rfl) (by decide) h ?_
            intro vs ds s1 k1 rds hC
            subst hw
            cases ht : isTup t with
            | false => rw [ht] at hC; split at hC <;> first | exact hC.elim | (rename_i hc; cases hc)
            | true =>
              rw [ht] at hC
              split at hC
              · cases rds with
                | cons r1 rs =>
                  cases rs
                  exact Wp.mono (mk_enum ((rel.keeps k1).am ok) ok.hd r1 ht) fun e s2 m => Wp.mono m fun I s3 m => ⟨_, hC.2, m.to k1⟩
              · exact hC.elim
  · exact h.elim
  · rename_i h1 h2
    cases ht : isNm t with
    | false => rw [ht] at h; exact h.elim
    | true =>
      rw [ht] at h
      refine ⟨?_, gen ht h⟩
      cases e <;> first | rfl | (exact (h2 _ _ _ rfl).elim)
end
end
section
theorem upd_lookup : ∀ (σ : Sto) (x : Str) (d : D) (y : Str), (upd σ x d).lookup y = if y = x then some d else σ.lookup y
  | [], x, d, y => by
    unfold upd
    by_cases h : y = x
    · subst h; simp
    · have : (y == x) = false := by simpa using h
      simp [List.lookup_cons, this, h]
  | (z, e) :: r, x, d, y => by
    unfold upd
    by_cases hz : x = z
    · subst hz
      simp only [beq_self_eq_true]
      by_cases h : y = x
      · subst h; simp
      · have : (y == x) = false := by simpa using h
        simp [List.lookup_cons, this, h]
    · have e1 : (x == z) = false := by simpa using hz
      simp only [e1]
      rw [List.lookup_cons, List.lookup_cons, upd_lookup r x d y]
      by_cases h2 : y = z
      · subst h2
        have : ¬ y = x := fun e => hz e.symm
        simp [this]
      · have : (y == z) = false := by simpa using h2
        simp [this]
/-- the run s' is s with another heap -/
noncomputable def Os (s s' : Shared) : Prop := ∃ h' tk g, s' = { s with heap := h', toks := tk, gens := g } ∧ GensUp s.gens g
theorem Os.refl {s : Shared} : Os s s := ⟨_, _, _, rfl, .refl⟩
theorem os_of {s : Shared} {h' : Heap} {tk : Nat} : Os s { s with heap := h', toks := tk } := ⟨_, _, _, rfl, .refl⟩
theorem Os.trans {s s' s'' : Shared} (a : Os s s') (b : Os s' s'') : Os s s'' := by
  obtain ⟨h1, t1, g1, rfl, u1⟩ := a
  obtain ⟨h2, t2, g2, rfl, u2⟩ := b
  exact ⟨h2, t2, g2, rfl, u1.trans u2⟩
theorem Keeps.os {s s' : Shared} (k : Keeps s s') : Os s s' := let ⟨h', tk, g, e, _, u⟩ := k; ⟨h', tk, g, e, u⟩
theorem Kp.kpB {wr : List Addr} {h h' : Heap} (k : Kp h h') : KpB wr h h' := fun b o _ e => k b o e
theorem KpB.trans {wr : List Addr} {h h' h'' : Heap} (a : KpB wr h h') (b : KpB wr h' h'') : KpB wr h h'' := fun x o hx e => b x o hx (a x o hx e)
theorem ns_live {h : Heap} {L : Addr} {m : Str → Option Value} (n : h.Ns L m) : ∃ o, h.get? L = some o ∧ ∃ es ep, o.data = .dict es ep := let ⟨o, es, ep, a, b, _⟩ := n; ⟨o, a, es, ep, b⟩
theorem ns_det {h : Heap} {L : Addr} {m m2 : Str → Option Value} (a : h.Ns L m) (b : h.Ns L m2) (x : Str) : m x = m2 x := by
  obtain ⟨o, es, ep, h1, h2, _, h3⟩ := a
  obtain ⟨o', es', ep', g1, g2, _, g3⟩ := b
  rw [h1] at g1
  injection g1 with e
  subst e
  rw [h2] at g2
  injection g2 with e1 e2
  subst e1
  rw [← h3, ← g3]
theorem cell_ne {h : Heap} {L c : Addr} {m : Str → Option Value} {v : Option Value} (n : h.Ns L m) (k : h.IsCell c v) : c ≠ L := by
  rintro rfl
  obtain ⟨o, ho, es, ep, hd⟩ := ns_live n
  obtain ⟨o2, ho2, hd2⟩ := k
  rw [ho] at ho2
  injection ho2 with e
  rw [e, hd2] at hd
  cases hd
theorem ks_but_ns {N : List Addr} {h h' : Heap} {L : Addr} {m : Str → Option Value} (n : h.Ns L m) (sb : Heap.SameBut L h h') : Ks N h h' := fun b o _ ⟨xs, k, e⟩ hb => by
  obtain ⟨o2, ho2, es, ep, hd⟩ := ns_live n
  have : b ≠ L := by
    rintro rfl
    rw [hb] at ho2
    injection ho2 with e2
    rw [e2, hd] at e
    cases e
  rw [sb.2 b this]; exact hb
section
variable {X : Cx} {σ : Sto} {s : Shared}
theorem store_local (ok : X.Ok) (rel : Rel X σ s.heap) {x : Str} {v : Value} {d : D} (hk : X.env.scope.names.lookup x = some .local) (rd : Rep X.N s.heap v d) :
    Wp X.w X.A (storeName X.env x v) (fun _ s' => Rel X (upd σ x d) s'.heap ∧ Os s s' ∧ KpB [X.env.locals] s.heap s'.heap ∧ Ks X.N s.heap s'.heap) s := by
  obtain ⟨m, n⟩ := rel.ns
  refine wpAny_storeName_local (show X.env.kindOf x = some .local from hk) n (fun h' hn sb => ?_) (by rw [ok.kind]; rfl)
  have ks : Ks X.N s.heap h' := ks_but_ns n sb
  have kb : KpB [X.env.locals] s.heap h' := fun b o hb e => by rw [sb.2 b (by simpa using hb)]; exact e
  refine ⟨⟨?_, ⟨_, hn⟩, ?_, ?_, ?_⟩, os_of, kb, ks⟩
  · intro b o e
    have hb : b ≠ X.env.locals := by rintro rfl; rw [ok.fresh] at e; cases e
    exact kb b o (by simpa using hb) (rel.base b o e)
  · intro y d' hy hu
    rw [upd_lookup] at hy
    by_cases hyx : y = x
    · rw [if_pos hyx] at hy
      injection hy with hy
      subst hy hyx
      exact ⟨v, .inl ⟨hk, _, hn, by simp⟩, rd.ks ks⟩
    · rw [if_neg hyx] at hy
      obtain ⟨v', hv, hr⟩ := rel.vars y d' hy hu
      refine ⟨v', ?_, hr.ks ks⟩
      rcases hv with ⟨a, m2, n2, e2⟩ | ⟨a, c, e2, hc⟩
      · refine .inl ⟨a, _, hn, ?_⟩
        show (if y = x then some v else m y) = some v'
        rw [if_neg hyx, ns_det n n2]
        exact e2
      · obtain ⟨o, ho, hd⟩ := hc
        exact .inr ⟨a, c, e2, o, kb c o (by simpa using cell_ne n ⟨o, ho, hd⟩) ho, hd⟩
  · intro a ha
    obtain ⟨o, ho⟩ := rel.nin a ha
    by_cases hb : a = X.env.locals
    · obtain ⟨o2, ho2, _⟩ := ns_live hn
      exact ⟨o2, hb ▸ ho2⟩
    · exact ⟨o, kb a o (by simpa using hb) ho⟩
  · intro y a ha
    obtain ⟨o, ho⟩ := rel.cl y a ha
    by_cases hb : a = X.env.locals
    · obtain ⟨o2, ho2, _⟩ := ns_live hn
      exact ⟨o2, hb ▸ ho2⟩
    · exact ⟨o, kb a o (by simpa using hb) ho⟩
end
end
section
inductive BindV (K : List (Str × NameKind)) (σ : Sto) (Q : Sto → Prop) : Expr → D → Prop where
  | a0 {x p d} (h : match isVar K x with
    | true => Q (upd σ x d)
    | false => False) : BindV K σ Q (.Name x p) d
  | a1 {x p1 y p2 kk p3 a b} (h : match isVar K x && isVar K y with
    | true => Q (upd (upd σ x a) y b)
    | false => False) : BindV K σ Q (.Tuple [.Name x p1, .Name y p2] kk p3) (.tup [a, b])
theorem bindT_view {K : List (Str × NameKind)} {σ : Sto} {Q : Sto → Prop} {t : Expr} {d : D} (h : bindT K σ t d Q) : BindV K σ Q t d := by
  cases t with
  | Name x p => exact .a0 h
  | Tuple es k p =>
    rcases es with _ | ⟨e1, _ | ⟨e2, _ | ⟨e3, es⟩⟩⟩
    · first | exact h.elim | (cases d <;> exact h.elim)
    · first | exact h.elim | (cases e1 <;> first | exact h.elim | (cases d <;> exact h.elim))
    · cases e1 with
      | Name x p1 =>
        cases e2 with
        | Name y p2 =>
          cases d with
          | tup l =>
            rcases l with _ | ⟨a, _ | ⟨b, _ | ⟨c, l⟩⟩⟩
            · exact h.elim
            · exact h.elim
            · exact .a1 h
            · exact h.elim
          | _ => exact h.elim
        | _ => first | exact h.elim | (cases d <;> exact h.elim)
      | _ => first | exact h.elim | (cases e2 <;> first | exact h.elim | (cases d <;> exact h.elim))
    · first | exact h.elim | (cases e1 <;> first | exact h.elim | (cases e2 <;> first | exact h.elim | (cases d <;> exact h.elim)))
  | _ => first | exact h.elim | (cases d <;> exact h.elim)
theorem Rel.weak {X : Cx} {σ σ' : Sto} {h : Heap} (r : Rel X σ h) (k : ∀ x d, σ'.lookup x = some d → d.undefd = false → σ.lookup x = some d) : Rel X σ' h := ⟨r.base, r.ns, fun x d e hu => r.vars x d (k x d e hu) hu, r.nin, r.cl⟩
theorem undefV_spec {σ : Sto} {x : Str} (h : undefV σ x = true) : σ.lookup x = some .undef := by
  unfold undefV at h
  split at h
  · assumption
  · cases h
section
variable {X : Cx} {σ : Sto} {s : Shared}
theorem bind_local (ok : X.Ok) (rel : Rel X σ s.heap) {t : Expr} {d : D} {v : Value} {Q : Sto → Prop} (ht : tgtLocal X.env.scope.names t = true) (hu : undefT σ t = true) (h : bindT X.env.scope.names σ t d Q) (rd : Rep X.N s.heap v d) :
    Wp X.w X.A (assign t X.env v) (fun _ s' => (∃ σ1, Q σ1 ∧ Rel X σ1 s'.heap ∧ ∀ z e, σ.lookup z = some e → e.undefd = false → σ1.lookup z = some e) ∧ Os s s' ∧ KpB [X.env.locals] s.heap s'.heap ∧ Ks X.N s.heap s'.heap) s := by
  replace h := bindT_view h
  rcases h with h | h
  · rename_i x p
    cases hv : isVar X.env.scope.names x with
    | false => rw [hv] at h; exact h.elim
    | true =>
      rw [hv] at h
      have hk : X.env.scope.names.lookup x = some .local := by simpa [tgtLocal] using ht
      refine wpAny_assign_Name (Wp.mono (store_local ok rel hk rd) ?_)
      rintro _ s' ⟨r', o, kb, ks⟩
      refine ⟨⟨_, h, r', fun z e hz hzu => ?_⟩, o, kb, ks⟩
      rw [upd_lookup]
      by_cases hzx : z = x
      · subst hzx
        rw [undefV_spec hu] at hz
        injection hz with hz
        subst hz
        cases hzu
      · rw [if_neg hzx]; exact hz
  · rename_i x p1 y p2 kk p3 a b
    cases hv : isVar X.env.scope.names x && isVar X.env.scope.names y with
    | false => rw [hv] at h; exact h.elim
    | true =>
      rw [hv] at h
      have hks : X.env.scope.names.lookup x = some .local ∧ X.env.scope.names.lookup y = some .local := by simpa [tgtLocal] using ht
      have hus : (undefV σ x = true ∧ undefV σ y = true) ∧ ¬ x = y := by simpa [undefT] using hu
      cases rd with
      | tup ha hl rs =>
        cases rs with
        | cons r1 rs =>
          cases rs with
          | cons r2 rs =>
            cases rs
            rename_i T v1 v2
            refine wpAny_assign_Tuple ok.hd hl rfl rfl fun h' ex => ?_
            have kp : Kp s.heap h' := fun b o e => ex b o (Nat.ne_of_lt (Heap.lt_size e)) e
            have rel1 : Rel X σ ({ s with heap := h' } : Shared).heap := rel.kp kp
            show Wp X.w X.A (assignInOrder [assign (.Name x p1) X.env, assign (.Name y p2) X.env] [v1, v2]) _ _
            unfold assignInOrder
            refine wpAny_bind (wpAny_holding (wpAny_assign_Name (Wp.mono (store_local ok rel1 hks.1 (r1.kp kp)) ?_)))
            rintro _ s2 ⟨rel2, o2, kb2, ks2⟩
            unfold assignInOrder
            refine wpAny_bind (wpAny_holding (wpAny_assign_Name (Wp.mono (store_local ok rel2 hks.2 ((r2.kp kp).ks ks2)) ?_)))
            rintro _ s3 ⟨rel3, o3, kb3, ks3⟩
            unfold assignInOrder
            refine wpAny_pure ⟨⟨_, h, rel3, fun z e hz hzu => ?_⟩, Os.trans (Os.trans (os_of (h' := h') (tk := s.toks)) o2) o3, (kp.kpB.trans kb2).trans kb3, ?_⟩
            · rw [upd_lookup, upd_lookup]
              have hzx : z ≠ x := by
                rintro rfl
                rw [undefV_spec hus.1.1] at hz
                injection hz with hz
                subst hz
                cases hzu
              have hzy : z ≠ y := by
                rintro rfl
                rw [undefV_spec hus.1.2] at hz
                injection hz with hz
                subst hz
                cases hzu
              rw [if_neg hzy, if_neg hzx]; exact hz
            · exact fun b o hb hs he => ks3 b o hb hs (ks2 b o hb hs (kp b o he))
/-! the cells that a comprehension sees -/
theorem closure_ok {env : Env} : ∀ (names : List (Str × NameKind)), (∀ n ∈ names, n.2 = .free → ∃ c, env.cells.lookup n.1 = some c) → ∀ cs : List (Str × Addr), (∀ p ∈ cs, env.cells.lookup p.1 = some p.2) →
    ∃ cl : List (Str × Addr), (forIn names cs fun x __s => (do
        if (x.2 == NameKind.free) = true then do
            let a ← cellOf env x.1
            pure (ForInStep.yield ((x.1, a) :: __s))
          else pure (ForInStep.yield __s) : Sem (ForInStep (List (Str × Addr))))) = pure cl ∧ (∀ p ∈ cl, env.cells.lookup p.1 = some p.2) ∧ (∀ p ∈ cs, p ∈ cl) ∧ ∀ n ∈ names, n.2 = .free → ∃ c, (n.1, c) ∈ cl
  | [], h, cs, hcs => ⟨cs, by simp [List.forIn_nil], hcs, fun p hp => hp, fun n hn => by cases hn⟩
  | (n, k) :: names, h, cs, hcs => by
    rw [List.forIn_cons]
    cases hk : (k == NameKind.free) with
    | false =>
      obtain ⟨cl, e, h1, h2, h3⟩ := closure_ok names (fun m hm => h m (.tail _ hm)) cs hcs
      refine ⟨cl, ?_, h1, h2, ?_⟩
      · simp only [hk, Bool.false_eq_true, if_false, pure_bind]
        exact e
      · intro m hm hf
        rcases List.mem_cons.mp hm with rfl | hm
        · have hf' : k = .free := hf
          subst hf'
          cases hk
        · exact h3 m hm hf
    | true =>
      have hkf : k = .free := by simpa using hk
      obtain ⟨c, hc⟩ := h (n, k) (.head _) hkf
      obtain ⟨cl, e, h1, h2, h3⟩ := closure_ok names (fun m hm => h m (.tail _ hm)) ((n, c) :: cs) (fun p hp => by
        rcases List.mem_cons.mp hp with rfl | hp
        · exact hc
        · exact hcs p hp)
      refine ⟨cl, ?_, h1, fun p hp => h2 p (.tail _ hp), ?_⟩
      · have : cellOf env n = pure c := by unfold cellOf; simp only [show env.cells.lookup n = some c from hc]
        simp only [hk, if_true, this, pure_bind]
        exact e
      · intro m hm hf
        rcases List.mem_cons.mp hm with rfl | hm
        · exact ⟨c, h2 _ (.head _)⟩
        · exact h3 m hm hf
theorem mem_lookup {α : Type} {x : Str} {c : α} : ∀ {l : List (Str × α)}, (x, c) ∈ l → ∃ c', l.lookup x = some c' ∧ (x, c') ∈ l
  | (y, d) :: r, h => by
    by_cases hxy : x = y
    · subst hxy
      exact ⟨d, by simp, .head _⟩
    · rcases List.mem_cons.mp h with e | h
      · injection e with e _; exact (hxy e).elim
      · obtain ⟨c', h1, h2⟩ := mem_lookup h
        have : (x == y) = false := by simpa using hxy
        exact ⟨c', by simp [List.lookup_cons, this, h1], .tail _ h2⟩
theorem lookup_mem {α : Type} {x : Str} {c : α} : ∀ {l : List (Str × α)}, l.lookup x = some c → (x, c) ∈ l
  | [], h => by cases h
  | (y, d) :: r, h => by
    by_cases hxy : x = y
    · subst hxy
      simp at h; subst h; exact .head _
    · have : (x == y) = false := by simpa using hxy
      rw [List.lookup_cons, this] at h
      exact .tail _ (lookup_mem h)
theorem closure_for {env : Env} {scope : Scope} (h : ∀ n ∈ scope.names, n.2 = .free → ∃ c, env.cells.lookup n.1 = some c) :
    ∃ cl, closureFor scope env = pure cl ∧ (∀ n ∈ scope.names, n.2 = .free → cl.lookup n.1 = env.cells.lookup n.1) ∧ ∀ x c, cl.lookup x = some c → env.cells.lookup x = some c := by
  obtain ⟨cl, e, h1, _, h3⟩ := closure_ok scope.names h [] (fun p hp => by cases hp)
  refine ⟨cl, ?_, fun n hn hf => ?_, fun x c hx => h1 (x, c) (lookup_mem hx)⟩
  · unfold closureFor
    show (forIn scope.names ([] : List (Str × Addr)) _ >>= _) = _
    have e2 : (forIn scope.names ([] : List (Str × Addr)) fun x __s => (match x with
        | (name, kind) => if (kind == NameKind.free) = true then do
            let a ← cellOf env name
            pure (ForInStep.yield ((name, a) :: __s))
          else pure (ForInStep.yield __s) : Sem (ForInStep (List (Str × Addr))))) = pure cl := e
    rw [e2]
    rfl
  · obtain ⟨c, hc⟩ := h3 n hn hf
    obtain ⟨c', h4, h5⟩ := mem_lookup hc
    rw [h4, h1 _ h5]
end
end
section
theorem lookup_map_kind (f : Str → NameKind → NameKind) : ∀ (l : List (Str × NameKind)) (x : Str), (l.map fun p => (p.1, f p.1 p.2)).lookup x = (l.lookup x).map (f x)
  | [], x => rfl
  | (n, k) :: r, x => by
    rw [List.map_cons, List.lookup_cons, List.lookup_cons, lookup_map_kind f r x]
    by_cases h : x = n
    · subst h; simp
    · have : (x == n) = false := by simpa using h
      simp [this]
theorem relK_eq (scope : Scope) (K : List (Str × NameKind)) : relK scope K = scope.names.map fun p => (p.1, if (p.2 == .free && K.lookup p.1 == some .cell) then .cell else p.2) := by
  unfold relK
  apply List.map_congr_left
  rintro ⟨n, k⟩ _
  dsimp only
  split <;> simp_all
theorem relK_lookup (scope : Scope) (K : List (Str × NameKind)) (x : Str) : (relK scope K).lookup x = (scope.names.lookup x).map fun k => if (k == .free && K.lookup x == some .cell) then .cell else k := by
  rw [relK_eq]
  exact lookup_map_kind (fun n k => if (k == .free && K.lookup n == some .cell) then .cell else k) scope.names x
structure ScOk (scope : Scope) (K : List (Str × NameKind)) : Prop where
  kind : scope.kind = .function
  nocell : ∀ x ∈ scope.names, x.2 ≠ .cell
  loc : ∀ x ∈ scope.names, x.2 = .local → scope.names.lookup x.1 = some .local
  free : ∀ x ∈ scope.names, x.2 = .free → K.lookup x.1 = some .cell ∧ scope.names.lookup x.1 = some .free
theorem scOk_spec {scope : Scope} {K : List (Str × NameKind)} (h : scOk scope K = true) : ScOk scope K := by
  unfold scOk at h
  rw [Bool.and_eq_true, beq_iff_eq, List.all_eq_true] at h
  refine ⟨h.1, ?_, ?_, ?_⟩
  · rintro ⟨n, k⟩ hm hk
    have := h.2 _ hm
    dsimp only at hk this
    subst hk
    cases this
  · rintro ⟨n, k⟩ hm hk
    have := h.2 _ hm
    dsimp only at hk this
    subst hk
    simpa using this
  · rintro ⟨n, k⟩ hm hk
    have := h.2 _ hm
    dsimp only at hk this
    subst hk
    simpa using this
theorem compSto_mem {σ : Sto} {x : Str} {d : D} : ∀ {K : List (Str × NameKind)}, (compSto σ K).lookup x = some d → d.undefd = false → (x, NameKind.cell) ∈ K ∧ σ.lookup x = some d
  | [], h, _ => by cases h
  | (n, k) :: r, h, hu => by
    unfold compSto at h
    cases k with
    | «local» =>
      simp only at h
      by_cases hx : x = n
      · subst hx
        simp at h
        subst h
        cases hu
      · have : (x == n) = false := by simpa using hx
        rw [List.lookup_cons, this] at h
        exact ⟨.tail _ (compSto_mem h hu).1, (compSto_mem h hu).2⟩
    | cell =>
      simp only at h
      by_cases hx : x = n
      · subst hx
        simp only [List.lookup_cons, beq_self_eq_true] at h
        injection h with h
        cases hs : σ.lookup x with
        | none => rw [hs] at h; simp only [Option.getD_none] at h; subst h; cases hu
        | some e => rw [hs] at h; simp only [Option.getD_some] at h; subst h; exact ⟨.head _, rfl⟩
      · have : (x == n) = false := by simpa using hx
        rw [List.lookup_cons, this] at h
        exact ⟨.tail _ (compSto_mem h hu).1, (compSto_mem h hu).2⟩
    | free => simp only at h; exact ⟨.tail _ (compSto_mem h hu).1, (compSto_mem h hu).2⟩
    | globalExplicit => simp only at h; exact ⟨.tail _ (compSto_mem h hu).1, (compSto_mem h hu).2⟩
    | globalImplicit => simp only at h; exact ⟨.tail _ (compSto_mem h hu).1, (compSto_mem h hu).2⟩
/-- the block of a comprehension -/
noncomputable def compX (X : Cx) (scope : Scope) (cl : List (Str × Addr)) (C Da : Addr) (h0 : Heap) : Cx := ⟨X.w, X.A, compEnvC scope cl C X.env, Da :: X.N, h0⟩
section
variable {X : Cx} {σ : Sto} {s : Shared}
theorem relabel_names (ok : X.Ok) (scope : Scope) : (relabel scope X.env).names = relK scope X.env.scope.names := by
  unfold relabel relK
  apply List.map_congr_left
  rintro ⟨n, k⟩ _
  have : (X.env.scope.kind == ScopeKind.function) = true := by rw [ok.kind]; rfl
  simp only [this, Bool.and_true]
  rfl
theorem compX_ok (ok : X.Ok) {scope : Scope} {cl : List (Str × Addr)} {C Da : Addr} {h0 : Heap} (sc : ScOk scope X.env.scope.names) (hcl : ∀ n ∈ scope.names, n.2 = .free → cl.lookup n.1 = X.env.cells.lookup n.1) (g : Gl X.w h0) (hC : h0.get? C = none) : (compX X scope cl C Da h0).Ok where
  kind := sc.kind
  gl := ok.gl
  bl := ok.bl
  glob := g
  fresh := hC
  hd := ok.hd
  units := ok.units
  cells := fun x hx => by
    have hx' : (relabel scope X.env).names.lookup x = some .cell := hx
    rw [relabel_names ok, relK_lookup] at hx'
    cases hl : scope.names.lookup x with
    | none => rw [hl] at hx'; cases hx'
    | some k =>
      rw [hl] at hx'
      simp only [Option.map_some, Option.some.injEq] at hx'
      have hm : (x, k) ∈ scope.names := by
        have key : ∀ l : List (Str × NameKind), l.lookup x = some k → (x, k) ∈ l := by
          intro l
          induction l with
          | nil => intro h; cases h
          | cons p r ih =>
            obtain ⟨n, k2⟩ := p
            intro h
            by_cases hxn : x = n
            · subst hxn
              simp at h; subst h; exact .head _
            · have : (x == n) = false := by simpa using hxn
              rw [List.lookup_cons, this] at h
              exact .tail _ (ih h)
        exact key _ hl
      split at hx'
      · rename_i hc
        simp only [Bool.and_eq_true, beq_iff_eq] at hc
        obtain ⟨c, hc2⟩ := ok.cells x hc.2
        exact ⟨c, by show cl.lookup x = _; rw [hcl _ hm hc.1]; exact hc2⟩
      · subst hx'
        exact (sc.nocell _ hm rfl).elim
theorem compX_rel (ok : X.Ok) {scope : Scope} {cl : List (Str × Addr)} {C Da : Addr} {h0 : Heap} (sc : ScOk scope X.env.scope.names) (hcl : ∀ n ∈ scope.names, n.2 = .free → cl.lookup n.1 = X.env.cells.lookup n.1) (hcb : ∀ x c, cl.lookup x = some c → X.env.cells.lookup x = some c)
    {s s' : Shared} (rel : Rel X σ s.heap) (k0 : Kp s.heap h0) (hD : h0.get? Da = none) (k : Kp h0 s'.heap) (hDl : ∃ o, s'.heap.get? Da = some o) {m : Str → Option Value} (hn : s'.heap.Ns C m) :
    Rel (compX X scope cl C Da h0) (compSto σ (relK scope X.env.scope.names)) s'.heap where
  base := k
  ns := ⟨m, hn⟩
  vars := fun x d hx hu => by
    obtain ⟨hm, hs⟩ := compSto_mem hx hu
    rw [relK_eq] at hm
    obtain ⟨⟨n, k1⟩, hm1, he⟩ := List.mem_map.mp hm
    dsimp only at he
    injection he with he1 he2
    subst he1
    split at he2
    · rename_i hc
      simp only [Bool.and_eq_true, beq_iff_eq] at hc
      obtain ⟨v, hv, hr⟩ := rel.vars n d hs hu
      have kk : Kp s.heap s'.heap := k0.trans k
      rcases hv with ⟨a, _⟩ | ⟨a, c, e2, hcell⟩
      · have : X.env.scope.names.lookup n = some .local := a
        rw [hc.2] at this; cases this
      · refine ⟨v, .inr ⟨?_, c, ?_, ?_⟩, ?_⟩
        · show (relabel scope X.env).names.lookup n = some .cell
          rw [relabel_names ok, relK_lookup, (sc.free _ hm1 hc.1).2]
          simp [hc.2]
        · show cl.lookup n = some c
          rw [hcl _ hm1 hc.1]; exact e2
        · obtain ⟨o, ho, hd⟩ := hcell
          exact ⟨o, kk _ _ ho, hd⟩
        · refine hr.mono (fun a ha => ?_) kk.ks
          rcases List.mem_cons.mp ha with rfl | ha
          · exact .inr (kp_none k0 hD)
          · exact .inl ha
    · subst he2
      exact (sc.nocell _ hm1 rfl).elim
  nin := fun a ha => by
    rcases List.mem_cons.mp ha with rfl | ha
    · exact hDl
    · obtain ⟨o, ho⟩ := rel.nin a ha
      exact ⟨o, k _ _ (k0 _ _ ho)⟩
  cl := fun x c hx => let ⟨o, ho⟩ := rel.cl x c (hcb x c hx); ⟨o, k _ _ (k0 _ _ ho)⟩
end
end
section
noncomputable def Acc (X : Cx) (Da : Addr) (l : List D) (h : Heap) : Prop := ∃ vs, h.IsList Da vs.toArray ∧ Reps X.N h vs l
/-- what one item asks -/
noncomputable def itemS (R : Ev) (K : List (Str × NameKind)) (ifs : List Expr) (body : Sto → (List D → Prop) → Prop) (σ1 : Sto) (cont : List D → Prop) : Prop :=
  match ifs with
  | [] => body σ1 cont
  | [c] => R.ts K σ1 c fun ok => (ok = true → body σ1 cont) ∧ (ok = false → cont [])
  | _ => False
theorem loopW_cons {R : Ev} {K : List (Str × NameKind)} {σ : Sto} {t : Expr} {ifs : List Expr} {body : Sto → (List D → Prop) → Prop} {d : D} {ds : List D} {Q : List D → Prop} (h : loopW R K σ t ifs body (d :: ds) Q) :
    undefT σ t = true ∧ tgtLocal K t = true ∧ bindT K σ t d fun σ1 => itemS R K ifs body σ1 fun rs => loopW R K σ t ifs body ds fun rs' => Q (rs ++ rs') := by
  unfold loopW at h
  cases hu : undefT σ t && tgtLocal K t with
  | false => rw [hu] at h; exact h.elim
  | true =>
    rw [hu] at h
    rw [Bool.and_eq_true] at hu
    exact ⟨hu.1, hu.2, h⟩
theorem Rel.wr {X : Cx} {σ : Sto} {h h' : Heap} {wr : List Addr} (rel : Rel X σ h) (kb : KpB wr h h') (ks : Ks X.N h h') (h0 : ∀ b ∈ wr, X.h0.get? b = none) (hL : X.env.locals ∉ wr)
    (hc : ∀ x c, X.env.cells.lookup x = some c → c ∉ wr) (hN : ∀ a ∈ X.N, a ∉ wr) : Rel X σ h' where
  base := fun b o e => kb b o (fun hm => by rw [h0 b hm] at e; cases e) (rel.base b o e)
  ns := let ⟨m, o, es, ep, e, q⟩ := rel.ns; ⟨m, o, es, ep, kb _ _ hL e, q⟩
  vars := fun x d hx hu => by
    obtain ⟨v, hv, hr⟩ := rel.vars x d hx hu
    refine ⟨v, ?_, hr.ks ks⟩
    rcases hv with ⟨a, m, ⟨o, es, ep, e, q⟩, e2⟩ | ⟨a, c, e2, o, ho, hd⟩
    · exact .inl ⟨a, m, ⟨o, es, ep, kb _ _ hL e, q⟩, e2⟩
    · exact .inr ⟨a, c, e2, o, kb _ _ (hc x c e2) ho, hd⟩
  nin := fun a ha => let ⟨o, e⟩ := rel.nin a ha; ⟨o, kb _ _ (hN a ha) e⟩
  cl := fun x c hx => let ⟨o, e⟩ := rel.cl x c hx; ⟨o, kb _ _ (hc x c hx) e⟩
section
variable {w : World} {R : Ev} {X : Cx} {σ : Sto}
theorem loop_gen (ok : X.Ok) (hw : X.w = w) {elt : Expr} {gens : List Comprehension} {scope : Scope} {pos : Pos} {t : Expr} {depth : Nat} {I acc : Value} {wr : List Addr} {St : List D → Heap → Prop} {Da : Addr} {ifs : List Expr} {body : Sto → (List D → Prop) → Prop} {p : Pos} {TT : Sem PySem.Fin} (M B : Nat)
    (it : Itr w X.A X.N t I wr St) (hwr : ∀ b ∈ wr, b ≠ X.env.locals ∧ b ≠ Da) (hw0 : ∀ b ∈ wr, X.h0.get? b = none) (hwc : ∀ x c, X.env.cells.lookup x = some c → c ∉ wr) (hwN : ∀ a ∈ X.N, a ∉ wr) (hDL : Da ≠ X.env.locals)
    (hturn : compTurn (.ListComp elt gens scope pos) depth I acc X.env = (standAt p >>= fun _ => pyNext I >>= fun r => match r with
      | none => pure (.done .next)
      | some v => letOwnedTupleGo t I v >>= fun _ => assign t X.env v >>= fun _ => TT))
    (hTT : ∀ σ1 s1 pre cont, Rel X σ1 s1.heap → Acc X Da pre s1.heap → pre.length + M ≤ B → itemS R X.env.scope.names ifs body σ1 cont →
      Wp w X.A TT (fun fin s2 => fin = .again (.compLoop (.ListComp elt gens scope pos) depth I acc X.env) ∧ ∃ rs, cont rs ∧ rs.length ≤ M ∧ Os s1 s2 ∧ Rel X σ1 s2.heap ∧ Acc X Da (pre ++ rs) s2.heap ∧ KpB [X.env.locals, Da] s1.heap s2.heap ∧ Ks X.N s1.heap s2.heap) s1) :
    ∀ (l : List D) (s : Shared) (pre : List D) (Q : List D → Prop) (RR : Result → Shared → Prop), loopW R X.env.scope.names σ t ifs body l Q → St l s.heap → Rel X σ s.heap → Acc X Da pre s.heap → pre.length + M * l.length ≤ B →
      (∀ s' rs, Q rs → rs.length ≤ M * l.length → Os s s' → Rel X σ s'.heap → Acc X Da (pre ++ rs) s'.heap → KpB (X.env.locals :: Da :: wr) s.heap s'.heap → RR (.ok .next) s') →
      codeAny (model pw w) X.A (.compLoop (.ListComp elt gens scope pos) depth I acc X.env) RR s := by
  subst hw
  have accKs : ∀ {pre : List D} {h h' : Heap} {ws : List Addr}, Acc X Da pre h → KpB ws h h' → Da ∉ ws → Ks X.N h h' → Acc X Da pre h' := by
    rintro pre h h' ws ⟨vs, ⟨o, ho, q⟩, hr⟩ k hm ks
    exact ⟨vs, ⟨o, k _ _ hm ho, q⟩, hr.ks ks⟩
  have hLw : X.env.locals ∉ wr := fun hm => (hwr _ hm).1 rfl
  intro l
  induction l with
  | nil =>
    intro s pre Q RR h hst rel hacc hB hR
    refine codeAny_of_tree ?_
    show wpAny _ _ ((compTurn (.ListComp elt gens scope pos) depth I acc X.env).onRaise (fun x => do noteFrame x X.env; theTreesLotGoes x)) _ _ s
    refine wpAny_noted ?_
    rw [hturn]
    refine wpAny_bind (wpAny_standAt (wpAny_bind (Wp.any (it.nil hst fun h' tk kb ks => wpAny_pure ?_))))
    refine hR _ [] h (Nat.zero_le _) os_of ?_ ?_ ?_
    · exact rel.wr kb ks hw0 hLw hwc hwN
    · rw [List.append_nil]
      exact accKs hacc kb (fun hm => (hwr _ hm).2 rfl) ks
    · exact fun b o hb => kb b o (fun hm => hb (.tail _ (.tail _ hm)))
  | cons d l ih =>
    intro s pre Q RR h hst rel hacc hB hR
    obtain ⟨hu, htl, hb⟩ := loopW_cons h
    refine codeAny_of_tree ?_
    show wpAny _ _ ((compTurn (.ListComp elt gens scope pos) depth I acc X.env).onRaise (fun x => do noteFrame x X.env; theTreesLotGoes x)) _ _ s
    refine wpAny_noted ?_
    rw [hturn]
    refine wpAny_bind (wpAny_standAt (wpAny_bind (Wp.any (Wp.mono (it.cons (Q := fun v s2 => Wp X.w X.A (assign t X.env v >>= fun _ => TT) (fun fin s3 => match fin with
      | .done f => RR (.ok f) s3
      | .again c => c.quiet = true ∧ codeAny (model pw X.w) X.A c RR s3) s2) rel.nin hst fun v h1 tk1 rd st1 kb1 ks1 => ?_) ?_))))
    · have rel1 : Rel X σ h1 := rel.wr kb1 ks1 hw0 hLw hwc hwN
      refine wpAny_bind (Wp.mono (bind_local (s := { s with heap := h1, toks := tk1 }) ok rel1 htl hu hb rd) ?_)
      rintro _ s2 ⟨⟨σ1, hi, rel2, hbase⟩, os2, kb2, ks2⟩
      have acc1 : Acc X Da pre h1 := accKs hacc kb1 (fun hm => (hwr _ hm).2 rfl) ks1
      have acc2 : Acc X Da pre s2.heap := accKs acc1 kb2 (by simpa using hDL) ks2
      have hB' : M * (l.length + 1) = M * l.length + M := Nat.mul_succ _ _
      rw [List.length_cons, hB'] at hB
      refine Wp.mono (hTT σ1 s2 pre _ rel2 acc2 (by omega) hi) ?_
      rintro fin s3 ⟨rfl, rs, hc, hrs, os3, rel3, acc3, kb3, ks3⟩
      have st3 : St l s3.heap := by
        refine it.frame (it.frame st1 (fun b hb o ho => kb2 b o (by simpa using (hwr b hb).1) ho) ks2) (fun b hb o ho => kb3 b o ?_ ho) ks3
        intro hm
        rcases List.mem_cons.mp hm with rfl | hm
        · exact (hwr _ hb).1 rfl
        · exact (hwr _ hb).2 (List.mem_singleton.mp hm)
      refine ⟨rfl, ih s3 (pre ++ rs) _ RR hc st3 (rel3.weak hbase) acc3 (by rw [List.length_append]; omega) fun s' rs' hq hl4 os4 rel4 acc4 kb4 => ?_⟩
      refine hR s' (rs ++ rs') hq (by rw [List.length_append, List.length_cons, hB']; omega) (Os.trans (Os.trans (os_of (h' := h1) (tk := tk1)) os2) (Os.trans os3 os4)) rel4 (by rw [← List.append_assoc]; exact acc4) ?_
      intro b o hb ho
      simp only [List.mem_cons, not_or] at hb
      have e1 := kb1 b o hb.2.2 ho
      have e2 := kb2 b o (by simpa using hb.1) e1
      have e3 := kb3 b o (by simp [hb.1, hb.2.1]) e2
      exact kb4 b o (by simp [hb.1, hb.2.1, hb.2.2]) e3
    · rintro r s1 ⟨v, rfl, hg⟩
      exact wpAny_bind (Wp.any (Wp.mono hg fun _ s2 q => Wp.any q))
end
end
section
section
variable {r : Nat} {w : World} {R : Ev} {X : Cx} {σ : Sto} {s : Shared} {G : Gt}
theorem tests_ok (H : EvOk r w R) (ok : X.Ok) (hr : Room r X.A) (hw : X.w = w) {ifs : List Expr} {body : Sto → (List D → Prop) → Prop} {σ1 : Sto} {cont : List D → Prop} (rel : Rel X σ1 s.heap) (h : itemS R X.env.scope.names ifs body σ1 cont) :
    Wp w X.A (forIn ifs true fun c r => if r = true then do let ok ← isTrue c X.env (eval c X.env); pure (ForInStep.yield ok) else pure (ForInStep.yield r))
      (fun ok s2 => Keeps s s2 ∧ ((ok = true → body σ1 cont) ∧ (ok = false → cont []))) s := by
  unfold itemS at h
  split at h
  · exact wpAny_tests_nil ⟨keeps_refl, fun _ => h, fun e => by cases e⟩
  · exact wpAny_tests_one (Wp.mono (H.ts ok hr hw h rel) fun c s2 ⟨q, k⟩ => ⟨k, q⟩)
  · exact h.elim
theorem Keeps.ks {N : List Addr} {s s' : Shared} (k : Keeps s s') : Ks N s.heap s'.heap := (Keeps.kp k).ks
theorem Acc.keeps {Da : Addr} {l : List D} {s s' : Shared} (a : Acc X Da l s.heap) (k : Keeps s s') : Acc X Da l s'.heap := by
  obtain ⟨vs, ⟨o, ho, q⟩, hr⟩ := a
  exact ⟨vs, ⟨o, Keeps.kp k _ _ ho, q⟩, hr.kp (Keeps.kp k)⟩
/-- one more into the list that grows -/
theorem append_acc (ok : X.Ok) (rel : Rel X σ s.heap) {Da : Addr} {pre : List D} {v : Value} {d : D} (hD : Da ∈ X.N) (hDL : Da ≠ X.env.locals) (h0 : X.h0.get? Da = none) (acc : Acc X Da pre s.heap) (hB : pre.length ≤ sizeLine) (rd : Rep X.N s.heap v d) {Q : Value → Shared → Prop}
    (hQ : ∀ v' s', Os s s' → Rel X σ s'.heap → Acc X Da (pre ++ [d]) s'.heap → KpB [X.env.locals, Da] s.heap s'.heap → Ks X.N s.heap s'.heap → Q v' s') : Wp X.w X.A (call (.builtin "list.append") [.ref Da, v]) Q s := by
  obtain ⟨vs, hl, hr⟩ := acc
  refine wpAny_list_append hl (fun h' hl' sb => ?_) (by rw [List.size_toArray, hr.length]; exact hB)
  have kb : KpB [Da] s.heap h' := fun b o hb e => by rw [sb.2 b (by simpa using hb)]; exact e
  have ks : Ks X.N s.heap h' := fun b o hb _ e => kb b o (fun hm => hb (by rw [List.mem_singleton.mp hm]; exact hD)) e
  refine hQ _ _ os_of ?_ ⟨vs ++ [v], by simpa using hl', (hr.snoc rd).ks ks⟩ (fun b o hb e => kb b o (by simp at hb; simp [hb.2]) e) ks
  refine ⟨fun b o e => kb b o (by
      intro hm
      rw [List.mem_singleton.mp hm, h0] at e; cases e) (rel.base b o e), ?_, ?_, ?_, ?_⟩
  · obtain ⟨m, o, es, ep, e, q⟩ := rel.ns
    exact ⟨m, o, es, ep, kb _ _ (by simpa using hDL.symm) e, q⟩
  · intro x d' hx hu
    obtain ⟨v', hv, hr'⟩ := rel.vars x d' hx hu
    refine ⟨v', ?_, hr'.ks ks⟩
    rcases hv with ⟨a, m, ⟨o, es, ep, e, q⟩, e2⟩ | ⟨a, c, e2, o, ho, hd⟩
    · exact .inl ⟨a, m, ⟨o, es, ep, kb _ _ (by simpa using hDL.symm) e, q⟩, e2⟩
    · refine .inr ⟨a, c, e2, o, kb _ _ ?_ ho, hd⟩
      intro hm
      obtain ⟨ol, hol, _, nl, hdl⟩ := hl
      rw [List.mem_singleton.mp hm, hol] at ho
      injection ho with ho
      rw [ho, hd] at hdl
      cases hdl
  · intro a ha
    by_cases hb : a = Da
    · obtain ⟨o, ho, _⟩ := hl'
      exact ⟨o, hb ▸ ho⟩
    · obtain ⟨o, ho⟩ := rel.nin a ha
      exact ⟨o, kb _ _ (by simpa using hb) ho⟩
  · intro x a ha
    by_cases hb : a = Da
    · obtain ⟨o, ho, _⟩ := hl'
      exact ⟨o, hb ▸ ho⟩
    · obtain ⟨o, ho⟩ := rel.cl x a ha
      exact ⟨o, kb _ _ (by simpa using hb) ho⟩
/-- the value is put at the end -/
theorem emit_ok (H : EvOk r w R) (ok : X.Ok) (hr : Room r X.A) (hw : X.w = w) {elt : Expr} {σ1 : Sto} {cont : List D → Prop} (rel : Rel X σ1 s.heap) {Da : Addr} {pre : List D} (hD : Da ∈ X.N) (hDL : Da ≠ X.env.locals) (h0 : X.h0.get? Da = none) (acc : Acc X Da pre s.heap) (hB : pre.length ≤ sizeLine)
    (h : R.ev X.env.scope.names σ1 elt fun d => cont [d]) {P : Unit → Shared → Prop} (hP : ∀ rs s', cont rs → rs.length ≤ 1 → Os s s' → Rel X σ1 s'.heap → Acc X Da (pre ++ rs) s'.heap → KpB [X.env.locals, Da] s.heap s'.heap → Ks X.N s.heap s'.heap → P () s') :
    Wp w X.A (do let _ ← call (.builtin "list.append") [.ref Da, ← eval elt X.env]) P s := by
  refine wpAny_bind (Wp.mono (H.ev ok hr hw h rel) ?_)
  rintro v s1 ⟨d, rd, hc, k⟩
  subst hw
  refine wpAny_bind (append_acc ok (rel.keeps k) hD hDL h0 (acc.keeps k) hB rd fun v' s2 os rel2 acc2 kb ks => wpAny_pure ?_)
  exact hP [d] s2 hc (Nat.le_refl _) (Os.trans (Keeps.os k) os) rel2 acc2 ((Keeps.kp k).kpB.trans kb) fun b o hb hs e => ks b o hb hs (Keeps.kp k b o e)
noncomputable def TT1 (elt t iter : Expr) (ifs : List Expr) (scope : Scope) (pos : Pos) (I acc : Value) (env : Env) : Sem PySem.Fin := do
  let mut ok := true
  for c in ifs do
    if ok then ok ← isTrue c env (eval c env)
  if ok then
    (do let _ ← call (.builtin "list.append") [acc, ← eval elt env])
  again (.compLoop (.ListComp elt [⟨t, iter, ifs, 0⟩] scope pos) 0 I acc env)
theorem turn1 (elt t iter : Expr) (ifs : List Expr) (scope : Scope) (pos : Pos) (I acc : Value) (env : Env) :
    compTurn (.ListComp elt [⟨t, iter, ifs, 0⟩] scope pos) 0 I acc env = (standAt iter.pos >>= fun _ => pyNext I >>= fun r => match r with
      | none => pure (.done .next)
      | some v => letOwnedTupleGo t I v >>= fun _ => assign t env v >>= fun _ => TT1 elt t iter ifs scope pos I acc env) := by rfl
theorem TT1_ok (H : EvOk r w R) (ok : X.Ok) (hr : Room r X.A) (hw : X.w = w) {elt t iter : Expr} {ifs : List Expr} {scope : Scope} {pos : Pos} {I : Value} {Da : Addr} (hD : Da ∈ X.N) (hDL : Da ≠ X.env.locals) (h0 : X.h0.get? Da = none) {B : Nat} (hBs : B ≤ sizeLine)
    (σ1 : Sto) (s1 : Shared) (pre : List D) (cont : List D → Prop) (rel : Rel X σ1 s1.heap) (acc : Acc X Da pre s1.heap) (hB : pre.length + 1 ≤ B) (h : itemS R X.env.scope.names ifs (fun σ1 Q => R.ev X.env.scope.names σ1 elt fun r => Q [r]) σ1 cont) :
    Wp w X.A (TT1 elt t iter ifs scope pos I (.ref Da) X.env) (fun fin s2 => fin = .again (.compLoop (.ListComp elt [⟨t, iter, ifs, 0⟩] scope pos) 0 I (.ref Da) X.env) ∧ ∃ rs, cont rs ∧ rs.length ≤ 1 ∧ Os s1 s2 ∧ Rel X σ1 s2.heap ∧ Acc X Da (pre ++ rs) s2.heap ∧ KpB [X.env.locals, Da] s1.heap s2.heap ∧ Ks X.N s1.heap s2.heap) s1 := by
  unfold TT1
  refine wpAny_bind (Wp.mono (tests_ok H ok hr hw rel h) ?_)
  rintro c s2 ⟨k, hc⟩
  cases c with
  | false => exact wpAny_pure ⟨rfl, [], hc.2 rfl, Nat.zero_le _, Keeps.os k, rel.keeps k, by rw [List.append_nil]; exact acc.keeps k, (Keeps.kp k).kpB, Keeps.ks k⟩
  | true =>
    refine wpAny_bind (emit_ok H ok hr hw (rel.keeps k) hD hDL h0 (acc.keeps k) (by omega) (hc.1 rfl) fun rs s3 hcr hl os rel3 acc3 kb ks => ?_)
    exact wpAny_pure ⟨rfl, rs, hcr, hl, Os.trans (Keeps.os k) os, rel3, acc3, (Keeps.kp k).kpB.trans kb, fun b o hb hs e => ks b o hb hs (Keeps.kp k b o e)⟩
end
end
section
/-- what a comprehension's loop is given -/
structure LoopIn (X : Cx) (X' : Cx) (σ' : Sto) (s4 : Shared) (Da : Addr) (t : Expr) (l : List D) (I : Value) (wr : List Addr) (St : List D → Heap → Prop) : Prop where
  ok : X'.Ok
  w : X'.w = X.w
  A : X'.A = X.A
  it : Itr X'.w X'.A X'.N t I wr St
  st : St l s4.heap
  rel : Rel X' σ' s4.heap
  acc : Acc X' Da [] s4.heap
  DN : Da ∈ X'.N
  DL : Da ≠ X'.env.locals
  D0 : X'.h0.get? Da = none
  wr1 : ∀ b ∈ wr, b ≠ X'.env.locals ∧ b ≠ Da
  wr0 : ∀ b ∈ wr, X'.h0.get? b = none
  wrc : ∀ x c, X'.env.cells.lookup x = some c → c ∉ wr
  wrN : ∀ a ∈ X'.N, a ∉ wr
section
variable {r : Nat} {w : World} {R : Ev} {X : Cx} {σ : Sto} {s : Shared} {G : Gt}
theorem comp_core (H : EvOk r w R) (ok : X.Ok) (hr : Room r X.A) (hw : X.w = w) (rel : Rel X σ s.heap) {elt t iter : Expr} {ifs : List Expr} {rest : List Comprehension} {scope : Scope} {pos : Pos} (hsc : scOk scope X.env.scope.names = true)
    {LP : List D → Prop} (h : itW R X.env.scope.names σ t iter LP) {Q : List D → Prop}
    (hloop : ∀ l, LP l → ∀ X' s4 Da I wr St, X'.env.scope.names = relK scope X.env.scope.names → LoopIn X X' (compSto σ (relK scope X.env.scope.names)) s4 Da t l I wr St → ∀ RR : Result → Shared → Prop,
      (∀ s' rs, Q rs → Os s4 s' → Acc X' Da rs s'.heap → Rel X' (compSto σ (relK scope X.env.scope.names)) s'.heap → KpB (X'.env.locals :: Da :: wr) s4.heap s'.heap → RR (.ok .next) s') →
      codeAny (model pw w) X.A (.compLoop (.ListComp elt (⟨t, iter, ifs, 0⟩ :: rest) scope pos) 0 I (.ref Da) X'.env) RR s4)
    {RR : Value → Addr → Result → Shared → Prop}
    (hRR : ∀ Da C s' rs, Q rs → Keeps s s' → Rep X.N s'.heap (.ref Da) (.lst rs) → s.heap.get? Da = none → s.heap.get? C = none → Da ≠ C → (∃ m, s'.heap.Ns C m) → RR (.ref Da) C (.ok .next) s') :
    (∃ cl, closureFor scope X.env = pure cl ∧ wpAny (model pw w) X.A (eval iter X.env) (fun x s₁ => wpAny (model pw w) X.A (pyIter x) (fun it s₂ => wpAny (model pw w) X.A (newList []) (fun acc s₃ =>
      wpAny (model pw w) X.A (newFunctionEnv scope X.env.globals cl [] X.env.qual none .none (some X.env)) (fun cenv s₄ =>
        codeAny (model pw w) X.A (.compStart (.ListComp elt (⟨t, iter, ifs, 0⟩ :: rest) scope pos) 0 it acc { cenv with scope := relabel scope X.env }) (RR acc cenv.locals) s₄) (fun _ _ => False) s₃) (fun _ _ => False) s₂) (fun _ _ => False) s₁) (fun _ _ => False) s) ∧ notSet iter = true := by
  subst hw
  have sc := scOk_spec hsc
  obtain ⟨cl, hcl, hclk, hcb⟩ := closure_for (env := X.env) (scope := scope) (fun n hn hf => ok.cells _ (sc.free n hn hf).1)
  obtain ⟨hns, hev⟩ := itW_ok H ok hr rfl h rel
  refine ⟨⟨cl, hcl, Wp.mono hev fun x s1 h1 => Wp.mono h1 ?_⟩, hns⟩
  rintro I s2 ⟨l, hl, kp2, wr, hfr, hlv, hit⟩
  refine wpAny_newObj_type (wpAny_newFunctionEnv sc.nocell (by intro y hy; simp at hy) (fun h₁ hns₁ hsb₁ => ?_) sc.kind)
  dsimp only at hns₁ hsb₁ ⊢
  generalize hH2 : s2.heap.push { cls := .type "list", dict := none, data := .seq ([] : List Value).toArray } = H2 at hns₁ hsb₁ ⊢
  have hC : H2.objs.size = s2.heap.objs.size + 1 := by rw [← hH2, Heap.size_push]
  have hDC : s2.heap.objs.size ≠ H2.objs.size := by rw [hC]; exact Nat.ne_of_lt (Nat.lt_succ_self _)
  have fresh2 : ∀ a, s2.heap.objs.size ≤ a → s2.heap.get? a = none := fun a ha => by
    cases e : s2.heap.get? a with
    | none => rfl
    | some o' => exact absurd (Heap.lt_size e) (Nat.not_lt.mpr ha)
  have fD2 := fresh2 _ (Nat.le_refl _)
  have fC2 : s2.heap.get? H2.objs.size = none := fresh2 _ (by rw [hC]; exact Nat.le_succ _)
  have old : Kp s2.heap h₁ := fun b o e => hsb₁.extBut b o (by rintro rfl; rw [fC2] at e; cases e) (Heap.get?_push_of_some _ (hH2 ▸ Heap.get?_push_of_some _ e))
  have k02 : Kp s.heap s2.heap := Keeps.kp kp2
  have k01 : Kp s.heap h₁ := k02.trans old
  have fD : s.heap.get? s2.heap.objs.size = none := kp_none k02 fD2
  have fC : s.heap.get? H2.objs.size = none := kp_none k02 fC2
  have hDl : h₁.get? s2.heap.objs.size = some { cls := .type "list", dict := none, data := .seq ([] : List Value).toArray } := hsb₁.extBut _ _ hDC (Heap.get?_push_of_some _ (hH2 ▸ Heap.get?_push_size _ rfl))
  obtain ⟨St, itr, st⟩ := hit (s2.heap.objs.size :: X.N) (fun a ha => by
    rcases List.mem_cons.mp ha with rfl | ha
    · exact .inr fD2
    · exact .inl ha)
  have ok' := compX_ok ok (C := H2.objs.size) (Da := s2.heap.objs.size) (h0 := s.heap) sc hclk (ok.glob.kp rel.base) fC
  have relx : Rel (compX X scope cl H2.objs.size s2.heap.objs.size s.heap) (compSto σ (relK scope X.env.scope.names)) h₁ :=
    compX_rel (s' := { s with heap := h₁ }) ok sc hclk hcb rel Kp.refl fD k01 ⟨_, hDl⟩ hns₁
  have lin : ∀ tk, LoopIn X (compX X scope cl H2.objs.size s2.heap.objs.size s.heap) (compSto σ (relK scope X.env.scope.names)) { s2 with heap := h₁, toks := tk } s2.heap.objs.size t l I wr St := fun tk =>
    { ok := ok', w := rfl, A := rfl, it := itr
      st := itr.frame st (fun b hb o ho => old b o ho) old.ks
      rel := relx
      acc := ⟨[], ⟨_, hDl, rfl, _, rfl⟩, .nil⟩
      DN := .head _
      DL := hDC
      D0 := fD
      wr1 := fun b hb => by
        obtain ⟨o, ho⟩ := hlv b hb
        refine ⟨fun e => ?_, fun e => ?_⟩
        · have e' : b = H2.objs.size := e
          rw [e', fC2] at ho; cases ho
        · rw [e, fD2] at ho; cases ho
      wr0 := hfr
      wrc := fun x c hx hm => by
        obtain ⟨o, ho⟩ := rel.cl x c (hcb x c hx)
        rw [hfr c hm] at ho; cases ho
      wrN := fun a ha hm => by
        rcases List.mem_cons.mp ha with rfl | ha
        · obtain ⟨o, ho⟩ := hlv _ hm
          rw [fD2] at ho; cases ho
        · obtain ⟨o, ho⟩ := rel.nin a ha
          rw [hfr a hm] at ho; cases ho }
  have loop : ∀ tk, codeAny (model pw X.w) X.A (.compLoop (.ListComp elt (⟨t, iter, ifs, 0⟩ :: rest) scope pos) 0 I (.ref s2.heap.objs.size) (compEnvC scope cl H2.objs.size X.env)) (RR (.ref s2.heap.objs.size) H2.objs.size) { s2 with heap := h₁, toks := tk } := by
    intro tk
    refine hloop l hl _ _ _ I wr St (relabel_names ok scope) (lin tk) _ fun s' rs hq os acc' rel' kb => ?_
    have kk : Keeps s s' := by
      obtain ⟨h', tk', g', rfl, hg'⟩ := Os.trans (Os.trans (Keeps.os kp2) (os_of : Os s2 { s2 with heap := h₁, toks := tk })) os
      exact ⟨h', tk', g', rfl, rel'.base, hg'⟩
    obtain ⟨vs, hvl, hvr⟩ := acc'
    refine hRR _ _ s' rs hq kk (.lst (fun hm => ?_) hvl (hvr.mono (fun a ha => .inl (.tail _ ha)) (Kp.ks Kp.refl))) fD fC hDC rel'.ns
    obtain ⟨o, ho⟩ := rel.nin _ hm
    rw [fD] at ho; cases ho
  exact codeAny_compStart_list (loop _) (wpAny_mono (itr.self (s := { s2 with heap := h₁, toks := s2.toks + ([] : List (Str × Value)).length }) (lin _).st (Q := fun it' s' => codeAny (model pw X.w) X.A (.compLoop (.ListComp elt (⟨t, iter, ifs, 0⟩ :: rest) scope pos) 0 it' (.ref s2.heap.objs.size) (compEnvC scope cl H2.objs.size X.env)) (RR (.ref s2.heap.objs.size) H2.objs.size) s') (loop _)) (fun _ _ q => q) fun _ _ f => f.elim)
end
end
section
section
variable {r : Nat} {w : World} {R : Ev} {X : Cx} {σ : Sto} {s : Shared} {G : Gt}
noncomputable def TT2 (elt t it t2 it2 : Expr) (scope : Scope) (pos : Pos) (I acc : Value) (env : Env) : Sem PySem.Fin := do
  let x ← eval it2 env
  standAt it2.pos
  let x ← foldedSetIterable it2 env x
  let _ ← runOwn (.compStart (.ListComp elt [⟨t, it, [], 0⟩, ⟨t2, it2, [], 0⟩] scope pos) 1 (← holding [x] (pyIter x)) acc env) env
  again (.compLoop (.ListComp elt [⟨t, it, [], 0⟩, ⟨t2, it2, [], 0⟩] scope pos) 0 I acc env)
theorem turn2 (elt t it t2 it2 : Expr) (scope : Scope) (pos : Pos) (I acc : Value) (env : Env) :
    compTurn (.ListComp elt [⟨t, it, [], 0⟩, ⟨t2, it2, [], 0⟩] scope pos) 0 I acc env = (standAt it.pos >>= fun _ => pyNext I >>= fun r => match r with
      | none => pure (.done .next)
      | some v => letOwnedTupleGo t I v >>= fun _ => assign t env v >>= fun _ => TT2 elt t it t2 it2 scope pos I acc env) := by
  rfl
noncomputable def TT3 (elt t it t2 it2 : Expr) (scope : Scope) (pos : Pos) (I acc : Value) (env : Env) : Sem PySem.Fin := do
  (do let _ ← call (.builtin "list.append") [acc, ← eval elt env])
  again (.compLoop (.ListComp elt [⟨t, it, [], 0⟩, ⟨t2, it2, [], 0⟩] scope pos) 1 I acc env)
theorem turn3 (elt t it t2 it2 : Expr) (scope : Scope) (pos : Pos) (I acc : Value) (env : Env) :
    compTurn (.ListComp elt [⟨t, it, [], 0⟩, ⟨t2, it2, [], 0⟩] scope pos) 1 I acc env = (standAt it2.pos >>= fun _ => pyNext I >>= fun r => match r with
      | none => pure (.done .next)
      | some v => letOwnedTupleGo t2 I v >>= fun _ => assign t2 env v >>= fun _ => TT3 elt t it t2 it2 scope pos I acc env) := by
  rfl
theorem TT3_ok (H : EvOk r w R) (ok : X.Ok) (hr : Room r X.A) (hw : X.w = w) {elt t it t2 it2 : Expr} {scope : Scope} {pos : Pos} {I : Value} {Da : Addr} (hD : Da ∈ X.N) (hDL : Da ≠ X.env.locals) (h0 : X.h0.get? Da = none) {B : Nat} (hBs : B ≤ sizeLine)
    (σ1 : Sto) (s1 : Shared) (pre : List D) (cont : List D → Prop) (rel : Rel X σ1 s1.heap) (acc : Acc X Da pre s1.heap) (hB : pre.length + 1 ≤ B) (h : itemS R X.env.scope.names [] (fun σ1 Q => R.ev X.env.scope.names σ1 elt fun r => Q [r]) σ1 cont) :
    Wp w X.A (TT3 elt t it t2 it2 scope pos I (.ref Da) X.env) (fun fin s2 => fin = .again (.compLoop (.ListComp elt [⟨t, it, [], 0⟩, ⟨t2, it2, [], 0⟩] scope pos) 1 I (.ref Da) X.env) ∧ ∃ rs, cont rs ∧ rs.length ≤ 1 ∧ Os s1 s2 ∧ Rel X σ1 s2.heap ∧ Acc X Da (pre ++ rs) s2.heap ∧ KpB [X.env.locals, Da] s1.heap s2.heap ∧ Ks X.N s1.heap s2.heap) s1 := by
  unfold TT3
  refine wpAny_bind (emit_ok H ok hr hw rel hD hDL h0 acc (by omega) h fun rs s3 hcr hl os rel3 acc3 kb ks => ?_)
  exact wpAny_pure ⟨rfl, rs, hcr, hl, os, rel3, acc3, kb, ks⟩
theorem compStart1 {elt t it t2 it2 : Expr} {scope : Scope} {pos : Pos} {I acc : Value} {env : Env} {A : Around} {R : Result → Shared → Prop}
    (h0 : codeAny (model pw w) A (.compLoop (.ListComp elt [⟨t, it, [], 0⟩, ⟨t2, it2, [], 0⟩] scope pos) 1 I acc env) R s)
    (h : wpAny (model pw w) A (pyIter I) (fun it' s' => codeAny (model pw w) A (.compLoop (.ListComp elt [⟨t, it, [], 0⟩, ⟨t2, it2, [], 0⟩] scope pos) 1 it' acc env) R s')
      (notedBy (model pw w) A env fun x s' => R (.error x) s') s) :
    codeAny (model pw w) A (.compStart (.ListComp elt [⟨t, it, [], 0⟩, ⟨t2, it2, [], 0⟩] scope pos) 1 I acc env) R s := by
  refine codeAny_of_tree ?_
  show wpAny _ _ ((compStart (.ListComp elt [⟨t, it, [], 0⟩, ⟨t2, it2, [], 0⟩] scope pos) 1 I acc env).onRaise (fun x => do noteFrame x env; standAt theWindowsPlace)) _ _ s
  refine wpAny_notedAt ?_
  unfold compStart
  show wpAny _ _ (ask >>= _) _ _ s
  refine wpAny_bind (wpAny_askSetting (wpAny_ite ?_))
  split
  · first
      | exact wpAny_bind (wpAny_pure (wpAny_pure (And.intro rfl h0)))
      | exact wpAny_pure (And.intro rfl h0)
  · first
      | exact wpAny_bind (wpAny_rule (wpAny_bind (wpAny_standAt (wpAny_bind (wpAny_mono h (fun it' s' h' => wpAny_pure (And.intro rfl h')) fun _ _ x => x)))))
      | (refine wpAny_bind (wpAny_rule ?_); show wpAny _ _ (standAt _ >>= _) _ _ s; exact wpAny_bind (wpAny_standAt (wpAny_bind (wpAny_mono h (fun it' s' h' => wpAny_pure (And.intro rfl h')) fun _ _ x => x))))
theorem ks_of_two {N : List Addr} {h h' : Heap} {L Da : Addr} {m : Str → Option Value} (n : h.Ns L m) (hD : Da ∈ N) (kb : KpB [L, Da] h h') : Ks N h h' := fun b o hb ⟨xs, k, e⟩ ho => by
  refine kb b o ?_ ho
  intro hm
  rcases List.mem_cons.mp hm with rfl | hm
  · obtain ⟨o2, ho2, es, ep, hd⟩ := ns_live n
    rw [ho] at ho2
    injection ho2 with e2
    rw [e2, hd] at e
    cases e
  · rw [List.mem_singleton.mp hm] at hb
    exact hb hD
theorem TT2_ok (H : EvOk r w R) (ok : X.Ok) (hr : Room r X.A) (hw : X.w = w) {elt t it t2 it2 : Expr} {scope : Scope} {pos : Pos} {I : Value} {Da : Addr} (hD : Da ∈ X.N) (hDL : Da ≠ X.env.locals) (h0 : X.h0.get? Da = none) {B : Nat} (hBs : B ≤ sizeLine)
    (σ1 : Sto) (s1 : Shared) (pre : List D) (cont : List D → Prop) (rel : Rel X σ1 s1.heap) (acc : Acc X Da pre s1.heap) (hB : pre.length + 2000 ≤ B)
    (h : itW R X.env.scope.names σ1 t2 it2 fun ds2 => ds2.length ≤ 2000 ∧ loopW R X.env.scope.names σ1 t2 [] (fun σ2 Q => R.ev X.env.scope.names σ2 elt fun r => Q [r]) ds2 cont) :
    Wp w X.A (TT2 elt t it t2 it2 scope pos I (.ref Da) X.env) (fun fin s2 => fin = .again (.compLoop (.ListComp elt [⟨t, it, [], 0⟩, ⟨t2, it2, [], 0⟩] scope pos) 0 I (.ref Da) X.env) ∧ ∃ rs, cont rs ∧ rs.length ≤ 2000 ∧ Os s1 s2 ∧ Rel X σ1 s2.heap ∧ Acc X Da (pre ++ rs) s2.heap ∧ KpB [X.env.locals, Da] s1.heap s2.heap ∧ Ks X.N s1.heap s2.heap) s1 := by
  obtain ⟨hns, hev⟩ := itW_ok H ok hr hw h rel
  unfold TT2
  refine wpAny_bind (Wp.mono hev fun x s2 h2 => wpAny_bind (wpAny_standAt (wpAny_bind (wpAny_of_eq (folded_plain hns _ _) (wpAny_bind (wpAny_holding (Wp.mono h2 ?_)))))))
  rintro I2 s3 ⟨l2, ⟨hl2, hloop⟩, k3, wr2, hfr, hlv, hit⟩
  subst hw
  obtain ⟨St2, itr, st2⟩ := hit X.N (fun a ha => .inl ha)
  have rel3 : Rel X σ1 s3.heap := rel.keeps k3
  have acc3 := acc.keeps k3
  obtain ⟨m, hn⟩ := rel.ns
  have inner : ∀ s4 : Shared, s4 = s3 → codeAny (model pw X.w) X.A (.compLoop (.ListComp elt [⟨t, it, [], 0⟩, ⟨t2, it2, [], 0⟩] scope pos) 1 I2 (.ref Da) X.env) (fun r s' => match r with
      | .ok f => wpAny (model pw X.w) X.A (again (.compLoop (.ListComp elt [⟨t, it, [], 0⟩, ⟨t2, it2, [], 0⟩] scope pos) 0 I (.ref Da) X.env)) (fun fin s2 => fin = .again (.compLoop (.ListComp elt [⟨t, it, [], 0⟩, ⟨t2, it2, [], 0⟩] scope pos) 0 I (.ref Da) X.env) ∧ ∃ rs, cont rs ∧ rs.length ≤ 2000 ∧ Os s1 s2 ∧ Rel X σ1 s2.heap ∧ Acc X Da (pre ++ rs) s2.heap ∧ KpB [X.env.locals, Da] s1.heap s2.heap ∧ Ks X.N s1.heap s2.heap) (fun _ _ => False) s'
      | .error e => cameBackBy (model pw X.w) X.A X.env (fun _ _ => False) e s') s4 := by
    rintro s4 rfl
    refine loop_gen (w := X.w) ok rfl 1 B itr (fun b hb => ⟨?_, ?_⟩) (fun b hb => kp_none rel.base (hfr b hb)) (fun x c hx hm => ?_) (fun a ha hm => ?_) hDL (turn3 elt t it t2 it2 scope pos I2 (.ref Da) X.env) (fun σ2 s2 pre2 cont2 r2 a2 hb2 hi2 => TT3_ok H ok hr rfl hD hDL h0 hBs σ2 s2 pre2 cont2 r2 a2 hb2 hi2) l2 s4 pre cont _ hloop st2 rel3 acc3 (by omega) fun s' rs hq hlen os' rel' acc' kb' => ?_
    · rintro rfl
      obtain ⟨o, ho, _⟩ := ns_live hn
      rw [hfr _ hb] at ho; cases ho
    · rintro rfl
      obtain ⟨o, ho⟩ := rel.nin _ hD
      rw [hfr _ hb] at ho; cases ho
    · obtain ⟨o, ho⟩ := rel.cl x c hx
      rw [hfr _ hm] at ho; cases ho
    · obtain ⟨o, ho⟩ := rel.nin a ha
      rw [hfr _ hm] at ho; cases ho
    · have kb : KpB [X.env.locals, Da] s1.heap s'.heap := fun b o hb ho => by
        refine kb' b o ?_ (Keeps.kp k3 b o ho)
        intro hm
        simp only [List.mem_cons, List.not_mem_nil, or_false] at hb hm
        rcases hm with rfl | rfl | hm
        · exact hb (.inl rfl)
        · exact hb (.inr rfl)
        · rw [hfr b hm] at ho; cases ho
      exact wpAny_pure ⟨rfl, rs, hq, by omega, Os.trans (Keeps.os k3) os', rel', acc', kb, ks_of_two hn hD kb⟩
  refine wpAny_bind (wpAny_runOwn (compStart1 (inner _ rfl) (Wp.any (itr.self (s := s3) st2 ?_))))
  exact inner _ rfl
end
end
section
inductive StepEV (G : Gt) (R : Ev) (K : List (Str × NameKind)) (σ : Sto) (Q : D → Prop) : Expr → Prop where
  | a0 {i k p} (h : Q (.int i)) : StepEV G R K σ Q (.Constant (.int i) k p)
  | a1 {x k p} (h : Q (.str x.cps.toList)) : StepEV G R K σ Q (.Constant (.str x) k p)
  | a2 {k p} (h : Q .none) : StepEV G R K σ Q (.Constant .none k p)
  | a3 {b k p} (h : Q (.bool b)) : StepEV G R K σ Q (.Constant (.bool b) k p)
  | a4 {x p} (h : match x == ("__debug__" : Str), σ.lookup x with
    | true, _ => False
    | false, some d => match d.undefd with
      | true => False
      | false => Q d
    | false, none => match K.lookup x == some .globalImplicit with
      | true => globW x Q
      | false => False) : StepEV G R K σ Q (.Name x p)
  | a5 {l o r p} (h : R.ev K σ l fun a => R.ev K σ r fun b => binW o a b Q) : StepEV G R K σ Q (.BinOp l o r p)
  | a6 {x p} (h : R.ev K σ x fun a => match a with
    | .int i => Q (.int (-i))
    | _ => False) : StepEV G R K σ Q (.UnaryOp .USub x p)
  | a7 {l o r p} (h : match behindInMarks o r with
    | true => False
    | false => R.ev K σ l fun a => R.ev K σ r fun b => cmpW o a b Q) : StepEV G R K σ Q (.Compare l [o] [r] p)
  | a8 {t a b p} (h : R.ts K σ t fun c => (c = true → R.ev K σ a Q) ∧ (c = false → R.ev K σ b Q)) : StepEV G R K σ Q (.IfExp t a b p)
  | a9 {es k p} (h : evs R K σ es fun ds => ds.length ≤ 1000 ∧ Q (.tup ds)) : StepEV G R K σ Q (.Tuple es k p)
  | a10 {es k} (h : evs R K σ es fun ds => ds.length ≤ 1000 ∧ Q (.lst ds)) : StepEV G R K σ Q (.List es k)
  | a11 {v lo hi sp p} (h : R.ev K σ v fun a => optW R K σ lo fun l => optW R K σ hi fun h => cutW a l h Q) : StepEV G R K σ Q (.Subscript v (.Slice lo hi none sp) p)
  | a12 {v st sp p} (h : R.ev K σ v fun a => optW R K σ (some st) fun i => match a, i with
    | .lst l, some (-1) => l.length ≤ 1000 ∧ Q (.lst l.reverse)
    | _, _ => False) : StepEV G R K σ Q (.Subscript v (.Slice none none (some st) sp) p)
  | a13 {v i p} (h : match isSlice i with
    | true => False
    | false => R.ev K σ v fun a => R.ev K σ i fun b => getW a b Q) : StepEV G R K σ Q (.Subscript v i p)
  | a14 {f p1 a args p2} (h : match isGlob K σ f, G.lookup f with
    | true, some c => evsS R K σ (a :: args) fun ds => c ds Q
    | _, _ => False) : StepEV G R K σ Q (.Call (.Name f p1) (a :: args) [] p2)
  | a15 {o m apos args pos} (h : stepE G R K σ (.Call (.Attribute o m apos) args [] pos) Q) : StepEV G R K σ Q (.Call (.Attribute o m apos) args [] pos)
  | a16 {elt gens scope pos} (h : compW R K σ (.ListComp elt gens scope pos) Q) : StepEV G R K σ Q (.ListComp elt gens scope pos)
theorem stepE_view {G : Gt} {R : Ev} {K : List (Str × NameKind)} {σ : Sto} {Q : D → Prop} {e : Expr} (h : stepE G R K σ e Q) : StepEV G R K σ Q e := by
  cases e with
  | Constant c k p =>
    cases c with
    | int i => exact .a0 h
    | str x => exact .a1 h
    | none => exact .a2 h
    | bool b => exact .a3 h
    | _ => exact h.elim
  | Name x p => exact .a4 h
  | BinOp l o r p => exact .a5 h
  | UnaryOp o x p =>
    cases o with
    | USub => exact .a6 h
    | _ => exact h.elim
  | Compare l os rs p =>
    rcases os with _ | ⟨o, _ | ⟨o2, os⟩⟩
    · exact h.elim
    · rcases rs with _ | ⟨r, _ | ⟨r2, rs⟩⟩
      · exact h.elim
      · exact .a7 h
      · exact h.elim
    · first | exact h.elim | (rcases rs with _ | ⟨r, _ | ⟨r2, rs⟩⟩ <;> exact h.elim)
  | IfExp t a b p => exact .a8 h
  | Tuple es k p => exact .a9 h
  | List es k => exact .a10 h
  | Subscript v i p =>
    cases i with
    | Slice lo hi st sp =>
      cases st with
      | none => exact .a11 h
      | some st =>
        cases lo with
        | none =>
          cases hi with
          | none => exact .a12 h
          | some hi => exact .a13 h
        | some lo => exact .a13 h
    | _ => exact .a13 h
  | Call f args kws p =>
    cases f with
    | Name f p1 =>
      cases args with
      | nil => first | exact h.elim | (cases kws <;> exact h.elim)
      | cons a args =>
        cases kws with
        | nil => exact .a14 h
        | cons => exact h.elim
    | Attribute o m apos =>
      cases kws with
      | nil => exact .a15 h
      | cons => exact h.elim
    | _ => exact h.elim
  | ListComp elt gens scope p => exact .a16 h
  | _ => exact h.elim
section
variable {r : Nat} {w : World} {R : Ev} {X : Cx} {σ : Sto} {s : Shared} {G : Gt}
/-- a comprehension, whatever is done with its list -/
theorem comp_any (H : EvOk r w R) (ok : X.Ok) (hr : Room r X.A) (hw : X.w = w) (rel : Rel X σ s.heap) {elt : Expr} {gens : List Comprehension} {scope : Scope} {pos : Pos} {Q : D → Prop} (h : compW R X.env.scope.names σ (.ListComp elt gens scope pos) Q)
    {RR : Value → Addr → Result → Shared → Prop}
    (hRR : ∀ Da C s' d, Q d → Keeps s s' → Rep X.N s'.heap (.ref Da) d → s.heap.get? Da = none → s.heap.get? C = none → Da ≠ C → (∃ m, s'.heap.Ns C m) → RR (.ref Da) C (.ok .next) s') :
    ∃ t it ifs rest, gens = ⟨t, it, ifs, 0⟩ :: rest ∧ ScOk scope X.env.scope.names ∧ (∃ cl, closureFor scope X.env = pure cl ∧ wpAny (model pw w) X.A (eval it X.env) (fun x s₁ => wpAny (model pw w) X.A (pyIter x) (fun it s₂ => wpAny (model pw w) X.A (newList []) (fun acc s₃ =>
      wpAny (model pw w) X.A (newFunctionEnv scope X.env.globals cl [] X.env.qual none .none (some X.env)) (fun cenv s₄ =>
        codeAny (model pw w) X.A (.compStart (.ListComp elt gens scope pos) 0 it acc { cenv with scope := relabel scope X.env }) (RR acc cenv.locals) s₄) (fun _ _ => False) s₃) (fun _ _ => False) s₂) (fun _ _ => False) s₁) (fun _ _ => False) s) ∧ notSet it = true := by
  unfold compW at h
  split at h
  · rename_i e1 elt1 t it ifs scope1 pos1 heq
    injection heq with e1 e2 e3 e4
    subst e1 e2 e3
    cases hsc : scOk scope X.env.scope.names with
    | false => rw [hsc] at h; exact h.elim
    | true =>
      rw [hsc] at h
      refine ⟨t, it, ifs, [], rfl, scOk_spec hsc, comp_core H ok hr hw rel hsc h (Q := fun rs => Q (.lst rs)) ?_ fun Da C s' rs hq k rp a b c d => hRR Da C s' _ hq k rp a b c d⟩
      rintro l ⟨hl, hlp⟩ X' s4 Da I wr St hnm L RR' hR'
      have hA := L.A
      have hw' : X'.w = w := L.w.trans hw
      have it' : Itr w X'.A X'.N t I wr St := hw' ▸ L.it
      have hlp' : loopW R X'.env.scope.names (compSto σ (relK scope X.env.scope.names)) t ifs (fun σ1 Q => R.ev X'.env.scope.names σ1 elt fun r => Q [r]) l (fun rs => Q (.lst rs)) := by rw [hnm]; exact hlp
      have := loop_gen (w := w) L.ok hw' 1 4000 it' L.wr1 L.wr0 L.wrc L.wrN L.DL (turn1 elt t it ifs scope pos I (.ref Da) X'.env) (fun σ1 s1 pre cont r1 a1 b1 i1 => TT1_ok H L.ok (hA ▸ hr) hw' L.DN L.DL L.D0 (by decide) σ1 s1 pre cont r1 a1 b1 i1) l s4 [] (fun rs => Q (.lst rs)) RR' hlp' L.st L.rel L.acc (by simp; omega) (fun s' rs hq hlen os rel' acc' kb => hR' s' rs hq os acc' rel' kb)
      rw [hA] at this
      exact this
  · rename_i e1 elt1 t it t2 it2 scope1 pos1 heq
    injection heq with e1 e2 e3 e4
    subst e1 e2 e3
    cases hsc : scOk scope X.env.scope.names with
    | false => rw [hsc] at h; exact h.elim
    | true =>
      rw [hsc] at h
      refine ⟨t, it, [], [⟨t2, it2, [], 0⟩], rfl, scOk_spec hsc, comp_core H ok hr hw rel hsc h (Q := fun rs => Q (.lst rs)) ?_ fun Da C s' rs hq k rp a b c d => hRR Da C s' _ hq k rp a b c d⟩
      rintro l ⟨hl, hlp⟩ X' s4 Da I wr St hnm L RR' hR'
      have hA := L.A
      have hw' : X'.w = w := L.w.trans hw
      have it' : Itr w X'.A X'.N t I wr St := hw' ▸ L.it
      have hlp' : loopW R X'.env.scope.names (compSto σ (relK scope X.env.scope.names)) t [] (fun σ1 Q => itW R X'.env.scope.names σ1 t2 it2 fun ds2 => ds2.length ≤ 2000 ∧ loopW R X'.env.scope.names σ1 t2 [] (fun σ2 Q => R.ev X'.env.scope.names σ2 elt fun r => Q [r]) ds2 Q) l (fun rs => Q (.lst rs)) := by rw [hnm]; exact hlp
      have := loop_gen (w := w) (ifs := []) L.ok hw' 2000 4002000 it' L.wr1 L.wr0 L.wrc L.wrN L.DL (turn2 elt t it t2 it2 scope pos I (.ref Da) X'.env) (fun σ1 s1 pre cont r1 a1 b1 i1 => TT2_ok H L.ok (hA ▸ hr) hw' L.DN L.DL L.D0 (B := 4002000) (by decide) σ1 s1 pre cont r1 a1 b1 i1) l s4 [] (fun rs => Q (.lst rs)) RR' hlp' L.st L.rel L.acc (by simp; omega) (fun s' rs hq hlen os rel' acc' kb => hR' s' rs hq os acc' rel' kb)
      rw [hA] at this
      exact this
  · exact h.elim
theorem comp_eval (H : EvOk r w R) (ok : X.Ok) (hr : Room r X.A) (hw : X.w = w) (rel : Rel X σ s.heap) {elt : Expr} {gens : List Comprehension} {scope : Scope} {pos : Pos} {Q : D → Prop} (h : compW R X.env.scope.names σ (.ListComp elt gens scope pos) Q) :
    Wp w X.A (eval (.ListComp elt gens scope pos) X.env) (Gq X Q s) s := by
  obtain ⟨t, it, ifs, rest, rfl, sc, ⟨cl, hcl, hrun⟩, hns⟩ := comp_any H ok hr hw rel h (RR := fun acc C => compPost (model pw w) X.A (fun _ _ => False) none (Gq X Q s) acc C) fun Da C s' d hq k rp hDa hC hne hns => by
    obtain ⟨m, hn⟩ := hns
    refine ⟨m, hn, fun h' sb => ⟨d, rp.ks (ks_but_ns hn sb), hq, ?_⟩⟩
    obtain ⟨h1, tk, g, rfl, k1, hg⟩ := k
    exact ⟨h', tk, g, rfl, fun b o e => by
      rw [sb.2 b (by rintro rfl; rw [hC] at e; cases e)]
      exact k1 b o e, hg⟩
  rw [eval_ListComp]
  exact wpAny_comprehension_free rfl (folded_plain hns _) hcl sc.kind sc.loc hrun
theorem rep_isPart {N : List Addr} {h : Heap} {v : Value} {i : Int} (r : Rep N h v (.int i)) : IsPart v (some i) := by
  cases r with
  | int _ t => exact .int i t
theorem stepE_ok (GG : GOk r w G) (H : EvOk r w R) (ok : X.Ok) (hr : Room r X.A) (hw : X.w = w) {e : Expr} {Q : D → Prop} (h : stepE G R X.env.scope.names σ e Q) (rel : Rel X σ s.heap) : Wp w X.A (eval e X.env) (Gq X Q s) s := by
  have am := rel.am ok
  replace h := stepE_view h
  rcases h with h | h | h | h | h | h | h | h | h | h | h | h | h | h | h | h | h
  · exact wpAny_Constant_int ⟨_, .int _ _, h, keeps_tok⟩
  · exact wpAny_Constant_str ⟨_, rep_str' _ _, h, keeps_tok⟩
  · exact wpAny_Constant_none ⟨_, .none, h, keeps_refl⟩
  · exact wpAny_Constant_bool ⟨_, .bool _, h, keeps_refl⟩
  · -- a name
    rename_i x p
    cases hd : x == ("__debug__" : Str) with
    | true => rw [hd] at h; exact h.elim
    | false =>
      rw [hd] at h
      cases hl : σ.lookup x with
      | some d =>
        rw [hl] at h
        cases hu : d.undefd with
        | true => simp only [hu] at h
        | false =>
          simp only [hu] at h
          obtain ⟨v, hv, hrp⟩ := rel.vars x d hl hu
          subst hw
          refine wpAny_Name ?_ hd
          rcases hv with ⟨a, m, n, e⟩ | ⟨a, c, e, hc⟩
          · exact wpAny_loadName_local ok.kind a n e ⟨d, hrp, h, keeps_refl⟩
          · exact wpAny_loadName_cell ok.kind a e hc ⟨d, hrp, h, keeps_refl⟩
      | none =>
        rw [hl] at h
        cases hk : X.env.scope.names.lookup x == some .globalImplicit with
        | false => simp only [hk] at h
        | true =>
          simp only [hk] at h
          exact name_glob ok rel (by simpa using hk) hd (globW_ok ok hw rel h)
  · -- two operands
    refine wpAny_BinOp (Wp.mono (H.ev ok hr hw h rel) ?_)
    rintro v1 s1 ⟨d1, r1, h1, k1⟩
    refine Wp.mono (H.ev ok hr hw h1 (rel.keeps k1)) ?_
    rintro v2 s2 ⟨d2, r2, h2, k2⟩
    subst hw
    exact Wp.mono (binW_ok ((rel.keeps (keeps_trans k1 k2)).am ok) h2 (r1.kp (Keeps.kp k2)) r2) fun v s3 g => Gq.to (keeps_trans k1 k2) g
  · -- minus
    refine wpAny_UnaryOp (Wp.mono (H.ev ok hr hw h rel) ?_)
    rintro v1 s1 ⟨d1, r1, h1, k1⟩
    cases r1 with
    | int i t => exact PyProof.Rows.neg_int ⟨_, .int _ _, h1, keeps_trans k1 keeps_tok⟩
    | _ => exact h1.elim
  · -- a comparison
    rename_i l o rr p
    cases hm : behindInMarks o rr with
    | true => rw [hm] at h; exact h.elim
    | false =>
      rw [hm] at h
      refine wpAny_Compare1 (Wp.mono (H.ev ok hr hw h rel) ?_) hm
      rintro v1 s1 ⟨d1, r1, h1, k1⟩
      refine Wp.mono (H.ev ok hr hw h1 (rel.keeps k1)) ?_
      rintro v2 s2 ⟨d2, r2, h2, k2⟩
      subst hw
      exact Wp.mono (cmpW_ok ((rel.keeps (keeps_trans k1 k2)).am ok) h2 (r1.kp (Keeps.kp k2)) r2) fun v s3 g => Gq.to (keeps_trans k1 k2) g
  · -- if else
    refine IfExp_ (Wp.mono (H.ts ok hr hw h rel) ?_)
    rintro c s1 ⟨hc, k1⟩
    cases c with
    | true => exact Wp.mono (H.ev ok hr hw (hc.1 rfl) (rel.keeps k1)) fun v s2 g => Gq.to k1 g
    | false => exact Wp.mono (H.ev ok hr hw (hc.2 rfl) (rel.keeps k1)) fun v s2 g => Gq.to k1 g
  · -- a tuple
    refine wpAny_Tuple (Wp.mono (evs_ok H ok hr hw h rel) ?_)
    rintro vs s1 ⟨ds, rds, ⟨hl, hq⟩, k, _, _⟩
    refine ⟨by rw [rds.length]; exact Nat.le_trans hl (by decide), ?_⟩
    exact Gq.to k (gq_newT ((rel.keeps k).am ok) rds hq)
  · -- a list
    refine wpAny_List (Wp.mono (evs_ok H ok hr hw h rel) ?_)
    rintro vs s1 ⟨ds, rds, ⟨hl, hq⟩, k, _, _⟩
    refine ⟨by rw [rds.length]; exact Nat.le_trans hl (by decide), ?_⟩
    exact Gq.to k (gq_new ((rel.keeps k).am ok) rds hq)
  · -- a slice
    refine Subscript_ (Wp.mono (H.ev ok hr hw h rel) ?_)
    rintro v1 s1 ⟨d1, r1, h1, k1⟩
    refine wpAny_Slice (Wp.mono (optW_ok H ok hr hw h1 (rel.keeps k1)) ?_)
    rintro vl s2 ⟨lo, pl, h2, k2⟩
    refine Wp.mono (optW_ok H ok hr hw h2 (rel.keeps (keeps_trans k1 k2))) ?_
    rintro vu s3 ⟨hi, pu, h3, k3⟩
    rw [evalPart_none]
    refine wpAny_pure ?_
    subst hw
    have k := keeps_trans k1 (keeps_trans k2 k3)
    exact Wp.mono (cutW_ok ((rel.keeps k).am ok) h3 (r1.kp ((Keeps.kp k2).trans (Keeps.kp k3))) pl pu) fun v s4 g => Gq.to k g
  · -- backward
    refine Subscript_ (Wp.mono (H.ev ok hr hw h rel) ?_)
    rintro v1 s1 ⟨d1, r1, h1, k1⟩
    refine wpAny_Slice ?_
    rw [evalPart_none]
    refine wpAny_pure (wpAny_pure (Wp.mono (optW_ok H ok hr hw h1 (rel.keeps k1)) ?_))
    rintro vs s2 ⟨st, ps, h2, k2⟩
    split at h2
    · rename_i l
      have r1' := r1.kp (Keeps.kp k2)
      cases r1' with
      | lst ha hl rs =>
        rename_i a us
        subst hw
        have k := keeps_trans k1 k2
        have kp1 : Kp s2.heap (s2.heap.push { cls := .type "slice", data := .fields #[.none, .none, vs] }) := fun b o e => Heap.get?_push_of_some _ e
        refine sub_ops (Heap.IsList.typeIs (s := { s2 with heap := s2.heap.push { cls := .type "slice", data := .fields #[.none, .none, vs] } }) (hl.push _)) list_getitem_lookup
          (wpAny_getItem_list_slice (hl.push _) (Heap.IsSliceOf.new ..) .none .none ps (by decide) ?_ (by rw [List.size_toArray, rs.length]; exact Nat.le_trans h2.1 (by decide))) rfl
        rw [PySem.W.krv_pick]
        have am2 := ((rel.keeps k).am ok).kp kp1
        obtain ⟨d, a1, a2, a3⟩ := gq_new (X := X) (s := { s2 with heap := s2.heap.push { cls := .type "slice", data := .fields #[.none, .none, vs] } }) (tk := s2.toks) am2 (rs.reverse.kp kp1) h2.2
        exact ⟨d, a1, a2, keeps_trans k (keeps_trans (keeps_of (tk := s2.toks) kp1) a3)⟩
    · exact h2.elim
  · -- a place
    rename_i v i p
    cases hi : isSlice i with
    | true => rw [hi] at h; exact h.elim
    | false =>
      rw [hi] at h
      refine Subscript_ (Wp.mono (H.ev ok hr hw h rel) ?_)
      rintro v1 s1 ⟨d1, r1, h1, k1⟩
      refine Wp.mono (H.ev ok hr hw h1 (rel.keeps k1)) ?_
      rintro v2 s2 ⟨d2, r2, h2, k2⟩
      subst hw
      exact Wp.mono (getW_ok h2 (r1.kp (Keeps.kp k2)) r2 hi) fun v s3 g => Gq.to (keeps_trans k1 k2) g
  · -- a call
    rename_i f p1 a args p2
    cases hk : isGlob X.env.scope.names σ f with
    | false => simp only [hk] at h
    | true =>
      cases hf : G.lookup f with
      | none => simp only [hk, hf] at h
      | some c => simp only [hk, hf] at h; exact call_fn H GG ok hr hw rel hk hf h
  · -- a method
    rename_i o m apos args pos
    have key : isCall o = false → (apos.endLine == pos.line && decide (args.length < 20)) = true → (R.ev X.env.scope.names σ o fun a => match methOf m a with
        | some k => evsS R X.env.scope.names σ args fun ds => methW k a ds Q
        | none => False) → Wp w X.A (eval (.Call (.Attribute o m apos) args [] pos) X.env) (Gq X Q s) s := by
      intro ho hp hh
      rw [Bool.and_eq_true, decide_eq_true_eq] at hp
      cases hs : args.any isStar with
      | false => exact call_meth H ok hr hw rel ho hp.1 hp.2 hh hs
      | true =>
        have e : eval (.Call (.Attribute o m apos) args [] pos) X.env = (do
            let ov ← attributeBase o m X.env (eval o X.env)
            standAt apos.atName
            methodCall o m apos pos X.env ov (args.length + 0) (backTo pos (starEach args X.env)) []) := rfl
        rw [e, base_plain ho]
        refine wpAny_bind (Wp.mono (H.ev ok hr hw hh rel) ?_)
        rintro v s1 ⟨a, _, ha, _⟩
        exfalso
        cases hm : methOf m a with
        | none => simp only [hm] at ha
        | some k =>
          simp only [hm] at ha
          unfold evsS at ha
          rw [hs] at ha
          exact ha
    unfold stepE at h
    dsimp only at h
    split at h
    · exact h.elim
    · rename_i hne heq
      exact key (by
        generalize hq : isCall _ = q at *
        cases q with
        | false => rfl
        | true =>
          unfold isCall at hq
          split at hq
          · exact (hne _ _ _ _ rfl).elim
          · cases hq) heq h
    · exact h.elim
  · exact comp_eval H ok hr hw rel h
end
end
section
noncomputable def specialT : Expr → Bool
  | .Compare .. | .UnaryOp .Not _ _ | .BoolOp .. | .IfExp .. => true
  | _ => false
inductive StepTV (R : Ev) (K : List (Str × NameKind)) (σ : Sto) (Q : Bool → Prop) : Expr → Prop where
  | a0 {l o r p} (h : match behindInMarks o r with
    | true => False
    | false => R.ev K σ l fun a => R.ev K σ r fun b => cmpW o a b fun d => match d with
      | .bool c => Q c
      | _ => False) : StepTV R K σ Q (.Compare l [o] [r] p)
  | a1 {x p} (h : R.ts K σ x fun c => Q (!c)) : StepTV R K σ Q (.UnaryOp .Not x p)
  | a2 {x y p} (h : R.ts K σ x fun c => (c = true → R.ts K σ y Q) ∧ (c = false → Q false)) : StepTV R K σ Q (.BoolOp .And [x, y] p)
  | a3 {x y p} (h : R.ts K σ x fun c => (c = true → Q true) ∧ (c = false → R.ts K σ y Q)) : StepTV R K σ Q (.BoolOp .Or [x, y] p)
  | a4 {e} (h : R.ev K σ e fun d => truW d Q) (hs : specialT e = false) : StepTV R K σ Q e
theorem stepT_view {R : Ev} {K : List (Str × NameKind)} {σ : Sto} {Q : Bool → Prop} {e : Expr} (h : stepT R K σ e Q) : StepTV R K σ Q e := by
  cases e with
  | Compare l os rs p =>
    rcases os with _ | ⟨o, _ | ⟨o2, os⟩⟩
    · exact h.elim
    · rcases rs with _ | ⟨r, _ | ⟨r2, rs⟩⟩
      · exact h.elim
      · exact .a0 h
      · exact h.elim
    · first | exact h.elim | (rcases rs with _ | ⟨r, _ | ⟨r2, rs⟩⟩ <;> exact h.elim)
  | UnaryOp o x p =>
    cases o with
    | Not => exact .a1 h
    | _ => exact .a4 h rfl
  | BoolOp o es p =>
    rcases es with _ | ⟨x, _ | ⟨y, _ | ⟨z, es⟩⟩⟩
    · first | exact h.elim | (cases o <;> exact h.elim)
    · first | exact h.elim | (cases o <;> exact h.elim)
    · cases o with
      | And => exact .a2 h
      | Or => exact .a3 h
    · first | exact h.elim | (cases o <;> exact h.elim)
  | IfExp t a b p => exact h.elim
  | _ => exact .a4 h rfl
theorem isTrue_gen {e : Expr} (h : specialT e = false) (env : Env) (whole : Sem Value) : isTrue e env whole = (do
    let v ← whole
    standAt e.pos
    holding [v] (truthy v)) := by
  cases e with
  | UnaryOp op x p => cases op <;> first | rfl | (simp [specialT] at h)
  | _ => first | rfl | (simp [specialT] at h)
section
variable {r : Nat} {w : World} {R : Ev} {X : Cx} {σ : Sto} {s : Shared} {G : Gt}
theorem stepT_ok (H : EvOk r w R) (ok : X.Ok) (hr : Room r X.A) (hw : X.w = w) {e : Expr} {Q : Bool → Prop} (h : stepT R X.env.scope.names σ e Q) (rel : Rel X σ s.heap) : Wp w X.A (isTrue e X.env (eval e X.env)) (fun c s' => Q c ∧ Keeps s s') s := by
  have gen : specialT e = false → (R.ev X.env.scope.names σ e fun d => truW d Q) → Wp w X.A (isTrue e X.env (eval e X.env)) (fun c s' => Q c ∧ Keeps s s') s := by
    intro hs h
    refine isTrue_plain (Wp.mono (H.ev ok hr hw h rel) ?_) (isTrue_gen hs _ _)
    rintro v s1 ⟨d, rd, hd, k⟩
    subst hw
    exact Wp.mono (truW_ok hd rd) fun c s2 ⟨q, k2⟩ => ⟨q, keeps_trans k k2⟩
  replace h := stepT_view h
  rcases h with h | h | h | h | ⟨h, hs⟩
  · rename_i l o rr p
    cases hm : behindInMarks o rr with
    | true => rw [hm] at h; exact h.elim
    | false =>
      rw [hm] at h
      refine wpAny_isTrue_Compare1 (Wp.mono (H.ev ok hr hw h rel) ?_) hm
      rintro v1 s1 ⟨d1, r1, h1, k1⟩
      refine Wp.mono (H.ev ok hr hw h1 (rel.keeps k1)) ?_
      rintro v2 s2 ⟨d2, r2, h2, k2⟩
      subst hw
      refine Wp.mono (cmpW_ok ((rel.keeps (keeps_trans k1 k2)).am ok) h2 (r1.kp (Keeps.kp k2)) r2) ?_
      rintro v s3 ⟨d, rd, hd, k3⟩
      cases rd with
      | bool b => exact wpAny_truthy_bool ⟨hd, keeps_trans k1 (keeps_trans k2 k3)⟩
      | _ => exact hd.elim
  · exact isTrue_not (Wp.mono (H.ts ok hr hw h rel) fun c s1 q => q)
  · refine isTrue_and (Wp.mono (H.ts ok hr hw h rel) ?_)
    rintro c s1 ⟨hc, k1⟩
    cases c with
    | false => exact ⟨hc.2 rfl, k1⟩
    | true =>
      refine isTrue_and (Wp.mono (H.ts ok hr hw (hc.1 rfl) (rel.keeps k1)) ?_)
      rintro c2 s2 ⟨q2, k2⟩
      cases c2 with
      | false => exact ⟨q2, keeps_trans k1 k2⟩
      | true => exact isTrue_and_nil ⟨q2, keeps_trans k1 k2⟩
  · refine isTrue_or (Wp.mono (H.ts ok hr hw h rel) ?_)
    rintro c s1 ⟨hc, k1⟩
    cases c with
    | true => exact ⟨hc.1 rfl, k1⟩
    | false =>
      refine isTrue_or (Wp.mono (H.ts ok hr hw (hc.2 rfl) (rel.keeps k1)) ?_)
      rintro c2 s2 ⟨q2, k2⟩
      cases c2 with
      | true => exact ⟨q2, keeps_trans k1 k2⟩
      | false => exact isTrue_or_nil ⟨q2, keeps_trans k1 k2⟩
  · exact gen hs h
theorem evN_ok (GG : GOk r w G) : ∀ n, EvOk r w (evN G n)
  | 0 => ⟨fun _ _ _ h _ => h.elim, fun _ _ _ h _ => h.elim⟩
  | n + 1 => ⟨fun ok hr hw h rel => stepE_ok GG (evN_ok GG n) ok hr hw h rel, fun ok hr hw h rel => stepT_ok (evN_ok GG n) ok hr hw h rel⟩
end
/-! statements -/
inductive Out where
  | next | brk | ret (d : D)
abbrev Own := List (Str × List D)
abbrev SQ := Out → Sto → Own → Prop
noncomputable def updO : Own → Str → List D → Own
  | [], x, d => [(x, d)]
  | (y, e) :: r, x, d => match x == y with
    | true => (y, d) :: r
    | false => (y, e) :: updO r x d
noncomputable def isComp : Expr → Bool
  | .ListComp .. => true
  | _ => false
/-- a run of statements, one after the other -/
noncomputable def seqW (ex : Sto → Own → Stmt → SQ → Prop) : List Stmt → Sto → Own → SQ → Prop
  | [], σ, ω, Q => Q .next σ ω
  | st :: r, σ, ω, Q => ex σ ω st fun o σ1 ω1 => match o with
    | .next => seqW ex r σ1 ω1 Q
    | .brk => Q .brk σ1 ω1
    | .ret d => Q (.ret d) σ1 ω1
noncomputable def targetOk (ω : Own) : Expr → Bool
  | .Name x _ => (ω.lookup x).isNone
  | .Tuple [.Name x _, .Name y _] _ _ => (ω.lookup x).isNone && (ω.lookup y).isNone && !(x == y)
  | _ => false
noncomputable def forW (K : List (Str × NameKind)) (t : Expr) (body : Sto → Own → SQ → Prop) : List D → Sto → Own → SQ → Prop
  | [], σ, ω, Q => Q .next σ ω
  | d :: ds, σ, ω, Q => match targetOk ω t with
    | false => False
    | true => bindT K σ t d fun σ1 => body σ1 ω fun o σ2 ω2 => match o with
      | .next => forW K t body ds σ2 ω2 Q
      | .brk => Q .next σ2 ω2
      | .ret d => Q (.ret d) σ2 ω2
noncomputable def whileW (test : Sto → (Bool → Prop) → Prop) (body : Sto → Own → SQ → Prop) : Nat → Sto → Own → SQ → Prop
  | 0, _, _, _ => False
  | k + 1, σ, ω, Q => test σ fun c => (c = true → body σ ω fun o σ2 ω2 => match o with
      | .next => whileW test body k σ2 ω2 Q
      | .brk => Q .next σ2 ω2
      | .ret d => Q (.ret d) σ2 ω2) ∧ (c = false → Q .next σ ω)
noncomputable def isSD : Expr → Bool
  | .SetComp .. => true
  | .DictComp .. => true
  | .ListComp .. => true
  | _ => false
noncomputable def stepS (R : Ev) (ex : List (Str × NameKind) → Sto → Own → Stmt → SQ → Prop) (K : List (Str × NameKind)) (σ : Sto) (ω : Own) (st : Stmt) (Q : SQ) : Prop :=
  match st with
  | .Assign [.Name x _] (.ListComp elt gens scope cp) _ => match isVar K x && (ω.lookup x).isNone with
    | true => compW R K σ (.ListComp elt gens scope cp) fun d => Q .next (upd σ x d) ω
    | false => False
  | .Assign [.Name x _] e _ => match isVar K x && (ω.lookup x).isNone && !isSD e with
    | true => R.ev K σ e fun d => Q .next (upd σ x d) ω
    | false => False
  | .Assign [.Tuple [.Name x _, .Name y _] _ _] (.Tuple [e1, e2] _ _) _ => match isVar K x && isVar K y && (ω.lookup x).isNone && (ω.lookup y).isNone && !(x == y) && !(isStar e1) && !(isStar e2) && !([e1, e2].all (constantsAlone 8)) with
    | true => R.ev K σ e1 fun d1 => R.ev K σ e2 fun d2 => Q .next (upd (upd σ x d1) y d2) ω
    | false => False
  | .AugAssign (.Name x _) op e _ => match isVar K x && (ω.lookup x).isNone, σ.lookup x with
    | true, some a => match a.undefd with
      | true => False
      | false => R.ev K σ e fun b => match op, a, b with
        | .Add, .int i, .int j => Q .next (upd σ x (.int (i + j))) ω
        | .Sub, .int i, .int j => Q .next (upd σ x (.int (i - j))) ω
        | .Mult, .int i, .int j => small i ∧ small j ∧ Q .next (upd σ x (.int (i * j))) ω
        | .Add, .str i, .str j => i.length + j.length ≤ sizeLine ∧ Q .next (upd σ x (.str (i ++ j))) ω
        | _, _, _ => False
    | _, _ => False
  | .AugAssign (.Subscript (.Name x _) i _) .Add e _ => match ω.lookup x, isSlice i || x == ("__debug__" : Str) with
    | some l, false => R.ev K σ i fun a => match a with
      | .int k => 0 ≤ k ∧ k < 2 ^ 62 ∧ ∃ v, l[k.toNat]? = some (.int v) ∧ R.ev K σ e fun b => match b with
        | .int j => Q .next σ (updO ω x (l.set k.toNat (.int (v + j))))
        | _ => False
      | _ => False
    | _, _ => False
  | .Expr (.Call (.Attribute (.Name x _) m apos) [e] [] pos) _ => match ω.lookup x, m == ("append" : Str), apos.endLine == pos.line && !isStar e && !(x == ("__debug__" : Str)) with
    | some l, true, true => l.length ≤ 1000 ∧ R.ev K σ e fun d => Q .next σ (updO ω x (l ++ [d]))
    | _, _, _ => False
  | .For t it body [] _ => itW R K σ t it fun ds => forW K t (fun σ1 ω1 Q => seqW (ex K) body σ1 ω1 Q) ds σ ω Q
  | .While t body [] _ => ∃ k, whileW (fun σ1 Q => R.ts K σ1 t Q) (fun σ1 ω1 Q => seqW (ex K) body σ1 ω1 Q) k σ ω Q
  | .If t a b _ => R.ts K σ t fun c => (c = true → seqW (ex K) a σ ω Q) ∧ (c = false → seqW (ex K) b σ ω Q)
  | .Return (some e) _ => R.ev K σ e fun d => Q (.ret d) σ ω
  | .Assert t _ _ => R.ts K σ t fun c => c = true ∧ Q .next σ ω
  | .Break _ => Q .brk σ ω
  | _ => False
noncomputable def exN (G : Gt) (m : Nat) : Nat → List (Str × NameKind) → Sto → Own → Stmt → SQ → Prop
  | 0 => fun _ _ _ _ _ => False
  | n + 1 => stepS (evN G m) (exN G m n)
end
section
/-- a list that is written, as an object with nothing else about it -/
noncomputable def AccO (N : List Addr) (a : Addr) (l : List D) (h : Heap) : Prop := ∃ vs n, h.get? a = some { cls := .type "list", data := .seq (List.toArray vs) n } ∧ Reps N h vs l
theorem AccO.acc {X : Cx} {a : Addr} {l : List D} {h : Heap} (x : AccO X.N a l h) : Acc X a l h := let ⟨vs, n, e, r⟩ := x; ⟨vs, ⟨_, e, rfl, n, rfl⟩, r⟩
theorem AccO.ks {N : List Addr} {a : Addr} {l : List D} {h h' : Heap} (x : AccO N a l h) (e : ∀ o, h.get? a = some o → h'.get? a = some o) (ks : Ks N h h') : AccO N a l h' := let ⟨vs, n, g, r⟩ := x; ⟨vs, n, e _ g, r.ks ks⟩
abbrev Owns := List (Str × Addr)
/-- a function's block: its own cells and its own lists -/
structure FnCx (X : Cx) (own : Owns) : Prop where
  ok : X.Ok
  cfresh : ∀ x c, X.env.cells.lookup x = some c → X.h0.get? c = none
  cinj : ∀ x y c, X.env.cells.lookup x = some c → X.env.cells.lookup y = some c → x = y
  oin : ∀ x a, own.lookup x = some a → a ∈ X.N ∧ X.h0.get? a = none
  oinj : ∀ x y a, own.lookup x = some a → own.lookup y = some a → x = y
structure StR (X : Cx) (own : Owns) (σ : Sto) (ω : Own) (h : Heap) : Prop where
  rel : Rel X σ h
  cel : ∀ x c, X.env.cells.lookup x = some c → ∃ v, h.IsCell c v
  own : ∀ x l, ω.lookup x = some l → ∃ a, own.lookup x = some a ∧ VarIs X.env h x (.ref a) ∧ AccO X.N a l h
/-- what a function's statements may change -/
noncomputable def Wr (X : Cx) (own : Owns) (b : Addr) : Prop := b = X.env.locals ∨ (∃ x, X.env.cells.lookup x = some b) ∨ ∃ x, own.lookup x = some b
noncomputable def FrW (X : Cx) (own : Owns) (s s' : Shared) : Prop := Os s s' ∧ ∀ b o, ¬ Wr X own b → s.heap.get? b = some o → s'.heap.get? b = some o
theorem FrW.refl {X : Cx} {own : Owns} {s : Shared} : FrW X own s s := ⟨Os.refl, fun _ _ _ e => e⟩
theorem FrW.trans {X : Cx} {own : Owns} {s s' s'' : Shared} (a : FrW X own s s') (b : FrW X own s' s'') : FrW X own s s'' := ⟨a.1.trans b.1, fun x o hx e => b.2 x o hx (a.2 x o hx e)⟩
theorem Keeps.frW {X : Cx} {own : Owns} {s s' : Shared} (k : Keeps s s') : FrW X own s s' := ⟨Keeps.os k, fun b o _ e => Keeps.kp k b o e⟩
section
variable {X : Cx} {own : Owns} {σ : Sto} {ω : Own} {s : Shared}
theorem StR.kp (st : StR X own σ ω s.heap) {h' : Heap} (k : Kp s.heap h') : StR X own σ ω h' :=
  ⟨st.rel.kp k, fun x c e => let ⟨v, o, ho, hd⟩ := st.cel x c e; ⟨v, o, k _ _ ho, hd⟩, fun x l e => let ⟨a, e1, v, ac⟩ := st.own x l e; ⟨a, e1, v.kp k, ac.ks (fun o ho => k _ _ ho) k.ks⟩⟩
theorem varIs_ne {h : Heap} {x : Str} {v : Value} (r : VarIs X.env h x v) {h' : Heap} {z : Addr} (hl : X.env.locals ≠ z ∨ (∃ m m', h.Ns X.env.locals m ∧ h'.Ns X.env.locals m' ∧ m' x = m x)) (hc : ∀ c, X.env.cells.lookup x = some c → c ≠ z) (kb : KpB [z] h h') : VarIs X.env h' x v := by
  rcases r with ⟨a, m, n, e⟩ | ⟨a, c, e, o, ho, hd⟩
  · refine .inl ⟨a, ?_⟩
    rcases hl with hl | ⟨m1, m', n1, n', em⟩
    · obtain ⟨o, es, ep, e1, q⟩ := n
      exact ⟨m, ⟨o, es, ep, kb _ _ (by simpa using hl) e1, q⟩, e⟩
    · exact ⟨m', n', by rw [em, ns_det n1 n]; exact e⟩
  · exact .inr ⟨a, c, e, o, kb _ _ (by simpa using hc c e) ho, hd⟩
/-- a name is bound -/
theorem store_any (F : FnCx X own) (st : StR X own σ ω s.heap) {x : Str} {v : Value} {d : D} (hk : isVar X.env.scope.names x = true) (hω : ω.lookup x = none) (rd : Rep X.N s.heap v d) :
    Wp X.w X.A (storeName X.env x v) (fun _ s' => StR X own (upd σ x d) ω s'.heap ∧ FrW X own s s' ∧ Ks X.N s.heap s'.heap) s := by
  have ok := F.ok
  obtain ⟨m, n⟩ := st.rel.ns
  have hk2 : X.env.scope.names.lookup x = some .local ∨ X.env.scope.names.lookup x = some .cell := by
    simpa [isVar] using hk
  rcases hk2 with hk | hk
  · refine wpAny_storeName_local (show X.env.kindOf x = some .local from hk) n (fun h' hn sb => ?_) (by rw [ok.kind]; rfl)
    have ks : Ks X.N s.heap h' := ks_but_ns n sb
    have kb : KpB [X.env.locals] s.heap h' := fun b o hb e => by rw [sb.2 b (by simpa using hb)]; exact e
    have cne : ∀ y c, X.env.cells.lookup y = some c → c ≠ X.env.locals := fun y c e => by
      obtain ⟨v', hc⟩ := st.cel y c e
      exact cell_ne n hc
    have nLl : ∀ {a : Addr} {l : List D}, AccO X.N a l s.heap → a ≠ X.env.locals := by
      rintro a l ⟨vs, k, e, _⟩ rfl
      obtain ⟨o2, ho2, es, ep, hd⟩ := ns_live n
      rw [e] at ho2; injection ho2 with e2; rw [← e2] at hd; cases hd
    have vars : ∀ y v', y ≠ x → VarIs X.env s.heap y v' → VarIs X.env h' y v' := fun y v' hy r => varIs_ne r (.inr ⟨m, _, n, hn, by
      show (if y = x then some v else m y) = m y
      rw [if_neg hy]⟩) (fun c e => cne y c e) kb
    refine ⟨⟨⟨?_, ⟨_, hn⟩, ?_, ?_, ?_⟩, ?_, ?_⟩, ⟨os_of, fun b o hb e => kb b o (fun hm => hb (.inl (List.mem_singleton.mp hm))) e⟩, ks⟩
    · intro b o e
      exact kb b o (fun hm => by rw [List.mem_singleton.mp hm, ok.fresh] at e; cases e) (st.rel.base b o e)
    · intro y d' hy hu
      rw [upd_lookup] at hy
      by_cases hyx : y = x
      · rw [if_pos hyx] at hy
        injection hy with hy
        subst hy hyx
        exact ⟨v, .inl ⟨hk, _, hn, by simp⟩, rd.ks ks⟩
      · rw [if_neg hyx] at hy
        obtain ⟨v', hv, hr⟩ := st.rel.vars y d' hy hu
        exact ⟨v', vars y v' hyx hv, hr.ks ks⟩
    · intro a ha
      obtain ⟨o, ho⟩ := st.rel.nin a ha
      by_cases hb : a = X.env.locals
      · obtain ⟨o2, ho2, _⟩ := ns_live hn
        exact ⟨o2, hb ▸ ho2⟩
      · exact ⟨o, kb a o (by simpa using hb) ho⟩
    · intro y c e
      obtain ⟨o, ho⟩ := st.rel.cl y c e
      exact ⟨o, kb c o (by simpa using cne y c e) ho⟩
    · intro y c e
      obtain ⟨v', o, ho, hd⟩ := st.cel y c e
      exact ⟨v', o, kb c o (by simpa using cne y c e) ho, hd⟩
    · intro y l e
      obtain ⟨a, e1, hv, ac⟩ := st.own y l e
      have hyx : y ≠ x := by rintro rfl; rw [hω] at e; cases e
      exact ⟨a, e1, vars y _ hyx hv, ac.ks (fun o ho => kb a o (by simpa using nLl ac) ho) ks⟩
  · obtain ⟨c, hc⟩ := ok.cells x hk
    obtain ⟨v0, hcell⟩ := st.cel x c hc
    refine wpAny_storeName_cell ok.kind hk hc hcell fun h' hcv sb => ?_
    have kb : KpB [c] s.heap h' := fun b o hb e => by rw [sb.2 b (by simpa using hb)]; exact e
    have ks : Ks X.N s.heap h' := fun b o _ ⟨xs, k, e⟩ ho => kb b o (fun hm => by
      obtain ⟨o2, ho2, hd2⟩ := hcell
      rw [List.mem_singleton.mp hm, ho2] at ho
      injection ho with ho
      rw [← ho, hd2] at e
      cases e) ho
    have hcl : X.env.locals ≠ c := (cell_ne n hcell).symm
    have vars : ∀ y v', y ≠ x → VarIs X.env s.heap y v' → VarIs X.env h' y v' := fun y v' hy r => varIs_ne r (.inl hcl) (fun c' e => by
      rintro rfl
      exact hy (F.cinj _ _ _ e hc)) kb
    have nac : ∀ {a : Addr} {l : List D}, AccO X.N a l s.heap → a ≠ c := by
      rintro a l ⟨vs, k, e, _⟩ rfl
      obtain ⟨o2, ho2, hd2⟩ := hcell
      rw [e] at ho2; injection ho2 with e2; rw [← e2] at hd2; cases hd2
    refine ⟨⟨⟨?_, ?_, ?_, ?_, ?_⟩, ?_, ?_⟩, ⟨os_of, fun b o hb e => kb b o (fun hm => hb (.inr (.inl ⟨x, by rw [List.mem_singleton.mp hm]; exact hc⟩))) e⟩, ks⟩
    · intro b o e
      exact kb b o (fun hm => by rw [List.mem_singleton.mp hm, F.cfresh x c hc] at e; cases e) (st.rel.base b o e)
    · obtain ⟨o, es, ep, e1, q⟩ := n
      exact ⟨m, o, es, ep, kb _ _ (by simpa using hcl) e1, q⟩
    · intro y d' hy hu
      rw [upd_lookup] at hy
      by_cases hyx : y = x
      · rw [if_pos hyx] at hy
        injection hy with hy
        subst hy hyx
        exact ⟨v, .inr ⟨hk, c, hc, hcv⟩, rd.ks ks⟩
      · rw [if_neg hyx] at hy
        obtain ⟨v', hv, hr⟩ := st.rel.vars y d' hy hu
        exact ⟨v', vars y v' hyx hv, hr.ks ks⟩
    · intro a ha
      obtain ⟨o, ho⟩ := st.rel.nin a ha
      by_cases hb : a = c
      · obtain ⟨o2, ho2, _⟩ := hcv
        exact ⟨o2, hb ▸ ho2⟩
      · exact ⟨o, kb a o (by simpa using hb) ho⟩
    · intro y c' e
      by_cases hb : c' = c
      · obtain ⟨o2, ho2, _⟩ := hcv
        exact ⟨o2, hb ▸ ho2⟩
      · obtain ⟨o, ho⟩ := st.rel.cl y c' e
        exact ⟨o, kb c' o (by simpa using hb) ho⟩
    · intro y c' e
      by_cases hb : c' = c
      · exact ⟨_, hb ▸ hcv⟩
      · obtain ⟨v', o, ho, hd⟩ := st.cel y c' e
        exact ⟨v', o, kb c' o (by simpa using hb) ho, hd⟩
    · intro y l e
      obtain ⟨a, e1, hv, ac⟩ := st.own y l e
      have hyx : y ≠ x := by rintro rfl; rw [hω] at e; cases e
      exact ⟨a, e1, vars y _ hyx hv, ac.ks (fun o ho => kb a o (by simpa using nac ac) ho) ks⟩
/-- a target is bound -/
theorem bind_any (F : FnCx X own) (st : StR X own σ ω s.heap) {t : Expr} {d : D} {v : Value} {Q : Sto → Prop} (ht : targetOk ω t = true) (h : bindT X.env.scope.names σ t d Q) (rd : Rep X.N s.heap v d) :
    Wp X.w X.A (assign t X.env v) (fun _ s' => (∃ σ1, Q σ1 ∧ StR X own σ1 ω s'.heap) ∧ FrW X own s s' ∧ Ks X.N s.heap s'.heap) s := by
  replace h := bindT_view h
  rcases h with h | h
  · rename_i x p
    cases hv : isVar X.env.scope.names x with
    | false => rw [hv] at h; exact h.elim
    | true =>
      rw [hv] at h
      refine wpAny_assign_Name (Wp.mono (store_any F st hv (by simpa [targetOk] using ht) rd) ?_)
      rintro _ s' ⟨r', o, ks⟩
      exact ⟨⟨_, h, r'⟩, o, ks⟩
  · rename_i x p1 y p2 kk p3 a b
    cases hv : isVar X.env.scope.names x && isVar X.env.scope.names y with
    | false => rw [hv] at h; exact h.elim
    | true =>
      rw [hv] at h
      rw [Bool.and_eq_true] at hv
      have hts : (ω.lookup x = none ∧ ω.lookup y = none) ∧ ¬ x = y := by simpa [targetOk] using ht
      cases rd with
      | tup ha hl rs =>
        cases rs with
        | cons r1 rs =>
          cases rs with
          | cons r2 rs =>
            cases rs
            rename_i T v1 v2
            refine wpAny_assign_Tuple F.ok.hd hl rfl rfl fun h' ex => ?_
            have kp : Kp s.heap h' := fun b o e => ex b o (Nat.ne_of_lt (Heap.lt_size e)) e
            have st1 : StR X own σ ω ({ s with heap := h' } : Shared).heap := st.kp kp
            show Wp X.w X.A (assignInOrder [assign (.Name x p1) X.env, assign (.Name y p2) X.env] [v1, v2]) _ _
            unfold assignInOrder
            refine wpAny_bind (wpAny_holding (wpAny_assign_Name (Wp.mono (store_any F st1 hv.1 hts.1.1 (r1.kp kp)) ?_)))
            rintro _ s2 ⟨st2, f2, ks2⟩
            unfold assignInOrder
            refine wpAny_bind (wpAny_holding (wpAny_assign_Name (Wp.mono (store_any F st2 hv.2 hts.1.2 ((r2.kp kp).ks ks2)) ?_)))
            rintro _ s3 ⟨st3, f3, ks3⟩
            unfold assignInOrder
            refine wpAny_pure ⟨⟨_, h, st3⟩, ?_, fun b o hb hs he => ks3 b o hb hs (ks2 b o hb hs (kp b o he))⟩
            exact FrW.trans (FrW.trans (s' := { s with heap := h' }) ⟨os_of, fun b o _ e => kp b o e⟩ f2) f3
end
end
section
section
variable {r : Nat} {w : World} {R : Ev} {X : Cx} {own : Owns} {σ : Sto} {ω : Own} {s : Shared} {G : Gt}
/-- what a flow says -/
noncomputable def FlowS (X : Cx) (Q : SQ) (f : Flow) (h : Heap) (σ : Sto) (ω : Own) : Prop :=
  match f with
  | .next => Q .next σ ω
  | .brk => Q .brk σ ω
  | .ret v => ∃ d, Rep X.N h v d ∧ Q (.ret d) σ ω
  | .cont => False
noncomputable def PostS (X : Cx) (own : Owns) (Q : SQ) (s : Shared) (f : Flow) (s' : Shared) : Prop :=
  FrW X own s s' ∧ Ks X.N s.heap s'.heap ∧ ∃ σ' ω', StR X own σ' ω' s'.heap ∧ FlowS X Q f s'.heap σ' ω'
noncomputable def ExOk (r : Nat) (w : World) (ex : List (Str × NameKind) → Sto → Own → Stmt → SQ → Prop) : Prop :=
  ∀ {X : Cx} {own : Owns} {σ : Sto} {ω : Own} {st : Stmt} {Q : SQ} {s : Shared}, FnCx X own → Room r X.A → X.w = w → ex X.env.scope.names σ ω st Q → StR X own σ ω s.heap → Wp w X.A (exec st X.env) (PostS X own Q s) s
theorem PostS.to {Q : SQ} {s s1 s2 : Shared} {f : Flow} (a : FrW X own s s1) (b : Ks X.N s.heap s1.heap) (h : PostS X own Q s1 f s2) : PostS X own Q s f s2 :=
  ⟨a.trans h.1, fun x o hx hs e => h.2.1 x o hx hs (b x o hx hs e), h.2.2⟩
theorem seq_ok {ex : List (Str × NameKind) → Sto → Own → Stmt → SQ → Prop} (HX : ExOk r w ex) (F : FnCx X own) (hr : Room r X.A) (hw : X.w = w) : ∀ {l : List Stmt} {σ : Sto} {ω : Own} {Q : SQ} {s : Shared}, seqW (ex X.env.scope.names) l σ ω Q → StR X own σ ω s.heap → Wp w X.A (execs l X.env) (PostS X own Q s) s
  | [], σ, ω, Q, s, h, st => wpAny_execs_nil ⟨FrW.refl, fun _ _ _ _ e => e, σ, ω, st, h⟩
  | a :: l, σ, ω, Q, s, h, st => by
    unfold seqW at h
    refine wpAny_execs_cons (Wp.mono (HX F hr hw h st) ?_)
    rintro f s1 ⟨fr, ks, σ1, ω1, st1, hf⟩
    cases f with
    | next => exact Wp.mono (seq_ok HX F hr hw hf st1) fun f s2 p => PostS.to fr ks p
    | brk => exact ⟨fr, ks, σ1, ω1, st1, hf⟩
    | ret v => exact ⟨fr, ks, σ1, ω1, st1, hf⟩
    | cont => exact hf.elim
theorem StR.wr (st : StR X own σ ω s.heap) {h' : Heap} {wr : List Addr} (kb : KpB wr s.heap h') (ks : Ks X.N s.heap h') (h0 : ∀ b ∈ wr, X.h0.get? b = none) (hL : X.env.locals ∉ wr)
    (hc : ∀ x c, X.env.cells.lookup x = some c → c ∉ wr) (hN : ∀ a ∈ X.N, a ∉ wr) (ho : ∀ x a, own.lookup x = some a → a ∉ wr) : StR X own σ ω h' where
  rel := st.rel.wr kb ks h0 hL hc hN
  cel := fun x c e => let ⟨v, o, ho, hd⟩ := st.cel x c e; ⟨v, o, kb _ _ (hc x c e) ho, hd⟩
  own := fun x l e => by
    obtain ⟨a, e1, hv, ac⟩ := st.own x l e
    refine ⟨a, e1, ?_, ac.ks (fun o h => kb _ _ (ho x a e1) h) ks⟩
    rcases hv with ⟨k, m, ⟨o, es, ep, e2, q⟩, e3⟩ | ⟨k, c, e2, o, e3, hd⟩
    · exact .inl ⟨k, m, ⟨o, es, ep, kb _ _ hL e2, q⟩, e3⟩
    · exact .inr ⟨k, c, e2, o, kb _ _ (hc x c e2) e3, hd⟩
/-- an iterator stands apart from the block -/
structure Away (X : Cx) (own : Owns) (wr : List Addr) : Prop where
  h0 : ∀ b ∈ wr, X.h0.get? b = none
  ap : ∀ b ∈ wr, ¬ Wr X own b
  N : ∀ a ∈ X.N, a ∉ wr
theorem apart_of (F : FnCx X own) (st : StR X own σ ω s.heap) {wr : List Addr} (hf : ∀ b ∈ wr, s.heap.get? b = none) : Away X own wr where
  h0 := fun b hb => kp_none st.rel.base (hf b hb)
  ap := fun b hb hw => by
    have live : ∃ o, s.heap.get? b = some o := by
      rcases hw with rfl | ⟨x, e⟩ | ⟨x, e⟩
      · obtain ⟨m, n⟩ := st.rel.ns
        obtain ⟨o, ho, _⟩ := ns_live n
        exact ⟨o, ho⟩
      · exact st.rel.cl x b e
      · exact st.rel.nin b (F.oin x b e).1
    obtain ⟨o, ho⟩ := live
    rw [hf b hb] at ho; cases ho
  N := fun a ha hm => by
    obtain ⟨o, ho⟩ := st.rel.nin a ha
    rw [hf a hm] at ho; cases ho
noncomputable def FrB (X : Cx) (own : Owns) (wr : List Addr) (s s' : Shared) : Prop := Os s s' ∧ (∀ b o, ¬ Wr X own b → b ∉ wr → s.heap.get? b = some o → s'.heap.get? b = some o) ∧ Ks X.N s.heap s'.heap
theorem for_loop (F : FnCx X own) (hw : X.w = w) {t : Expr} {I : Value} {wr : List Addr} {St : List D → Heap → Prop} (it : Itr w X.A X.N t I wr St) (ap : Away X own wr) {body : List Stmt} {bw : Sto → Own → SQ → Prop}
    (hbody : ∀ {σ1 ω1 Q s1}, bw σ1 ω1 Q → StR X own σ1 ω1 s1.heap → Wp w X.A (execs body X.env) (PostS X own Q s1) s1) :
    ∀ (l : List D) {σ : Sto} {ω : Own} (s : Shared) (Q : SQ) (RR : Result → Shared → Prop), forW X.env.scope.names t bw l σ ω Q → St l s.heap → StR X own σ ω s.heap →
      (∀ f s' σ' ω', FrB X own wr s s' → StR X own σ' ω' s'.heap → FlowS X Q f s'.heap σ' ω' → RR (.ok f) s') → codeAny (model pw w) X.A (.forLoop t I body [] X.env) RR s := by
  subst hw
  have hL : X.env.locals ∉ wr := fun hm => ap.ap _ hm (.inl rfl)
  have hc : ∀ x c, X.env.cells.lookup x = some c → c ∉ wr := fun x c e hm => ap.ap _ hm (.inr (.inl ⟨x, e⟩))
  have ho : ∀ x a, own.lookup x = some a → a ∉ wr := fun x a e hm => ap.ap _ hm (.inr (.inr ⟨x, e⟩))
  intro l
  induction l with
  | nil =>
    intro σ ω s Q RR h hst st hR
    refine codeAny_of_tree ?_
    show wpAny _ _ ((forTurn t I body [] X.env).onRaise (fun x => do noteFrame x X.env; theTreesLotGoes x)) _ _ s
    refine wpAny_noted ?_
    simp only [forTurn]
    refine wpAny_bind (wpAny_standAt (wpAny_bind (wpAny_onRaise (wpAny_mono (it.nil hst fun h' tk kb ks => ?_) (fun _ _ q => q) fun _ _ f => f.elim))))
    refine wpAny_pure ⟨rfl, codeAny_block (wpAny_execs_nil ?_)⟩
    exact hR .next _ σ ω ⟨os_of, fun b o _ hb e => kb b o hb e, ks⟩ (st.wr kb ks ap.h0 hL hc ap.N ho) h
  | cons d l ih =>
    intro σ ω s Q RR h hst st hR
    unfold forW at h
    cases ht : targetOk ω t with
    | false => rw [ht] at h; exact h.elim
    | true =>
      rw [ht] at h
      refine codeAny_of_tree ?_
      show wpAny _ _ ((forTurn t I body [] X.env).onRaise (fun x => do noteFrame x X.env; theTreesLotGoes x)) _ _ s
      refine wpAny_noted ?_
      simp only [forTurn]
      refine wpAny_bind (wpAny_standAt (wpAny_bind (wpAny_onRaise (wpAny_mono (Wp.mono (it.cons (Q := fun v s2 => Wp X.w X.A (assign t X.env v >>= fun _ => execs body X.env >>= fun f => (match f with
          | .next | .cont => again (.forLoop t I body [] X.env)
          | .brk => pure (.done .next)
          | .ret v => pure (.done (.ret v)) : Sem PySem.Fin)) (fun fin s3 => match fin with
        | .done f => RR (.ok f) s3
        | .again c => c.quiet = true ∧ codeAny (model pw X.w) X.A c RR s3) s2) st.rel.nin hst fun v h1 tk1 rd st1 kb1 ks1 => ?_) ?_) (fun _ _ q => q) fun _ _ f => f.elim))))
      · have str1 : StR X own σ ω ({ s with heap := h1, toks := tk1 } : Shared).heap := st.wr kb1 ks1 ap.h0 hL hc ap.N ho
        refine wpAny_bind (Wp.mono (bind_any F str1 ht h rd) ?_)
        rintro _ s2 ⟨⟨σ1, hb, str2⟩, fr2, ks2⟩
        refine wpAny_bind (Wp.mono (hbody hb str2) ?_)
        rintro f s3 ⟨fr3, ks3, σ3, ω3, str3, hf⟩
        have fr : FrB X own wr s s3 := ⟨Os.trans (Os.trans (os_of (h' := h1) (tk := tk1)) fr2.1) fr3.1, fun b o hb hm e => fr3.2 b o hb (fr2.2 b o hb (kb1 b o hm e)), fun b o hb hs e => ks3 b o hb hs (ks2 b o hb hs (ks1 b o hb hs e))⟩
        cases f with
        | next =>
          have st3 : St l s3.heap := it.frame (it.frame st1 (fun b hb o e => fr2.2 b o (ap.ap b hb) e) ks2) (fun b hb o e => fr3.2 b o (ap.ap b hb) e) ks3
          refine wpAny_pure ⟨rfl, ih s3 Q RR hf st3 str3 fun f s' σ' ω' fr' st' q => hR f s' σ' ω' ?_ st' q⟩
          exact ⟨fr.1.trans fr'.1, fun b o hb hm e => fr'.2.1 b o hb hm (fr.2.1 b o hb hm e), fun b o hb hs e => fr'.2.2 b o hb hs (fr.2.2 b o hb hs e)⟩
        | brk => exact wpAny_pure (hR .next s3 σ3 ω3 fr str3 hf)
        | ret v => exact wpAny_pure (hR (.ret v) s3 σ3 ω3 fr str3 hf)
        | cont => exact hf.elim
      · rintro rr s1 ⟨v, rfl, hg⟩
        exact wpAny_bind (Wp.any (Wp.mono hg fun _ s2 q => Wp.any q))
end
end
section
section
variable {r : Nat} {w : World} {R : Ev} {X : Cx} {own : Owns} {σ : Sto} {ω : Own} {s : Shared} {G : Gt}
theorem StR.keeps (st : StR X own σ ω s.heap) {s' : Shared} (k : Keeps s s') : StR X own σ ω s'.heap := st.kp (Keeps.kp k)
theorem StR.same (st : StR X own σ ω s.heap) {σ' : Sto} (h : ∀ x, σ'.lookup x = σ.lookup x) : StR X own σ' ω s.heap := ⟨st.rel.weak fun x d e _ => by rw [← h]; exact e, st.cel, st.own⟩
theorem while_loop {ex : List (Str × NameKind) → Sto → Own → Stmt → SQ → Prop} (H : EvOk r w R) (HX : ExOk r w ex) (F : FnCx X own) (hr : Room r X.A) (hw : X.w = w) {t : Expr} {body : List Stmt} :
    ∀ (k : Nat) {σ : Sto} {ω : Own} (s0 s : Shared) (Q : SQ) (RR : Result → Shared → Prop), whileW (fun σ1 Q => R.ts X.env.scope.names σ1 t Q) (fun σ1 ω1 Q => seqW (ex X.env.scope.names) body σ1 ω1 Q) k σ ω Q → StR X own σ ω s.heap → FrW X own s0 s → Ks X.N s0.heap s.heap →
      (∀ f s', PostS X own Q s0 f s' → RR (.ok f) s') → codeAny (model pw w) X.A (.whileLoop t body [] X.env) RR s
  | 0, σ, ω, s0, s, Q, RR, h, _, _, _, _ => h.elim
  | k + 1, σ, ω, s0, s, Q, RR, h, st, fr, ks, hR => by
    unfold whileW at h
    refine codeAny_of_tree ?_
    show wpAny _ X.A ((whileTurn t body [] X.env).onRaise (fun x => do noteFrame x X.env; theTreesLotGoes x)) _ _ s
    refine wpAny_noted ?_
    simp only [whileTurn]
    refine wpAny_bind (Wp.any (Wp.mono (H.ts F.ok hr hw h st.rel) ?_))
    rintro c s1 ⟨hc, k1⟩
    have st1 := st.keeps k1
    have fr1 := fr.trans (Keeps.frW (X := X) (own := own) k1)
    have ks1 : Ks X.N s0.heap s1.heap := fun b o hb hs e => Keeps.kp k1 b o (ks b o hb hs e)
    cases c with
    | false =>
      simp only [Bool.false_eq_true, if_false]
      refine wpAny_bind (wpAny_execs_nil (wpAny_pure (hR .next s1 ⟨fr1, ks1, σ, ω, st1, hc.2 rfl⟩)))
    | true =>
      simp only [if_true]
      refine wpAny_bind (Wp.any (Wp.mono (seq_ok HX F hr hw (hc.1 rfl) st1) ?_))
      rintro f s2 ⟨fr2, ks2, σ2, ω2, st2, hf⟩
      have fr02 := fr1.trans fr2
      have ks02 : Ks X.N s0.heap s2.heap := fun b o hb hs e => ks2 b o hb hs (ks1 b o hb hs e)
      cases f with
      | next => exact wpAny_pure ⟨rfl, while_loop H HX F hr hw k s0 s2 Q RR hf st2 fr02 ks02 hR⟩
      | brk => exact wpAny_pure (hR .next s2 ⟨fr02, ks02, σ2, ω2, st2, hf⟩)
      | ret v => exact wpAny_pure (hR (.ret v) s2 ⟨fr02, ks02, σ2, ω2, st2, hf⟩)
      | cont => exact hf.elim
theorem swaps_plain {e : Expr} (h : isSD e = false) (t : Option Expr) (line : Nat) (env : Env) : swapsWith e t line env = pure false := by
  cases e <;> first | rfl | (simp [isSD] at h)
theorem name_store_ok (F : FnCx X own) {x : Str} {Q : SQ} {s s1 : Shared} (st : StR X own σ ω s.heap) (k : Keeps s s1) {v : Value} {d : D} (hk : isVar X.env.scope.names x = true) (hω : ω.lookup x = none) (rd : Rep X.N s1.heap v d) (hq : Q .next (upd σ x d) ω) :
    Wp X.w X.A (storeName X.env x v) (fun _ s' => PostS X own Q s .next s') s1 := by
  refine Wp.mono (store_any F (st.keeps k) hk hω rd) ?_
  rintro _ s2 ⟨st2, fr2, ks2⟩
  exact ⟨(Keeps.frW k).trans fr2, fun b o hb hs e => ks2 b o hb hs (Keeps.kp k b o e), _, _, st2, hq⟩
theorem assign_comp_ok (H : EvOk r w R) (F : FnCx X own) (hr : Room r X.A) (hw : X.w = w) {x : Str} {px pos : Pos} {elt : Expr} {gens : List Comprehension} {scope : Scope} {cp : Pos} {Q : SQ} (st : StR X own σ ω s.heap) (hk : isVar X.env.scope.names x = true) (hω : ω.lookup x = none)
    (h : compW R X.env.scope.names σ (.ListComp elt gens scope cp) fun d => Q .next (upd σ x d) ω) : Wp w X.A (exec (.Assign [.Name x px] (.ListComp elt gens scope cp) pos) X.env) (PostS X own Q s) s := by
  have hb : ∃ b, swapsWith (.ListComp elt gens scope cp) (some (.Name x px)) pos.line X.env = pure b := ⟨_, rfl⟩
  obtain ⟨b, hb⟩ := hb
  cases b with
  | false =>
    refine wpAny_Assign_Name (Wp.mono (comp_eval H F.ok hr hw st.rel h) ?_) hb
    rintro v s1 ⟨d, rd, hq, k⟩
    subst hw
    exact name_store_ok F st k hk hω rd hq
  | true =>
    obtain ⟨t, it, ifs, rest, rfl, sc, ⟨cl, hcl, hrun⟩, hns⟩ := comp_any H F.ok hr hw st.rel h (RR := fun acc C => compPost (model pw w) X.A (fun _ _ => False) (some (assign (.Name x px) X.env)) (fun _ s' => PostS X own Q s .next s') acc C) fun Da C s' d hq k rp hDa hC hne hns => by
      obtain ⟨m, hn⟩ := hns
      subst hw
      refine wpAny_assign_Name (Wp.mono (store_any F (st.keeps k) hk hω rp) ?_)
      rintro _ s2 ⟨st2, fr2, ks2⟩
      have aw : Away X own [C] := apart_of F st (fun b hb => by rw [List.mem_singleton.mp hb]; exact hC)
      have hn2 : s2.heap.Ns C m := by
        obtain ⟨o, es, ep, e, q⟩ := hn
        exact ⟨o, es, ep, fr2.2 _ _ (aw.ap C (.head _)) e, q⟩
      refine ⟨m, hn2, fun h' sb => ?_⟩
      have kb : KpB [C] s2.heap h' := fun b o hb e => by rw [sb.2 b (by simpa using hb)]; exact e
      have ks3 : Ks X.N s2.heap h' := ks_but_ns hn2 sb
      have st3 : StR X own _ ω h' := st2.wr kb ks3 aw.h0 (fun hm => aw.ap _ hm (.inl rfl)) (fun y c e hm => aw.ap _ hm (.inr (.inl ⟨y, e⟩))) aw.N (fun y a e hm => aw.ap _ hm (.inr (.inr ⟨y, e⟩)))
      refine ⟨⟨Os.trans (Os.trans (Keeps.os k) fr2.1) (os_of (h' := h') (tk := s2.toks)), fun b o hb e => kb b o ?_ (fr2.2 b o hb (Keeps.kp k b o e))⟩, fun b o hb hs e => ks3 b o hb hs (ks2 b o hb hs (Keeps.kp k b o e)), _, _, st3, hq⟩
      intro hm
      rw [List.mem_singleton.mp hm, hC] at e
      cases e
    rw [exec_Assign_Name_used _ _ _ _ hb]
    refine wpAny_bind (wpAny_standAt (wpAny_bind ?_))
    show wpAny _ X.A (do let _ ← comprehension (.ListComp elt (⟨t, it, ifs, 0⟩ :: rest) scope cp) scope X.env _ (newList []) false (eval it X.env) (some (assign (.Name x px) X.env))) _ _ s
    refine wpAny_bind (wpAny_mono (wpAny_comprehension_free (use := some (assign (.Name x px) X.env)) (Q := fun _ s' => PostS X own Q s .next s') rfl (folded_plain hns _) hcl sc.kind sc.loc hrun) (fun _ s' q => wpAny_pure (wpAny_pure q)) fun _ _ f => f.elim)
end
end
section
theorem updO_lookup : ∀ (ω : Own) (x : Str) (d : List D) (y : Str), (updO ω x d).lookup y = if y = x then some d else ω.lookup y
  | [], x, d, y => by
    unfold updO
    by_cases h : y = x
    · subst h; simp
    · have : (y == x) = false := by simpa using h
      simp [List.lookup_cons, this, h]
  | (z, e) :: r, x, d, y => by
    unfold updO
    by_cases hz : x = z
    · subst hz
      simp only [beq_self_eq_true]
      by_cases h : y = x
      · subst h; simp
      · have : (y == x) = false := by simpa using h
        simp [List.lookup_cons, this, h]
    · have e1 : (x == z) = false := by simpa using hz
      simp only [e1]
      rw [List.lookup_cons, List.lookup_cons, updO_lookup r x d y]
      by_cases h2 : y = z
      · subst h2
        have : ¬ y = x := fun e => hz e.symm
        simp [this]
      · have : (y == z) = false := by simpa using h2
        simp [this]
theorem setItem_full {w : World} {A : Around} {E : Value → Shared → Prop} {s : Shared} {l : Addr} {items : Array Value} {k : Int} {t : Tok} {v : Value} {Q : Unit → Shared → Prop} {n : Nat} (ho : s.heap.get? l = some { cls := .type "list", data := .seq items n })
    (h0 : 0 ≤ k) (hfit : k < 2 ^ 63) (hn : k < items.size)
    (hQ : ∀ h', (∃ n', h'.get? l = some { cls := .type "list", data := .seq (items.setIfInBounds k.toNat v) n' }) → Heap.SameBut l s.heap h' → Q () { s with heap := h' }) :
    wpAny (model pw w) A (setItem (.ref l) (.int k t) v) Q E s := by
  have hl : s.heap.IsList l items := ⟨_, ho, rfl, n, rfl⟩
  have hd : (({ cls := .type "list", data := .seq items n } : Obj)).data = .seq items n := rfl
  unfold setItem
  try with_reducible refine wpAny_holding ?_
  first | refine wpAny_bind (wpAny_pure ?_) | skip
  refine wpAny_bind (wpAny_sequenceKey hl.typeIs (by decide) ?_)
  refine wpAny_bind (wpAny_callSpecial?_slot (name := Str.ofString "__setitem__") hl.typeIs slot_list_setitem
    (wpAny_call_entry slot_list_setitem hl.typeIs entry_list_setitem ?_ (args_list_setitem _ _ _)))
  show wpAny _ _ (Builtin.List.listSubscript? (.int k t) >>= _) _ _ s
  refine wpAny_bind (wpAny_listSubscript_int (fitsIndex_of h0 hfit) ?_)
  clear hfit
  obtain ⟨j, rfl⟩ := Int.eq_ofNat_of_zero_le h0
  have hj : j < items.size := by omega
  have hx' : items[j]? = some items[j] := Array.getElem?_eq_getElem hj
  show wpAny _ _ ((seqItemAt l j >>= fun r => pure (r.map (j, ·))) >>= _) _ _ s
  refine wpAny_bind (wpAny_bind (wpAny_seqItemAt ho hd (wpAny_pure ?_)))
  rw [hx']
  show wpAny _ _ (setSeqItemAt l j v >>= _) _ _ s
  obtain ⟨n', hd'⟩ := Obj.data_mapSeq hd (·.setIfInBounds j v)
  have hfin : ∃ n', (s.heap.update l (Obj.mapSeq (·.setIfInBounds j v))).get? l = some { cls := .type "list", data := .seq (items.setIfInBounds j v) n' } :=
    ⟨_, Heap.get?_update_self _ ho (Obj.isFreed_of_seq hd')⟩
  refine wpAny_bind (wpAny_setSeqItemAt ho hd ?_)
  first
    | exact wpAny_bind (wpAny_pure (wpAny_pure ⟨.none, rfl, wpAny_pure (hQ _ hfin (Heap.SameBut.update ..))⟩))
    | exact wpAny_pure ⟨.none, rfl, wpAny_pure (hQ _ hfin (Heap.SameBut.update ..))⟩
theorem Reps.set {N : List Addr} {h : Heap} {v : Value} {d : D} (rd : Rep N h v d) : ∀ {vs : List Value} {l : List D} (k : Nat), Reps N h vs l → Reps N h (vs.set k v) (l.set k d)
  | _, _, _, .nil => .nil
  | _, _, 0, .cons a r => .cons rd r
  | _, _, k + 1, .cons a r => .cons a (Reps.set rd k r)
section
variable {r : Nat} {w : World} {R : Ev} {X : Cx} {own : Owns} {σ : Sto} {ω : Own} {s : Shared} {G : Gt}
/-- a list of the block's own has changed -/
theorem StR.ownSet (F : FnCx X own) (st : StR X own σ ω s.heap) {x : Str} {a : Addr} {l l' : List D} {h' : Heap} (hx : own.lookup x = some a) (hω : ω.lookup x = some l) (sb : Heap.SameBut a s.heap h') (ac : AccO X.N a l s.heap)
    (hn : ∃ vs n, h'.get? a = some { cls := .type "list", data := .seq (List.toArray vs) n } ∧ Reps X.N s.heap vs l') : StR X own σ (updO ω x l') h' ∧ Ks X.N s.heap h' ∧ ∀ b o, ¬ Wr X own b → s.heap.get? b = some o → h'.get? b = some o := by
  have kb : KpB [a] s.heap h' := fun b o hb e => by rw [sb.2 b (by simpa using hb)]; exact e
  have haN := F.oin x a hx
  have ks : Ks X.N s.heap h' := fun b o hb _ e => kb b o (fun hm => hb (by rw [List.mem_singleton.mp hm]; exact haN.1)) e
  obtain ⟨vs0, n0, ho0, _⟩ := ac
  obtain ⟨m, n⟩ := st.rel.ns
  have hL : X.env.locals ≠ a := by
    rintro rfl
    obtain ⟨o2, ho2, es, ep, hd⟩ := ns_live n
    rw [ho0] at ho2; injection ho2 with e2; rw [← e2] at hd; cases hd
  have hC : ∀ y c, X.env.cells.lookup y = some c → c ≠ a := by
    rintro y c e rfl
    obtain ⟨v, o, ho, hd⟩ := st.cel y c e
    rw [ho0] at ho; injection ho with e2; rw [← e2] at hd; cases hd
  obtain ⟨vs, n1, hl', hr⟩ := hn
  have vars : ∀ {y v}, VarIs X.env s.heap y v → VarIs X.env h' y v := fun rr => varIs_ne rr (.inl hL) (fun c e => hC _ c e) kb
  refine ⟨⟨⟨?_, ?_, ?_, ?_, ?_⟩, ?_, ?_⟩, ks, fun b o hb e => kb b o (fun hm => hb (.inr (.inr ⟨x, by rw [List.mem_singleton.mp hm]; exact hx⟩))) e⟩
  · exact fun b o e => kb b o (fun hm => by rw [List.mem_singleton.mp hm, haN.2] at e; cases e) (st.rel.base b o e)
  · obtain ⟨o, es, ep, e1, q⟩ := n
    exact ⟨m, o, es, ep, kb _ _ (by simpa using hL) e1, q⟩
  · intro y d hy hu
    obtain ⟨v, hv, hrr⟩ := st.rel.vars y d hy hu
    exact ⟨v, vars hv, hrr.ks ks⟩
  · intro b hb
    by_cases hba : b = a
    · exact ⟨_, hba ▸ hl'⟩
    · obtain ⟨o, ho⟩ := st.rel.nin b hb
      exact ⟨o, kb b o (by simpa using hba) ho⟩
  · intro y c e
    obtain ⟨o, ho⟩ := st.rel.cl y c e
    exact ⟨o, kb c o (by simpa using hC y c e) ho⟩
  · intro y c e
    obtain ⟨v, o, ho, hd⟩ := st.cel y c e
    exact ⟨v, o, kb c o (by simpa using hC y c e) ho, hd⟩
  · intro y l2 e
    rw [updO_lookup] at e
    by_cases hyx : y = x
    · rw [if_pos hyx] at e
      injection e with e
      subst e hyx
      obtain ⟨a2, e1, hv, _⟩ := st.own y l hω
      rw [hx] at e1; injection e1 with e1; subst e1
      exact ⟨a, hx, vars hv, vs, n1, hl', hr.ks ks⟩
    · rw [if_neg hyx] at e
      obtain ⟨a2, e1, hv, ac2⟩ := st.own y l2 e
      have hne : a2 ≠ a := by rintro rfl; exact hyx (F.oinj _ _ _ e1 hx)
      exact ⟨a2, e1, vars hv, ac2.ks (fun o ho => kb a2 o (by simpa using hne) ho) ks⟩
theorem append_own (F : FnCx X own) (st : StR X own σ ω s.heap) {x : Str} {a : Addr} {l : List D} {v : Value} {d : D} (hx : own.lookup x = some a) (hω : ω.lookup x = some l) (ac : AccO X.N a l s.heap) (hl : l.length ≤ 1000) (rd : Rep X.N s.heap v d) {Q : Value → Shared → Prop}
    (hQ : ∀ s', StR X own σ (updO ω x (l ++ [d])) s'.heap → FrW X own s s' → Ks X.N s.heap s'.heap → Q .none s') : Wp X.w X.A (call (.builtin "list.append") [.ref a, v]) Q s := by
  obtain ⟨vs, n, ho, hr⟩ := id ac
  have hz : (List.toArray vs).size ≤ sizeLine := by rw [List.size_toArray, hr.length]; exact Nat.le_trans hl (by decide)
  refine call_meets PySem.F.slot_list_append ⟨_, ho, rfl⟩ PySem.F.entry_list_append (PySem.F.args_list_append_2 _ _) (list_append a _ n v hz) ⟨ho, ?_⟩
  have sb : Heap.SameBut a s.heap (s.heap.update a (Obj.mapSeq fun x_1 => x_1.push v)) := Heap.SameBut.update ..
  have hg : ∃ n', (s.heap.update a (Obj.mapSeq fun x_1 => x_1.push v)).get? a = some { cls := .type "list", data := .seq (List.toArray (vs ++ [v])) n' } := by
    have h1 := Heap.get?_update_self (Obj.mapSeq fun x_1 => x_1.push v) ho (by rfl)
    have e : vs.toArray.push v = (vs ++ [v]).toArray := by simp
    rw [h1, ← e]
    exact ⟨_, rfl⟩
  obtain ⟨n', hg⟩ := hg
  obtain ⟨st2, ks, fr⟩ := st.ownSet F hx hω sb ac (l' := l ++ [d]) ⟨vs ++ [v], n', hg, hr.snoc rd⟩
  exact hQ _ st2 ⟨os_of, fr⟩ ks
end
end
section
inductive StepSV (R : Ev) (ex : List (Str × NameKind) → Sto → Own → Stmt → SQ → Prop) (K : List (Str × NameKind)) (σ : Sto) (ω : Own) (Q : SQ) : Stmt → Prop where
  | a0 {x px elt gens scope cp pos} (h : match isVar K x && (ω.lookup x).isNone with
    | true => compW R K σ (.ListComp elt gens scope cp) fun d => Q .next (upd σ x d) ω
    | false => False) : StepSV R ex K σ ω Q (.Assign [.Name x px] (.ListComp elt gens scope cp) pos)
  | a1 {x px e pos} (h : match isVar K x && (ω.lookup x).isNone && !isSD e with
    | true => R.ev K σ e fun d => Q .next (upd σ x d) ω
    | false => False) : StepSV R ex K σ ω Q (.Assign [.Name x px] e pos)
  | a2 {x px y py k p e1 e2 k2 p2 pos} (h : match isVar K x && isVar K y && (ω.lookup x).isNone && (ω.lookup y).isNone && !(x == y) && !(isStar e1) && !(isStar e2) && !([e1, e2].all (constantsAlone 8)) with
    | true => R.ev K σ e1 fun d1 => R.ev K σ e2 fun d2 => Q .next (upd (upd σ x d1) y d2) ω
    | false => False) : StepSV R ex K σ ω Q (.Assign [.Tuple [.Name x px, .Name y py] k p] (.Tuple [e1, e2] k2 p2) pos)
  | a3 {x px op e pos} (h : match isVar K x && (ω.lookup x).isNone, σ.lookup x with
    | true, some a => match a.undefd with
      | true => False
      | false => R.ev K σ e fun b => match op, a, b with
        | .Add, .int i, .int j => Q .next (upd σ x (.int (i + j))) ω
        | .Sub, .int i, .int j => Q .next (upd σ x (.int (i - j))) ω
        | .Mult, .int i, .int j => small i ∧ small j ∧ Q .next (upd σ x (.int (i * j))) ω
        | .Add, .str i, .str j => i.length + j.length ≤ sizeLine ∧ Q .next (upd σ x (.str (i ++ j))) ω
        | _, _, _ => False
    | _, _ => False) : StepSV R ex K σ ω Q (.AugAssign (.Name x px) op e pos)
  | a4 {x px i pi e pos} (h : match ω.lookup x, isSlice i || x == ("__debug__" : Str) with
    | some l, false => R.ev K σ i fun a => match a with
      | .int k => 0 ≤ k ∧ k < 2 ^ 62 ∧ ∃ v, l[k.toNat]? = some (.int v) ∧ R.ev K σ e fun b => match b with
        | .int j => Q .next σ (updO ω x (l.set k.toNat (.int (v + j))))
        | _ => False
      | _ => False
    | _, _ => False) : StepSV R ex K σ ω Q (.AugAssign (.Subscript (.Name x px) i pi) .Add e pos)
  | a5 {x px m apos e pos p0} (h : match ω.lookup x, m == ("append" : Str), apos.endLine == pos.line && !isStar e && !(x == ("__debug__" : Str)) with
    | some l, true, true => l.length ≤ 1000 ∧ R.ev K σ e fun d => Q .next σ (updO ω x (l ++ [d]))
    | _, _, _ => False) : StepSV R ex K σ ω Q (.Expr (.Call (.Attribute (.Name x px) m apos) [e] [] pos) p0)
  | a6 {t it body pos} (h : itW R K σ t it fun ds => forW K t (fun σ1 ω1 Q => seqW (ex K) body σ1 ω1 Q) ds σ ω Q) : StepSV R ex K σ ω Q (.For t it body [] pos)
  | a7 {t body pos} (h : ∃ k, whileW (fun σ1 Q => R.ts K σ1 t Q) (fun σ1 ω1 Q => seqW (ex K) body σ1 ω1 Q) k σ ω Q) : StepSV R ex K σ ω Q (.While t body [] pos)
  | a8 {t a b pos} (h : R.ts K σ t fun c => (c = true → seqW (ex K) a σ ω Q) ∧ (c = false → seqW (ex K) b σ ω Q)) : StepSV R ex K σ ω Q (.If t a b pos)
  | a9 {e pos} (h : R.ev K σ e fun d => Q (.ret d) σ ω) : StepSV R ex K σ ω Q (.Return (some e) pos)
  | a10 {t msg pos} (h : R.ts K σ t fun c => c = true ∧ Q .next σ ω) : StepSV R ex K σ ω Q (.Assert t msg pos)
  | a11 {pos} (h : Q .brk σ ω) : StepSV R ex K σ ω Q (.Break pos)
theorem stepS_view {R : Ev} {ex : List (Str × NameKind) → Sto → Own → Stmt → SQ → Prop} {K : List (Str × NameKind)} {σ : Sto} {ω : Own} {Q : SQ} {st : Stmt} (h : stepS R ex K σ ω st Q) : StepSV R ex K σ ω Q st := by
  cases st with
  | Assign ts e p =>
    cases ts with
    | nil => exact h.elim
    | cons t r =>
      cases r with
      | cons t2 r => cases t <;> first | exact h.elim | (rename_i es k tp; cases es <;> first | exact h.elim | (rename_i e1 es; cases e1 <;> first | exact h.elim | (cases es <;> first | exact h.elim | (rename_i e1 es; cases e1 <;> first | exact h.elim | (cases es <;> exact h.elim)))))
      | nil =>
        cases t with
        | Name x px =>
          cases e with
          | ListComp elt gens scope cp => exact .a0 h
          | _ => exact .a1 h
        | Tuple es k tp =>
          rcases es with _ | ⟨e1, _ | ⟨e2, _ | ⟨e3, es⟩⟩⟩
          · exact h.elim
          · cases e1 <;> exact h.elim
          · cases e1 with
            | Name x px =>
              cases e2 with
              | Name y py =>
                cases e with
                | Tuple vs k2 p2 =>
                  rcases vs with _ | ⟨v1, _ | ⟨v2, _ | ⟨v3, vs⟩⟩⟩
                  · exact h.elim
                  · exact h.elim
                  · exact .a2 h
                  · exact h.elim
                | _ => exact h.elim
              | _ => exact h.elim
            | _ => exact h.elim
          · cases e1 <;> first | exact h.elim | (cases e2 <;> exact h.elim)
        | _ => exact h.elim
  | AugAssign t op e p =>
    cases t with
    | Name x px => exact .a3 h
    | Subscript v i sp =>
      cases v with
      | Name x px =>
        cases op with
        | Add => exact .a4 h
        | _ => exact h.elim
      | _ => exact h.elim
    | _ => exact h.elim
  | Expr e p =>
    cases e with
    | Call f args kws pos =>
      cases f with
      | Attribute v m apos =>
        cases v with
        | Name x px =>
          rcases args with _ | ⟨a1, _ | ⟨a2, args⟩⟩
          · exact h.elim
          · cases kws with
            | nil => exact .a5 h
            | cons => exact h.elim
          · exact h.elim
        | _ => exact h.elim
      | _ => exact h.elim
    | _ => exact h.elim
  | For t it body orelse p =>
    cases orelse with
    | nil => exact .a6 h
    | cons => exact h.elim
  | While t body orelse p =>
    cases orelse with
    | nil => exact .a7 h
    | cons => exact h.elim
  | If t a b p => exact .a8 h
  | Return e p =>
    cases e with
    | some e => exact .a9 h
    | none => exact h.elim
  | Assert t m p => exact .a10 h
  | Break p => exact .a11 h
  | _ => exact h.elim
section
variable {r : Nat} {w : World} {R : Ev} {X : Cx} {own : Owns} {σ : Sto} {ω : Own} {s : Shared} {G : Gt}
theorem swapped_two {x y : Str} {px py : Pos} {k k2 : Nat} {p p2 : Pos} {e1 e2 : Expr} {env : Env} (hxy : (x == y) = false) (hc : [e1, e2].all (constantsAlone 8) = false) :
    swappedStores [.Tuple [.Name x px, .Name y py] k p] (.Tuple [e1, e2] k2 p2) env = pure none ∨ swappedStores [.Tuple [.Name x px, .Name y py] k p] (.Tuple [e1, e2] k2 p2) env = pure (some [x, y]) := by
  unfold swappedStores
  dsimp only
  by_cases c1 : (!([Expr.Name x px, Expr.Name y py].length == 2 || [Expr.Name x px, Expr.Name y py].length == 3) || [e1, e2].length != [Expr.Name x px, Expr.Name y py].length || env.blockKind != .function) = true
  · left; rw [if_pos c1]
  · rw [if_neg c1]
    split
    · left; rfl
    · split
      · left; rfl
      · rename_i hn
        split
        · left; rfl
        · split
          · rename_i hk; rw [hc] at hk; cases hk
          · right
            congr 2
            by_cases a1 : (env.kindOf x == some NameKind.local && px.line == (Option.map (fun x => x.pos.line) [Expr.Name x px, Expr.Name y py].head?).getD 0) = true
            · by_cases a2 : (env.kindOf y == some NameKind.local && py.line == (Option.map (fun x => x.pos.line) [Expr.Name x px, Expr.Name y py].head?).getD 0) = true
              · simp only [List.filterMap_cons, List.filterMap_nil, if_pos a1, if_pos a2]
              · exfalso; apply hn
                simp only [List.filterMap_cons, List.filterMap_nil, if_pos a1, if_neg a2]
                rfl
            · exfalso; apply hn
              simp only [List.filterMap_cons, List.filterMap_nil, if_neg a1]
              split <;> rfl
theorem assign_two_ok (H : EvOk r w R) (F : FnCx X own) (hr : Room r X.A) (hw : X.w = w) {x y : Str} {px py : Pos} {k k2 : Nat} {p p2 pos : Pos} {e1 e2 : Expr} {Q : SQ} (st : StR X own σ ω s.heap) (hx : isVar X.env.scope.names x = true) (hy : isVar X.env.scope.names y = true) (ox : ω.lookup x = none) (oy : ω.lookup y = none)
    (hxy : (x == y) = false) (s1 : isStar e1 = false) (s2 : isStar e2 = false) (hc : [e1, e2].all (constantsAlone 8) = false)
    (h : R.ev X.env.scope.names σ e1 fun d1 => R.ev X.env.scope.names σ e2 fun d2 => Q .next (upd (upd σ x d1) y d2) ω) : Wp w X.A (exec (.Assign [.Tuple [.Name x px, .Name y py] k p] (.Tuple [e1, e2] k2 p2) pos) X.env) (PostS X own Q s) s := by
  have hne : ¬ x = y := by simpa using hxy
  have hval : ∀ {P : Value → Shared → Prop}, (∀ T s1 d1 d2, Rep X.N s1.heap (.ref T) (.tup [d1, d2]) → Keeps s s1 → Q .next (upd (upd σ x d1) y d2) ω → P (.ref T) s1) → Wp w X.A (eval (.Tuple [e1, e2] k2 p2) X.env) P s := by
    intro P hP
    refine wpAny_Tuple (args_cons (Wp.mono (H.ev F.ok hr hw h st.rel) ?_) (starEach_cons s1))
    rintro v1 t1 ⟨d1, r1, h1, k1⟩
    refine args_cons (Wp.mono (H.ev F.ok hr hw h1 (st.rel.keeps k1)) ?_) (starEach_cons s2)
    rintro v2 t2 ⟨d2, r2, hq, k2⟩
    have kk := keeps_trans k1 k2
    refine args_nil ⟨(by show 2 ≤ sizeLine; decide), ?_⟩
    obtain ⟨d, a1, a2, a3⟩ := gq_newT (X := X) (s := t2) (Q := fun d => d = .tup [d1, d2]) ((st.rel.keeps kk).am F.ok) (vs := [v1, v2]) (l := [d1, d2]) (.cons (r1.kp (Keeps.kp k2)) (.cons r2 .nil)) rfl (tk := t2.toks)
    subst a2
    exact hP _ _ d1 d2 a1 (keeps_trans kk a3) hq
  rcases swapped_two (x := x) (y := y) (px := px) (py := py) (k := k) (k2 := k2) (p := p) (p2 := p2) (env := X.env) hxy hc with hsw | hsw
  · refine Assign_Tuple (hval fun T t1 d1 d2 rT kT hq => ?_) rfl hsw
    have hb : bindT X.env.scope.names σ (.Tuple [.Name x px, .Name y py] k p) (.tup [d1, d2]) fun σ1 => σ1 = upd (upd σ x d1) y d2 := by
      unfold bindT
      simp only [hx, hy, Bool.and_self]
    subst hw
    refine Wp.mono (bind_any F (st.keeps kT) (by simp [targetOk, ox, oy, hxy]) hb rT) ?_
    rintro _ t2 ⟨⟨_, rfl, st2⟩, fr, ks⟩
    exact ⟨(Keeps.frW kT).trans fr, fun b o hb hs e => ks b o hb hs (Keeps.kp kT b o e), _, _, st2, hq⟩
  · refine Assign_Tuple_swapped (names := [x, y]) (hval fun T t1 d1 d2 rT kT hq => ?_) rfl hsw
    subst hw
    cases rT with
    | tup ha hl rs =>
      cases rs with
      | cons r1 rs =>
        cases rs with
        | cons r2 rs =>
          cases rs
          rename_i v1 v2
          refine wpAny_unpackItems_tuple (items := #[v1, v2]) F.ok.hd hl fun h' ex => ?_
          have kp : Kp t1.heap h' := fun b o e => ex b o (Nat.ne_of_lt (Heap.lt_size e)) e
          have st1 : StR X own σ ω ({ t1 with heap := h' } : Shared).heap := (st.keeps kT).kp kp
          show Wp X.w X.A (assignInOrder [bindName X.env y, bindName X.env x] [v2, v1]) _ _
          unfold assignInOrder
          refine wpAny_bind (wpAny_holding (wpAny_bindName (Wp.mono (store_any F st1 hy oy (r2.kp kp)) ?_)))
          rintro _ t2 ⟨st2, f2, ks2⟩
          unfold assignInOrder
          refine wpAny_bind (wpAny_holding (wpAny_bindName (Wp.mono (store_any F st2 hx ox ((r1.kp kp).ks ks2)) ?_)))
          rintro _ t3 ⟨st3, f3, ks3⟩
          unfold assignInOrder
          refine wpAny_pure ⟨?_, fun b o hb hs he => ks3 b o hb hs (ks2 b o hb hs (kp b o (Keeps.kp kT b o he))), upd (upd σ x d1) y d2, ω, st3.same fun z => ?_, hq⟩
          · exact (Keeps.frW kT).trans (FrW.trans (FrW.trans (s' := { t1 with heap := h' }) ⟨os_of, fun b o _ e => kp b o e⟩ f2) f3)
          · rw [upd_lookup, upd_lookup, upd_lookup, upd_lookup]
            by_cases h1 : z = x
            · have h2 : ¬ z = y := fun e => hne (h1.symm.trans e)
              rw [if_pos h1, if_neg h2, if_pos h1]
            · rw [if_neg h1, if_neg h1]
theorem load_own (F : FnCx X own) {x : Str} {px : Pos} {v : Value} (hv : VarIs X.env s.heap x v) (hd : (x == ("__debug__" : Str)) = false) {P : Value → Shared → Prop} (h : P v s) : Wp w X.A (eval (.Name x px) X.env) P s := by
  refine wpAny_Name ?_ hd
  rcases hv with ⟨a1, m, n, e1⟩ | ⟨a1, c, e1, hc⟩
  · exact wpAny_loadName_local F.ok.kind a1 n e1 h
  · exact wpAny_loadName_cell F.ok.kind a1 e1 hc h
theorem stepS_ok {ex : List (Str × NameKind) → Sto → Own → Stmt → SQ → Prop} (H : EvOk r w R) (HX : ExOk r w ex) : ExOk r w (stepS R ex) := by
  intro X own σ ω stm Q s F hr hw h st
  have hv0 := stepS_view h
  clear h
  cases hv0
  · -- a comprehension to a name
    rename_i x px elt gens scope cp pos h
    cases hv : isVar X.env.scope.names x && (ω.lookup x).isNone with
    | false => simp only [hv] at h
    | true =>
      simp only [hv] at h
      rw [Bool.and_eq_true] at hv
      exact assign_comp_ok H F hr hw st hv.1 (by simpa using hv.2) h
  · rename_i x px e pos h
    cases hv : isVar X.env.scope.names x && (ω.lookup x).isNone && !isSD e with
    | false => simp only [hv] at h
    | true =>
      simp only [hv] at h
      rw [Bool.and_eq_true, Bool.and_eq_true] at hv
      refine wpAny_Assign_Name (Wp.mono (H.ev F.ok hr hw h st.rel) ?_) (swaps_plain (by simpa using hv.2) _ _ _)
      rintro v s1 ⟨d, rd, hq, k⟩
      subst hw
      exact name_store_ok F st k hv.1.1 (by simpa using hv.1.2) rd hq
  · rename_i x px y py k p e1 e2 k2 p2 pos h
    split at h
    · rename_i hv
      simp only [Bool.and_eq_true, Bool.not_eq_true'] at hv
      exact assign_two_ok H F hr hw st hv.1.1.1.1.1.1.1 hv.1.1.1.1.1.1.2 (by simpa using hv.1.1.1.1.1.2) (by simpa using hv.1.1.1.1.2) hv.1.1.1.2 hv.1.1.2 hv.1.2 hv.2 h
    · exact h.elim
  · -- a name is changed
    rename_i x px op e pos h
    cases hv : isVar X.env.scope.names x && (ω.lookup x).isNone with
    | false => simp only [hv] at h
    | true =>
      cases hl : σ.lookup x with
      | none => simp only [hv, hl] at h
      | some a =>
        simp only [hv, hl] at h
        cases hu : a.undefd with
        | true => simp only [hu] at h
        | false =>
          simp only [hu] at h
          rw [Bool.and_eq_true] at hv
          obtain ⟨v, hvv, hrp⟩ := st.rel.vars x a hl hu
          have load : Wp w X.A (loadName X.env x) (fun old s1 => old = v ∧ s1 = s) s := by
            rcases hvv with ⟨a1, m, n, e1⟩ | ⟨a1, c, e1, hc⟩
            · exact wpAny_loadName_local F.ok.kind a1 n e1 ⟨rfl, rfl⟩
            · exact wpAny_loadName_cell F.ok.kind a1 e1 hc ⟨rfl, rfl⟩
          refine wpAny_AugAssign_Name (Wp.mono load ?_)
          rintro _ _ ⟨rfl, rfl⟩
          refine Wp.mono (H.ev F.ok hr hw h st.rel) ?_
          rintro v2 s1 ⟨b, rb, hb, k⟩
          subst hw
          have hrp1 := hrp.kp (Keeps.kp k)
          split at hb
          · obtain ⟨_, rfl⟩ := hrp1.int_inv; obtain ⟨_, rfl⟩ := rb.int_inv
            exact PyProof.Rows.iadd_int (name_store_ok F st (keeps_trans k keeps_tok) hv.1 (by simpa using hv.2) (.int _ _) hb)
          · obtain ⟨_, rfl⟩ := hrp1.int_inv; obtain ⟨_, rfl⟩ := rb.int_inv
            exact PyProof.Rows.isub_int (name_store_ok F st (keeps_trans k keeps_tok) hv.1 (by simpa using hv.2) (.int _ _) hb)
          · obtain ⟨_, rfl⟩ := hrp1.int_inv; obtain ⟨_, rfl⟩ := rb.int_inv
            refine PyProof.Rows.imul_int (name_store_ok F st (keeps_trans k keeps_tok) hv.1 (by simpa using hv.2) (.int _ _) hb.2.2) ?_
            have h1 := small_bits hb.1
            unfold IntMulOk
            simp [shortFactorBits]
            intro h2
            omega
          · rename_i i j
            obtain ⟨_, rfl⟩ := hrp1.str_inv; obtain ⟨_, rfl⟩ := rb.str_inv
            refine iadd_str (fun t' tk => ?_) (by simpa [PySem.Str.length] using hb.1)
            have e : (⟨i.toArray⟩ ++ ⟨j.toArray⟩ : Str) = ⟨(i ++ j).toArray⟩ := by
              show (⟨i.toArray ++ j.toArray⟩ : Str) = _
              simp
            rw [e]
            exact name_store_ok F st (keeps_trans k keeps_tok) hv.1 (by simpa using hv.2) (.str _ _) hb.2
          · exact hb.elim
  · -- a place of an own list is changed
    rename_i x px i pi e pos h
    cases hl : ω.lookup x with
    | none => simp only [hl] at h
    | some l =>
      cases hs0 : isSlice i || x == ("__debug__" : Str) with
      | true => simp only [hl, hs0] at h
      | false =>
        simp only [hl, hs0] at h
        rw [Bool.or_eq_false_iff] at hs0
        have hs := hs0.1
        obtain ⟨a, hx, hvv, ac⟩ := st.own x l hl
        refine wpAny_AugAssign_SubscriptAny (load_own F hvv hs0.2 (Wp.mono (H.ev F.ok hr hw h st.rel) ?_)) (fun ov iv new => by
          unfold augStore
          split
          · simp [isSlice] at hs
          · rfl)
        rintro iv s1 ⟨di, ri, hi, k1⟩
        have st1 := st.keeps k1
        obtain ⟨a', hx', _, vs, n, ho, hrs⟩ := st1.own x l hl
        rw [hx] at hx'; injection hx' with hx'; subst hx'
        cases di with
        | int kk =>
          cases ri with
          | int _ ti =>
            obtain ⟨hk0, hk1, old, hold, hev⟩ := hi
            obtain ⟨vo, hvo, hro⟩ := hrs.get hold
            refine wpAny_getItem_list (l := a) (items := vs.toArray) ⟨_, ho, rfl, n, rfl⟩ hk0 (by omega) (by simpa using hvo) ?_
            refine Wp.mono (H.ev F.ok hr hw hev st1.rel) ?_
            rintro v2 s2 ⟨b, rb, hb, k2⟩
            cases b with
            | int j =>
              cases hro with
              | int _ to =>
                cases rb with
                | int _ tb =>
                  refine PyProof.Rows.iadd_int ?_
                  have k12 := keeps_trans k1 k2
                  have st2 := st.keeps k12
                  obtain ⟨a', hx', _, vs2, n2, ho2, hrs2⟩ := st2.own x l hl
                  rw [hx] at hx'; injection hx' with hx'; subst hx'
                  have hlen : kk.toNat < l.length := by
                    rcases Nat.lt_or_ge kk.toNat l.length with hh | hh
                    · exact hh
                    · rw [List.getElem?_eq_none hh] at hold; cases hold
                  refine setItem_full (s := { s2 with toks := s2.toks + 1 }) ho2 hk0 (by omega) (by rw [List.size_toArray, hrs2.length]; omega) fun h' ⟨n', hg⟩ sb => ?_
                  obtain ⟨st3, ks3, fr3⟩ := st2.ownSet F hx hl sb ⟨vs2, n2, ho2, hrs2⟩ (l' := l.set kk.toNat (.int (old + j))) ⟨vs2.set kk.toNat (.int (old + j) s2.toks), n', by rw [hg]; simp, Reps.set (.int _ _) _ hrs2⟩
                  refine ⟨⟨Os.trans (Keeps.os k12) (os_of (h' := h') (tk := s2.toks + 1)), fun b o hb e => fr3 b o hb (Keeps.kp k12 b o e)⟩, fun b o hb hs e => ks3 b o hb hs (Keeps.kp k12 b o e), _, _, st3, hb⟩
            | _ => exact hb.elim
        | _ => exact hi.elim
  · -- one more into an own list
    rename_i x px m apos e pos p0 h
    cases hl : ω.lookup x with
    | none => simp only [hl] at h
    | some l =>
      cases hm : m == ("append" : Str) with
      | false => simp only [hl, hm] at h
      | true =>
        cases hc : (apos.endLine == pos.line && !isStar e && !(x == ("__debug__" : Str))) with
        | false => simp only [hl, hm, hc] at h
        | true =>
          simp only [hl, hm, hc] at h
          simp only [Bool.and_eq_true, Bool.not_eq_true'] at hc
          have : m = ("append" : Str) := by simpa using hm
          subst this
          obtain ⟨a, hx, hvv, ac⟩ := st.own x l hl
          have hse : [e].any isStar = false := by simp [hc.1.2]
          refine wpAny_Expr ?_ (by unfold interactive; rw [F.ok.kind]; rfl) rfl
          refine meth_rule rfl hc.1.1 hse (by show 1 < 20; decide) (load_own F hvv hc.2 fun pl => ?_)
          obtain ⟨vs, n, ho, hrs⟩ := id ac
          refine getMethod_list_append ho rfl rfl ?_
          refine callWith_meth hse (fun hn => by cases hn) (args_cons (Wp.mono (H.ev F.ok hr hw h.2 st.rel) ?_) (starEach_cons hc.1.2))
          rintro v s1 ⟨d, rd, hq, k⟩
          refine args_nil ?_
          subst hw
          have st1 := st.keeps k
          obtain ⟨a', hx', _, ac1⟩ := st1.own x l hl
          rw [hx] at hx'; injection hx' with hx'; subst hx'
          exact append_own F st1 hx hl ac1 h.1 rd fun s2 st2 fr ks => ⟨(Keeps.frW k).trans fr, fun b o hb hs e => ks b o hb hs (Keeps.kp k b o e), _, _, st2, hq⟩
  · rename_i t it body pos h
    obtain ⟨hns, hev⟩ := itW_ok H F.ok hr hw h st.rel
    refine wpAny_For (Wp.mono hev fun x s1 h1 => Wp.mono h1 ?_) (folded_plain hns _)
    rintro I s2 ⟨l, hl, k, wr, hfr, hlv, hit⟩
    obtain ⟨St, itr, st2⟩ := hit X.N (fun a ha => .inl ha)
    have aw := apart_of F st hfr
    subst hw
    refine for_loop F rfl itr aw (bw := fun σ1 ω1 Q => seqW (ex X.env.scope.names) body σ1 ω1 Q) (fun hb st1 => seq_ok HX F hr rfl hb st1) l s2 Q _ hl st2 (st.keeps k) fun f s' σ' ω' fr st' q => ?_
    refine ⟨⟨Os.trans (Keeps.os k) fr.1, fun b o hb e => fr.2.1 b o hb (fun hm => by rw [hfr b hm] at e; cases e) (Keeps.kp k b o e)⟩, fun b o hb hs e => fr.2.2 b o hb hs (Keeps.kp k b o e), σ', ω', st', q⟩
  · rename_i t body pos h
    obtain ⟨k, hk⟩ := h
    exact wpAny_While (while_loop H HX F hr hw k s s Q _ hk st FrW.refl (fun _ _ _ _ e => e) fun f s' p => p)
  · rename_i t a b pos h
    refine wpAny_If (Wp.mono (H.ts F.ok hr hw h st.rel) ?_)
    rintro c s1 ⟨hc, k⟩
    cases c with
    | true => exact Wp.mono (seq_ok HX F hr hw (hc.1 rfl) (st.keeps k)) fun f s2 p => PostS.to (Keeps.frW k) (Keeps.ks k) p
    | false => exact Wp.mono (seq_ok HX F hr hw (hc.2 rfl) (st.keeps k)) fun f s2 p => PostS.to (Keeps.frW k) (Keeps.ks k) p
  · rename_i e pos h
    refine wpAny_Return_some (Wp.mono (H.ev F.ok hr hw h st.rel) ?_)
    rintro v s1 ⟨d, rd, hq, k⟩
    exact ⟨Keeps.frW k, Keeps.ks k, σ, ω, st.keeps k, d, rd, hq⟩
  · rename_i t msg pos h
    refine wpAny_Assert_holds (Wp.mono (H.ts F.ok hr hw h st.rel) ?_)
    rintro c s1 ⟨⟨hc, hq⟩, k⟩
    exact ⟨hc, Keeps.frW k, Keeps.ks k, σ, ω, st.keeps k, hq⟩
  · rename_i pos h
    exact wpAny_Break ⟨FrW.refl, fun _ _ _ _ e => e, σ, ω, st, h⟩
theorem exN_ok (GG : GOk r w G) (m : Nat) : ∀ n, ExOk r w (exN G m n)
  | 0 => fun _ _ _ h _ => h.elim
  | n + 1 => stepS_ok (evN_ok GG m) (exN_ok GG m n)
end
end
section
/-- a display that makes a list of its own -/
noncomputable def freshW (R : Ev) (K : List (Str × NameKind)) (σ : Sto) (e : Expr) (Q : List D → Prop) : Prop :=
  match e with
  | .List es _ => evs R K σ es fun ds => ds.length ≤ 1000 ∧ Q ds
  | .BinOp (.List es lp) .Mult n _ => R.ev K σ (.List es lp) fun a => R.ev K σ n fun b => match a, b with
    | .lst x, .int j => x.length ≤ 16 ∧ j.natAbs ≤ 16 ∧ Q (List.replicate j.toNat x).flatten
    | _, _ => False
  | _ => False
noncomputable def freeze (ω : Own) (σ : Sto) : Sto := match ω with
  | [] => σ
  | (x, l) :: r => upd (freeze r σ) x (.lst l)
/-- a function's body -/
noncomputable def runF (R : Ev) (ex : List (Str × NameKind) → Sto → Own → Stmt → SQ → Prop) (K : List (Str × NameKind)) (os : List Str) : List Stmt → Sto → Own → (D → Prop) → Prop
  | [], _, _, Q => Q .none
  | st :: rest, σ, ω, Q =>
    let gen := ex K σ ω st fun o σ1 ω1 => match o with
      | .next => runF R ex K os rest σ1 ω1 Q
      | .brk => False
      | .ret d => Q d
    match st with
    | .Assign [.Name x _] e _ => match os.contains x && (ω.lookup x).isNone && isVar K x && !isSD e with
      | true => freshW R K σ e fun l => runF R ex K os rest (upd σ x .undef) ((x, l) :: ω) Q
      | false => gen
    | .Return (some e) _ => R.ev K (freeze ω σ) e Q
    | _ => gen
inductive FreshV (R : Ev) (K : List (Str × NameKind)) (σ : Sto) (Q : List D → Prop) : Expr → Prop where
  | a0 {es p} (h : evs R K σ es fun ds => ds.length ≤ 1000 ∧ Q ds) : FreshV R K σ Q (.List es p)
  | a1 {es lp n p} (h : R.ev K σ (.List es lp) fun a => R.ev K σ n fun b => match a, b with
    | .lst x, .int j => x.length ≤ 16 ∧ j.natAbs ≤ 16 ∧ Q (List.replicate j.toNat x).flatten
    | _, _ => False) : FreshV R K σ Q (.BinOp (.List es lp) .Mult n p)
theorem freshW_view {R : Ev} {K : List (Str × NameKind)} {σ : Sto} {Q : List D → Prop} {e : Expr} (h : freshW R K σ e Q) : FreshV R K σ Q e := by
  cases e with
  | List es p => exact .a0 h
  | BinOp l o n p =>
    cases l with
    | List es lp =>
      cases o with
      | Mult => exact .a1 h
      | _ => exact h.elim
    | _ => first | exact h.elim | (cases o <;> exact h.elim)
  | _ => exact h.elim
inductive RunV (R : Ev) (ex : List (Str × NameKind) → Sto → Own → Stmt → SQ → Prop) (K : List (Str × NameKind)) (os : List Str) (rest : List Stmt) (σ : Sto) (ω : Own) (Q : D → Prop) : Stmt → Prop where
  | a0 {x px e pos} (h : match os.contains x && (ω.lookup x).isNone && isVar K x && !isSD e with
      | true => freshW R K σ e fun l => runF R ex K os rest (upd σ x .undef) ((x, l) :: ω) Q
      | false => ex K σ ω (.Assign [.Name x px] e pos) fun o σ1 ω1 => match o with
      | .next => runF R ex K os rest σ1 ω1 Q
      | .brk => False
      | .ret d => Q d) : RunV R ex K os rest σ ω Q (.Assign [.Name x px] e pos)
  | a1 {e pos} (h : R.ev K (freeze ω σ) e Q) : RunV R ex K os rest σ ω Q (.Return (some e) pos)
  | a2 {st} (h : ex K σ ω st fun o σ1 ω1 => match o with
      | .next => runF R ex K os rest σ1 ω1 Q
      | .brk => False
      | .ret d => Q d) : RunV R ex K os rest σ ω Q st
theorem runF_view {R : Ev} {ex : List (Str × NameKind) → Sto → Own → Stmt → SQ → Prop} {K : List (Str × NameKind)} {os : List Str} {rest : List Stmt} {σ : Sto} {ω : Own} {Q : D → Prop} {st : Stmt} (h : runF R ex K os (st :: rest) σ ω Q) : RunV R ex K os rest σ ω Q st := by
  cases st with
  | Assign ts e p =>
    rcases ts with _ | ⟨t, _ | ⟨t2, ts⟩⟩
    · exact .a2 h
    · cases t with
      | Name x px => exact .a0 h
      | _ => exact .a2 h
    · first | exact .a2 h | (cases t <;> exact .a2 h)
  | Return e p =>
    cases e with
    | some e => exact .a1 h
    | none => exact .a2 h
  | _ => exact .a2 h
section
variable {r : Nat} {w : World} {R : Ev} {X : Cx} {own : Owns} {σ : Sto} {ω : Own} {s : Shared} {G : Gt}
/-- the caller's own lists -/
structure Up (X : Cx) (N0 : List Addr) : Prop where
  live : ∀ a ∈ N0, ∃ o, X.h0.get? a = some o
  sub : ∀ a ∈ N0, a ∈ X.N
theorem freeze_lookup : ∀ (ω : Own) (σ : Sto) (x : Str), (freeze ω σ).lookup x = match ω.lookup x with
    | some l => some (.lst l)
    | none => σ.lookup x
  | [], σ, x => rfl
  | (y, l) :: r, σ, x => by
    unfold freeze
    rw [upd_lookup, freeze_lookup r σ x, List.lookup_cons]
    by_cases h : x = y
    · subst h; simp
    · have : (x == y) = false := by simpa using h
      rw [if_neg h, this]
theorem fresh_ok (H : EvOk r w R) (ok : X.Ok) (hr : Room r X.A) (hw : X.w = w) {e : Expr} {Q : List D → Prop} (h : freshW R X.env.scope.names σ e Q) (rel : Rel X σ s.heap) :
    Wp w X.A (eval e X.env) (fun v s' => ∃ a l vs, v = .ref a ∧ Q l ∧ Keeps s s' ∧ s.heap.get? a = none ∧ s'.heap.get? a = some { cls := .type "list", data := .seq (List.toArray vs) } ∧ Reps (a :: X.N) s'.heap vs l) s := by
  have up : ∀ {h : Heap} {vs : List Value} {l : List D}, Reps X.N h vs l → Reps (h.objs.size :: X.N) h vs l := fun rr => rr.mono (fun b hb => (List.mem_cons.mp hb).elim (fun e => .inr (e ▸ get_size)) .inl) (Kp.ks Kp.refl)
  replace h := freshW_view h
  rcases h with h | h
  · refine wpAny_List (Wp.mono (evs_ok H ok hr hw h rel) ?_)
    rintro vs s1 ⟨ds, rds, ⟨hl, hq⟩, k, _, _⟩
    refine ⟨by rw [rds.length]; exact Nat.le_trans hl (by decide), ?_⟩
    have kp : Kp s1.heap (s1.heap.push { cls := .type "list", data := .seq vs.toArray }) := fun b o e => Heap.get?_push_of_some _ e
    exact ⟨_, ds, vs, rfl, hq, keeps_trans k (keeps_of (tk := s1.toks) kp), kp_none (Keeps.kp k) get_size, Heap.get?_push_size _ rfl, (up rds).kp kp⟩
  · refine wpAny_BinOp (Wp.mono (H.ev ok hr hw h rel) ?_)
    rintro v1 s1 ⟨d1, r1, h1, k1⟩
    refine Wp.mono (H.ev ok hr hw h1 (rel.keeps k1)) ?_
    rintro v2 s2 ⟨d2, r2, h2, k2⟩
    subst hw
    split at h2
    · have r1' := r1.kp (Keeps.kp k2)
      cases r2
      cases r1' with
      | lst ha hl rs =>
        have k := keeps_trans k1 k2
        refine mul_list_ok hl (by have := h2.2.1; omega) (by have := h2.2.1; omega) (by
          rw [rs.length]
          exact Nat.le_trans (Nat.mul_le_mul h2.1 (show _ ≤ 16 by have := h2.2.1; omega)) (by decide)) ?_
        have kp : ∀ ob : Obj, Kp s2.heap (s2.heap.push ob) := fun ob b o e => Heap.get?_push_of_some _ e
        exact ⟨_, _, _, rfl, h2.2.2, keeps_trans k (keeps_of (tk := s2.toks) (kp _)), kp_none (Keeps.kp k) get_size, Heap.get?_push_size _ rfl, (up (rs.rep _)).kp (kp _)⟩
    · exact h2.elim
/-- a body's end, as the caller sees it -/
noncomputable def PostF (X : Cx) (N0 : List Addr) (Q : D → Prop) (s : Shared) (f : Flow) (s' : Shared) : Prop :=
  Os s s' ∧ Kp X.h0 s'.heap ∧ ∃ v d, (f = .ret v ∨ (f = .next ∧ v = .none)) ∧ Rep N0 s'.heap v d ∧ Q d
theorem frozen_rel (F : FnCx X own) {N0 : List Addr} (U : Up X N0) (st : StR X own σ ω s.heap) : Rel { X with N := N0 } (freeze ω σ) s.heap where
  base := st.rel.base
  ns := st.rel.ns
  vars := fun x d hx hu => by
    rw [freeze_lookup] at hx
    cases hl : ω.lookup x with
    | none =>
      rw [hl] at hx
      obtain ⟨v, hv, hr⟩ := st.rel.vars x d hx hu
      exact ⟨v, hv, hr.mono (fun a ha => .inl (U.sub a ha)) (Kp.ks Kp.refl)⟩
    | some l =>
      rw [hl] at hx
      injection hx with hx
      subst hx
      obtain ⟨a, e1, hv, vs, n, ho, hr⟩ := st.own x l hl
      refine ⟨.ref a, hv, .lst (fun hm => ?_) ⟨_, ho, rfl, n, rfl⟩ (hr.mono (fun a ha => .inl (U.sub a ha)) (Kp.ks Kp.refl))⟩
      obtain ⟨o, ho2⟩ := U.live a hm
      rw [(F.oin x a e1).2] at ho2; cases ho2
  nin := fun a ha => st.rel.nin a (U.sub a ha)
  cl := st.rel.cl
theorem ext_rel (st : StR X own σ ω s.heap) {a : Addr} (hf : s.heap.get? a = none) {h' : Heap} (k : Kp s.heap h') (ha : ∃ o, h'.get? a = some o) : StR { X with N := a :: X.N } own σ ω h' := by
  have up : ∀ b ∈ a :: X.N, b ∈ X.N ∨ s.heap.get? b = none := fun b hb => (List.mem_cons.mp hb).elim (fun e => .inr (e ▸ hf)) .inl
  refine ⟨⟨st.rel.base.trans k, let ⟨m, n⟩ := st.rel.ns; ⟨m, n.keeps k⟩, fun x d hx hu => ?_, fun b hb => ?_, fun x c hx => let ⟨o, e⟩ := st.rel.cl x c hx; ⟨o, k _ _ e⟩⟩, fun x c e => let ⟨v, o, ho, hd⟩ := st.cel x c e; ⟨v, o, k _ _ ho, hd⟩, fun x l e => ?_⟩
  · obtain ⟨v, hv, hr⟩ := st.rel.vars x d hx hu
    exact ⟨v, hv.kp k, (hr.mono up (Kp.ks Kp.refl)).kp k⟩
  · rcases List.mem_cons.mp hb with rfl | hb
    · exact ha
    · obtain ⟨o, ho⟩ := st.rel.nin b hb
      exact ⟨o, k _ _ ho⟩
  · obtain ⟨b, e1, hv, vs, n, ho, hr⟩ := st.own x l e
    exact ⟨b, e1, hv.kp k, vs, n, k _ _ ho, (hr.mono up (Kp.ks Kp.refl)).kp k⟩
theorem ok_sub (ok : X.Ok) (N0 : List Addr) : Cx.Ok { X with N := N0 } := ⟨ok.kind, ok.gl, ok.bl, ok.glob, ok.fresh, ok.hd, ok.units, ok.cells⟩
theorem runF_ok {ex : List (Str × NameKind) → Sto → Own → Stmt → SQ → Prop} (H : EvOk r w R) (HX : ExOk r w ex) {os : List Str} {N0 : List Addr} (l : List Stmt) : ∀ {X : Cx} {own : Owns} {σ : Sto} {ω : Own} {s : Shared} {Q : D → Prop}, FnCx X own → Up X N0 → Room r X.A → X.w = w →
    runF R ex X.env.scope.names os l σ ω Q → StR X own σ ω s.heap → Wp w X.A (execs l X.env) (PostF X N0 Q s) s := by
  induction l with
  | nil =>
    intro X own σ ω s Q F U hr hw h st
    exact wpAny_execs_nil ⟨Os.refl, st.rel.base, .none, .none, .inr ⟨rfl, rfl⟩, .none, h⟩
  | cons a l ih =>
    intro X own σ ω s Q F U hr hw h st
    have gen : (ex X.env.scope.names σ ω a fun o σ1 ω1 => match o with
        | .next => runF R ex X.env.scope.names os l σ1 ω1 Q
        | .brk => False
        | .ret d => Q d) → Wp w X.A (execs (a :: l) X.env) (PostF X N0 Q s) s := by
      intro h
      refine wpAny_execs_cons (Wp.mono (HX F hr hw h st) ?_)
      rintro f s1 ⟨fr, ks, σ1, ω1, st1, hf⟩
      cases f with
      | next =>
        refine Wp.mono (ih F U hr hw hf st1) ?_
        rintro f s2 ⟨o2, k2, q⟩
        exact ⟨fr.1.trans o2, k2, q⟩
      | brk => exact hf.elim
      | ret v =>
        obtain ⟨d, rd, hq⟩ := hf
        exact ⟨fr.1, st1.rel.base, v, d, .inl rfl, rd.mono (fun b hb => .inl (U.sub b hb)) (Kp.ks Kp.refl), hq⟩
      | cont => exact hf.elim
    replace h := runF_view h
    rcases h with h | h | h
    · rename_i x px e pos
      split at h
      · rename_i hc
        simp only [Bool.and_eq_true, Bool.not_eq_true'] at hc
        refine wpAny_execs_cons (wpAny_Assign_Name (Wp.mono (fresh_ok H F.ok hr hw h st.rel) ?_) (swaps_plain hc.2 _ _ _))
        rintro v s1 ⟨a, ll, vs, rfl, hq, k, hf, ha, hrs⟩
        subst hw
        have st1 := ext_rel st hf (Keeps.kp k) ⟨_, ha⟩
        have hωx : ω.lookup x = none := by simpa using hc.1.1.2
        have F1 : FnCx { X with N := a :: X.N } own := ⟨ok_sub F.ok _, F.cfresh, F.cinj, fun y b e => ⟨.tail _ (F.oin y b e).1, (F.oin y b e).2⟩, F.oinj⟩
        refine Wp.mono (store_any (X := { X with N := a :: X.N }) (d := .obj a) F1 st1 hc.1.2 hωx (.obj a)) ?_
        rintro _ s2 ⟨st2, fr2, ks2⟩
        have hnw : ¬ Wr { X with N := a :: X.N } own a := by
          rintro (e | ⟨y, e⟩ | ⟨y, e⟩)
          · obtain ⟨m, n⟩ := st.rel.ns
            obtain ⟨o, ho, _⟩ := ns_live n
            rw [e] at hf
            rw [hf] at ho; cases ho
          · obtain ⟨o, ho⟩ := st.rel.cl y a e
            rw [hf] at ho; cases ho
          · obtain ⟨o, ho⟩ := st.rel.nin a (F.oin y a e).1
            rw [hf] at ho; cases ho
        have ha0 : X.h0.get? a = none := kp_none st.rel.base hf
        have F2 : FnCx { X with N := a :: X.N } ((x, a) :: own) := by
          refine ⟨F1.ok, F1.cfresh, F1.cinj, fun y b e => ?_, fun y z b e1 e2 => ?_⟩
          · rw [List.lookup_cons] at e
            split at e
            · injection e with e; subst e; exact ⟨.head _, ha0⟩
            · exact F1.oin y b e
          · have live : ∀ y b, own.lookup y = some b → b ≠ a := by
              rintro y b e rfl
              obtain ⟨o, ho⟩ := st.rel.nin b (F.oin y b e).1
              rw [hf] at ho; cases ho
            rw [List.lookup_cons] at e1 e2
            split at e1
            · rename_i h1
              injection e1 with e1
              split at e2
              · rename_i h2
                rw [beq_iff_eq] at h1 h2
                rw [h1, h2]
              · exact (live _ _ e2 e1.symm).elim
            · split at e2
              · injection e2 with e2
                exact (live _ _ e1 e2.symm).elim
              · exact F1.oinj y z b e1 e2
        have st3 : StR { X with N := a :: X.N } ((x, a) :: own) (upd σ x .undef) ((x, ll) :: ω) s2.heap := by
          refine ⟨st2.rel.weak fun y d hy hu => ?_, st2.cel, fun y l' e => ?_⟩
          · rw [upd_lookup] at hy ⊢
            by_cases hyx : y = x
            · rw [if_pos hyx] at hy; injection hy with hy; subst hy; cases hu
            · rw [if_neg hyx] at hy ⊢; exact hy
          · rw [List.lookup_cons] at e
            by_cases hyx : y = x
            · subst hyx
              simp only [beq_self_eq_true] at e
              injection e with e
              subst e
              obtain ⟨v', hv', hr'⟩ := st2.rel.vars y (.obj a) (by rw [upd_lookup, if_pos rfl]) rfl
              cases hr'
              exact ⟨a, by simp, hv', vs, _, fr2.2 _ _ hnw ha, hrs.ks ks2⟩
            · have hb : (y == x) = false := by simpa using hyx
              rw [hb] at e
              obtain ⟨b, e1, hv, ac⟩ := st2.own y l' e
              exact ⟨b, by rw [List.lookup_cons, hb]; exact e1, hv, ac⟩
        refine Wp.mono (ih (X := { X with N := a :: X.N }) (own := (x, a) :: own) F2 ⟨U.live, fun b hb => .tail _ (U.sub b hb)⟩ hr rfl hq st3) ?_
        rintro f s3 ⟨o3, k3, q⟩
        exact ⟨Os.trans (Keeps.os k) (Os.trans fr2.1 o3), k3, q⟩
      · exact gen h
    · rename_i e pos
      have hrel := frozen_rel F U st
      refine wpAny_execs_cons (wpAny_Return_some (Wp.mono (H.ev (X := { X with N := N0 }) (ok_sub F.ok N0) hr hw h hrel) ?_))
      rintro v s1 ⟨d, rd, hq, k⟩
      exact ⟨Keeps.os k, st.rel.base.trans (Keeps.kp k), v, d, .inl rfl, rd, hq⟩
    · exact gen h
end
end
section
noncomputable def sto0 (names : List (Str × NameKind)) (bs : List (Str × D)) : Sto :=
  match names with
  | [] => []
  | (x, k) :: r => match k with
    | .local => (x, (bs.lookup x).getD .undef) :: sto0 r bs
    | .cell => (x, (bs.lookup x).getD .undef) :: sto0 r bs
    | _ => sto0 r bs
theorem sto0_mem {bs : List (Str × D)} {x : Str} {d : D} : ∀ {names : List (Str × NameKind)}, (sto0 names bs).lookup x = some d → d.undefd = false → bs.lookup x = some d
  | [], h, _ => by cases h
  | (n, k) :: r, h, hu => by
    unfold sto0 at h
    have key : ((n, (bs.lookup n).getD .undef) :: sto0 r bs).lookup x = some d → bs.lookup x = some d := by
      intro h
      by_cases hx : x = n
      · subst hx
        simp only [List.lookup_cons, beq_self_eq_true] at h
        injection h with h
        cases hs : bs.lookup x with
        | none => rw [hs] at h; simp only [Option.getD_none] at h; subst h; cases hu
        | some e => rw [hs] at h; simp only [Option.getD_some] at h; subst h; rfl
      · have : (x == n) = false := by simpa using hx
        rw [List.lookup_cons, this] at h
        exact sto0_mem h hu
    cases k with
    | «local» => exact key h
    | cell => exact key h
    | _ => exact sto0_mem h hu
theorem cellsFrom_mem : ∀ (names : List (Str × NameKind)) (n : Nat) (acc : List (Str × Addr)) (x : Str), ((x, NameKind.cell) ∈ names ∨ ∃ c, (x, c) ∈ acc) → ∃ c, (x, c) ∈ cellsFrom n names acc
  | [], n, acc, x, h => by
    rcases h with h | h
    · cases h
    · exact h
  | (y, k) :: r, n, acc, x, h => by
    unfold cellsFrom
    split
    · rename_i hk
      refine cellsFrom_mem r _ _ x ?_
      rcases h with h | ⟨c, h⟩
      · rcases List.mem_cons.mp h with e | h
        · injection e with e _; subst e; exact .inr ⟨n, .head _⟩
        · exact .inl h
      · exact .inr ⟨c, .tail _ h⟩
    · rename_i hk
      refine cellsFrom_mem r _ _ x ?_
      rcases h with h | h
      · rcases List.mem_cons.mp h with e | h
        · injection e with _ e; subst e; exact (hk rfl).elim
        · exact .inl h
      · exact .inr h
theorem bindL_other {kindOf : Str → Option NameKind} {x : Str} : ∀ (bs : List (Str × Value)) (m : Str → Option Value), (∀ p ∈ bs, p.1 ≠ x) → bindL kindOf bs m x = m x
  | [], m, _ => rfl
  | (n, v) :: r, m, h => by
    unfold bindL
    rw [bindL_other r _ fun p hp => h p (.tail _ hp)]
    split
    · have : ¬ x = n := fun e => h (n, v) (.head _) e.symm
      simp [this]
    · rfl
theorem bindL_get {kindOf : Str → Option NameKind} {x : Str} {v : Value} (hk : kindOf x = some .local) : ∀ (bs : List (Str × Value)) (m : Str → Option Value), (bs.map (·.1)).Nodup → bs.lookup x = some v → bindL kindOf bs m x = some v
  | [], m, _, h => by cases h
  | (n, w) :: r, m, hn, h => by
    unfold bindL
    simp only [List.map_cons, List.nodup_cons] at hn
    by_cases hx : x = n
    · subst hx
      simp only [List.lookup_cons, beq_self_eq_true] at h
      injection h with h
      subst h
      rw [bindL_other r _ fun p hp e => hn.1 (by rw [← e]; exact List.mem_map_of_mem hp), if_pos hk]
      simp
    · have : (x == n) = false := by simpa using hx
      rw [List.lookup_cons, this] at h
      exact bindL_get hk r _ hn.2 h
theorem bindC_other {kindOf : Str → Option NameKind} {x : Str} : ∀ (bs : List (Str × Value)) (m : Str → Option Value), (∀ p ∈ bs, p.1 ≠ x) → bindC kindOf bs m x = m x
  | [], m, _ => rfl
  | (n, v) :: r, m, h => by
    unfold bindC
    rw [bindC_other r _ fun p hp => h p (.tail _ hp)]
    split
    · rfl
    · have : ¬ x = n := fun e => h (n, v) (.head _) e.symm
      simp [this]
theorem bindC_get {kindOf : Str → Option NameKind} {x : Str} {v : Value} (hk : kindOf x ≠ some .local) : ∀ (bs : List (Str × Value)) (m : Str → Option Value), (bs.map (·.1)).Nodup → bs.lookup x = some v → bindC kindOf bs m x = some v
  | [], m, _, h => by cases h
  | (n, w) :: r, m, hn, h => by
    unfold bindC
    simp only [List.map_cons, List.nodup_cons] at hn
    by_cases hx : x = n
    · subst hx
      simp only [List.lookup_cons, beq_self_eq_true] at h
      injection h with h
      subst h
      rw [bindC_other r _ fun p hp e => hn.1 (by rw [← e]; exact List.mem_map_of_mem hp), if_neg hk]
      simp
    · have : (x == n) = false := by simpa using hx
      rw [List.lookup_cons, this] at h
      exact bindC_get hk r _ hn.2 h
theorem zip_reps {N : List Addr} {h : Heap} {x : Str} {d : D} : ∀ {ps : List Str} {vs : List Value} {ds : List D}, Reps N h vs ds → (ps.zip ds).lookup x = some d → ∃ v, (ps.zip vs).lookup x = some v ∧ Rep N h v d ∧ x ∈ ps
  | [], _, _, _, e => by simp at e
  | p :: ps, _, _, .nil, e => by simp at e
  | p :: ps, _, _, .cons (v := v) r rs, e => by
    rw [List.zip_cons_cons, List.lookup_cons] at e
    by_cases hx : x = p
    · subst hx
      simp only [beq_self_eq_true] at e
      injection e with e
      subst e
      exact ⟨v, by simp, r, .head _⟩
    · have : (x == p) = false := by simpa using hx
      rw [this] at e
      obtain ⟨v', h1, h2, h3⟩ := zip_reps rs e
      exact ⟨v', by rw [List.zip_cons_cons, List.lookup_cons, this]; exact h1, h2, .tail _ h3⟩
theorem pair_unique {cs : List (Str × Addr)} (hp : cs.Pairwise fun x y => x.2 ≠ y.2) {x y : Str} {c : Addr} (h1 : (x, c) ∈ cs) (h2 : (y, c) ∈ cs) : x = y := by
  induction cs with
  | nil => cases h1
  | cons p r ih =>
    rw [List.pairwise_cons] at hp
    rcases List.mem_cons.mp h1 with e1 | h1
    · rcases List.mem_cons.mp h2 with e2 | h2
      · rw [← e1] at e2; injection e2 with e2; exact e2.symm
      · exact (hp.1 _ h2 (by rw [← e1])).elim
    · rcases List.mem_cons.mp h2 with e2 | h2
      · exact (hp.1 _ h1 (by rw [← e2])).elim
      · exact ih hp.2 h1 h2
/-- what is asked of a definition -/
structure DefOk (d : DefRec) (ps : List Str) : Prop where
  mem : d ∈ recsOf qv
  bind : ∀ pm code doc vals, vals.length = ps.length → bindArgs (docDef d.name d.params d.body d.scope pm code doc) ⟨vals, []⟩ = pure (ps.zip vals)
  kind : d.scope.kind = .function
  co : d.scope.isCoroutine = false
  gen : d.scope.isGenerator = false
  nd : ps.Nodup
  pk : ∀ p ∈ ps, d.scope.names.lookup p = some .local ∨ d.scope.names.lookup p = some .cell
theorem zip_fst {α β : Type} : ∀ (a : List α) (b : List β), (a.zip b).map (·.1) = a.take b.length
  | [], b => by simp
  | x :: a, [] => by simp
  | x :: a, y :: b => by simp [zip_fst a b]
theorem def_core {r : Nat} {w : World} {R : Ev} {ex : List (Str × NameKind) → Sto → Own → Stmt → SQ → Prop} {d : DefRec} {ps os : List Str} (H : EvOk r w R) (HX : ExOk r w ex) (D0 : DefOk d ps) (h : Heap) (g : Gl w h) :
    ∃ fv, (∀ m, h.Ns mainGlobals m → m d.name = some fv) ∧ FnAt (r + 1) w d.name (fun ds Q => ds.length = ps.length ∧ runF R ex d.scope.names os d.body (sto0 d.scope.names (ps.zip ds)) [] Q) h fv := by
  obtain ⟨mg, mb, mean, T, K⟩ := g
  obtain ⟨a, o, pm, code, doc, hmg, ho, hdat, hcd⟩ := T.fn d D0.mem
  refine ⟨.ref a, fun m hm => (ns_det hm T.g d.name).trans hmg, ⟨?_, ?_, ?_⟩⟩
  · intro A env s Q eg eb k q
    exact loadGlobal_global (mg := mg) (by rw [eg]; exact T.g.keeps k) hmg q
  · intro A env pos e rest s Q hst k hsp
    have hs2 := hst
    simp only [List.any_cons, Bool.or_eq_false_iff] at hs2
    refine callWith_def (o := o) hdat (Wp.mono hsp fun vs s1 ⟨k1, q⟩ => ⟨k1 _ _ ho, q⟩) (starEach_cons hs2.1)
  · rintro X s vs ds Q rfl hr am hh k rds ⟨hlen, hrun⟩
    have hvl : vs.length = ps.length := by rw [rds.length]; exact hlen
    have T' := T.keeps k
    let fd := docDef d.name d.params d.body d.scope pm code doc
    let Ev := callEnvC fd s.heap.objs.size a
    have hcs : ∀ x c, (cellsFrom (s.heap.objs.size + 1) d.scope.names []).lookup x = some c → (x, c) ∈ cellsFrom (s.heap.objs.size + 1) d.scope.names [] := fun x c e => lookup_mem e
    have hcell : ∀ x, d.scope.names.lookup x = some .cell → ∃ c, (cellsFrom (s.heap.objs.size + 1) d.scope.names []).lookup x = some c := fun x hx => by
      obtain ⟨c, hc⟩ := cellsFrom_mem d.scope.names (s.heap.objs.size + 1) [] x (.inl (lookup_mem hx))
      obtain ⟨c', h1, _⟩ := mem_lookup hc
      exact ⟨c', h1⟩
    have hnd : ((ps.zip vs).map (·.1)).Nodup := by
      rw [zip_fst, hvl, List.take_length]; exact D0.nd
    refine wpAny_call (codeAny_call_cells (fd := fd) (binds := ps.zip vs) (by have := hr.1; omega) (k _ _ ho) hdat T'.nolimit (hcd.keeps k) rfl (D0.bind pm code doc vs hvl) rfl ?_ ?_ D0.co D0.gen D0.kind)
    · intro x hx
      have hxp : x.1 ∈ ps := by
        have : x.1 ∈ (ps.zip vs).map (·.1) := List.mem_map_of_mem hx
        rw [zip_fst] at this
        exact List.mem_of_mem_take this
      rcases D0.pk x.1 hxp with e | e
      · exact .inl e
      · obtain ⟨c, hc⟩ := hcell x.1 e
        exact .inr ⟨e, by rw [show fd.scope.names = d.scope.names from rfl, hc]; rfl⟩
    · intro s1 ic
      have X'ok : Cx.Ok ⟨X.w, X.A.deeper Ev, Ev, X.N, s.heap⟩ :=
        { kind := D0.kind, gl := rfl, bl := rfl, glob := am.glob, fresh := get_size, hd := hh
          units := by
            have := hr.2
            show X.A.units + 3 + 64 < cLine
            omega
          cells := fun x hx => hcell x hx }
      have F : FnCx ⟨X.w, X.A.deeper Ev, Ev, X.N, s.heap⟩ [] :=
        { ok := X'ok
          cfresh := fun x c e => by
            have habove : s.heap.objs.size < c := ic.above x c (hcs x c e)
            cases e2 : s.heap.get? c with
            | none => rfl
            | some o' => exact absurd (Heap.lt_size e2) (Nat.not_lt.mpr (Nat.le_of_lt habove))
          cinj := fun x y c e1 e2 => pair_unique ic.apart (hcs x c e1) (hcs y c e2)
          oin := fun x b e => by cases e
          oinj := fun x y b e => by cases e }
      have st : StR ⟨X.w, X.A.deeper Ev, Ev, X.N, s.heap⟩ [] (sto0 d.scope.names (ps.zip ds)) [] s1.heap := by
        refine ⟨⟨ic.toInCall.keep, ⟨_, ic.toInCall.ns⟩, fun x dd hx hu => ?_, fun b hb => ?_, fun x c e => ?_⟩, fun x c e => ⟨_, ic.cell x c e⟩, fun x l e => by cases e⟩
        · obtain ⟨v, hv, hrv, hxp⟩ := zip_reps rds (sto0_mem hx hu)
          refine ⟨v, ?_, hrv.kp ic.toInCall.keep⟩
          rcases D0.pk x hxp with e | e
          · exact .inl ⟨e, _, ic.toInCall.ns, bindL_get e _ _ hnd hv⟩
          · obtain ⟨c, hc⟩ := hcell x e
            refine .inr ⟨e, c, hc, ?_⟩
            have := ic.cell x c hc
            rw [bindC_get (show Ev.kindOf x ≠ some .local from by
              show d.scope.names.lookup x ≠ _
              rw [e]; simp) _ _ hnd hv] at this
            exact this
        · obtain ⟨o', ho'⟩ := am.nin b hb
          exact ⟨o', ic.toInCall.keep _ _ ho'⟩
        · obtain ⟨o', ho', _⟩ := ic.cell x c e
          exact ⟨o', ho'⟩
      have hroom : Room r (X.A.deeper Ev) := ⟨by have := hr.1; show X.A.depth + 1 + r < recursionLimit; omega, by have := hr.2; show X.A.units + 3 + 64 + 8 * r < cLine; omega⟩
      have hrun' := runF_ok H HX (os := os) (N0 := X.N) d.body F ⟨am.nin, fun b hb => hb⟩ hroom rfl hrun st
      refine wpAny_mono hrun' ?_ fun _ _ f => f.elim
      rintro f s2 ⟨o2, kp2, v, dd, hf, hrv, hq⟩
      have hk : Keeps s s2 := by
        obtain ⟨h1, t1, e1⟩ := ic.toInCall.same
        obtain ⟨h2, t2, g2, e2, hg2⟩ := o2
        subst e1
        subst e2
        exact ⟨h2, t2, g2, rfl, kp2, hg2⟩
      rcases hf with rfl | ⟨rfl, rfl⟩
      · exact ⟨dd, hrv, hq, hk⟩
      · exact ⟨dd, hrv, hq, hk⟩
theorem def_any {r : Nat} {w : World} {R : Ev} {ex : List (Str × NameKind) → Sto → Own → Stmt → SQ → Prop} {d : DefRec} {ps os : List Str} (H : EvOk r w R) (HX : ExOk r w ex) (D0 : DefOk d ps) (h : Heap) (g : Gl w h) :
    ∃ fv, FnAt (r + 1) w d.name (fun ds Q => ds.length = ps.length ∧ runF R ex d.scope.names os d.body (sto0 d.scope.names (ps.zip ds)) [] Q) h fv :=
  let ⟨fv, _, F⟩ := def_core H HX D0 h g
  ⟨fv, F⟩
theorem def_at {r : Nat} {w : World} {G : Gt} {m n : Nat} {d : DefRec} {ps os : List Str} (GG : GOk r w G) (D0 : DefOk d ps) (h : Heap) (g : Gl w h) :
    ∃ fv, FnAt (r + 1) w d.name (fun ds Q => ds.length = ps.length ∧ runF (evN G m) (exN G m n) d.scope.names os d.body (sto0 d.scope.names (ps.zip ds)) [] Q) h fv :=
  def_any (evN_ok GG m) (exN_ok GG m n) D0 h g
end
section
section
variable {r : Nat} {w : World} {G : Gt} {f : Str} {c : Con}
theorem FnAt.weak {h : Heap} {fv : Value} {c' : Con} (F : FnAt r w f c h fv) (hc : ∀ ds Q, c' ds Q → c ds Q) : FnAt r w f c' h fv := ⟨F.load, F.cw, fun a b d e k g q => F.run a b d e k g (hc _ _ q)⟩
theorem FnAt.up {h : Heap} {fv : Value} (F : FnAt r w f c h fv) : FnAt (r + 1) w f c h fv := ⟨F.load, F.cw, fun a b d e k g q => F.run a ⟨by have := b.1; omega, by have := b.2; omega⟩ d e k g q⟩
theorem GOk.up (g : GOk r w G) : GOk (r + 1) w G := fun f c e h gl => let ⟨fv, F⟩ := g f c e h gl; ⟨fv, F.up⟩
theorem GOk.nil : GOk r w [] := fun f c e => by cases e
theorem GOk.cons (h1 : ∀ h, Gl w h → ∃ fv, FnAt r w f c h fv) (g : GOk r w G) : GOk r w ((f, c) :: G) := fun f' c' e h gl => by
  rw [List.lookup_cons] at e
  by_cases hx : f' = f
  · subst hx
    simp only [beq_self_eq_true] at e
    injection e with e
    subst e
    exact h1 h gl
  · have : (f' == f) = false := by simpa using hx
    rw [this] at e
    exact g f' c' e h gl
/-- a built-in function -/
theorem builtin_at {id : String} (h1 : ∀ P, nsIn (Kf P) mainGlobals f = some none) (h2 : bootBuiltins f = some (.builtin id)) (h3 : f ≠ ("__name__" : Str))
    (run : ∀ {X : Cx} {s : Shared} {vs : List Value} {ds : List D} {Q : D → Prop}, X.w = w → Am X s.heap → Reps X.N s.heap vs ds → c ds Q → Wp w X.A (call (.builtin id) vs) (Gq X Q s) s) (h : Heap) (g : Gl w h) : ∃ fv, FnAt r w f c h fv := by
  refine ⟨.builtin id, ⟨?_, ?_, ?_⟩⟩
  · intro A env s Q eg eb k q
    exact load_bi g h1 h2 h3 eg eb k q
  · intro A env pos e rest s Q hst k hsp
    have hs2 := hst
    simp only [List.any_cons, Bool.or_eq_false_iff] at hs2
    exact PyProof.Rows.callWith_builtin1 (Wp.mono hsp fun vs s1 q => q.2) (starEach_cons hs2.1) (any_star hs2.2)
  · intro X s vs ds Q hw hr am hh k rds hc
    exact run hw am rds hc
theorem type_at {id : String} (h1 : ∀ P, nsIn (Kf P) mainGlobals f = some none) (h2 : bootBuiltins f = some (.type id)) (h3 : f ≠ ("__name__" : Str))
    (run : ∀ {X : Cx} {s : Shared} {vs : List Value} {ds : List D} {Q : D → Prop}, X.w = w → Am X s.heap → Reps X.N s.heap vs ds → c ds Q → Wp w X.A (call (.type id) vs) (Gq X Q s) s) (h : Heap) (g : Gl w h) : ∃ fv, FnAt r w f c h fv := by
  refine ⟨.type id, ⟨?_, ?_, ?_⟩⟩
  · intro A env s Q eg eb k q
    exact load_bi g h1 h2 h3 eg eb k q
  · intro A env pos e rest s Q hst k hsp
    have hs2 := hst
    simp only [List.any_cons, Bool.or_eq_false_iff] at hs2
    exact PyProof.Rows.callWith_type1 (Wp.mono hsp fun vs s1 q => q.2) (starEach_cons hs2.1) (any_star hs2.2)
  · intro X s vs ds Q hw hr am hh k rds hc
    exact run hw am rds hc
noncomputable def chrC : Con := fun ds Q => match ds with
  | [.int i] => 0 ≤ i ∧ i ≤ 1114111 ∧ Q (.str [i.toNat])
  | _ => False
noncomputable def ordC : Con := fun ds Q => match ds with
  | [.str [c]] => Q (.int c)
  | _ => False
noncomputable def lenC : Con := fun ds Q => match ds with
  | [.str x] => x.length ≤ sizeLine ∧ Q (.int x.length)
  | [.lst x] => x.length ≤ sizeLine ∧ Q (.int x.length)
  | _ => False
noncomputable def intC : Con := fun ds Q => match ds with
  | [.int i] => Q (.int i)
  | _ => False
theorem chr_at (h : Heap) (g : Gl w h) : ∃ fv, FnAt r w "chr" chrC h fv := by
  refine builtin_at (id := "chr") (fun P => by kernel_rfl) (by kernel_rfl) (by decide) ?_ h g
  intro X s vs ds Q hw am rds hc
  unfold chrC at hc
  split at hc
  · rename_i i
    obtain ⟨_, rfl, r1⟩ := rds.one
    obtain ⟨t, rfl⟩ := r1.int_inv
    exact chr_of_range hc.1 hc.2.1 ⟨_, .str [i.toNat] _, hc.2.2, keeps_tok⟩
  · exact hc.elim
theorem ord_at (h : Heap) (g : Gl w h) : ∃ fv, FnAt r w "ord" ordC h fv := by
  refine builtin_at (id := "ord") (fun P => by kernel_rfl) (by kernel_rfl) (by decide) ?_ h g
  intro X s vs ds Q hw am rds hc
  unfold ordC at hc
  split at hc
  · cases rds with
    | cons r1 rs =>
      cases rs; cases r1
      exact ord_of_one rfl ⟨_, .int _ _, hc, keeps_tok⟩
  · exact hc.elim
theorem len_at (h : Heap) (g : Gl w h) : ∃ fv, FnAt r w "len" lenC h fv := by
  refine builtin_at (id := "len") (fun P => by kernel_rfl) (by kernel_rfl) (by decide) ?_ h g
  intro X s vs ds Q hw am rds hc
  unfold lenC at hc
  split at hc
  · cases rds with
    | cons r1 rs =>
      cases rs; cases r1
      rename_i x t
      refine PyProof.Rows.len_str (by have := hc.1; simp only [PySem.Str.length, List.size_toArray, sizeLine] at *; omega) ⟨.int x.length, ?_, hc.2, keeps_tok⟩
      have e : (⟨x.toArray⟩ : Str).length = x.length := by simp [PySem.Str.length]
      rw [e]; exact .int _ _
  · cases rds with
    | cons r1 rs =>
      cases rs
      cases r1 with
      | lst ha hl rs =>
        refine PyProof.Rows.len_list hl (by have := hc.1; rw [List.size_toArray, rs.length]; simp only [sizeLine] at *; omega) ⟨_, ?_, hc.2, keeps_tok⟩
        rw [List.size_toArray, rs.length]; exact .int _ _
  · exact hc.elim
theorem int_at (h : Heap) (g : Gl w h) : ∃ fv, FnAt r w "int" intC h fv := by
  refine type_at (id := "int") (fun P => by kernel_rfl) (by kernel_rfl) (by decide) ?_ h g
  intro X s vs ds Q hw am rds hc
  unfold intC at hc
  split at hc
  · cases rds with
    | cons r1 rs =>
      cases rs; cases r1
      exact call_int_int ⟨_, .int _ _, hc, keeps_refl⟩
  · exact hc.elim
noncomputable def G0 : Gt := [("chr", chrC), ("ord", ordC), ("len", lenC), ("int", intC)]
theorem G0_ok : GOk r w G0 := .cons chr_at (.cons ord_at (.cons len_at (.cons int_at .nil)))
end
noncomputable def dN (nm : Str) (i : Nat) : DefRec := ⟨nm, fArgs (stAt i), fBody (stAt i), fScope (stAt i), fPos (stAt i)⟩
theorem lenv1 {l : List Value} (h : l.length = 1) : ∃ a, l = [a] := by
  rcases l with _ | ⟨a, _ | ⟨b, l⟩⟩
  · cases h
  · exact ⟨a, rfl⟩
  · cases h
theorem lenv2 {l : List Value} (h : l.length = 2) : ∃ a b, l = [a, b] := by
  rcases l with _ | ⟨a, l⟩
  · cases h
  · obtain ⟨b, rfl⟩ := lenv1 (Nat.succ.inj h)
    exact ⟨a, b, rfl⟩
theorem lenv3 {l : List Value} (h : l.length = 3) : ∃ a b c, l = [a, b, c] := by
  rcases l with _ | ⟨a, l⟩
  · cases h
  · obtain ⟨b, c, rfl⟩ := lenv2 (Nat.succ.inj h)
    exact ⟨a, b, c, rfl⟩
theorem lenv4 {l : List Value} (h : l.length = 4) : ∃ a b c d, l = [a, b, c, d] := by
  rcases l with _ | ⟨a, l⟩
  · cases h
  · obtain ⟨b, c, d, rfl⟩ := lenv3 (Nat.succ.inj h)
    exact ⟨a, b, c, d, rfl⟩
theorem shown_def : DefOk (dN "_law_shown" 13) ["letter", "form"] where
  mem := List.mem_of_getElem? (i := 5) (by kernel_rfl)
  bind := fun pm code doc vals h => by
    obtain ⟨a, b, rfl⟩ := lenv2 h
    kernel_rfl
  kind := by kernel_rfl
  co := by kernel_rfl
  gen := by kernel_rfl
  nd := by decide
  pk := fun p hp => by
    rcases List.mem_cons.mp hp with rfl | hp
    · exact .inl (by kernel_rfl)
    · rw [List.mem_singleton.mp hp]; exact .inl (by kernel_rfl)
end
section
noncomputable def rn (G : Gt) (i : Nat) (os : List Str) (ps : List Str) (ds : List D) (Q : D → Prop) : Prop := runF (evN G 14) (exN G 14 6) (fScope (stAt i)).names os (fBody (stAt i)) (sto0 (fScope (stAt i)).names (ps.zip ds)) [] Q
noncomputable def alph : List Int := [119808, 119860, 119912, 120016, 120172, 120224, 120276, 120328, 120380, 120432]
noncomputable def shownN (c f : Nat) : Nat := if f < 2 then c - 32 * f else (alph.getD (f - 2) 0 + c - 97).toNat
theorem shown_low {c : Nat} {f : Int} (h0 : 0 ≤ f) (h2 : f < 2) (hc : 97 ≤ c ∧ c ≤ 122) {Q : D → Prop} (q : Q (.str [shownN c f.toNat])) : rn G0 13 [] ["letter", "form"] [.str [c], .int f] Q := by
  refine And.intro (fun h => ?_) (fun h => ?_)
  · refine Eq.mp (α := small 32 ∧ small f ∧ 0 ≤ ((c : Int) - 32 * f) ∧ ((c : Int) - 32 * f) ≤ 1114111 ∧ Q (.str [((c : Int) - 32 * f).toNat])) (by kernel_rfl) ?_
    have e : ((c : Int) - 32 * f).toNat = shownN c f.toNat := by unfold shownN; rw [if_pos (by omega)]; omega
    rw [e]
    exact ⟨by unfold small; decide, by unfold small; omega, by omega, by omega, q⟩
  · exact absurd h (by simp [h2])
theorem seqIndex_nat {k : Int} {n : Nat} (h0 : 0 ≤ k) (h1 : k < n) : seqIndex? k n = some k.toNat := by
  unfold seqIndex?
  rw [if_neg (by omega : ¬ k < 0)]
  simp [h0, h1]
theorem alph_get (j : Nat) (h : j < 10) : (alph.map fun a => D.int a)[j]? = some (.int (alph.getD j 0)) := by
  rw [List.getElem?_map]
  have : j < alph.length := h
  rw [List.getElem?_eq_getElem this, List.getD_eq_getElem?_getD, List.getElem?_eq_getElem this]
  rfl
theorem alph_le (j : Nat) : 0 ≤ alph.getD j 0 ∧ alph.getD j 0 ≤ 120432 := by
  by_cases h : j < 10
  · have : ∀ j : Fin 10, 0 ≤ alph.getD j.1 0 ∧ alph.getD j.1 0 ≤ 120432 := by decide
    exact this ⟨j, h⟩
  · have : alph.getD j 0 = 0 := by
      rw [List.getD_eq_getElem?_getD, List.getElem?_eq_none (by show 10 ≤ j; omega)]; rfl
    omega
theorem shown_high {c : Nat} {f : Int} (h0 : 2 ≤ f) (h2 : f < 12) (hc : 97 ≤ c ∧ c ≤ 122) {Q : D → Prop} (q : Q (.str [shownN c f.toNat])) : rn G0 13 [] ["letter", "form"] [.str [c], .int f] Q := by
  refine And.intro (fun h => ?_) (fun h => ?_)
  · exact absurd h (by simp; omega)
  · refine And.intro (by decide) ?_
    refine And.intro (by omega) (And.intro (by omega) (onSome_intro (d := (f - 2).toNat) (seqIndex_nat (n := 10) (by omega) (by omega)) (onSome_intro (alph_get (f - 2).toNat (by omega)) ?_)))
    refine Eq.mp (α := 0 ≤ (alph.getD (f - 2).toNat 0 + c - 97) ∧ (alph.getD (f - 2).toNat 0 + c - 97) ≤ 1114111 ∧ Q (.str [(alph.getD (f - 2).toNat 0 + c - 97).toNat])) (by kernel_rfl) ?_
    have hle := alph_le (f - 2).toNat
    have hge : 97 ≤ alph.getD (f - 2).toNat 0 + c := by omega
    have e : (alph.getD (f - 2).toNat 0 + c - 97).toNat = shownN c f.toNat := by
      unfold shownN
      rw [if_neg (by omega)]
      have : (f - 2).toNat = f.toNat - 2 := by omega
      rw [this]
    rw [e]
    exact ⟨by omega, by omega, q⟩
noncomputable def shownC : Con := fun ds Q => match ds with
  | [.str [c], .int f] => 97 ≤ c ∧ c ≤ 122 ∧ 0 ≤ f ∧ f < 12 ∧ Q (.str [shownN c f.toNat])
  | _ => False
theorem shown_at {r : Nat} {w : World} {G : Gt} (GG : GOk r w G0) (h : Heap) (g : Gl w h) : ∃ fv, FnAt (r + 1) w "_law_shown" shownC h fv := by
  obtain ⟨fv, F⟩ := def_at (m := 14) (n := 6) (os := []) GG shown_def h g
  refine ⟨fv, F.weak fun ds Q hq => ?_⟩
  unfold shownC at hq
  split at hq
  · rename_i c f
    refine ⟨rfl, ?_⟩
    by_cases h2 : f < 2
    · exact shown_low hq.2.2.1 h2 ⟨hq.1, hq.2.1⟩ hq.2.2.2.2
    · exact shown_high (by omega) hq.2.2.2.1 ⟨hq.1, hq.2.1⟩ hq.2.2.2.2
  · exact hq.elim
end
section
theorem ints_get {l : List Int} {j : Nat} (h : j < l.length) : (l.map fun a => D.int a)[j]? = some (.int (l.getD j 0)) := by
  rw [List.getElem?_map, List.getElem?_eq_getElem h, List.getD_eq_getElem?_getD, List.getElem?_eq_getElem h]
  rfl
/-- one name a parameter -/
theorem pk1 {p : Str} {K : List (Str × NameKind)} (h : K.lookup p = some .local ∨ K.lookup p = some .cell) : ∀ q ∈ [p], K.lookup q = some .local ∨ K.lookup q = some .cell := fun q hq => by
  rw [List.mem_singleton.mp hq]; exact h
theorem hidden_def : DefOk (dN "_law_hidden" 14) ["spot"] where
  mem := List.mem_of_getElem? (i := 6) (by kernel_rfl)
  bind := fun pm code doc vals h => by
    obtain ⟨a, rfl⟩ := lenv1 h
    kernel_rfl
  kind := by kernel_rfl
  co := by kernel_rfl
  gen := by kernel_rfl
  nd := by decide
  pk := pk1 (.inl (by kernel_rfl))
noncomputable def hidL : List Int := [173, 847, 6150, 6155, 6156, 6157, 8203, 8204, 8205, 8288, 65279]
noncomputable def hiddenN (i : Nat) : Nat := if i > 10 then 65013 + i else (hidL.getD i 0).toNat
noncomputable def hiddenC : Con := fun ds Q => match ds with
  | [.int i] => 0 ≤ i ∧ i < 27 ∧ Q (.str [hiddenN i.toNat])
  | _ => False
theorem hid_le (j : Nat) : 0 ≤ hidL.getD j 0 ∧ hidL.getD j 0 ≤ 65279 := by
  by_cases h : j < 11
  · have : ∀ j : Fin 11, 0 ≤ hidL.getD j.1 0 ∧ hidL.getD j.1 0 ≤ 65279 := by decide
    exact this ⟨j, h⟩
  · have : hidL.getD j 0 = 0 := by
      rw [List.getD_eq_getElem?_getD, List.getElem?_eq_none (by show 11 ≤ j; omega)]; rfl
    omega
theorem hidden_at {r : Nat} {w : World} (GG : GOk r w G0) (h : Heap) (g : Gl w h) : ∃ fv, FnAt (r + 1) w "_law_hidden" hiddenC h fv := by
  obtain ⟨fv, F⟩ := def_at (m := 14) (n := 6) (os := []) GG hidden_def h g
  refine ⟨fv, F.weak fun ds Q hq => ?_⟩
  unfold hiddenC at hq
  split at hq
  · rename_i i
    obtain ⟨h0, h1, q⟩ := hq
    refine ⟨rfl, ?_⟩
    show rn G0 14 [] ["spot"] [.int i] Q
    refine And.intro (fun h => ?_) (fun h => ?_)
    · have h10 : 10 < i := by simpa using h
      refine Eq.mp (α := 0 ≤ 65013 + i ∧ 65013 + i ≤ 1114111 ∧ Q (.str [(65013 + i).toNat])) (by kernel_rfl) ?_
      have e : (65013 + i).toNat = hiddenN i.toNat := by unfold hiddenN; rw [if_pos (by omega)]; omega
      rw [e]
      exact ⟨by omega, by omega, q⟩
    · have h10 : ¬ 10 < i := by simpa using h
      refine And.intro (by decide) (And.intro (by omega) (And.intro (by omega) (onSome_intro (d := i.toNat) (seqIndex_nat (n := 11) (by omega) (by omega)) (onSome_intro (ints_get (l := hidL) (j := i.toNat) (by show _ < 11; omega)) ?_))))
      refine Eq.mp (α := 0 ≤ hidL.getD i.toNat 0 ∧ hidL.getD i.toNat 0 ≤ 1114111 ∧ Q (.str [(hidL.getD i.toNat 0).toNat])) (by kernel_rfl) ?_
      have hle := hid_le i.toNat
      have e : (hidL.getD i.toNat 0).toNat = hiddenN i.toNat := by unfold hiddenN; rw [if_neg (by omega)]
      rw [e]
      exact ⟨hle.1, by omega, q⟩
  · exact hq.elim
theorem b1_def : DefOk (dN "in_table_b1" 2) ["code"] where
  mem := List.mem_of_getElem? (i := 0) (by kernel_rfl)
  bind := fun pm code doc vals h => by
    obtain ⟨a, rfl⟩ := lenv1 h
    kernel_rfl
  kind := by kernel_rfl
  co := by kernel_rfl
  gen := by kernel_rfl
  nd := by decide
  pk := pk1 (.inl (by kernel_rfl))
noncomputable def b1C : Con := fun ds Q => match ds with
  | [.str [c]] => Q (.bool (b1 c))
  | _ => False
theorem b1_at {r : Nat} {w : World} (GG : GOk r w G0) (h : Heap) (g : Gl w h) : ∃ fv, FnAt (r + 1) w "in_table_b1" b1C h fv := by
  obtain ⟨fv, F⟩ := def_at (m := 14) (n := 6) (os := []) GG b1_def h g
  refine ⟨fv, F.weak fun ds Q hq => ?_⟩
  unfold b1C at hq
  split at hq
  · rename_i c
    refine ⟨rfl, ?_⟩
    show rn G0 2 [] ["code"] [.str [c]] Q
    exact Eq.mp (α := 22 = 22 ∧ Q (.bool (b1 c))) (by kernel_rfl) ⟨rfl, hq⟩
  · exact hq.elim
theorem b3_def : DefOk (dN "map_table_b3" 4) ["code"] where
  mem := List.mem_of_getElem? (i := 1) (by kernel_rfl)
  bind := fun pm code doc vals h => by
    obtain ⟨a, rfl⟩ := lenv1 h
    kernel_rfl
  kind := by kernel_rfl
  co := by kernel_rfl
  gen := by kernel_rfl
  nd := by decide
  pk := pk1 (.inl (by kernel_rfl))
noncomputable def foldN (c : Nat) : List Nat := match b3Get c with
  | some z => z.cps.toList
  | none => (Txt.lower ⟨#[c]⟩).cps.toList
noncomputable def b3C : Con := fun ds Q => match ds with
  | [.str [c]] => Q (.str (foldN c))
  | _ => False
theorem b3_at {r : Nat} {w : World} (GG : GOk r w G0) (h : Heap) (g : Gl w h) : ∃ fv, FnAt (r + 1) w "map_table_b3" b3C h fv := by
  obtain ⟨fv, F⟩ := def_at (m := 14) (n := 6) (os := []) GG b3_def h g
  refine ⟨fv, F.weak fun ds Q hq => ?_⟩
  unfold b3C at hq
  split at hq
  · rename_i c
    refine ⟨rfl, ?_⟩
    show rn G0 4 [] ["code"] [.str [c]] Q
    unfold foldN at hq
    refine And.intro rfl (And.intro (fun z hz => And.intro (fun _ => ?_) (fun h => nomatch h)) (fun hz => And.intro (fun h => nomatch h) (fun _ => ?_)))
    · rw [hz] at hq
      exact Eq.mp (α := Q (.str z.cps.toList)) (by kernel_rfl) hq
    · rw [hz] at hq
      exact Eq.mp (α := [c].length ≤ 1000 ∧ Q (.str (Txt.lower ⟨#[c]⟩).cps.toList)) (by kernel_rfl) ⟨by show 1 ≤ 1000; decide, hq⟩
  · exact hq.elim
end
section
noncomputable def Gb : Gt := ("_law_shown", shownC) :: ("_law_hidden", hiddenC) :: ("in_table_b1", b1C) :: ("map_table_b3", b3C) :: G0
theorem Gb_ok {r : Nat} {w : World} : GOk (r + 1) w Gb := .cons (shown_at (G := G0) G0_ok) (.cons (hidden_at G0_ok) (.cons (b1_at G0_ok) (.cons (b3_at G0_ok) G0_ok)))
noncomputable def chinese (s p : Int) : Nat := (19968 + (s.fdiv 135 + 977 * p).fmod 20902).toNat
noncomputable def gapD (k s p : Int) : List Nat × List Nat :=
  if k = 0 then ([], []) else if k = 1 then ([hiddenN ((s + p).fmod 27).toNat], []) else if (s.fdiv 27 + p).fmod 5 = 0 then ([890], [32, 953]) else ([chinese s p], [chinese s p])
noncomputable def gapC : Con := fun ds Q => match ds with
  | [.int k, .int s, .int p] => 0 ≤ p ∧ p < 100 ∧ Q (.tup [.str (gapD k s p).1, .str (gapD k s p).2])
  | _ => False
theorem gap_def : DefOk (dN "_law_gap" 15) ["kind", "strange", "spot"] where
  mem := List.mem_of_getElem? (i := 7) (by kernel_rfl)
  bind := fun pm code doc vals h => by
    obtain ⟨a, b, c, rfl⟩ := lenv3 h
    kernel_rfl
  kind := by kernel_rfl
  co := by kernel_rfl
  gen := by kernel_rfl
  nd := by decide
  pk := fun p hp => by
    rcases List.mem_cons.mp hp with rfl | hp
    · exact .inl (by kernel_rfl)
    · rcases List.mem_cons.mp hp with rfl | hp
      · exact .inl (by kernel_rfl)
      · rw [List.mem_singleton.mp hp]; exact .inl (by kernel_rfl)
theorem gap_run {k s p : Int} (h0 : 0 ≤ p) (h1 : p < 100) {Q : D → Prop} (q : Q (.tup [.str (gapD k s p).1, .str (gapD k s p).2])) : rn Gb 15 [] ["kind", "strange", "spot"] [.int k, .int s, .int p] Q := by
  refine Eq.mp (α := ((k == 0) = true → 2 ≤ 1000 ∧ Q (.tup [.str [], .str []])) ∧ ((k == 0) = false →
    ((k == 1) = true → (27 : Int) ≠ 0 ∧ 0 ≤ (s + p).fmod 27 ∧ (s + p).fmod 27 < 27 ∧ 2 ≤ 1000 ∧ Q (.tup [.str [hiddenN ((s + p).fmod 27).toNat], .str []])) ∧
    ((k == 1) = false → (27 : Int) ≠ 0 ∧ (27 : Int).natAbs < 1073741824 ∧ (5 : Int) ≠ 0 ∧
      (((s.fdiv 27 + p).fmod 5 == 0) = true → 2 ≤ 1000 ∧ Q (.tup [.str [890], .str [32, 953]])) ∧
      (((s.fdiv 27 + p).fmod 5 == 0) = false → (135 : Int) ≠ 0 ∧ (135 : Int).natAbs < 1073741824 ∧ small 977 ∧ small p ∧ (20902 : Int) ≠ 0 ∧ 0 ≤ 19968 + (s.fdiv 135 + 977 * p).fmod 20902 ∧ 19968 + (s.fdiv 135 + 977 * p).fmod 20902 ≤ 1114111 ∧ 2 ≤ 1000 ∧
        Q (.tup [.str [(19968 + (s.fdiv 135 + 977 * p).fmod 20902).toNat], .str [(19968 + (s.fdiv 135 + 977 * p).fmod 20902).toNat]]))))) (by kernel_rfl) ?_
  have hz : 0 ≤ (s + p).fmod 27 := Int.fmod_nonneg_of_pos _ (by decide)
  have hl : (s + p).fmod 27 < 27 := Int.fmod_lt_of_pos _ (by decide)
  have hz2 : 0 ≤ (s.fdiv 135 + 977 * p).fmod 20902 := Int.fmod_nonneg_of_pos _ (by decide)
  have hl2 : (s.fdiv 135 + 977 * p).fmod 20902 < 20902 := Int.fmod_lt_of_pos _ (by decide)
  unfold gapD at q
  refine ⟨fun h => ?_, fun h => ⟨fun h2 => ?_, fun h2 => ?_⟩⟩
  · rw [if_pos (by simpa using h)] at q
    exact ⟨by decide, q⟩
  · rw [if_neg (by simpa using h), if_pos (by simpa using h2)] at q
    exact ⟨by decide, hz, hl, by decide, q⟩
  · rw [if_neg (by simpa using h), if_neg (by simpa using h2)] at q
    refine ⟨by decide, by decide, by decide, fun h3 => ?_, fun h3 => ?_⟩
    · rw [if_pos (by simpa using h3)] at q
      exact ⟨by decide, q⟩
    · rw [if_neg (by simpa using h3)] at q
      exact ⟨by decide, by decide, by unfold small; decide, by unfold small; omega, by decide, by omega, by omega, by decide, q⟩
theorem gap_at {r : Nat} {w : World} (h : Heap) (g : Gl w h) : ∃ fv, FnAt (r + 1 + 1) w "_law_gap" gapC h fv := by
  obtain ⟨fv, F⟩ := def_at (r := r + 1) (m := 14) (n := 6) (os := []) Gb_ok gap_def h g
  refine ⟨fv, F.weak fun ds Q hq => ?_⟩
  unfold gapC at hq
  split at hq
  · exact ⟨rfl, gap_run hq.1 hq.2.1 hq.2.2⟩
  · exact hq.elim
end
section
theorem fact_def : DefOk (dN "_law_factorial" 20) ["number"] where
  mem := List.mem_of_getElem? (i := 12) (by kernel_rfl)
  bind := fun pm code doc vals h => by
    obtain ⟨a, rfl⟩ := lenv1 h
    kernel_rfl
  kind := by kernel_rfl
  co := by kernel_rfl
  gen := by kernel_rfl
  nd := by decide
  pk := pk1 (.inl (by kernel_rfl))
noncomputable def factN : Nat → Nat
  | 0 => 1
  | n + 1 => (n + 1) * factN n
noncomputable def factC : Con := fun ds Q => match ds with
  | [.int i] => 0 ≤ i ∧ i ≤ 4 ∧ Q (.int (factN i.toNat))
  | _ => False
theorem sm (i : Int) (h : i.natAbs < 1000) : small i := by unfold small; omega
theorem fact_run {i : Int} (h0 : 0 ≤ i) (h1 : i ≤ 4) {Q : D → Prop} (q : Q (.int (factN i.toNat))) : rn Gb 20 [] ["number"] [.int i] Q := by
  have h : i = 0 ∨ i = 1 ∨ i = 2 ∨ i = 3 ∨ i = 4 := by omega
  rcases h with rfl | rfl | rfl | rfl | rfl
  · exact Eq.mp (α := 2 ≤ 1000 ∧ 1 ≤ 1000 ∧ Q (.int 1)) (by kernel_rfl) ⟨by decide, by decide, q⟩
  · exact Eq.mp (α := 2 ≤ 1000 ∧ 2 ≤ 1000 ∧ Q (.int 1)) (by kernel_rfl) ⟨by decide, by decide, q⟩
  · exact Eq.mp (α := 2 ≤ 1000 ∧ 3 ≤ 1000 ∧ small 1 ∧ small 2 ∧ Q (.int 2)) (by kernel_rfl) ⟨by decide, by decide, sm _ (by decide), sm _ (by decide), q⟩
  · exact Eq.mp (α := 2 ≤ 1000 ∧ 4 ≤ 1000 ∧ small 1 ∧ small 2 ∧ small 2 ∧ small 3 ∧ Q (.int 6)) (by kernel_rfl) ⟨by decide, by decide, sm _ (by decide), sm _ (by decide), sm _ (by decide), sm _ (by decide), q⟩
  · exact Eq.mp (α := 2 ≤ 1000 ∧ 5 ≤ 1000 ∧ small 1 ∧ small 2 ∧ small 2 ∧ small 3 ∧ small 6 ∧ small 4 ∧ Q (.int 24)) (by kernel_rfl) ⟨by decide, by decide, sm _ (by decide), sm _ (by decide), sm _ (by decide), sm _ (by decide), sm _ (by decide), sm _ (by decide), q⟩
theorem fact_at {r : Nat} {w : World} (h : Heap) (g : Gl w h) : ∃ fv, FnAt (r + 1 + 1) w "_law_factorial" factC h fv := by
  obtain ⟨fv, F⟩ := def_at (r := r + 1) (m := 14) (n := 6) (os := []) Gb_ok fact_def h g
  refine ⟨fv, F.weak fun ds Q hq => ?_⟩
  unfold factC at hq
  split at hq
  · exact ⟨rfl, fact_run hq.1 hq.2.1 hq.2.2⟩
  · exact hq.elim
end
section
/-- the while that stands as number j of a function's body -/
noncomputable def wAt (G : Gt) (i j n : Nat) : Nat → Sto → Own → SQ → Prop := match (fBody (stAt i))[j]? with
  | some (.While t body _ _) => whileW (fun σ1 Q => (evN G 14).ts (fScope (stAt i)).names σ1 t Q) (fun σ1 ω1 Q => seqW (exN G 14 n (fScope (stAt i)).names) body σ1 ω1 Q)
  | _ => fun _ _ _ _ => False
/-- the for that stands as number j of a function's body -/
noncomputable def fAt (G : Gt) (i j n : Nat) : List D → Sto → Own → SQ → Prop := match (fBody (stAt i))[j]? with
  | some (.For t _ body _ _) => forW (fScope (stAt i)).names t (fun σ1 ω1 Q => seqW (exN G 14 n (fScope (stAt i)).names) body σ1 ω1 Q)
  | _ => fun _ _ _ _ => False
/-- the rest of a body, from number j on -/
noncomputable def rest (G : Gt) (i j : Nat) (os : List Str) (σ : Sto) (ω : Own) (Q : D → Prop) : Prop := runF (evN G 14) (exN G 14 6) (fScope (stAt i)).names os ((fBody (stAt i)).drop j) σ ω Q
noncomputable def contF (G : Gt) (i j : Nat) (os : List Str) (Q : D → Prop) : SQ := fun o σ1 ω1 => match o with
  | .next => rest G i j os σ1 ω1 Q
  | .brk => False
  | .ret d => Q d
theorem strip_def : DefOk (dN "_strip_padding" 11) ["s", "amount"] where
  mem := List.mem_of_getElem? (i := 4) (by kernel_rfl)
  bind := fun pm code doc vals h => by
    obtain ⟨a, b, rfl⟩ := lenv2 h
    kernel_rfl
  kind := by kernel_rfl
  co := by kernel_rfl
  gen := by kernel_rfl
  nd := by decide
  pk := fun p hp => by
    rcases List.mem_cons.mp hp with rfl | hp
    · exact .inl (by kernel_rfl)
    · rw [List.mem_singleton.mp hp]; exact .inl (by kernel_rfl)
noncomputable def sS (s : List Nat) (a : Int) (l r : D) : Sto := [("s", .str s), ("amount", .int a), ("lpos", l), ("rpos", r)]
theorem strip_start {s : List Nat} {n : Int} {Q : D → Prop} (h : ∃ k, wAt Gb 11 1 5 k (sS s n (.int 0) .undef) [] (contF Gb 11 2 [] Q)) : rn Gb 11 [] ["s", "amount"] [.str s, .int n] Q :=
  Eq.mp (α := ∃ k, wAt Gb 11 1 5 k (sS s n (.int 0) .undef) [] (contF Gb 11 2 [] Q)) (by kernel_rfl) h
theorem strip_one_go {k : Nat} {s : List Nat} {n l : Int} {r : D} {Q : SQ} (hn : n ≠ 0) (h0 : 0 ≤ l) (h1 : l < s.length) (hs : s.length ≤ sizeLine) (hc : s[l.toNat]? = some 32)
    (h : wAt Gb 11 1 5 k (sS s (n - 1) (.int (l + 1)) r) [] Q) : wAt Gb 11 1 5 (k + 1) (sS s n (.int l) r) [] Q := by
  refine And.intro (fun hh => And.intro h0 (And.intro h1 (And.intro hs (onSome_intro hc ?_)))) (fun hh => ?_)
  · exact And.intro (fun _ => Eq.mp (α := wAt Gb 11 1 5 k (sS s (n - 1) (.int (l + 1)) r) [] Q) (by kernel_rfl) h) (fun hh => nomatch hh)
  · exact absurd hh (by simpa using hn)
theorem strip_one_end {k : Nat} {s : List Nat} {n l : Int} {r : D} {Q : SQ} (h : n = 0 ∨ (0 ≤ l ∧ l < s.length ∧ s.length ≤ sizeLine ∧ ∃ c, s[l.toNat]? = some c ∧ c ≠ 32))
    (q : Q .next (sS s n (.int l) r) []) : wAt Gb 11 1 5 (k + 1) (sS s n (.int l) r) [] Q := by
  by_cases hn : n = 0
  · subst hn
    refine And.intro (fun hh => nomatch hh) (fun _ => And.intro (fun hh => nomatch hh) (fun _ => q))
  · rcases h with h | ⟨h0, h1, hs, c, hc, hd⟩
    · exact absurd h hn
    · refine And.intro (fun hh => And.intro h0 (And.intro h1 (And.intro hs (onSome_intro hc ?_)))) (fun hh => absurd hh (by simpa using hn))
      have e : ([c] == [32]) = false := by simpa using hd
      exact And.intro (fun hh => absurd (Eq.symm e |>.trans (show ([c] == [32]) = true from hh)) (by decide)) (fun _ => q)
theorem strip_mid {s : List Nat} {n l : Int} {Q : D → Prop} (hs : s.length ≤ sizeLine) (h : ∃ k, wAt Gb 11 3 5 k (sS s n (.int l) (.int (s.length - 1))) [] (contF Gb 11 4 [] Q)) : contF Gb 11 2 [] Q .next (sS s n (.int l) .undef) [] :=
  Eq.mp (α := s.length ≤ sizeLine ∧ ∃ k, wAt Gb 11 3 5 k (sS s n (.int l) (.int (s.length - 1))) [] (contF Gb 11 4 [] Q)) (by kernel_rfl) ⟨hs, h⟩
theorem strip_two_go {k : Nat} {s : List Nat} {n l : Int} {r : D} {Q : SQ} (hn : n ≠ 0) (h0 : 0 ≤ l) (h1 : l < s.length) (hs : s.length ≤ sizeLine) (hc : s[l.toNat]? = some 32)
    (h : wAt Gb 11 3 5 k (sS s (n - 1) r (.int (l - 1))) [] Q) : wAt Gb 11 3 5 (k + 1) (sS s n r (.int l)) [] Q := by
  refine And.intro (fun hh => And.intro h0 (And.intro h1 (And.intro hs (onSome_intro hc ?_)))) (fun hh => ?_)
  · exact And.intro (fun _ => Eq.mp (α := wAt Gb 11 3 5 k (sS s (n - 1) r (.int (l - 1))) [] Q) (by kernel_rfl) h) (fun hh => nomatch hh)
  · exact absurd hh (by simpa using hn)
theorem strip_two_end {k : Nat} {s : List Nat} {n l : Int} {r : D} {Q : SQ} (h : n = 0 ∨ (0 ≤ l ∧ l < s.length ∧ s.length ≤ sizeLine ∧ ∃ c, s[l.toNat]? = some c ∧ c ≠ 32))
    (q : Q .next (sS s n r (.int l)) []) : wAt Gb 11 3 5 (k + 1) (sS s n r (.int l)) [] Q := by
  by_cases hn : n = 0
  · subst hn
    refine And.intro (fun hh => nomatch hh) (fun _ => And.intro (fun hh => nomatch hh) (fun _ => q))
  · rcases h with h | ⟨h0, h1, hs, c, hc, hd⟩
    · exact absurd h hn
    · refine And.intro (fun hh => And.intro h0 (And.intro h1 (And.intro hs (onSome_intro hc ?_)))) (fun hh => absurd hh (by simpa using hn))
      have e : ([c] == [32]) = false := by simpa using hd
      exact And.intro (fun hh => absurd (Eq.symm e |>.trans (show ([c] == [32]) = true from hh)) (by decide)) (fun _ => q)
theorem strip_last {s : List Nat} {n l r : Int} {Q : D → Prop} (hs : s.length ≤ sizeLine) (h : Q (.str (cut (some l) (some (r + 1)) s))) : contF Gb 11 4 [] Q .next (sS s n (.int l) (.int r)) [] :=
  Eq.mp (α := s.length ≤ sizeLine ∧ Q (.str (cut (some l) (some (r + 1)) s))) (by kernel_rfl) ⟨hs, h⟩
/-- the first while takes all the leading blanks -/
theorem strip_ones {s : List Nat} {r : D} {Q : SQ} (hs : s.length ≤ sizeLine) : ∀ (j : Nat) (n l : Nat), l + j ≤ s.length → j ≤ n → (∀ i, l ≤ i → i < l + j → s[i]? = some 32) → (n = j ∨ ∃ c, s[l + j]? = some c ∧ c ≠ 32) →
    Q .next (sS s ((n - j : Nat) : Int) (.int ((l + j : Nat) : Int)) r) [] → wAt Gb 11 1 5 (j + 1) (sS s (n : Int) (.int (l : Int)) r) [] Q
  | 0, n, l, hl, hj, hb, he, q => by
    refine strip_one_end ?_ q
    rcases he with rfl | ⟨c, hc, hd⟩
    · exact .inl rfl
    · have := (List.getElem?_eq_some_iff.mp hc).1
      exact .inr ⟨by omega, by omega, hs, c, hc, hd⟩
  | j + 1, n, l, hl, hj, hb, he, q => by
    refine strip_one_go (by omega) (by omega) (by omega) hs (hb l (Nat.le_refl _) (by omega)) ?_
    have e1 : ((n : Int) - 1) = ((n - 1 : Nat) : Int) := by omega
    have e2 : ((l : Int) + 1) = ((l + 1 : Nat) : Int) := by omega
    rw [e1, e2]
    refine strip_ones hs j (n - 1) (l + 1) (by omega) (by omega) (fun i h1 h2 => hb i (by omega) (by omega)) ?_ ?_
    · rcases he with h | ⟨c, hc, hd⟩
      · exact .inl (by omega)
      · exact .inr ⟨c, by rw [← hc]; congr 1; omega, hd⟩
    · have e3 : n - 1 - j = n - (j + 1) := by omega
      have e4 : l + 1 + j = l + (j + 1) := by omega
      rw [e3, e4]; exact q
theorem strip_twos {s : List Nat} {l : D} {Q : SQ} (hs : s.length ≤ sizeLine) : ∀ (j : Nat) (n : Nat) (r : Int), r < s.length → (j : Int) ≤ r + 1 → j ≤ n → (∀ i : Int, r - j < i → i ≤ r → s[i.toNat]? = some 32) → (n = j ∨ (0 ≤ r - j ∧ ∃ c, s[(r - j).toNat]? = some c ∧ c ≠ 32)) →
    Q .next (sS s ((n - j : Nat) : Int) l (.int (r - j))) [] → wAt Gb 11 3 5 (j + 1) (sS s (n : Int) l (.int r)) [] Q
  | 0, n, r, hl, hr, hj, hb, he, q => by
    have e0 : r - ((0 : Nat) : Int) = r := by omega
    rw [e0] at q he
    refine strip_two_end ?_ q
    rcases he with rfl | ⟨h0, c, hc, hd⟩
    · exact .inl rfl
    · exact .inr ⟨h0, hl, hs, c, hc, hd⟩
  | j + 1, n, r, hl, hr, hj, hb, he, q => by
    refine strip_two_go (by omega) (by omega) (by omega) hs (hb r (by omega) (by omega)) ?_
    have e1 : ((n : Int) - 1) = ((n - 1 : Nat) : Int) := by omega
    have e2 : r - 1 - (j : Int) = r - ((j + 1 : Nat) : Int) := by omega
    rw [e1]
    refine strip_twos hs j (n - 1) (r - 1) (by omega) (by omega) (by omega) (fun i h1 h2 => hb i (by omega) (by omega)) ?_ ?_
    · rw [e2]
      rcases he with h | h
      · exact .inl (by omega)
      · exact .inr h
    · have e3 : n - 1 - j = n - (j + 1) := by omega
      rw [e2, e3]; exact q
/-- a card: blanks, a sign or nothing, blanks -/
noncomputable def card (p : Nat) (x : List Nat) (q : Nat) : List Nat := List.replicate p 32 ++ (x ++ List.replicate q 32)
theorem card_len {p q : Nat} {x : List Nat} : (card p x q).length = p + x.length + q := by unfold card; simp; omega
theorem card_get1 {p q i : Nat} {x : List Nat} (h : i < p) : (card p x q)[i]? = some 32 := by
  unfold card
  rw [List.getElem?_append_left (by simpa using h), List.getElem?_replicate, if_pos h]
theorem card_get2 {p q : Nat} {c : Nat} : (card p [c] q)[p]? = some c := by
  unfold card
  rw [List.getElem?_append_right (by simp)]
  simp
theorem card_get3 {p q i : Nat} {c : Nat} (h : p < i) (h2 : i < p + 1 + q) : (card p [c] q)[i]? = some 32 := by
  unfold card
  rw [List.getElem?_append_right (by simp; omega), List.length_replicate, List.singleton_append]
  obtain ⟨j, rfl⟩ : ∃ j, i = p + 1 + j := ⟨i - p - 1, by omega⟩
  have : p + 1 + j - p = j + 1 := by omega
  rw [this, List.getElem?_cons_succ, List.getElem?_replicate, if_pos (by omega)]
noncomputable def stripC : Con := fun ds Q => match ds with
  | [.str s, .int n] => ∃ (p q : Nat) (x : List Nat), s = card p x q ∧ n = ((p + x.length + q : Nat) : Int) ∧ p + x.length + q ≤ 100 ∧ (x = [] ∨ ∃ c, x = [c] ∧ c ≠ 32) ∧ Q (.str x)
  | _ => False
theorem strip_at {r : Nat} {w : World} (h : Heap) (g : Gl w h) : ∃ fv, FnAt (r + 1 + 1) w "_strip_padding" stripC h fv := by
  obtain ⟨fv, F⟩ := def_at (r := r + 1) (m := 14) (n := 6) (os := []) Gb_ok strip_def h g
  refine ⟨fv, F.weak fun ds Q hq => ?_⟩
  unfold stripC at hq
  split at hq
  · obtain ⟨p, q, x, rfl, rfl, hle, hx, hq⟩ := hq
    refine ⟨rfl, strip_start ?_⟩
    have hsz : (card p x q).length ≤ sizeLine := by rw [card_len]; unfold sizeLine; omega
    rcases hx with rfl | ⟨c, rfl, hc⟩
    · have hl : (card p [] q).length = p + q := by rw [card_len]; simp
      have hall : ∀ i, i < p + q → (card p [] q)[i]? = some 32 := fun i hi => by
        have e : card p [] q = List.replicate (p + q) 32 := by unfold card; simp
        rw [e, List.getElem?_replicate, if_pos hi]
      refine ⟨_, strip_ones hsz (p + q) (p + q) 0 (by omega) (Nat.le_refl _) (fun i h1 h2 => hall i (by omega)) (.inl rfl) (strip_mid hsz ?_)⟩
      refine ⟨_, strip_twos hsz 0 (p + q - (p + q)) _ (by omega) (by omega) (by omega) (fun i h1 h2 => by omega) (.inl (by omega)) (strip_last hsz ?_)⟩
      have e : cut (some ((0 + (p + q) : Nat) : Int)) (some ((card p [] q).length - 1 - ((0 : Nat) : Int) + 1)) (card p [] q) = [] := by
        unfold cut
        have : List.drop (clipAt (card p [] q).length ((0 + (p + q) : Nat) : Int)) (card p [] q) = [] := by
          rw [clipAt_nat, hl]
          apply List.drop_eq_nil_of_le
          rw [hl]; omega
        simp only [Option.elim]
        rw [this, List.take_nil]
      rw [e]; exact hq
    · have hl : (card p [c] q).length = p + 1 + q := card_len
      refine ⟨_, strip_ones hsz p (p + 1 + q) 0 (by omega) (by omega) (fun i h1 h2 => card_get1 (by omega)) (.inr ⟨c, by rw [Nat.zero_add]; exact card_get2, hc⟩) (strip_mid hsz ?_)⟩
      have hr : ((card p [c] q).length : Int) - 1 - (q : Int) = (p : Int) := by omega
      refine ⟨_, strip_twos hsz q _ _ (by omega) (by omega) (by omega) (fun i h1 h2 => card_get3 (by omega) (by omega)) (.inr ⟨by omega, c, by rw [hr]; exact card_get2, hc⟩) (strip_last hsz ?_)⟩
      have e : cut (some ((0 + p : Nat) : Int)) (some (((card p [c] q).length : Int) - 1 - (q : Int) + 1)) (card p [c] q) = [c] := by
        rw [hr]
        unfold cut
        have e1 : (p : Int) + 1 = ((p + 1 : Nat) : Int) := by omega
        simp only [Option.elim]
        rw [e1, clipAt_nat, clipAt_nat, hl, Nat.zero_add]
        have m1 : min p (p + 1 + q) = p := by omega
        have m2 : min (p + 1) (p + 1 + q) = p + 1 := by omega
        rw [m1, m2]
        have : p + 1 - p = 1 := by omega
        rw [this]
        unfold card
        rw [List.drop_append_of_le_length (by simp)]
        simp
      rw [e]; exact hq
  · exact hq.elim
end
section
theorem line_def : DefOk (dN "_law_line" 17) ["cards", "start", "width"] where
  mem := List.mem_of_getElem? (i := 9) (by kernel_rfl)
  bind := fun pm code doc vals h => by
    obtain ⟨a, b, c, rfl⟩ := lenv3 h
    kernel_rfl
  kind := by kernel_rfl
  co := by kernel_rfl
  gen := by kernel_rfl
  nd := by decide
  pk := fun p hp => by
    rcases List.mem_cons.mp hp with rfl | hp
    · exact .inl (by kernel_rfl)
    · rcases List.mem_cons.mp hp with rfl | hp
      · exact .inl (by kernel_rfl)
      · rw [List.mem_singleton.mp hp]; exact .inl (by kernel_rfl)
/-- the blanks ahead of a card's sign -/
noncomputable def leadN (w : Nat) (s : Int) : Nat := (s.fmod w).toNat
noncomputable def cardN (w : Nat) (s : Int) (x : List Nat) : List Nat := card (leadN w s) x (w - leadN w s - x.length)
noncomputable def lineF (w : Nat) : Int → List (List Nat) → List Nat
  | _, [] => []
  | s, x :: r => cardN w s x ++ lineF w (s + 1) r
theorem leadN_lt {w : Nat} (h : 0 < w) (s : Int) : leadN w s < w := by
  unfold leadN
  have h1 := Int.fmod_nonneg_of_pos s (b := (w : Int)) (by omega)
  have h2 := Int.fmod_lt_of_pos s (b := (w : Int)) (by omega)
  omega
theorem cardN_len {w : Nat} (h : 0 < w) (s : Int) {x : List Nat} (hx : x.length ≤ 1) : (cardN w s x).length = w := by
  have := leadN_lt h s
  unfold cardN
  rw [card_len]; omega
theorem flat_rep (n : Nat) : (List.replicate n [32]).flatten = List.replicate n 32 := List.flatten_replicate_singleton
theorem card_cut {w p : Nat} {x : List Nat} (hp : p < w) (hx : x.length ≤ 1) : cut none (some (w : Int)) ((List.replicate p [32]).flatten ++ x ++ (List.replicate w [32]).flatten) = card p x (w - p - x.length) := by
  rw [flat_rep, flat_rep]
  unfold cut card
  simp only [Option.elim, List.drop_zero, Nat.sub_zero]
  rw [clipAt_nat]
  have e : min w (List.replicate p 32 ++ x ++ List.replicate w 32).length = p + (x.length + (w - p - x.length)) := by simp; omega
  rw [e, List.append_assoc, List.take_append, List.take_append]
  simp only [List.length_replicate, List.take_replicate]
  congr 1
  · congr 1; omega
  · congr 1
    · apply List.take_of_length_le; omega
    · congr 1; omega
noncomputable def sL (cs : List D) (st w : Int) (line : List Nat) (p x : D) : Sto := [("cards", .lst cs), ("start", .int st), ("width", .int w), ("line", .str line), ("place", p), ("sign", x)]
theorem line_start {cs : List D} {st w : Int} {Q : D → Prop} (hl : cs.length ≤ 1000) (h : fAt Gb 17 1 5 (enumD 0 cs) (sL cs st w [] .undef .undef) [] (contF Gb 17 2 [] Q)) : rn Gb 17 [] ["cards", "start", "width"] [.lst cs, .int st, .int w] Q :=
  Eq.mp (α := cs.length ≤ 1000 ∧ fAt Gb 17 1 5 (enumD 0 cs) (sL cs st w [] .undef .undef) [] (contF Gb 17 2 [] Q)) (by kernel_rfl) ⟨hl, h⟩
theorem line_step {cs ds : List D} {st w k : Int} {line y : List Nat} {p x : D} {Q : SQ} (h0 : w ≠ 0) (h1 : ((st + k).fmod w).natAbs ≤ 1000)
    (h2 : ((List.replicate ((st + k).fmod w).toNat [32]).flatten.length + y.length) ≤ sizeLine) (h3 : w.natAbs ≤ 1000)
    (h4 : ((List.replicate ((st + k).fmod w).toNat [32]).flatten ++ y).length + (List.replicate w.toNat [32]).flatten.length ≤ sizeLine)
    (h5 : ((List.replicate ((st + k).fmod w).toNat [32]).flatten ++ y ++ (List.replicate w.toNat [32]).flatten).length ≤ sizeLine)
    (h6 : line.length + (cut none (some w) ((List.replicate ((st + k).fmod w).toNat [32]).flatten ++ y ++ (List.replicate w.toNat [32]).flatten)).length ≤ sizeLine)
    (h : fAt Gb 17 1 5 ds (sL cs st w (line ++ cut none (some w) ((List.replicate ((st + k).fmod w).toNat [32]).flatten ++ y ++ (List.replicate w.toNat [32]).flatten)) (.int k) (.str y)) [] Q) :
    fAt Gb 17 1 5 (.tup [.int k, .str y] :: ds) (sL cs st w line p x) [] Q :=
  Eq.mp (α := w ≠ 0 ∧ 1 ≤ 16 ∧ ((st + k).fmod w).natAbs ≤ 1000 ∧ ((List.replicate ((st + k).fmod w).toNat [32]).flatten.length + y.length) ≤ sizeLine ∧ 1 ≤ 16 ∧ w.natAbs ≤ 1000 ∧
    ((List.replicate ((st + k).fmod w).toNat [32]).flatten ++ y).length + (List.replicate w.toNat [32]).flatten.length ≤ sizeLine ∧
    ((List.replicate ((st + k).fmod w).toNat [32]).flatten ++ y ++ (List.replicate w.toNat [32]).flatten).length ≤ sizeLine ∧
    line.length + (cut none (some w) ((List.replicate ((st + k).fmod w).toNat [32]).flatten ++ y ++ (List.replicate w.toNat [32]).flatten)).length ≤ sizeLine ∧
    fAt Gb 17 1 5 ds (sL cs st w (line ++ cut none (some w) ((List.replicate ((st + k).fmod w).toNat [32]).flatten ++ y ++ (List.replicate w.toNat [32]).flatten)) (.int k) (.str y)) [] Q) (by kernel_rfl)
    ⟨h0, by decide, h1, h2, by decide, h3, h4, h5, h6, h⟩
theorem line_loop {cs : List D} {st : Int} {w : Nat} {Q : SQ} (hw0 : 0 < w) (hw : w ≤ 5) : ∀ (xs : List (List Nat)) (k : Int) (line : List Nat) (p x : D), (∀ y ∈ xs, y.length ≤ 1) → line.length + 5 * xs.length ≤ 600 →
    (∀ p x, Q .next (sL cs st w (line ++ lineF w (st + k) xs) p x) []) → fAt Gb 17 1 5 (enumD k (xs.map D.str)) (sL cs st w line p x) [] Q
  | [], k, line, p, x, hx, hl, q => by
    have := q p x
    unfold lineF at this
    rw [List.append_nil] at this
    exact this
  | y :: r, k, line, p, x, hx, hl, q => by
    have hy : y.length ≤ 1 := hx y (.head _)
    have hlt := leadN_lt hw0 (st + k)
    have hn : ((st + k).fmod w).toNat = leadN w (st + k) := rfl
    have h0 := Int.fmod_nonneg_of_pos (st + k) (b := (w : Int)) (by omega)
    have hwn : ((w : Int)).toNat = w := by omega
    have hcut := card_cut hlt hy
    have hcl := cardN_len hw0 (st + k) hy
    have hs : sizeLine ≥ 700 := by unfold sizeLine; omega
    simp only [List.length_cons] at hl
    refine line_step (by omega) (by omega) ?_ (by omega) ?_ ?_ ?_ ?_
    · rw [hn, flat_rep, List.length_replicate]; omega
    · rw [hn, hwn, flat_rep, flat_rep]; simp only [List.length_append, List.length_replicate]; omega
    · rw [hn, hwn, flat_rep, flat_rep]; simp only [List.length_append, List.length_replicate]; omega
    · rw [hn, hwn, hcut]
      have : (card (leadN w (st + k)) y (w - leadN w (st + k) - y.length)).length = w := hcl
      rw [this]; omega
    · rw [hn, hwn, hcut]
      refine line_loop hw0 hw r (k + 1) _ _ _ (fun z hz => hx z (.tail _ hz)) ?_ fun p x => ?_
      · have : (card (leadN w (st + k)) y (w - leadN w (st + k) - y.length)).length = w := hcl
        rw [List.length_append, this]; omega
      · have := q p x
        unfold lineF cardN at this
        rw [List.append_assoc, ← Int.add_assoc]
        exact this
theorem enum_cast (xs : List D) : enumD 0 xs = enumD 0 xs := rfl
noncomputable def lineC : Con := fun ds Q => ∃ (xs : List (List Nat)) (n : Nat) (st : Int), ds = [.lst (xs.map D.str), .int st, .int n] ∧ 0 < n ∧ n ≤ 5 ∧ xs.length ≤ 100 ∧ (∀ y ∈ xs, y.length ≤ 1) ∧ Q (.str (lineF n st xs))
theorem line_at {r : Nat} {w : World} (h : Heap) (g : Gl w h) : ∃ fv, FnAt (r + 1 + 1) w "_law_line" lineC h fv := by
  obtain ⟨fv, F⟩ := def_at (r := r + 1) (m := 14) (n := 6) (os := []) Gb_ok line_def h g
  refine ⟨fv, F.weak fun ds Q hq => ?_⟩
  obtain ⟨xs, n, st, rfl, h0, h5, hl, hx, hq⟩ := hq
  · refine ⟨rfl, line_start (by rw [List.length_map]; omega) (line_loop h0 h5 xs 0 [] _ _ hx (by simp only [List.length_nil]; omega) fun p x => ?_)⟩
    rw [Int.add_zero, List.nil_append]
    exact Eq.mp (α := Q (.str (lineF n st xs))) (by kernel_rfl) hq
end
section
theorem plan_def : DefOk (dN "_law_plan" 16) ["letters", "kinds", "forms", "strange"] where
  mem := List.mem_of_getElem? (i := 8) (by kernel_rfl)
  bind := fun pm code doc vals h => by
    obtain ⟨a, b, c, d, rfl⟩ := lenv4 h
    kernel_rfl
  kind := by kernel_rfl
  co := by kernel_rfl
  gen := by kernel_rfl
  nd := by decide
  pk := fun p hp => by
    rcases List.mem_cons.mp hp with rfl | hp
    · exact .inl (by kernel_rfl)
    · rcases List.mem_cons.mp hp with rfl | hp
      · exact .inl (by kernel_rfl)
      · rcases List.mem_cons.mp hp with rfl | hp
        · exact .inl (by kernel_rfl)
        · rw [List.mem_singleton.mp hp]; exact .inl (by kernel_rfl)
noncomputable def Gp : Gt := ("_law_gap", gapC) :: Gb
theorem Gp_ok {r : Nat} {w : World} : GOk (r + 1 + 1) w Gp := .cons gap_at Gb_ok.up
noncomputable def sP (ls ks : List D) (fo st : Int) (p x : D) : Sto := [("letters", .lst ls), ("kinds", .lst ks), ("forms", .int fo), ("strange", .int st), ("pairs", .undef), ("place", p), ("letter", x)]
theorem plan_start {ls ks : List D} {fo st : Int} {Q : D → Prop} (hl : ls.length ≤ 1000) (h : fAt Gp 16 1 5 (enumD 0 ls) (sP ls ks fo st .undef .undef) [("pairs", [])] (contF Gp 16 2 ["pairs"] Q)) : rn Gp 16 ["pairs"] ["letters", "kinds", "forms", "strange"] [.lst ls, .lst ks, .int fo, .int st] Q :=
  Eq.mp (α := 0 ≤ 1000 ∧ ls.length ≤ 1000 ∧ fAt Gp 16 1 5 (enumD 0 ls) (sP ls ks fo st .undef .undef) [("pairs", [])] (contF Gp 16 2 ["pairs"] Q)) (by kernel_rfl) ⟨by decide, hl, h⟩
noncomputable def pairD (a : List Nat × List Nat) : D := .tup [.str a.1, .str a.2]
/-- how a letter is written -/
noncomputable def formN (fo : Int) (k : Nat) : Nat := ((fo.fdiv (12 ^ k)).fmod 12).toNat
noncomputable def four (ks : List Int) (fo st : Int) (k : Nat) (c : Nat) : List (List Nat × List Nat) :=
  [([shownN c (formN fo k)], [c]), gapD (ks.getD (2 * k) 0) st (2 * k), ([], []), gapD (ks.getD (2 * k + 1) 0) st (2 * k + 1)]
noncomputable def planL (ks : List Int) (fo st : Int) : Nat → List Nat → List (List Nat × List Nat)
  | _, [] => []
  | k, c :: r => four ks fo st k c ++ planL ks fo st (k + 1) r
theorem plan_step {ls ds : List D} {ks : List Int} {fo st : Int} {p x : D} {k c : Nat} {l : List D} {Q : SQ} (hk : k < 4) (hks : 2 * k + 1 < ks.length) (hkl : ks.length ≤ 100) (hl : l.length ≤ 100) (hc : 97 ≤ c ∧ c ≤ 122)
    (h : fAt Gp 16 1 5 ds (sP ls (ks.map fun a => D.int a) fo st (.int (k : Int)) (.str [c])) [("pairs", l ++ (four ks fo st k c).map pairD)] Q) :
    fAt Gp 16 1 5 (.tup [.int (k : Int), .str [c]] :: ds) (sP ls (ks.map fun a => D.int a) fo st p x) [("pairs", l)] Q := by
  have hz : 0 ≤ (fo.fdiv (12 ^ k)).fmod 12 := Int.fmod_nonneg_of_pos _ (by decide)
  have hlt : (fo.fdiv (12 ^ k)).fmod 12 < 12 := Int.fmod_lt_of_pos _ (by decide)
  have hpow : (12 : Int) ^ k ≠ 0 ∧ ((12 : Int) ^ k).natAbs < 1073741824 := by
    have : k = 0 ∨ k = 1 ∨ k = 2 ∨ k = 3 := by omega
    rcases this with rfl | rfl | rfl | rfl <;> decide
  have hkn : ((k : Nat) : Int).toNat = k := by omega
  refine And.intro (by omega) (And.intro (by omega) (And.intro (by omega) (And.intro (by unfold small; decide) (And.intro hpow.1 (And.intro hpow.2 (And.intro (by decide) (And.intro hc.1 (And.intro hc.2 (And.intro hz (And.intro hlt
    (And.intro (by show 2 ≤ 1000; decide) (And.intro (by rw [List.length_append]; show l.length + 1 ≤ 1000; omega) (And.intro (by unfold small; decide) (And.intro (by unfold small; omega) (And.intro (by omega) (And.intro (by omega)
    (onSome_intro (d := (2 * (k : Int)).toNat) (seqIndex_nat (by omega) (by rw [List.length_map]; omega)) (onSome_intro (ints_get (by omega)) ?_))))))))))))))))))
  refine Eq.mp (α := small 2 ∧ small k ∧ 0 ≤ 2 * (k : Int) ∧ 2 * (k : Int) < 100 ∧ (l ++ [pairD ([shownN c (formN fo k)], [c])] ++ [pairD (gapD (ks.getD (2 * (k : Int)).toNat 0) st (2 * k))]).length ≤ 1000 ∧ 2 ≤ 1000 ∧
    (l ++ [pairD ([shownN c (formN fo k)], [c])] ++ [pairD (gapD (ks.getD (2 * (k : Int)).toNat 0) st (2 * k))] ++ [pairD ([], [])]).length ≤ 1000 ∧ small 2 ∧ small k ∧ -2 ^ 63 ≤ 2 * (k : Int) + 1 ∧ 2 * (k : Int) + 1 < 2 ^ 63 ∧
    onSome (seqIndex? (2 * (k : Int) + 1) (ks.map fun a => D.int a).length) fun j => onSome (ks.map fun a => D.int a)[j]? fun kind => small 2 ∧ small k ∧ gapC [kind, .int st, .int (2 * k + 1)] fun d =>
      fAt Gp 16 1 5 ds (sP ls (ks.map fun a => D.int a) fo st (.int (k : Int)) (.str [c])) [("pairs", l ++ [pairD ([shownN c (formN fo k)], [c])] ++ [pairD (gapD (ks.getD (2 * (k : Int)).toNat 0) st (2 * k))] ++ [pairD ([], [])] ++ [d])] Q) (by kernel_rfl) ?_
  have sk : small k := by unfold small; omega
  have s2 : small 2 := by unfold small; decide
  refine ⟨s2, sk, by omega, by omega, by simp only [List.length_append, List.length_singleton]; omega, by decide, by simp only [List.length_append, List.length_singleton]; omega, s2, sk, by omega, by omega, ?_⟩
  refine onSome_intro (d := (2 * (k : Int) + 1).toNat) (seqIndex_nat (by omega) (by rw [List.length_map]; omega)) (onSome_intro (ints_get (by omega)) ⟨s2, sk, ?_⟩)
  refine Eq.mp (α := 0 ≤ 2 * (k : Int) + 1 ∧ 2 * (k : Int) + 1 < 100 ∧ fAt Gp 16 1 5 ds (sP ls (ks.map fun a => D.int a) fo st (.int (k : Int)) (.str [c])) [("pairs", l ++ [pairD ([shownN c (formN fo k)], [c])] ++ [pairD (gapD (ks.getD (2 * (k : Int)).toNat 0) st (2 * k))] ++ [pairD ([], [])] ++
    [pairD (gapD (ks.getD (2 * (k : Int) + 1).toNat 0) st (2 * k + 1))])] Q) (by kernel_rfl) ⟨by omega, by omega, ?_⟩
  have e1 : (2 * (k : Int)).toNat = 2 * k := by omega
  have e2 : (2 * (k : Int) + 1).toNat = 2 * k + 1 := by omega
  rw [e1, e2]
  unfold four at h
  rw [List.append_assoc, List.append_assoc, List.append_assoc]
  exact h
theorem plan_loop {ls : List D} {ks : List Int} {fo st : Int} {Q : SQ} (hkl : ks.length ≤ 100) : ∀ (cs : List Nat) (k : Nat) (l : List D) (p x : D), k + cs.length ≤ 4 → 2 * (k + cs.length) ≤ ks.length → (∀ c ∈ cs, 97 ≤ c ∧ c ≤ 122) → l.length ≤ 4 * k →
    (∀ p x, Q .next (sP ls (ks.map fun a => D.int a) fo st p x) [("pairs", l ++ (planL ks fo st k cs).map pairD)]) → fAt Gp 16 1 5 (enumD k (cs.map fun c => D.str [c])) (sP ls (ks.map fun a => D.int a) fo st p x) [("pairs", l)] Q
  | [], k, l, p, x, _, _, _, _, q => by
    have := q p x
    unfold planL at this
    rw [List.map_nil, List.append_nil] at this
    exact this
  | c :: r, k, l, p, x, h4, hks, hc, hl, q => by
    simp only [List.length_cons] at h4 hks
    refine plan_step (by omega) (by omega) hkl (by omega) (hc c (.head _)) ?_
    refine plan_loop (Q := Q) hkl r (k + 1) _ _ _ (by omega) (by omega) (fun c h => hc c (.tail _ h)) ?_ fun p x => ?_
    · rw [List.length_append, List.length_map]
      show l.length + 4 ≤ _
      omega
    · have := q p x
      unfold planL at this
      rw [List.map_append, ← List.append_assoc] at this
      exact this
noncomputable def planC : Con := fun ds Q => ∃ (cs : List Nat) (kl : List Int) (fo st : Int), ds = [.lst (cs.map fun c => D.str [c]), .lst (kl.map fun a => D.int a), .int fo, .int st] ∧ cs.length ≤ 4 ∧ 2 * cs.length ≤ kl.length ∧ kl.length ≤ 100 ∧ (∀ c ∈ cs, 97 ≤ c ∧ c ≤ 122) ∧ Q (.lst ((planL kl fo st 0 cs).map pairD))
theorem plan_at {r : Nat} {w : World} (h : Heap) (g : Gl w h) : ∃ fv, FnAt (r + 1 + 1 + 1) w "_law_plan" planC h fv := by
  obtain ⟨fv, F⟩ := def_at (r := r + 1 + 1) (m := 14) (n := 6) (os := ["pairs"]) Gp_ok plan_def h g
  refine ⟨fv, F.weak fun ds Q hq => ?_⟩
  obtain ⟨cs, kl, fo, st, rfl, h4, hkl, h100, hc, hq⟩ := hq
  · refine ⟨rfl, plan_start (by rw [List.length_map]; omega) (plan_loop h100 cs 0 [] _ _ (by omega) (by omega) hc (by simp) fun p x => ?_)⟩
    rw [List.nil_append]
    exact Eq.mp (α := Q (.lst ((planL kl fo st 0 cs).map pairD))) (by kernel_rfl) hq
end
section
/-- c stands twice in a row -/
noncomputable def adj (c : Nat) : List Nat → Bool
  | a :: b :: r => (a == c && b == c) || adj c (b :: r)
  | _ => false
section
open Builtin.Str PySem.StrLaws
theorem ell_occ {c : Nat} (hc : c ≠ 46) (lim : Nat) (hl : 2 ≤ lim) : occurrences ⟨#[46, 46, 46, c, c, 46, 46, 46]⟩ ⟨#[46, 46, 46]⟩ 0 8 lim = [0, 5] := by
  rw [occ_eq]
  have e : List.range' 0 (8 + 1 - 0) = [0, 1, 2, 3, 4, 5, 6, 7, 8] := by decide
  have h1 : 0 < lim := by omega
  have h2 : 1 < lim := by omega
  rw [e]
  simp only [List.forIn_cons, List.forIn_nil, occBody, subAt_eq]
  simp [PySem.Str.length, hc, h1, h2]
theorem ell_in {c : Nat} : (!!(occurrences ⟨#[46, 46, 46, c, c, 46, 46, 46]⟩ ⟨#[46, 46, 46]⟩ 0 8 1).isEmpty) = false := by
  have h := (found_iff ⟨#[46, 46, 46, c, c, 46, 46, 46]⟩ ⟨#[46, 46, 46]⟩).mpr ⟨0, by show 3 ≤ 8; decide, by rw [subAt_eq]; rfl⟩
  have e : (⟨#[46, 46, 46, c, c, 46, 46, 46]⟩ : Str).length = 8 := rfl
  rw [e] at h
  rw [h]; rfl
theorem kind_pos (x : Str) : 1 ≤ Builtin.Str.strKind x := by
  show 1 ≤ (if x.cps.all (· < 256) then 1 else if x.cps.all (· < 65536) then 2 else 4)
  split
  · decide
  · split <;> decide
theorem kind_dots (x : Str) : decide (Builtin.Str.strKind x < Builtin.Str.strKind ⟨#[46, 46, 46]⟩) = false := by
  have e : Builtin.Str.strKind ⟨#[46, 46, 46]⟩ = 1 := by decide +kernel
  rw [e]
  have := kind_pos x
  exact decide_eq_false (by omega)
theorem ell_split {c : Nat} (hc : c ≠ 46) : Txt.split ⟨#[46, 46, 46, c, c, 46, 46, 46]⟩ ⟨#[46, 46, 46]⟩ = [⟨#[]⟩, ⟨#[c, c]⟩, ⟨#[]⟩] := by
  unfold Txt.split
  have e1 : (⟨#[46, 46, 46, c, c, 46, 46, 46]⟩ : Str).length = 8 := rfl
  have e2 : (⟨#[46, 46, 46]⟩ : Str).length = 3 := rfl
  rw [kind_dots, e1, e2, ell_occ hc _ (by decide)]
  simp only [partsBetween, strSub, e1]
  rfl
theorem ell_parts {c : Nat} (hc : c ≠ 46) : (partsBetween ⟨#[46, 46, 46, c, c, 46, 46, 46]⟩ (occurrences ⟨#[46, 46, 46, c, c, 46, 46, 46]⟩ ⟨#[46, 46, 46]⟩ 0 8 9) 3).length ≤ sizeLine := by
  rw [ell_occ hc _ (by decide)]
  show 3 ≤ sizeLine
  unfold sizeLine; omega
theorem occ_full (s sub : Str) (hi : Nat) (a : Nat) : ∀ (l : List Nat) (f : Nat), (forIn l ((#[a] : Array Nat), f) (occBody s sub hi 1)).run.fst = #[a]
  | [], f => rfl
  | b :: l, f => by
    rw [List.forIn_cons]
    unfold occBody
    have : ¬ (((((#[a] : Array Nat), f).fst.size < 1 ∧ ((#[a] : Array Nat), f).snd ≤ b) ∧ b + sub.length ≤ hi) ∧ subAt s sub b = true) := fun h => absurd h.1.1.1 (by simp)
    rw [if_neg this]
    exact occ_full s sub hi a l f
theorem find_nil (x : List Nat) (i : Nat) (h : i ≤ x.length) : find4 ⟨x.toArray⟩ ⟨#[]⟩ (i : Int) (x.length : Int) = i := by
  unfold find4
  have hl : (⟨x.toArray⟩ : Str).length = x.length := by simp [PySem.Str.length]
  have e1 : (max 0 (if (i : Int) < 0 then (i : Int) + (⟨x.toArray⟩ : Str).length else i)).toNat = i := by rw [if_neg (by omega)]; omega
  have e2 : min (max 0 (if (x.length : Int) < 0 then (x.length : Int) + (⟨x.toArray⟩ : Str).length else x.length)).toNat (⟨x.toArray⟩ : Str).length = x.length := by rw [if_neg (by omega), hl]; omega
  rw [e1, e2, occ_eq]
  obtain ⟨j, hj⟩ : ∃ j, x.length + 1 - i = j + 1 := ⟨x.length - i, by omega⟩
  rw [hj, List.range'_succ, List.forIn_cons]
  unfold occBody
  have hsub : subAt ⟨x.toArray⟩ ⟨#[]⟩ i = true := by
    rw [subAt_eq]
    simp [PySem.Str.length]
  rw [if_pos ⟨⟨⟨by simp, Nat.le_refl _⟩, by show i + 0 ≤ _; omega⟩, hsub⟩]
  show (match (forIn (List.range' (i + 1) j) ((#[i] : Array Nat), i + (⟨#[]⟩ : Str).length) (occBody ⟨x.toArray⟩ ⟨#[]⟩ x.length 1)).run.fst.toList with
    | i :: _ => (i : Int)
    | [] => (-1 : Int)) = (i : Int)
  rw [occ_full]
theorem take2_drop {l : List Nat} {c i : Nat} : ((l.drop i).take 2 == [c, c]) = true ↔ l[i]? = some c ∧ l[i + 1]? = some c := by
  have e1 : l[i]? = (l.drop i)[0]? := by rw [List.getElem?_drop]; rfl
  have e2 : l[i + 1]? = (l.drop i)[1]? := by rw [List.getElem?_drop]
  rw [e1, e2, beq_iff_eq]
  match l.drop i with
  | [] => simp
  | [a] => simp
  | a :: b :: r => simp
theorem adj_iff (c : Nat) : ∀ l : List Nat, adj c l = true ↔ ∃ i, l[i]? = some c ∧ l[i + 1]? = some c
  | [] => by simp [adj]
  | [a] => by simp [adj]
  | a :: b :: r => by
    unfold adj
    rw [Bool.or_eq_true, adj_iff c (b :: r), Bool.and_eq_true, beq_iff_eq, beq_iff_eq]
    constructor
    · rintro (⟨rfl, rfl⟩ | ⟨i, h⟩)
      · exact ⟨0, rfl, rfl⟩
      · exact ⟨i + 1, by simpa using h⟩
    · rintro ⟨i, h⟩
      cases i with
      | zero => exact .inl (by simpa using h)
      | succ i => exact .inr ⟨i, by simpa using h⟩
theorem sub_two (x : List Nat) (c i : Nat) : (i + 2 ≤ x.length ∧ subAt ⟨x.toArray⟩ ⟨#[c, c]⟩ i = true) ↔ x[i]? = some c ∧ x[i + 1]? = some c := by
  rw [subAt_eq]
  show (i + 2 ≤ x.length ∧ ((x.drop i).take 2 == [c, c]) = true) ↔ _
  rw [take2_drop]
  constructor
  · exact fun h => h.2
  · intro h
    refine ⟨?_, h⟩
    obtain ⟨hlt, _⟩ := List.getElem?_eq_some_iff.mp h.2
    omega
theorem find_two (x : List Nat) (c : Nat) : (adj c x = true → ∃ i : Nat, i + 2 ≤ x.length ∧ find4 ⟨x.toArray⟩ ⟨#[c, c]⟩ 0 (x.length : Int) = i) ∧ (adj c x = false → find4 ⟨x.toArray⟩ ⟨#[c, c]⟩ 0 (x.length : Int) = -1) := by
  have hl : (⟨x.toArray⟩ : Str).length = x.length := by simp [PySem.Str.length]
  have e2 : min (max 0 (if (x.length : Int) < 0 then (x.length : Int) + (⟨x.toArray⟩ : Str).length else x.length)).toNat (⟨x.toArray⟩ : Str).length = x.length := by rw [if_neg (by omega), hl]; omega
  have key := found_iff ⟨x.toArray⟩ ⟨#[c, c]⟩
  rw [hl] at key
  have spec := occ_spec ⟨x.toArray⟩ ⟨#[c, c]⟩ 0 x.length 1
  unfold find4
  rw [e2]
  show (_ → ∃ i : Nat, _ ∧ (match occurrences ⟨x.toArray⟩ ⟨#[c, c]⟩ 0 x.length 1 with | i :: _ => (i : Int) | [] => (-1 : Int)) = _) ∧ (_ → (match occurrences ⟨x.toArray⟩ ⟨#[c, c]⟩ 0 x.length 1 with | i :: _ => (i : Int) | [] => (-1 : Int)) = _)
  have kk : (!(occurrences ⟨x.toArray⟩ ⟨#[c, c]⟩ 0 x.length 1).isEmpty) = true ↔ adj c x = true := by
    rw [key, adj_iff]
    exact ⟨fun ⟨i, h⟩ => ⟨i, (sub_two x c i).mp h⟩, fun ⟨i, h⟩ => ⟨i, (sub_two x c i).mpr h⟩⟩
  cases ho : occurrences ⟨x.toArray⟩ ⟨#[c, c]⟩ 0 x.length 1 with
  | nil =>
    rw [ho] at kk
    exact ⟨fun h => absurd (kk.mpr h) (by decide), fun _ => rfl⟩
  | cons i r =>
    rw [ho] at kk spec
    refine ⟨fun h => ⟨i, (spec i (.head _)).1, rfl⟩, fun h => ?_⟩
    have := kk.mp rfl
    rw [this] at h; cases h
end
theorem ell_def : DefOk (dN "_ellipsis_match" 7) ["want", "got"] where
  mem := List.mem_of_getElem? (i := 2) (by kernel_rfl)
  bind := fun pm code doc vals h => by
    obtain ⟨a, b, rfl⟩ := lenv2 h
    kernel_rfl
  kind := by kernel_rfl
  co := by kernel_rfl
  gen := by kernel_rfl
  nd := by decide
  pk := fun p hp => by
    rcases List.mem_cons.mp hp with rfl | hp
    · exact .inl (by kernel_rfl)
    · rw [List.mem_singleton.mp hp]; exact .inl (by kernel_rfl)
noncomputable def sM (want got : List Nat) (ws s e w : D) : Sto := [("want", .str want), ("got", .str got), ("ws", ws), ("startpos", s), ("endpos", e), ("w", w)]
noncomputable def ellW (c : Nat) : List Nat := [46, 46, 46, c, c, 46, 46, 46]
theorem ell_start {c : Nat} {got : List Nat} (hc : c ≠ 46) {Q : D → Prop} (h : rest Gb 7 2 [] (sM (ellW c) got (.lst [.str [], .str [c, c], .str []]) .undef .undef .undef) [] Q) : rn Gb 7 [] ["want", "got"] [.str (ellW c), .str got] Q := by
  have hs := ell_split hc
  refine And.intro (fun hh => absurd ((ell_in (c := c)).symm.trans hh) (by decide)) (fun _ => And.intro (by decide) (And.intro (by show 8 ≤ 1000; decide) ?_))
  refine Eq.mp (α := (Txt.split ⟨#[46, 46, 46, c, c, 46, 46, 46]⟩ ⟨#[46, 46, 46]⟩).length ≤ 1000 ∧ (Builtin.Str.partsBetween ⟨#[46, 46, 46, c, c, 46, 46, 46]⟩ (Builtin.Str.occurrences ⟨#[46, 46, 46, c, c, 46, 46, 46]⟩ ⟨#[46, 46, 46]⟩ 0 8 9) 3).length ≤ sizeLine ∧
    rest Gb 7 2 [] (sM (ellW c) got (.lst ((Txt.split ⟨#[46, 46, 46, c, c, 46, 46, 46]⟩ ⟨#[46, 46, 46]⟩).map fun z => .str z.cps.toList)) .undef .undef .undef) [] Q) (by kernel_rfl) ?_
  rw [hs]
  exact ⟨by show 3 ≤ 1000; decide, ell_parts hc, h⟩
theorem ell_mid {c : Nat} {got : List Nat} {Q : D → Prop} (hg : got.length ≤ 1000) (h : fAt Gb 7 9 5 [.str [], .str [c, c], .str []] (sM (ellW c) got (.lst [.str [], .str [c, c], .str []]) (.int 0) (.int got.length) (.str [])) [] (contF Gb 7 10 [] Q)) :
    rest Gb 7 2 [] (sM (ellW c) got (.lst [.str [], .str [c, c], .str []]) .undef .undef .undef) [] Q := by
  have hsz : sizeLine ≥ 1000 := by unfold sizeLine; omega
  refine And.intro (by show 3 ≤ sizeLine; omega) (And.intro (by show decide ((2 : Int) ≤ 3) = true; decide) (And.intro (by show got.length ≤ sizeLine; omega) (And.intro (by decide) (And.intro (by decide) (And.intro (by show 0 ≤ sizeLine; omega) (And.intro (fun hh => nomatch hh) (fun _ =>
    And.intro (by decide) (And.intro (by decide) (And.intro (by show 0 ≤ sizeLine; omega) (And.intro (fun hh => nomatch hh) (fun _ => And.intro (fun hh => ?_) (fun _ => And.intro (by show 3 ≤ 1000; decide) ?_))))))))))))
  · have : ((got.length : Int) < 0) := by simpa using hh
    exact absurd this (by omega)
  · exact Eq.mp (α := fAt Gb 7 9 5 [.str [], .str [c, c], .str []] (sM (ellW c) got (.lst [.str [], .str [c, c], .str []]) (.int 0) (.int got.length) (.str [])) [] (contF Gb 7 10 [] Q)) (by kernel_rfl) h
theorem ell_item {want got x : List Nat} {s e : Int} {ws w : D} {ds : List D} {Q : SQ} (hx : x.length ≤ sizeLine) (h0 : find4 ⟨got.toArray⟩ ⟨x.toArray⟩ s e < 0 → ∀ σ, Q (.ret (.bool false)) σ [])
    (h1 : 0 ≤ find4 ⟨got.toArray⟩ ⟨x.toArray⟩ s e → fAt Gb 7 9 5 ds (sM want got ws (.int (find4 ⟨got.toArray⟩ ⟨x.toArray⟩ s e + x.length)) (.int e) (.str x)) [] Q) : fAt Gb 7 9 5 (.str x :: ds) (sM want got ws (.int s) (.int e) w) [] Q := by
  refine And.intro (fun hh => h0 (of_decide_eq_true hh) _) (fun hh => And.intro hx ?_)
  exact Eq.mp (α := fAt Gb 7 9 5 ds (sM want got ws (.int (find4 ⟨got.toArray⟩ ⟨x.toArray⟩ s e + x.length)) (.int e) (.str x)) [] Q) (by kernel_rfl) (h1 (by have := of_decide_eq_false hh; omega))
noncomputable def ellC : Con := fun ds Q => match ds with
  | [.str want, .str got] => ∃ c, want = ellW c ∧ c ≠ 46 ∧ got.length ≤ 1000 ∧ Q (.bool (adj c got))
  | _ => False
theorem ell_at {r : Nat} {w : World} (h : Heap) (g : Gl w h) : ∃ fv, FnAt (r + 1 + 1) w "_ellipsis_match" ellC h fv := by
  obtain ⟨fv, F⟩ := def_at (r := r + 1) (m := 14) (n := 6) (os := []) Gb_ok ell_def h g
  refine ⟨fv, F.weak fun ds Q hq => ?_⟩
  unfold ellC at hq
  split at hq
  · rename_i want got
    obtain ⟨c, rfl, hc, hg, hq⟩ := hq
    have hsz : sizeLine ≥ 1000 := by unfold sizeLine; omega
    have z0 : find4 ⟨got.toArray⟩ ⟨#[]⟩ 0 (got.length : Int) = 0 := find_nil got 0 (Nat.zero_le _)
    have f2 := find_two got c
    refine ⟨rfl, ell_start hc (ell_mid hg (ell_item (by show 0 ≤ sizeLine; omega) (fun hh => ?_) (fun _ => ?_)))⟩
    · have : find4 ⟨got.toArray⟩ ⟨#[]⟩ 0 (got.length : Int) < 0 := hh
      omega
    · have e0 : find4 ⟨got.toArray⟩ ⟨([] : List Nat).toArray⟩ 0 (got.length : Int) + (([] : List Nat).length : Int) = 0 := by
        rw [show find4 ⟨got.toArray⟩ ⟨([] : List Nat).toArray⟩ 0 (got.length : Int) = 0 from z0]; rfl
      rw [e0]
      refine ell_item (by show 2 ≤ sizeLine; omega) (fun hh σ => ?_) (fun hh => ?_)
      · have hh : find4 ⟨got.toArray⟩ ⟨#[c, c]⟩ 0 (got.length : Int) < 0 := hh
        cases ha : adj c got with
        | true =>
          obtain ⟨i, _, e⟩ := f2.1 ha
          omega
        | false => rw [ha] at hq; exact hq
      · have hh : 0 ≤ find4 ⟨got.toArray⟩ ⟨#[c, c]⟩ 0 (got.length : Int) := hh
        cases ha : adj c got with
        | false =>
          have := f2.2 ha
          omega
        | true =>
          rw [ha] at hq
          obtain ⟨i, hi, e⟩ := f2.1 ha
          have e2 : find4 ⟨got.toArray⟩ ⟨([c, c] : List Nat).toArray⟩ 0 (got.length : Int) + (([c, c] : List Nat).length : Int) = ((i + 2 : Nat) : Int) := by
            rw [show find4 ⟨got.toArray⟩ ⟨([c, c] : List Nat).toArray⟩ 0 (got.length : Int) = i from e]; rfl
          rw [e2]
          have e3 := find_nil got (i + 2) hi
          refine ell_item (by show 0 ≤ sizeLine; omega) (fun hh => ?_) (fun _ => ?_)
          · have : find4 ⟨got.toArray⟩ ⟨#[]⟩ ((i + 2 : Nat) : Int) (got.length : Int) < 0 := hh
            omega
          · exact Eq.mp (α := Q (.bool true)) (by kernel_rfl) hq
  · exact hq.elim
end
section
theorem chosen_def : DefOk (dN "_law_chosen" 21) ["opens", "count"] where
  mem := List.mem_of_getElem? (i := 13) (by kernel_rfl)
  bind := fun pm code doc vals h => by
    obtain ⟨a, b, rfl⟩ := lenv2 h
    kernel_rfl
  kind := by kernel_rfl
  co := by kernel_rfl
  gen := by kernel_rfl
  nd := by decide
  pk := fun p hp => by
    rcases List.mem_cons.mp hp with rfl | hp
    · exact .inl (by kernel_rfl)
    · rw [List.mem_singleton.mp hp]; exact .inl (by kernel_rfl)
noncomputable def sC (os : List D) (n : Int) (a b : D) (one grown : D) : Sto := [("opens", .lst os), ("count", .int n), ("older", a), ("newer", b), ("one", one), ("grown", grown)]
theorem chosen_t3 {os ds : List D} {a0 a1 a2 a3 n0 n1 n2 n3 : Int} {one grown : D} {Q : SQ} (h : fAt Gb 21 1 5 ds (sC os 3 (.lst [.int n0, .int n1, .int n2, .int n3]) (.lst [.int (n0 + 0), .int (n1 + a0), .int (n2 + a1), .int (n3 + a2)]) (.bool true) (.lst [.int (n0 + 0), .int (n1 + a0), .int (n2 + a1), .int (n3 + a2)])) [] Q) :
    fAt Gb 21 1 5 (.bool true :: ds) (sC os 3 (.lst [.int a0, .int a1, .int a2, .int a3]) (.lst [.int n0, .int n1, .int n2, .int n3]) one grown) [] Q := by
  repeat' (first
    | (refine And.intro (by decide) ?_)
    | (refine And.intro (fun hh => ?_) (fun hh => absurd hh (by decide)))
    | (refine And.intro (fun hh => absurd hh (by decide)) (fun hh => ?_)))
  exact Eq.mp (α := fAt Gb 21 1 5 ds (sC os 3 (.lst [.int n0, .int n1, .int n2, .int n3]) (.lst [.int (n0 + 0), .int (n1 + a0), .int (n2 + a1), .int (n3 + a2)]) (.bool true) (.lst [.int (n0 + 0), .int (n1 + a0), .int (n2 + a1), .int (n3 + a2)])) [] Q) (by kernel_rfl) h
theorem chosen_f3 {os ds : List D} {a0 a1 a2 a3 n0 n1 n2 n3 : Int} {one grown : D} {Q : SQ} (h : fAt Gb 21 1 5 ds (sC os 3 (.lst [.int n0, .int n1, .int n2, .int n3]) (.lst [.int (n0 + 0), .int (n1 + 0), .int (n2 + 0), .int (n3 + 0)]) (.bool false) (.lst [.int (n0 + 0), .int (n1 + 0), .int (n2 + 0), .int (n3 + 0)])) [] Q) :
    fAt Gb 21 1 5 (.bool false :: ds) (sC os 3 (.lst [.int a0, .int a1, .int a2, .int a3]) (.lst [.int n0, .int n1, .int n2, .int n3]) one grown) [] Q := by
  repeat' (first
    | (refine And.intro (by decide) ?_)
    | (refine And.intro (fun hh => ?_) (fun hh => absurd hh (by decide)))
    | (refine And.intro (fun hh => absurd hh (by decide)) (fun hh => ?_)))
  exact Eq.mp (α := fAt Gb 21 1 5 ds (sC os 3 (.lst [.int n0, .int n1, .int n2, .int n3]) (.lst [.int (n0 + 0), .int (n1 + 0), .int (n2 + 0), .int (n3 + 0)]) (.bool false) (.lst [.int (n0 + 0), .int (n1 + 0), .int (n2 + 0), .int (n3 + 0)])) [] Q) (by kernel_rfl) h
theorem chosen_t4 {os ds : List D} {a0 a1 a2 a3 a4 n0 n1 n2 n3 n4 : Int} {one grown : D} {Q : SQ} (h : fAt Gb 21 1 5 ds (sC os 4 (.lst [.int n0, .int n1, .int n2, .int n3, .int n4]) (.lst [.int (n0 + 0), .int (n1 + a0), .int (n2 + a1), .int (n3 + a2), .int (n4 + a3)]) (.bool true) (.lst [.int (n0 + 0), .int (n1 + a0), .int (n2 + a1), .int (n3 + a2), .int (n4 + a3)])) [] Q) :
    fAt Gb 21 1 5 (.bool true :: ds) (sC os 4 (.lst [.int a0, .int a1, .int a2, .int a3, .int a4]) (.lst [.int n0, .int n1, .int n2, .int n3, .int n4]) one grown) [] Q := by
  repeat' (first
    | (refine And.intro (by decide) ?_)
    | (refine And.intro (fun hh => ?_) (fun hh => absurd hh (by decide)))
    | (refine And.intro (fun hh => absurd hh (by decide)) (fun hh => ?_)))
  exact Eq.mp (α := fAt Gb 21 1 5 ds (sC os 4 (.lst [.int n0, .int n1, .int n2, .int n3, .int n4]) (.lst [.int (n0 + 0), .int (n1 + a0), .int (n2 + a1), .int (n3 + a2), .int (n4 + a3)]) (.bool true) (.lst [.int (n0 + 0), .int (n1 + a0), .int (n2 + a1), .int (n3 + a2), .int (n4 + a3)])) [] Q) (by kernel_rfl) h
theorem chosen_f4 {os ds : List D} {a0 a1 a2 a3 a4 n0 n1 n2 n3 n4 : Int} {one grown : D} {Q : SQ} (h : fAt Gb 21 1 5 ds (sC os 4 (.lst [.int n0, .int n1, .int n2, .int n3, .int n4]) (.lst [.int (n0 + 0), .int (n1 + 0), .int (n2 + 0), .int (n3 + 0), .int (n4 + 0)]) (.bool false) (.lst [.int (n0 + 0), .int (n1 + 0), .int (n2 + 0), .int (n3 + 0), .int (n4 + 0)])) [] Q) :
    fAt Gb 21 1 5 (.bool false :: ds) (sC os 4 (.lst [.int a0, .int a1, .int a2, .int a3, .int a4]) (.lst [.int n0, .int n1, .int n2, .int n3, .int n4]) one grown) [] Q := by
  repeat' (first
    | (refine And.intro (by decide) ?_)
    | (refine And.intro (fun hh => ?_) (fun hh => absurd hh (by decide)))
    | (refine And.intro (fun hh => absurd hh (by decide)) (fun hh => ?_)))
  exact Eq.mp (α := fAt Gb 21 1 5 ds (sC os 4 (.lst [.int n0, .int n1, .int n2, .int n3, .int n4]) (.lst [.int (n0 + 0), .int (n1 + 0), .int (n2 + 0), .int (n3 + 0), .int (n4 + 0)]) (.bool false) (.lst [.int (n0 + 0), .int (n1 + 0), .int (n2 + 0), .int (n3 + 0), .int (n4 + 0)])) [] Q) (by kernel_rfl) h
noncomputable def growN (b : Bool) (o n : List Int) : List Int := match b with
  | true => List.zipWith (· + ·) n (0 :: o)
  | false => n.map (· + 0)
noncomputable def chosenF : List Bool → List Int → List Int → List Int
  | [], _, n => n
  | b :: r, o, n => chosenF r n (growN b o n)
noncomputable def intsD (l : List Int) : D := .lst (l.map fun a => D.int a)
theorem len_4 {l : List Int} (h : l.length = 4) : ∃ c0 c1 c2 c3, l = [c0, c1, c2, c3] := by
  match l, h with
  | [c0, c1, c2, c3], _ => exact ⟨c0, c1, c2, c3, rfl⟩
theorem len_5 {l : List Int} (h : l.length = 5) : ∃ c0 c1 c2 c3 c4, l = [c0, c1, c2, c3, c4] := by
  match l, h with
  | [c0, c1, c2, c3, c4], _ => exact ⟨c0, c1, c2, c3, c4, rfl⟩
theorem chosen_loop3 {os : List D} {Q : SQ} : ∀ (bs : List Bool) (o n : List Int) (one grown : D), o.length = 4 → n.length = 4 → (∀ o' one grown, Q .next (sC os 3 o' (intsD (chosenF bs o n)) one grown) []) →
    fAt Gb 21 1 5 (bs.map fun b => D.bool b) (sC os 3 (intsD o) (intsD n) one grown) [] Q
  | [], o, n, one, grown, ho, hn, q => q _ _ _
  | b :: r, o, n, one, grown, ho, hn, q => by
    obtain ⟨a0, a1, a2, a3, rfl⟩ := len_4 ho
    obtain ⟨n0, n1, n2, n3, rfl⟩ := len_4 hn
    cases b with
    | true => exact chosen_t3 (chosen_loop3 r [n0, n1, n2, n3] (growN true [a0, a1, a2, a3] [n0, n1, n2, n3]) _ _ rfl rfl q)
    | false => exact chosen_f3 (chosen_loop3 r [n0, n1, n2, n3] (growN false [a0, a1, a2, a3] [n0, n1, n2, n3]) _ _ rfl rfl q)
theorem chosen_loop4 {os : List D} {Q : SQ} : ∀ (bs : List Bool) (o n : List Int) (one grown : D), o.length = 5 → n.length = 5 → (∀ o' one grown, Q .next (sC os 4 o' (intsD (chosenF bs o n)) one grown) []) →
    fAt Gb 21 1 5 (bs.map fun b => D.bool b) (sC os 4 (intsD o) (intsD n) one grown) [] Q
  | [], o, n, one, grown, ho, hn, q => q _ _ _
  | b :: r, o, n, one, grown, ho, hn, q => by
    obtain ⟨a0, a1, a2, a3, a4, rfl⟩ := len_5 ho
    obtain ⟨n0, n1, n2, n3, n4, rfl⟩ := len_5 hn
    cases b with
    | true => exact chosen_t4 (chosen_loop4 r [n0, n1, n2, n3, n4] (growN true [a0, a1, a2, a3, a4] [n0, n1, n2, n3, n4]) _ _ rfl rfl q)
    | false => exact chosen_f4 (chosen_loop4 r [n0, n1, n2, n3, n4] (growN false [a0, a1, a2, a3, a4] [n0, n1, n2, n3, n4]) _ _ rfl rfl q)
noncomputable def initN (n : Nat) : List Int := 1 :: List.replicate n 0
theorem chosen_run3 {bs : List Bool} (hb : bs.length ≤ 1000) {Q : D → Prop} (q : Q (intsD (chosenF bs (initN 3) (initN 3)))) : rn Gb 21 [] ["opens", "count"] [.lst (bs.map fun b => D.bool b), .int 3] Q := by
  have hsz : 4 ≤ sizeLine := by unfold sizeLine; omega
  refine Eq.mp (α := 1 ≤ 1000 ∧ 1 ≤ 1000 ∧ 1 ≤ 16 ∧ 3 ≤ 16 ∧ 4 ≤ sizeLine ∧ 1 ≤ 1000 ∧ 1 ≤ 1000 ∧ 1 ≤ 16 ∧ 3 ≤ 16 ∧ 4 ≤ sizeLine ∧ (bs.map fun b => D.bool b).length ≤ 1000 ∧
    fAt Gb 21 1 5 (bs.map fun b => D.bool b) (sC (bs.map fun b => D.bool b) 3 (intsD (initN 3)) (intsD (initN 3)) .undef .undef) [] (contF Gb 21 2 [] Q)) (by kernel_rfl) ?_
  refine ⟨by decide, by decide, by decide, by decide, hsz, by decide, by decide, by decide, by decide, hsz, by rw [List.length_map]; exact hb, ?_⟩
  exact chosen_loop3 bs _ _ _ _ rfl rfl fun o one grown => Eq.mp (α := Q (intsD (chosenF bs (initN 3) (initN 3)))) (by kernel_rfl) q
theorem chosen_run4 {bs : List Bool} (hb : bs.length ≤ 1000) {Q : D → Prop} (q : Q (intsD (chosenF bs (initN 4) (initN 4)))) : rn Gb 21 [] ["opens", "count"] [.lst (bs.map fun b => D.bool b), .int 4] Q := by
  have hsz : 5 ≤ sizeLine := by unfold sizeLine; omega
  refine Eq.mp (α := 1 ≤ 1000 ∧ 1 ≤ 1000 ∧ 1 ≤ 16 ∧ 4 ≤ 16 ∧ 5 ≤ sizeLine ∧ 1 ≤ 1000 ∧ 1 ≤ 1000 ∧ 1 ≤ 16 ∧ 4 ≤ 16 ∧ 5 ≤ sizeLine ∧ (bs.map fun b => D.bool b).length ≤ 1000 ∧
    fAt Gb 21 1 5 (bs.map fun b => D.bool b) (sC (bs.map fun b => D.bool b) 4 (intsD (initN 4)) (intsD (initN 4)) .undef .undef) [] (contF Gb 21 2 [] Q)) (by kernel_rfl) ?_
  refine ⟨by decide, by decide, by decide, by decide, hsz, by decide, by decide, by decide, by decide, hsz, by rw [List.length_map]; exact hb, ?_⟩
  exact chosen_loop4 bs _ _ _ _ rfl rfl fun o one grown => Eq.mp (α := Q (intsD (chosenF bs (initN 4) (initN 4)))) (by kernel_rfl) q
noncomputable def chosenC : Con := fun ds Q => match ds with
  | [.lst os, .int n] => ∃ (bs : List Bool) (k : Nat), os = bs.map (fun b => D.bool b) ∧ n = k ∧ (k = 3 ∨ k = 4) ∧ bs.length ≤ 1000 ∧ Q (intsD (chosenF bs (initN k) (initN k)))
  | _ => False
theorem chosen_at {r : Nat} {w : World} (h : Heap) (g : Gl w h) : ∃ fv, FnAt (r + 1 + 1) w "_law_chosen" chosenC h fv := by
  obtain ⟨fv, F⟩ := def_at (r := r + 1) (m := 14) (n := 6) (os := []) Gb_ok chosen_def h g
  refine ⟨fv, F.weak fun ds Q hq => ?_⟩
  unfold chosenC at hq
  split at hq
  · obtain ⟨bs, k, rfl, rfl, hk, hb, hq⟩ := hq
    rcases hk with rfl | rfl
    · exact ⟨rfl, chosen_run3 hb hq⟩
    · exact ⟨rfl, chosen_run4 hb hq⟩
  · exact hq.elim
end
section
theorem due_def : DefOk (dN "_law_due" 22) ["opens"] where
  mem := List.mem_of_getElem? (i := 14) (by kernel_rfl)
  bind := fun pm code doc vals h => by
    obtain ⟨a, rfl⟩ := lenv1 h
    kernel_rfl
  kind := by kernel_rfl
  co := by kernel_rfl
  gen := by kernel_rfl
  nd := by decide
  pk := pk1 (.inl (by kernel_rfl))
noncomputable def Gd : Gt := ("_law_chosen", chosenC) :: ("_law_factorial", factC) :: Gb
theorem Gd_ok {r : Nat} {w : World} : GOk (r + 1 + 1) w Gd := .cons chosen_at (.cons fact_at Gb_ok.up)
noncomputable def sD (os : List D) (n : Int) (c m j k t w : D) : Sto := [("opens", .lst os), ("count", .int n), ("chosen", c), ("more", m), ("j", j), ("due", .undef), ("k", k), ("total", t), ("ways", w)]
/-- the for that stands as number j2 of a for's body -/
noncomputable def fIn (G : Gt) (i j j2 n : Nat) : List D → Sto → Own → SQ → Prop := match (fBody (stAt i))[j]? with
  | some (.For t _ body _ _) => match body[j2]? with
    | some (.For t _ body _ _) => forW (fScope (stAt i)).names t (fun σ1 ω1 Q => seqW (exN G 14 n (fScope (stAt i)).names) body σ1 ω1 Q)
    | _ => fun _ _ _ _ => False
  | _ => fun _ _ _ _ => False
noncomputable def waysZ (k j : Int) : Int := (factN j.toNat : Int).fdiv ((factN k.toNat : Int) * (factN (j - k).toNat : Int))
noncomputable def termZ (n k j c : Int) : Int := (-1) ^ (j - k).toNat * waysZ k j * c * (factN (n - j).toNat : Int)
noncomputable def rngL (a b : Int) : List Int := (List.range (b - a).toNat).map fun (i : Nat) => a + i
noncomputable def totF (n k : Int) (cl : List Int) (js : List Int) (t : Int) : Int := js.foldl (fun t j => t + termZ n k j (cl.getD j.toNat 0)) t
noncomputable def dueN (n : Int) (cl : List Int) : List Int := (rngL 0 (n + 1)).map fun k => totF n k cl (rngL k (n + 1)) 0
theorem fact_le : ∀ i : Fin 5, 1 ≤ factN i.1 ∧ factN i.1 ≤ 24 := by decide
theorem fact_bd {i : Int} (h0 : 0 ≤ i) (h4 : i ≤ 4) : 1 ≤ factN i.toNat ∧ factN i.toNat ≤ 24 := fact_le ⟨i.toNat, by omega⟩
theorem ways_le : ∀ k j : Fin 5, (waysZ (k.1 : Int) (j.1 : Int)).natAbs ≤ 24 := by decide +kernel
theorem ways_bd {k j : Int} (h0 : 0 ≤ k) (h1 : k ≤ 4) (h2 : 0 ≤ j) (h3 : j ≤ 4) : (waysZ k j).natAbs ≤ 24 := by
  have := ways_le ⟨k.toNat, by omega⟩ ⟨j.toNat, by omega⟩
  have e1 : ((k.toNat : Nat) : Int) = k := by omega
  have e2 : ((j.toNat : Nat) : Int) = j := by omega
  simp only [e1, e2] at this
  exact this
theorem one_pow (m : Nat) : ((-1 : Int) ^ m).natAbs = 1 := by rw [Int.natAbs_pow]; simp
theorem due_in {os ds : List D} {cl : List Int} {n k j t : Int} {m j0 w : D} {l : List D} {Q : SQ} (hk : 0 ≤ k) (hkj : k ≤ j) (hjn : j ≤ n) (hn : n ≤ 4) (hl : n < cl.length) (hb : ∀ i, (cl.getD i 0).natAbs ≤ 1000000)
    (h : ∀ w, fIn Gd 22 4 1 4 ds (sD os n (intsD cl) m (.int j) (.int k) (.int (t + termZ n k j (cl.getD j.toNat 0))) w) [("due", l)] Q) :
    fIn Gd 22 4 1 4 (.int j :: ds) (sD os n (intsD cl) m j0 (.int k) (.int t) w) [("due", l)] Q := by
  have f1 := fact_bd (i := k) (by omega) (by omega)
  have f2 := fact_bd (i := j - k) (by omega) (by omega)
  have f3 := fact_bd (i := n - j) (by omega) (by omega)
  have wb := ways_bd hk (by omega : k ≤ 4) (by omega : 0 ≤ j) (by omega : j ≤ 4)
  have p1 := one_pow (j - k).toNat
  have hm : ((factN k.toNat : Int) * (factN (j - k).toNat : Int)).natAbs ≤ 24 * 24 := by
    rw [Int.natAbs_mul]
    exact Nat.mul_le_mul (by omega) (by omega)
  have hm0 : ((factN k.toNat : Int) * (factN (j - k).toNat : Int)) ≠ 0 := by
    refine Int.mul_ne_zero ?_ ?_ <;> omega
  have hc := hb j.toNat
  have b1 : ((-1 : Int) ^ (j - k).toNat * waysZ k j).natAbs ≤ 24 := by rw [Int.natAbs_mul, p1]; omega
  have b2 : ((-1 : Int) ^ (j - k).toNat * waysZ k j * cl.getD j.toNat 0).natAbs ≤ 24 * 1000000 := by
    rw [Int.natAbs_mul]
    exact Nat.mul_le_mul b1 hc
  refine And.intro (by omega) (And.intro (by omega) (And.intro hk (And.intro (by omega) (And.intro (by omega) (And.intro (by omega) (And.intro (by unfold small; omega) (And.intro (by unfold small; omega) (And.intro hm0 (And.intro (by omega) (And.intro (by omega) (And.intro (by omega) (And.intro (by unfold small; decide)
    (And.intro (by unfold small; omega) (And.intro (show small (waysZ k j) by unfold small; omega) (And.intro (by omega) (And.intro (by omega) (onSome_intro (d := j.toNat) (seqIndex_nat (by omega) (by rw [List.length_map]; omega)) (onSome_intro (ints_get (by omega)) ?_))))))))))))))))))
  refine Eq.mp (α := small ((-1) ^ (j - k).toNat * waysZ k j) ∧ small (cl.getD j.toNat 0) ∧ 0 ≤ n - j ∧ n - j ≤ 4 ∧ small ((-1) ^ (j - k).toNat * waysZ k j * cl.getD j.toNat 0) ∧ small (factN (n - j).toNat) ∧
    fIn Gd 22 4 1 4 ds (sD os n (intsD cl) m (.int j) (.int k) (.int (t + termZ n k j (cl.getD j.toNat 0))) (.int (waysZ k j))) [("due", l)] Q) (by kernel_rfl) ?_
  exact ⟨by unfold small; omega, by unfold small; omega, by omega, by omega, by unfold small; omega, by unfold small; omega, h _⟩
theorem due_inner {os : List D} {cl : List Int} {n k : Int} {m : D} {l : List D} {Q : SQ} (hk : 0 ≤ k) (hn : n ≤ 4) (hl : n < cl.length) (hb : ∀ i, (cl.getD i 0).natAbs ≤ 1000000) : ∀ (js : List Int) (t : Int) (j0 w : D), (∀ j ∈ js, k ≤ j ∧ j ≤ n) →
    (∀ j0 w, Q .next (sD os n (intsD cl) m j0 (.int k) (.int (totF n k cl js t)) w) [("due", l)]) → fIn Gd 22 4 1 4 (js.map fun a => D.int a) (sD os n (intsD cl) m j0 (.int k) (.int t) w) [("due", l)] Q
  | [], t, j0, w, _, q => q _ _
  | j :: r, t, j0, w, hj, q => due_in hk (hj j (.head _)).1 (hj j (.head _)).2 hn hl hb fun w => due_inner hk hn hl hb r _ _ _ (fun i hi => hj i (.tail _ hi)) q
theorem rngL_mem {a b j : Int} (h : j ∈ rngL a b) : a ≤ j ∧ j < b := by
  unfold rngL at h
  simp only [List.mem_map, List.mem_range] at h
  obtain ⟨i, hi, rfl⟩ := h
  omega
theorem rng_map (a b : Int) : ((List.range (b - a).toNat).map fun (k : Nat) => D.int (a + k)) = (rngL a b).map fun a => D.int a := by
  unfold rngL; rw [List.map_map]; rfl
/-- how a for goes on after a run of its body -/
noncomputable def backF (G : Gt) (i j n : Nat) (ds : List D) (Q : SQ) : SQ := fun o σ1 ω1 => match o with
  | .next => fAt G i j n ds σ1 ω1 Q
  | .brk => Q .next σ1 ω1
  | .ret d => Q (.ret d) σ1 ω1
/-- how a for's body goes on after its statement j2 -/
noncomputable def afterIn (G : Gt) (i j j2 n : Nat) (Q : SQ) : SQ := match (fBody (stAt i))[j]? with
  | some (.For t _ body _ _) => fun o σ1 ω1 => match o with
    | .next => seqW (exN G 14 n (fScope (stAt i)).names) (body.drop (j2 + 1)) σ1 ω1 Q
    | .brk => Q .brk σ1 ω1
    | .ret d => Q (.ret d) σ1 ω1
  | _ => fun _ _ _ => False
theorem due_out {os ds : List D} {cl : List Int} {n k : Int} {m j0 k0 t w : D} {l : List D} {Q : SQ} (hk : 0 ≤ k) (hkn : k ≤ n) (hn : n ≤ 4) (hl : n < cl.length) (hb : ∀ i, (cl.getD i 0).natAbs ≤ 1000000) (hll : l.length ≤ 100)
    (h : ∀ j0 t w, fAt Gd 22 4 5 ds (sD os n (intsD cl) m j0 (.int k) t w) [("due", l ++ [.int (totF n k cl (rngL k (n + 1)) 0)])] Q) :
    fAt Gd 22 4 5 (.int k :: ds) (sD os n (intsD cl) m j0 k0 t w) [("due", l)] Q := by
  refine Eq.mp (α := k.natAbs ≤ 1000 ∧ (n + 1).natAbs ≤ 1000 ∧ fIn Gd 22 4 1 4 ((List.range (n + 1 - k).toNat).map fun (i : Nat) => D.int (k + i)) (sD os n (intsD cl) m j0 (.int k) (.int 0) w) [("due", l)] (afterIn Gd 22 4 1 5 (backF Gd 22 4 5 ds Q))) (by kernel_rfl) ?_
  refine ⟨by omega, by omega, ?_⟩
  rw [rng_map]
  refine due_inner hk hn hl hb _ _ _ _ (fun j hj => by have := rngL_mem hj; omega) fun j0 w => ?_
  exact Eq.mp (α := l.length ≤ 1000 ∧ fAt Gd 22 4 5 ds (sD os n (intsD cl) m j0 (.int k) (.int (totF n k cl (rngL k (n + 1)) 0)) w) [("due", l ++ [.int (totF n k cl (rngL k (n + 1)) 0)])] Q) (by kernel_rfl) ⟨by omega, h _ _ _⟩
theorem due_outer {os : List D} {cl : List Int} {n : Int} {m : D} {Q : SQ} (hn : n ≤ 4) (hl : n < cl.length) (hb : ∀ i, (cl.getD i 0).natAbs ≤ 1000000) : ∀ (ks : List Int) (l : List D) (j0 k0 t w : D), (∀ k ∈ ks, 0 ≤ k ∧ k ≤ n) → l.length + ks.length ≤ 100 →
    (∀ j0 k0 t w, Q .next (sD os n (intsD cl) m j0 k0 t w) [("due", l ++ ks.map fun k => .int (totF n k cl (rngL k (n + 1)) 0))]) → fAt Gd 22 4 5 (ks.map fun a => D.int a) (sD os n (intsD cl) m j0 k0 t w) [("due", l)] Q
  | [], l, j0, k0, t, w, _, _, q => by
    have := q j0 k0 t w
    rw [List.map_nil, List.append_nil] at this
    exact this
  | k :: r, l, j0, k0, t, w, hk, hll, q => by
    simp only [List.length_cons] at hll
    refine due_out (hk k (.head _)).1 (hk k (.head _)).2 hn hl hb (by omega) fun j0 t w => ?_
    refine due_outer hn hl hb r _ _ _ _ _ (fun i hi => hk i (.tail _ hi)) (by rw [List.length_append, List.length_singleton]; omega) fun j0 k0 t w => ?_
    have := q j0 k0 t w
    rw [List.map_cons, List.append_cons] at this
    exact this
theorem due_tail {os : List D} {cl : List Int} {n : Int} {m j0 : D} {Q : D → Prop} (h0 : 0 ≤ n) (hn : n ≤ 4) (hl : n < cl.length) (hb : ∀ i, (cl.getD i 0).natAbs ≤ 1000000) (q : Q (intsD (dueN n cl))) :
    rest Gd 22 3 ["due"] (sD os n (intsD cl) m j0 .undef .undef .undef) [] Q := by
  refine Eq.mp (α := 0 ≤ 1000 ∧ (0 : Int).natAbs ≤ 1000 ∧ (n + 1).natAbs ≤ 1000 ∧ fAt Gd 22 4 5 ((List.range (n + 1 - 0).toNat).map fun (i : Nat) => D.int (0 + i)) (sD os n (intsD cl) m j0 .undef .undef .undef) [("due", [])] (contF Gd 22 5 ["due"] Q)) (by kernel_rfl) ?_
  refine ⟨by decide, by decide, by omega, ?_⟩
  rw [rng_map]
  refine due_outer hn hl hb _ _ _ _ _ _ (fun j hj => by have := rngL_mem hj; omega) (by unfold rngL; simp; omega) fun j0 k0 t w => ?_
  rw [List.nil_append]
  refine Eq.mp (α := Q (intsD ((rngL 0 (n + 1)).map fun k => totF n k cl (rngL k (n + 1)) 0))) ?_ q
  unfold intsD
  rw [List.map_map]
  kernel_rfl
end
section
theorem zip_bd {A B : Nat} : ∀ {a b : List Int}, (∀ x ∈ a, x.natAbs ≤ A) → (∀ x ∈ b, x.natAbs ≤ B) → ∀ x ∈ List.zipWith (· + ·) a b, x.natAbs ≤ A + B
  | [], b, _, _ => by simp
  | x :: a, [], _, _ => by simp
  | x :: a, y :: b, ha, hb => by
    intro z hz
    rw [List.zipWith_cons_cons] at hz
    rcases List.mem_cons.mp hz with rfl | hz
    · have h1 := ha x (.head _)
      have h2 := hb y (.head _)
      show (x + y).natAbs ≤ A + B
      omega
    · exact zip_bd (fun x h => ha x (.tail _ h)) (fun x h => hb x (.tail _ h)) z hz
theorem grow_bd {b : Bool} {B : Nat} {o n : List Int} (ho : ∀ x ∈ o, x.natAbs ≤ B) (hn : ∀ x ∈ n, x.natAbs ≤ B) : ∀ x ∈ growN b o n, x.natAbs ≤ B + B := by
  cases b with
  | true =>
    refine zip_bd hn fun x hx => ?_
    rcases List.mem_cons.mp hx with rfl | hx
    · simp
    · exact ho x hx
  | false =>
    intro x hx
    simp only [growN, List.mem_map] at hx
    obtain ⟨y, hy, rfl⟩ := hx
    have := hn y hy
    omega
theorem chosen_bd : ∀ (bs : List Bool) {B : Nat} {o n : List Int}, (∀ x ∈ o, x.natAbs ≤ B) → (∀ x ∈ n, x.natAbs ≤ B) → ∀ x ∈ chosenF bs o n, x.natAbs ≤ B * 2 ^ bs.length
  | [], B, o, n, ho, hn => by simpa [chosenF] using hn
  | b :: r, B, o, n, ho, hn => by
    intro x hx
    have := chosen_bd r (fun x h => Nat.le_trans (hn x h) (by omega : B ≤ B + B)) (grow_bd (b := b) ho hn) x hx
    rw [List.length_cons, Nat.pow_succ]
    have e : B * (2 ^ r.length * 2) = (B + B) * 2 ^ r.length := by rw [Nat.mul_comm (2 ^ r.length), ← Nat.mul_assoc, Nat.mul_two]
    rw [e]; exact this
theorem init_bd {n : Nat} : ∀ x ∈ initN n, x.natAbs ≤ 1 := by
  intro x hx
  rcases List.mem_cons.mp hx with rfl | hx
  · decide
  · rw [(List.mem_replicate.mp hx).2]; decide
theorem getD_bd {l : List Int} {B : Nat} (h : ∀ x ∈ l, x.natAbs ≤ B) (i : Nat) : (l.getD i 0).natAbs ≤ B := by
  rw [List.getD_eq_getElem?_getD]
  cases hi : l[i]? with
  | none => simp
  | some x => exact h x (List.mem_of_getElem? hi)
theorem chosen_len : ∀ (bs : List Bool) {o n : List Int} {k : Nat}, o.length = k → n.length = k → (chosenF bs o n).length = k
  | [], o, n, k, ho, hn => hn
  | b :: r, o, n, k, ho, hn => by
    refine chosen_len r hn ?_
    cases b with
    | true => simp only [growN, List.length_zipWith, List.length_cons]; omega
    | false => simp only [growN, List.length_map]; omega
noncomputable def chF (k : Nat) (bs : List Bool) : List Int := chosenF bs (initN k) (initN k)
theorem chF_len {k : Nat} {bs : List Bool} : (chF k bs).length = k + 1 := chosen_len bs (by unfold initN; simp) (by unfold initN; simp)
theorem chF_bd {k : Nat} {bs : List Bool} (h : bs.length ≤ 8) : ∀ x ∈ chF k bs, x.natAbs ≤ 256 := fun x hx => by
  have h1 := chosen_bd bs init_bd init_bd x hx
  have h2 : 2 ^ bs.length ≤ 2 ^ 8 := Nat.pow_le_pow_right (by decide) h
  omega
end
section
/-- what stands after the first statement of an if's body -/
noncomputable def ifRest (G : Gt) (i j n : Nat) : Sto → Own → SQ → Prop := match (fBody (stAt i))[j]? with
  | some (.If _ a _ _) => seqW (exN G 14 n (fScope (stAt i)).names) (a.drop 1)
  | _ => fun _ _ _ => False
/-- what is due: the counts by the coefficients of the ring -/
noncomputable def dueF (n : Nat) (bs : List Bool) : List Int := match bs with
  | true :: r => dueN n (growN true (chF n (r.drop 1).dropLast) (chF n r))
  | false :: r => dueN n (chF n r)
  | [] => []
noncomputable def dueC : Con := fun ds Q => match ds with
  | [.lst os] => ∃ (bs : List Bool) (n : Nat), os = bs.map (fun b => D.bool b) ∧ bs.length = 2 * n ∧ (n = 3 ∨ n = 4) ∧ Q (intsD (dueF n bs))
  | _ => False
theorem due_more3 {os : List D} {c0 c1 c2 c3 m0 m1 m2 m3 : Int} {Q : D → Prop} (h : rest Gd 22 3 ["due"] (sD os 3 (intsD [c0 + 0, c1 + m0, c2 + m1, c3 + m2]) (intsD [m0, m1, m2, m3]) .undef .undef .undef .undef) [] Q) :
    ifRest Gd 22 2 5 (sD os 3 (intsD [c0, c1, c2, c3]) (intsD [m0, m1, m2, m3]) .undef .undef .undef .undef) [] (contF Gd 22 3 ["due"] Q) := by
  iterate 21 (first
    | (refine And.intro (by decide) ?_)
    | (refine And.intro (fun hh => ?_) (fun hh => absurd hh (by decide)))
    | (refine And.intro (fun hh => absurd hh (by decide)) (fun hh => ?_)))
  exact Eq.mp (α := rest Gd 22 3 ["due"] (sD os 3 (intsD [c0 + 0, c1 + m0, c2 + m1, c3 + m2]) (intsD [m0, m1, m2, m3]) .undef .undef .undef .undef) [] Q) (by kernel_rfl) h
theorem due_more3' {os : List D} {c0 c1 c2 c3 : Int} {Q : D → Prop} (mm : List Int) (hl : mm.length = 4) (h : rest Gd 22 3 ["due"] (sD os 3 (intsD (growN true mm [c0, c1, c2, c3])) (intsD mm) .undef .undef .undef .undef) [] Q) :
    ifRest Gd 22 2 5 (sD os 3 (intsD [c0, c1, c2, c3]) (intsD mm) .undef .undef .undef .undef) [] (contF Gd 22 3 ["due"] Q) := by
  have key : ∀ m0 m1 m2 m3, mm = [m0, m1, m2, m3] → ifRest Gd 22 2 5 (sD os 3 (intsD [c0, c1, c2, c3]) (intsD mm) .undef .undef .undef .undef) [] (contF Gd 22 3 ["due"] Q) := by
    intro m0 m1 m2 m3 e
    subst e
    exact due_more3 h
  obtain ⟨m0, m1, m2, m3, e⟩ := len_4 hl
  exact key _ _ _ _  e
theorem due_true3 {b1 b2 b3 b4 b5 : Bool} {c0 c1 c2 c3 : Int} {Q : D → Prop} (h : rest Gd 22 3 ["due"] (sD [.bool true, .bool b1, .bool b2, .bool b3, .bool b4, .bool b5] 3 (intsD (growN true (chF 3 [b2, b3, b4]) [c0, c1, c2, c3])) (intsD (chF 3 [b2, b3, b4])) .undef .undef .undef .undef) [] Q) :
    rest Gd 22 2 ["due"] (sD [.bool true, .bool b1, .bool b2, .bool b3, .bool b4, .bool b5] 3 (intsD [c0, c1, c2, c3]) .undef .undef .undef .undef .undef) [] Q := by
  have hsz : 6 ≤ sizeLine := by unfold sizeLine; omega
  refine And.intro (by decide) (And.intro (by decide) (And.intro (fun _ => And.intro hsz (Exists.intro [b2, b3, b4] (Exists.intro 3 (And.intro rfl (And.intro rfl (And.intro (by decide) (And.intro (show 3 ≤ 1000 by decide) ?_))))))) (fun hh => nomatch hh)))
  exact Eq.mp (α := ifRest Gd 22 2 5 (sD [.bool true, .bool b1, .bool b2, .bool b3, .bool b4, .bool b5] 3 (intsD [c0, c1, c2, c3]) (intsD (chF 3 [b2, b3, b4])) .undef .undef .undef .undef) [] (contF Gd 22 3 ["due"] Q)) (by kernel_rfl) (due_more3' _ chF_len h)
theorem due_false3 {b1 b2 b3 b4 b5 : Bool} {c0 c1 c2 c3 : Int} {Q : D → Prop} (h : rest Gd 22 3 ["due"] (sD [.bool false, .bool b1, .bool b2, .bool b3, .bool b4, .bool b5] 3 (intsD [c0, c1, c2, c3]) .undef .undef .undef .undef .undef) [] Q) :
    rest Gd 22 2 ["due"] (sD [.bool false, .bool b1, .bool b2, .bool b3, .bool b4, .bool b5] 3 (intsD [c0, c1, c2, c3]) .undef .undef .undef .undef .undef) [] Q := by
  refine And.intro (by decide) (And.intro (by decide) (And.intro (fun hh => nomatch hh) (fun _ => ?_)))
  exact Eq.mp (α := rest Gd 22 3 ["due"] (sD [.bool false, .bool b1, .bool b2, .bool b3, .bool b4, .bool b5] 3 (intsD [c0, c1, c2, c3]) .undef .undef .undef .undef .undef) [] Q) (by kernel_rfl) h
theorem due_start3 {b0 b1 b2 b3 b4 b5 : Bool} {Q : D → Prop} (h : rest Gd 22 2 ["due"] (sD [.bool b0, .bool b1, .bool b2, .bool b3, .bool b4, .bool b5] 3 (intsD (chF 3 [b1, b2, b3, b4, b5])) .undef .undef .undef .undef .undef) [] Q) : rn Gd 22 ["due"] ["opens"] [.lst [.bool b0, .bool b1, .bool b2, .bool b3, .bool b4, .bool b5]] Q := by
  have hsz : 6 ≤ sizeLine := by unfold sizeLine; omega
  refine And.intro hsz (And.intro (by decide) (And.intro (by decide) (And.intro hsz (Exists.intro [b1, b2, b3, b4, b5] (Exists.intro 3 (And.intro rfl (And.intro (show (6 : Int).fdiv 2 = 3 by decide) (And.intro (by decide) (And.intro (show 5 ≤ 1000 by decide) ?_)))))))))
  exact Eq.mp (α := rest Gd 22 2 ["due"] (sD [.bool b0, .bool b1, .bool b2, .bool b3, .bool b4, .bool b5] 3 (intsD (chF 3 [b1, b2, b3, b4, b5])) .undef .undef .undef .undef .undef) [] Q) (by kernel_rfl) h
theorem due_goT3 {b1 b2 b3 b4 b5 : Bool} {Q : D → Prop} (cc : List Int) (hl : cc.length = 4) (hb : ∀ x ∈ cc, x.natAbs ≤ 256) (q : Q (intsD (dueN (3 : Nat) (growN true (chF 3 [b2, b3, b4]) cc)))) :
    rest Gd 22 2 ["due"] (sD [.bool true, .bool b1, .bool b2, .bool b3, .bool b4, .bool b5] 3 (intsD cc) .undef .undef .undef .undef .undef) [] Q := by
  obtain ⟨c0, c1, c2, c3, rfl⟩ := len_4 hl
  · refine due_true3 (due_tail (by decide) (by decide) ?_ (getD_bd fun x hx => Nat.le_trans (grow_bd (b := true) (chF_bd (k := 3) (bs := [b2, b3, b4]) (show 3 ≤ 8 by decide)) hb x hx) (by decide)) q)
    have : (growN true (chF 3 [b2, b3, b4]) [c0, c1, c2, c3]).length = 4 := by
      have := chF_len (k := 3) (bs := [b2, b3, b4])
      simp only [growN, List.length_zipWith, List.length_cons, List.length_nil]; omega
    rw [this]; decide
theorem due_goF3 {b1 b2 b3 b4 b5 : Bool} {Q : D → Prop} (cc : List Int) (hl : cc.length = 4) (hb : ∀ x ∈ cc, x.natAbs ≤ 256) (q : Q (intsD (dueN (3 : Nat) cc))) :
    rest Gd 22 2 ["due"] (sD [.bool false, .bool b1, .bool b2, .bool b3, .bool b4, .bool b5] 3 (intsD cc) .undef .undef .undef .undef .undef) [] Q := by
  obtain ⟨c0, c1, c2, c3, rfl⟩ := len_4 hl
  exact due_false3 (due_tail (by decide) (by decide) (by show (3 : Int) < ((4 : Nat) : Int); decide) (getD_bd fun x hx => Nat.le_trans (hb x hx) (by decide)) q)
theorem due_run3 {b0 b1 b2 b3 b4 b5 : Bool} {Q : D → Prop} (q : Q (intsD (dueF 3 [b0, b1, b2, b3, b4, b5]))) : rn Gd 22 ["due"] ["opens"] [.lst [.bool b0, .bool b1, .bool b2, .bool b3, .bool b4, .bool b5]] Q := by
  refine due_start3 ?_
  cases b0 with
  | true => exact due_goT3 _ chF_len (chF_bd (show 5 ≤ 8 by decide)) q
  | false => exact due_goF3 _ chF_len (chF_bd (show 5 ≤ 8 by decide)) q
theorem due_more4 {os : List D} {c0 c1 c2 c3 c4 m0 m1 m2 m3 m4 : Int} {Q : D → Prop} (h : rest Gd 22 3 ["due"] (sD os 4 (intsD [c0 + 0, c1 + m0, c2 + m1, c3 + m2, c4 + m3]) (intsD [m0, m1, m2, m3, m4]) .undef .undef .undef .undef) [] Q) :
    ifRest Gd 22 2 5 (sD os 4 (intsD [c0, c1, c2, c3, c4]) (intsD [m0, m1, m2, m3, m4]) .undef .undef .undef .undef) [] (contF Gd 22 3 ["due"] Q) := by
  iterate 26 (first
    | (refine And.intro (by decide) ?_)
    | (refine And.intro (fun hh => ?_) (fun hh => absurd hh (by decide)))
    | (refine And.intro (fun hh => absurd hh (by decide)) (fun hh => ?_)))
  exact Eq.mp (α := rest Gd 22 3 ["due"] (sD os 4 (intsD [c0 + 0, c1 + m0, c2 + m1, c3 + m2, c4 + m3]) (intsD [m0, m1, m2, m3, m4]) .undef .undef .undef .undef) [] Q) (by kernel_rfl) h
theorem due_more4' {os : List D} {c0 c1 c2 c3 c4 : Int} {Q : D → Prop} (mm : List Int) (hl : mm.length = 5) (h : rest Gd 22 3 ["due"] (sD os 4 (intsD (growN true mm [c0, c1, c2, c3, c4])) (intsD mm) .undef .undef .undef .undef) [] Q) :
    ifRest Gd 22 2 5 (sD os 4 (intsD [c0, c1, c2, c3, c4]) (intsD mm) .undef .undef .undef .undef) [] (contF Gd 22 3 ["due"] Q) := by
  have key : ∀ m0 m1 m2 m3 m4, mm = [m0, m1, m2, m3, m4] → ifRest Gd 22 2 5 (sD os 4 (intsD [c0, c1, c2, c3, c4]) (intsD mm) .undef .undef .undef .undef) [] (contF Gd 22 3 ["due"] Q) := by
    intro m0 m1 m2 m3 m4 e
    subst e
    exact due_more4 h
  obtain ⟨m0, m1, m2, m3, m4, e⟩ := len_5 hl
  exact key _ _ _ _ _ e
theorem due_true4 {b1 b2 b3 b4 b5 b6 b7 : Bool} {c0 c1 c2 c3 c4 : Int} {Q : D → Prop} (h : rest Gd 22 3 ["due"] (sD [.bool true, .bool b1, .bool b2, .bool b3, .bool b4, .bool b5, .bool b6, .bool b7] 4 (intsD (growN true (chF 4 [b2, b3, b4, b5, b6]) [c0, c1, c2, c3, c4])) (intsD (chF 4 [b2, b3, b4, b5, b6])) .undef .undef .undef .undef) [] Q) :
    rest Gd 22 2 ["due"] (sD [.bool true, .bool b1, .bool b2, .bool b3, .bool b4, .bool b5, .bool b6, .bool b7] 4 (intsD [c0, c1, c2, c3, c4]) .undef .undef .undef .undef .undef) [] Q := by
  have hsz : 8 ≤ sizeLine := by unfold sizeLine; omega
  refine And.intro (by decide) (And.intro (by decide) (And.intro (fun _ => And.intro hsz (Exists.intro [b2, b3, b4, b5, b6] (Exists.intro 4 (And.intro rfl (And.intro rfl (And.intro (by decide) (And.intro (show 5 ≤ 1000 by decide) ?_))))))) (fun hh => nomatch hh)))
  exact Eq.mp (α := ifRest Gd 22 2 5 (sD [.bool true, .bool b1, .bool b2, .bool b3, .bool b4, .bool b5, .bool b6, .bool b7] 4 (intsD [c0, c1, c2, c3, c4]) (intsD (chF 4 [b2, b3, b4, b5, b6])) .undef .undef .undef .undef) [] (contF Gd 22 3 ["due"] Q)) (by kernel_rfl) (due_more4' _ chF_len h)
theorem due_false4 {b1 b2 b3 b4 b5 b6 b7 : Bool} {c0 c1 c2 c3 c4 : Int} {Q : D → Prop} (h : rest Gd 22 3 ["due"] (sD [.bool false, .bool b1, .bool b2, .bool b3, .bool b4, .bool b5, .bool b6, .bool b7] 4 (intsD [c0, c1, c2, c3, c4]) .undef .undef .undef .undef .undef) [] Q) :
    rest Gd 22 2 ["due"] (sD [.bool false, .bool b1, .bool b2, .bool b3, .bool b4, .bool b5, .bool b6, .bool b7] 4 (intsD [c0, c1, c2, c3, c4]) .undef .undef .undef .undef .undef) [] Q := by
  refine And.intro (by decide) (And.intro (by decide) (And.intro (fun hh => nomatch hh) (fun _ => ?_)))
  exact Eq.mp (α := rest Gd 22 3 ["due"] (sD [.bool false, .bool b1, .bool b2, .bool b3, .bool b4, .bool b5, .bool b6, .bool b7] 4 (intsD [c0, c1, c2, c3, c4]) .undef .undef .undef .undef .undef) [] Q) (by kernel_rfl) h
theorem due_start4 {b0 b1 b2 b3 b4 b5 b6 b7 : Bool} {Q : D → Prop} (h : rest Gd 22 2 ["due"] (sD [.bool b0, .bool b1, .bool b2, .bool b3, .bool b4, .bool b5, .bool b6, .bool b7] 4 (intsD (chF 4 [b1, b2, b3, b4, b5, b6, b7])) .undef .undef .undef .undef .undef) [] Q) : rn Gd 22 ["due"] ["opens"] [.lst [.bool b0, .bool b1, .bool b2, .bool b3, .bool b4, .bool b5, .bool b6, .bool b7]] Q := by
  have hsz : 8 ≤ sizeLine := by unfold sizeLine; omega
  refine And.intro hsz (And.intro (by decide) (And.intro (by decide) (And.intro hsz (Exists.intro [b1, b2, b3, b4, b5, b6, b7] (Exists.intro 4 (And.intro rfl (And.intro (show (8 : Int).fdiv 2 = 4 by decide) (And.intro (by decide) (And.intro (show 7 ≤ 1000 by decide) ?_)))))))))
  exact Eq.mp (α := rest Gd 22 2 ["due"] (sD [.bool b0, .bool b1, .bool b2, .bool b3, .bool b4, .bool b5, .bool b6, .bool b7] 4 (intsD (chF 4 [b1, b2, b3, b4, b5, b6, b7])) .undef .undef .undef .undef .undef) [] Q) (by kernel_rfl) h
theorem due_goT4 {b1 b2 b3 b4 b5 b6 b7 : Bool} {Q : D → Prop} (cc : List Int) (hl : cc.length = 5) (hb : ∀ x ∈ cc, x.natAbs ≤ 256) (q : Q (intsD (dueN (4 : Nat) (growN true (chF 4 [b2, b3, b4, b5, b6]) cc)))) :
    rest Gd 22 2 ["due"] (sD [.bool true, .bool b1, .bool b2, .bool b3, .bool b4, .bool b5, .bool b6, .bool b7] 4 (intsD cc) .undef .undef .undef .undef .undef) [] Q := by
  obtain ⟨c0, c1, c2, c3, c4, rfl⟩ := len_5 hl
  · refine due_true4 (due_tail (by decide) (by decide) ?_ (getD_bd fun x hx => Nat.le_trans (grow_bd (b := true) (chF_bd (k := 4) (bs := [b2, b3, b4, b5, b6]) (show 5 ≤ 8 by decide)) hb x hx) (by decide)) q)
    have : (growN true (chF 4 [b2, b3, b4, b5, b6]) [c0, c1, c2, c3, c4]).length = 5 := by
      have := chF_len (k := 4) (bs := [b2, b3, b4, b5, b6])
      simp only [growN, List.length_zipWith, List.length_cons, List.length_nil]; omega
    rw [this]; decide
theorem due_goF4 {b1 b2 b3 b4 b5 b6 b7 : Bool} {Q : D → Prop} (cc : List Int) (hl : cc.length = 5) (hb : ∀ x ∈ cc, x.natAbs ≤ 256) (q : Q (intsD (dueN (4 : Nat) cc))) :
    rest Gd 22 2 ["due"] (sD [.bool false, .bool b1, .bool b2, .bool b3, .bool b4, .bool b5, .bool b6, .bool b7] 4 (intsD cc) .undef .undef .undef .undef .undef) [] Q := by
  obtain ⟨c0, c1, c2, c3, c4, rfl⟩ := len_5 hl
  exact due_false4 (due_tail (by decide) (by decide) (by show (4 : Int) < ((5 : Nat) : Int); decide) (getD_bd fun x hx => Nat.le_trans (hb x hx) (by decide)) q)
theorem due_run4 {b0 b1 b2 b3 b4 b5 b6 b7 : Bool} {Q : D → Prop} (q : Q (intsD (dueF 4 [b0, b1, b2, b3, b4, b5, b6, b7]))) : rn Gd 22 ["due"] ["opens"] [.lst [.bool b0, .bool b1, .bool b2, .bool b3, .bool b4, .bool b5, .bool b6, .bool b7]] Q := by
  refine due_start4 ?_
  cases b0 with
  | true => exact due_goT4 _ chF_len (chF_bd (show 7 ≤ 8 by decide)) q
  | false => exact due_goF4 _ chF_len (chF_bd (show 7 ≤ 8 by decide)) q
theorem consB {n : Nat} {l : List Bool} (h : l.length = n + 1) : ∃ a r, l = a :: r ∧ r.length = n := by
  cases l with
  | nil => cases h
  | cons a r => exact ⟨a, r, rfl, Nat.succ.inj h⟩
theorem due_at {r : Nat} {w : World} (h : Heap) (g : Gl w h) : ∃ fv, FnAt (r + 1 + 1 + 1) w "_law_due" dueC h fv := by
  obtain ⟨fv, F⟩ := def_at (r := r + 1 + 1) (m := 14) (n := 6) (os := ["due"]) Gd_ok due_def h g
  refine ⟨fv, F.weak fun ds Q hq => ?_⟩
  unfold dueC at hq
  split at hq
  · obtain ⟨bs, n, rfl, hl, hn, hq⟩ := hq
    rcases hn with rfl | rfl
    · obtain ⟨b0, r0, rfl, h0⟩ := consB hl
      obtain ⟨b1, r1, rfl, h1⟩ := consB h0
      obtain ⟨b2, r2, rfl, h2⟩ := consB h1
      obtain ⟨b3, r3, rfl, h3⟩ := consB h2
      obtain ⟨b4, r4, rfl, h4⟩ := consB h3
      obtain ⟨b5, r5, rfl, h5⟩ := consB h4
      cases List.length_eq_zero_iff.mp h5
      exact ⟨rfl, due_run3 hq⟩
    · obtain ⟨b0, r0, rfl, h0⟩ := consB hl
      obtain ⟨b1, r1, rfl, h1⟩ := consB h0
      obtain ⟨b2, r2, rfl, h2⟩ := consB h1
      obtain ⟨b3, r3, rfl, h3⟩ := consB h2
      obtain ⟨b4, r4, rfl, h4⟩ := consB h3
      obtain ⟨b5, r5, rfl, h5⟩ := consB h4
      obtain ⟨b6, r6, rfl, h6⟩ := consB h5
      obtain ⟨b7, r7, rfl, h7⟩ := consB h6
      cases List.length_eq_zero_iff.mp h7
      exact ⟨rfl, due_run4 hq⟩
  · exact hq.elim
end
section
theorem seated_def : DefOk (dN "_law_seated" 19) ["plan", "men", "letters"] where
  mem := List.mem_of_getElem? (i := 11) (by kernel_rfl)
  bind := fun pm code doc vals h => by
    obtain ⟨a, b, c, rfl⟩ := lenv3 h
    kernel_rfl
  kind := by kernel_rfl
  co := by kernel_rfl
  gen := by kernel_rfl
  nd := by decide
  pk := fun p hp => by
    rcases List.mem_cons.mp hp with rfl | hp
    · exact .inr (by kernel_rfl)
    · rcases List.mem_cons.mp hp with rfl | hp
      · exact .inl (by kernel_rfl)
      · rw [List.mem_singleton.mp hp]; exact .inl (by kernel_rfl)
noncomputable def Ge : Gt := ("_ellipsis_match", ellC) :: Gb
theorem Ge_ok {r : Nat} {w : World} : GOk (r + 1 + 1) w Ge := .cons ell_at Gb_ok.up
/-- a statement of a for's body -/
noncomputable def fStm (i j k : Nat) : Option Stmt := match (fBody (stAt i))[j]? with
  | some (.For _ _ body _ _) => body[k]?
  | _ => none
/-- a comprehension's loop -/
noncomputable def loopE (G : Gt) (n : Nat) (K : List (Str × NameKind)) (e : Option PySem.Expr) : Sto → List D → (List D → Prop) → Prop := match e with
  | some (.ListComp elt [⟨t, it, ifs, 0⟩] scope _) => fun σ => loopW (evN G n) (relK scope K) σ t ifs (fun σ1 Q => (evN G n).ev (relK scope K) σ1 elt fun r => Q [r])
  | _ => fun _ _ _ => False
/-- a comprehension's outer loop, and its inner one -/
noncomputable def loop2 (G : Gt) (n : Nat) (K : List (Str × NameKind)) (e : Option PySem.Expr) : Sto → List D → (List D → Prop) → Prop := match e with
  | some (.ListComp elt [⟨t, it, [], 0⟩, ⟨t2, it2, [], 0⟩] scope _) => fun σ => loopW (evN G n) (relK scope K) σ t [] (fun σ1 Q =>
        itW (evN G n) (relK scope K) σ1 t2 it2 fun ds2 => ds2.length ≤ 2000 ∧ loopW (evN G n) (relK scope K) σ1 t2 [] (fun σ2 Q => (evN G n).ev (relK scope K) σ2 elt fun r => Q [r]) ds2 Q)
  | _ => fun _ _ _ => False
noncomputable def loop2i (G : Gt) (n : Nat) (K : List (Str × NameKind)) (e : Option PySem.Expr) : Sto → List D → (List D → Prop) → Prop := match e with
  | some (.ListComp elt [⟨t, it, [], 0⟩, ⟨t2, it2, [], 0⟩] scope _) => fun σ1 ds2 Q => loopW (evN G n) (relK scope K) σ1 t2 [] (fun σ2 Q => (evN G n).ev (relK scope K) σ2 elt fun r => Q [r]) ds2 Q
  | _ => fun _ _ _ => False
noncomputable def K19 : List (Str × NameKind) := (fScope (stAt 19)).names
noncomputable def eOrd : Option PySem.Expr := match fStm 19 1 0 with
  | some (.Assign _ e _) => some e
  | _ => none
noncomputable def eRing : Option PySem.Expr := match fStm 19 3 0 with
  | some (.Assign _ (.Call _ [e] _ _) _) => some e
  | _ => none
noncomputable def eAns : Option PySem.Expr := match fStm 19 3 1 with
  | some (.Assign _ e _) => some e
  | _ => none
noncomputable def eCnt : Option PySem.Expr := match fStm 19 3 2 with
  | some (.AugAssign (.Subscript _ (.Call _ [e] _ _) _) _ _ _) => some e
  | _ => none
noncomputable def strL (o : List (List Nat)) : D := .lst (o.map D.str)
noncomputable def sO (o s m : D) : Sto := [(".0", .undef), ("order", o), ("spot", s), ("man", m)]
theorem cut_to {α : Type} {l : List α} {s : Nat} (h : s ≤ l.length) : cut none (some (s : Int)) l = l.take s := by
  unfold cut
  simp only [Option.elim, List.drop_zero, Nat.sub_zero]
  rw [clipAt_nat]
  congr 1; omega
theorem cut_from {α : Type} {l : List α} {s : Nat} (h : s ≤ l.length) : cut (some (s : Int)) none l = l.drop s := by
  unfold cut
  simp only [Option.elim]
  rw [clipAt_nat, show min s l.length = s by omega]
  apply List.take_of_length_le
  rw [List.length_drop]
  exact Nat.le_refl _
noncomputable def insAt (m : List Nat) (o : List (List Nat)) (s : Nat) : List (List Nat) := o.take s ++ [m] ++ o.drop s
theorem ins_step {o : List (List Nat)} {s : Nat} {m : List Nat} {ds : List D} {Q : List D → Prop} (ho : o.length ≤ 100) (hs : s ≤ o.length)
    (h : loop2i Ge 14 K19 eOrd (sO (strL o) .undef (.str m)) ds fun rs => Q (strL (insAt m o s) :: rs)) : loop2i Ge 14 K19 eOrd (sO (strL o) .undef (.str m)) (.int (s : Int) :: ds) Q := by
  have hsz : 1000 ≤ sizeLine := by unfold sizeLine; omega
  have e1 : cut none (some (s : Int)) (o.map D.str) = (o.take s).map D.str := by rw [cut_to (by rw [List.length_map]; exact hs), List.map_take]
  have e2 : cut (some (s : Int)) none (o.map D.str) = (o.drop s).map D.str := by rw [cut_from (by rw [List.length_map]; exact hs), List.map_drop]
  refine Eq.mp (α := (o.map D.str).length ≤ sizeLine ∧ 1 ≤ 1000 ∧ (cut none (some (s : Int)) (o.map D.str)).length + 1 ≤ sizeLine ∧ (o.map D.str).length ≤ sizeLine ∧ (cut none (some (s : Int)) (o.map D.str) ++ [D.str m]).length + (cut (some (s : Int)) none (o.map D.str)).length ≤ sizeLine ∧
    loop2i Ge 14 K19 eOrd (sO (strL o) .undef (.str m)) ds fun rs => Q ([.lst (cut none (some (s : Int)) (o.map D.str) ++ [D.str m] ++ cut (some (s : Int)) none (o.map D.str))] ++ rs)) (by kernel_rfl) ?_
  rw [e1, e2]
  refine ⟨by rw [List.length_map]; omega, by decide, by rw [List.length_map, List.length_take]; omega, by rw [List.length_map]; omega, by simp only [List.length_append, List.length_map, List.length_take, List.length_drop, List.length_singleton]; omega, ?_⟩
  have e3 : (D.lst ((o.take s).map D.str ++ [D.str m] ++ (o.drop s).map D.str)) = strL (insAt m o s) := by unfold strL insAt; simp
  rw [e3]
  exact h
theorem ins_loop {o : List (List Nat)} {m : List Nat} (ho : o.length ≤ 100) : ∀ (ss : List Nat) {Q : List D → Prop}, (∀ s ∈ ss, s ≤ o.length) → Q (ss.map fun s => strL (insAt m o s)) → loop2i Ge 14 K19 eOrd (sO (strL o) .undef (.str m)) (ss.map fun (s : Nat) => .int (s : Int)) Q
  | [], Q, _, q => q
  | s :: r, Q, hs, q => ins_step ho (hs s (.head _)) (ins_loop ho r (fun i hi => hs i (.tail _ hi)) q)
noncomputable def insO (m : List Nat) (o : List (List Nat)) : List (List (List Nat)) := (List.range (o.length + 1)).map fun s => insAt m o s
noncomputable def insAll (m : List Nat) (os : List (List (List Nat))) : List (List (List Nat)) := os.flatMap (insO m)
theorem ins_outer {m : List Nat} : ∀ (os : List (List (List Nat))) {Q : List D → Prop}, (∀ o ∈ os, o.length ≤ 100) → Q ((insAll m os).map strL) → loop2 Ge 14 K19 eOrd (sO .undef .undef (.str m)) (os.map strL) Q
  | [], Q, _, q => q
  | o :: r, Q, ho, q => by
    have h100 := ho o (.head _)
    have hsz : 1000 ≤ sizeLine := by unfold sizeLine; omega
    refine Eq.mp (α := (o.map D.str).length ≤ sizeLine ∧ (0 : Int).natAbs ≤ 1000 ∧ (((o.map D.str).length : Int) + 1).natAbs ≤ 1000 ∧ ((List.range (((o.map D.str).length : Int) + 1 - 0).toNat).map fun (k : Nat) => D.int (0 + k)).length ≤ 2000 ∧
      loop2i Ge 14 K19 eOrd (sO (strL o) .undef (.str m)) ((List.range (((o.map D.str).length : Int) + 1 - 0).toNat).map fun (k : Nat) => D.int (0 + k)) fun rs => loop2 Ge 14 K19 eOrd (sO .undef .undef (.str m)) (r.map strL) fun rs' => Q (rs ++ rs')) (by kernel_rfl) ?_
    have e1 : ((((o.map D.str).length : Nat) : Int) + 1 - 0).toNat = o.length + 1 := by rw [List.length_map]; omega
    have e2 : ((List.range (o.length + 1)).map fun (k : Nat) => D.int (0 + k)) = (List.range (o.length + 1)).map fun (s : Nat) => .int (s : Int) := by
      apply List.map_congr_left
      intro a _
      rw [Int.zero_add]
    rw [e1, e2]
    refine ⟨by rw [List.length_map]; omega, by decide, by rw [List.length_map]; omega, by rw [List.length_map, List.length_range]; omega, ?_⟩
    refine ins_loop h100 _ (fun s hs => by have := List.mem_range.mp hs; omega) (ins_outer r (fun i hi => ho i (.tail _ hi)) ?_)
    have e3 : ((List.range (o.length + 1)).map fun s => strL (insAt m o s)) ++ (insAll m r).map strL = (insAll m (o :: r)).map strL := by
      unfold insAll
      rw [List.flatMap_cons, List.map_append]
      congr 1
      unfold insO
      rw [List.map_map]; rfl
    rw [e3]
    exact q
noncomputable def sE (P M L os man o ring ans : D) : Sto := [("plan", P), ("men", M), ("letters", L), ("orders", os), ("man", man), ("order", o), ("tally", .undef), ("ring", ring), ("answers", ans)]
theorem men_step {P M L man o ring ans : D} {os : List (List (List Nat))} {m : List Nat} {ds : List D} {Q : SQ} (h1 : os.length ≤ 1000) (ho : ∀ o ∈ os, o.length ≤ 100)
    (h : fAt Ge 19 1 5 ds (sE P M L (.lst ((insAll m os).map strL)) (.str m) o ring ans) [] Q) : fAt Ge 19 1 5 (.str m :: ds) (sE P M L (.lst (os.map strL)) man o ring ans) [] Q := by
  refine Eq.mp (α := (os.map strL).length ≤ 1000 ∧ (os.map strL).length ≤ 2000 ∧ loop2 Ge 14 K19 eOrd (sO .undef .undef (.str m)) (os.map strL) fun rs => fAt Ge 19 1 5 ds (sE P M L (.lst rs) (.str m) o ring ans) [] Q) (by kernel_rfl) ?_
  exact ⟨by rw [List.length_map]; omega, by rw [List.length_map]; omega, ins_outer os ho h⟩
end
section
theorem insO_mem {m : List Nat} {o p : List (List Nat)} (h : p ∈ insO m o) : p.length = o.length + 1 := by
  unfold insO at h
  obtain ⟨s, hs, rfl⟩ := List.mem_map.mp h
  have := List.mem_range.mp hs
  unfold insAt
  simp only [List.length_append, List.length_take, List.length_drop, List.length_singleton]
  omega
theorem insAll_len {m : List Nat} {i : Nat} : ∀ {os : List (List (List Nat))}, (∀ o ∈ os, o.length = i) → (insAll m os).length = os.length * (i + 1) ∧ ∀ p ∈ insAll m os, p.length = i + 1
  | [], _ => ⟨by simp [insAll], fun p hp => by simp [insAll] at hp⟩
  | o :: r, h => by
    have ih := insAll_len (m := m) (os := r) fun p hp => h p (.tail _ hp)
    have ho := h o (.head _)
    have e : insAll m (o :: r) = insO m o ++ insAll m r := by unfold insAll; rw [List.flatMap_cons]
    rw [e]
    refine ⟨?_, fun p hp => ?_⟩
    · rw [List.length_append, ih.1, List.length_cons, Nat.succ_mul]
      unfold insO
      rw [List.length_map, List.length_range]
      omega
    · rcases List.mem_append.mp hp with hp | hp
      · rw [insO_mem hp]; omega
      · exact ih.2 p hp
noncomputable def permsF (men : List (List Nat)) (os : List (List (List Nat))) : List (List (List Nat)) := men.foldl (fun os m => insAll m os) os
theorem men_loop {P M L o ring ans : D} {Q : SQ} : ∀ (men : List (List Nat)) (i : Nat) (os : List (List (List Nat))) (man : D), i + men.length ≤ 4 → os.length ≤ 5 ^ i → (∀ o ∈ os, o.length = i) →
    (∀ man, Q .next (sE P M L (.lst ((permsF men os).map strL)) man o ring ans) []) → fAt Ge 19 1 5 (men.map D.str) (sE P M L (.lst (os.map strL)) man o ring ans) [] Q
  | [], i, os, man, _, _, _, q => q _
  | m :: r, i, os, man, hi, hl, ho, q => by
    simp only [List.length_cons] at hi
    have h5 : 5 ^ i ≤ 5 ^ 3 := Nat.pow_le_pow_right (by decide) (by omega)
    have hh := insAll_len (m := m) ho
    refine men_step (by omega) (fun p hp => by rw [ho p hp]; omega) (men_loop r (i + 1) _ _ (by omega) ?_ hh.2 q)
    rw [hh.1, Nat.pow_succ]
    exact Nat.mul_le_mul hl (by omega)
theorem perms_len : ∀ (men : List (List Nat)) (i : Nat) (os : List (List (List Nat))), i + men.length ≤ 4 → os.length ≤ 5 ^ i → (∀ o ∈ os, o.length = i) → (permsF men os).length ≤ 5 ^ (i + men.length) ∧ ∀ o ∈ permsF men os, o.length = i + men.length
  | [], i, os, _, hl, ho => ⟨hl, ho⟩
  | m :: r, i, os, hi, hl, ho => by
    simp only [List.length_cons] at hi ⊢
    have hh := insAll_len (m := m) ho
    have := perms_len r (i + 1) (insAll m os) (by omega) (by rw [hh.1, Nat.pow_succ]; exact Nat.mul_le_mul hl (by omega)) hh.2
    have e : i + 1 + r.length = i + (r.length + 1) := by omega
    rw [e] at this
    exact this
/-! the ring -/
noncomputable def sR (k m : D) (pl : List (List Nat)) : Sto := [(".0", .undef), ("k", k), ("man", m), ("plan", strL pl)]
theorem strs_get {l : List (List Nat)} {j : Nat} (h : j < l.length) : (l.map D.str)[j]? = some (.str (l.getD j [])) := by
  rw [List.getElem?_map, List.getElem?_eq_getElem h, List.getD_eq_getElem?_getD, List.getElem?_eq_getElem h]
  rfl
noncomputable def ringX (pl : List (List Nat)) (k : Nat) (x : List Nat) : List Nat := pl.getD (4 * k) [] ++ pl.getD (4 * k + 1) [] ++ x ++ pl.getD (4 * k + 3) []
noncomputable def ringP (pl : List (List Nat)) : Nat → List (List Nat) → List (List Nat)
  | _, [] => []
  | k, x :: r => ringX pl k x :: ringP pl (k + 1) r
theorem ring_step {pl : List (List Nat)} {k : Nat} {x : List Nat} {ds : List D} {Q : List D → Prop} (hk : k < 10) (hp : 4 * k + 3 < pl.length) (hpl : ∀ j, (pl.getD j []).length ≤ 10) (hx : x.length ≤ 10)
    (h : loopE Ge 12 K19 eRing (sR .undef .undef pl) ds fun rs => Q (.str (ringX pl k x) :: rs)) : loopE Ge 12 K19 eRing (sR .undef .undef pl) (.tup [.int (k : Int), .str x] :: ds) Q := by
  have hsz : 1000 ≤ sizeLine := by unfold sizeLine; omega
  have l0 := hpl (4 * k)
  have l1 := hpl (4 * k + 1)
  have l3 := hpl (4 * k + 3)
  have sk : small k := by unfold small; omega
  have s4 : small 4 := by unfold small; decide
  have e0 : (4 * (k : Int)).toNat = 4 * k := by omega
  have e1 : (4 * (k : Int) + 1).toNat = 4 * k + 1 := by omega
  have e3 : (4 * (k : Int) + 3).toNat = 4 * k + 3 := by omega
  have q0 : seqIndex? (4 * (k : Int)) (pl.map D.str).length = some (4 * k) := e0 ▸ seqIndex_nat (by omega) (by rw [List.length_map]; omega)
  have q1 : seqIndex? (4 * (k : Int) + 1) (pl.map D.str).length = some (4 * k + 1) := e1 ▸ seqIndex_nat (by omega) (by rw [List.length_map]; omega)
  have q3 : seqIndex? (4 * (k : Int) + 3) (pl.map D.str).length = some (4 * k + 3) := e3 ▸ seqIndex_nat (by omega) (by rw [List.length_map]; omega)
  refine And.intro s4 (And.intro sk (And.intro (by omega) (And.intro (by omega) (onSome_intro q0 (onSome_intro (strs_get (by omega)) ?_)))))
  refine And.intro s4 (And.intro sk (And.intro (by omega) (And.intro (by omega) (onSome_intro q1 (onSome_intro (strs_get (by omega)) ?_)))))
  refine And.intro (by omega) (And.intro (by simp only [List.length_append]; omega) ?_)
  refine And.intro s4 (And.intro sk (And.intro (by omega) (And.intro (by omega) (onSome_intro q3 (onSome_intro (strs_get (by omega)) ?_)))))
  refine And.intro (by simp only [List.length_append]; omega) ?_
  exact Eq.mp (α := loopE Ge 12 K19 eRing (sR .undef .undef pl) ds fun rs => Q ([.str (ringX pl k x)] ++ rs)) (by kernel_rfl) h
theorem ring_loop {pl : List (List Nat)} (hpl : ∀ j, (pl.getD j []).length ≤ 10) : ∀ (o : List (List Nat)) (k : Nat) {Q : List D → Prop}, k + o.length ≤ 10 → 4 * (k + o.length) ≤ pl.length → (∀ x ∈ o, x.length ≤ 10) → Q ((ringP pl k o).map D.str) →
    loopE Ge 12 K19 eRing (sR .undef .undef pl) (enumD k (o.map D.str)) Q
  | [], k, Q, _, _, _, q => q
  | x :: r, k, Q, hk, hp, hx, q => by
    simp only [List.length_cons] at hk hp
    exact ring_step (by omega) (by omega) hpl (hx x (.head _)) (ring_loop hpl r (k + 1) (by omega) (by omega) (fun y hy => hx y (.tail _ hy)) q)
/-! the answers -/
noncomputable def sA (pl : List (List Nat)) (ring : List Nat) : Sto := [(".0", .undef), ("letter", .undef), ("plan", strL pl), ("ring", .str ring)]
theorem ans_step {pl : List (List Nat)} {ring : List Nat} {c : Nat} {ds : List D} {Q : List D → Prop} (hp : 0 < pl.length) (hl : ring.length + (pl.getD 0 []).length ≤ 1000) (hc : c ≠ 46)
    (h : loopE Ge 14 K19 eAns (sA pl ring) ds fun rs => Q (.bool (adj c (ring ++ pl.getD 0 [])) :: rs)) : loopE Ge 14 K19 eAns (sA pl ring) (.str [c] :: ds) Q := by
  have hsz : 1000 ≤ sizeLine := by unfold sizeLine; omega
  refine And.intro (show 1 ≤ 16 by decide) (And.intro (by decide) (And.intro (show 5 ≤ sizeLine by omega) (And.intro (show 8 ≤ sizeLine by omega) (And.intro (by decide) (And.intro (by decide) (onSome_intro (d := 0) (seqIndex_nat (k := 0) (by decide) (by rw [List.length_map]; omega)) (onSome_intro (strs_get hp) ?_)))))))
  refine And.intro (by omega) (Exists.intro c (And.intro rfl (And.intro hc (And.intro (by rw [List.length_append]; omega) ?_))))
  exact Eq.mp (α := loopE Ge 14 K19 eAns (sA pl ring) ds fun rs => Q ([.bool (adj c (ring ++ pl.getD 0 []))] ++ rs)) (by kernel_rfl) h
theorem ans_loop {pl : List (List Nat)} {ring : List Nat} (hp : 0 < pl.length) (hl : ring.length + (pl.getD 0 []).length ≤ 1000) : ∀ (ls : List Nat) {Q : List D → Prop}, (∀ c ∈ ls, c ≠ 46) → Q (ls.map fun c => .bool (adj c (ring ++ pl.getD 0 []))) →
    loopE Ge 14 K19 eAns (sA pl ring) (ls.map fun c => D.str [c]) Q
  | [], Q, _, q => q
  | c :: r, Q, hc, q => ans_step hp hl (hc c (.head _)) (ans_loop hp hl r (fun y hy => hc y (.tail _ hy)) q)
/-! how many are True -/
noncomputable def sN : Sto := [(".0", .undef), ("answer", .undef)]
theorem cnt_loop : ∀ (bs : List Bool) {Q : List D → Prop}, Q ((bs.filter id).map D.bool) → loopE Ge 12 K19 eCnt sN (bs.map D.bool) Q
  | [], Q, q => q
  | true :: r, Q, q => by
    refine And.intro (fun _ => ?_) (fun hh => nomatch hh)
    exact Eq.mp (α := loopE Ge 12 K19 eCnt sN (r.map D.bool) fun rs => Q ([.bool true] ++ rs)) (by kernel_rfl) (cnt_loop r q)
  | false :: r, Q, q => by
    refine And.intro (fun hh => nomatch hh) (fun _ => ?_)
    exact Eq.mp (α := loopE Ge 12 K19 eCnt sN (r.map D.bool) Q) (by kernel_rfl) (cnt_loop r q)
end
section
/-- a for's body from its statement k on -/
noncomputable def bodyFrom (G : Gt) (i j k n : Nat) : Sto → Own → SQ → Prop := match (fBody (stAt i))[j]? with
  | some (.For _ _ body _ _) => seqW (exN G 14 n (fScope (stAt i)).names) (body.drop k)
  | _ => fun _ _ _ => False
noncomputable def lettersD (ls : List Nat) : D := .lst (ls.map fun c => .str [c])
noncomputable def ringF (pl o : List (List Nat)) : List Nat := (ringP pl 0 o).flatten
noncomputable def ansF (pl : List (List Nat)) (ls : List Nat) (o : List (List Nat)) : List Bool := ls.map fun c => adj c (ringF pl o ++ pl.getD 0 [])
noncomputable def cntF (pl : List (List Nat)) (ls : List Nat) (o : List (List Nat)) : Nat := ((ansF pl ls o).filter id).length
noncomputable def bump (tl : List Int) (k : Nat) : List Int := tl.set k (tl.getD k 0 + 1)
noncomputable def tallyF (pl : List (List Nat)) (ls : List Nat) (os : List (List (List Nat))) (tl : List Int) : List Int := os.foldl (fun tl o => bump tl (cntF pl ls o)) tl
theorem enum_len : ∀ (l : List D) (i : Int), (enumD i l).length = l.length
  | [], _ => rfl
  | _ :: r, i => congrArg (· + 1) (enum_len r (i + 1))
theorem strs_of : ∀ l : List (List Nat), strsOf (l.map D.str) = some l
  | [] => rfl
  | x :: r => by
    rw [List.map_cons]
    unfold strsOf
    rw [strs_of r]; rfl
theorem ring_len {pl : List (List Nat)} (hpl : ∀ j, (pl.getD j []).length ≤ 2) : ∀ (o : List (List Nat)) (k : Nat), (∀ x ∈ o, x.length ≤ 2) → sumLen (ringP pl k o) ≤ 8 * o.length ∧ (ringP pl k o).length = o.length ∧ (ringP pl k o).flatten.length ≤ 8 * o.length
  | [], k, _ => ⟨Nat.le_refl _, rfl, Nat.le_refl _⟩
  | x :: r, k, hx => by
    have ih := ring_len hpl r (k + 1) fun y hy => hx y (.tail _ hy)
    have h0 := hpl (4 * k)
    have h1 := hpl (4 * k + 1)
    have h3 := hpl (4 * k + 3)
    have h4 := hx x (.head _)
    have hl : (ringX pl k x).length ≤ 8 := by unfold ringX; simp only [List.length_append]; omega
    unfold ringP
    refine ⟨?_, by simp only [List.length_cons]; omega, ?_⟩
    · have ih1 := ih.1
      unfold sumLen at ih1 ⊢
      rw [List.map_cons, List.sum_cons, List.length_cons]
      omega
    · rw [List.flatten_cons, List.length_append, List.length_cons]
      omega
theorem seat_ring {pl : List (List Nat)} {M L os man order ring ans : D} {o : List (List Nat)} {ds : List D} {Q : SQ} (ho : o.length ≤ 4) (hp : 4 * o.length ≤ pl.length) (hpl : ∀ j, (pl.getD j []).length ≤ 2) (hx : ∀ x ∈ o, x.length ≤ 2) {tl : List D}
    (h : bodyFrom Ge 19 3 1 5 (sE (strL pl) M L os man (strL o) (.str (ringF pl o)) ans) [("tally", tl)] (backF Ge 19 3 5 ds Q)) : fAt Ge 19 3 5 (strL o :: ds) (sE (strL pl) M L os man order ring ans) [("tally", tl)] Q := by
  refine Eq.mp (α := (o.map D.str).length ≤ 1000 ∧ (enumD 0 (o.map D.str)).length ≤ 2000 ∧ loopE Ge 12 K19 eRing (sR .undef .undef pl) (enumD 0 (o.map D.str)) fun rs => methW .join (.str []) [.lst rs] fun d => bodyFrom Ge 19 3 1 5 (sE (strL pl) M L os man (strL o) d ans) [("tally", tl)] (backF Ge 19 3 5 ds Q)) (by kernel_rfl) ?_
  have hr := ring_len hpl o 0 hx
  refine ⟨by rw [List.length_map]; omega, by rw [enum_len, List.length_map]; omega, ring_loop (fun j => Nat.le_trans (hpl j) (by decide)) o 0 (by omega) (by omega) (fun x h => Nat.le_trans (hx x h) (by decide)) ?_⟩
  exact ⟨ringP pl 0 o, strs_of _, by omega, h⟩
theorem seat_ans {pl : List (List Nat)} {M os man o ans : D} {ring ls : List Nat} {tl : List D} {Q : SQ} (hp : 0 < pl.length) (hl : ring.length + (pl.getD 0 []).length ≤ 1000) (hc : ∀ c ∈ ls, c ≠ 46) (h4 : ls.length ≤ 4)
    (h : bodyFrom Ge 19 3 2 5 (sE (strL pl) M (lettersD ls) os man o (.str ring) (.lst ((ls.map fun c => adj c (ring ++ pl.getD 0 [])).map D.bool))) [("tally", tl)] Q) :
    bodyFrom Ge 19 3 1 5 (sE (strL pl) M (lettersD ls) os man o (.str ring) ans) [("tally", tl)] Q := by
  refine Eq.mp (α := (ls.map fun c => D.str [c]).length ≤ 1000 ∧ (ls.map fun c => D.str [c]).length ≤ 2000 ∧ loopE Ge 14 K19 eAns (sA pl ring) (ls.map fun c => D.str [c]) fun rs => bodyFrom Ge 19 3 2 5 (sE (strL pl) M (lettersD ls) os man o (.str ring) (.lst rs)) [("tally", tl)] Q) (by kernel_rfl) ?_
  refine ⟨by rw [List.length_map]; omega, by rw [List.length_map]; omega, ans_loop hp hl ls hc ?_⟩
  rw [List.map_map] at h
  exact h
theorem seat_cnt {P M L os man o ring : D} {bs : List Bool} {tl : List Int} {Q : SQ} (hb : bs.length ≤ 4) (ht : bs.length < tl.length)
    (h : Q .next (sE P M L os man o ring (.lst (bs.map D.bool))) [("tally", (bump tl (bs.filter id).length).map fun a => .int a)]) :
    bodyFrom Ge 19 3 2 5 (sE P M L os man o ring (.lst (bs.map D.bool))) [("tally", tl.map fun a => .int a)] Q := by
  have hsz : 1000 ≤ sizeLine := by unfold sizeLine; omega
  refine Eq.mp (α := (bs.map D.bool).length ≤ 1000 ∧ (bs.map D.bool).length ≤ 2000 ∧ loopE Ge 12 K19 eCnt sN (bs.map D.bool) fun rs => rs.length ≤ sizeLine ∧ 0 ≤ (rs.length : Int) ∧ (rs.length : Int) < 2 ^ 62 ∧ ∃ v, (tl.map fun a => D.int a)[(rs.length : Int).toNat]? = some (.int v) ∧
    Q .next (sE P M L os man o ring (.lst (bs.map D.bool))) [("tally", (tl.map fun a => D.int a).set (rs.length : Int).toNat (.int (v + 1)))]) (by kernel_rfl) ?_
  have hf : (bs.filter id).length ≤ bs.length := List.length_filter_le _ _
  refine ⟨by rw [List.length_map]; omega, by rw [List.length_map]; omega, cnt_loop bs ?_⟩
  have e : ((((bs.filter id).map D.bool).length : Nat) : Int).toNat = (bs.filter id).length := by rw [List.length_map]; omega
  rw [e]
  refine ⟨by rw [List.length_map]; omega, by omega, by rw [List.length_map]; omega, tl.getD (bs.filter id).length 0, ints_get (by omega), ?_⟩
  have e2 : (tl.map fun a => D.int a).set (bs.filter id).length (.int (tl.getD (bs.filter id).length 0 + 1)) = (bump tl (bs.filter id).length).map fun a => .int a := by
    unfold bump
    rw [List.map_set]
  rw [e2]
  exact h
theorem bump_len (tl : List Int) (k : Nat) : (bump tl k).length = tl.length := by unfold bump; rw [List.length_set]
theorem seat_loop {pl : List (List Nat)} {M os man : D} {ls : List Nat} {Q : SQ} (hls : ls.length ≤ 4) (hp0 : 0 < pl.length) (hpl : ∀ j, (pl.getD j []).length ≤ 2) (hc : ∀ c ∈ ls, c ≠ 46) : ∀ (oo : List (List (List Nat))) (tl : List Int) (order ring ans : D),
    (∀ o ∈ oo, o.length ≤ 4 ∧ 4 * o.length ≤ pl.length ∧ ∀ x ∈ o, x.length ≤ 2) → ls.length < tl.length →
    (∀ order ring ans, Q .next (sE (strL pl) M (lettersD ls) os man order ring ans) [("tally", (tallyF pl ls oo tl).map fun a => .int a)]) →
    fAt Ge 19 3 5 (oo.map strL) (sE (strL pl) M (lettersD ls) os man order ring ans) [("tally", tl.map fun a => .int a)] Q
  | [], tl, order, ring, ans, _, _, q => q _ _ _
  | o :: r, tl, order, ring, ans, ho, ht, q => by
    obtain ⟨h1, h2, h3⟩ := ho o (.head _)
    have hr := ring_len hpl o 0 h3
    have h0 := hpl 0
    have hlen : (ansF pl ls o).length = ls.length := by unfold ansF; rw [List.length_map]
    refine seat_ring h1 h2 hpl h3 (seat_ans hp0 (by unfold ringF; omega) hc hls (seat_cnt (bs := ansF pl ls o) (by omega) (by omega) ?_))
    refine seat_loop hls hp0 hpl hc r (bump tl (cntF pl ls o)) _ _ _ (fun p hp => ho p (.tail _ hp)) (by rw [bump_len]; exact ht) q
theorem ins_in {m : List Nat} {p : List Nat → Prop} (hm : p m) {os : List (List (List Nat))} (h : ∀ o ∈ os, ∀ x ∈ o, p x) : ∀ o ∈ insAll m os, ∀ x ∈ o, p x := by
  intro o ho x hx
  unfold insAll at ho
  obtain ⟨q, hq, ho⟩ := List.mem_flatMap.mp ho
  unfold insO at ho
  obtain ⟨s, _, rfl⟩ := List.mem_map.mp ho
  unfold insAt at hx
  rcases List.mem_append.mp hx with hx | hx
  · rcases List.mem_append.mp hx with hx | hx
    · exact h q hq x (List.mem_of_mem_take hx)
    · rw [List.mem_singleton.mp hx]; exact hm
  · exact h q hq x (List.mem_of_mem_drop hx)
theorem perms_in {p : List Nat → Prop} : ∀ (men : List (List Nat)) (os : List (List (List Nat))), (∀ m ∈ men, p m) → (∀ o ∈ os, ∀ x ∈ o, p x) → ∀ o ∈ permsF men os, ∀ x ∈ o, p x
  | [], os, _, h => h
  | m :: r, os, hm, h => perms_in r (insAll m os) (fun y hy => hm y (.tail _ hy)) (ins_in (hm m (.head _)) h)
noncomputable def seatedF (pl men : List (List Nat)) (ls : List Nat) : List Int := tallyF pl ls (permsF men [[]]) (List.replicate (men.length + 1) 0)
noncomputable def seatedC : Con := fun ds Q => match ds with
  | [P, M, L] => ∃ (pl men : List (List Nat)) (ls : List Nat), P = strL pl ∧ M = strL men ∧ L = lettersD ls ∧ men.length = ls.length ∧ ls.length ≤ 4 ∧ 0 < ls.length ∧ 4 * ls.length ≤ pl.length ∧ (∀ j, (pl.getD j []).length ≤ 2) ∧ (∀ c ∈ ls, c ≠ 46) ∧ (∀ x ∈ men, x.length ≤ 2) ∧ Q (intsD (seatedF pl men ls))
  | _ => False
theorem seated_run {pl men : List (List Nat)} {ls : List Nat} {Q : D → Prop} (hm : men.length = ls.length) (h4 : ls.length ≤ 4) (h0 : 0 < ls.length) (hp : 4 * ls.length ≤ pl.length) (hpl : ∀ j, (pl.getD j []).length ≤ 2) (hc : ∀ c ∈ ls, c ≠ 46) (hx : ∀ x ∈ men, x.length ≤ 2)
    (q : Q (intsD (seatedF pl men ls))) : rn Ge 19 ["tally"] ["plan", "men", "letters"] [strL pl, strL men, lettersD ls] Q := by
  have hsz : 1000 ≤ sizeLine := by unfold sizeLine; omega
  refine Eq.mp (α := 0 ≤ 1000 ∧ 1 ≤ 1000 ∧ (men.map D.str).length ≤ 1000 ∧ fAt Ge 19 1 5 (men.map D.str) (sE (strL pl) (strL men) (lettersD ls) (.lst ([[]].map strL)) .undef .undef .undef .undef) [] (contF Ge 19 2 ["tally"] Q)) (by kernel_rfl) ?_
  refine ⟨by decide, by decide, by rw [List.length_map]; omega, men_loop men 0 [[]] _ (by omega) (by decide) (by simp) fun man => ?_⟩
  have hP := perms_len men 0 [[]] (by omega) (by decide) (by simp)
  have h5 : 5 ^ (0 + men.length) ≤ 5 ^ 4 := Nat.pow_le_pow_right (by decide) (by omega)
  refine Eq.mp (α := 1 ≤ 1000 ∧ (men.map D.str).length ≤ sizeLine ∧ 1 ≤ 16 ∧ (((men.map D.str).length : Int) + 1).natAbs ≤ 16 ∧ ((permsF men [[]]).map strL).length ≤ 1000 ∧
    fAt Ge 19 3 5 ((permsF men [[]]).map strL) (sE (strL pl) (strL men) (lettersD ls) (.lst ((permsF men [[]]).map strL)) man .undef .undef .undef) [("tally", (List.replicate (((men.map D.str).length : Int) + 1).toNat [.int 0]).flatten)] (contF Ge 19 4 ["tally"] Q)) (by kernel_rfl) ?_
  have e : (List.replicate ((((men.map D.str).length : Nat) : Int) + 1).toNat [D.int 0]).flatten = (List.replicate (men.length + 1) (0 : Int)).map fun a => D.int a := by
    rw [List.flatten_replicate_singleton, List.map_replicate, List.length_map]
    congr 1
  rw [e]
  refine ⟨by decide, by rw [List.length_map]; omega, by decide, by rw [List.length_map]; omega, by rw [List.length_map]; omega, ?_⟩
  refine seat_loop h4 (by omega) hpl hc _ _ _ _ _ (fun o ho => ?_) (by rw [List.length_replicate]; omega) fun order ring ans => ?_
  · have := hP.2 o ho
    exact ⟨by omega, by omega, perms_in (p := fun x => x.length ≤ 2) men [[]] hx (by simp) o ho⟩
  · exact Eq.mp (α := Q (intsD (seatedF pl men ls))) (by kernel_rfl) q
theorem seated_at {r : Nat} {w : World} (h : Heap) (g : Gl w h) : ∃ fv, FnAt (r + 1 + 1 + 1) w "_law_seated" seatedC h fv := by
  obtain ⟨fv, F⟩ := def_at (r := r + 1 + 1) (m := 14) (n := 6) (os := ["tally"]) Ge_ok seated_def h g
  refine ⟨fv, F.weak fun ds Q hq => ?_⟩
  unfold seatedC at hq
  split at hq
  · obtain ⟨pl, men, ls, rfl, rfl, rfl, hm, h4, h0, hp, hpl, hc, hx, hq⟩ := hq
    exact ⟨rfl, seated_run hm h4 h0 hp hpl hc hx hq⟩
  · exact hq.elim
end
section
section
variable {w : World} {A : Around} {R : GenEnd} {Y : Protocol} {n : Nat} {s₀ : Shared} {c : Code} {fs : List Frame} {s : Shared} {env : Env}
  {K : Flow → Sem PySem.Fin} {H : Value → Sem PySem.Fin} {gd : Bool → Bool} {lv : List Value → List Value}
theorem seg_stmt {st : Stmt} (h : Wp w (A.over c fs) (exec st env) (fun f s' => Seg (model pw w) A R Y n s₀ c (K f) fs s') s) : Seg (model pw w) A R Y n s₀ c ((exec st env).wrap K H gd lv) fs s :=
  seg_wrap h.any
theorem seg_If {test : Expr} {body orelse : List Stmt} {pos : Pos}
    (h : Wp w (A.over c fs) (isTrue test env (eval test env)) (fun b s' => Seg (model pw w) A R Y n s₀ c ((if b = true then execs body env else execs orelse env).wrap K H gd lv) fs s') s) :
    Seg (model pw w) A R Y n s₀ c ((exec (.If test body orelse pos) env).wrap K H gd lv) fs s := by
  rw [exec_If]
  refine seg_at ?_
  show Seg (model pw w) A R Y n s₀ c ((isTrue test env (eval test env) >>= fun b => if b = true then execs body env else execs orelse env).wrap K H gd lv) fs s
  rw [Sem.bind_eq_wrap', Sem.wrap_wrap]
  exact seg_wrap (Wp.any (Wp.mono h fun b s' q => q))
/-- the frame of a loop that a block runs -/
noncomputable def loopK (env : Env) (K : Flow → Sem PySem.Fin) (H : Value → Sem PySem.Fin) (gd : Bool → Bool) (lv : List Value → List Value) : Result → Sem PySem.Fin := fun r => ((match r with | .ok f => (.pure f : Sem Flow) | .error e => .raise e).onRaise fun (x : Value) => do
        if (← field x 1) == Value.none then unsupported "frame.own-activation:exception-without-traceback"
        setFlight x env.frame).wrap K H gd lv
theorem loopK_ok {f : Flow} : loopK env K H gd lv (.ok f) = K f := rfl
theorem seg_For {t iter : Expr} {body orelse : List Stmt} {pos : Pos} (hs : ∀ x, foldedSetIterable iter env x = pure x)
    (h : Wp w (A.over c fs) (eval iter env) (fun x s1 => Wp w (A.over c fs) (pyIter x) (fun it s2 => ∀ p, Seg (model pw w) A R Y n s₀ (.forLoop t it body orelse env) ((model pw w).den (.forLoop t it body orelse env)) (.ret (loopK env K H gd lv) none (gd false) (lv []) c p [] :: fs) s2) s1) s) :
    Seg (model pw w) A R Y n s₀ c ((exec (.For t iter body orelse pos) env).wrap K H gd lv) fs s := by
  rw [exec_For]
  refine seg_at ?_
  show Seg (model pw w) A R Y n s₀ c ((eval iter env >>= fun xv => foldedSetIterable iter env xv >>= fun x => standAt iter.pos >>= fun _ => holding [x] (pyIter x) >>= fun it => runOwn (.forLoop t it body orelse env) env).wrap K H gd lv) fs s
  rw [Sem.bind_eq_wrap', Sem.wrap_wrap]
  refine seg_wrap (Wp.any (Wp.mono h fun x s1 q => ?_))
  rw [hs]
  refine seg_at ?_
  show Seg (model pw w) A R Y n s₀ c ((holding [x] (pyIter x) >>= fun it => runOwn (.forLoop t it body orelse env) env).wrap K H gd lv) fs s1
  rw [Sem.bind_eq_wrap', Sem.wrap_wrap]
  refine seg_wrap (wpAny_holding (Wp.any (Wp.mono q fun it s2 q2 => ?_)))
  exact seg_call q2
theorem seg_forLoop {t : Expr} {it : Value} {body orelse : List Stmt}
    (h : Wp w (A.over (.forLoop t it body orelse env) fs) (pyNext it) (fun o s1 => ∃ v, o = some v ∧ Wp w (A.over (.forLoop t it body orelse env) fs) (letOwnedTupleGo t it v) (fun _ s2 => Wp w (A.over (.forLoop t it body orelse env) fs) (assign t env v) (fun _ s3 =>
      Seg (model pw w) A R Y n s₀ (.forLoop t it body orelse env) ((execs body env).wrap (fun f => match f with
            | .next | .cont => .pure (.again (.forLoop t it body orelse env))
            | .brk => .pure (.done .next)
            | .ret v => .pure (.done (.ret v))) (fun e => (do noteFrame e env; theTreesLotGoes e : Sem Unit).wrap (fun _ => .raise e) .raise id id) id id) fs s3) s2) s1) s) :
    Seg (model pw w) A R Y n s₀ (.forLoop t it body orelse env) ((model pw w).den (.forLoop t it body orelse env)) fs s := by
  show Seg _ A R Y n s₀ _ ((forTurn t it body orelse env).onRaise (fun x => do noteFrame x env; theTreesLotGoes x)) fs s
  unfold forTurn
  rw [Sem.onRaise_eq_wrap, Sem.bind_eq_wrap', Sem.wrap_wrap]
  refine seg_wrap (wpAny_standAt ?_)
  rw [Sem.bind_eq_wrap', Sem.wrap_wrap]
  refine seg_wrap (wpAny_onRaise (wpAny_mono h (fun o s1 q => ?_) fun _ _ f => f.elim))
  obtain ⟨v, rfl, q⟩ := q
  dsimp only
  rw [Sem.bind_eq_wrap', Sem.wrap_wrap]
  refine seg_wrap (Wp.any (Wp.mono q fun _ s2 q2 => ?_))
  rw [Sem.bind_eq_wrap', Sem.wrap_wrap]
  refine seg_wrap (Wp.any (Wp.mono q2 fun _ s3 q3 => ?_))
  rw [Sem.bind_eq_wrap', Sem.wrap_wrap]
  rw [Sem.wrap_congr (execs body env) _ _ (K' := fun f => match f with
            | .next | .cont => .pure (.again (.forLoop t it body orelse env))
            | .brk => .pure (.done .next)
            | .ret v => .pure (.done (.ret v))) (H' := (fun e => (do noteFrame e env; theTreesLotGoes e : Sem Unit).wrap (fun _ => .raise e) .raise id id))
        (fun f => by cases f <;> rfl)
        (fun e => by first | exact Sem.bind_eq_wrap _ _ | (show (do noteFrame e env; theTreesLotGoes e : Sem Unit).bind (fun _ => .raise e) = _; rw [Sem.bind_eq_wrap]))]
  exact q3
end
end
section
section
variable {A : Around} {body b2 b3 : List Stmt} {env : Env} {t : Expr} {I : Value} {k k2 : Result → Sem PySem.Fin} {p p2 : Pos}
/-- the surroundings in which a suspended block of A stands -/
noncomputable def Nigh (A A' : Around) : Prop := A'.handled = A.handled ∧ A'.depth ≤ A.depth + 4 ∧ A'.units ≤ A.units + 16
theorem ov1 : Nigh A (A.in1.over (.func body env) []) := by
  refine ⟨rfl, ?_, ?_⟩
  · exact Eq.mp (α := A.depth + 1 ≤ A.depth + 4) (by kernel_rfl) (Nat.add_le_add_left (by decide) _)
  · exact Eq.mp (α := A.units + 4 ≤ A.units + 16) (by kernel_rfl) (Nat.add_le_add_left (by decide) _)
theorem ov2 : Nigh A (A.in1.over (.forLoop t I b2 [] env) [.ret k none false [] (.func body env) p []]) := by
  refine ⟨rfl, ?_, ?_⟩
  · exact Eq.mp (α := A.depth + 1 ≤ A.depth + 4) (by kernel_rfl) (Nat.add_le_add_left (by decide) _)
  · exact Eq.mp (α := A.units + 4 ≤ A.units + 16) (by kernel_rfl) (Nat.add_le_add_left (by decide) _)
theorem ov3 {b4 : List Stmt} {tt : Expr} : Nigh A (A.in1.over (.whileLoop tt b4 [] env) [.ret k2 none false [] (.forLoop t I b2 [] env) p2 [], .ret k none false [] (.func body env) p []]) := by
  refine ⟨rfl, ?_, ?_⟩
  · exact Eq.mp (α := A.depth + 1 ≤ A.depth + 4) (by kernel_rfl) (Nat.add_le_add_left (by decide) _)
  · exact Eq.mp (α := A.units + 4 ≤ A.units + 16) (by kernel_rfl) (Nat.add_le_add_left (by decide) _)
end
/-! the generator's text -/
noncomputable def p0 : Pos := ⟨0, 0, 0, 0⟩
noncomputable def gBody : List Stmt := fBody (stAt 10)
noncomputable def gK : List (Str × NameKind) := (fScope (stAt 10)).names
noncomputable def stNo (l : List Stmt) (i : Nat) : Stmt := match l[i]? with
  | some s => s
  | none => .Pass p0
noncomputable def forParts (s : Stmt) : Expr × Expr × List Stmt × Pos := match s with
  | .For t it b _ p => (t, it, b, p)
  | _ => (.Name "x" p0, .Name "x" p0, [], p0)
noncomputable def ifParts (s : Stmt) : Expr × List Stmt × Pos := match s with
  | .If t b _ p => (t, b, p)
  | .While t b _ p => (t, b, p)
  | _ => (.Name "x" p0, [], p0)
noncomputable def yParts (s : Stmt) : Expr × Pos × Pos := match s with
  | .Expr (.Yield (some e) p) q => (e, p, q)
  | _ => (.Name "x" p0, p0, p0)
noncomputable def gS0 : Stmt := stNo gBody 0
noncomputable def gFo := forParts (stNo gBody 1)
noncomputable def gFb : List Stmt := gFo.2.2.1
noncomputable def gI1 := ifParts (stNo gFb 0)
noncomputable def gI2 := ifParts (stNo gFb 1)
noncomputable def gY := yParts (stNo gFb 2)
noncomputable def gA : Stmt := stNo gFb 3
noncomputable def gI3 : Stmt := stNo gI2.2.1 0
noncomputable def gW := ifParts (stNo gI2.2.1 1)
noncomputable def gWY := yParts (stNo gW.2.1 0)
theorem gBody_eq : gBody = [gS0, .For gFo.1 gFo.2.1 gFb [] gFo.2.2.2] := by kernel_rfl
theorem gFb_eq : gFb = [.If gI1.1 gI1.2.1 [] gI1.2.2, .If gI2.1 gI2.2.1 [] gI2.2.2, .Expr (.Yield (some gY.1) gY.2.1) gY.2.2, gA] := by kernel_rfl
theorem gI2_eq : gI2.2.1 = [gI3, .While gW.1 gW.2.1 [] gW.2.2] := by kernel_rfl
theorem gW_eq : gW.2.1 = [.Expr (.Yield (some gWY.1) gWY.2.1) gWY.2.2] := by kernel_rfl
noncomputable def sG (W : Int) (last itv : D) : Sto := [("grouping", .lst [.int W, .int 0]), ("last_interval", last), ("interval", itv)]
theorem g_s0 {W : Int} {Q : SQ} (h : Q .next (sG W .none .undef) []) : exN [] 14 6 gK (sG W .undef .undef) [] gS0 Q := Eq.mp (α := Q .next (sG W .none .undef) []) (by kernel_rfl) h
theorem g_it {W : Int} {Q : D → Prop} (h : Q (.lst [.int W, .int 0])) : (evN [] 14).ev gK (sG W .none .undef) gFo.2.1 Q := Eq.mp (α := Q (.lst [.int W, .int 0])) (by kernel_rfl) h
theorem g_nm : isNm gFo.1 = true := by kernel_rfl
theorem g_bind {W i : Int} {last d : D} {Q : Sto → Prop} (h : Q (sG W last (.int i))) : bindT gK (sG W last d) gFo.1 (.int i) Q := Eq.mp (α := Q (sG W last (.int i))) (by kernel_rfl) h
theorem g_tgt : targetOk [] gFo.1 = true := by kernel_rfl
theorem g_t1 {W i : Int} {last : D} {Q : Bool → Prop} (h : Q (i == 127)) : (evN [] 14).ts gK (sG W last (.int i)) gI1.1 Q := Eq.mp (α := Q (i == 127)) (by kernel_rfl) h
theorem g_t2 {W i : Int} {last : D} {Q : Bool → Prop} (h : Q (i == 0)) : (evN [] 14).ts gK (sG W last (.int i)) gI2.1 Q := Eq.mp (α := Q (i == 0)) (by kernel_rfl) h
theorem g_y {W i : Int} {last : D} {Q : D → Prop} (h : Q (.int i)) (hu : last.undefd = false ∨ True) : (evN [] 14).ev gK (sG W last (.int i)) gY.1 Q := Eq.mp (α := Q (.int i)) (by kernel_rfl) h
theorem g_a {W i : Int} {last : D} {Q : SQ} (h : Q .next (sG W (.int i) (.int i)) []) : exN [] 14 6 gK (sG W last (.int i)) [] gA Q := Eq.mp (α := Q .next (sG W (.int i) (.int i)) []) (by kernel_rfl) h
theorem g_i3 {W i j : Int} {Q : SQ} (h : Q .next (sG W (.int j) (.int i)) []) : exN [] 14 6 gK (sG W (.int j) (.int i)) [] gI3 Q := And.intro (fun hh => nomatch hh) (fun _ => h)
theorem g_w {W i j : Int} {Q : Bool → Prop} (h : Q true) : (evN [] 14).ts gK (sG W (.int j) (.int i)) gW.1 Q := Eq.mp (α := Q true) (by kernel_rfl) h
theorem g_wy {W i j : Int} {Q : D → Prop} (h : Q (.int j)) : (evN [] 14).ev gK (sG W (.int j) (.int i)) gWY.1 Q := Eq.mp (α := Q (.int j)) (by kernel_rfl) h
end
section
/-- a list's iterator -/
noncomputable def IterOf (o : Obj) : Prop := ∃ (fs : Array Value) (la : Addr), o.data = .fields fs ∧ fs[0]? = some (.ref la)
theorem mk_listA {X : Cx} {s : Shared} (am : Am X s.heap) (hh : X.A.handled = none) {l : List D} {a : Addr} (r : Rep X.N s.heap (.ref a) (.lst l)) {t : Expr} (ht : isNm t = true) :
    Wp X.w X.A (pyIter (.ref a)) (fun I s2 => ∃ b St, I = .ref b ∧ Keeps s s2 ∧ s.heap.get? b = none ∧ (∀ A' : Around, A'.handled = none → Itr X.w A' X.N t I [b] St) ∧ (∀ l h, St l h → ∃ o, h.get? b = some o ∧ IterOf o) ∧ St l s2.heap) s := by
  cases r with
  | lst ha hl rs =>
    rename_i vs
    refine wpAny_pyIter_list hl ?_
    have k : Kp s.heap (s.heap.push { cls := .type "list_iterator", data := .fields #[.ref a, .int 0 0] }) := fun b o e => Heap.get?_push_of_some _ e
    have hne : a ≠ s.heap.objs.size := by
      obtain ⟨o, ho, _⟩ := hl
      exact Nat.ne_of_lt (Heap.lt_size ho)
    refine ⟨s.heap.objs.size, fun l' h => ∃ i, i ≤ vs.toArray.size ∧ l' = l.drop i ∧ (h.IsListIter s.heap.objs.size a i ∧ h.IsList a vs.toArray) ∧ (h.IsList a vs.toArray ∧ Reps X.N h vs l), rfl, keeps_of (tk := s.toks) k, get_size, fun A' hA => ?_, ?_, ?_⟩
    · refine Itr.of (Walks.list hA s.heap.objs.size a hne vs.toArray) l (by simp [rs.length]) (fun h => h.IsList a vs.toArray ∧ Reps X.N h vs l) ?_ ?_ ?_ ?_ ht
      · rintro h h' ⟨⟨o, ho, hc, n, hd⟩, hr⟩ ks
        exact ⟨⟨o, ks _ _ ha ⟨_, _, hd⟩ ho, hc, n, hd⟩, hr.ks ks⟩
      · rintro i v h d hp ⟨_, hr⟩ hdi
        obtain ⟨v', hv', hr'⟩ := hr.get hdi
        have : v' = v := by
          have h1 : vs[i]? = some v := by simpa using hp
          rw [h1] at hv'
          injection hv' with e; exact e.symm
        exact this ▸ hr'
      · rintro i h ⟨⟨o, ho, hc, hd⟩, _⟩ b hb o' ho' xs n e
        rw [List.mem_singleton.mp hb, ho] at ho'
        injection ho' with ho'
        rw [← ho', hd] at e
        cases e
      · rintro i h h' ⟨⟨o, ho, hc, hd⟩, _⟩ ⟨⟨o2, ho2, hc2, n2, hd2⟩, _⟩ k1 ks
        exact ⟨⟨o, k1 _ (List.mem_singleton.mpr rfl) _ ho, hc, hd⟩, ⟨o2, ks _ _ ha ⟨_, _, hd2⟩ ho2, hc2, n2, hd2⟩⟩
    · rintro l h ⟨i, _, _, ⟨⟨o, ho, hc, hd⟩, _⟩, _⟩
      exact ⟨o, ho, _, _, hd, rfl⟩
    · exact ⟨0, Nat.zero_le _, rfl, ⟨⟨_, Heap.get?_push_size _ rfl, rfl, rfl⟩, hl.push _⟩, hl.push _, rs.kp k⟩
/-- a generator's block, within the call X -/
structure GC (X : Cx) (env : Env) : Prop where
  ok : X.Ok
  room : X.A.depth + 4 < recursionLimit ∧ X.A.units + 16 + 64 < cLine
  sc : env.scope = fScope (stAt 10)
  gl : env.globals = mainGlobals
  bl : env.builtins = builtinsNs
  cl : env.cells = []
  fresh : X.h0.get? env.locals = none
abbrev Xg (X : Cx) (env : Env) (A' : Around) : Cx := ⟨X.w, A', env, X.N, X.h0⟩
section
variable {X : Cx} {env : Env} {A' : Around}
theorem GC.names (gc : GC X env) : env.scope.names = gK := by rw [gc.sc]; rfl
theorem GC.xok (gc : GC X env) (nA : Nigh X.A A') : (Xg X env A').Ok where
  kind := by
    show env.scope.kind = _
    rw [gc.sc]; kernel_rfl
  gl := gc.gl
  bl := gc.bl
  glob := gc.ok.glob
  fresh := gc.fresh
  hd := nA.1.trans gc.ok.hd
  units := by have := nA.2.2; have := gc.room.2; show A'.units + 64 < cLine; omega
  cells := fun x hx => by
    exfalso
    have hx : env.scope.names.lookup x = some .cell := hx
    rw [gc.names] at hx
    have : ∀ p ∈ gK, p.2 ≠ NameKind.cell := by
      have h : gK.all (fun p => p.2 != NameKind.cell) = true := by kernel_rfl
      intro p hp e
      have := List.all_eq_true.mp h p hp
      rw [e] at this
      exact absurd this (by decide)
    exact this _ (lookup_mem hx) rfl
theorem GC.fn (gc : GC X env) (nA : Nigh X.A A') : FnCx (Xg X env A') [] where
  ok := gc.xok nA
  cfresh := fun x c e => by rw [show (Xg X env A').env.cells = [] from gc.cl] at e; cases e
  cinj := fun x y c e => by rw [show (Xg X env A').env.cells = [] from gc.cl] at e; cases e
  oin := fun x a e => by cases e
  oinj := fun x y a e => by cases e
theorem GC.rm (gc : GC X env) (nA : Nigh X.A A') : Room 0 (Xg X env A').A := ⟨by have := nA.2.1; have := gc.room.1; show A'.depth + 0 < _; omega, by have := nA.2.2; have := gc.room.2; show A'.units + 64 + 8 * 0 < _; omega⟩
/-- the generator's state -/
abbrev GS (X : Cx) (env : Env) (σ : Sto) (h : Heap) : Prop := StR (Xg X env X.A) [] σ [] h
theorem GS.at (st : GS X env σ h) (A' : Around) : StR (Xg X env A') [] σ [] h := ⟨⟨st.rel.base, st.rel.ns, st.rel.vars, st.rel.nin, st.rel.cl⟩, st.cel, st.own⟩
theorem GS.of {σ : Sto} {h : Heap} (st : StR (Xg X env A') [] σ [] h) : GS X env σ h := ⟨⟨st.rel.base, st.rel.ns, st.rel.vars, st.rel.nin, st.rel.cl⟩, st.cel, st.own⟩
/-- what the generator may change -/
noncomputable def Zp (hB : Heap) (L b : Addr) (o : Obj) : Prop := b = L ∨ (hB.get? b = none ∧ IterOf o)
noncomputable def KpZ (hB : Heap) (L : Addr) (h h' : Heap) : Prop := ∀ b o, ¬ Zp hB L b o → h.get? b = some o → h'.get? b = some o
/-- a run of the generator's block -/
structure GR (X : Cx) (hB : Heap) (L : Addr) (s s' : Shared) : Prop where
  os : Os s s'
  kz : KpZ hB L s.heap s'.heap
  ks : Ks X.N s.heap s'.heap
theorem GR.refl {hB : Heap} {L : Addr} {s : Shared} : GR X hB L s s := ⟨Os.refl, fun _ _ _ e => e, fun _ _ _ _ e => e⟩
theorem GR.trans {hB : Heap} {L : Addr} {s s' s'' : Shared} (a : GR X hB L s s') (b : GR X hB L s' s'') : GR X hB L s s'' :=
  ⟨a.os.trans b.os, fun x o hx e => b.kz x o hx (a.kz x o hx e), fun x o hx hs e => b.ks x o hx hs (a.ks x o hx hs e)⟩
theorem GR.keeps {hB : Heap} {L : Addr} {s s' : Shared} (k : Keeps s s') : GR X hB L s s' := ⟨Keeps.os k, fun b o _ e => Keeps.kp k b o e, (Keeps.kp k).ks⟩
theorem GR.frW {hB : Heap} {s s' : Shared} (gc : GC X env) (f : FrW (Xg X env A') [] s s') (ks : Ks X.N s.heap s'.heap) : GR X hB env.locals s s' :=
  ⟨f.1, fun b o hz e => f.2 b o (fun hw => by
    rcases hw with hw | ⟨x, hx⟩ | ⟨x, hx⟩
    · exact hz (.inl hw)
    · rw [show (Xg X env A').env.cells = [] from gc.cl] at hx; cases hx
    · cases hx) e, ks⟩
/-- what the call's own statements leave -/
structure Th (X : Cx) (Z : Addr → Prop) (h h' : Heap) : Prop where
  base : Kp X.h0 h'
  kp : ∀ b o, Z b → h.get? b = some o → h'.get? b = some o
  ks : Ks X.N h h'
  nin : ∀ a ∈ X.N, ∃ o, h'.get? a = some o
theorem GS.th {σ : Sto} {h h' : Heap} {Z : Addr → Prop} (gc : GC X env) (hL : Z env.locals) (st : GS X env σ h) (t : Th X Z h h') : GS X env σ h' where
  rel := {
    base := t.base
    ns := by
      obtain ⟨m, o, es, ep, e, q⟩ := st.rel.ns
      exact ⟨m, o, es, ep, t.kp _ _ hL e, q⟩
    vars := fun x d hx hu => by
      obtain ⟨v, hv, hr⟩ := st.rel.vars x d hx hu
      refine ⟨v, ?_, hr.ks t.ks⟩
      rcases hv with ⟨k, m, ⟨o, es, ep, e, q⟩, e3⟩ | ⟨k, c, e2, _⟩
      · exact .inl ⟨k, m, ⟨o, es, ep, t.kp _ _ hL e, q⟩, e3⟩
      · rw [show (Xg X env X.A).env.cells = [] from gc.cl] at e2; cases e2
    nin := t.nin
    cl := fun x c e => by rw [show (Xg X env X.A).env.cells = [] from gc.cl] at e; cases e }
  cel := fun x c e => by rw [show (Xg X env X.A).env.cells = [] from gc.cl] at e; cases e
  own := fun x l e => by cases e
end
end
section
section
variable {X : Cx} {env : Env} {A' : Around} {s : Shared} {σ σ' : Sto}
theorem GS.keeps (st : GS X env σ s.heap) {s' : Shared} (k : Keeps s s') : GS X env σ s'.heap := StR.kp (s := s) st (Keeps.kp k)
theorem gexec (gc : GC X env) (nA : Nigh X.A A') (st : GS X env σ s.heap) {stm : Stmt} (h : ∀ Q : SQ, Q .next σ' [] → exN [] 14 6 gK σ [] stm Q) :
    Wp X.w A' (exec stm env) (fun f s' => f = .next ∧ GS X env σ' s'.heap ∧ FrW (Xg X env A') [] s s' ∧ Ks X.N s.heap s'.heap) s := by
  have h1 := h (fun o σ1 ω1 => o = .next ∧ σ1 = σ' ∧ ω1 = []) ⟨rfl, rfl, rfl⟩
  have h2 : exN [] 14 6 (Xg X env A').env.scope.names σ [] stm (fun o σ1 ω1 => o = .next ∧ σ1 = σ' ∧ ω1 = []) := by
    rw [show (Xg X env A').env.scope.names = gK from gc.names]; exact h1
  refine Wp.mono (exN_ok (w := X.w) (r := 0) GOk.nil 14 6 (gc.fn nA) (gc.rm nA) rfl h2 (st.at A')) ?_
  rintro f s1 ⟨fr, ks, σ1, ω1, st1, hf⟩
  cases f with
  | next =>
    obtain ⟨_, rfl, rfl⟩ := hf
    exact ⟨rfl, GS.of st1, fr, ks⟩
  | brk => exact nomatch hf.1
  | ret v => obtain ⟨d, _, hd, _⟩ := hf; cases hd
  | cont => exact hf.elim
theorem gtest (gc : GC X env) (nA : Nigh X.A A') (st : GS X env σ s.heap) {e : Expr} {b : Bool} (h : ∀ Q : Bool → Prop, Q b → (evN [] 14).ts gK σ e Q) :
    Wp X.w A' (isTrue e env (eval e env)) (fun c s' => c = b ∧ Keeps s s') s := by
  have h2 : (evN [] 14).ts (Xg X env A').env.scope.names σ e (· = b) := by
    rw [show (Xg X env A').env.scope.names = gK from gc.names]; exact h _ rfl
  exact (evN_ok (w := X.w) (r := 0) GOk.nil 14).ts (gc.xok nA) (gc.rm nA) rfl h2 (st.at A').rel
theorem geval (gc : GC X env) (nA : Nigh X.A A') (st : GS X env σ s.heap) {e : Expr} {d : D} (h : ∀ Q : D → Prop, Q d → (evN [] 14).ev gK σ e Q) :
    Wp X.w A' (eval e env) (fun v s' => Rep X.N s'.heap v d ∧ Keeps s s') s := by
  have h2 : (evN [] 14).ev (Xg X env A').env.scope.names σ e (· = d) := by
    rw [show (Xg X env A').env.scope.names = gK from gc.names]; exact h _ rfl
  refine Wp.mono ((evN_ok (w := X.w) (r := 0) GOk.nil 14).ev (gc.xok nA) (gc.rm nA) rfl h2 (st.at A').rel) ?_
  rintro v s1 ⟨d', rd, rfl, k⟩
  exact ⟨rd, k⟩
end
abbrev Rg : GenEnd := fun _ _ r _ => r = .ok .next ∧ False
noncomputable def YP (X : Cx) (hB : Heap) (L : Addr) (W : Int) (Z : Addr → Prop) : Protocol := fun k s₀ v s' κ =>
  (∃ t, v = .int W t) ∧ GR X hB L s₀ s' ∧ Kp X.h0 s'.heap ∧ (∀ a ∈ X.N, ∃ o, s'.heap.get? a = some o) ∧ (0 < k → ∀ s'', Th X Z s'.heap s''.heap → κ (.send .none) s'')
section
variable {X : Cx} {env : Env} {hB : Heap} {W : Int} {Z : Addr → Prop}
theorem gen_inter (gc : GC X env) : env.scope.isCoroutine = false ∧ interactive env = false := by
  refine ⟨by rw [gc.sc]; kernel_rfl, ?_⟩
  unfold interactive
  rw [gc.sc]; kernel_rfl
abbrev cL (env : Env) (I : Value) : Code := .forLoop gFo.1 I gFb [] env
abbrev cW (env : Env) : Code := .whileLoop gW.1 gW.2.1 [] env
abbrev cG (env : Env) : Code := .func gBody env
/-- the endless run -/
theorem seg_w_step (gc : GC X env) (hZ : Z env.locals) {I : Value} {k1 k2 : Result → Sem PySem.Fin} {p1 p2 : Pos} {n : Nat} {s₀ s : Shared}
    (ih : 0 < n → ∀ s₀ s : Shared, GS X env (sG W (.int W) (.int 0)) s.heap → GR X hB env.locals s₀ s → Seg (model pw X.w) X.A.in1 Rg (YP X hB env.locals W Z) n s₀ (cW env) ((model pw X.w).den (cW env)) [.ret k2 none false [] (cL env I) p2 [], .ret k1 none false [] (cG env) p1 []] s)
    (st : GS X env (sG W (.int W) (.int 0)) s.heap) (gr : GR X hB env.locals s₀ s) :
    Seg (model pw X.w) X.A.in1 Rg (YP X hB env.locals W Z) (n + 1) s₀ (cW env) ((model pw X.w).den (cW env)) [.ret k2 none false [] (cL env I) p2 [], .ret k1 none false [] (cG env) p1 []] s := by
  refine seg_whileLoop (Wp.any (Wp.mono (gtest gc ov3 st (fun Q q => g_w q)) ?_))
  rintro b s1 ⟨rfl, ka⟩
  rw [if_pos rfl]
  have e : execs gW.2.1 env = execs [.Expr (.Yield (some gWY.1) gWY.2.1) gWY.2.2] env := by rw [← gW_eq]
  rw [e]
  refine seg_execs_cons (seg_Expr_Yield rfl rfl rfl (Wp.any (Wp.mono (geval gc ov3 (st.keeps ka) (fun Q q => g_wy q)) ?_)) (gen_inter gc).1 (gen_inter gc).2)
  rintro v s2 ⟨rd, kb⟩ kap hkap
  have st2 := (st.keeps ka).keeps kb
  cases rd with
  | int i t =>
    refine ⟨⟨t, rfl⟩, gr.trans (GR.keeps (keeps_trans ka kb)), st2.rel.base, st2.rel.nin, fun hn s'' th => hkap .none s'' ?_⟩
    exact seg_execs_nil (seg_again rfl (ih hn _ _ (GS.th gc hZ st2 th) GR.refl))
theorem seg_w (gc : GC X env) (hZ : Z env.locals) {I : Value} {k1 k2 : Result → Sem PySem.Fin} {p1 p2 : Pos} : ∀ (n : Nat) (s₀ s : Shared), GS X env (sG W (.int W) (.int 0)) s.heap → GR X hB env.locals s₀ s →
    Seg (model pw X.w) X.A.in1 Rg (YP X hB env.locals W Z) (n + 1) s₀ (cW env) ((model pw X.w).den (cW env)) [.ret k2 none false [] (cL env I) p2 [], .ret k1 none false [] (cG env) p1 []] s
  | 0, s₀, s, st, gr => seg_w_step gc hZ (fun h => absurd h (Nat.lt_irrefl 0)) st gr
  | n + 1, s₀, s, st, gr => seg_w_step gc hZ (fun _ s₀ s st gr => seg_w gc hZ n s₀ s st gr) st gr
/-- the loop's frames as they stand under a body -/
abbrev kL (env : Env) (I : Value) : Flow → Sem PySem.Fin := fun f => match f with
            | .next | .cont => .pure (.again (cL env I))
            | .brk => .pure (.done .next)
            | .ret v => .pure (.done (.ret v))
abbrev hL (env : Env) : Value → Sem PySem.Fin := fun e => (do noteFrame e env; theTreesLotGoes e : Sem Unit).wrap (fun _ => .raise e) .raise id id
/-- the second item: the nought -/
theorem seg_two (gc : GC X env) (hZ : Z env.locals) {b : Addr} {St : List D → Heap → Prop} (it : ∀ A' : Around, A'.handled = none → Itr X.w A' X.N gFo.1 (.ref b) [b] St) (hSt : ∀ l h, St l h → ∃ o, h.get? b = some o ∧ IterOf o)
    (hb : b ≠ env.locals) (hb0 : hB.get? b = none) (hbh : X.h0.get? b = none) (hbN : b ∉ X.N) {k1 : Result → Sem PySem.Fin} {p1 : Pos} {n : Nat} {s₀ s : Shared}
    (st : GS X env (sG W .none (.int W)) s.heap) (hi : St [.int 0] s.heap) (gr : GR X hB env.locals s₀ s) :
    Seg (model pw X.w) X.A.in1 Rg (YP X hB env.locals W Z) (n + 1) s₀ (cL env (.ref b)) ((execs [gA] env).wrap (kL env (.ref b)) (hL env) id id) [.ret k1 none false [] (cG env) p1 []] s := by
  refine seg_execs_cons (seg_stmt (Wp.mono (gexec gc ov2 st (fun Q q => g_a q)) ?_))
  rintro f s1 ⟨rfl, st1, fr1, ks1⟩
  refine seg_execs_nil (seg_again rfl (seg_forLoop ?_))
  have hi1 : St [.int 0] s1.heap := (it X.A gc.ok.hd).frame hi (fun c hc o e => fr1.2 c o (by
    rw [List.mem_singleton.mp hc]
    rintro (e | ⟨x, e⟩ | ⟨x, e⟩)
    · exact hb e
    · rw [show (Xg X env _).env.cells = [] from gc.cl] at e; cases e
    · cases e) e) ks1
  have gr1 := gr.trans (GR.frW gc fr1 ks1)
  have nA := @ov2 X.A gBody gFb env gFo.1 (.ref b) k1 p1
  refine (it _ (nA.1.trans gc.ok.hd)).cons (Q := fun v s2 => Wp X.w _ (assign gFo.1 env v) (fun _ s3 => _) s2) st1.rel.nin hi1 fun v h' tk rd hi2 kb ks => ?_
  have st2 : StR (Xg X env (X.A.in1.over (cL env (.ref b)) [.ret k1 none false [] (cG env) p1 []])) [] (sG W (.int W) (.int W)) [] ({ s1 with heap := h', toks := tk } : Shared).heap :=
    StR.wr (s := s1) (st1.at _) kb ks (fun c hc => by rw [List.mem_singleton.mp hc]; exact hbh) (by rw [List.mem_singleton]; exact fun e => hb e.symm) (fun x c e => by rw [show (Xg X env _).env.cells = [] from gc.cl] at e; cases e)
      (fun a ha => by rw [List.mem_singleton]; exact fun e => hbN (e ▸ ha)) (fun x a e => by cases e)
  have gr2 : GR X hB env.locals s1 { s1 with heap := h', toks := tk } := ⟨os_of, fun c o hz e => kb c o (fun hc => by
    rw [List.mem_singleton.mp hc] at e hz
    obtain ⟨o', ho, hio⟩ := hSt _ _ hi1
    rw [e] at ho
    injection ho with ho
    exact hz (.inr ⟨hb0, ho ▸ hio⟩)) e, ks⟩
  refine Wp.mono (bind_any (gc.fn nA) st2 g_tgt (Q := fun σ1 => σ1 = sG W (.int W) (.int 0)) (by
    rw [show (Xg X env _).env.scope.names = gK from gc.names]; exact g_bind rfl) rd) ?_
  rintro _ s3 ⟨⟨σ1, rfl, st3⟩, fr3, ks3⟩
  have gr3 := (gr1.trans gr2).trans (GR.frW gc fr3 ks3)
  have st3 := GS.of st3
  have e : execs gFb env = execs [.If gI1.1 gI1.2.1 [] gI1.2.2, .If gI2.1 gI2.2.1 [] gI2.2.2, .Expr (.Yield (some gY.1) gY.2.1) gY.2.2, gA] env := congrArg (execs · env) gFb_eq
  rw [e]
  refine seg_execs_cons (seg_If (Wp.mono (gtest gc nA st3 (fun Q q => g_t1 q)) ?_))
  rintro c s4 ⟨rfl, k4⟩
  rw [if_neg (by decide)]
  refine seg_execs_nil (seg_execs_cons (seg_If (Wp.mono (gtest gc nA (st3.keeps k4) (fun Q q => g_t2 q)) ?_)))
  rintro c s5 ⟨rfl, k5⟩
  rw [if_pos (by decide)]
  have st5 := (st3.keeps k4).keeps k5
  have gr5 := gr3.trans (GR.keeps (keeps_trans k4 k5))
  have e2 : execs gI2.2.1 env = execs [gI3, .While gW.1 gW.2.1 [] gW.2.2] env := congrArg (execs · env) gI2_eq
  rw [e2]
  refine seg_execs_cons (seg_stmt (Wp.mono (gexec gc nA st5 (fun Q q => g_i3 q)) ?_))
  rintro f s6 ⟨rfl, st6, fr6, ks6⟩
  have gr6 := gr5.trans (GR.frW gc fr6 ks6)
  exact seg_execs_cons (seg_While fun p => seg_w gc hZ n s₀ s6 st6 gr6)
/-- the first item -/
theorem seg_fst (gc : GC X env) (hZ : ∀ b, hB.get? b = none → Z b) (hLB : hB.get? env.locals = none) (hW3 : 3 ≤ W) (hW5 : W ≤ 5) {b : Addr} {St : List D → Heap → Prop}
    (it : ∀ A' : Around, A'.handled = none → Itr X.w A' X.N gFo.1 (.ref b) [b] St) (hSt : ∀ l h, St l h → ∃ o, h.get? b = some o ∧ IterOf o)
    (hbL : b ≠ env.locals) (hb0 : hB.get? b = none) (hbh : X.h0.get? b = none) (hbN : b ∉ X.N) {k1 : Result → Sem PySem.Fin} {p : Pos} {n : Nat} {s₀ s3 : Shared}
    (st3 : GS X env (sG W .none .undef) s3.heap) (hi : St [.int W, .int 0] s3.heap) (gr3 : GR X hB env.locals s₀ s3) :
    Seg (model pw X.w) X.A.in1 Rg (YP X hB env.locals W Z) (n + 1) s₀ (cL env (.ref b)) ((model pw X.w).den (cL env (.ref b))) [.ret k1 none false [] (cG env) p []] s3 := by
  have nA := @ov2 X.A gBody gFb env gFo.1 (.ref b) k1 p
  refine seg_forLoop ?_
  refine (it _ (nA.1.trans gc.ok.hd)).cons (Q := fun v s2 => Wp X.w _ (assign gFo.1 env v) (fun _ s3 => _) s2) st3.rel.nin hi fun v h' tk rd hi2 kb ks => ?_
  have st4 : StR (Xg X env (X.A.in1.over (cL env (.ref b)) [.ret k1 none false [] (cG env) p []])) [] (sG W .none .undef) [] ({ s3 with heap := h', toks := tk } : Shared).heap :=
    StR.wr (s := s3) (st3.at _) kb ks (fun c hc => by rw [List.mem_singleton.mp hc]; exact hbh) (by rw [List.mem_singleton]; exact fun e => hbL e.symm) (fun x c e => by rw [show (Xg X env _).env.cells = [] from gc.cl] at e; cases e)
      (fun a ha => by rw [List.mem_singleton]; exact fun e => hbN (e ▸ ha)) (fun x a e => by cases e)
  have gr4 : GR X hB env.locals s3 { s3 with heap := h', toks := tk } := ⟨os_of, fun c o hz e => kb c o (fun hc => by
    rw [List.mem_singleton.mp hc] at e hz
    obtain ⟨o', ho, hio⟩ := hSt _ _ hi
    rw [e] at ho
    injection ho with ho
    exact hz (.inr ⟨hb0, ho ▸ hio⟩)) e, ks⟩
  refine Wp.mono (bind_any (gc.fn nA) st4 g_tgt (Q := fun σ1 => σ1 = sG W .none (.int W)) (by
    rw [show (Xg X env _).env.scope.names = gK from gc.names]; exact g_bind rfl) rd) ?_
  rintro _ s5 ⟨⟨σ1, rfl, st5⟩, fr5, ks5⟩
  have gr5 := (gr3.trans gr4).trans (GR.frW gc fr5 ks5)
  have hi5 : St [.int 0] s5.heap := (it X.A gc.ok.hd).frame hi2 (fun c hc o e => fr5.2 c o (by
    rw [List.mem_singleton.mp hc]
    rintro (e | ⟨x, e⟩ | ⟨x, e⟩)
    · exact hbL e
    · rw [show (Xg X env _).env.cells = [] from gc.cl] at e; cases e
    · cases e) e) ks5
  have st5 := GS.of st5
  have e : execs gFb env = execs [.If gI1.1 gI1.2.1 [] gI1.2.2, .If gI2.1 gI2.2.1 [] gI2.2.2, .Expr (.Yield (some gY.1) gY.2.1) gY.2.2, gA] env := congrArg (execs · env) gFb_eq
  rw [e]
  refine seg_execs_cons (seg_If (Wp.mono (gtest gc nA st5 (fun Q q => g_t1 q)) ?_))
  rintro c s6 ⟨rfl, k6⟩
  rw [if_neg (by simp; omega)]
  refine seg_execs_nil (seg_execs_cons (seg_If (Wp.mono (gtest gc nA (st5.keeps k6) (fun Q q => g_t2 q)) ?_)))
  rintro c s7 ⟨rfl, k7⟩
  rw [if_neg (by simp; omega)]
  have st7 := (st5.keeps k6).keeps k7
  have hi7 : St [.int 0] s7.heap := (it X.A gc.ok.hd).frame hi5 (fun c hc o e => (Keeps.kp (keeps_trans k6 k7)) c o e) (Keeps.kp (keeps_trans k6 k7)).ks
  have gr7 := gr5.trans (GR.keeps (keeps_trans k6 k7))
  refine seg_execs_nil (seg_execs_cons (seg_Expr_Yield rfl rfl rfl (Wp.any (Wp.mono (geval gc nA st7 (fun Q q => g_y q (.inr trivial))) ?_)) (gen_inter gc).1 (gen_inter gc).2))
  rintro v s8 ⟨rd8, k8⟩ kap hkap
  have st8 := st7.keeps k8
  have hi8 : St [.int 0] s8.heap := (it X.A gc.ok.hd).frame hi7 (fun c hc o e => (Keeps.kp k8) c o e) (Keeps.kp k8).ks
  cases rd8 with
  | int i t =>
    refine ⟨⟨t, rfl⟩, gr7.trans (GR.keeps k8), st8.rel.base, st8.rel.nin, fun hn s'' th => hkap .none s'' ?_⟩
    obtain ⟨m, rfl⟩ : ∃ m, n = m + 1 := ⟨n - 1, by omega⟩
    have hi9 : St [.int 0] s''.heap := (it X.A gc.ok.hd).frame hi8 (fun c hc o e => th.kp c o (hZ c (by rw [List.mem_singleton.mp hc]; exact hb0)) e) th.ks
    exact seg_two gc (hZ _ hLB) it hSt hbL hb0 hbh hbN (GS.th gc (hZ _ hLB) st8 th) hi9 GR.refl
/-- from the start to the first yield -/
theorem seg_one (gc : GC X env) (hZ : ∀ b, hB.get? b = none → Z b) (hLB : hB.get? env.locals = none) (h0B : ∀ b o, X.h0.get? b = some o → ∃ o', hB.get? b = some o') (hNB : ∀ a ∈ X.N, ∃ o, hB.get? a = some o) (hW3 : 3 ≤ W) (hW5 : W ≤ 5) {n : Nat} {s₀ s : Shared}
    (hal : ∀ b o, hB.get? b = some o → ∃ o', s.heap.get? b = some o')
    (st : GS X env (sG W .undef .undef) s.heap) (gr : GR X hB env.locals s₀ s) :
    Seg (model pw X.w) X.A.in1 Rg (YP X hB env.locals W Z) (n + 1) s₀ (cG env) ((model pw X.w).den (cG env)) [] s := by
  refine seg_func ?_
  have e : execs gBody env = execs [gS0, .For gFo.1 gFo.2.1 gFb [] gFo.2.2.2] env := congrArg (execs · env) gBody_eq
  rw [e]
  have nF := @ov1 X.A gBody env
  refine seg_execs_cons (seg_stmt (Wp.mono (gexec gc nF st (fun Q q => g_s0 q)) ?_))
  rintro f s1 ⟨rfl, st1, fr1, ks1⟩
  have gr1 := gr.trans (GR.frW gc fr1 ks1)
  have hL1 : ∀ b o, s.heap.get? b = some o → ∃ o', s1.heap.get? b = some o' := fun b o ho => by
    by_cases hb : b = env.locals
    · obtain ⟨m, o', es, ep, h1, _⟩ := st1.rel.ns
      exact ⟨o', hb ▸ h1⟩
    · exact ⟨o, fr1.2 b o (by
        rintro (e | ⟨x, e⟩ | ⟨x, e⟩)
        · exact hb e
        · rw [show (Xg X env _).env.cells = [] from gc.cl] at e; cases e
        · cases e) ho⟩
  refine seg_execs_cons (seg_For (fun x => by kernel_rfl) (Wp.mono (geval gc nF st1 (fun Q q => g_it q)) ?_))
  rintro v s2 ⟨rd, k2⟩
  have st2 := st1.keeps k2
  cases rd with
  | lst ha hl rs =>
    rename_i a vs
    refine Wp.mono (mk_listA (X := Xg X env _) ((st2.at _).rel.am (gc.xok nF)) (nF.1.trans gc.ok.hd) (.lst ha hl rs) g_nm) ?_
    rintro I s3 ⟨b, St, rfl, k3, hbn, it, hSt, hi⟩ p
    have st3 := st2.keeps k3
    have gr3 := (gr1.trans (GR.keeps k2)).trans (GR.keeps k3)
    have hB2 : ∀ b o, hB.get? b = some o → ∃ o', s2.heap.get? b = some o' := fun c o ho => by
      obtain ⟨o1, h1⟩ := hal c o ho
      obtain ⟨o2, h2⟩ := hL1 c o1 h1
      exact ⟨o2, Keeps.kp k2 _ _ h2⟩
    have hb0 : hB.get? b = none := by
      cases hc : hB.get? b with
      | none => rfl
      | some o => obtain ⟨o', h'⟩ := hB2 b o hc; rw [hbn] at h'; cases h'
    have hbL : b ≠ env.locals := by
      rintro rfl
      obtain ⟨m, o', es, ep, h1, _⟩ := st2.rel.ns
      have h1 : s2.heap.get? env.locals = some o' := h1
      rw [hbn] at h1; cases h1
    have hbh : X.h0.get? b = none := by
      cases hc : X.h0.get? b with
      | none => rfl
      | some o => obtain ⟨o', h'⟩ := h0B b o hc; rw [hb0] at h'; cases h'
    have hbN : b ∉ X.N := fun hm => by obtain ⟨o, ho⟩ := hNB b hm; rw [hb0] at ho; cases ho
    exact seg_fst gc hZ hLB hW3 hW5 it hSt hbL hb0 hbh hbN st3 hi gr3
end
end
section
noncomputable def dG : DefRec := dN "_grouping_intervals" 10
theorem dG_mem : dG ∈ recsOf qv := List.mem_of_getElem? (i := 3) (by kernel_rfl)
/-- a generator just made -/
structure GenNew (X : Cx) (W : Int) (s : Shared) (v : Value) (s' : Shared) (ga : Addr) (ge : Env) (g : Nat) : Prop where
  v : v = .ref ga
  kp : Kp s.heap s'.heap
  os : Os s s'
  ga0 : s.heap.get? ga = none
  L0 : s.heap.get? ge.locals = none
  ne : ga ≠ ge.locals
  gen : s'.heap.IsGen ga g
  fresh : s'.gens[g]? = some (.fresh (cG ge))
  g0 : s.gens[g]? = none
  gc : GC X ge
  gs : GS X ge (sG W .undef .undef) s'.heap
section
variable {r : Nat} {w : World} {R : Ev} {X : Cx} {σ : Sto} {s : Shared}
theorem gen_eval (H : EvOk r w R) (ok : X.Ok) (hr : Room r X.A) (hr2 : X.A.depth + 4 < recursionLimit ∧ X.A.units + 16 + 64 < cLine) (hw : X.w = w) (rel : Rel X σ s.heap) {p pos : Pos} {a : Expr} {args : List Expr} {W : Int}
    (hk : isGlob X.env.scope.names σ "_grouping_intervals" = true) (h : evsS R X.env.scope.names σ (a :: args) fun ds => ds = [.lst [.int W, .int 0]]) :
    Wp w X.A (eval (.Call (.Name "_grouping_intervals" p) (a :: args) [] pos) X.env) (fun v s' => ∃ ga ge g, GenNew X W s v s' ga ge g) s := by
  have am := rel.am ok
  simp only [isGlob, Bool.and_eq_true, beq_iff_eq, Bool.not_eq_true'] at hk
  obtain ⟨hstar, hev⟩ := evsS_ok (pos := pos) H ok hr hw h rel
  obtain ⟨mg, mb, mean, T, Kf0⟩ := am.glob
  obtain ⟨fa, o, pm, code, doc, hmg, ho, hdat, hcd⟩ := T.fn dG dG_mem
  subst hw
  refine Call_ (name_glob ok rel hk.1.1 (by simpa using hk.2) (loadGlobal_global (mg := mg) (by rw [ok.gl]; exact T.g) hmg ?_))
  have hs2 := hstar
  simp only [List.any_cons, Bool.or_eq_false_iff] at hs2
  refine callWith_def (o := o) hdat (Wp.mono hev fun vs s1 q => ?_) (starEach_cons hs2.1)
  obtain ⟨ds, rds, rfl, k⟩ := q
  have kp1 := Keeps.kp k
  refine ⟨kp1 _ _ ho, ?_⟩
  cases rds with
  | cons r1 rs =>
    cases rs
    rename_i v
    have T' := T.keeps kp1
    refine wpAny_call (codeAny_call_generator (fd := docDef dG.name dG.params dG.body dG.scope pm code doc) (body := gBody) (by have := hr2.1; omega) (kp1 _ _ ho) hdat (by kernel_rfl) (by kernel_rfl) (by kernel_rfl) (hcd.keeps kp1) ?_)
    rw [show bindArgs (docDef dG.name dG.params dG.body dG.scope pm code doc) ⟨[v], []⟩ = pure [(("grouping" : Str), v)] by kernel_rfl]
    refine wpAny_pure ?_
    refine wpAny_newFunctionEnv_cells (by kernel_rfl) (fun x hx => by
      rw [List.mem_singleton.mp hx]; exact .inl (by kernel_rfl)) fun ge hge s2 ic => ?_
    have hsc : ge.scope = fScope (stAt 10) := by rw [hge]; rfl
    have hcl : ge.cells = [] := by rw [hge]; kernel_rfl
    have hL : ge.locals = s1.heap.objs.size := by rw [hge]; rfl
    have hL1 : s1.heap.get? ge.locals = none := by rw [hL]; exact get_size
    obtain ⟨hh, tk, hsame⟩ := ic.toInCall.same
    have hkp2 : Kp s1.heap s2.heap := ic.toInCall.keep
    have hga : s2.heap.get? s2.heap.objs.size = none := get_size
    have hne : s2.heap.objs.size ≠ ge.locals := fun e => by
      obtain ⟨ob, es, ep, h1, _⟩ := ic.toInCall.ns
      rw [← e, hga] at h1; cases h1
    refine ⟨T'.nolimit.keeps hkp2, ?_⟩
    have hg2 : s2.gens = s1.gens := by rw [hsame]
    obtain ⟨h1', tk1, g1, e1, hk1, hgu⟩ := k
    have hg1 : s1.gens = g1 := by rw [e1]
    have kpush : ∀ ob : Obj, Kp s2.heap (s2.heap.push ob) := fun ob b o e => Heap.get?_push_of_some _ e
    refine ⟨_, ge, s2.gens.size, rfl, (kp1.trans hkp2).trans (kpush _), ?_, kp_none (kp1.trans hkp2) hga, kp_none kp1 hL1, hne, ⟨_, _, _, Heap.get?_push_size _ rfl, rfl, rfl, rfl⟩, by simp, ?_, ?_, ?_⟩
    · have ed : s2.drawn = s.drawn := by rw [hsame, e1]
      have eo : s2.os = s.os := by rw [hsame, e1]
      rw [ed, eo]
      refine ⟨_, _, _, rfl, ?_⟩
      · rw [hg2, hg1]
        refine hgu.trans ⟨fun i x e => ?_, fun ab => AllBare.push ab rfl⟩
        have hi : i < g1.size := by
          rcases Nat.lt_or_ge i g1.size with h' | h'
          · exact h'
          · rw [Array.getElem?_eq_none h'] at e; cases e
        rw [Array.getElem?_push_lt hi, ← Array.getElem?_eq_getElem hi]
        exact e
    · cases e : s.gens[s2.gens.size]? with
      | none => rfl
      | some x =>
        have := hgu.1 _ _ e
        rw [hg2, hg1, Array.getElem?_eq_none (Nat.le_refl _)] at this
        cases this
    · exact ⟨ok, hr2, hsc, by rw [hge]; rfl, by rw [hge]; rfl, hcl, kp_none (rel.base.trans kp1) hL1⟩
    · have base : Kp X.h0 s2.heap := (rel.base.trans kp1).trans hkp2
      have st : GS X ge (sG W .undef .undef) s2.heap := by
        refine ⟨⟨base, ⟨_, ic.toInCall.ns⟩, fun x dd hx hu => ?_, fun b hb => ?_, fun x c e => ?_⟩, fun x c e => ?_, fun x l e => by cases e⟩
        · have hx' := hx
          unfold sG at hx
          by_cases hxg : x = ("grouping" : Str)
          · subst hxg
            have hx : some (D.lst [D.int W, D.int 0]) = some dd := hx
            injection hx with hx
            subst hx
            refine ⟨v, .inl ⟨?_, _, ic.toInCall.ns, ?_⟩, r1.kp hkp2⟩
            · show ge.scope.names.lookup _ = _
              rw [hsc]; kernel_rfl
            · refine bindL_get ?_ _ _ (by simp) (by simp)
              show ge.scope.names.lookup _ = _
              rw [hsc]; kernel_rfl
          · have hb : (x == ("grouping" : Str)) = false := by simpa using hxg
            rw [List.lookup_cons, hb] at hx
            dsimp only at hx
            exfalso
            rw [List.lookup_cons] at hx
            split at hx
            · injection hx with hx; subst hx; cases hu
            · rw [List.lookup_cons] at hx
              split at hx
              · injection hx with hx; subst hx; cases hu
              · cases hx
        · obtain ⟨ob, hob⟩ := am.nin b hb
          exact ⟨ob, hkp2 _ _ (kp1 _ _ hob)⟩
        · rw [show (Xg X ge X.A).env.cells = [] from hcl] at e; cases e
        · rw [show (Xg X ge X.A).env.cells = [] from hcl] at e; cases e
      exact StR.kp (s := s2) st (kpush _)
end
end
section
/-- a for over an endless run of W -/
noncomputable def forG (K : List (Str × NameKind)) (t : Expr) (W : Int) (body : Sto → Own → SQ → Prop) : Nat → Sto → Own → SQ → Prop
  | 0, _, _, _ => False
  | k + 1, σ, ω, Q => match targetOk ω t with
    | false => False
    | true => bindT K σ t (.int W) fun σ1 => body σ1 ω fun o σ2 ω2 => match o with
      | .next => forG K t W body k σ2 ω2 Q
      | .brk => Q .next σ2 ω2
      | .ret d => Q (.ret d) σ2 ω2
section
variable {r : Nat} {w : World} {R : Ev} {X : Cx} {own : Owns} {σ : Sto} {ω : Own} {s : Shared} {G : Gt}
theorem StR.gz {h h' : Heap} (st : StR X own σ ω h) (kz : ∀ b o, Wr X own b → h.get? b = some o → h'.get? b = some o) (base : Kp X.h0 h') (ks : Ks X.N h h') (nin : ∀ a ∈ X.N, ∃ o, h'.get? a = some o) : StR X own σ ω h' where
  rel := {
    base := base
    ns := by
      obtain ⟨m, o, es, ep, e, q⟩ := st.rel.ns
      exact ⟨m, o, es, ep, kz _ _ (.inl rfl) e, q⟩
    vars := fun x d hx hu => by
      obtain ⟨v, hv, hr⟩ := st.rel.vars x d hx hu
      refine ⟨v, ?_, hr.ks ks⟩
      rcases hv with ⟨k, m, ⟨o, es, ep, e, q⟩, e3⟩ | ⟨k, c, e2, o, e3, hd⟩
      · exact .inl ⟨k, m, ⟨o, es, ep, kz _ _ (.inl rfl) e, q⟩, e3⟩
      · exact .inr ⟨k, c, e2, o, kz _ _ (.inr (.inl ⟨x, e2⟩)) e3, hd⟩
    nin := nin
    cl := fun x c e => let ⟨o, ho⟩ := st.rel.cl x c e; ⟨o, kz _ _ (.inr (.inl ⟨x, e⟩)) ho⟩ }
  cel := fun x c e => let ⟨v, o, ho, hd⟩ := st.cel x c e; ⟨v, o, kz _ _ (.inr (.inl ⟨x, e⟩)) ho, hd⟩
  own := fun x l e => by
    obtain ⟨a, e1, hv, ac⟩ := st.own x l e
    refine ⟨a, e1, ?_, ac.ks (fun o h => kz _ _ (.inr (.inr ⟨x, e1⟩)) h) ks⟩
    rcases hv with ⟨k, m, ⟨o, es, ep, e2, q⟩, e3⟩ | ⟨k, c, e2, o, e3, hd⟩
    · exact .inl ⟨k, m, ⟨o, es, ep, kz _ _ (.inl rfl) e2, q⟩, e3⟩
    · exact .inr ⟨k, c, e2, o, kz _ _ (.inr (.inl ⟨x, e2⟩)) e3, hd⟩
theorem wr_live (F : FnCx X own) (st : StR X own σ ω s.heap) {b : Addr} (hw : Wr X own b) : ∃ o, s.heap.get? b = some o := by
  rcases hw with rfl | ⟨x, e⟩ | ⟨x, e⟩
  · obtain ⟨m, n⟩ := st.rel.ns
    obtain ⟨o, ho, _⟩ := ns_live n
    exact ⟨o, ho⟩
  · exact st.rel.cl x b e
  · exact st.rel.nin b (F.oin x b e).1
theorem bare_set {s : Shared} {g : Nat} {gs x : GenState} (h : s.gens[g]? = some gs) (hb : x.bare = true) (ab : AllBare s.gens) : AllBare (s.setGen g x).gens :=
  GenOnlyQ.bare (GenOnlyQ.of (GenOnly.setGen s g x) (setGen_self h) hb) ab
theorem gen_loop (F : FnCx X own) (hrd : X.A.depth < recursionLimit) {t : Expr} (ht : isNm t = true) {ga : Addr} {ge : Env} {g : Nat} {W : Int} {body : List Stmt} {bw : Sto → Own → SQ → Prop}
    (hbody : ∀ {σ1 ω1 Q s1}, bw σ1 ω1 Q → StR X own σ1 ω1 s1.heap → Wp X.w X.A (execs body X.env) (PostS X own Q s1) s1) {s0 : Shared} (hW : ∀ b, Wr X own b → ∃ o, s0.heap.get? b = some o)
    (hg0 : s0.gens[g]? = none) (hL0 : s0.heap.get? ge.locals = none) (ha0 : s0.heap.get? ga = none) (hne : ga ≠ ge.locals) :
    ∀ (k : Nat) {σ : Sto} {ω : Own} (s : Shared) (Q : SQ) (RR : Result → Shared → Prop) (gs : GenState), forG X.env.scope.names t W bw k σ ω Q → s.heap.IsGen ga g → s.gens[g]? = some gs →
      gs.Goes (model pw X.w) X.A.in1 Rg (YP X s0.heap ge.locals W (fun b => ¬ Wr X own b)) k (.send .none) (s.setGen g .running) → StR X own σ ω s.heap → FrW X own s0 s → Ks X.N s0.heap s.heap →
      (∀ f s' σ' ω', FrW X own s0 s' → Ks X.N s0.heap s'.heap → StR X own σ' ω' s'.heap → FlowS X Q f s'.heap σ' ω' → RR (.ok f) s') → codeAny (model pw X.w) X.A (.forLoop t (.ref ga) body [] X.env) RR s := by
  intro k
  induction k with
  | zero => intro σ ω s Q RR gs h; exact h.elim
  | succ k ih =>
    intro σ ω s Q RR gs h hig hgs hgo st fr ks hR
    unfold forG at h
    cases htg : targetOk ω t with
    | false => rw [htg] at h; exact h.elim
    | true =>
      rw [htg] at h
      refine codeAny_of_tree ?_
      show wpAny _ _ ((forTurn t (.ref ga) body [] X.env).onRaise (fun x => do noteFrame x X.env; theTreesLotGoes x)) _ _ s
      refine wpAny_noted ?_
      simp only [forTurn]
      have am := st.rel.am F.ok
      have hlim : s.heap.NoLimit := by
        obtain ⟨mg, mb, mean, T, _⟩ := am.glob
        exact T.nolimit
      refine wpAny_bind (wpAny_standAt (wpAny_bind (wpAny_onRaise (wpAny_pyNext_genexpQ (n := k + 1) (P := fun _ _ _ => False) F.ok.hd hlim hrd hig hgs hgo (fun v s1 gs' hbare hY => ?_) (fun s1 hf => hf.elim)))))
      obtain ⟨⟨tk, rfl⟩, gr, base1, nin1, hkap⟩ := hY
      have hnz : ∀ b o, Wr X own b → ¬ Zp s0.heap ge.locals b o := fun b o hb hz => by
        obtain ⟨o', ho'⟩ := hW b hb
        rcases hz with rfl | ⟨hz, _⟩
        · rw [hL0] at ho'; cases ho'
        · rw [hz] at ho'; cases ho'
      have kz1 : ∀ b o, ¬ Zp s0.heap ge.locals b o → s.heap.get? b = some o → s1.heap.get? b = some o := gr.kz
      have st1 : StR X own σ ω s1.heap := StR.gz st (fun b o hb e => kz1 b o (hnz b o hb) e) base1 gr.ks nin1
      have hsg : (s.setGen g .running).gens[g]? = some .running := setGen_self hgs
      have hs1g : s1.gens[g]? = some .running := by
        obtain ⟨h', tk', g', e, hu⟩ := gr.os
        rw [e]
        exact hu.1 _ _ hsg
      have fr2 : FrW X own s0 (s1.setGen g gs') := by
        refine ⟨?_, fun b o hb e => kz1 b o (fun hz => ?_) (fr.2 b o hb e)⟩
        · obtain ⟨ha, ta, g1, ea, hua⟩ := fr.1
          obtain ⟨hb', tb, g2, eb, hub⟩ := gr.os
          refine ⟨s1.heap, s1.toks, (s1.setGen g gs').gens, ?_, ?_, ?_⟩
          · rw [eb, ea]; rfl
          · intro i x hi
            have hig : i ≠ g := by rintro rfl; rw [hg0] at hi; cases hi
            have h1 : s.gens[i]? = some x := by rw [ea]; exact hua.1 i x hi
            have h2 : (s.setGen g .running).gens[i]? = some x := ((GenOnly.setGen s g .running).2 i hig).trans h1
            have h3 : s1.gens[i]? = some x := by rw [eb]; exact hub.1 i x h2
            exact ((GenOnly.setGen s1 g gs').2 i hig).trans h3
          · intro ab
            have a1 : AllBare s.gens := by rw [ea]; exact hua.2 ab
            have a2 := bare_set (x := .running) hgs rfl a1
            have a3 : AllBare s1.gens := by rw [eb]; exact hub.2 a2
            exact bare_set hs1g hbare a3
        · rcases hz with rfl | ⟨hz, _⟩
          · rw [hL0] at e; cases e
          · rw [hz] at e; cases e
      have ks2 : Ks X.N s0.heap (s1.setGen g gs').heap := fun b o hb hs e => gr.ks b o hb hs (ks b o hb hs e)
      have hig1 : s1.heap.IsGen ga g := by
        obtain ⟨o, nm, qn, ho, hc, hd, hsl⟩ := hig
        refine ⟨o, nm, qn, kz1 ga o (fun hz => ?_) ho, hc, hd, hsl⟩
        rcases hz with e | ⟨_, fs, la, e, e2⟩
        · exact hne e
        · rw [hd] at e
          injection e with e
          rw [← e] at e2
          simp at e2
      show wpAny _ _ (letOwnedTupleGo t (.ref ga) (.int W tk) >>= fun _ => _) _ _ (s1.setGen g gs')
      rw [letGo_name ht]
      refine wpAny_bind (wpAny_pure ?_)
      refine wpAny_bind (Wp.any (Wp.mono (bind_any (s := s1.setGen g gs') F st1 htg h (.int W tk)) ?_))
      rintro _ s3 ⟨⟨σ1, hb, st3⟩, fr3, ks3⟩
      refine wpAny_bind (Wp.any (Wp.mono (hbody hb st3) ?_))
      rintro f s4 ⟨fr4, ks4, σ4, ω4, st4, hf⟩
      have fr0 := (fr2.trans fr3).trans fr4
      have ks0 : Ks X.N s0.heap s4.heap := fun b o hb hs e => ks4 b o hb hs (ks3 b o hb hs (ks2 b o hb hs e))
      cases f with
      | next =>
        have fr34 := fr3.trans fr4
        have hw : ¬ Wr X own ga := fun hb => by obtain ⟨o, ho⟩ := hW ga hb; rw [ha0] at ho; cases ho
        have hig4 : s4.heap.IsGen ga g := by
          obtain ⟨o, nm, qn, ho, r⟩ := hig1
          exact ⟨o, nm, qn, fr34.2 ga o hw ho, r⟩
        have hg4 : s4.gens[g]? = some gs' := by
          obtain ⟨h', tk', g', e, hu⟩ := fr34.1
          rw [e]
          exact hu.1 _ _ (setGen_self hs1g)
        cases k with
        | zero => exact hf.elim
        | succ k =>
          have hgo4 := hkap (Nat.succ_pos k) (s4.setGen g .running) ⟨st4.rel.base, fun b o hb e => fr34.2 b o hb e, fun b o hb hs e => ks4 b o hb hs (ks3 b o hb hs e), st4.rel.nin⟩
          exact wpAny_pure ⟨rfl, ih s4 Q RR gs' hf hig4 hg4 hgo4 st4 fr0 ks0 hR⟩
      | brk => exact wpAny_pure (hR .next s4 σ4 ω4 fr0 ks0 st4 hf)
      | ret v => exact wpAny_pure (hR (.ret v) s4 σ4 ω4 fr0 ks0 st4 hf)
      | cont => exact hf.elim
end
end
section
/-- statements, with a for over the intervals that repeat W -/
noncomputable def exG (G : Gt) (m n : Nat) (K : List (Str × NameKind)) (σ : Sto) (ω : Own) (st : Stmt) (Q : SQ) : Prop :=
  match st with
  | .For t (.Call (.Name f _) (a :: args) [] _) body [] _ => match isGlob K σ f && f == ("_grouping_intervals" : Str) && isNm t with
    | true => ∃ W : Int, 3 ≤ W ∧ W ≤ 5 ∧ evsS (evN G m) K σ (a :: args) (fun ds => ds = [.lst [.int W, .int 0]]) ∧ ∃ k, forG K t W (fun σ1 ω1 Q => seqW (exN G m n K) body σ1 ω1 Q) k σ ω Q
    | false => False
  | st => exN G m (n + 1) K σ ω st Q
theorem exG_view {G : Gt} {m n : Nat} {K : List (Str × NameKind)} {σ : Sto} {ω : Own} {st : Stmt} {Q : SQ} (h : exG G m n K σ ω st Q) : (∃ t f pf a args pc body pos, st = .For t (.Call (.Name f pf) (a :: args) [] pc) body [] pos ∧ (match isGlob K σ f && f == ("_grouping_intervals" : Str) && isNm t with
    | true => ∃ W : Int, 3 ≤ W ∧ W ≤ 5 ∧ evsS (evN G m) K σ (a :: args) (fun ds => ds = [.lst [.int W, .int 0]]) ∧ ∃ k, forG K t W (fun σ1 ω1 Q => seqW (exN G m n K) body σ1 ω1 Q) k σ ω Q
    | false => False)) ∨ exN G m (n + 1) K σ ω st Q := by
  cases st with
  | For t it body orelse pos =>
    cases it with
    | Call fn args kws pc =>
      cases fn with
      | Name f pf =>
        cases args with
        | cons a args =>
          cases kws with
          | nil =>
            cases orelse with
            | nil => exact .inl ⟨t, f, pf, a, args, pc, body, pos, rfl, h⟩
            | cons => exact .inr h
          | cons => first | exact .inr h | (cases orelse <;> exact .inr h)
        | nil => first | exact .inr h | (cases kws <;> first | exact .inr h | (cases orelse <;> exact .inr h))
      | _ => first | exact .inr h | (cases args <;> first | exact .inr h | (cases kws <;> first | exact .inr h | (cases orelse <;> exact .inr h)))
    | _ => first | exact .inr h | (cases orelse <;> exact .inr h)
  | _ => exact .inr h
theorem exG_ok {r : Nat} {w : World} {G : Gt} {m n : Nat} (GG : GOk (r + 4) w G) : ExOk (r + 4) w (exG G m n) := by
  intro X own σ ω st Q s F hr hw h st0
  replace h := exG_view h
  rcases h with ⟨t, f, pf, a, args, pc, body, pos, rfl, h⟩ | h
  · cases hc : isGlob X.env.scope.names σ f && f == ("_grouping_intervals" : Str) && isNm t with
    | false => rw [hc] at h; exact h.elim
    | true =>
      rw [hc] at h
      obtain ⟨W, h3, h5, hev, k, hk⟩ := h
      simp only [Bool.and_eq_true] at hc
      have hf : f = ("_grouping_intervals" : Str) := by simpa using hc.1.2
      subst hf
      have hr2 : X.A.depth + 4 < recursionLimit ∧ X.A.units + 16 + 64 < cLine := ⟨by have := hr.1; omega, by have := hr.2; omega⟩
      refine wpAny_For (Wp.mono (gen_eval (evN_ok GG m) F.ok hr hr2 hw st0.rel hc.1.1 hev) ?_) (fun x => rfl)
      rintro v s1 ⟨ga, ge, g, gn⟩
      subst hw
      obtain ⟨rfl⟩ := gn.v
      refine wpAny_pyIter_gen gn.gen ?_
      have hW := fun b (hb : Wr X own b) => wr_live F st0 hb
      have fr : FrW X own s s1 := ⟨gn.os, fun b o _ e => gn.kp b o e⟩
      have hal : ∀ b o, s.heap.get? b = some o → ∃ o', s1.heap.get? b = some o' := fun b o e => ⟨o, gn.kp b o e⟩
      cases k with
      | zero => exact hk.elim
      | succ k =>
        refine gen_loop F (by have := hr.1; omega) hc.2 (fun hb st1 => seq_ok (exN_ok GG m n) F hr rfl hb st1) hW gn.g0 gn.L0 gn.ga0 gn.ne (k + 1) s1 Q _ _ hk gn.gen gn.fresh ⟨rfl, ?_⟩ (st0.kp gn.kp) fr gn.kp.ks fun f s' σ' ω' fr' ks' st' q => ⟨fr', ks', σ', ω', st', q⟩
        refine seg_one gn.gc (fun b hb hw => by obtain ⟨o, ho⟩ := hW b hw; rw [hb] at ho; cases ho) gn.L0 (fun b o e => ⟨o, st0.rel.base b o e⟩) st0.rel.nin h3 h5 hal gn.gs GR.refl
  · exact exN_ok GG m (n + 1) F hr hw h st0
end
section
theorem read_def : DefOk (dN "_law_read" 18) ["line", "width"] where
  mem := List.mem_of_getElem? (i := 10) (by kernel_rfl)
  bind := fun pm code doc vals h => by
    obtain ⟨a, b, rfl⟩ := lenv2 h
    kernel_rfl
  kind := by kernel_rfl
  co := by kernel_rfl
  gen := by kernel_rfl
  nd := by decide
  pk := fun p hp => by
    rcases List.mem_cons.mp hp with rfl | hp
    · exact .inl (by kernel_rfl)
    · rw [List.mem_singleton.mp hp]; exact .inl (by kernel_rfl)
noncomputable def Gr : Gt := ("_strip_padding", stripC) :: Gb
theorem Gr_ok {r : Nat} {w : World} : GOk (r + 1 + 1) w Gr := .cons strip_at Gb_ok.up
/-- a card's sign: what is left out, what is folded -/
noncomputable def clean (x : List Nat) : List Nat := match x with
  | [c] => if b1 c = true then [] else foldN c
  | _ => []
noncomputable def okCard (w : Nat) (a : Nat × List Nat × Nat) : Prop := a.1 + a.2.1.length + a.2.2 = w ∧ (a.2.1 = [] ∨ ∃ c, a.2.1 = [c] ∧ c ≠ 32)
noncomputable def cardT (a : Nat × List Nat × Nat) : List Nat := card a.1 a.2.1 a.2.2
noncomputable def sRd (line : List Nat) (W : Int) (sz cd : D) : Sto := [("line", .str line), ("width", .int W), ("cards", .undef), ("size", sz), ("card", cd)]
noncomputable def K18 : List (Str × NameKind) := (fScope (stAt 18)).names
noncomputable def gT18 : Expr := (forParts (stNo (fBody (stAt 18)) 1)).1
noncomputable def gB18 : List Stmt := (forParts (stNo (fBody (stAt 18)) 1)).2.2.1
abbrev bw18 : Sto → Own → SQ → Prop := fun σ1 ω1 Q => seqW (exN Gr 14 5 K18) gB18 σ1 ω1 Q
theorem cut_last {A c : List Nat} {w : Nat} (hw : 1 ≤ w) (hc : c.length = w) : cut (some (-(w : Int))) none (A ++ c) = c := by
  unfold cut
  simp only [Option.elim]
  rw [clipAt_neg _ _ hw, List.length_append, hc, Nat.add_sub_cancel, List.drop_left]
  apply List.take_of_length_le
  omega
theorem cut_init {A c : List Nat} {w : Nat} (hw : 1 ≤ w) (hc : c.length = w) : cut none (some (-(w : Int))) (A ++ c) = A := by
  unfold cut
  simp only [Option.elim, List.drop_zero, Nat.sub_zero]
  rw [clipAt_neg _ _ hw, List.length_append, hc, Nat.add_sub_cancel, List.take_left]
theorem read_step {A : List Nat} {w : Nat} {a : Nat × List Nat × Nat} {cd : D} {l : List D} {Q : SQ} (hw : 1 ≤ w) (hw5 : w ≤ 5) (ha : okCard w a) (hA : A.length ≤ 1000) (hl : l.length ≤ 1000)
    (hf : (clean a.2.1).length ≤ 100)
    (q : ∀ sz cd, Q .next (sRd A w sz cd) [("cards", l ++ [.str (clean a.2.1)])]) : bw18 (sRd (A ++ cardT a) w (.int w) cd) [("cards", l)] Q := by
  have hsz : 2000 ≤ sizeLine := by unfold sizeLine; omega
  have hcl : (cardT a).length = w := by unfold cardT; rw [card_len]; exact ha.1
  have hne : ((A ++ cardT a) == []) = false := by
    cases hh : A ++ cardT a with
    | nil =>
      have := congrArg List.length hh
      rw [List.length_append, hcl] at this
      simp at this; omega
    | cons => rfl
  have hll : (A ++ cardT a).length ≤ sizeLine := by rw [List.length_append, hcl]; omega
  refine And.intro (fun hh => absurd (hne.symm.trans hh) (by decide)) (fun _ => And.intro hll ?_)
  refine Eq.mp (α := stripC [.str (cut (some (-(w : Int))) none (A ++ cardT a)), .int w] fun d => seqW (exN Gr 14 5 K18) (gB18.drop 2) (sRd (A ++ cardT a) w (.int w) d) [("cards", l)] Q) (by kernel_rfl) ?_
  rw [cut_last hw hcl]
  refine ⟨a.1, a.2.2, a.2.1, rfl, by rw [ha.1], by rw [ha.1]; omega, ha.2, ?_⟩
  have fin : ∀ x : D, l ++ [x] = l ++ [.str (clean a.2.1)] → Q .next (sRd (cut none (some (-(w : Int))) (A ++ cardT a)) w (.int w) (.str a.2.1)) [("cards", l ++ [x])] := fun x e => by
    rw [cut_init hw hcl, e]; exact q _ _
  rcases ha.2 with e | ⟨c, e, hc⟩
  · rw [e] at fin hf ⊢
    refine And.intro (by omega) (And.intro (by show 0 ≤ 1000; decide) (And.intro (by show 0 ≤ 2000; decide) (Exists.intro [] (And.intro rfl (And.intro (by show 0 ≤ 1048576; decide) ?_)))))
    exact Eq.mp (α := (A ++ cardT a).length ≤ sizeLine ∧ Q .next (sRd (cut none (some (-(w : Int))) (A ++ cardT a)) w (.int w) (.str [])) [("cards", l ++ [.str []])]) (by kernel_rfl) ⟨hll, fin _ rfl⟩
  · rw [e] at fin hf ⊢
    refine And.intro (by omega) (And.intro (by show 1 ≤ 1000; decide) (And.intro (by show 1 ≤ 2000; decide) (And.intro (fun hh => ?_) (fun hh => ?_))))
    · have hb : b1 c = false := by
        have : (!b1 c) = true := hh
        simpa using this
      have hcl : clean [c] = foldN c := by
        show (if b1 (c : Int) = true then [] else foldN c) = _
        rw [hb]; rfl
      rw [hcl] at fin hf
      refine Exists.intro [foldN c] (And.intro rfl (And.intro (by show (foldN c).length + 0 + 1 ≤ 1048576; omega) ?_))
      refine Eq.mp (α := (A ++ cardT a).length ≤ sizeLine ∧ Q .next (sRd (cut none (some (-(w : Int))) (A ++ cardT a)) w (.int w) (.str [c])) [("cards", l ++ [.str (foldN c ++ [])])]) (by kernel_rfl) ⟨hll, fin _ ?_⟩
      rw [List.append_nil]
    · have hb : b1 c = true := by
        have : (!b1 c) = false := hh
        simpa using this
      have hcl : clean [c] = [] := by
        show (if b1 (c : Int) = true then [] else foldN c) = _
        rw [hb]; rfl
      rw [hcl] at fin hf
      refine Exists.intro [] (And.intro rfl (And.intro (by show 0 ≤ 1048576; decide) ?_))
      exact Eq.mp (α := (A ++ cardT a).length ≤ sizeLine ∧ Q .next (sRd (cut none (some (-(w : Int))) (A ++ cardT a)) w (.int w) (.str [c])) [("cards", l ++ [.str []])]) (by kernel_rfl) ⟨hll, fin _ rfl⟩
theorem read_stop {W : Int} {sz cd : D} {l : List D} {Q : SQ} (q : Q .brk (sRd [] W sz cd) [("cards", l)]) : bw18 (sRd [] W sz cd) [("cards", l)] Q := by
  refine And.intro (fun _ => ?_) (fun hh => nomatch hh)
  exact Eq.mp (α := Q .brk (sRd [] W sz cd) [("cards", l)]) (by kernel_rfl) q
theorem g18_tgt {l : List D} : targetOk [("cards", l)] gT18 = true := by kernel_rfl
theorem g18_step {line : List Nat} {W : Int} {sz cd : D} {l : List D} {k : Nat} {Q : SQ} (h : bw18 (sRd line W (.int W) cd) [("cards", l)] fun o σ2 ω2 => match o with
      | .next => forG K18 gT18 W bw18 k σ2 ω2 Q
      | .brk => Q .next σ2 ω2
      | .ret d => Q (.ret d) σ2 ω2) : forG K18 gT18 W bw18 (k + 1) (sRd line W sz cd) [("cards", l)] Q :=
  Eq.mp (α := bw18 (sRd line W (.int W) cd) [("cards", l)] fun o σ2 ω2 => match o with
      | .next => forG K18 gT18 W bw18 k σ2 ω2 Q
      | .brk => Q .next σ2 ω2
      | .ret d => Q (.ret d) σ2 ω2) (by kernel_rfl) h
theorem read_loop {w : Nat} {Q : SQ} (hw : 1 ≤ w) (hw5 : w ≤ 5) : ∀ (rs : List (Nat × List Nat × Nat)) (l : List D) (sz cd : D), (∀ a ∈ rs, okCard w a ∧ (clean a.2.1).length ≤ 100) → rs.length + l.length ≤ 100 →
    (∀ sz cd, Q .next (sRd [] w sz cd) [("cards", l ++ rs.map fun a => .str (clean a.2.1))]) → forG K18 gT18 w bw18 (rs.length + 1) (sRd (rs.reverse.map cardT).flatten w sz cd) [("cards", l)] Q
  | [], l, sz, cd, _, _, q => by
    refine g18_step (read_stop ?_)
    have := q (.int w) cd
    rw [List.map_nil, List.append_nil] at this
    exact this
  | a :: r, l, sz, cd, ha, hl, q => by
    simp only [List.length_cons] at hl
    have e : ((a :: r).reverse.map cardT).flatten = (r.reverse.map cardT).flatten ++ cardT a := by
      rw [List.reverse_cons, List.map_append, List.flatten_append]; simp
    rw [e]
    have hlen : ∀ (r : List (Nat × List Nat × Nat)), (∀ a ∈ r, okCard w a) → (r.map cardT).flatten.length ≤ 5 * r.length := by
      intro r
      induction r with
      | nil => intro _; exact Nat.le_refl _
      | cons b r ih =>
        intro h
        rw [List.map_cons, List.flatten_cons, List.length_append, List.length_cons]
        have h1 := ih fun x hx => h x (.tail _ hx)
        have h2 : (cardT b).length = w := by unfold cardT; rw [card_len]; exact (h b (.head _)).1
        omega
    have hA := hlen r.reverse fun x hx => (ha x (.tail _ (List.mem_reverse.mp hx))).1
    rw [List.length_reverse] at hA
    refine g18_step (read_step hw hw5 (ha a (.head _)).1 (by omega) (by omega) (ha a (.head _)).2 fun sz cd => ?_)
    refine read_loop hw hw5 r _ sz cd (fun x hx => ha x (.tail _ hx)) (by rw [List.length_append, List.length_singleton]; omega) fun sz cd => ?_
    have := q sz cd
    rw [List.map_cons, List.append_cons] at this
    exact this
noncomputable def readC : Con := fun ds Q => match ds with
  | [.str line, .int W] => ∃ (w : Nat) (ps : List (Nat × List Nat × Nat)), W = w ∧ 3 ≤ w ∧ w ≤ 5 ∧ ps.length ≤ 100 ∧ (∀ a ∈ ps, okCard w a ∧ (clean a.2.1).length ≤ 100) ∧ line = (ps.map cardT).flatten ∧ Q (strL (ps.map fun a => clean a.2.1))
  | _ => False
theorem read_run {w : Nat} {ps : List (Nat × List Nat × Nat)} {Q : D → Prop} (h3 : 3 ≤ w) (h5 : w ≤ 5) (hl : ps.length ≤ 100) (hp : ∀ a ∈ ps, okCard w a ∧ (clean a.2.1).length ≤ 100) (q : Q (strL (ps.map fun a => clean a.2.1))) :
    runF (evN Gr 14) (exG Gr 14 5) (fScope (stAt 18)).names ["cards"] (fBody (stAt 18)) (sto0 (fScope (stAt 18)).names ((["line", "width"] : List Str).zip [.str (ps.map cardT).flatten, .int w])) [] Q := by
  have hl' : ps.reverse.length ≤ 100 := by rw [List.length_reverse]; exact hl
  have main := read_loop (w := w) (Q := fun o σ1 ω1 => match o with
    | .next => runF (evN Gr 14) (exG Gr 14 5) (fScope (stAt 18)).names ["cards"] ((fBody (stAt 18)).drop 2) σ1 ω1 Q
    | .brk => False
    | .ret d => Q d) (by omega) h5 ps.reverse [] .undef .undef (fun a ha => hp a (List.mem_reverse.mp ha)) (by simpa using hl) (fun sz cd => by
      rw [List.nil_append]
      refine Eq.mp (α := (ps.reverse.map fun a => D.str (clean a.2.1)).length ≤ 1000 ∧ Q (.lst (ps.reverse.map fun a => D.str (clean a.2.1)).reverse)) (by kernel_rfl) ⟨by rw [List.length_map]; omega, ?_⟩
      rw [← List.map_reverse, List.reverse_reverse]
      unfold strL at q
      rw [List.map_map] at q
      exact q)
  rw [List.reverse_reverse] at main
  refine Eq.mp (α := 0 ≤ 1000 ∧ ∃ W : Int, 3 ≤ W ∧ W ≤ 5 ∧ (2 ≤ 1000 ∧ [D.lst [D.int w, D.int 0]] = [D.lst [D.int W, D.int 0]]) ∧ ∃ k, forG K18 gT18 W bw18 k (sRd (ps.map cardT).flatten w .undef .undef) [("cards", [])] (fun o σ1 ω1 => match o with
    | .next => runF (evN Gr 14) (exG Gr 14 5) (fScope (stAt 18)).names ["cards"] ((fBody (stAt 18)).drop 2) σ1 ω1 Q
    | .brk => False
    | .ret d => Q d)) (by kernel_rfl) ?_
  exact ⟨by decide, w, by omega, by omega, ⟨by decide, rfl⟩, _, main⟩
theorem read_at {r : Nat} {w : World} (h : Heap) (g : Gl w h) : ∃ fv, FnAt (r + 4 + 1) w "_law_read" readC h fv := by
  obtain ⟨fv, F⟩ := def_any (r := r + 4) (os := ["cards"]) (evN_ok (Gr_ok (r := r + 2)) 14) (exG_ok (m := 14) (n := 5) (Gr_ok (r := r + 2))) read_def h g
  refine ⟨fv, F.weak fun ds Q hq => ?_⟩
  unfold readC at hq
  split at hq
  · obtain ⟨n, ps, rfl, h3, h5, hl, hp, rfl, hq⟩ := hq
    exact ⟨rfl, read_run h3 h5 hl hp hq⟩
  · exact hq.elim
end
section
theorem law_def : DefOk (dN "law" 23) ["script"] where
  mem := List.mem_of_getElem? (i := 15) (by kernel_rfl)
  bind := fun pm code doc vals h => by
    obtain ⟨a, rfl⟩ := lenv1 h
    kernel_rfl
  kind := by kernel_rfl
  co := by kernel_rfl
  gen := by kernel_rfl
  nd := by decide
  pk := pk1 (.inl (by kernel_rfl))
noncomputable def Gw : Gt := ("_law_plan", planC) :: ("_law_read", readC) :: ("_law_line", lineC) :: ("_law_seated", seatedC) :: ("_law_due", dueC) :: Gb
theorem FnAt.ex_up {r : Nat} {w : World} {f : Str} {c : Con} {h : Heap} (x : ∃ fv, FnAt r w f c h fv) : ∃ fv, FnAt (r + 1) w f c h fv := let ⟨fv, F⟩ := x; ⟨fv, F.up⟩
theorem Gw_ok {r : Nat} {w : World} : GOk (r + 5) w Gw :=
  .cons (fun h g => FnAt.ex_up (FnAt.ex_up (plan_at (r := r) h g))) (.cons (fun h g => read_at (r := r) h g) (.cons (fun h g => FnAt.ex_up (FnAt.ex_up (FnAt.ex_up (line_at (r := r) h g))))
    (.cons (fun h g => FnAt.ex_up (FnAt.ex_up (seated_at (r := r) h g))) (.cons (fun h g => FnAt.ex_up (FnAt.ex_up (due_at (r := r) h g))) (GOk.up (GOk.up (GOk.up (GOk.up (Gb_ok (r := r))))))))))
noncomputable def K23 : List (Str × NameKind) := (fScope (stAt 23)).names
noncomputable def stm23 (i : Nat) : Stmt := stNo (fBody (stAt 23)) i
noncomputable def rhs (s : Stmt) : Option PySem.Expr := match s with
  | .Assign _ e _ => some e
  | _ => none
noncomputable def eDr : Option PySem.Expr := rhs (stm23 0)
noncomputable def eLt : Option PySem.Expr := rhs (stm23 3)
noncomputable def eKi : Option PySem.Expr := rhs (stm23 4)
noncomputable def eFs : Option PySem.Expr := match stm23 6 with
  | .Assign _ (.Call _ (.Call _ (e :: _) _ _ :: _) _ _) _ => some e
  | _ => none
noncomputable def eWr : Option PySem.Expr := rhs (stm23 7)
noncomputable def eSn : Option PySem.Expr := match stm23 9 with
  | .If (.BoolOp _ (.Compare _ _ (e :: _) _ :: _) _) _ _ _ => some e
  | _ => none
noncomputable def eOp : Option PySem.Expr := match stm23 10 with
  | .Return (some (.Compare _ _ (.Call _ (e :: _) _ _ :: _) _)) _ => some e
  | _ => none
structure SL where
  script : D
  drawn : D := .undef
  numbers : D := .undef
  head : D := .undef
  width : D := .undef
  letters : D := .undef
  kinds : D := .undef
  pairs : D := .undef
  plan : D := .undef
  written : D := .undef
  men : D := .undef
noncomputable def SL.sto (x : SL) : Sto := [("script", x.script), ("drawn", x.drawn), ("numbers", x.numbers), ("head", x.head), ("width", x.width), ("letters", x.letters), ("kinds", x.kinds), ("pairs", x.pairs), ("plan", x.plan), ("written", x.written), ("men", x.men)]
noncomputable def lawR (i : Nat) (x : SL) (Q : D → Prop) : Prop := rest Gw 23 i [] x.sto [] Q
noncomputable def Mz : Int := 1000000
/-! the numbers -/
theorem dr_loop : ∀ (l : List Int) {Q : List D → Prop}, Q ((l.map fun i => i.fmod Mz).map fun a => D.int a) → loopE Gw 14 K23 eDr [(".0", .undef), ("cell", .undef)] (l.map fun a => D.int a) Q
  | [], Q, q => q
  | i :: r, Q, q => by
    refine And.intro (by decide) (And.intro (by decide) (And.intro (by unfold small; decide) (And.intro (by decide) ?_)))
    exact Eq.mp (α := loopE Gw 14 K23 eDr [(".0", .undef), ("cell", .undef)] (r.map fun a => D.int a) fun rs => Q ([.int (i.fmod Mz)] ++ rs)) (by kernel_rfl) (dr_loop r q)
noncomputable def drawnF (l : List Int) : List Int := (l.take 6).map fun i => i.fmod Mz
noncomputable def dflt : List Int := [312, 102, 8665, 12372, 140, 7]
noncomputable def numsF (l : List Int) : List Int := drawnF l ++ dflt.drop (drawnF l).length
theorem drawn_len (l : List Int) : (drawnF l).length ≤ 6 := by unfold drawnF; rw [List.length_map, List.length_take]; omega
theorem nums_len (l : List Int) : (numsF l).length = 6 := by
  have := drawn_len l
  unfold numsF
  rw [List.length_append, List.length_drop]
  show _ + (6 - _) = 6
  omega
theorem nums_pos (l : List Int) : ∀ x ∈ numsF l, 0 ≤ x := by
  intro x hx
  rcases List.mem_append.mp hx with h | h
  · unfold drawnF at h
    obtain ⟨i, _, rfl⟩ := List.mem_map.mp h
    exact Int.fmod_nonneg_of_pos _ (by decide)
  · have := List.mem_of_mem_drop h
    have h6 : ∀ x ∈ dflt, 0 ≤ x := by decide
    exact h6 x this
theorem law_nums {l : List Int} (hl : l.length ≤ 100) {Q : D → Prop} (h : lawR 2 { script := intsD l, drawn := intsD (drawnF l), numbers := intsD (numsF l) } Q) : rn Gw 23 [] ["script"] [intsD l] Q := by
  have hsz : 1000 ≤ sizeLine := by unfold sizeLine; omega
  have hd := drawn_len l
  have e1 : cut none (some (6 : Int)) (l.map fun a => D.int a) = (l.take 6).map fun a => D.int a := by
    unfold cut
    simp only [Option.elim, List.drop_zero, Nat.sub_zero]
    rw [show (6 : Int) = ((6 : Nat) : Int) from rfl, clipAt_nat, ← List.map_take]
    congr 1
    rw [List.length_map]
    by_cases h6 : 6 ≤ l.length
    · rw [Nat.min_eq_left h6]
    · rw [Nat.min_eq_right (by omega), List.take_of_length_le (by omega), List.take_of_length_le (by omega)]
  refine Eq.mp (α := (l.map fun a => D.int a).length ≤ sizeLine ∧ (cut none (some (6 : Int)) (l.map fun a => D.int a)).length ≤ 1000 ∧ (cut none (some (6 : Int)) (l.map fun a => D.int a)).length ≤ 2000 ∧
    loopE Gw 14 K23 eDr [(".0", .undef), ("cell", .undef)] (cut none (some (6 : Int)) (l.map fun a => D.int a)) fun rs => lawR 1 { script := intsD l, drawn := .lst rs } Q) (by kernel_rfl) ?_
  rw [e1]
  refine ⟨by rw [List.length_map]; omega, by rw [List.length_map, List.length_take]; omega, by rw [List.length_map, List.length_take]; omega, dr_loop _ ?_⟩
  have e2 : cut (some ((drawnF l).length : Int)) none (dflt.map fun a => D.int a) = (dflt.drop (drawnF l).length).map fun a => D.int a := by
    rw [cut_from (by rw [List.length_map]; exact hd), List.map_drop]
  have e3 : (((drawnF l).map fun a => D.int a).length : Int) = ((drawnF l).length : Int) := by rw [List.length_map]
  refine Eq.mp (α := 6 ≤ 1000 ∧ ((drawnF l).map fun a => D.int a).length ≤ sizeLine ∧ 6 ≤ sizeLine ∧ ((drawnF l).map fun a => D.int a).length + (cut (some (((drawnF l).map fun a => D.int a).length : Int)) none (dflt.map fun a => D.int a)).length ≤ sizeLine ∧
    lawR 2 { script := intsD l, drawn := intsD (drawnF l), numbers := .lst (((drawnF l).map fun a => D.int a) ++ cut (some (((drawnF l).map fun a => D.int a).length : Int)) none (dflt.map fun a => D.int a)) } Q) (by kernel_rfl) ?_
  rw [e3, e2, ← List.map_append]
  exact ⟨by decide, by rw [List.length_map]; omega, by omega, by rw [List.length_map, List.length_map, List.length_drop]; show _ + (6 - _) ≤ _; omega, h⟩
end
section
section
variable {sc dr : D} {n0 n1 n2 n3 n4 n5 : Int}
abbrev nums (n0 n1 n2 n3 n4 n5 : Int) : D := intsD [n0, n1, n2, n3, n4, n5]
noncomputable def widthZ (n0 : Int) : Int := 3 + (n0.fdiv 312).fmod 3
theorem law_hw {Q : D → Prop} (h : lawR 3 { script := sc, drawn := dr, numbers := nums n0 n1 n2 n3 n4 n5, head := .int n0, width := .int (widthZ n0) } Q) : lawR 2 { script := sc, drawn := dr, numbers := nums n0 n1 n2 n3 n4 n5 } Q := by
  iterate 7 (refine And.intro (by decide) ?_)
  exact Eq.mp (α := lawR 3 { script := sc, drawn := dr, numbers := nums n0 n1 n2 n3 n4 n5, head := .int n0, width := .int (widthZ n0) } Q) (by kernel_rfl) h
/-! the letters -/
noncomputable def letN (h j : Int) : Nat := (97 + (h.fdiv 2 + (1 + (h.fdiv 52).fmod 6) * j).fmod 26).toNat
theorem lt_loop {h : Int} : ∀ (js : List Int) {Q : List D → Prop}, (∀ j ∈ js, 0 ≤ j ∧ j ≤ 100) → Q (js.map fun j => .str [letN h j]) → loopE Gw 14 K23 eLt [(".0", .undef), ("place", .undef), ("head", .int h)] (js.map fun a => D.int a) Q
  | [], Q, _, q => q
  | j :: r, Q, hj, q => by
    have hb := hj j (.head _)
    have h0 := Int.fmod_nonneg_of_pos (h.fdiv 52) (b := 6) (by decide)
    have h1 := Int.fmod_lt_of_pos (h.fdiv 52) (b := 6) (by decide)
    have h2 := Int.fmod_nonneg_of_pos (h.fdiv 2 + (1 + (h.fdiv 52).fmod 6) * j) (b := 26) (by decide)
    have h3 := Int.fmod_lt_of_pos (h.fdiv 2 + (1 + (h.fdiv 52).fmod 6) * j) (b := 26) (by decide)
    iterate 5 (refine And.intro (by decide) ?_)
    refine And.intro (by unfold small; omega) (And.intro (by unfold small; omega) (And.intro (by decide) (And.intro (by omega) (And.intro (by omega) ?_))))
    exact Eq.mp (α := loopE Gw 14 K23 eLt [(".0", .undef), ("place", .undef), ("head", .int h)] (r.map fun a => D.int a) fun rs => Q ([.str [letN h j]] ++ rs)) (by kernel_rfl) (lt_loop r (fun x hx => hj x (.tail _ hx)) q)
noncomputable def countZ (n0 : Int) : Int := 3 + n0.fmod 2
noncomputable def letF (n0 : Int) : List Nat := (rngL 0 (countZ n0)).map fun j => letN n0 j
theorem count_bd (n0 : Int) : 3 ≤ countZ n0 ∧ countZ n0 ≤ 4 := by
  have h0 := Int.fmod_nonneg_of_pos n0 (b := 2) (by decide)
  have h1 := Int.fmod_lt_of_pos n0 (b := 2) (by decide)
  unfold countZ; omega
theorem rngL_len (a b : Int) : (rngL a b).length = (b - a).toNat := by unfold rngL; simp
theorem letF_len (n0 : Int) : ((letF n0).length : Int) = countZ n0 := by
  have := count_bd n0
  unfold letF
  rw [List.length_map, rngL_len]
  omega
theorem law_let {W : D} {Q : D → Prop} (h : lawR 4 { script := sc, drawn := dr, numbers := nums n0 n1 n2 n3 n4 n5, head := .int n0, width := W, letters := lettersD (letF n0) } Q) :
    lawR 3 { script := sc, drawn := dr, numbers := nums n0 n1 n2 n3 n4 n5, head := .int n0, width := W } Q := by
  have hc := count_bd n0
  refine Eq.mp (α := (2 : Int) ≠ 0 ∧ (0 : Int).natAbs ≤ 1000 ∧ (countZ n0).natAbs ≤ 1000 ∧ ((List.range (countZ n0 - 0).toNat).map fun (k : Nat) => D.int (0 + k)).length ≤ 2000 ∧
    loopE Gw 14 K23 eLt [(".0", .undef), ("place", .undef), ("head", .int n0)] ((List.range (countZ n0 - 0).toNat).map fun (k : Nat) => D.int (0 + k)) fun rs => lawR 4 { script := sc, drawn := dr, numbers := nums n0 n1 n2 n3 n4 n5, head := .int n0, width := W, letters := .lst rs } Q) (by kernel_rfl) ?_
  refine ⟨by decide, by decide, by omega, by rw [List.length_map, List.length_range]; omega, ?_⟩
  rw [rng_map]
  refine lt_loop _ (fun j hj => by have := rngL_mem hj; omega) ?_
  have e : D.lst ((rngL 0 (countZ n0)).map fun j => D.str [letN n0 j]) = lettersD (letF n0) := by unfold lettersD letF; rw [List.map_map]; rfl
  rw [e]; exact h
/-! the kinds -/
noncomputable def kindZ (n1 j : Int) : Int := (n1.fdiv (3 ^ j.toNat)).fmod 3
theorem ki_loop : ∀ (js : List Int) {Q : List D → Prop}, (∀ j ∈ js, 0 ≤ j ∧ j < 8) → Q (js.map fun j => .int (kindZ n1 j)) → loopE Gw 14 K23 eKi [(".0", .undef), ("spot", .undef), ("numbers", nums n0 n1 n2 n3 n4 n5)] (js.map fun a => D.int a) Q
  | [], Q, _, q => q
  | j :: r, Q, hj, q => by
    have hb := hj j (.head _)
    have hp : ∀ k : Fin 8, (3 : Int) ^ k.1 ≠ 0 ∧ ((3 : Int) ^ k.1).natAbs < 1073741824 := by decide
    have hp := hp ⟨j.toNat, by omega⟩
    refine And.intro (by decide) (And.intro (by decide) (And.intro (by omega) (And.intro (by omega) (And.intro (by unfold small; decide) (And.intro hp.1 (And.intro hp.2 (And.intro (by decide) ?_)))))))
    exact Eq.mp (α := loopE Gw 14 K23 eKi [(".0", .undef), ("spot", .undef), ("numbers", nums n0 n1 n2 n3 n4 n5)] (r.map fun a => D.int a) fun rs => Q ([.int (kindZ n1 j)] ++ rs)) (by kernel_rfl) (ki_loop r (fun x hx => hj x (.tail _ hx)) q)
noncomputable def kindF (n0 n1 : Int) : List Int := (rngL 0 (2 * countZ n0)).map fun j => kindZ n1 j
theorem kindF_len (n0 n1 : Int) : ((kindF n0 n1).length : Int) = 2 * countZ n0 := by
  have := count_bd n0
  unfold kindF
  rw [List.length_map, rngL_len]
  omega
theorem law_kinds {W : D} {Q : D → Prop} (h : lawR 5 { script := sc, drawn := dr, numbers := nums n0 n1 n2 n3 n4 n5, head := .int n0, width := W, letters := lettersD (letF n0), kinds := intsD (kindF n0 n1) } Q) :
    lawR 4 { script := sc, drawn := dr, numbers := nums n0 n1 n2 n3 n4 n5, head := .int n0, width := W, letters := lettersD (letF n0) } Q := by
  have hc := count_bd n0
  have hl := letF_len n0
  have hsz : 1000 ≤ sizeLine := by unfold sizeLine; omega
  have hll : (((letF n0).map fun c => D.str [c]).length : Int) = countZ n0 := by rw [List.length_map]; exact hl
  refine Eq.mp (α := ((letF n0).map fun c => D.str [c]).length ≤ sizeLine ∧ small 2 ∧ small (((letF n0).map fun c => D.str [c]).length : Int) ∧ (0 : Int).natAbs ≤ 1000 ∧ (2 * (((letF n0).map fun c => D.str [c]).length : Int)).natAbs ≤ 1000 ∧
    ((List.range (2 * (((letF n0).map fun c => D.str [c]).length : Int) - 0).toNat).map fun (k : Nat) => D.int (0 + k)).length ≤ 2000 ∧
    loopE Gw 14 K23 eKi [(".0", .undef), ("spot", .undef), ("numbers", nums n0 n1 n2 n3 n4 n5)] ((List.range (2 * (((letF n0).map fun c => D.str [c]).length : Int) - 0).toNat).map fun (k : Nat) => D.int (0 + k)) fun rs =>
      lawR 5 { script := sc, drawn := dr, numbers := nums n0 n1 n2 n3 n4 n5, head := .int n0, width := W, letters := lettersD (letF n0), kinds := .lst rs } Q) (by kernel_rfl) ?_
  rw [hll]
  refine ⟨by omega, by unfold small; decide, by unfold small; omega, by decide, by omega, by rw [List.length_map, List.length_range]; omega, ?_⟩
  rw [rng_map]
  refine ki_loop _ (fun j hj => by have := rngL_mem hj; omega) ?_
  have e : D.lst ((rngL 0 (2 * countZ n0)).map fun j => D.int (kindZ n1 j)) = intsD (kindF n0 n1) := by unfold intsD kindF; rw [List.map_map]; rfl
  rw [e]; exact h
/-! the pairs -/
theorem letN_bd (h j : Int) : 97 ≤ letN h j ∧ letN h j ≤ 122 := by
  have h2 := Int.fmod_nonneg_of_pos (h.fdiv 2 + (1 + (h.fdiv 52).fmod 6) * j) (b := 26) (by decide)
  have h3 := Int.fmod_lt_of_pos (h.fdiv 2 + (1 + (h.fdiv 52).fmod 6) * j) (b := 26) (by decide)
  unfold letN; omega
theorem letF_bd (n0 : Int) : ∀ c ∈ letF n0, 97 ≤ c ∧ c ≤ 122 := by
  intro c hc
  unfold letF at hc
  obtain ⟨j, _, rfl⟩ := List.mem_map.mp hc
  exact letN_bd _ _
noncomputable def pairF (n0 n1 n2 n4 : Int) : List (List Nat × List Nat) := planL (kindF n0 n1) n2 n4 0 (letF n0)
theorem law_pairs {W : D} {Q : D → Prop} (h : lawR 6 { script := sc, drawn := dr, numbers := nums n0 n1 n2 n3 n4 n5, head := .int n0, width := W, letters := lettersD (letF n0), kinds := intsD (kindF n0 n1), pairs := .lst ((pairF n0 n1 n2 n4).map pairD) } Q) :
    lawR 5 { script := sc, drawn := dr, numbers := nums n0 n1 n2 n3 n4 n5, head := .int n0, width := W, letters := lettersD (letF n0), kinds := intsD (kindF n0 n1) } Q := by
  have hc := count_bd n0
  have hl := letF_len n0
  have hk := kindF_len n0 n1
  iterate 4 (refine And.intro (by decide) ?_)
  refine Exists.intro (letF n0) (Exists.intro (kindF n0 n1) (Exists.intro n2 (Exists.intro n4 (And.intro rfl (And.intro (by omega) (And.intro (by omega) (And.intro (by omega) (And.intro (letF_bd n0) ?_))))))))
  exact Eq.mp (α := lawR 6 { script := sc, drawn := dr, numbers := nums n0 n1 n2 n3 n4 n5, head := .int n0, width := W, letters := lettersD (letF n0), kinds := intsD (kindF n0 n1), pairs := .lst ((pairF n0 n1 n2 n4).map pairD) } Q) (by kernel_rfl) h
end
end
section
noncomputable def goodSign (x : List Nat) : Prop := x = [] ∨ ∃ c, x = [c] ∧ c ≠ 32
theorem goodSign.len {x : List Nat} (h : goodSign x) : x.length ≤ 1 := by
  rcases h with rfl | ⟨c, rfl, _⟩
  · exact Nat.zero_le _
  · exact Nat.le_refl _
noncomputable def cardsOf (w : Nat) : Int → List (List Nat) → List (Nat × List Nat × Nat)
  | _, [] => []
  | s, x :: r => (leadN w s, x, w - leadN w s - x.length) :: cardsOf w (s + 1) r
theorem cards_line {w : Nat} : ∀ (xs : List (List Nat)) (s : Int), lineF w s xs = ((cardsOf w s xs).map cardT).flatten
  | [], s => rfl
  | x :: r, s => by
    unfold lineF cardsOf
    rw [List.map_cons, List.flatten_cons, cards_line r (s + 1)]
    rfl
theorem cards_clean {w : Nat} : ∀ (xs : List (List Nat)) (s : Int), (cardsOf w s xs).map (fun a => clean a.2.1) = xs.map clean
  | [], s => rfl
  | x :: r, s => by
    unfold cardsOf
    rw [List.map_cons, List.map_cons, cards_clean r (s + 1)]
theorem cards_len {w : Nat} : ∀ (xs : List (List Nat)) (s : Int), (cardsOf w s xs).length = xs.length
  | [], s => rfl
  | x :: r, s => congrArg (· + 1) (cards_len r (s + 1))
theorem cards_ok {w : Nat} (hw : 0 < w) : ∀ (xs : List (List Nat)) (s : Int), (∀ x ∈ xs, goodSign x ∧ (clean x).length ≤ 100) → ∀ a ∈ cardsOf w s xs, okCard w a ∧ (clean a.2.1).length ≤ 100
  | [], s, _, a, ha => by simp [cardsOf] at ha
  | x :: r, s, hx, a, ha => by
    unfold cardsOf at ha
    rcases List.mem_cons.mp ha with rfl | ha
    · have h1 := hx x (.head _)
      have h2 := leadN_lt hw s
      have h3 := h1.1.len
      refine ⟨⟨?_, h1.1⟩, h1.2⟩
      show leadN w s + x.length + (w - leadN w s - x.length) = w
      omega
    · exact cards_ok hw r (s + 1) (fun y hy => hx y (.tail _ hy)) a ha
/-- a line of cards, written and read -/
theorem line_read {w : Nat} {st : Int} {xs : List (List Nat)} {W : Int} {Q : D → Prop} (hW : W = w) (h3 : 3 ≤ w) (h5 : w ≤ 5) (hl : xs.length ≤ 100) (hx : ∀ x ∈ xs, goodSign x ∧ (clean x).length ≤ 100) (q : Q (strL (xs.map clean))) :
    lineC [.lst (xs.map D.str), .int st, .int W] fun d => readC [d, .int W] Q := by
  refine ⟨xs, w, st, by rw [hW], by omega, h5, hl, fun y hy => (hx y hy).1.len, ?_⟩
  refine ⟨w, cardsOf w st xs, hW, h3, h5, by rw [cards_len]; exact hl, cards_ok (by omega) xs st hx, cards_line xs st, ?_⟩
  rw [cards_clean]
  exact q
section
variable {sc dr : D} {n0 n1 n2 n3 n4 n5 : Int}
theorem fs_loop : ∀ (ps : List (List Nat × List Nat)) {Q : List D → Prop}, Q (ps.map fun p => .str p.1) → loopE Gw 11 K23 eFs [(".0", .undef), ("pair", .undef)] (ps.map pairD) Q
  | [], Q, q => q
  | p :: r, Q, q => by
    refine And.intro (by decide) (And.intro (by decide) ?_)
    exact Eq.mp (α := loopE Gw 11 K23 eFs [(".0", .undef), ("pair", .undef)] (r.map pairD) fun rs => Q ([.str p.1] ++ rs)) (by kernel_rfl) (fs_loop r q)
theorem sn_loop : ∀ (ps : List (List Nat × List Nat)) {Q : List D → Prop}, Q (ps.map fun p => .str p.2) → loopE Gw 11 K23 eSn [(".0", .undef), ("pair", .undef)] (ps.map pairD) Q
  | [], Q, q => q
  | p :: r, Q, q => by
    refine And.intro (by decide) (And.intro (by decide) ?_)
    exact Eq.mp (α := loopE Gw 11 K23 eSn [(".0", .undef), ("pair", .undef)] (r.map pairD) fun rs => Q ([.str p.2] ++ rs)) (by kernel_rfl) (sn_loop r q)
theorem op_loop : ∀ (ks : List Int) {Q : List D → Prop}, Q (ks.map fun k => .bool (decide (k < 2))) → loopE Gw 11 K23 eOp [(".0", .undef), ("kind", .undef)] (ks.map fun a => D.int a) Q
  | [], Q, q => q
  | k :: r, Q, q => Eq.mp (α := loopE Gw 11 K23 eOp [(".0", .undef), ("kind", .undef)] (r.map fun a => D.int a) fun rs => Q ([.bool (decide (k < 2))] ++ rs)) (by kernel_rfl) (op_loop r q)
noncomputable def wrF (n3 : Int) : Nat → List Nat → List (List Nat)
  | _, [] => []
  | k, c :: r => [shownN c (formN n3 k)] :: wrF n3 (k + 1) r
theorem wr_loop : ∀ (cs : List Nat) (k : Nat) {Q : List D → Prop}, (∀ c ∈ cs, 97 ≤ c ∧ c ≤ 122) → k + cs.length ≤ 4 → Q ((wrF n3 k cs).map D.str) →
    loopE Gw 14 K23 eWr [(".0", .undef), ("place", .undef), ("letter", .undef), ("numbers", nums n0 n1 n2 n3 n4 n5)] (enumD k (cs.map fun c => D.str [c])) Q
  | [], k, Q, _, _, q => q
  | c :: r, k, Q, hc, hk, q => by
    simp only [List.length_cons] at hk
    have hz : 0 ≤ (n3.fdiv (12 ^ k)).fmod 12 := Int.fmod_nonneg_of_pos _ (by decide)
    have hlt : (n3.fdiv (12 ^ k)).fmod 12 < 12 := Int.fmod_lt_of_pos _ (by decide)
    have hpow : ∀ k : Fin 4, (12 : Int) ^ k.1 ≠ 0 ∧ ((12 : Int) ^ k.1).natAbs < 1073741824 := by decide
    have hpow := hpow ⟨k, by omega⟩
    have hb := hc c (.head _)
    refine And.intro (by decide) (And.intro (by decide) (And.intro (by omega) (And.intro (by omega) (And.intro (by unfold small; decide) (And.intro hpow.1 (And.intro hpow.2 (And.intro (by decide) (And.intro hb.1 (And.intro hb.2 (And.intro hz (And.intro hlt ?_)))))))))))
    exact Eq.mp (α := loopE Gw 14 K23 eWr [(".0", .undef), ("place", .undef), ("letter", .undef), ("numbers", nums n0 n1 n2 n3 n4 n5)] (enumD ((k : Int) + 1) (r.map fun c => D.str [c])) fun rs => Q ([.str [shownN c (formN n3 k)]] ++ rs)) (by kernel_rfl)
      (wr_loop r (k + 1) (fun x hx => hc x (.tail _ hx)) (by omega) q)
noncomputable def widthN (n0 : Int) : Nat := (widthZ n0).toNat
theorem width_bd (n0 : Int) : widthZ n0 = widthN n0 ∧ 3 ≤ widthN n0 ∧ widthN n0 ≤ 5 := by
  have h0 := Int.fmod_nonneg_of_pos (n0.fdiv 312) (b := 3) (by decide)
  have h1 := Int.fmod_lt_of_pos (n0.fdiv 312) (b := 3) (by decide)
  unfold widthN widthZ; omega
abbrev L6 (sc dr : D) (n0 n1 n2 n3 n4 n5 : Int) : SL := { script := sc, drawn := dr, numbers := nums n0 n1 n2 n3 n4 n5, head := .int n0, width := .int (widthZ n0), letters := lettersD (letF n0), kinds := intsD (kindF n0 n1), pairs := .lst ((pairF n0 n1 n2 n4).map pairD) }
theorem pairF_len (n0 n1 n2 n4 : Int) : ∀ (cs : List Nat) (ks : List Int) (k : Nat), (planL ks n2 n4 k cs).length = 4 * cs.length
  | [], ks, k => rfl
  | c :: r, ks, k => by
    unfold planL
    rw [List.length_append, pairF_len n0 n1 n2 n4 r ks (k + 1), List.length_cons]
    show 4 + _ = _
    omega
theorem pairs_le (n0 n1 n2 n4 : Int) : (pairF n0 n1 n2 n4).length ≤ 16 := by
  have := count_bd n0
  have := letF_len n0
  unfold pairF
  rw [pairF_len n0 n1 n2 n4]; omega
noncomputable def sndF (n0 n1 n2 n4 : Int) : List (List Nat) := (pairF n0 n1 n2 n4).map (·.2)
theorem law_plan (hP : ∀ p ∈ pairF n0 n1 n2 n4, goodSign p.1 ∧ clean p.1 = p.2 ∧ p.2.length ≤ 2) {Q : D → Prop} (h : lawR 7 { L6 sc dr n0 n1 n2 n3 n4 n5 with plan := strL (sndF n0 n1 n2 n4) } Q) : lawR 6 (L6 sc dr n0 n1 n2 n3 n4 n5) Q := by
  have hw := width_bd n0
  have hl := pairs_le n0 n1 n2 n4
  refine Eq.mp (α := ((pairF n0 n1 n2 n4).map pairD).length ≤ 1000 ∧ ((pairF n0 n1 n2 n4).map pairD).length ≤ 2000 ∧ loopE Gw 11 K23 eFs [(".0", .undef), ("pair", .undef)] ((pairF n0 n1 n2 n4).map pairD) fun rs =>
    -2 ^ 63 ≤ (5 : Int) ∧ (5 : Int) < 2 ^ 63 ∧ lineC [.lst rs, .int n5, .int (widthZ n0)] fun d => readC [d, .int (widthZ n0)] fun d => lawR 7 { L6 sc dr n0 n1 n2 n3 n4 n5 with plan := d } Q) (by kernel_rfl) ?_
  refine ⟨by rw [List.length_map]; omega, by rw [List.length_map]; omega, fs_loop _ ⟨by decide, by decide, ?_⟩⟩
  have e : ((pairF n0 n1 n2 n4).map fun p => D.str p.1) = ((pairF n0 n1 n2 n4).map (·.1)).map D.str := by rw [List.map_map]; rfl
  rw [e]
  refine line_read hw.1 hw.2.1 hw.2.2 (by rw [List.length_map]; omega) (fun x hx => ?_) ?_
  · obtain ⟨p, hp, rfl⟩ := List.mem_map.mp hx
    have := hP p hp
    exact ⟨this.1, by rw [this.2.1]; omega⟩
  · have e2 : ((pairF n0 n1 n2 n4).map (·.1)).map clean = sndF n0 n1 n2 n4 := by
      unfold sndF
      rw [List.map_map]
      exact List.map_congr_left fun p hp => (hP p hp).2.1
    rw [e2]; exact h
abbrev L7 (sc dr : D) (n0 n1 n2 n3 n4 n5 : Int) : SL := { L6 sc dr n0 n1 n2 n3 n4 n5 with plan := strL (sndF n0 n1 n2 n4) }
theorem wrF_len : ∀ (cs : List Nat) (k : Nat), (wrF n3 k cs).length = cs.length
  | [], k => rfl
  | c :: r, k => congrArg (· + 1) (wrF_len r (k + 1))
noncomputable def menF (n0 : Int) : List (List Nat) := (letF n0).map fun c => [c]
theorem law_men (hM : ∀ x ∈ wrF n3 0 (letF n0), goodSign x ∧ (clean x).length ≤ 100) (hM2 : (wrF n3 0 (letF n0)).map clean = menF n0) {Q : D → Prop}
    (h : lawR 9 { L7 sc dr n0 n1 n2 n3 n4 n5 with written := strL (wrF n3 0 (letF n0)), men := strL (menF n0) } Q) : lawR 7 (L7 sc dr n0 n1 n2 n3 n4 n5) Q := by
  have hw := width_bd n0
  have hc := count_bd n0
  have hl := letF_len n0
  refine Eq.mp (α := ((letF n0).map fun c => D.str [c]).length ≤ 1000 ∧ (enumD 0 ((letF n0).map fun c => D.str [c])).length ≤ 2000 ∧ loopE Gw 14 K23 eWr [(".0", .undef), ("place", .undef), ("letter", .undef), ("numbers", nums n0 n1 n2 n3 n4 n5)] (enumD 0 ((letF n0).map fun c => D.str [c])) fun rs =>
    lawR 8 { L7 sc dr n0 n1 n2 n3 n4 n5 with written := .lst rs } Q) (by kernel_rfl) ?_
  refine ⟨by rw [List.length_map]; omega, by rw [enum_len, List.length_map]; omega, wr_loop _ 0 (letF_bd n0) (by omega) ?_⟩
  refine Eq.mp (α := -2 ^ 63 ≤ (5 : Int) ∧ (5 : Int) < 2 ^ 63 ∧ lineC [.lst ((wrF n3 0 (letF n0)).map D.str), .int n5, .int (widthZ n0)] fun d => readC [d, .int (widthZ n0)] fun d => lawR 9 { L7 sc dr n0 n1 n2 n3 n4 n5 with written := strL (wrF n3 0 (letF n0)), men := d } Q) (by kernel_rfl) ?_
  refine ⟨by decide, by decide, line_read hw.1 hw.2.1 hw.2.2 (by rw [wrF_len]; omega) hM ?_⟩
  rw [hM2]; exact h
abbrev L9 (sc dr : D) (n0 n1 n2 n3 n4 n5 : Int) : SL := { L7 sc dr n0 n1 n2 n3 n4 n5 with written := strL (wrF n3 0 (letF n0)), men := strL (menF n0) }
theorem strs_all (l : List (List Nat)) : (l.map D.str).all D.isStr = true := by
  rw [List.all_eq_true]
  intro x hx
  obtain ⟨y, _, rfl⟩ := List.mem_map.mp hx
  rfl
theorem ints_all (l : List Int) : (l.map fun a => D.int a).all D.isInt = true := by
  rw [List.all_eq_true]
  intro x hx
  obtain ⟨y, _, rfl⟩ := List.mem_map.mp hx
  rfl
theorem ne_self {l : List (List Nat)} (hl : l.length ≤ 64) {Q : D → Prop} (q : Q (.bool false)) : cmpW .NotEq (strL l) (strL l) Q := by
  refine ⟨by rw [List.length_map]; exact hl, by rw [List.length_map]; exact hl, .inr ⟨strs_all l, strs_all l⟩, fun c hc => ?_⟩
  have : c = true := hc.mpr rfl
  subst this
  exact q
theorem eq_self {l m : List Int} (e : l = m) (hl : l.length ≤ 64) {Q : D → Prop} (q : Q (.bool true)) : cmpW .Eq (intsD l) (intsD m) Q := by
  subst e
  refine ⟨by rw [List.length_map]; exact hl, by rw [List.length_map]; exact hl, .inl ⟨ints_all l, ints_all l⟩, fun c hc => ?_⟩
  have : c = true := hc.mpr rfl
  subst this
  exact q
theorem law_if {Q : D → Prop} (h : lawR 10 (L9 sc dr n0 n1 n2 n3 n4 n5) Q) : lawR 9 (L9 sc dr n0 n1 n2 n3 n4 n5) Q := by
  have hl := pairs_le n0 n1 n2 n4
  have hc := count_bd n0
  have hn := letF_len n0
  refine Eq.mp (α := ((pairF n0 n1 n2 n4).map pairD).length ≤ 1000 ∧ ((pairF n0 n1 n2 n4).map pairD).length ≤ 2000 ∧ loopE Gw 11 K23 eSn [(".0", .undef), ("pair", .undef)] ((pairF n0 n1 n2 n4).map pairD) fun rs =>
    cmpW .NotEq (strL (sndF n0 n1 n2 n4)) (.lst rs) fun d => match d with
      | .bool c => (c = true → (true = true → Q (.bool false)) ∧ (true = false → lawR 10 (L9 sc dr n0 n1 n2 n3 n4 n5) Q)) ∧ (c = false → cmpW .NotEq (strL (menF n0)) (lettersD (letF n0)) fun d => match d with
        | .bool c => (c = true → Q (.bool false)) ∧ (c = false → lawR 10 (L9 sc dr n0 n1 n2 n3 n4 n5) Q)
        | _ => False)
      | _ => False) (by kernel_rfl) ?_
  refine ⟨by rw [List.length_map]; omega, by rw [List.length_map]; omega, sn_loop _ ?_⟩
  have e : D.lst ((pairF n0 n1 n2 n4).map fun p => D.str p.2) = strL (sndF n0 n1 n2 n4) := by unfold strL sndF; rw [List.map_map]; rfl
  have e2 : lettersD (letF n0) = strL (menF n0) := by unfold strL menF lettersD; rw [List.map_map]; rfl
  rw [e, e2]
  refine ne_self ?_ ?_
  · unfold sndF; rw [List.length_map]; omega
  · refine And.intro (fun hh => nomatch hh) (fun _ => ?_)
    refine ne_self ?_ ?_
    · unfold menF; rw [List.length_map]; omega
    · exact And.intro (fun hh => nomatch hh) (fun _ => h)
noncomputable def openF (n0 n1 : Int) : List Bool := (kindF n0 n1).map fun k => decide (k < 2)
theorem tally_len {pl : List (List Nat)} {ls : List Nat} : ∀ (os : List (List (List Nat))) (tl : List Int), (tallyF pl ls os tl).length = tl.length
  | [], tl => rfl
  | o :: r, tl => by
    have := tally_len (pl := pl) (ls := ls) r (bump tl (cntF pl ls o))
    rw [bump_len] at this
    exact this
theorem law_end (hP : ∀ p ∈ pairF n0 n1 n2 n4, p.2.length ≤ 2) (hS : seatedF (sndF n0 n1 n2 n4) (menF n0) (letF n0) = dueF (letF n0).length (openF n0 n1)) {Q : D → Prop} (q : Q (.bool true)) : lawR 10 (L9 sc dr n0 n1 n2 n3 n4 n5) Q := by
  have hc := count_bd n0
  have hn := letF_len n0
  have hk := kindF_len n0 n1
  refine Eq.mp (α := seatedC [strL (sndF n0 n1 n2 n4), strL (menF n0), lettersD (letF n0)] fun a => ((kindF n0 n1).map fun a => D.int a).length ≤ 1000 ∧ ((kindF n0 n1).map fun a => D.int a).length ≤ 2000 ∧
    loopE Gw 11 K23 eOp [(".0", .undef), ("kind", .undef)] ((kindF n0 n1).map fun a => D.int a) fun rs => dueC [.lst rs] fun b => cmpW .Eq a b Q) (by kernel_rfl) ?_
  refine ⟨sndF n0 n1 n2 n4, menF n0, letF n0, rfl, rfl, rfl, by unfold menF; rw [List.length_map], by omega, by omega, ?_, fun j => ?_, fun c hc => by have := letF_bd n0 c hc; omega, fun x hx => ?_, ?_⟩
  · unfold sndF pairF
    rw [List.length_map, pairF_len n0 n1 n2 n4]
    omega
  · rw [List.getD_eq_getElem?_getD]
    cases hj : (sndF n0 n1 n2 n4)[j]? with
    | none => simp
    | some x =>
      have := List.mem_of_getElem? hj
      unfold sndF at this
      obtain ⟨p, hp, rfl⟩ := List.mem_map.mp this
      exact hP p hp
  · unfold menF at hx
    obtain ⟨c, _, rfl⟩ := List.mem_map.mp hx
    show 1 ≤ 2
    decide
  · refine ⟨by rw [List.length_map]; omega, by rw [List.length_map]; omega, op_loop _ ?_⟩
    refine ⟨openF n0 n1, (letF n0).length, by unfold openF; rw [List.map_map]; rfl, by unfold openF; rw [List.length_map]; omega, by omega, ?_⟩
    refine eq_self hS ?_ q
    unfold seatedF
    rw [tally_len, List.length_replicate]
    unfold menF
    rw [List.length_map]; omega
end
end
section
noncomputable def goodPair (p : List Nat × List Nat) : Prop := goodSign p.1 ∧ clean p.1 = p.2 ∧ p.2.length ≤ 2
noncomputable def tstL : Bool := (List.range 26).all fun i => (List.range 12).all fun f => !(shownN (97 + i) f == 32) && !(b1 (shownN (97 + i) f)) && (foldN (shownN (97 + i) f) == [97 + i])
theorem tstL_ok : tstL = true := by decide +kernel
theorem shown_fold {c f : Nat} (hc : 97 ≤ c ∧ c ≤ 122) (hf : f < 12) : shownN c f ≠ 32 ∧ b1 (shownN c f) = false ∧ foldN (shownN c f) = [c] := by
  have h := tstL_ok
  unfold tstL at h
  have h1 := List.all_eq_true.mp h (c - 97) (List.mem_range.mpr (by omega))
  have h2 := List.all_eq_true.mp h1 f (List.mem_range.mpr hf)
  have e : 97 + (c - 97) = c := by omega
  simp only [e, Bool.and_eq_true, Bool.not_eq_true', beq_iff_eq] at h2
  exact ⟨by simpa using h2.1.1, h2.1.2, h2.2⟩
theorem shown_good {c f : Nat} (hc : 97 ≤ c ∧ c ≤ 122) (hf : f < 12) : goodPair ([shownN c f], [c]) := by
  obtain ⟨h1, h2, h3⟩ := shown_fold hc hf
  refine ⟨.inr ⟨_, rfl, h1⟩, ?_, by show 1 ≤ 2; decide⟩
  show (if b1 (shownN c f : Int) = true then [] else foldN (shownN c f)) = [c]
  rw [h2, h3]; rfl
theorem hidden_ok : ∀ j : Fin 27, hiddenN j.1 ≠ 32 ∧ b1 (hiddenN j.1) = true := by decide +kernel
theorem fold_890 : b1 890 = false ∧ foldN 890 = [32, 953] := by decide +kernel
/-! the Chinese signs -/
noncomputable def farS (l : List (Nat × Nat × Nat)) : Bool := l.all fun r => decide (r.2.1 < 19968) || decide (40869 < r.1)
theorem shifted_far {c : Nat} (h1 : 19968 ≤ c) (h2 : c ≤ 40869) : ∀ {l : List (Nat × Nat × Nat)}, farS l = true → Unicode.shifted l c = none
  | [], _ => rfl
  | (a, b, t) :: r, h => by
    unfold farS at h
    rw [List.all_cons, Bool.and_eq_true] at h
    unfold Unicode.shifted
    by_cases hc : c < a
    · rw [if_pos hc]
    · rw [if_neg hc, if_neg]
      · exact shifted_far h1 h2 h.2
      · have := h.1
        simp only [Bool.or_eq_true, decide_eq_true_eq] at this
        omega
theorem lookup_far {β : Type} {c : Nat} (h1 : 19968 ≤ c) (h2 : c ≤ 40869) : ∀ {l : List (Nat × β)}, (l.all fun r => decide (r.1 < 19968) || decide (40869 < r.1)) = true → l.lookup c = none
  | [], _ => rfl
  | (a, b) :: r, h => by
    rw [List.all_cons, Bool.and_eq_true] at h
    have := h.1
    simp only [Bool.or_eq_true, decide_eq_true_eq] at this
    have hc : (c == a) = false := by
      rw [beq_eq_false_iff_ne]; omega
    rw [List.lookup_cons, hc]
    exact lookup_far h1 h2 h.2
theorem lookupI_far {β : Type} {c : Int} (h1 : 19968 ≤ c) (h2 : c ≤ 40869) : ∀ {l : List (Int × β)}, (l.all fun r => decide (r.1 < 19968) || decide (40869 < r.1)) = true → l.lookup c = none
  | [], _ => rfl
  | (a, b) :: r, h => by
    rw [List.all_cons, Bool.and_eq_true] at h
    have := h.1
    simp only [Bool.or_eq_true, decide_eq_true_eq] at this
    have hc : (c == a) = false := by
      rw [beq_eq_false_iff_ne]; omega
    rw [List.lookup_cons, hc]
    exact lookupI_far h1 h2 h.2
theorem lower_tables : farS UnicodeData.oneLower = true ∧ (UnicodeData.severalLower.all fun r => decide (r.1 < 19968) || decide (40869 < r.1)) = true := by decide +kernel
theorem b3_table : (b3L.all fun r => decide (r.1 < 19968) || decide (40869 < r.1)) = true := by decide +kernel
theorem lower_cjk {c : Nat} (h1 : 19968 ≤ c) (h2 : c ≤ 40869) : (Txt.lower ⟨#[c]⟩).cps.toList = [c] := by
  have e : Unicode.lowerOf c = [c] := by
    unfold Unicode.lowerOf Unicode.image
    rw [lookup_far h1 h2 lower_tables.2, shifted_far h1 h2 lower_tables.1]
    rfl
  have e2 : Unicode.lowerAt #[c] 0 = [c] := by
    show (if (c == 0x3A3 && Unicode.endsWord #[c] 0) = true then [0x3C2] else Unicode.lowerOf c) = [c]
    have : (c == 0x3A3) = false := by rw [beq_eq_false_iff_ne]; omega
    rw [this, e]; rfl
  unfold Txt.lower placed
  simp [e2]
theorem cjk_fold {c : Nat} (h1 : 19968 ≤ c) (h2 : c ≤ 40869) : b1 c = false ∧ foldN c = [c] := by
  constructor
  · cases hb : b1 c with
    | false => rfl
    | true =>
      unfold b1 at hb
      rw [List.contains_iff_mem] at hb
      have hf : ∀ x ∈ [(173 : Int), 847, 6150, 6155, 6156, 6157, 8203, 8204, 8205, 8288, 65279, 65024, 65025, 65026, 65027, 65028, 65029, 65030, 65031, 65032, 65033, 65034, 65035, 65036, 65037, 65038, 65039], x < 19968 ∨ 40869 < x := by decide
      have := hf _ hb
      omega
  · unfold foldN b3Get
    rw [lookupI_far (by omega) (by omega) b3_table]
    exact lower_cjk h1 h2
theorem chinese_bd (s p : Int) : 19968 ≤ chinese s p ∧ chinese s p ≤ 40869 := by
  have h0 := Int.fmod_nonneg_of_pos (s.fdiv 135 + 977 * p) (b := 20902) (by decide)
  have h1 := Int.fmod_lt_of_pos (s.fdiv 135 + 977 * p) (b := 20902) (by decide)
  unfold chinese; omega
theorem gap_good (k s p : Int) : goodPair (gapD k s p) := by
  unfold gapD
  split
  · exact ⟨.inl rfl, rfl, Nat.zero_le _⟩
  · split
    · have h0 := Int.fmod_nonneg_of_pos (s + p) (b := 27) (by decide)
      have h1 := Int.fmod_lt_of_pos (s + p) (b := 27) (by decide)
      obtain ⟨a, b⟩ := hidden_ok ⟨((s + p).fmod 27).toNat, by omega⟩
      refine ⟨.inr ⟨_, rfl, a⟩, ?_, Nat.zero_le _⟩
      show (if b1 (hiddenN ((s + p).fmod 27).toNat : Int) = true then [] else _) = []
      rw [b]; rfl
    · split
      · refine ⟨.inr ⟨890, rfl, by decide⟩, ?_, by decide⟩
        show (if b1 ((890 : Nat) : Int) = true then [] else foldN 890) = [32, 953]
        have : b1 ((890 : Nat) : Int) = false := fold_890.1
        rw [this, fold_890.2]; rfl
      · have hb := chinese_bd s p
        have hc := cjk_fold hb.1 hb.2
        refine ⟨.inr ⟨_, rfl, by omega⟩, ?_, by show 1 ≤ 2; decide⟩
        show (if b1 (chinese s p : Int) = true then [] else foldN (chinese s p)) = [chinese s p]
        rw [hc.1, hc.2]; rfl
theorem formN_lt (fo : Int) (k : Nat) : formN fo k < 12 := by
  have h0 := Int.fmod_nonneg_of_pos (fo.fdiv (12 ^ k)) (b := 12) (by decide)
  have h1 := Int.fmod_lt_of_pos (fo.fdiv (12 ^ k)) (b := 12) (by decide)
  unfold formN; omega
theorem plan_good {ks : List Int} {fo st : Int} : ∀ (cs : List Nat) (k : Nat), (∀ c ∈ cs, 97 ≤ c ∧ c ≤ 122) → ∀ p ∈ planL ks fo st k cs, goodPair p
  | [], k, _, p, hp => by simp [planL] at hp
  | c :: r, k, hc, p, hp => by
    unfold planL at hp
    rcases List.mem_append.mp hp with hp | hp
    · unfold four at hp
      simp only [List.mem_cons, List.not_mem_nil, or_false] at hp
      rcases hp with rfl | rfl | rfl | rfl
      · exact shown_good (hc c (.head _)) (formN_lt fo k)
      · exact gap_good _ _ _
      · exact ⟨.inl rfl, rfl, Nat.zero_le _⟩
      · exact gap_good _ _ _
    · exact plan_good r (k + 1) (fun x hx => hc x (.tail _ hx)) p hp
theorem wr_good {n3 : Int} : ∀ (cs : List Nat) (k : Nat), (∀ c ∈ cs, 97 ≤ c ∧ c ≤ 122) → (∀ x ∈ wrF n3 k cs, goodSign x ∧ (clean x).length ≤ 100) ∧ (wrF n3 k cs).map clean = cs.map fun c => [c]
  | [], k, _ => ⟨fun x hx => by simp [wrF] at hx, rfl⟩
  | c :: r, k, hc => by
    obtain ⟨ih1, ih2⟩ := wr_good (n3 := n3) r (k + 1) fun x hx => hc x (.tail _ hx)
    obtain ⟨g1, g2, g3⟩ := shown_good (hc c (.head _)) (formN_lt n3 k)
    have g2 : clean [shownN c (formN n3 k)] = [c] := g2
    refine ⟨fun x hx => ?_, ?_⟩
    · rcases List.mem_cons.mp hx with rfl | hx
      · exact ⟨g1, by rw [g2]; show 1 ≤ 100; decide⟩
      · exact ih1 x hx
    · unfold wrF
      rw [List.map_cons, List.map_cons, g2, ih2]
end
section
/-! the ring, by places -/
noncomputable def hdX : List (Nat × Bool) → Nat → Nat
  | [], e => e
  | (a, _) :: _, _ => a
noncomputable def adjX (k : Nat) : List (Nat × Bool) → Nat → Bool
  | [], _ => false
  | (a, g) :: r, e => (g && a == k && hdX r e == k) || adjX k r e
noncomputable def ringI : Nat → List Nat → List Bool → List (Nat × Bool)
  | k, i :: r, p :: q :: os => (k, p) :: (i, q) :: ringI (k + 1) r os
  | _, _, _ => []
noncomputable def cntA (n : Nat) (os : List Bool) (ids : List Nat) : Nat := ((List.range n).filter fun k => adjX k (ringI 0 ids os) 0).length
noncomputable def menI (n : Nat) : List (List Nat) := (List.range n).map fun i => [i]
noncomputable def ordI (n : Nat) : List (List (List Nat)) := permsF (menI n) [[]]
noncomputable def idsOf (o : List (List Nat)) : List Nat := o.map fun x => x.headD 0
noncomputable def tallyA (n : Nat) (os : List Bool) : List Int := (ordI n).foldl (fun tl o => bump tl (cntA n os (idsOf o))) (List.replicate (n + 1) 0)
noncomputable def allB : Nat → List (List Bool)
  | 0 => [[]]
  | n + 1 => (allB n).map (true :: ·) ++ (allB n).map (false :: ·)
theorem allB_mem : ∀ bs : List Bool, bs ∈ allB bs.length
  | [] => by simp [allB]
  | true :: r => by
    simp only [List.length_cons, allB, List.mem_append, List.mem_map]
    exact .inl ⟨r, allB_mem r, rfl⟩
  | false :: r => by
    simp only [List.length_cons, allB, List.mem_append, List.mem_map]
    exact .inr ⟨r, allB_mem r, rfl⟩
theorem touchard3 : ((allB 6).all fun bs => tallyA 3 bs == dueF 3 bs) = true := by decide +kernel
theorem touchard4 : ((allB 8).all fun bs => tallyA 4 bs == dueF 4 bs) = true := by decide +kernel
end
section
/-! orders, by places -/
theorem insAt_map (f : List Nat → List Nat) (m : List Nat) (o : List (List Nat)) (s : Nat) : insAt (f m) (o.map f) s = (insAt m o s).map f := by
  unfold insAt; simp
theorem insO_map (f : List Nat → List Nat) (m : List Nat) (o : List (List Nat)) : insO (f m) (o.map f) = (insO m o).map (List.map f) := by
  unfold insO
  rw [List.length_map, List.map_map]
  exact List.map_congr_left fun s _ => insAt_map f m o s
theorem insAll_map (f : List Nat → List Nat) (m : List Nat) : ∀ os : List (List (List Nat)), insAll (f m) (os.map (List.map f)) = (insAll m os).map (List.map f)
  | [] => rfl
  | o :: r => by
    have ih := insAll_map f m r
    unfold insAll at ih ⊢
    rw [List.map_cons, List.flatMap_cons, List.flatMap_cons, List.map_append, ih, insO_map]
theorem perms_map (f : List Nat → List Nat) : ∀ (men : List (List Nat)) (os : List (List (List Nat))), permsF (men.map f) (os.map (List.map f)) = (permsF men os).map (List.map f)
  | [], os => rfl
  | m :: r, os => by
    show permsF (r.map f) (insAll (f m) (os.map (List.map f))) = (permsF r (insAll m os)).map (List.map f)
    rw [insAll_map]
    exact perms_map f r _
theorem tally_map {pl : List (List Nat)} {ls : List Nat} (f : List Nat → List Nat) (c : List (List Nat) → Nat) : ∀ (os : List (List (List Nat))) (tl : List Int), (∀ o ∈ os, cntF pl ls (o.map f) = c o) → tallyF pl ls (os.map (List.map f)) tl = os.foldl (fun tl o => bump tl (c o)) tl
  | [], tl, _ => rfl
  | o :: r, tl, h => by
    have h1 := h o (.head _)
    show tallyF pl ls (r.map (List.map f)) (bump tl (cntF pl ls (o.map f))) = r.foldl (fun tl o => bump tl (c o)) (bump tl (c o))
    rw [h1]
    exact tally_map f c r _ fun p hp => h p (.tail _ hp)
/-! a text of letters and gaps -/
noncomputable def T : List (Nat × List Nat) → Nat → List Nat
  | [], e => [e]
  | (a, g) :: r, e => a :: (g ++ T r e)
noncomputable def hdP : List (Nat × List Nat) → Nat → Nat
  | [], e => e
  | (a, _) :: _, _ => a
noncomputable def adjP (c : Nat) : List (Nat × List Nat) → Nat → Bool
  | [], _ => false
  | (a, g) :: r, e => (g.isEmpty && a == c && hdP r e == c) || adjP c r e
theorem adj_skip1 {c x : Nat} (h : x ≠ c) (l : List Nat) : adj c (x :: l) = adj c l := by
  have hx : (x == c) = false := by simpa using h
  cases l with
  | nil => rfl
  | cons b r =>
    unfold adj
    rw [hx]
    cases r <;> simp [adj]
theorem adj_skip {c : Nat} : ∀ (g l : List Nat), (∀ x ∈ g, x ≠ c) → adj c (g ++ l) = adj c l
  | [], l, _ => rfl
  | x :: g, l, h => by
    rw [List.cons_append, adj_skip1 (h x (.head _))]
    exact adj_skip g l fun y hy => h y (.tail _ hy)
theorem T_hd (l : List (Nat × List Nat)) (e : Nat) : ∃ r, T l e = hdP l e :: r := by
  cases l with
  | nil => exact ⟨[], rfl⟩
  | cons p r => exact ⟨p.2 ++ T r e, rfl⟩
theorem adj_T {c : Nat} : ∀ (l : List (Nat × List Nat)) (e : Nat), (∀ p ∈ l, ∀ x ∈ p.2, x ≠ c) → adj c (T l e) = adjP c l e
  | [], e, _ => rfl
  | (a, g) :: r, e, h => by
    have ih := adj_T r e fun p hp => h p (.tail _ hp)
    have hg := h (a, g) (.head _)
    obtain ⟨t, ht⟩ := T_hd r e
    unfold T adjP
    cases g with
    | nil =>
      rw [List.nil_append, ht]
      rw [ht] at ih
      unfold adj
      rw [ih]
      simp
    | cons x g =>
      have hx : (x == c) = false := by simpa using hg x (.head _)
      rw [List.cons_append]
      have e1 : adj c (a :: x :: (g ++ T r e)) = ((a == c && x == c) || adj c (x :: (g ++ T r e))) := rfl
      rw [e1, ← List.cons_append, adj_skip _ _ hg, ih, hx]
      simp
theorem adj_ids {l : Nat → Nat} {n k : Nat} (hk : k < n) (inj : ∀ i j, i < n → j < n → (l i == l j) = (i == j)) : ∀ (L : List (Nat × List Nat)) (e : Nat), (∀ p ∈ L, p.1 < n) → e < n →
    adjP (l k) (L.map fun p => (l p.1, p.2)) (l e) = adjX k (L.map fun p => (p.1, p.2.isEmpty)) e
  | [], e, _, _ => rfl
  | (a, g) :: r, e, h, he => by
    have ih := adj_ids hk inj r e (fun p hp => h p (.tail _ hp)) he
    have ha := h (a, g) (.head _)
    have hh : (hdP (r.map fun p => (l p.1, p.2)) (l e) == l k) = (hdX (r.map fun p => (p.1, p.2.isEmpty)) e == k) := by
      cases r with
      | nil => exact inj _ _ he hk
      | cons p r => exact inj _ _ (h p (.tail _ (.head _))) hk
    rw [List.map_cons, List.map_cons]
    unfold adjP adjX
    rw [ih, hh, inj a k ha hk]
theorem cnt_link {l : Nat → Nat} {n : Nat} {pl o : List (List Nat)} {L : List (Nat × List Nat)} (inj : ∀ i j, i < n → j < n → (l i == l j) = (i == j)) (h0 : 0 < n)
    (ht : ringF pl o ++ pl.getD 0 [] = T (L.map fun p => (l p.1, p.2)) (l 0)) (hL : ∀ p ∈ L, p.1 < n) (hg : ∀ k, k < n → ∀ p ∈ L, ∀ x ∈ p.2, x ≠ l k) :
    cntF pl ((List.range n).map l) o = ((List.range n).filter fun k => adjX k (L.map fun p => (p.1, p.2.isEmpty)) 0).length := by
  unfold cntF ansF
  rw [ht, List.map_map, List.filter_map, List.length_map]
  congr 1
  refine List.filter_congr fun k hk => ?_
  have hk := List.mem_range.mp hk
  show adj (l k) (T (L.map fun p => (l p.1, p.2)) (l 0)) = _
  rw [adj_T _ _ (fun p hp x hx => by
    obtain ⟨q, hq, rfl⟩ := List.mem_map.mp hp
    exact hg k hk q hq x hx)]
  exact adj_ids hk inj L 0 hL h0
theorem one_of {n : Nat} {x : List Nat} (h : (x.length == 1 && x.all (· < n)) = true) : ∃ a, x = [a] ∧ a < n := by
  rw [Bool.and_eq_true, beq_iff_eq] at h
  rcases x with _ | ⟨a, _ | ⟨b, x⟩⟩
  · cases h.1
  · exact ⟨a, rfl, by simpa using h.2⟩
  · cases h.1
theorem ord3 : ∀ o ∈ ordI 3, ∃ a b c, o = [[a], [b], [c]] ∧ a < 3 ∧ b < 3 ∧ c < 3 := by
  have h : ((ordI 3).all fun o => o.length == 3 && o.all fun x => x.length == 1 && x.all (· < 3)) = true := by decide +kernel
  intro o ho
  have h1 := List.all_eq_true.mp h o ho
  rw [Bool.and_eq_true, beq_iff_eq] at h1
  have h2 := List.all_eq_true.mp h1.2
  rcases o with _ | ⟨x, _ | ⟨y, _ | ⟨z, _ | ⟨u, o⟩⟩⟩⟩
  · cases h1.1
  · cases h1.1
  · cases h1.1
  · obtain ⟨a, rfl, ha⟩ := one_of (h2 x (by simp))
    obtain ⟨b, rfl, hb⟩ := one_of (h2 y (by simp))
    obtain ⟨c, rfl, hc⟩ := one_of (h2 z (by simp))
    exact ⟨a, b, c, rfl, ha, hb, hc⟩
  · cases h1.1
theorem ord4 : ∀ o ∈ ordI 4, ∃ a b c d, o = [[a], [b], [c], [d]] ∧ a < 4 ∧ b < 4 ∧ c < 4 ∧ d < 4 := by
  have h : ((ordI 4).all fun o => o.length == 4 && o.all fun x => x.length == 1 && x.all (· < 4)) = true := by decide +kernel
  intro o ho
  have h1 := List.all_eq_true.mp h o ho
  rw [Bool.and_eq_true, beq_iff_eq] at h1
  have h2 := List.all_eq_true.mp h1.2
  rcases o with _ | ⟨x, _ | ⟨y, _ | ⟨z, _ | ⟨u, _ | ⟨v, o⟩⟩⟩⟩⟩
  · cases h1.1
  · cases h1.1
  · cases h1.1
  · cases h1.1
  · obtain ⟨a, rfl, ha⟩ := one_of (h2 x (by simp))
    obtain ⟨b, rfl, hb⟩ := one_of (h2 y (by simp))
    obtain ⟨c, rfl, hc⟩ := one_of (h2 z (by simp))
    obtain ⟨d, rfl, hd⟩ := one_of (h2 u (by simp))
    exact ⟨a, b, c, d, rfl, ha, hb, hc, hd⟩
  · cases h1.1
theorem seat3 {l : Nat → Nat} {g0 g1 g2 g3 g4 g5 : List Nat} (inj : ∀ i j, i < 3 → j < 3 → (l i == l j) = (i == j)) (hg : ∀ k, k < 3 → ∀ g ∈ [g0, g1, g2, g3, g4, g5], ∀ x ∈ g, x ≠ l k) :
    seatedF [[l 0], g0, [], g1, [l 1], g2, [], g3, [l 2], g4, [], g5] (((List.range 3).map l).map fun c => [c]) ((List.range 3).map l) = tallyA 3 [g0.isEmpty, g1.isEmpty, g2.isEmpty, g3.isEmpty, g4.isEmpty, g5.isEmpty] := by
  have e1 : (((List.range 3).map l).map fun c => [c]) = (menI 3).map (List.map l) := by unfold menI; rw [List.map_map, List.map_map]; rfl
  unfold seatedF
  rw [e1]
  have e2 : permsF ((menI 3).map (List.map l)) [[]] = (ordI 3).map (List.map (List.map l)) := perms_map (List.map l) (menI 3) [[]]
  rw [e2, tally_map (List.map l) (fun o => cntA 3 [g0.isEmpty, g1.isEmpty, g2.isEmpty, g3.isEmpty, g4.isEmpty, g5.isEmpty] (idsOf o))]
  · rfl
  · intro o ho
    obtain ⟨a, b, c, rfl, ha, hb, hc⟩ := ord3 o ho
    rw [cnt_link (l := l) (n := 3) (L := [(0, g0), (a, g1), (1, g2), (b, g3), (2, g4), (c, g5)]) inj (by decide) (by simp [ringF, ringP, ringX, T])]
    · rfl
    · intro p hp
      simp only [List.mem_cons, List.not_mem_nil, or_false] at hp
      rcases hp with rfl | rfl | rfl | rfl | rfl | rfl <;> (dsimp only; omega)
    · intro k hk p hp x hx
      simp only [List.mem_cons, List.not_mem_nil, or_false] at hp
      refine hg k hk p.2 ?_ x hx
      rcases hp with rfl | rfl | rfl | rfl | rfl | rfl <;> simp
theorem seat4 {l : Nat → Nat} {g0 g1 g2 g3 g4 g5 g6 g7 : List Nat} (inj : ∀ i j, i < 4 → j < 4 → (l i == l j) = (i == j)) (hg : ∀ k, k < 4 → ∀ g ∈ [g0, g1, g2, g3, g4, g5, g6, g7], ∀ x ∈ g, x ≠ l k) :
    seatedF [[l 0], g0, [], g1, [l 1], g2, [], g3, [l 2], g4, [], g5, [l 3], g6, [], g7] (((List.range 4).map l).map fun c => [c]) ((List.range 4).map l) = tallyA 4 [g0.isEmpty, g1.isEmpty, g2.isEmpty, g3.isEmpty, g4.isEmpty, g5.isEmpty, g6.isEmpty, g7.isEmpty] := by
  have e1 : (((List.range 4).map l).map fun c => [c]) = (menI 4).map (List.map l) := by unfold menI; rw [List.map_map, List.map_map]; rfl
  unfold seatedF
  rw [e1]
  have e2 : permsF ((menI 4).map (List.map l)) [[]] = (ordI 4).map (List.map (List.map l)) := perms_map (List.map l) (menI 4) [[]]
  rw [e2, tally_map (List.map l) (fun o => cntA 4 [g0.isEmpty, g1.isEmpty, g2.isEmpty, g3.isEmpty, g4.isEmpty, g5.isEmpty, g6.isEmpty, g7.isEmpty] (idsOf o))]
  · rfl
  · intro o ho
    obtain ⟨a, b, c, d, rfl, ha, hb, hc, hd⟩ := ord4 o ho
    rw [cnt_link (l := l) (n := 4) (L := [(0, g0), (a, g1), (1, g2), (b, g3), (2, g4), (c, g5), (3, g6), (d, g7)]) inj (by decide) (by simp [ringF, ringP, ringX, T])]
    · rfl
    · intro p hp
      simp only [List.mem_cons, List.not_mem_nil, or_false] at hp
      rcases hp with rfl | rfl | rfl | rfl | rfl | rfl | rfl | rfl <;> (dsimp only; omega)
    · intro k hk p hp x hx
      simp only [List.mem_cons, List.not_mem_nil, or_false] at hp
      refine hg k hk p.2 ?_ x hx
      rcases hp with rfl | rfl | rfl | rfl | rfl | rfl | rfl | rfl <;> simp
end
section
theorem letN_lt (h : Int) {i k : Nat} (hk : k = 1 ∨ k = 2 ∨ k = 3) : letN h i ≠ letN h ((i + k : Nat) : Int) := by
  have h0 := Int.fmod_nonneg_of_pos (h.fdiv 52) (b := 6) (by decide)
  have h1 := Int.fmod_lt_of_pos (h.fdiv 52) (b := 6) (by decide)
  unfold letN
  rw [Int.fmod_eq_emod_of_nonneg _ (by decide : (0 : Int) ≤ 26), Int.fmod_eq_emod_of_nonneg _ (by decide : (0 : Int) ≤ 26), Int.natCast_add, Int.mul_add]
  generalize (h.fdiv 52).fmod 6 = b at h0 h1
  generalize h.fdiv 2 = a
  generalize (1 + b) * (i : Int) = p
  have hd : 1 ≤ (1 + b) * (k : Int) ∧ (1 + b) * (k : Int) ≤ 18 := by
    rcases hk with rfl | rfl | rfl <;> (constructor <;> omega)
  clear h0 h1 hk
  generalize (1 + b) * (k : Int) = d at hd
  intro e
  omega
theorem letN_inj (h : Int) {i j : Nat} (hi : i < 4) (hj : j < 4) (hij : i ≠ j) : letN h i ≠ letN h j := by
  rcases Nat.lt_or_ge i j with hl | hl
  · obtain ⟨k, rfl⟩ : ∃ k, j = i + k := ⟨j - i, by omega⟩
    exact letN_lt h (by omega)
  · obtain ⟨k, rfl⟩ : ∃ k, i = j + k := ⟨i - j, by omega⟩
    exact fun e => letN_lt h (i := j) (k := k) (by omega) e.symm
theorem letN_eq (h : Int) {n : Nat} (hn : n ≤ 4) (i j : Nat) (hi : i < n) (hj : j < n) : ((fun i : Nat => letN h i) i == (fun i : Nat => letN h i) j) = (i == j) := by
  by_cases e : i = j
  · subst e; simp
  · have h1 : (letN h i == letN h j) = false := by
      rw [beq_eq_false_iff_ne]; exact letN_inj h (by omega) (by omega) e
    have h2 : (i == j) = false := by rw [beq_eq_false_iff_ne]; exact e
    show (letN h i == letN h j) = _
    rw [h1, h2]
theorem kindZ_bd (n1 j : Int) : 0 ≤ kindZ n1 j ∧ kindZ n1 j ≤ 2 := by
  have h0 := Int.fmod_nonneg_of_pos (n1.fdiv (3 ^ j.toNat)) (b := 3) (by decide)
  have h1 := Int.fmod_lt_of_pos (n1.fdiv (3 ^ j.toNat)) (b := 3) (by decide)
  unfold kindZ; omega
theorem gap_open {k s p : Int} (h0 : 0 ≤ k) (h2 : k ≤ 2) : (gapD k s p).2.isEmpty = decide (k < 2) := by
  have : k = 0 ∨ k = 1 ∨ k = 2 := by omega
  rcases this with rfl | rfl | rfl
  · rfl
  · rfl
  · unfold gapD
    rw [if_neg (by decide), if_neg (by decide)]
    split <;> rfl
theorem gap_chars {k s p : Int} {x : Nat} (hx : x ∈ (gapD k s p).2) : x = 32 ∨ x = 953 ∨ 19968 ≤ x := by
  unfold gapD at hx
  split at hx
  · simp at hx
  · split at hx
    · simp at hx
    · split at hx
      · simp at hx; omega
      · simp at hx
        have := (chinese_bd s p).1
        omega
noncomputable def gapJ (n1 n4 j : Int) : List Nat := (gapD (kindZ n1 j) n4 j).2
theorem gapJ_let {n0 n1 n4 j : Int} {k : Nat} {x : Nat} (hx : x ∈ gapJ n1 n4 j) : x ≠ letN n0 k := by
  have h1 := gap_chars hx
  have h2 := letN_bd n0 k
  omega
theorem gapJ_open (n1 n4 j : Int) : (gapJ n1 n4 j).isEmpty = decide (kindZ n1 j < 2) := gap_open (kindZ_bd n1 j).1 (kindZ_bd n1 j).2
theorem touch3 (bs : List Bool) (h : bs.length = 6) : tallyA 3 bs = dueF 3 bs := by
  have := List.all_eq_true.mp touchard3 bs (h ▸ allB_mem bs)
  simpa using this
theorem touch4 (bs : List Bool) (h : bs.length = 8) : tallyA 4 bs = dueF 4 bs := by
  have := List.all_eq_true.mp touchard4 bs (h ▸ allB_mem bs)
  simpa using this
theorem law_true (n0 n1 n2 n4 : Int) : seatedF (sndF n0 n1 n2 n4) (menF n0) (letF n0) = dueF (letF n0).length (openF n0 n1) := by
  have hc := count_bd n0
  have h34 : countZ n0 = 3 ∨ countZ n0 = 4 := by omega
  rcases h34 with h | h
  · have hl : letF n0 = (List.range 3).map fun i : Nat => letN n0 i := by unfold letF; rw [h]; rfl
    have hk : kindF n0 n1 = [kindZ n1 0, kindZ n1 1, kindZ n1 2, kindZ n1 3, kindZ n1 4, kindZ n1 5] := by unfold kindF; rw [h]; rfl
    have hs : sndF n0 n1 n2 n4 = [[letN n0 (0 : Nat)], gapJ n1 n4 0, [], gapJ n1 n4 1, [letN n0 (1 : Nat)], gapJ n1 n4 2, [], gapJ n1 n4 3, [letN n0 (2 : Nat)], gapJ n1 n4 4, [], gapJ n1 n4 5] := by
      unfold sndF pairF; rw [hl, hk]; rfl
    have ho : openF n0 n1 = [(gapJ n1 n4 0).isEmpty, (gapJ n1 n4 1).isEmpty, (gapJ n1 n4 2).isEmpty, (gapJ n1 n4 3).isEmpty, (gapJ n1 n4 4).isEmpty, (gapJ n1 n4 5).isEmpty] := by
      unfold openF; rw [hk]
      simp only [gapJ_open]; rfl
    unfold menF
    rw [hs, hl, ho]
    refine (seat3 (l := fun i : Nat => letN n0 i) (letN_eq n0 (by decide)) ?_).trans (touch3 _ rfl)
    intro k hk g hg x hx
    simp only [List.mem_cons, List.not_mem_nil, or_false] at hg
    rcases hg with rfl | rfl | rfl | rfl | rfl | rfl <;> exact gapJ_let hx
  · have hl : letF n0 = (List.range 4).map fun i : Nat => letN n0 i := by unfold letF; rw [h]; rfl
    have hk : kindF n0 n1 = [kindZ n1 0, kindZ n1 1, kindZ n1 2, kindZ n1 3, kindZ n1 4, kindZ n1 5, kindZ n1 6, kindZ n1 7] := by unfold kindF; rw [h]; rfl
    have hs : sndF n0 n1 n2 n4 = [[letN n0 (0 : Nat)], gapJ n1 n4 0, [], gapJ n1 n4 1, [letN n0 (1 : Nat)], gapJ n1 n4 2, [], gapJ n1 n4 3, [letN n0 (2 : Nat)], gapJ n1 n4 4, [], gapJ n1 n4 5, [letN n0 (3 : Nat)], gapJ n1 n4 6, [], gapJ n1 n4 7] := by
      unfold sndF pairF; rw [hl, hk]; rfl
    have ho : openF n0 n1 = [(gapJ n1 n4 0).isEmpty, (gapJ n1 n4 1).isEmpty, (gapJ n1 n4 2).isEmpty, (gapJ n1 n4 3).isEmpty, (gapJ n1 n4 4).isEmpty, (gapJ n1 n4 5).isEmpty, (gapJ n1 n4 6).isEmpty, (gapJ n1 n4 7).isEmpty] := by
      unfold openF; rw [hk]
      simp only [gapJ_open]; rfl
    unfold menF
    rw [hs, hl, ho]
    refine (seat4 (l := fun i : Nat => letN n0 i) (letN_eq n0 (by decide)) ?_).trans (touch4 _ rfl)
    intro k hk g hg x hx
    simp only [List.mem_cons, List.not_mem_nil, or_false] at hg
    rcases hg with rfl | rfl | rfl | rfl | rfl | rfl | rfl | rfl <;> exact gapJ_let hx
theorem len_6 {l : List Int} (h : l.length = 6) : ∃ a b c d e f, l = [a, b, c, d, e, f] := by
  match l, h with
  | [a, b, c, d, e, f], _ => exact ⟨a, b, c, d, e, f, rfl⟩
theorem law_run {l : List Int} (hl : l.length ≤ 100) {Q : D → Prop} (q : Q (.bool true)) : rn Gw 23 [] ["script"] [intsD l] Q := by
  refine law_nums hl ?_
  obtain ⟨n0, n1, n2, n3, n4, n5, e⟩ := len_6 (nums_len l)
  rw [e]
  have hP : ∀ p ∈ pairF n0 n1 n2 n4, goodPair p := plan_good _ _ (letF_bd n0)
  have hM := wr_good (n3 := n3) (letF n0) 0 (letF_bd n0)
  exact law_hw (law_let (law_kinds (law_pairs (law_plan hP (law_men hM.1 hM.2 (law_if (law_end (fun p hp => (hP p hp).2.2) (law_true n0 n1 n2 n4) q)))))))
noncomputable def lawC : Con := fun ds Q => match ds with
  | [.lst l] => ∃ il : List Int, l = il.map (fun a => D.int a) ∧ il.length ≤ 100 ∧ Q (.bool true)
  | _ => False
end
section
theorem law_core {r : Nat} {w : World} (h : Heap) (g : Gl w h) : ∃ fv, (∀ m, h.Ns mainGlobals m → m ("law" : Str) = some fv) ∧ FnAt (r + 5 + 1) w "law" lawC h fv := by
  obtain ⟨fv, hm, F⟩ := def_core (r := r + 5) (os := []) (evN_ok (Gw_ok (r := r)) 14) (exN_ok (Gw_ok (r := r)) 14 6) law_def h g
  refine ⟨fv, hm, F.weak fun ds Q hq => ?_⟩
  unfold lawC at hq
  split at hq
  · obtain ⟨il, rfl, hl, hq⟩ := hq
    exact ⟨rfl, law_run hl hq⟩
  · exact hq.elim
end
section
theorem ints_of : ∀ {xs : List WData}, WShape.hasItems [] xs .int = true → ∃ il : List Int, xs = il.map WData.int
  | [], _ => ⟨[], rfl⟩
  | x :: r, h => by
    unfold WShape.hasItems at h
    rw [Bool.and_eq_true] at h
    obtain ⟨il, hil⟩ := ints_of h.2
    cases x with
    | int i => exact ⟨i :: il, by rw [hil]; rfl⟩
    | _ => exact Bool.noConfusion (show false = true from h.1)
theorem pre_args {args : List WData} (h : rw'.row.toRowW.claim.pre args = true) : ∃ il : List Int, args = [.list (il.map WData.int)] ∧ il.length ≤ 63 := by
  have h : (WShape.hasAll [] args [.list .int] && WTm.holds [] (.and (.not (.lt (.lit (.int 63)) (.len (.arg 0)))) (.lit (.bool true))) { args := args }) = true := h
  rw [Bool.and_eq_true] at h
  obtain ⟨h1, h2⟩ := h
  cases args with
  | nil => exact Bool.noConfusion (show false = true from h1)
  | cons d r =>
    cases r with
    | cons d2 r => exact Bool.noConfusion (Bool.and_eq_true_iff.mp (show (WShape.has [] d (.list .int) && false) = true from h1)).2
    | nil =>
      cases d with
      | list xs =>
        have h3 : WShape.hasItems [] xs .int = true := by
          have h1 : ((WShape.hasItems [] xs .int || false) && true) = true := h1
          simpa using h1
        obtain ⟨il, rfl⟩ := ints_of h3
        refine ⟨il, rfl, ?_⟩
        by_cases hl : il.length ≤ 63
        · exact hl
        · exfalso
          have e : WTm.holds [] (.and (.not (.lt (.lit (.int 63)) (.len (.arg 0)))) (.lit (.bool true))) { args := [.list (il.map WData.int)] } = !decide ((63 : Int) < ((il.map WData.int).length : Int)) := by
            show (match (match (match some (WData.bool (decide ((63 : Int) < ((il.map WData.int).length : Int)))) with
              | some (.bool b) => some (WData.bool (!b))
              | _ => none) with
              | some (.bool false) => some (WData.bool false)
              | some (.bool true) => some (WData.bool true)
              | _ => none) with
              | some (.bool true) => true
              | _ => false) = _
            cases decide ((63 : Int) < ((il.map WData.int).length : Int)) <;> rfl
          rw [e, List.length_map] at h2
          have hd : decide ((63 : Int) < (il.length : Int)) = true := decide_eq_true (by omega)
          rw [hd] at h2
          cases h2
      | _ => exact Bool.noConfusion (show false = true from h1)
theorem reads_ints {R : WRecords} {cl : Str → Option Addr} {h : Heap} : ∀ {vs : List Value} {il : List Int} {as : List Addr}, ReadsAllW R cl h vs (il.map WData.int) as → Reps [] h vs (il.map fun a => D.int a)
  | _, [], _, r => by
    cases r
    exact .nil
  | _, i :: il, _, r => by
    cases r with
    | cons r1 rs =>
      cases r1
      exact .cons (.int _ _) (reads_ints rs)
theorem walk : WalkGoal := by
  intro w s0 s1 mg mb G hy a o pm cd doc dV kV ho hdat hcd hdf hmg hgens args vals as hpre hlay hrd hwell hsys
  obtain ⟨il, rfl, hlen⟩ := pre_args hpre
  have g : Gl w s1.heap := ⟨mg, mb, _, G.T, hy⟩
  obtain ⟨fv, hfv, F⟩ := law_core (r := 0) s1.heap g
  have e : fv = .ref a := by
    have := hfv mg G.T.g
    have h2 : mg ("law" : Str) = some (.ref a) := hmg
    rw [h2] at this
    injection this with this
    exact this.symm
  subst e
  have hreps : ∃ v, vals = [v] ∧ Rep [] s1.heap v (.lst (il.map fun a => D.int a)) := by
    cases hrd with
    | cons r1 rs =>
      cases rs
      cases r1 with
      | list h1 h2 h3 h4 =>
        rename_i la o' xs n as'
        have hr := reads_ints h4
        exact ⟨_, rfl, .lst (by simp) ⟨_, h1, h2, _, by rw [h3]⟩ hr⟩
  obtain ⟨v, rfl, hrep⟩ := hreps
  let X : Cx := ⟨w, callerA, callEnvC (docDef dLaw.name dLaw.params dLaw.body dLaw.scope pm cd doc) 0 0, [], s1.heap⟩
  have hroom : Room (0 + 5 + 1) X.A := by
    refine ⟨?_, ?_⟩
    · show 1 + claimMargin + 6 < recursionLimit
      decide +kernel
    · show 4 + 64 + 8 * 6 < cLine
      decide +kernel
  have am : Am X s1.heap := ⟨g, by show 4 + 64 < cLine; decide +kernel, fun a ha => by cases ha⟩
  have run := F.run (X := X) (s := s1) (vs := [v]) (ds := [.lst (il.map fun a => D.int a)]) (Q := fun d => d = .bool true) rfl hroom am rfl Kp.refl (.cons hrep .nil) ⟨il, rfl, by omega, rfl⟩
  refine wpAny_mono run ?_ fun _ _ f => f.elim
  rintro v' s' ⟨d, rd, rfl, h', tk, gn, rfl, hk, hgu⟩
  cases rd with
  | bool b =>
    refine ⟨.inl ⟨_, .bool true, [], rfl, fun cls => rfl, .bool true, by kernel_rfl, fun _ => ⟨List.nodup_nil, fun a ha => by cases ha⟩⟩, OldK.of_keep hk, rfl, hgu.2 (.of_eq hgens)⟩
theorem holds : PySem.Challenge.rw_ti0043_01.Holds := head walk
end
end Mine
end
set_option maxRecDepth 100000 in
theorem PySem.Challenge.cw_ti0043_01_holds : PySem.Challenge.rw_ti0043_01.Holds :=
  Mine.holds
