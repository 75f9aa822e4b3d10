import PyProof.Rows.All
import Wide.All
import OpenK.AllK
import Wide.FinOn
import PySem.Challenge.RW_nq0320_01
set_option Elab.async false
section PartTop1
open PySem PySem.W PyProof.Rows
set_option Elab.async false
set_option maxRecDepth 100000
set_option maxHeartbeats 8000000
set_option linter.unusedVariables false
namespace Mine
/-- the n-th of a text's statements -/
def stAt : Nat → List Stmt → Stmt
  | 0, a :: _ => a
  | n + 1, _ :: r => stAt n r
  | _, [] => .Pass ⟨0, 0, 0, 0⟩
def topAt (n : Nat) : Stmt := stAt n PySem.Challenge.pw_nq0320_01.main.body
def metAt (n k : Nat) : Stmt := match topAt n with
  | .ClassDef _ _ _ b _ _ _ _ _ _ _ => stAt k b
  | s => s
/-- a def's function, its parts read off the statement by unification -/
noncomputable abbrev fnO {st : Stmt} {name : Str} {params : Arguments} {body : List Stmt} {decs : List PySem.Expr} {ret : Option PySem.Expr} {tps : List TypeParam} {scope : Scope} {tsc : Option Scope} {bd : Str} {pos : Pos}
    (h : st = Stmt.FunctionDef name params body decs ret tps scope tsc bd pos) (qual : Str) (dflt pm code : Value) : Obj :=
  Obj.mk (Value.type "function") Option.none (Data.func (FuncData.mk name qual params (FuncBody.stmts body) scope 3 [] dflt Value.none Value.none pm Option.none code Value.none 0)) #[]
noncomputable abbrev viewO {a0 a1 a2 a3 a4 a5 a6 a7 a8 a9 a10 a11 a12 a13 a14 : Stmt} (h : PySem.Challenge.rw_nq0320_01.row.toRowW.1.main.body = [a0, a1, a2, a3, a4, a5, a6, a7, a8, a9, a10, a11, a12, a13, a14]) : Program :=
  { PySem.Challenge.rw_nq0320_01.row.toRowW.1 with main := { PySem.Challenge.rw_nq0320_01.row.toRowW.1.main with body := [a0, a1, a3, a4, a5, a6, a7, a9, a11, a12, a13, a14] } }
/-- the text as the walk sees it: without the three lines that set __name__ -/
noncomputable def hd.view_39 : Program := viewO rfl
/-- the objects that stand when the top has run, as far as the law reaches them -/
noncomputable def hd.heap_39 : Params → Frag := fun P => ((
  ((nat_lit 2), (Obj.mk Value.none Option.none (Data.dict #[] 0) #[])) ::
  ((nat_lit 3), (Obj.mk (Value.type "dict") Option.none (Data.dict #[(DictEntry.mk (PyData.keyHash P (Str.ofString "__name__")) (Value.str (Str.ofString "__name__") 165) (Value.str (Str.ofString "law_nq0320_01") 294)), (DictEntry.mk (PyData.keyHash P (Str.ofString "__doc__")) (Value.str (Str.ofString "__doc__") 166) Value.none), (DictEntry.mk (PyData.keyHash P (Str.ofString "__package__")) (Value.str (Str.ofString "__package__") 167) Value.none), (DictEntry.mk (PyData.keyHash P (Str.ofString "__loader__")) (Value.str (Str.ofString "__loader__") 168) (Value.builtin "__main__.__loader__#opaque")), (DictEntry.mk (PyData.keyHash P (Str.ofString "__spec__")) (Value.str (Str.ofString "__spec__") 169) Value.none), (DictEntry.mk (PyData.keyHash P (Str.ofString "__annotations__")) (Value.str (Str.ofString "__annotations__") 170) (Value.ref 6)), (DictEntry.mk (PyData.keyHash P (Str.ofString "__builtins__")) (Value.str (Str.ofString "__builtins__") 171) (Value.ref 4)), (DictEntry.mk (PyData.keyHash P (Str.ofString "__file__")) (Value.str (Str.ofString "__file__") 173) (Value.str (Str.ofString "/claim/cut.py") 172)), (DictEntry.mk (PyData.keyHash P (Str.ofString "__cached__")) (Value.str (Str.ofString "__cached__") 174) Value.none), (DictEntry.mk (PyData.keyHash P (Str.ofString "_wall")) (Value.str (Str.ofString "_wall") 193) (Value.ref 21)), (DictEntry.mk (PyData.keyHash P (Str.ofString "sep")) (Value.str (Str.ofString "sep") 195) (Value.str (Str.ofString "/") 194)), (DictEntry.mk (PyData.keyHash P (Str.ofString "_kind")) (Value.str (Str.ofString "_kind") 206) (Value.ref 28)), (DictEntry.mk (PyData.keyHash P (Str.ofString "_c_path")) (Value.str (Str.ofString "_c_path") 219) (Value.ref 35)), (DictEntry.mk (PyData.keyHash P (Str.ofString "_splitroot")) (Value.str (Str.ofString "_splitroot") 228) (Value.ref 42)), (DictEntry.mk (PyData.keyHash P (Str.ofString "_normpath")) (Value.str (Str.ofString "_normpath") 243) (Value.ref 49)), (DictEntry.mk (PyData.keyHash P (Str.ofString "normpath")) (Value.str (Str.ofString "normpath") 251) (Value.ref 56)), (DictEntry.mk (PyData.keyHash P (Str.ofString "_Ignore")) (Value.str (Str.ofString "_Ignore") 293) (Value.ref 79)), (DictEntry.mk (PyData.keyHash P (Str.ofString "_law_fault")) (Value.str (Str.ofString "_law_fault") 302) (Value.ref 90)), (DictEntry.mk (PyData.keyHash P (Str.ofString "_law_alone")) (Value.str (Str.ofString "_law_alone") 308) (Value.ref 95)), (DictEntry.mk (PyData.keyHash P (Str.ofString "_law_said")) (Value.str (Str.ofString "_law_said") 318) (Value.ref 102)), (DictEntry.mk (PyData.keyHash P (Str.ofString "law")) (Value.str (Str.ofString "law") 324) (Value.ref 107))] 21) #[])) ::
  ((nat_lit 6), (Obj.mk (Value.type "dict") Option.none (Data.dict #[] 0) #[])) ::
  ((nat_lit 15), (Obj.mk (Value.type "tuple") Option.none (Data.seq #[] 0) #[])) ::
  ((nat_lit 17), (Obj.mk (Value.type "tuple") Option.none (Data.seq #[(Value.str (Str.ofString "k") 190)] 0) #[])) ::
  ((nat_lit 18), (Obj.mk (Value.type "tuple") Option.none (Data.seq #[] 0) #[])) ::
  ((nat_lit 20), (Obj.mk (Value.type "code") Option.none (Data.fields #[(Value.str (Str.ofString "_wall") 187), (Value.str (Str.ofString "_wall") 188), (Value.str (Str.ofString "/claim/cut.py") 189), (Value.int 1 0), (Value.int 1 0), (Value.int 0 0), (Value.int 0 0), (Value.int 3 0), (Value.ref 15), (Value.bool Bool.true), (Value.int 181 0), (Value.ref 16), Value.none, (Value.ref 17), (Value.ref 18), (Value.ref 19), (Value.int 191 0), (Value.int 1 0), (Value.str (Str.ofString "/claim/cut.py") 192)]) #[])) ::
  ((nat_lit 21), fnO (st := topAt 0) rfl (Str.ofString "_wall") Value.none (Value.str (Str.ofString "__main__") 164) (Value.ref 20)) ::
  ((nat_lit 22), (Obj.mk (Value.type "tuple") Option.none (Data.seq #[] 0) #[])) ::
  ((nat_lit 24), (Obj.mk (Value.type "tuple") Option.none (Data.seq #[(Value.str (Str.ofString "name") 201), (Value.str (Str.ofString "x") 202), (Value.str (Str.ofString "t") 203)] 0) #[])) ::
  ((nat_lit 25), (Obj.mk (Value.type "tuple") Option.none (Data.seq #[] 0) #[])) ::
  ((nat_lit 27), (Obj.mk (Value.type "code") Option.none (Data.fields #[(Value.str (Str.ofString "_kind") 198), (Value.str (Str.ofString "_kind") 199), (Value.str (Str.ofString "/claim/cut.py") 200), (Value.int 6 0), (Value.int 2 0), (Value.int 0 0), (Value.int 0 0), (Value.int 3 0), (Value.ref 22), (Value.bool Bool.true), (Value.int 181 0), (Value.ref 23), Value.none, (Value.ref 24), (Value.ref 25), (Value.ref 26), (Value.int 204 0), (Value.int 6 0), (Value.str (Str.ofString "/claim/cut.py") 205)]) #[])) ::
  ((nat_lit 28), fnO (st := topAt 3) rfl (Str.ofString "_kind") Value.none (Value.str (Str.ofString "os.path") 196) (Value.ref 27)) ::
  ((nat_lit 29), (Obj.mk (Value.type "tuple") Option.none (Data.seq #[] 0) #[])) ::
  ((nat_lit 31), (Obj.mk (Value.type "tuple") Option.none (Data.seq #[(Value.str (Str.ofString "name") 210), (Value.str (Str.ofString "cname") 211), (Value.str (Str.ofString "argname") 212), (Value.str (Str.ofString "args") 213), (Value.str (Str.ofString "kwargs") 214), (Value.str (Str.ofString "x") 215), (Value.str (Str.ofString "k") 216)] 0) #[])) ::
  ((nat_lit 32), (Obj.mk (Value.type "tuple") Option.none (Data.seq #[] 0) #[])) ::
  ((nat_lit 34), (Obj.mk (Value.type "code") Option.none (Data.fields #[(Value.str (Str.ofString "_c_path") 207), (Value.str (Str.ofString "_c_path") 208), (Value.str (Str.ofString "/claim/cut.py") 209), (Value.int 27 0), (Value.int 5 0), (Value.int 0 0), (Value.int 0 0), (Value.int 3 0), (Value.ref 29), (Value.bool Bool.true), (Value.int 181 0), (Value.ref 30), Value.none, (Value.ref 31), (Value.ref 32), (Value.ref 33), (Value.int 217 0), (Value.int 27 0), (Value.str (Str.ofString "/claim/cut.py") 218)]) #[])) ::
  ((nat_lit 35), fnO (st := topAt 4) rfl (Str.ofString "_c_path") Value.none (Value.str (Str.ofString "os.path") 196) (Value.ref 34)) ::
  ((nat_lit 36), (Obj.mk (Value.type "tuple") Option.none (Data.seq #[] 0) #[])) ::
  ((nat_lit 38), (Obj.mk (Value.type "tuple") Option.none (Data.seq #[(Value.str (Str.ofString "p") 223), (Value.str (Str.ofString "sep") 224), (Value.str (Str.ofString "empty") 225)] 0) #[])) ::
  ((nat_lit 39), (Obj.mk (Value.type "tuple") Option.none (Data.seq #[] 0) #[])) ::
  ((nat_lit 41), (Obj.mk (Value.type "code") Option.none (Data.fields #[(Value.str (Str.ofString "_splitroot") 220), (Value.str (Str.ofString "_splitroot") 221), (Value.str (Str.ofString "/claim/cut.py") 222), (Value.int 38 0), (Value.int 1 0), (Value.int 0 0), (Value.int 0 0), (Value.int 3 0), (Value.ref 36), (Value.bool Bool.true), (Value.int 181 0), (Value.ref 37), Value.none, (Value.ref 38), (Value.ref 39), (Value.ref 40), (Value.int 226 0), (Value.int 38 0), (Value.str (Str.ofString "/claim/cut.py") 227)]) #[])) ::
  ((nat_lit 42), fnO (st := topAt 5) rfl (Str.ofString "_splitroot") Value.none (Value.str (Str.ofString "os.path") 196) (Value.ref 41)) ::
  ((nat_lit 43), (Obj.mk (Value.type "tuple") Option.none (Data.seq #[] 0) #[])) ::
  ((nat_lit 45), (Obj.mk (Value.type "tuple") Option.none (Data.seq #[(Value.str (Str.ofString "path") 232), (Value.str (Str.ofString "sep") 233), (Value.str (Str.ofString "dot") 234), (Value.str (Str.ofString "dotdot") 235), (Value.str (Str.ofString "_") 236), (Value.str (Str.ofString "initial_slashes") 237), (Value.str (Str.ofString "comps") 238), (Value.str (Str.ofString "new_comps") 239), (Value.str (Str.ofString "comp") 240)] 0) #[])) ::
  ((nat_lit 46), (Obj.mk (Value.type "tuple") Option.none (Data.seq #[] 0) #[])) ::
  ((nat_lit 48), (Obj.mk (Value.type "code") Option.none (Data.fields #[(Value.str (Str.ofString "_normpath") 229), (Value.str (Str.ofString "_normpath") 230), (Value.str (Str.ofString "/claim/cut.py") 231), (Value.int 47 0), (Value.int 1 0), (Value.int 0 0), (Value.int 0 0), (Value.int 3 0), (Value.ref 43), (Value.bool Bool.true), (Value.int 181 0), (Value.ref 44), Value.none, (Value.ref 45), (Value.ref 46), (Value.ref 47), (Value.int 241 0), (Value.int 47 0), (Value.str (Str.ofString "/claim/cut.py") 242)]) #[])) ::
  ((nat_lit 49), fnO (st := topAt 6) rfl (Str.ofString "_normpath") Value.none (Value.str (Str.ofString "os.path") 196) (Value.ref 48)) ::
  ((nat_lit 50), (Obj.mk (Value.type "tuple") Option.none (Data.seq #[] 0) #[])) ::
  ((nat_lit 52), (Obj.mk (Value.type "tuple") Option.none (Data.seq #[(Value.str (Str.ofString "args") 247), (Value.str (Str.ofString "kwargs") 248)] 0) #[])) ::
  ((nat_lit 53), (Obj.mk (Value.type "tuple") Option.none (Data.seq #[] 0) #[])) ::
  ((nat_lit 55), (Obj.mk (Value.type "code") Option.none (Data.fields #[(Value.str (Str.ofString "normpath") 244), (Value.str (Str.ofString "normpath") 245), (Value.str (Str.ofString "/claim/cut.py") 246), (Value.int 66 0), (Value.int 0 0), (Value.int 0 0), (Value.int 0 0), (Value.int 15 0), (Value.ref 50), (Value.bool Bool.true), (Value.int 181 0), (Value.ref 51), Value.none, (Value.ref 52), (Value.ref 53), (Value.ref 54), (Value.int 249 0), (Value.int 66 0), (Value.str (Str.ofString "/claim/cut.py") 250)]) #[])) ::
  ((nat_lit 56), fnO (st := topAt 7) rfl (Str.ofString "normpath") Value.none (Value.str (Str.ofString "os.path") 196) (Value.ref 55)) ::
  ((nat_lit 64), (Obj.mk (Value.type "tuple") Option.none (Data.seq #[Value.none, Value.none] 0) #[])) ::
  ((nat_lit 65), (Obj.mk (Value.type "tuple") Option.none (Data.seq #[] 0) #[])) ::
  ((nat_lit 68), (Obj.mk (Value.type "code") Option.none (Data.fields #[(Value.str (Str.ofString "__init__") 266), (Value.str (Str.ofString "_Ignore.__init__") 267), (Value.str (Str.ofString "/claim/cut.py") 268), (Value.int 71 0), (Value.int 3 0), (Value.int 0 0), (Value.int 0 0), (Value.int 3 0), (Value.ref 65), (Value.bool Bool.true), (Value.int 181 0), (Value.ref 66), Value.none, Value.none, Value.none, (Value.ref 67), (Value.int 269 0), (Value.int 71 0), (Value.str (Str.ofString "/claim/cut.py") 270)]) #[])) ::
  ((nat_lit 69), fnO (st := metAt 9 0) rfl (Str.ofString "_Ignore.__init__") (Value.ref 64) (Value.str (Str.ofString "cpy313.trace") 252) (Value.ref 68)) ::
  ((nat_lit 70), (Obj.mk (Value.type "tuple") Option.none (Data.seq #[] 0) #[])) ::
  ((nat_lit 72), (Obj.mk (Value.type "tuple") Option.none (Data.seq #[(Value.str (Str.ofString "self") 275), (Value.str (Str.ofString "filename") 276), (Value.str (Str.ofString "modulename") 277), (Value.str (Str.ofString "mod") 278), (Value.str (Str.ofString "d") 279)] 0) #[])) ::
  ((nat_lit 73), (Obj.mk (Value.type "tuple") Option.none (Data.seq #[] 0) #[])) ::
  ((nat_lit 75), (Obj.mk (Value.type "code") Option.none (Data.fields #[(Value.str (Str.ofString "names") 272), (Value.str (Str.ofString "_Ignore.names") 273), (Value.str (Str.ofString "/claim/cut.py") 274), (Value.int 76 0), (Value.int 3 0), (Value.int 0 0), (Value.int 0 0), (Value.int 3 0), (Value.ref 70), (Value.bool Bool.true), (Value.int 181 0), (Value.ref 71), Value.none, (Value.ref 72), (Value.ref 73), (Value.ref 74), (Value.int 280 0), (Value.int 76 0), (Value.str (Str.ofString "/claim/cut.py") 281)]) #[])) ::
  ((nat_lit 76), fnO (st := metAt 9 1) rfl (Str.ofString "_Ignore.names") Value.none (Value.str (Str.ofString "cpy313.trace") 252) (Value.ref 75)) ::
  ((nat_lit 77), (Obj.mk (Value.type "tuple") Option.none (Data.seq #[(Value.str (Str.ofString "_dirs") 283), (Value.str (Str.ofString "_ignore") 284), (Value.str (Str.ofString "_mods") 285)] 0) #[])) ::
  ((nat_lit 78), (Obj.mk (Value.type "dict") Option.none (Data.dict #[(DictEntry.mk (PyData.keyHash P (Str.ofString "__module__")) (Value.str (Str.ofString "__module__") 261) (Value.str (Str.ofString "cpy313.trace") 252)), (DictEntry.mk (PyData.keyHash P (Str.ofString "__firstlineno__")) (Value.str (Str.ofString "__firstlineno__") 265) (Value.int 69 264)), (DictEntry.mk (PyData.keyHash P (Str.ofString "__init__")) (Value.str (Str.ofString "__init__") 271) (Value.ref 69)), (DictEntry.mk (PyData.keyHash P (Str.ofString "names")) (Value.str (Str.ofString "names") 282) (Value.ref 76)), (DictEntry.mk (PyData.keyHash P (Str.ofString "__static_attributes__")) (Value.str (Str.ofString "__static_attributes__") 286) (Value.ref 77)), (DictEntry.mk (PyData.keyHash P (Str.ofString "__dict__")) (Value.str (Str.ofString "__dict__") 288) (Value.ref 80)), (DictEntry.mk (PyData.keyHash P (Str.ofString "__weakref__")) (Value.str (Str.ofString "__weakref__") 290) (Value.ref 81)), (DictEntry.mk (PyData.keyHash P (Str.ofString "__doc__")) (Value.str (Str.ofString "__doc__") 291) Value.none)] 4) #[])) ::
  ((nat_lit 79), (Obj.mk (Value.type "type") Option.none (Data.cls (ClassData.mk (Str.ofString "_Ignore") [(Value.type "object")] [(Value.ref 79), (Value.type "object")] 78 (Str.ofString "_Ignore") Bool.true [] [] Bool.false Option.none Bool.false)) #[Option.none, Option.none, (Option.some (Value.str (Str.ofString "_Ignore") 254)), (Option.some (Value.str (Str.ofString "_Ignore") 262)), (Option.some (Value.builtin "object.__new__")), (Option.some (Value.bool Bool.true))])) ::
  ((nat_lit 80), (Obj.mk (Value.type "getset_descriptor") Option.none (Data.fields #[(Value.str (Str.ofString "__dict__") 287), (Value.ref 79), (Value.builtin "function.__dict__"), (Value.builtin "function.__dict__#set")]) #[])) ::
  ((nat_lit 81), (Obj.mk (Value.type "getset_descriptor") Option.none (Data.fields #[(Value.str (Str.ofString "__weakref__") 289), (Value.ref 79), (Value.builtin "ExceptionGroup.__weakref__"), Value.none]) #[])) ::
  ((nat_lit 84), (Obj.mk (Value.type "tuple") Option.none (Data.seq #[] 0) #[])) ::
  ((nat_lit 86), (Obj.mk (Value.type "tuple") Option.none (Data.seq #[(Value.str (Str.ofString "thing") 299)] 0) #[])) ::
  ((nat_lit 87), (Obj.mk (Value.type "tuple") Option.none (Data.seq #[] 0) #[])) ::
  ((nat_lit 89), (Obj.mk (Value.type "code") Option.none (Data.fields #[(Value.str (Str.ofString "_law_fault") 296), (Value.str (Str.ofString "_law_fault") 297), (Value.str (Str.ofString "/claim/cut.py") 298), (Value.int 96 0), (Value.int 1 0), (Value.int 0 0), (Value.int 0 0), (Value.int 3 0), (Value.ref 84), (Value.bool Bool.true), (Value.int 181 0), (Value.ref 85), Value.none, (Value.ref 86), (Value.ref 87), (Value.ref 88), (Value.int 300 0), (Value.int 96 0), (Value.str (Str.ofString "/claim/cut.py") 301)]) #[])) ::
  ((nat_lit 90), fnO (st := topAt 11) rfl (Str.ofString "_law_fault") Value.none (Value.str (Str.ofString "law_nq0320_01") 294) (Value.ref 89)) ::
  ((nat_lit 91), (Obj.mk (Value.type "tuple") Option.none (Data.seq #[] 0) #[])) ::
  ((nat_lit 94), (Obj.mk (Value.type "code") Option.none (Data.fields #[(Value.str (Str.ofString "_law_alone") 303), (Value.str (Str.ofString "_law_alone") 304), (Value.str (Str.ofString "/claim/cut.py") 305), (Value.int 98 0), (Value.int 4 0), (Value.int 0 0), (Value.int 0 0), (Value.int 3 0), (Value.ref 91), (Value.bool Bool.true), (Value.int 181 0), (Value.ref 92), Value.none, Value.none, Value.none, (Value.ref 93), (Value.int 306 0), (Value.int 98 0), (Value.str (Str.ofString "/claim/cut.py") 307)]) #[])) ::
  ((nat_lit 95), fnO (st := topAt 12) rfl (Str.ofString "_law_alone") Value.none (Value.str (Str.ofString "law_nq0320_01") 294) (Value.ref 94)) ::
  ((nat_lit 96), (Obj.mk (Value.type "tuple") Option.none (Data.seq #[] 0) #[])) ::
  ((nat_lit 98), (Obj.mk (Value.type "tuple") Option.none (Data.seq #[(Value.str (Str.ofString "reader") 312), (Value.str (Str.ofString "module") 313), (Value.str (Str.ofString "path") 314), (Value.str (Str.ofString "answer") 315)] 0) #[])) ::
  ((nat_lit 99), (Obj.mk (Value.type "tuple") Option.none (Data.seq #[] 0) #[])) ::
  ((nat_lit 101), (Obj.mk (Value.type "code") Option.none (Data.fields #[(Value.str (Str.ofString "_law_said") 309), (Value.str (Str.ofString "_law_said") 310), (Value.str (Str.ofString "/claim/cut.py") 311), (Value.int 109 0), (Value.int 3 0), (Value.int 0 0), (Value.int 0 0), (Value.int 3 0), (Value.ref 96), (Value.bool Bool.true), (Value.int 181 0), (Value.ref 97), Value.none, (Value.ref 98), (Value.ref 99), (Value.ref 100), (Value.int 316 0), (Value.int 109 0), (Value.str (Str.ofString "/claim/cut.py") 317)]) #[])) ::
  ((nat_lit 102), fnO (st := topAt 13) rfl (Str.ofString "_law_said") Value.none (Value.str (Str.ofString "law_nq0320_01") 294) (Value.ref 101)) ::
  ((nat_lit 103), (Obj.mk (Value.type "tuple") Option.none (Data.seq #[] 0) #[])) ::
  ((nat_lit 106), (Obj.mk (Value.type "code") Option.none (Data.fields #[(Value.str (Str.ofString "law") 319), (Value.str (Str.ofString "law") 320), (Value.str (Str.ofString "/claim/cut.py") 321), (Value.int 117 0), (Value.int 1 0), (Value.int 0 0), (Value.int 0 0), (Value.int 3 0), (Value.ref 103), (Value.bool Bool.true), (Value.int 181 0), (Value.ref 104), Value.none, Value.none, Value.none, (Value.ref 105), (Value.int 322 0), (Value.int 117 0), (Value.str (Str.ofString "/claim/cut.py") 323)]) #[])) ::
  ((nat_lit 107), fnO (st := topAt 14) rfl (Str.ofString "law") Value.none (Value.str (Str.ofString "law_nq0320_01") 294) (Value.ref 106)) :: []) : List (Nat × Obj))
def hdAs : List Addr := (((nat_lit 2) :: (nat_lit 3) :: (nat_lit 6) :: (nat_lit 15) :: (nat_lit 17) :: (nat_lit 18) :: (nat_lit 20) :: (nat_lit 21) :: (nat_lit 22) :: (nat_lit 24) :: (nat_lit 25) :: (nat_lit 27) :: (nat_lit 28) :: (nat_lit 29) :: (nat_lit 31) :: (nat_lit 32) :: (nat_lit 34) :: (nat_lit 35) :: (nat_lit 36) :: (nat_lit 38) :: (nat_lit 39) :: (nat_lit 41) :: (nat_lit 42) :: (nat_lit 43) :: (nat_lit 45) :: (nat_lit 46) :: (nat_lit 48) :: (nat_lit 49) :: (nat_lit 50) :: (nat_lit 52) :: (nat_lit 53) :: (nat_lit 55) :: (nat_lit 56) :: (nat_lit 64) :: (nat_lit 65) :: (nat_lit 68) :: (nat_lit 69) :: (nat_lit 70) :: (nat_lit 72) :: (nat_lit 73) :: (nat_lit 75) :: (nat_lit 76) :: (nat_lit 77) :: (nat_lit 78) :: (nat_lit 79) :: (nat_lit 80) :: (nat_lit 81) :: (nat_lit 84) :: (nat_lit 86) :: (nat_lit 87) :: (nat_lit 89) :: (nat_lit 90) :: (nat_lit 91) :: (nat_lit 94) :: (nat_lit 95) :: (nat_lit 96) :: (nat_lit 98) :: (nat_lit 99) :: (nat_lit 101) :: (nat_lit 102) :: (nat_lit 103) :: (nat_lit 106) :: (nat_lit 107) :: []) : List Nat)
theorem hdAsOk : ∀ P, hdAs = (hd.heap_39 P).map (·.1) := fun _ => by kernel_rfl
-- the looks at the law: by the kit's quick twins of its own words (the program itself has none here: its twins would fill the compiled file)
theorem hd_said : PySem.Challenge.rw_nq0320_01.wellSaid = true := by
  try rw [Fast.te9446332074065402090]
  kernel_rfl
-- the opening: the kit's own end of a plain text's opening
theorem hd_open : ∀ w : World, (fencedOpening treeTable PySem.Challenge.rw_nq0320_01.row.prog w 1322).map (fun s => (s.heap, s.gens, s.drawn, s.toks)) = some (boot_heap w.params, Array.mk [], boot_drawn, boot_toks) :=
  boot_open (p := PySem.Challenge.rw_nq0320_01.row.prog) (N := 1322) (by kernel_rfl) (by decide +kernel) (fun s => by kernel_rfl)
-- the top's run from there, and what it leaves
theorem hd_top : ∀ (w : World) (os : OsState), (topFrom treeTable PySem.Challenge.rw_nq0320_01.row.prog w 1322 ⟨boot_heap w.params, Array.mk [], boot_drawn, boot_toks, os⟩).map (fun s => (openSeen hd.view_39 [] (importedModules PySem.Challenge.rw_nq0320_01.row.prog.main.body) (fun s => xlAt hd.view_39 [] s && recOk (RowW.records PySem.Challenge.rw_nq0320_01.row.toRowW) s) true s, (kHook hd.heap_39 hdAs hdAsOk).obs s)) =
    some (openGood hd.view_39 [], (kHook hd.heap_39 hdAs hdAsOk).val w) := fun w os => by
  unfold topFrom
  try rw [Fast.te14082659384304107361, Fast.te14364793385576792824]
  kernel_rfl
theorem hd_left : LeftO PySem.Challenge.rw_nq0320_01.row.prog hd.view_39 [] (fun s => xlAt hd.view_39 [] s && recOk (RowW.records PySem.Challenge.rw_nq0320_01.row.toRowW) s) (kHook hd.heap_39 hdAs hdAsOk).obs (kHook hd.heap_39 hdAs hdAsOk).val 1322 := fun w => by
  obtain ⟨⟨h, gs, d, k, os⟩, e, e'⟩ := Option.map_eq_some_iff.mp (hd_open w)
  obtain ⟨rfl, e'⟩ := Prod.mk.inj e'
  obtain ⟨rfl, e'⟩ := Prod.mk.inj e'
  obtain ⟨rfl, rfl⟩ := Prod.mk.inj e'
  unfold openEnds
  rw [e, Option.bind_some]
  exact hd_top w os
theorem hd {d : DefRec} {kwd : List (Str × PySem.Expr)} (hdef : defOf hd.view_39 PySem.Challenge.rw_nq0320_01.row.name = some (d, kwd))
    (hp : PySem.Challenge.rw_nq0320_01.row.prog.theDef PySem.Challenge.rw_nq0320_01.row.name = some (d.params, d.body, d.scope)) (hk : kwWritten? d.params.kwonlyargs d.params.kw_defaults = some kwd)
    (walk : WalkO hd.view_39 [] (XL hd.view_39 []) (kHook hd.heap_39 hdAs hdAsOk).says PySem.Challenge.rw_nq0320_01.row.toRowW d kwd fun f vs => PySem.call f vs) : PySem.Challenge.rw_nq0320_01.Holds := by
  refine holds_law hd_said fun said => ?_
  refine holds_open (q := hd.view_39) (loose := []) (Xt := fun s => xlAt hd.view_39 [] s && recOk (RowW.records PySem.Challenge.rw_nq0320_01.row.toRowW) s) (XP := XL hd.view_39 []) (Yf := (kHook hd.heap_39 hdAs hdAsOk).obs) (Ya := (kHook hd.heap_39 hdAs hdAsOk).val) (YP := (kHook hd.heap_39 hdAs hdAsOk).says) (N := 1322)
    hd_left (kHook hd.heap_39 hdAs hdAsOk).of (kHook hd.heap_39 hdAs hdAsOk).keeps (fun s e => xl_of s (Bool.and_eq_true_iff.mp e).1) XL.keeps hdef hp hk (fun s e => recFacts_of (Bool.and_eq_true_iff.mp e).2) rfl said (by kernel_rfl) ⟨rfl, rfl, rfl, rfl, rfl, by kernel_rfl⟩ ?hw walk
  case hw => w_witness2
end Mine
end PartTop1

section PartBaseA
open PySem PySem.W PyProof.Rows
set_option Elab.async false
set_option maxRecDepth 100000
namespace Mine
theorem freshBaseA : True ∧ True := by
  w_top off
  first | (walk1; all_goals trivial) | exact ⟨trivial, trivial⟩

/-- what a turn of one of my loops must leave -/
def TurnPost (h₀ : Heap) (L I : Addr) (io : Obj) (J : (Str → Option Value) → List (Addr × Obj) → Prop) (Q : Flow → Shared → Prop) (s : Shared) (f : Flow) (s₂ : Shared) : Prop :=
  match f with
  | .ret v => Q (.ret v) s₂
  | .brk => Q .next s₂
  | _ => ∃ h' tk m' nx, s₂ = { s with heap := h', toks := tk } ∧ Fr h₀ L h' m' ∧ News h₀ L h' ((I, io) :: nx) ∧ (∀ p ∈ nx, p.1 ≠ I) ∧ J m' nx

theorem TurnPost.next {h₀ : Heap} {L I : Addr} {io : Obj} {J : (Str → Option Value) → List (Addr × Obj) → Prop} {Q : Flow → Shared → Prop} {s : Shared} {h' : Heap} {tk : Nat} {m' : Str → Option Value} {nx all : List (Addr × Obj)}
    (F : Fr h₀ L h' m') (N : News h₀ L h' all) (hs : ∀ p ∈ (I, io) :: nx, p ∈ all) (hne : ∀ p ∈ nx, p.1 ≠ I) (hj : J m' nx) : TurnPost h₀ L I io J Q s .next { s with heap := h', toks := tk } :=
  ⟨h', tk, m', nx, rfl, F, fun p hp => N p (hs p hp), hne, hj⟩
section
variable {prog : Program} {w : World} {A : Around} {E : Value → Shared → Prop} {s : Shared} {env : Env} {h₀ : Heap}

end
end Mine
end PartBaseA

section PartBaseZ
open PySem PySem.W PyProof.Rows PySem.Spec PySem.Calls PyProof.Rows.LCg
set_option Elab.async false
set_option maxRecDepth 100000
set_option maxHeartbeats 2000000
set_option linter.unusedVariables false
namespace Mine
theorem freshBaseZ : True ∧ True := by
  w_top off
  first | (walk1; all_goals trivial) | exact ⟨trivial, trivial⟩
def TurnPostD (h₀ : Heap) (L I : Addr) (io : Obj) (J : (Str → Option Value) → List (Addr × Obj) → Drawn → Prop) (Q : Flow → Shared → Prop) (s : Shared) (f : Flow) (s₂ : Shared) : Prop :=
  match f with
  | .ret v => Q (.ret v) s₂
  | .brk => Q .next s₂
  | _ => ∃ h' tk dr m' nx, s₂ = { s with heap := h', toks := tk, drawn := dr } ∧ Fr h₀ L h' m' ∧ News h₀ L h' ((I, io) :: nx) ∧ (∀ p ∈ nx, p.1 ≠ I) ∧ J m' nx dr
section
variable {prog : Program} {w : World} {A : Around} {E : Value → Shared → Prop} {s : Shared} {h₀ : Heap} {L : Addr} {m : Str → Option Value} {env : Env} {body : List Stmt} {Q : Flow → Shared → Prop}
theorem fr_wr {h h' : Heap} {wr : List Addr} (F : Fr h₀ L h m) (hk : ∀ b o, b ∉ wr → h.get? b = some o → h'.get? b = some o) (hL : L ∉ wr) (hI : ∀ b ∈ wr, h₀.get? b = none) : Fr h₀ L h' m :=
  ⟨F.ns.at' fun o e => hk L o hL e, fun b o e => hk b o (fun hm => by rw [hI b hm] at e; cases e) (F.keep b o e), F.above⟩
theorem news_wr {h h' : Heap} {wr : List Addr} {news : List (Addr × Obj)} (N : News h₀ L h news) (hk : ∀ b o, b ∉ wr → h.get? b = some o → h'.get? b = some o) (off : ∀ p ∈ news, p.1 ∉ wr) : News h₀ L h' news :=
  fun p hp => ⟨hk _ _ (off p hp) (N p hp).1, (N p hp).2⟩
theorem for_listD {target : Expr} {l : Addr} {vs : List Value} {n : Nat} {m₀ : Str → Option Value} {news : List (Addr × Obj)}
    (J : Nat → (Str → Option Value) → List (Addr × Obj) → Drawn → Prop)
    (hh : A.handled = none) (hJl : ∀ i m nx dr, J i m nx dr → (l, listOf vs.toArray n) ∈ nx)
    (F : Fr h₀ env.locals s.heap m₀) (N : News h₀ env.locals s.heap news) (h0 : J 0 m₀ news s.drawn) (hEE : PassesOwn (model prog w) A env E)
    (turn : ∀ i v m₁ nx h tk dr I io, vs[i]? = some v → J i m₁ nx dr → (∀ p ∈ nx, p.1 ≠ I) → Fr h₀ env.locals h m₁ → News h₀ env.locals h ((I, io) :: nx) →
      wpAny (model prog w) A (assign target env v) (fun _ s₂ => wpAny (model prog w) A (execs body env) (TurnPostD h₀ env.locals I io (J (i + 1)) Q s) E s₂) E { s with heap := h, toks := tk, drawn := dr })
    (done : ∀ m₁ nx h tk dr, J vs.length m₁ nx dr → Fr h₀ env.locals h m₁ → News h₀ env.locals h nx → Q .next { s with heap := h, toks := tk, drawn := dr }) :
    wpAny (model prog w) A (pyIter (.ref l)) (fun it s₂ => codeAny (model prog w) A (.forLoop target it body [] env) (fun r s' => match r with | .ok f => Q f s' | .error e => cameBackBy (model prog w) A env E e s') s₂) E s := by
  have hm := hJl _ _ _ _ h0
  have hl : s.heap.IsList l vs.toArray := ⟨_, (N _ hm).1, rfl, n, rfl⟩
  have hlt : l < s.heap.objs.size := Heap.lt_size (N _ hm).1
  have hLs : env.locals < s.heap.objs.size := F.ns.lt
  refine wpAny_pyIter_list hl ?_
  have up : ∀ b o, s.heap.get? b = some o → (s.heap.push { cls := .type "list_iterator", data := .fields #[.ref l, .int 0 0] }).get? b = some o := fun b o e => Heap.get?_push_of_some _ e
  have hI0 : (s.heap.push { cls := .type "list_iterator", data := .fields #[.ref l, .int 0 0] }).IsListIter s.heap.objs.size l 0 := ⟨_, Heap.get?_push_size _ rfl, rfl, rfl⟩
  generalize hII : s.heap.objs.size = I at *
  have W := KTurns.ofWalks (target := target) (Walks.list (prog := prog) (w := w) hh I l (Nat.ne_of_lt hlt) vs.toArray) fun i v s' Q' E' st hq => letGo_listiter st.1 hq
  have hnew : ∀ a, I ≤ a → h₀.get? a = none := fun a ha => by
    cases e : h₀.get? a with
    | none => rfl
    | some o' => exact absurd (hII ▸ Heap.lt_size (F.keep a o' e)) (Nat.not_lt.mpr ha)
  have wr₀ : ∀ b ∈ [I], h₀.get? b = none := by
    intro b hb
    rcases List.mem_singleton.mp hb with rfl
    exact hnew _ (Nat.le_refl _)
  have hLw : env.locals ∉ [I] := fun hm' => absurd (List.mem_singleton.mp hm') (Nat.ne_of_lt hLs)
  have out : ∀ {nx : List (Addr × Obj)}, (∀ p ∈ nx, p.1 ≠ I) → ∀ p ∈ nx, p.1 ∉ [I] := fun h p hp hm' => h p hp (List.mem_singleton.mp hm')
  refine codeAny_forLoop_any
    (fun q s' => ∃ i h tk dr m₁ nx, s' = { s with heap := h, toks := tk, drawn := dr } ∧ i ≤ vs.length ∧ q = vs.length + 1 - i ∧ (h.IsListIter I l i ∧ h.IsList l vs.toArray) ∧ Fr h₀ env.locals h m₁ ∧ News h₀ env.locals h nx ∧ (∀ p ∈ nx, p.1 ≠ I) ∧ J i m₁ nx dr) ?_ (vs.length + 1)
    ⟨0, _, _, s.drawn, m₀, news, rfl, Nat.zero_le _, rfl, ⟨hI0, up _ _ (N _ hm).1 |> fun e => ⟨_, e, rfl, n, rfl⟩⟩, F.keeps up, N.grown up, fun p hp => ?_, h0⟩
  · rintro q s' ⟨i, h, tk, dr, m₁, nx, rfl, hi, rfl, hst, F', N', off', hj⟩
    have offw := out off'
    by_cases hlt' : i < vs.length
    · refine W.item i _ _ _ (by simpa using hlt') hst fun v h₂ tk₂ hMd hk₂ => ?_
      refine W.go i v _ _ _ hMd fun h₃ hP hst₃ hk₃ => ?_
      have k23 : ∀ b o, b ∉ [I] → h.get? b = some o → h₃.get? b = some o := fun b o hb e => hk₃ b o hb (hk₂ b o hb e)
      have F₃ := fr_wr F' k23 hLw wr₀
      have N₃ := news_wr N' k23 offw
      obtain ⟨⟨oi, hoi, hoi2⟩, hli⟩ := id hst₃
      have N₅ : News h₀ env.locals h₃ ((I, oi) :: nx) := fun p hp => by
        rcases List.mem_cons.mp hp with rfl | hp
        · exact ⟨hoi, fun e => hLw (e ▸ .head _), wr₀ _ (.head _)⟩
        · exact N₃ p hp
      have t' := turn i v m₁ nx h₃ tk₂ dr I oi (by simpa using hP) hj off' F₃ N₅
      refine wpAny_mono (wpAny_passesOwn hEE t') (fun _ s₂ h₂ => wpAny_mono (wpAny_passesOwn hEE h₂) (fun f s₃ p => ?_) fun _ _ e => e) fun _ _ e => e
      have fin : (∃ h' tk dr m' nx, s₃ = { s with heap := h', toks := tk, drawn := dr } ∧ Fr h₀ env.locals h' m' ∧ News h₀ env.locals h' ((I, oi) :: nx) ∧ (∀ p ∈ nx, p.1 ≠ I) ∧ J (i + 1) m' nx dr) →
          ∃ m, m < vs.length + 1 - i ∧ ∃ i h tk dr m₁ nx, s₃ = { s with heap := h, toks := tk, drawn := dr } ∧ i ≤ vs.length ∧ m = vs.length + 1 - i ∧ (h.IsListIter I l i ∧ h.IsList l vs.toArray) ∧ Fr h₀ env.locals h m₁ ∧ News h₀ env.locals h nx ∧ (∀ p ∈ nx, p.1 ≠ I) ∧ J i m₁ nx dr := by
        rintro ⟨h₄, tk₄, dr₄, m₄, nx₄, rfl, F₄, N₄, off₄, j₄⟩
        refine ⟨vs.length + 1 - (i + 1), by omega, i + 1, h₄, tk₄, dr₄, m₄, nx₄, rfl, hlt', rfl, ⟨⟨oi, (N₄ _ (.head _)).1, hoi2⟩, ?_⟩, F₄, fun p hp => N₄ p (.tail _ hp), off₄, j₄⟩
        exact ⟨_, (N₄ _ (.tail _ (hJl _ _ _ _ j₄))).1, rfl, n, rfl⟩
      cases f with
      | ret v => exact p
      | brk => exact p
      | next => exact fin p
      | cont => exact fin p
    · obtain rfl : i = vs.length := Nat.le_antisymm hi (Nat.not_lt.mp hlt')
      refine W.done _ _ _ (by simpa using hst) fun h₂ tk₂ hk₂ => wpAny_execs_nil ?_
      exact done m₁ nx h₂ tk₂ dr hj (fr_wr F' hk₂ hLw wr₀) (news_wr N' hk₂ offw)
  · exact Nat.ne_of_lt (hII ▸ Heap.lt_size (N p hp).1)
/-- a for over a list of the ledger's -/
theorem for_list {target : Expr} {body : List Stmt} {l : Addr} {vs : List Value} {nn : Nat} {m₀ : Str → Option Value} {news : List (Addr × Obj)} {Q : Flow → Shared → Prop}
    (J : Nat → (Str → Option Value) → List (Addr × Obj) → Prop)
    (hh : A.handled = none) (hJl : ∀ i m nx, J i m nx → (l, listOf vs.toArray nn) ∈ nx)
    (F : Fr h₀ env.locals s.heap m₀) (N : News h₀ env.locals s.heap news) (h0 : J 0 m₀ news) (hE : PassesOwn (model prog w) A env E)
    (turn : ∀ i v m₁ nx h tk I io, vs[i]? = some v → J i m₁ nx → (∀ p ∈ nx, p.1 ≠ I) → Fr h₀ env.locals h m₁ → News h₀ env.locals h ((I, io) :: nx) →
      wpAny (model prog w) A (assign target env v) (fun _ s₂ => wpAny (model prog w) A (execs body env) (TurnPost h₀ env.locals I io (J (i + 1)) Q s) E s₂) E { s with heap := h, toks := tk })
    (done : ∀ m₁ nx h tk, J vs.length m₁ nx → Fr h₀ env.locals h m₁ → News h₀ env.locals h nx → Q .next { s with heap := h, toks := tk }) :
    wpAny (model prog w) A (pyIter (.ref l)) (fun it s₂ => codeAny (model prog w) A (.forLoop target it body [] env) (fun r s' => match r with | .ok f => Q f s' | .error e => cameBackBy (model prog w) A env E e s') s₂) E s := by
  refine for_listD (news := news) (m₀ := m₀) (fun i m nx dr => J i m nx ∧ dr = s.drawn) hh (fun i m nx dr hj => hJl i m nx hj.1) F N ⟨h0, rfl⟩ hE ?_ ?_
  · rintro i v m₁ nx h tk dr I io hv ⟨hj, rfl⟩ hne F' N'
    refine wpAny_mono (turn i v m₁ nx h tk I io hv hj hne F' N') (fun _ s₂ h₂ => wpAny_mono h₂ (fun f s₃ h₃ => ?_) fun _ _ e => e) fun _ _ e => e
    have fin : (∃ h' tk m' nx, s₃ = { s with heap := h', toks := tk } ∧ Fr h₀ env.locals h' m' ∧ News h₀ env.locals h' ((I, io) :: nx) ∧ (∀ p ∈ nx, p.1 ≠ I) ∧ J (i + 1) m' nx) →
        ∃ h' tk dr m' nx, s₃ = { s with heap := h', toks := tk, drawn := dr } ∧ Fr h₀ env.locals h' m' ∧ News h₀ env.locals h' ((I, io) :: nx) ∧ (∀ p ∈ nx, p.1 ≠ I) ∧ (J (i + 1) m' nx ∧ dr = s.drawn) := by
      rintro ⟨h', tk', m', nx', rfl, a, b, c, d⟩
      exact ⟨h', tk', s.drawn, m', nx', rfl, a, b, c, d, rfl⟩
    cases f with
    | ret v => exact h₃
    | brk => exact h₃
    | next => exact fin h₃
    | cont => exact fin h₃
  · rintro m₁ nx h tk dr ⟨hj, rfl⟩ F' N'
    exact done m₁ nx h tk hj F' N'
end
end Mine
end PartBaseZ

section PartBaseB
open PySem PySem.W PyProof.Rows
set_option Elab.async false
set_option maxRecDepth 100000
namespace Mine
theorem freshBaseB : True ∧ True := by
  w_top off
  first | (walk1; all_goals trivial) | exact ⟨trivial, trivial⟩

section
variable {prog : Program} {w : World} {A : Around} {E : Value → Shared → Prop} {s : Shared} {env : Env} {h₀ : Heap}
end
end Mine
end PartBaseB

section PartBaseC
open PySem PySem.W PyProof.Rows
set_option Elab.async false
set_option maxRecDepth 100000
namespace Mine
theorem freshBaseC : True ∧ True := by
  w_top off
  first | (walk1; all_goals trivial) | exact ⟨trivial, trivial⟩
theorem allLt_out {d : Nat} : ∀ {l : List (Addr × Obj)}, AllLt d l → ∀ p ∈ l, p.1 < d
  | [], _, _, hp => nomatch hp
  | q :: l, h, p, hp => by
    rcases List.mem_cons.mp hp with rfl | hp
    · exact h.1
    · exact allLt_out h.2 p hp
theorem strValues_len (acc : List (Str × Tok)) : (strValues acc).length = acc.length := by simp [strValues]
section
variable {prog : Program} {w : World} {A : Around} {E : Value → Shared → Prop} {s : Shared} {h₀ : Heap} {L D : Addr} {m : Str → Option Value} {news news' : List (Addr × Obj)} {n : Nat} {acc : List (Str × Tok)}
theorem strs_truthy {Q : Bool → Shared → Prop} (N : News h₀ L s.heap news) (hm : (D, listOf (strValues acc).toArray n) ∈ news) (hz : acc.length ≤ 100000)
    (h : ∀ tk, Q (decide (acc ≠ [])) { s with toks := tk }) : wpAny (model prog w) A (truthy (.ref D)) Q E s := by
  refine wpAny_truthy_list (items := (strValues acc).toArray) ⟨_, (N _ hm).1, rfl, n, rfl⟩ (by simp only [List.size_toArray, strValues_len]; omega) ?_
  have e : (!(strValues acc).toArray.isEmpty) = decide (acc ≠ []) := by
    cases acc <;> simp [strValues]
  rw [e]
  exact h _
end
end Mine
end PartBaseC

section PartBaseD
open PySem PySem.W PyProof.Rows
set_option Elab.async false
set_option maxRecDepth 100000
namespace Mine
theorem freshBaseD : True ∧ True := by
  w_top off
  first | (walk1; all_goals trivial) | exact ⟨trivial, trivial⟩
section
variable {prog : Program} {w : World} {A : Around} {E : Value → Shared → Prop} {s : Shared} {h₀ : Heap} {L l : Addr} {m : Str → Option Value} {news : List (Addr × Obj)} {value slice : PySem.Expr} {acc : List (Str × Tok)} {n : Nat} {vk : Value} {ops : List Value} {Q : Value → Shared → Prop}
end
/-- what a turn must leave: the state is a letter c -/
def ItemsPost {σ : Type} (h₀ : Heap) (L I : Addr) (io : Obj) (x : Str) (m₀ : Str → Option Value) (Led : σ → List (Addr × Obj)) (nm : σ → List (Str × Value)) (P : σ → Prop) (Q : Flow → Shared → Prop) (s : Shared) (f : Flow) (s₂ : Shared) : Prop :=
  match f with
  | .ret v => Q (.ret v) s₂
  | .brk => Q .next s₂
  | _ => ∃ h' tk m' c all, s₂ = { s with heap := h', toks := tk } ∧ Fr h₀ L h' m' ∧ News h₀ L h' all ∧ (∀ p ∈ (I, io) :: Led c, p ∈ all) ∧ (∀ p ∈ nm c, m' p.1 = some p.2) ∧ (∀ y, y ≠ x → (∀ p ∈ nm c, y ≠ p.1) → m' y = m₀ y) ∧ P c
theorem ItemsPost.of {σ : Type} {h₀ : Heap} {L I : Addr} {io : Obj} {x : Str} {m₀ : Str → Option Value} {Led : σ → List (Addr × Obj)} {nm : σ → List (Str × Value)} {P : σ → Prop} {Q : Flow → Shared → Prop} {s : Shared} {h' : Heap} {tk : Nat} {m' : Str → Option Value} {all : List (Addr × Obj)} {f : Flow}
    (c : σ) (hf : f = .next ∨ f = .cont) (F : Fr h₀ L h' m') (N : News h₀ L h' all) (hs : ∀ p ∈ (I, io) :: Led c, p ∈ all) (hn : ∀ p ∈ nm c, m' p.1 = some p.2) (hm : ∀ y, y ≠ x → (∀ p ∈ nm c, y ≠ p.1) → m' y = m₀ y) (hp : P c) :
    ItemsPost h₀ L I io x m₀ Led nm P Q s f { s with heap := h', toks := tk } := by
  rcases hf with rfl | rfl <;> exact ⟨h', tk, m', c, all, rfl, F, N, hs, hn, hm, hp⟩

section
variable {prog : Program} {w : World} {A : Around} {E : Value → Shared → Prop} {s : Shared} {env : Env} {h₀ : Heap}
theorem for_items {σ : Type} {x : Str} {px : Pos} {body : List Stmt} {l : Addr} {vs : List Value} {nn : Nat} {m₀ : Str → Option Value} {news : List (Addr × Obj)} {Q : Flow → Shared → Prop}
    (Led : σ → List (Addr × Obj)) (nm : σ → List (Str × Value)) (P : Nat → σ → Prop) (c₀ : σ)
    (hh : A.handled = none) (hl : ∀ c, (l, listOf vs.toArray nn) ∈ Led c) (hadr : ∀ c c', (Led c).map (·.1) = (Led c').map (·.1))
    (F : Fr h₀ env.locals s.heap m₀) (N : News h₀ env.locals s.heap news) (hN : ∀ p ∈ Led c₀, p ∈ news) (hn : ∀ p ∈ nm c₀, m₀ p.1 = some p.2) (h0 : P 0 c₀) (hE : PassesOwn (model prog w) A env E)
    (turn : ∀ i v c (u : Str → Option Value) h tk I io, vs[i]? = some v → P i c → (∀ p ∈ Led c, p.1 ≠ I) → i < vs.length →
      Fr h₀ env.locals h (fun y => if y = x then u y else kstB m₀ (nm c) y) → News h₀ env.locals h ((I, io) :: Led c) →
      wpAny (model prog w) A (assign (.Name x px) env v) (fun _ s₂ => wpAny (model prog w) A (execs body env) (ItemsPost h₀ env.locals I io x m₀ Led nm (P (i + 1)) Q s) E s₂) E { s with heap := h, toks := tk })
    (done : ∀ c (u : Str → Option Value) h tk, P vs.length c → Fr h₀ env.locals h (fun y => if y = x then u y else kstB m₀ (nm c) y) → News h₀ env.locals h (Led c) → Q .next { s with heap := h, toks := tk }) :
    wpAny (model prog w) A (pyIter (.ref l)) (fun it s₂ => codeAny (model prog w) A (.forLoop (.Name x px) it body [] env) (fun r s' => match r with | .ok f => Q f s' | .error e => cameBackBy (model prog w) A env E e s') s₂) E s := by
  have split : ∀ (m₁ : Str → Option Value) (c : σ), (∀ p ∈ nm c, m₁ p.1 = some p.2) → (∀ y, y ≠ x → (∀ p ∈ nm c, y ≠ p.1) → m₁ y = m₀ y) → m₁ = fun y => if y = x then m₁ y else kstB m₀ (nm c) y := by
    intro m₁ c hn hm
    funext y
    by_cases e : y = x
    · rw [if_pos e]
    · rw [if_neg e]
      exact (kstB_eq hn fun hz => (hm y e hz).symm).symm
  refine for_list (vs := vs) (nn := nn) (news := Led c₀) (m₀ := m₀)
    (fun i m nx => ∃ c, nx = Led c ∧ (∀ p ∈ nm c, m p.1 = some p.2) ∧ (∀ y, y ≠ x → (∀ p ∈ nm c, y ≠ p.1) → m y = m₀ y) ∧ P i c) hh ?_ F (fun p hp => N p (hN p hp)) ⟨c₀, rfl, hn, fun _ _ _ => rfl, h0⟩ hE ?_ ?_
  · rintro i m nx ⟨c, rfl, _⟩
    exact hl c
  · rintro i v m₁ nx h tk I io hv ⟨c, rfl, hnc, hmc, hp⟩ hI F₁ N₁
    have hlt : i < vs.length := (List.getElem?_eq_some_iff.mp hv).1
    rw [split m₁ c hnc hmc] at F₁
    refine wpAny_mono (turn i v c m₁ h tk I io hv hp hI hlt F₁ N₁) (fun _ s₂ h₂ => wpAny_mono h₂ (fun f s₃ h₃ => ?_) fun _ _ e => e) fun _ _ e => e
    have fin : (∃ h' tk m' c all, s₃ = { s with heap := h', toks := tk } ∧ Fr h₀ env.locals h' m' ∧ News h₀ env.locals h' all ∧ (∀ p ∈ (I, io) :: Led c, p ∈ all) ∧ (∀ p ∈ nm c, m' p.1 = some p.2) ∧ (∀ y, y ≠ x → (∀ p ∈ nm c, y ≠ p.1) → m' y = m₀ y) ∧ P (i + 1) c) →
        ∃ h' tk m' nx, s₃ = { s with heap := h', toks := tk } ∧ Fr h₀ env.locals h' m' ∧ News h₀ env.locals h' ((I, io) :: nx) ∧ (∀ p ∈ nx, p.1 ≠ I) ∧ ∃ c, nx = Led c ∧ (∀ p ∈ nm c, m' p.1 = some p.2) ∧ (∀ y, y ≠ x → (∀ p ∈ nm c, y ≠ p.1) → m' y = m₀ y) ∧ P (i + 1) c := by
      rintro ⟨h', tk', m', c', all, rfl, F', N', hs', hn', hm', hp'⟩
      refine ⟨h', tk', m', Led c', rfl, F', fun p hp => N' p (hs' p hp), ?_, c', rfl, hn', hm', hp'⟩
      intro p hp e
      have h1 : p.1 ∈ (Led c').map (·.1) := List.mem_map.mpr ⟨p, hp, rfl⟩
      rw [hadr c' c] at h1
      obtain ⟨q, hq, hqe⟩ := List.mem_map.mp h1
      exact hI q hq (hqe.trans e)
    cases f with
    | ret v => exact h₃
    | brk => exact h₃
    | next => exact fin h₃
    | cont => exact fin h₃
  · rintro m₁ nx h tk ⟨c, rfl, hnc, hmc, hp⟩ F₁ N₁
    rw [split m₁ c hnc hmc] at F₁
    exact done c m₁ h tk hp F₁ N₁
end
end Mine
end PartBaseD

section PartBaseE
open PySem PySem.W PyProof.Rows
set_option Elab.async false
set_option maxRecDepth 100000
namespace Mine
theorem freshBaseE : True ∧ True := by
  w_top off
  first | (walk1; all_goals trivial) | exact ⟨trivial, trivial⟩

/-- an element of a comprehension that leaves the ledger as it is -/
def ElPost (h₀ : Heap) (L : Addr) (m : Str → Option Value) (s : Shared) (led : List (Addr × Obj)) (R : Value → Prop) (y : Value) (s₂ : Shared) : Prop :=
  ∃ h' tk', s₂ = { s with heap := h', toks := tk' } ∧ Fr h₀ L h' m ∧ News h₀ L h' led ∧ R y
theorem ElPost.of {h₀ : Heap} {L : Addr} {m : Str → Option Value} {s : Shared} {led all : List (Addr × Obj)} {R : Value → Prop} {y : Value} {h' : Heap} {tk' : Nat}
    (F : Fr h₀ L h' m) (N : News h₀ L h' all) (hs : ∀ p ∈ led, p ∈ all) (r : R y) : ElPost h₀ L m s led R y { s with heap := h', toks := tk' } := ⟨h', tk', rfl, F, fun p hp => N p (hs p hp), r⟩

def TestPost (h₀ : Heap) (L : Addr) (m : Str → Option Value) (s : Shared) (led : List (Addr × Obj)) (b ok : Bool) (s₂ : Shared) : Prop :=
  ∃ h' tk', s₂ = { s with heap := h', toks := tk' } ∧ Fr h₀ L h' m ∧ News h₀ L h' led ∧ ok = b
theorem TestPost.of {h₀ : Heap} {L : Addr} {m : Str → Option Value} {s : Shared} {led all : List (Addr × Obj)} {b ok : Bool} {h' : Heap} {tk' : Nat}
    (F : Fr h₀ L h' m) (N : News h₀ L h' all) (hs : ∀ p ∈ led, p ∈ all) (r : ok = b) : TestPost h₀ L m s led b ok { s with heap := h', toks := tk' } := ⟨h', tk', rfl, F, fun p hp => N p (hs p hp), r⟩
section
variable {prog : Program} {w : World} {A : Around} {h₀ : Heap} {L : Addr} {m : Str → Option Value} {env : Env} {elt ct : Expr} {x : Str} {scope : Scope} {cl : List (Str × Addr)} {s : Shared} {S : List (Addr × Obj) → Prop} {P : Nat → Value → Prop} {Fin : List Value → List (Addr × Obj) → Prop} {news : List (Addr × Obj)} {n : Nat}
theorem rest_map (R : Nat → Value → Prop) (hS : S news)
    (turn : ∀ i v I oI C oC D m₂ ys h tk (E' : Value → Shared → Prop), i < n → P i v → LCg.NsObj oC m₂ → m₂ x = some v → Fr h₀ L h m → News h₀ L h ((I, oI) :: (C, oC) :: (D, LCg.lst ys) :: news) → LCg.Off3 I C D news → ((@Ne Nat I C) ∧ (@Ne Nat I D) ∧ (@Ne Nat C D)) →
      wpAny (model prog w) A (eval elt (compEnvC scope cl C env)) (ElPost h₀ L m { s with heap := h, toks := tk } ((I, oI) :: (C, oC) :: (D, LCg.lst ys) :: news) (R i)) E' { s with heap := h, toks := tk })
    (fin : ∀ ys : List Value, ys.length = n → (∀ i y, ys[i]? = some y → R i y) → Fin ys news) : LCg.CompRest prog w A h₀ L m env elt x scope cl s S P Fin n 0 [] news := by
  have key : ∀ (j i : Nat) (ys : List Value), i + j = n → ys.length = i → (∀ i y, ys[i]? = some y → R i y) → LCg.CompRest prog w A h₀ L m env elt x scope cl s S P Fin j i ys news := by
    intro j
    induction j with
    | zero =>
      intro i ys hi hl hy
      exact LCg.CompRest.zero (fin ys (by omega) hy)
    | succ j ih =>
      intro i ys hi hl hy
      refine LCg.CompRest.succ ?_
      intro v I oI C oC D m₂ h tk E' hv hC hx F N off ne
      refine wpAny_mono (turn i v I oI C oC D m₂ ys h tk E' (by omega) hv hC hx F N off ne) (fun y s₂ hq => ?_) fun _ _ e => e
      obtain ⟨h', tk', rfl, F', N', hr⟩ := hq
      refine ⟨h', tk', news, rfl, F', N', off, hS, ih (i + 1) _ (by omega) (by simp [hl]) ?_⟩
      intro k y' hk
      rw [List.getElem?_append] at hk
      split at hk
      · exact hy k y' hk
      · rename_i hge
        have : k - ys.length = 0 := by
          cases hq : k - ys.length with
          | zero => rfl
          | succ q => rw [hq] at hk; simp at hk
        rw [this] at hk
        simp at hk
        subst hk
        have : k = i := by omega
        rw [this]; exact hr
  exact key n 0 [] (by omega) rfl (fun i y h => by simp at h)
/-- with one test -/
theorem rest_filter (b : Nat → Bool) (R : Nat → Value → Prop) (hS : S news)
    (test : ∀ i v I oI C oC D m₂ ys h tk (E' : Value → Shared → Prop), i < n → P i v → LCg.NsObj oC m₂ → m₂ x = some v → Fr h₀ L h m → News h₀ L h ((I, oI) :: (C, oC) :: (D, LCg.lst ys) :: news) → LCg.Off3 I C D news → ((@Ne Nat I C) ∧ (@Ne Nat I D) ∧ (@Ne Nat C D)) →
      wpAny (model prog w) A (isTrue ct (compEnvC scope cl C env) (eval ct (compEnvC scope cl C env))) (TestPost h₀ L m { s with heap := h, toks := tk } ((I, oI) :: (C, oC) :: (D, LCg.lst ys) :: news) (b i)) E' { s with heap := h, toks := tk })
    (turn : ∀ i v I oI C oC D m₂ ys h tk (E' : Value → Shared → Prop), i < n → b i = true → P i v → LCg.NsObj oC m₂ → m₂ x = some v → Fr h₀ L h m → News h₀ L h ((I, oI) :: (C, oC) :: (D, LCg.lst ys) :: news) → LCg.Off3 I C D news → ((@Ne Nat I C) ∧ (@Ne Nat I D) ∧ (@Ne Nat C D)) →
      wpAny (model prog w) A (eval elt (compEnvC scope cl C env)) (ElPost h₀ L m { s with heap := h, toks := tk } ((I, oI) :: (C, oC) :: (D, LCg.lst ys) :: news) (R i)) E' { s with heap := h, toks := tk })
    (fin : ∀ (ys : List Value) (ks : List Nat), ks = (List.range n).filter b → ys.length = ks.length → (∀ (j i : Nat) (y : Value), ks[j]? = some i → ys[j]? = some y → R i y) → Fin ys news) : LCt.CompRestT prog w A h₀ L m env ct elt x scope cl s S P Fin n 0 [] news := by
  have key : ∀ (j i : Nat) (ys : List Value) (ks : List Nat), i + j = n → ks = (List.range i).filter b → ys.length = ks.length → (∀ (j i : Nat) (y : Value), ks[j]? = some i → ys[j]? = some y → R i y) → LCt.CompRestT prog w A h₀ L m env ct elt x scope cl s S P Fin j i ys news := by
    intro j
    induction j with
    | zero =>
      intro i ys ks hi hk hl hy
      have : i = n := by omega
      subst this
      exact LCt.CompRestT.zero (fin ys ks hk hl hy)
    | succ j ih =>
      intro i ys ks hi hk hl hy
      refine LCt.CompRestT.succ ?_
      intro v I oI C oC D m₂ h tk E' hv hC hx F N off ne
      refine wpAny_mono (test i v I oI C oC D m₂ ys h tk E' (by omega) hv hC hx F N off ne) (fun ok s₂ hq => ?_) fun _ _ e => e
      obtain ⟨h', tk', rfl, F', N', rfl⟩ := hq
      cases hb : b i with
      | true =>
        rw [if_pos rfl]
        refine wpAny_mono (turn i v I oI C oC D m₂ ys h' tk' E' (by omega) hb hv hC hx F' N' off ne) (fun y s₃ hq => ?_) fun _ _ e => e
        obtain ⟨h'', tk'', rfl, F'', N'', hr⟩ := hq
        refine ⟨h'', tk'', news, rfl, F'', N'', off, hS, ih (i + 1) _ (ks ++ [i]) (by omega) ?_ (by simp [hl]) ?_⟩
        · rw [List.range_succ, List.filter_append, hk]; simp [hb]
        · intro q i' y' h1 h2
          by_cases hlt : q < ks.length
          · rw [List.getElem?_append_left hlt] at h1
            rw [List.getElem?_append_left (by omega)] at h2
            exact hy q i' y' h1 h2
          · have hq : q = ks.length := by
              have := (List.getElem?_eq_some_iff.mp h1).1
              simp at this
              omega
            subst hq
            simp at h1
            rw [← hl] at h2
            simp at h2
            subst h1; subst h2; exact hr
      | false =>
        rw [if_neg (by simp)]
        refine ⟨h', tk', news, rfl, F', N', off, hS, ih (i + 1) ys ks (by omega) ?_ hl hy⟩
        rw [List.range_succ, List.filter_append, hk]; simp [hb]
  exact key n 0 [] [] (by omega) rfl rfl (fun j i y h _ => by simp at h)
end
/-- texts out of a map -/
theorem strs_of {g : Nat → Str} : ∀ {n : Nat} {ys : List Value}, ys.length = n → (∀ i y, ys[i]? = some y → ∃ t, y = Value.str (g i) t) → ∃ l : List (Str × Tok), ys = strValues l ∧ l.map (·.1) = (List.range n).map g := by
  intro n
  induction n with
  | zero =>
    intro ys hl _
    have : ys = [] := List.eq_nil_of_length_eq_zero hl
    subst this
    exact ⟨[], rfl, rfl⟩
  | succ n ih =>
    intro ys hl hy
    have hne : ys ≠ [] := by intro h; subst h; simp at hl
    obtain ⟨init, z, rfl⟩ : ∃ init z, ys = init ++ [z] := ⟨ys.dropLast, ys.getLast hne, (List.dropLast_concat_getLast hne).symm⟩
    have hli : init.length = n := by simpa using hl
    obtain ⟨l, h1, h2⟩ := ih hli (fun i y h => hy i y (by rw [List.getElem?_append_left (List.getElem?_eq_some_iff.mp h).1]; exact h))
    obtain ⟨t, ht⟩ := hy n z (by rw [← hli]; simp)
    refine ⟨l ++ [(g n, t)], ?_, ?_⟩
    · rw [h1, ht]; simp [strValues]
    · rw [List.range_succ, List.map_append, List.map_append, h2]; rfl
section
variable {prog : Program} {w : World} {A : Around} {h₀ : Heap} {L : Addr} {m : Str → Option Value} {env : Env} {elt ct : Expr} {x : Str} {scope : Scope} {cl : List (Str × Addr)} {s : Shared} {S : List (Addr × Obj) → Prop} {P : Nat → Value → Prop} {Fin : List Value → List (Addr × Obj) → Prop} {news : List (Addr × Obj)} {n : Nat}
theorem rest_strs (g : Nat → Str) (hS : S news)
    (turn : ∀ i v I oI C oC D m₂ ys h tk (E' : Value → Shared → Prop), i < n → P i v → LCg.NsObj oC m₂ → m₂ x = some v → Fr h₀ L h m → News h₀ L h ((I, oI) :: (C, oC) :: (D, LCg.lst ys) :: news) → LCg.Off3 I C D news → ((@Ne Nat I C) ∧ (@Ne Nat I D) ∧ (@Ne Nat C D)) →
      wpAny (model prog w) A (eval elt (compEnvC scope cl C env)) (ElPost h₀ L m { s with heap := h, toks := tk } ((I, oI) :: (C, oC) :: (D, LCg.lst ys) :: news) (fun y => ∃ t, y = Value.str (g i) t)) E' { s with heap := h, toks := tk })
    (fin : ∀ l : List (Str × Tok), l.map (·.1) = (List.range n).map g → l.length = n → Fin (strValues l) news) : LCg.CompRest prog w A h₀ L m env elt x scope cl s S P Fin n 0 [] news :=
  rest_map (fun i y => ∃ t, y = Value.str (g i) t) hS turn (fun ys hl hy => by
    obtain ⟨l, rfl, h2⟩ := strs_of hl hy
    exact fin l h2 (by have := congrArg List.length h2; simpa using this))
end
end Mine
end PartBaseE

section PartBaseF
open PySem PySem.W PyProof.Rows
set_option Elab.async false
set_option maxRecDepth 100000
namespace Mine
theorem freshBaseF : True ∧ True := by
  w_top off
  first | (walk1; all_goals trivial) | exact ⟨trivial, trivial⟩
section
variable {prog : Program} {w : World} {A : Around} {E : Value → Shared → Prop} {s : Shared} {h₀ : Heap} {L a b : Addr} {m : Str → Option Value} {news : List (Addr × Obj)} {l l2 : List (Str × Tok)} {n n2 : Nat} {Q : Value → Shared → Prop} {its : Array Value}
theorem strs_ne_nil (N : News h₀ L s.heap news) (ha : (a, listOf (strValues l).toArray n) ∈ news) (hb : (b, listOf its n2) ∈ news) (hi : its = #[]) (hu : A.units < cLine)
    (h : Q (.bool (decide (l ≠ []))) s) : wpAny (model prog w) A (compareOp .NotEq (.ref a) (.ref b)) Q E s := by
  subst hi
  refine cmp_ofNotEq ?_
  cases l with
  | nil => exact PySem.SeqAt.RcNeAt.lists (items := #[]) (items2 := #[]) (e := fun _ => true) (News.isList N ha) (News.isList N hb) rfl hu (fun j h1 _ => absurd h1 (Nat.not_lt_zero _)) prog w E Q (by simpa using h)
  | cons p l => exact PySem.SeqAt.RcNeAt.lists_lengths (News.isList N ha) (News.isList N hb) (by simp [strValues]) hu prog w E Q (by simpa using h)
end
end Mine
end PartBaseF

section PartBaseG
open PySem PySem.W PyProof.Rows
set_option Elab.async false
set_option maxRecDepth 100000
namespace Mine
theorem freshBaseG : True ∧ True := by
  w_top off
  first | (walk1; all_goals trivial) | exact ⟨trivial, trivial⟩
section
variable {prog : Program} {w : World} {A : Around} {E : Value → Shared → Prop} {s : Shared} {h₀ : Heap} {L a b D : Addr} {m : Str → Option Value} {news : List (Addr × Obj)} {l l2 : List (Str × Tok)} {n n2 : Nat} {Q : Value → Shared → Prop} {its : Array Value} {value slice : Expr} {c : Str} {t : Tok}
end
end Mine
end PartBaseG

section PartBaseH
open PySem PySem.W PyProof.Rows
set_option Elab.async false
set_option maxRecDepth 100000
set_option linter.unusedVariables false
namespace Mine
theorem freshBaseH : True ∧ True := by
  w_top off
  first | (walk1; all_goals trivial) | exact ⟨trivial, trivial⟩
def Stop (p : Prop) : Prop := p
theorem of_stop {p : Prop} (h : Stop p) : p := h
theorem to_stop {p : Prop} (h : p) : Stop p := h
theorem range_getD {α β : Type} (f : α → β) (d : α) (l : List α) {n : Nat} (hn : n = l.length) : (List.range n).map (fun i => f (l.getD i d)) = l.map f := by
  subst hn
  apply List.ext_getElem
  · simp
  · intro i h1 h2
    simp at h1
    simp [h1]
section
variable {prog : Program} {w : World} {A : Around} {h₀ : Heap} {L ax : Addr} {m : Str → Option Value} {env : Env} {elt ct : Expr} {x : Str} {scope : Scope} {cl : List (Str × Addr)} {s₁ : Shared} {Fin : Shared → List Value → List (Addr × Obj) → Prop} {news : List (Addr × Obj)} {n k : Nat} {ws : List Value} {xs : List Int} {l : List (Str × Tok)}
/-- texts made of each text of a ledger list -/
theorem src_strs (f : Str → Str) (hh : A.handled = none) (F : Fr h₀ L s₁.heap m) (N : News h₀ L s₁.heap news) (hm : (ax, listOf (strValues l).toArray k) ∈ news) (hz : l.length ≤ 100000)
    (turn : ∀ z t I oI C oC D m₂ ys h tk (E' : Value → Shared → Prop), (z, t) ∈ l → LCg.NsObj oC m₂ → m₂ x = some (.str z t) → Fr h₀ L h m → News h₀ L h ((I, oI) :: (C, oC) :: (D, LCg.lst ys) :: news) → LCg.Off3 I C D news → ((@Ne Nat I C) ∧ (@Ne Nat I D) ∧ (@Ne Nat C D)) →
      wpAny (model prog w) A (eval elt (compEnvC scope cl C env)) (ElPost h₀ L m { s₁ with heap := h, toks := tk } ((I, oI) :: (C, oC) :: (D, LCg.lst ys) :: news) (fun y => ∃ t, y = Value.str (f z) t)) E' { s₁ with heap := h, toks := tk })
    (fin : ∀ g (l2 : List (Str × Tok)), l2.map (·.1) = (l.map (·.1)).map f → l2.length = l.length → Fin { s₁ with heap := g } (strValues l2) news) : LCg.CompSrc prog w A h₀ L m env elt x scope cl Fin (.ref ax) s₁ := by
  refine LCg.CompSrc.ledger hh F N hm (by rw [List.size_toArray, strValues_len, sizeLine_eq]; omega) fun g => ?_
  refine rest_strs (fun i => f ((l.map (·.1)).getD i (Str.ofString ""))) (.inr ⟨_, hm, rfl, _, rfl⟩) ?_ ?_
  · intro i v I oI C oC D m₂ ys h tk E' hi hv hC hx F' N' off ne
    rw [List.getElem?_toArray, strValues, List.getElem?_map] at hv
    cases hq : l[i]? with
    | none => rw [hq] at hv; cases hv
    | some q =>
      rw [hq] at hv
      obtain rfl := Option.some.inj hv
      have e : (l.map (·.1)).getD i (Str.ofString "") = q.1 := by rw [List.getD_eq_getElem?_getD, List.getElem?_map, hq]; rfl
      dsimp only
      rw [e]
      exact turn q.1 q.2 I oI C oC D m₂ ys h tk E' (List.mem_of_getElem? hq) hC hx F' N' off ne
  · intro l2 h1 h2
    have e : (strValues l).toArray.size = (l.map (·.1)).length := by rw [List.size_toArray, strValues_len, List.length_map]
    rw [range_getD f _ _ e] at h1
    exact fin g l2 h1 (by rw [h2, e, List.length_map])
end
end Mine
end PartBaseH

section PartBaseI
open PySem PySem.W PyProof.Rows
set_option Elab.async false
set_option maxRecDepth 100000
set_option linter.unusedVariables false
namespace Mine
theorem freshBaseI : True ∧ True := by
  w_top off
  first | (walk1; all_goals trivial) | exact ⟨trivial, trivial⟩
section
variable {prog : Program} {w : World} {A : Around} {E : Value → Shared → Prop} {s : Shared} {env : Env} {h₀ : Heap} {body : List Stmt} {Q : Flow → Shared → Prop}
end
end Mine
end PartBaseI

section PartBaseJ
open PySem PySem.W PyProof.Rows
set_option Elab.async false
set_option maxRecDepth 100000
set_option linter.unusedVariables false
namespace Mine
theorem freshBaseJ : True ∧ True := by
  w_top off
  first | (walk1; all_goals trivial) | exact ⟨trivial, trivial⟩
theorem own_setit : Manifest.owners.lookup (String.ofList ['r', 'o', 't', 'a', 'r', 'e', 't', 'i', '_', 't', 'e', 's'].reverse) = some Manifest.sig_set_iterator := by kernel_rfl
theorem slot_setit_next : Slot "set_iterator" "__next__" "set_iterator.__next__" :=
  .of (owner := "set_iterator") (n := "__next__") (by rw [typeLookup_type, builtinLookup_eq_fast]; kernel_rfl) (by decide +kernel) (by decide +kernel) (by decide +kernel)
    (by first | exact .inl (by decide +kernel) | exact .inr (by decide +kernel)) (by rw [isSubtype_type]; kernel_rfl)
theorem entry_setit_next : entryFor table "set_iterator.__next__" = some Builtin.«set_iterator.__next__» := entryFor_of_tree (by kernel_rfl)
theorem args_setit_next (a : Value) : argsOk "set_iterator.__next__" ⟨[a], []⟩ := by
  unfold argsOk; rw [signature?_of (id := "set_iterator.__next__") (n := ['_', '_', 't', 'x', 'e', 'n', '_', '_']) (o := ['r', 'o', 't', 'a', 'r', 'e', 't', 'i', '_', 't', 'e', 's']) (by kernel_rfl) own_setit]; kernel_rfl
theorem entry_set_iter : entryFor table "set.__iter__" = some Builtin.«frozenset.__iter__» :=
  entryFor_alias (id' := "frozenset.__iter__") (by kernel_rfl) rfl (by decide +kernel) (by kernel_rfl)
section
variable {prog : Program} {w : World} {A : Around} {E : Value → Shared → Prop} {s : Shared} {env : Env} {h₀ : Heap} {D I : Addr} {led : Bool}
end
end Mine
end PartBaseJ

section PartBaseK
open PySem PySem.W PyProof.Rows
set_option Elab.async false
set_option maxRecDepth 100000
set_option linter.unusedVariables false
namespace Mine
theorem freshBaseK : True ∧ True := by
  w_top off
  first | (walk1; all_goals trivial) | exact ⟨trivial, trivial⟩
theorem all_t (n : Nat) : ((List.range n).all fun _ => true) = true := List.all_eq_true.mpr fun _ _ => rfl
section
variable {prog : Program} {w : World} {A : Around} {E : Value → Shared → Prop} {s : Shared} {h₀ : Heap} {L a b D ax : Addr} {m : Str → Option Value} {news news' : List (Addr × Obj)} {l : List (Str × Tok)} {n n2 k : Nat} {Q : Value → Shared → Prop} {value slice : Expr} {vs : List Value} {u : Tok}
theorem vals_append {v : Value} (F : Fr h₀ L s.heap m) (N : News h₀ L s.heap news) (U : Upd D (listOf vs.toArray n) (listOf (vs ++ [v]).toArray (n + 1)) news news') (hz : vs.length ≤ 100000)
    (h : ∀ h', Fr h₀ L h' m → News h₀ L h' news' → Q .none { s with heap := h' }) : wpAny (model prog w) A (call (.builtin "list.append") [.ref D, v]) Q E s := by
  have e : (vs ++ [v]).toArray = vs.toArray.push v := by simp
  rw [e] at U
  exact append_K F N U h (by rw [List.size_toArray, sizeLine_eq]; omega)
end
section
variable {prog : Program} {w : World} {A : Around} {h₀ : Heap} {L ax : Addr} {m : Str → Option Value} {env : Env} {elt ct : Expr} {x : Str} {scope : Scope} {cl : List (Str × Addr)} {s₁ : Shared} {Fin : Shared → List Value → List (Addr × Obj) → Prop} {news : List (Addr × Obj)} {k : Nat} {l : List (Str × Tok)}
theorem strs_back : ∀ ys : List Value, (∀ (j : Nat) (y : Value), ys[j]? = some y → ∃ a t, y = Value.str a t) → ∃ l : List (Str × Tok), ys = strValues l
  | [], _ => ⟨[], rfl⟩
  | y :: ys, h => by
    obtain ⟨a, t, rfl⟩ := h 0 y rfl
    obtain ⟨l, e⟩ := strs_back ys fun j z hz => h (j + 1) z (by simpa using hz)
    exact ⟨(a, t) :: l, by rw [e]; rfl⟩
/-- the texts of a ledger list that pass a test -/
theorem src_pick (f : Str → Bool) (hh : A.handled = none) (F : Fr h₀ L s₁.heap m) (N : News h₀ L s₁.heap news) (hm : (ax, listOf (strValues l).toArray k) ∈ news) (hz : l.length ≤ 100000)
    (test : ∀ z t I oI C oC D m₂ ys h tk (E' : Value → Shared → Prop), (z, t) ∈ l → LCg.NsObj oC m₂ → m₂ x = some (.str z t) → Fr h₀ L h m → News h₀ L h ((I, oI) :: (C, oC) :: (D, LCg.lst ys) :: news) → LCg.Off3 I C D news → ((@Ne Nat I C) ∧ (@Ne Nat I D) ∧ (@Ne Nat C D)) →
      wpAny (model prog w) A (isTrue ct (compEnvC scope cl C env) (eval ct (compEnvC scope cl C env))) (TestPost h₀ L m { s₁ with heap := h, toks := tk } ((I, oI) :: (C, oC) :: (D, LCg.lst ys) :: news) (f z)) E' { s₁ with heap := h, toks := tk })
    (turn : ∀ z t I oI C oC D m₂ ys h tk (E' : Value → Shared → Prop), (z, t) ∈ l → LCg.NsObj oC m₂ → m₂ x = some (.str z t) → Fr h₀ L h m → News h₀ L h ((I, oI) :: (C, oC) :: (D, LCg.lst ys) :: news) → LCg.Off3 I C D news → ((@Ne Nat I C) ∧ (@Ne Nat I D) ∧ (@Ne Nat C D)) →
      wpAny (model prog w) A (eval elt (compEnvC scope cl C env)) (ElPost h₀ L m { s₁ with heap := h, toks := tk } ((I, oI) :: (C, oC) :: (D, LCg.lst ys) :: news) (fun y => ∃ a t, y = Value.str a t)) E' { s₁ with heap := h, toks := tk })
    (fin : ∀ g (l2 : List (Str × Tok)), l2.length ≤ l.length → (l2 ≠ [] ↔ (l.map (·.1)).any f = true) → Fin { s₁ with heap := g } (strValues l2) news) : LCt.CompSrcT prog w A h₀ L m env ct elt x scope cl Fin (.ref ax) s₁ := by
  have pick : ∀ (i : Nat) (v : Value), (strValues l).toArray[i]? = some v → ∃ q : Str × Tok, l[i]? = some q ∧ v = Value.str q.1 q.2 := by
    intro i v hv
    rw [List.getElem?_toArray, strValues, List.getElem?_map] at hv
    cases hq : l[i]? with
    | none => rw [hq] at hv; cases hv
    | some q => rw [hq] at hv; exact ⟨q, rfl, (Option.some.inj hv).symm⟩
  have at_is : ∀ (i : Nat) (q : Str × Tok), l[i]? = some q → (l.map (·.1)).getD i (Str.ofString "") = q.1 := fun i q h => by rw [List.getD_eq_getElem?_getD, List.getElem?_map, h]; rfl
  refine LCt.CompSrcT.ledger hh F N hm (by rw [List.size_toArray, strValues_len, sizeLine_eq]; omega) fun g => ?_
  refine rest_filter (fun i => f ((l.map (·.1)).getD i (Str.ofString ""))) (fun _ y => ∃ a t, y = Value.str a t) (.inr ⟨_, hm, rfl, _, rfl⟩) ?_ ?_ ?_
  · intro i v I oI C oC D m₂ ys h tk E' hi hv hC hx F' N' off ne
    obtain ⟨q, hq, rfl⟩ := pick i v hv
    dsimp only
    rw [at_is i q hq]
    exact test q.1 q.2 I oI C oC D m₂ ys h tk E' (List.mem_of_getElem? hq) hC hx F' N' off ne
  · intro i v I oI C oC D m₂ ys h tk E' hi _ hv hC hx F' N' off ne
    obtain ⟨q, hq, rfl⟩ := pick i v hv
    exact turn q.1 q.2 I oI C oC D m₂ ys h tk E' (List.mem_of_getElem? hq) hC hx F' N' off ne
  · intro ys ks hks hl hR
    obtain ⟨l2, rfl⟩ := strs_back ys fun j y hy => by
      have hj : j < ks.length := by rw [← hl]; exact (List.getElem?_eq_some_iff.mp hy).1
      exact hR j ks[j] y (by simp [hj]) hy
    rw [strValues_len] at hl
    refine fin g l2 ?_ ?_
    · rw [hl, hks]
      refine Nat.le_trans (List.length_filter_le _ _) ?_
      simp [strValues]
    · have e : l2 ≠ [] ↔ ks ≠ [] := by
        constructor
        · intro h h2; rw [h2] at hl; exact h (List.eq_nil_of_length_eq_zero hl)
        · intro h h2; rw [h2] at hl; exact h (List.eq_nil_of_length_eq_zero hl.symm)
      rw [e, hks, List.any_eq_true]
      constructor
      · intro h
        obtain ⟨i, hi⟩ := List.exists_mem_of_ne_nil _ h
        obtain ⟨h1, h2⟩ := List.mem_filter.mp hi
        have hlt : i < l.length := by simpa [strValues] using h1
        refine ⟨(l.map (·.1)).getD i (Str.ofString ""), ?_, h2⟩
        rw [List.getD_eq_getElem?_getD, List.getElem?_map]
        simp [hlt]
        exact ⟨_, List.getElem_mem hlt⟩
      · rintro ⟨z, hz, hf⟩ h
        obtain ⟨q, hq, rfl⟩ := List.mem_map.mp hz
        obtain ⟨i, hi, rfl⟩ := List.mem_iff_getElem.mp hq
        have : i ∈ (List.range (strValues l).toArray.size).filter (fun i => f ((l.map (·.1)).getD i (Str.ofString ""))) :=
          List.mem_filter.mpr ⟨by simpa [strValues] using hi, by rw [at_is i l[i] (by simp [hi])]; exact hf⟩
        rw [h] at this
        cases this
end
end Mine
end PartBaseK

section PartS1a
open PySem PySem.W PyProof.Rows
set_option Elab.async false
set_option maxRecDepth 100000
set_option genSizeOf false
set_option genInjectivity false
namespace Mine
theorem freshS1a : True ∧ True := by
  w_top off
  first | (walk1; all_goals trivial) | exact ⟨trivial, trivial⟩
open SetTable in
/-- an empty slot stands at most n turns off -/
def emptyIn (t : SetTable) : Nat → Probe → Prop
  | 0, p => t.slot p.j = .empty
  | n + 1, p => t.slot p.j = .empty ∨ emptyIn t n (t.advance p)
/-- the small tables: eight slots, at most three of them taken, no dummies -/
def risers : Nat → List (List Nat)
  | 0 => [[]]
  | n + 1 => (risers n).flatMap fun l => (List.range 8).filterMap fun j => if l.all (fun i => decide (i < j)) then some (l ++ [j]) else none
def places : List (List Nat) := risers 0 ++ risers 1 ++ risers 2 ++ risers 3
structure Small (t : SetTable) : Prop where
  mask : t.mask = 7
  dummies : t.dummies = #[]
  place : t.place.toList ∈ places
def cyc (i : Nat) : Nat := (i * 5 + 1) % 8
def freeAt (l : List Nat) (j : Nat) : Bool := !(l.toArray[SetTable.below l.toArray j]? == some j)
def freeIn (l : List Nat) : Nat → Nat → Bool
  | 0, i => freeAt l i
  | n + 1, i => freeAt l i || freeIn l n (cyc i)
theorem free_all : ∀ l ∈ places, ∀ i : Nat, i < 8 → freeIn l 7 i = true := by decide +kernel
theorem has_nil (j : Nat) : SetTable.has #[] j = false := rfl
theorem slot_empty {t : SetTable} (h : Small t) {j : Nat} (hj : freeAt t.place.toList j = true) : t.slot j = .empty := by
  unfold SetTable.slot
  unfold freeAt at hj
  rw [Array.toArray_toList] at hj
  simp only [Bool.not_eq_true'] at hj
  dsimp only
  rw [if_neg (by rw [hj]; exact Bool.false_ne_true), h.dummies, if_neg (by rw [has_nil]; exact Bool.false_ne_true)]
structure Still (p : SetTable.Probe) : Prop where
  more : p.more = 0
  same : p.j = p.i
  low : p.i < 8
  dummy : p.dummy = none
theorem runEnd7 (i : Nat) : SetTable.runEnd 7 i - i = 0 := by
  unfold SetTable.runEnd
  rw [if_neg (by omega)]
  omega
theorem advance_of {t : SetTable} (h : Small t) {p : SetTable.Probe} (hp : Still p) : t.advance p = { j := (p.i * 5 + 1 + p.perturb / 32) % 8, more := 0, i := (p.i * 5 + 1 + p.perturb / 32) % 8, perturb := p.perturb / 32, dummy := none } := by
  unfold SetTable.advance
  rw [if_neg (by rw [hp.more]; omega)]
  simp only [SetTable.leap, h.mask, runEnd7, hp.dummy]
theorem advance_still {t : SetTable} (h : Small t) {p : SetTable.Probe} (hp : Still p) : Still (t.advance p) := by
  rw [advance_of h hp]
  exact ⟨rfl, rfl, Nat.mod_lt _ (by omega), rfl⟩
theorem empty_zero {t : SetTable} (h : Small t) : ∀ {n : Nat} {p : SetTable.Probe}, Still p → p.perturb = 0 → freeIn t.place.toList n p.j = true → emptyIn t n p
  | 0, _, _, _, hf => slot_empty h hf
  | n + 1, p, hp, h0, hf => by
    simp only [freeIn, Bool.or_eq_true] at hf
    rcases hf with hf | hf
    · exact Or.inl (slot_empty h hf)
    · refine Or.inr (empty_zero h (advance_still h hp) ?_ ?_)
      · rw [advance_of h hp]; simp [h0]
      · rw [advance_of h hp]
        simp only [h0, Nat.zero_div, Nat.add_zero]
        rw [hp.same] at hf
        exact hf
theorem empty_small {t : SetTable} (h : Small t) : ∀ (k : Nat) {p : SetTable.Probe}, Still p → p.perturb < 32 ^ k → emptyIn t (7 + k) p
  | 0, p, hp, hk => empty_zero h hp (by simpa using hk) (free_all _ h.place _ (by rw [hp.same]; exact hp.low))
  | k + 1, p, hp, hk => by
    refine Or.inr (empty_small h k (advance_still h hp) ?_)
    rw [advance_of h hp]
    dsimp only
    rw [Nat.pow_succ] at hk
    exact Nat.div_lt_of_lt_mul (by rw [Nat.mul_comm]; exact hk)
theorem start_still {t : SetTable} (h : Small t) (x : Int) : Still (t.probeStart x) ∧ (t.probeStart x).perturb < 32 ^ 13 := by
  unfold SetTable.probeStart
  refine ⟨⟨?_, rfl, ?_, rfl⟩, ?_⟩
  · dsimp only; rw [h.mask]; exact runEnd7 _
  · dsimp only; rw [h.mask]; exact Nat.mod_lt _ (by omega)
  · dsimp only [SetTable.bits]
    have h1 : x % (2 ^ 64 : Int) < 2 ^ 64 := Int.emod_lt_of_pos _ (by decide)
    have h2 : 0 ≤ x % (2 ^ 64 : Int) := Int.emod_nonneg _ (by decide)
    omega
theorem start_empty {t : SetTable} (h : Small t) (x : Int) : emptyIn t 20 (t.probeStart x) := empty_small h 13 (start_still h x).1 (start_still h x).2
/-- what the probe meets -/
theorem go_meets {t : SetTable} (h : Small t) {hashAt : Nat → Int} {x : Int} : ∀ {n fuel : Nat} {p : SetTable.Probe}, Still p → emptyIn t n p → n < fuel →
    (∃ j, SetTable.probe.go t hashAt x fuel p = some (.empty j none) ∧ t.slot j = .empty ∧ j < 8) ∨
    ∃ j i next m, SetTable.probe.go t hashAt x fuel p = some (.candidate j i next) ∧ m < n ∧ emptyIn t m next ∧ Still next ∧ hashAt i = x ∧ t.slot j = .live i := by
  intro n
  induction n with
  | zero =>
    intro fuel p hp he hf
    obtain ⟨f, rfl⟩ : ∃ f, fuel = f + 1 := ⟨fuel - 1, by omega⟩
    left
    refine ⟨p.j, ?_⟩
    have he' : t.slot p.j = .empty := he
    refine ⟨by simp only [SetTable.probe.go, he', hp.dummy], he', by rw [hp.same]; exact hp.low⟩
  | succ n ih =>
    intro fuel p hp he hf
    obtain ⟨f, rfl⟩ : ∃ f, fuel = f + 1 := ⟨fuel - 1, by omega⟩
    cases hs : t.slot p.j with
    | empty => left; exact ⟨p.j, by simp only [SetTable.probe.go, hs, hp.dummy], hs, by rw [hp.same]; exact hp.low⟩
    | dummy =>
      exfalso
      unfold SetTable.slot at hs
      dsimp only at hs
      split at hs
      · cases hs
      · rw [h.dummies, if_neg (by rw [has_nil]; exact Bool.false_ne_true)] at hs
        cases hs
    | live i =>
      have hn : emptyIn t n (t.advance p) := by
        rcases he with he | he
        · rw [hs] at he; cases he
        · exact he
      by_cases hx : hashAt i = x
      · right
        refine ⟨p.j, i, t.advance p, n, ?_, Nat.lt_succ_self _, hn, advance_still h hp, hx, hs⟩
        simp only [SetTable.probe.go, hs, hx, beq_self_eq_true, if_true]
      · have e : SetTable.probe.go t hashAt x (f + 1) p = SetTable.probe.go t hashAt x f (t.advance p) := by
          have : (hashAt i == x) = false := by simpa using hx
          simp only [SetTable.probe.go, hs, this, Bool.false_eq_true, if_false]
        rw [e]
        rcases ih (fuel := f) (advance_still h hp) hn (by omega) with h1 | ⟨j, i', nx, m, h1, h2, r⟩
        · exact Or.inl h1
        · exact Or.inr ⟨j, i', nx, m, h1, Nat.lt_succ_of_lt h2, r⟩
/-- where a new item goes -/
theorem free_slot {t : SetTable} (h : Small t) (x : Int) : ∃ j, t.freeSlot x = some (j, false) ∧ t.slot j = .empty ∧ j < 8 := by
  rcases go_meets h (hashAt := fun _ => x + 1) (x := x) (n := 20) (fuel := 10 * SetTable.turns t.mask) (start_still h x).1 (start_empty h x) (by rw [h.mask]; decide) with ⟨j, h1, h2, h3⟩ | ⟨j, i, nx, m, _, _, _, _, h1, _⟩
  · refine ⟨j, ?_, h2, h3⟩
    unfold SetTable.freeSlot SetTable.probe
    rw [h1]
    rfl
  · exact absurd h1 (by omega)
def insL (l : List Nat) (j : Nat) : List Nat := (SetTable.insertAt l.toArray (SetTable.below l.toArray j) j).toList
theorem ins_all : ∀ l ∈ places, ∀ j : Nat, j < 8 → l.length ≤ 2 → freeAt l j = true → insL l j ∈ places ∧ (insL l j).length = l.length + 1 := by decide +kernel
theorem free_of_slot {t : SetTable} (h : Small t) {j : Nat} (hs : t.slot j = .empty) : freeAt t.place.toList j = true := by
  unfold freeAt
  rw [Array.toArray_toList]
  unfold SetTable.slot at hs
  dsimp only at hs
  split at hs
  · cases hs
  · rename_i hn
    simpa using hn
theorem put_small {t : SetTable} (h : Small t) {j : Nat} (hs : t.slot j = .empty) (hj : j < 8) (hn : t.place.size ≤ 2) :
    Small (t.put j).1 ∧ (t.put j).1.place.size = t.place.size + 1 := by
  have h1 := ins_all _ h.place j hj (by rw [Array.length_toList]; exact hn) (free_of_slot h hs)
  unfold insL at h1
  rw [Array.toArray_toList] at h1
  refine ⟨⟨h.mask, ?_, h1.1⟩, ?_⟩
  · show (if SetTable.has t.dummies j = true then _ else t.dummies) = #[]
    rw [h.dummies, has_nil, if_neg Bool.false_ne_true]
  · have := h1.2
    rw [Array.length_toList, Array.length_toList] at this
    exact this
theorem small_fits {t : SetTable} (h : Small t) {n : Nat} (hn : t.place.size = n) (h3 : n ≤ 3) : t.fits n = true := by
  simp only [SetTable.fits, SetTable.fill, h.mask, h.dummies, hn, Bool.and_eq_true, beq_self_eq_true, true_and, decide_eq_true_eq]
  show n + 0 ≤ 7
  omega
theorem small_room {t : SetTable} (h : Small t) (h3 : t.place.size ≤ 3) : t.tooFull = false := by
  simp only [SetTable.tooFull, SetTable.fill, h.mask, h.dummies, decide_eq_false_iff_not]
  show ¬ (7 * 3 ≤ (t.place.size + 0) * 5)
  omega
theorem small_gave {t : SetTable} (h : Small t) : t.gaveWay = false := by
  simp only [SetTable.gaveWay, h.mask]; rfl
theorem small_fresh (led : Bool) : Small (SetTable.fresh 0 0 led) := ⟨rfl, rfl, by show [] ∈ places; decide⟩
theorem small_unplain {t : SetTable} (h : Small t) : Small { t with plain := false } := ⟨h.mask, h.dummies, h.place⟩
end Mine
end PartS1a

section PartS1b
open PySem PySem.W PyProof.Rows
set_option Elab.async false
set_option maxRecDepth 100000
set_option linter.unusedVariables false
namespace Mine
theorem freshS1b : True ∧ True := by
  w_top off
  first | (walk1; all_goals trivial) | exact ⟨trivial, trivial⟩
def entries (w : World) (l : List (Str × Tok)) : List (Int × Value) := l.map fun p => (hashStr w p.1, Value.str p.1 p.2)
def StrSetObj (w : World) (led : Bool) (l : List (Str × Tok)) (o : Obj) : Prop :=
  ∃ es ep t, o.ExactSet ∧ o.data = .set es ep t ∧ Small t ∧ t.place.size = es.size ∧ t.led = led ∧ (l ≠ [] → t.plain = false) ∧ List.Perm es.toList (entries w l)
theorem entries_len (w : World) (l : List (Str × Tok)) : (entries w l).length = l.length := by simp [entries]
theorem lay_small {t : SetTable} (h : Small t) {es : Array (Int × Value)} (hs : t.place.size = es.size) (h2 : es.size ≤ 2) (x : Int) (v : Value) :
    ∃ j, (layNew t es x v) = (SetTable.insertAt es (t.put j).2 (x, v), (t.put j).1, false, false) ∧ Small (t.put j).1 ∧ (t.put j).1.place.size = es.size + 1 ∧ (SetTable.insertAt es (t.put j).2 (x, v)).size = es.size + 1 := by
  obtain ⟨j, h1, h3, h4⟩ := free_slot h x
  obtain ⟨s1, s2⟩ := put_small h h3 h4 (by omega)
  have hp := layNew_perm t es x v
  have e : (layNew t es x v).1 = SetTable.insertAt es (t.put j).2 (x, v) := by unfold layNew; rw [h1]
  rw [e] at hp
  have hz : (SetTable.insertAt es (t.put j).2 (x, v)).size = es.size + 1 := by
    rw [← Array.length_toList, hp.length_eq, Array.length_toList, Array.size_push]
  refine ⟨j, ?_, s1, by rw [s2, hs], hz⟩
  have hf : (t.put j).1.fits (SetTable.insertAt es (t.put j).2 (x, v)).size = true := small_fits s1 (by rw [s2, hz, hs]) (by rw [hz]; omega)
  unfold layNew
  rw [h1]
  dsimp only
  rw [SetTable.orStandIn, if_pos hf, hf]
  rfl
section
variable {prog : Program} {w : World} {A : Around} {E : Value → Shared → Prop} {s : Shared}
theorem elems_of {es : List (Int × Value)} {l : List (Str × Tok)} (hp : List.Perm es (entries w l)) : ElemsOf (PySem.strKind prog w) es := by
  intro e he
  obtain ⟨p, _, rfl⟩ := List.mem_map.mp (hp.mem_iff.mp he)
  exact ⟨⟨p.1, strKind_is _ _ _ _, rfl⟩, rfl⟩
theorem strset_add {a : Addr} {o : Obj} {led : Bool} {l : List (Str × Tok)} {m : Str} {tm : Tok} {Q : Bool → Shared → Prop} (ho : s.heap.get? a = some o) (hS : StrSetObj w led l o) (hm : m ∉ l.map (·.1)) (h2 : l.length ≤ 2)
    (h : ∀ o', StrSetObj w led (l ++ [(m, tm)]) o' → ∀ h', Heap.SameBut a s.heap h' → h'.get? a = some o' → Q true { s with heap := h' }) :
    wpAny (model prog w) A (setAddHashed a (.str m tm) (hashStr w m)) Q E s := by
  obtain ⟨es, ep, t, hex, hd, hsm, hpl, hled, hpn, hp⟩ := hS
  have hz : es.size = l.length := by rw [← Array.length_toList, hp.length_eq, entries_len]
  have hf : t.fits es.size = true := small_fits hsm hpl (by omega)
  have hel := elems_of (prog := prog) hp
  have hb : es.size < scanBound := by rw [hz]; unfold scanBound; omega
  unfold setAddHashed setAddHashedIn
  refine wpAny_holding (wpAny_bind (wpAny_setState_of ho hd hf ?_))
  dsimp only
  rw [byScan_of (knd := PySem.strKind prog w) rfl hb hel]
  simp only [↓reduceIte]
  unfold setAddByScan
  refine wpAny_bind ?_
  refine wpAny_bind (wpAny_rule ?_)
  refine wpAny_bind (wpAny_setScan_of (knd := PySem.strKind prog w) (k := m) (strKind_is _ _ _ _) ho hd hf hel ?_)
  have hnone : List.findIdx? (fun e => (PySem.strKind prog w).is m e.2) es.toList = none := by
    refine List.findIdx?_eq_none_iff.mpr fun e he => ?_
    obtain ⟨p, hpm, rfl⟩ := List.mem_map.mp (hp.mem_iff.mp he)
    show Value.isStrOf m (.str p.1 p.2) = false
    simp only [Value.isStrOf, beq_eq_false_iff_ne, ne_eq]
    exact fun e => hm (List.mem_map.mpr ⟨p, hpm, e⟩)
  rw [hnone]
  dsimp only
  obtain ⟨j, hL, s1, s2, s3⟩ := lay_small hsm hpl (by omega) (hashStr w m) (.str m tm)
  rw [hL]
  dsimp only
  have hperm := layNew_perm t es (hashStr w m) (.str m tm)
  rw [hL] at hperm
  dsimp only at hperm
  have hpe : List.Perm (SetTable.insertAt es (t.put j).2 (hashStr w m, Value.str m tm)).toList (entries w (l ++ [(m, tm)])) := by
    refine hperm.trans ?_
    rw [Array.toList_push]
    simp only [entries, List.map_append, List.map_cons, List.map_nil]
    exact List.Perm.append_right _ hp
  have fin : ∀ t2 : SetTable, Small t2 → t2.place.size = es.size + 1 → t2.led = led → t2.plain = false →
      wpAny (model prog w) A (do
        storeSet a (SetTable.insertAt es (t.put j).2 (hashStr w m, Value.str m tm)) t2
        if (!false && t2.tooFull) = true then do
            (match (relayAll t2 (SetTable.insertAt es (t.put j).2 (hashStr w m, Value.str m tm)) (SetTable.grown (SetTable.insertAt es (t.put j).2 (hashStr w m, Value.str m tm)).size)).2.2 with | true => rule "set.scan.the-table-gave-way" | false => pure ())
            storeSet a (relayAll t2 (SetTable.insertAt es (t.put j).2 (hashStr w m, Value.str m tm)) (SetTable.grown (SetTable.insertAt es (t.put j).2 (hashStr w m, Value.str m tm)).size)).1 (relayAll t2 (SetTable.insertAt es (t.put j).2 (hashStr w m, Value.str m tm)) (SetTable.grown (SetTable.insertAt es (t.put j).2 (hashStr w m, Value.str m tm)).size)).2.1
            pure (some true)
          else pure (some true)) (fun r s₁ => wpAny (model prog w) A (match r with | some added => pure added | none => setAddHashedIn a (.str m tm) (hashStr w m) 99999) Q E s₁) E s := by
    intro t2 h1 h3 h4 h5
    have hb1 : (SetTable.insertAt es (t.put j).2 (hashStr w m, Value.str m tm)).size < scanBound := by rw [s3, hz]; unfold scanBound; omega
    refine wpAny_bind (wpAny_storeSet_of ho hd ?_ (fits_of_scanBound hb1))
    rw [if_neg (by rw [small_room h1 (by rw [h3]; omega)]; decide)]
    refine wpAny_pure (wpAny_pure (h { o with data := .set (SetTable.insertAt es (t.put j).2 (hashStr w m, Value.str m tm)) (ep + 1) t2 } ⟨_, ep + 1, t2, hex, rfl, h1, by rw [h3, s3], h4, fun _ => h5, hpe⟩ _ (Heap.SameBut.update ..) ?_))
    have := Heap.get?_update_self (Obj.putSet (SetTable.insertAt es (t.put j).2 (hashStr w m, Value.str m tm)) t2) ho (by rw [putSet_of _ t2 hd]; rfl)
    rw [putSet_of _ t2 hd] at this
    exact this
  have hpl2 : (t.put j).1.led = led := hled
  refine wpAny_bind (wpAny_pure ?_)
  split
  · refine wpAny_bind ?_
    rw [hashByValue_scannable 8 (x := .str m tm) rfl]
    refine wpAny_pure ?_
    exact fin _ (small_unplain s1) s2 hpl2 rfl
  · rename_i hpp
    refine wpAny_bind (wpAny_pure ?_)
    exact fin _ s1 s2 hpl2 (by simpa using hpp)
end
end Mine
end PartS1b

section PartS1c
open PySem PySem.W PyProof.Rows
set_option Elab.async false
set_option maxRecDepth 100000
set_option linter.unusedVariables false
namespace Mine
theorem freshS1c : True ∧ True := by
  w_top off
  first | (walk1; all_goals trivial) | exact ⟨trivial, trivial⟩
/-- a set made in this world is led just where its order is not read off the text -/
def ledOf (w : World) : Bool := !w.params.followText "set-order"
section
variable {prog : Program} {w : World} {A : Around} {R : Result → Shared → Prop} {I : Addr} {fp wr : List Addr} {G : Array GenState → Array GenState → Prop} {St : Nat → Shared → Prop} {P : Nat → Value → Prop}
theorem strs_update (items : List (Str × Tok)) (W : WalksS prog w A.in1 I fp wr G items.length P St) (S : Addr) (hSf : S ∉ fp)
    (hval : ∀ i v, P i v → ∃ p, items[i]? = some p ∧ v = .str p.1 p.2) (hnd : (items.map (·.1)).Nodup) (hb : items.length ≤ 3) (led : Bool) :
    ∀ (k i : Nat) (s : Shared), items.length - i = k → i ≤ items.length → St i s → (∃ o, s.heap.get? S = some o ∧ StrSetObj w led (items.take i) o) →
      (∀ s', Moved (S :: wr) G s s' → (∃ o, s'.heap.get? S = some o ∧ StrSetObj w led items o) → R (.ok (.ret .none)) s') →
      codeAny (model prog w) A (.builtin "set.update.loop" ⟨[.ref S, .ref I], []⟩) R s := by
  have hSw : S ∉ wr := fun h => hSf (W.sub _ h)
  have hsub : ∀ b ∈ wr, b ∈ S :: wr := fun b hb => List.mem_cons_of_mem _ hb
  intro k
  induction k with
  | zero =>
    rintro i s hk hi hst ⟨o, ho, hS⟩ hR
    obtain rfl : i = items.length := by omega
    rw [List.take_length] at hS
    refine codeAny_builtin PyProof.Rows.F.entry_set_update_loop ?_
    rw [Around.under_plainId PyProof.Rows.F.plain_set_update_loop _]
    show wpAny _ A.in1 (pyNext (.ref I) >>= _) _ _ s
    refine wpAny_bind (W.done s _ _ hst fun s' hm => ?_)
    show wpAny _ A.in1 (ret Value.none) _ _ s'
    exact wpAny_pure (hR s' (hm.mono hsub) ⟨o, hm.heap S _ hSw ho, hS⟩)
  | succ k ih =>
    rintro i s hk hi hst ⟨o, ho, hS⟩ hR
    have hlt : i < items.length := by omega
    refine codeAny_builtin PyProof.Rows.F.entry_set_update_loop ?_
    rw [Around.under_plainId PyProof.Rows.F.plain_set_update_loop _]
    show wpAny _ A.in1 (pyNext (.ref I) >>= _) _ _ s
    refine wpAny_bind (W.item i s _ _ hlt hst fun v s' hP hst' hm => ?_)
    obtain ⟨p, hp, rfl⟩ := hval i v hP
    have ho' := hm.heap S _ hSw ho
    show wpAny _ A.in1 (holding [Value.str p.1 p.2] (setAdd S (.str p.1 p.2)) >>= _) _ _ s'
    refine wpAny_bind (wpAny_holding ?_)
    unfold setAdd
    refine wpAny_holding ?_
    refine wpAny_bind (wpAny_pyHash_str ?_)
    have hnew : p.1 ∉ (items.take i).map (·.1) := by
      intro hin
      obtain ⟨q, hq, hqe⟩ := List.mem_map.mp hin
      obtain ⟨j, hj, hje⟩ := List.mem_iff_getElem.mp hq
      rw [List.length_take] at hj
      have e1 : (items.map (·.1))[j]'(by rw [List.length_map]; omega) = p.1 := by
        rw [List.getElem_map, ← hqe, ← hje, List.getElem_take]
      have e2 : (items.map (·.1))[i]'(by rw [List.length_map]; omega) = p.1 := by
        rw [List.getElem_map]
        have := (List.getElem?_eq_some_iff.mp hp).2
        rw [this]
      exact (List.pairwise_iff_getElem.mp hnd) j i (by rw [List.length_map]; omega) (by rw [List.length_map]; omega) (by omega) (e1.trans e2.symm)
    refine strset_add (s := { s' with toks := s'.toks + 1 }) ho' hS hnew (by rw [List.length_take]; omega) fun o2 hS2 h' hsb ho2 => ?_
    have etake : items.take i ++ [(p.1, p.2)] = items.take (i + 1) := by
      rw [List.take_add_one, hp]; rfl
    rw [etake] at hS2
    refine wpAny_pure ⟨plainId_quiet PyProof.Rows.F.plain_set_update_loop _, ih (i + 1) _ (by omega) hlt (W.frame _ s' _ _ hst' (Nat.le_succ _) fun b hb o e => ?_) ⟨o2, ho2, hS2⟩ fun s'' hm'' hS'' => ?_⟩
    · rw [hsb.2 b (fun h : b = S => hSf (by rw [← h]; exact hb))]; exact e
    · refine hR s'' (Moved.trans W.gtrans ((hm.mono hsub).then_heap (Nat.le_succ _) fun b o hb e => ?_) hm'') hS''
      rw [hsb.2 b (fun h : b = S => hb (by rw [h]; exact List.mem_cons_self))]; exact e
end
section
variable {prog : Program} {w : World} {A : Around} {E : Value → Shared → Prop} {s : Shared}
def set0w (w : World) : Obj := { cls := .type "set", dict := none, data := .set #[] 0 (.fresh 0 0 (ledOf w)) }
theorem set0w_is : StrSetObj w (ledOf w) [] (set0w w) := ⟨#[], 0, _, ⟨rfl, rfl, rfl⟩, rfl, small_fresh _, rfl, rfl, fun h => absurd rfl h, List.Perm.nil⟩
theorem new_led (a : Value) {Q₁ : Value → Shared → Prop} (h : Q₁ (.ref s.heap.objs.size) { s with heap := s.heap.push (set0w w) }) :
    codeAny (model prog w) A (.call (.builtin "set.__new__") ⟨[.type "set", a], []⟩) (wants Q₁ E) s := by
  refine codeAny_of_tree ?_
  show wpAny _ A.in1 (do checkBuiltinCall "set.__new__" ⟨[.type "set", a], []⟩; again (.builtin "set.__new__" ⟨[.type "set", a], []⟩)) _ _ s
  refine wpAny_bind (wpAny_of_eq (PySem.F.newCall_set_1 a) (wpAny_pure ⟨plainId_quiet PySem.F.plain_set_new _, codeAny_builtin PySem.F.entry_set_new ?_⟩))
  rw [Around.under_plainId PySem.F.plain_set_new _]
  unfold Builtin.«set.__new__» Builtin.Frozenset.newClass
  have hsub := sub_set_self
  obtain ⟨hp, g, d, tk, os⟩ := s
  dsimp only
  wp_walk
  refine wpAny_askSetting (wpAny_pure ?_)
  dsimp only
  simp only [newObj]
  refine wpAny_bind (wpAny_alloc (wpAny_pure ?_))
  exact wpAny_pure h
end
end Mine
end PartS1c

section PartS1d
open PySem PySem.W PyProof.Rows
set_option Elab.async false
set_option maxRecDepth 100000
set_option maxHeartbeats 3200000
set_option linter.unusedVariables false
namespace Mine
theorem freshS1d : True ∧ True := by
  w_top off
  first | (walk1; all_goals trivial) | exact ⟨trivial, trivial⟩
section
variable {prog : Program} {w : World} {A : Around} {E : Value → Shared → Prop} {s : Shared}
theorem call_set_strs {l : Addr} {items : List (Str × Tok)} {Q : Value → Shared → Prop}
    (hh : A.handled = none) (hl : s.heap.IsList l (strValues items).toArray) (hnd : (items.map (·.1)).Nodup) (hb : items.length ≤ 3)
    (h : ∀ (h' : Heap) (tk : Nat) o, h'.get? s.heap.objs.size = some o → StrSetObj w (ledOf w) items o →
      (∀ b o, b < s.heap.objs.size → s.heap.get? b = some o → h'.get? b = some o) → Q (.ref s.heap.objs.size) { s with heap := h', toks := tk }) :
    wpAny (model prog w) A (call (.type "set") [.ref l]) Q E s := by
  obtain ⟨c, tl, hmro⟩ := PySem.F.called_set.mro
  have hmade := PySem.F.called_set.made
  have hsub := PySem.F.called_set.sub
  refine wpAny_call (codeAny_of_tree ?_)
  show wpAny _ _ (callAny (.type "set") _) _ _ _
  refine wpAny_pure ⟨Code.quiet_builtin _ (by decide +kernel), codeAny_builtin PySem.F.entry_type_call ?_⟩
  rw [Around.under_plain (weight_type_call_type "set" [.ref l] []) rfl]
  have h1 := PySem.F.called_set.notType
  have h2 := PySem.F.called_set.canCreate
  have hct := PySem.F.typeCall_set_1 (.ref l)
  repeat (any_goals (first | assumption | wp_step))
  refine codeAny_mono (new_led (.ref l) (E := E) (Q₁ := fun obj s₁ => obj = .ref s.heap.objs.size ∧ s₁ = { s with heap := s.heap.push (set0w w) }) ⟨rfl, rfl⟩) fun r s₁ hr => ?_
  cases r with
  | error e => exact hr
  | ok fl =>
    cases fl with
    | ret obj =>
      obtain ⟨rfl, rfl⟩ := hr
      have hS : (s.heap.push (set0w w)).get? s.heap.objs.size = some (set0w w) := Heap.get?_push_size _ rfl
      have hT : Shared.TypeIs { s with heap := s.heap.push (set0w w) } (.ref s.heap.objs.size) "set" := ⟨_, hS, rfl⟩
      have hli := PySem.F.called_set.init.lookup
      have hbi := PySem.F.called_set.init.bind (.ref s.heap.objs.size)
      repeat (any_goals (first | assumption | wp_step))
      refine codeAny_mono (codeAny_call_builtin (R := wants (fun r s₂ => r = .none ∧ ∃ h' tk, s₂ = { s with heap := h', toks := tk } ∧
          (∃ o, h'.get? s.heap.objs.size = some o ∧ StrSetObj w (ledOf w) items o) ∧
          (∀ b o, b < s.heap.objs.size → s.heap.get? b = some o → h'.get? b = some o)) E) PySem.F.called_set.init.plain PySem.F.entry_set_init (check_set_init_1 hT ?_)) fun r₂ s₂ hr₂ => ?_
      · obtain ⟨ol, hol, hcl, nl, hdl⟩ := hl
        obtain ⟨ocls, odict, odata, oslots⟩ := ol
        simp only at hcl hdl
        subst hcl; subst hdl
        have hol' : (s.heap.push (set0w w)).get? l = some { cls := .type "list", dict := odict, data := .seq (strValues items).toArray nl, slots := oslots } := Heap.get?_push_of_some _ hol
        have hsls := PySem.F.sub_list_set
        have hslf := PySem.F.sub_list_frozenset
        have hne : (Value.type "list" == Value.type "dict") = false := by decide
        have hl1 : (s.heap.push (set0w w)).IsList l (strValues items).toArray := ⟨_, hol', rfl, nl, rfl⟩
        unfold Builtin.«set.__init__» noKeywords Builtin.Frozenset.updateFrom
        generalize hPI : pyIter = PI
        wp_walk
        subst hPI
        refine wpAny_pyIter_list hl1 ?_
        refine wpAny_bind (wpAny_runValue ?_)
        have hlS : l < s.heap.objs.size := Heap.lt_size hol
        have hh3 : A.in1.in1.in1.handled = none := by simp [hh]
        have hneI : l ≠ (s.heap.push (set0w w)).objs.size := by
          rw [Heap.size_push]; exact Nat.ne_of_lt (Nat.lt_succ_of_lt hlS)
        have hSf : s.heap.objs.size ∉ [(s.heap.push (set0w w)).objs.size, l] := by
          rw [Heap.size_push]; simp only [List.mem_cons, List.mem_singleton, List.not_mem_nil, or_false, not_or]
          exact ⟨Nat.ne_of_lt (Nat.lt_succ_self _), Nat.ne_of_gt hlS⟩
        have hW := (Walks.list hh3 (prog := prog) (w := w) (s.heap.push (set0w w)).objs.size l hneI (strValues items).toArray).toS
        have hsz : (strValues items).toArray.size = items.length := by simp [strValues]
        rw [hsz] at hW
        refine strs_update items hW s.heap.objs.size hSf ?hval hnd hb (ledOf w) (items.length - 0) 0 _ (by omega) (Nat.zero_le _)
          ⟨⟨_, Heap.get?_push_size _ rfl, rfl, rfl⟩, (hl1.push _)⟩ ⟨_, Heap.get?_push_of_some _ hS, set0w_is⟩ ?hR
        case hval =>
          intro i v hv
          rw [List.getElem?_toArray, strValues, List.getElem?_map] at hv
          cases hq : items[i]? with
          | none => rw [hq] at hv; cases hv
          | some p => rw [hq] at hv; exact ⟨p, rfl, (Option.some.inj hv).symm⟩
        case hR =>
          intro s' hm hS'
          obtain ⟨h', g', d', tk', os'⟩ := s'
          have eg : g' = s.gens := hm.gens
          have ed : d' = s.drawn := hm.drawn
          have eo : os' = s.os := hm.os
          subst eg; subst ed; subst eo
          show wpAny _ _ _ _ _ _
          refine wpAny_pure ?_
          show wpAny _ _ (ret Value.none) _ _ _
          refine wpAny_pure ⟨rfl, h', tk', rfl, hS', fun b o hb e => ?_⟩
          have hb1 : b ≠ s.heap.objs.size := Nat.ne_of_lt hb
          have hb2 : b ≠ (s.heap.push (set0w w)).objs.size := by
            rw [Heap.size_push]; exact Nat.ne_of_lt (Nat.lt_succ_of_lt hb)
          exact hm.heap b o (by simp only [List.mem_cons, List.mem_singleton, List.not_mem_nil, or_false, not_or]; exact ⟨hb1, hb2⟩) (Heap.get?_push_of_some _ (Heap.get?_push_of_some _ e))
      · cases r₂ with
        | error e => exact hr₂
        | ok fl₂ =>
          cases fl₂ with
          | ret r =>
            obtain ⟨rfl, h', tk, rfl, ⟨o, ho, hS'⟩, hk'⟩ := hr₂
            repeat (any_goals (first | assumption | wp_step))
            exact h _ _ _ ho hS' hk'
          | _ => exact hr₂.elim
    | _ => exact hr.elim
end
section
variable {prog : Program} {w : World} {A : Around} {E : Value → Shared → Prop} {s : Shared} {h₀ : Heap} {L : Addr} {m : Str → Option Value} {news : List (Addr × Obj)}
/-- set(xs) of a ledger list of texts -/
theorem newSetStrs {l : Addr} {items : List (Str × Tok)} {n : Nat} {Q : Value → Shared → Prop} (F : Fr h₀ L s.heap m) (N : News h₀ L s.heap news)
    (hh : A.handled = none) (hm : (l, listOf (strValues items).toArray n) ∈ news) (hnd : (items.map (·.1)).Nodup) (hb : items.length ≤ 3)
    (h : ∀ D h' (tk : Nat) o, Fr h₀ L h' m → News h₀ L h' ((D, o) :: news) → StrSetObj w (ledOf w) items o → (∀ p ∈ news, p.1 < D) → Q (.ref D) { s with heap := h', toks := tk }) :
    wpAny (model prog w) A (call (.type "set") [.ref l]) Q E s := by
  refine call_set_strs hh (News.isList N hm) hnd hb fun h' tk o ho hS hk => ?_
  obtain ⟨oL, _, _, hL, _⟩ := F.ns
  have hLlt : L < s.heap.objs.size := Heap.lt_size hL
  refine h _ h' tk o ⟨F.ns.at' fun o' e => hk L o' hLlt e, fun b o' e => hk b o' (Heap.lt_size (F.keep b o' e)) (F.keep b o' e), F.above⟩ (fun p hp => ?_) hS (fun p hp => Heap.lt_size (N p hp).1)
  rcases List.mem_cons.mp hp with rfl | hp
  · refine ⟨ho, Nat.ne_of_gt hLlt, ?_⟩
    cases hq : h₀.get? s.heap.objs.size with
    | none => rfl
    | some o' => exact absurd (Heap.lt_size (F.keep _ _ hq)) (Nat.lt_irrefl _)
  · exact ⟨hk _ _ (Heap.lt_size (N p hp).1) (N p hp).1, (N p hp).2.1, (N p hp).2.2⟩
end
end Mine
end PartS1d

section PartS1e
open PySem PySem.W PyProof.Rows
set_option Elab.async false
set_option maxRecDepth 100000
set_option linter.unusedVariables false
namespace Mine
theorem freshS1e : True ∧ True := by
  w_top off
  first | (walk1; all_goals trivial) | exact ⟨trivial, trivial⟩
theorem live_lt {t : SetTable} {j i : Nat} (h : t.slot j = .live i) : i < t.place.size := by
  unfold SetTable.slot at h
  dsimp only at h
  split at h
  · rename_i hp
    injection h with h
    subst h
    simp only [beq_iff_eq] at hp
    exact (Array.getElem?_eq_some_iff.mp hp).1
  · split at h <;> cases h
section
variable {prog : Program} {w : World} {A : Around} {E : Value → Shared → Prop} {s : Shared} {a : Addr} {o : Obj} {es : Array (Int × Value)} {ep : Nat} {t : SetTable} {x : Value} {h : Int}
theorem search_absent (ho : s.heap.get? a = some o) (hd : o.data = .set es ep t) (hsm : Small t) (hpl : t.place.size = es.size) (h3 : es.size ≤ 3)
    (hne : ∀ y ∈ es.toList, ∀ Q : Bool → Shared → Prop, Q false s → wpAny (model prog w) A (eqBool y.2 x) Q E s)
    (hself : ∀ y ∈ es.toList, ∀ Q : Bool → Shared → Prop, Q true s → wpAny (model prog w) A (isSame y.2 y.2) Q E s)
    (hseen : t.led = false → ∀ st : List Value, (∀ y ∈ st, ∃ e ∈ es.toList, e.2 = y) → ∀ Q : Bool → Shared → Prop, Q false s → wpAny (model prog w) A (searchCouldBeSeen x st) Q E s) :
    ∀ (n fuel : Nat) (st : Option SetTable.Probe) (p : SetTable.Probe) (Q : SetFound → Shared → Prop), st.getD (t.probeStart h) = p → Still p → emptyIn t n p → n ≤ 20 → n < fuel → (∀ j, Q (.free j false) s) → wpAny (model prog w) A (setSearchFrom a x h false fuel st) Q E s := by
  have hf : t.fits es.size = true := small_fits hsm hpl h3
  intro n
  induction n using Nat.strongRecOn with
  | _ n ih =>
    intro fuel st p Q hstp hp he hn hfu hQ
    obtain ⟨f, rfl⟩ : ∃ f, fuel = f + 1 := ⟨fuel - 1, by omega⟩
    unfold setSearchFrom
    refine wpAny_bind (wpAny_setState_of ho hd hf ?_)
    dsimp only
    rw [if_neg (by rw [small_gave hsm]; exact Bool.false_ne_true)]
    have hlt : n < 10 * SetTable.turns t.mask := by rw [hsm.mask]; exact Nat.lt_of_le_of_lt hn (by decide)
    rcases go_meets hsm (hashAt := fun i => (es[i]?.map (·.1)).getD 0) (x := h) hp he hlt with ⟨j, h1, _, _⟩ | ⟨j, i, nx, m, h1, hm, hnx, hst, hhi, hsl⟩
    · have hpr : t.probe (fun i => (es[i]?.map (·.1)).getD 0) h p = some (.empty j none) := h1
      rw [hstp]
      erw [hpr]
      exact wpAny_pure (hQ j)
    · have hpr : t.probe (fun i => (es[i]?.map (·.1)).getD 0) h p = some (.candidate j i nx) := h1
      rw [hstp]
      erw [hpr]
      dsimp only
      have hi : i < es.size := hpl ▸ live_lt hsl
      have hes : es[i]? = some (es[i].1, es[i].2) := by rw [Array.getElem?_eq_getElem hi]
      have hmem : (es[i].1, es[i].2) ∈ es.toList := Array.getElem_mem_toList hi
      have hsame : t.sameMemory t.moves t.mask = some true := by unfold SetTable.sameMemory; rw [if_pos (by simp)]
      have hgo := ih m hm f (some nx) nx Q rfl hst hnx (by omega) (by omega) hQ
      rcases hled : t.led with _ | _
      · rw [if_pos (by decide)]
        refine wpAny_bind (hseen hled _ ?_ _ ?_)
        · intro y hy
          obtain ⟨e, he, hye⟩ := List.mem_map.mp hy
          exact ⟨e, Array.mem_toList_iff.mpr (Array.mem_filter.mp (Array.mem_toList_iff.mp he)).1, hye⟩
        rw [if_neg (by decide), hes]
        dsimp only
        refine wpAny_bind (wpAny_holding (hne _ hmem _ ?_))
        refine wpAny_bind (wpAny_setState_of ho hd hf ?_)
        dsimp only
        rw [if_neg (by decide), hsame]
        dsimp only
        rw [if_pos rfl, hsl]
        dsimp only
        rw [hes]
        dsimp only
        refine wpAny_bind (hself _ hmem _ ?_)
        refine wpAny_bind (wpAny_pure ?_)
        rw [if_pos rfl]
        dsimp only
        rw [if_neg (by decide)]
        exact hgo
      · rw [if_neg (by decide), hes]
        dsimp only
        refine wpAny_bind (wpAny_holding (hne _ hmem _ ?_))
        refine wpAny_bind (wpAny_setState_of ho hd hf ?_)
        dsimp only
        rw [if_neg (by decide), hsame]
        dsimp only
        rw [if_pos rfl, hsl]
        dsimp only
        rw [hes]
        dsimp only
        refine wpAny_bind (hself _ hmem _ ?_)
        refine wpAny_bind (wpAny_pure ?_)
        rw [if_pos rfl]
        dsimp only
        rw [if_neg (by decide)]
        exact hgo
theorem find_absent_search (hsc : x.scannable = false) (ho : s.heap.get? a = some o) (hd : o.data = .set es ep t) (hsm : Small t) (hpl : t.place.size = es.size) (h3 : es.size ≤ 3)
    (hne : ∀ y ∈ es.toList, ∀ Q : Bool → Shared → Prop, Q false s → wpAny (model prog w) A (eqBool y.2 x) Q E s)
    (hself : ∀ y ∈ es.toList, ∀ Q : Bool → Shared → Prop, Q true s → wpAny (model prog w) A (isSame y.2 y.2) Q E s)
    (hseen : t.led = false → ∀ st : List Value, (∀ y ∈ st, ∃ e ∈ es.toList, e.2 = y) → ∀ Q : Bool → Shared → Prop, Q false s → wpAny (model prog w) A (searchCouldBeSeen x st) Q E s)
    {Q : Option Nat → Shared → Prop} (hQ : Q none s) : wpAny (model prog w) A (setFind a x h) Q E s := by
  unfold setFind setFindIn
  refine wpAny_bind (wpAny_setState_of ho hd (small_fits hsm hpl h3) ?_)
  dsimp only
  have hb : byScan x es = false := by unfold byScan; rw [hsc]; rfl
  rw [if_neg (by rw [hb]; exact Bool.false_ne_true)]
  unfold setSearch
  refine wpAny_bind (search_absent ho hd hsm hpl h3 hne hself hseen 20 100000 none (t.probeStart h) _ rfl (start_still hsm h).1 (start_empty hsm h) (Nat.le_refl _) (by decide) fun j => ?_)
  exact wpAny_pure hQ
/-- by a scan: no member is equal -/
theorem scan_absent (ho : s.heap.get? a = some o) (hd : o.data = .set es ep t) (hf : t.fits es.size = true) : ∀ (l : List (Int × Value)) (i : Nat) {Q : ScanMet → Shared → Prop},
    (∀ y ∈ l, ∀ Q : Bool → Shared → Prop, Q false s → wpAny (model prog w) A (eqBool y.2 x) Q E s) → Q .absent s → wpAny (model prog w) A (setScanFrom a x h false l i) Q E s := by
  intro l
  induction l with
  | nil => intro i Q _ hQ; unfold setScanFrom; exact wpAny_pure hQ
  | cons e rest ih =>
    intro i Q hl hQ
    obtain ⟨h', y⟩ := e
    unfold setScanFrom
    by_cases hq : (h' == h) = true
    · rw [if_pos hq]
      refine wpAny_bind (wpAny_setEpoch_of ho hd hf ?_)
      refine wpAny_bind (hl _ (.head _) _ ?_)
      dsimp only
      rw [if_neg (by decide)]
      refine wpAny_bind (wpAny_setEpoch_of ho hd hf ?_)
      rw [if_neg (by simp)]
      rw [if_neg (by decide)]
      exact ih (i + 1) (fun y hy => hl y (.tail _ hy)) hQ
    · rw [if_neg hq]
      exact ih (i + 1) (fun y hy => hl y (.tail _ hy)) hQ
end
end Mine
end PartS1e

section PartS1f
open PySem PySem.W PyProof.Rows
set_option Elab.async false
set_option maxRecDepth 100000
set_option linter.unusedVariables false
namespace Mine
theorem freshS1f : True ∧ True := by
  w_top off
  first | (walk1; all_goals trivial) | exact ⟨trivial, trivial⟩
section
variable {prog : Program} {w : World} {A : Around} {E : Value → Shared → Prop} {s : Shared} {T : Addr} {items : Array Value}
theorem same_str {p : Str} {t : Tok} (ht : t ≠ 0) {Q : Bool → Shared → Prop} (h : Q true s) : wpAny (model prog w) A (isSame (.str p t) (.str p t)) Q E s := by
  unfold isSame
  dsimp only
  unfold isSame.created
  have h0 : (t == 0) = false := by simpa using ht
  rw [h0]
  simp only [Bool.or_self, Bool.false_eq_true, if_false]
  refine wpAny_of_eq (a := true) ?_ h
  simp
/-- the tuple of one text -/
theorem tup_key {k : Str} {u : Tok} (hT : s.heap.IsTuple T #[.str k u]) : IsTupleKey (PySem.strKind prog w) s.heap [k] T := by
  obtain ⟨o, ho, hc, n, hd⟩ := hT
  exact ⟨o, _, n, ho, hc, hd, .cons (strKind_is _ _ _ _) .nil⟩
theorem no_class {k : Str} {u : Tok} (hT : s.heap.IsTuple T #[.str k u]) {Q : Bool → Shared → Prop} (h : Q false s) : wpAny (model prog w) A (ofAClassStatement 8 (.ref T)) Q E s := by
  obtain ⟨o, ho, hc, n, hd⟩ := hT
  unfold ofAClassStatement
  refine wpAny_bind (wpAny_typeOf (T := "tuple") ⟨o, ho, hc⟩ ?_)
  dsimp only
  rw [if_pos (by decide)]
  refine wpAny_bind (wpAny_pure ?_)
  rw [if_neg (by decide)]
  refine wpAny_bind (wpAny_seqItems ho hd ?_)
  dsimp only
  refine wpAny_bind ?_
  refine wpAny_of_eq (a := (none, ())) ?_ (wpAny_pure h)
  simp
  rfl
theorem seen_tuple {k : Str} {u : Tok} (hT : s.heap.IsTuple T #[.str k u]) : ∀ st : List Value, (∀ y ∈ st, ∃ p t, y = Value.str p t) → ∀ Q : Bool → Shared → Prop, Q false s → wpAny (model prog w) A (searchCouldBeSeen (.ref T) st) Q E s := by
  intro st hst Q h
  unfold searchCouldBeSeen
  refine wpAny_bind ?_
  refine wpAny_forIn_list _ (fun rest r s' => s' = s ∧ r = (none, ()) ∧ ∀ y ∈ rest, ∃ p t, y = Value.str p t) _ ?_ ?_ _ _ ⟨rfl, rfl, hst⟩
  · rintro y rest r s' ⟨rfl, rfl, hr⟩
    obtain ⟨p, t, rfl⟩ := hr y List.mem_cons_self
    dsimp only
    rw [if_neg (by simp [carriedByValue])]
    refine wpAny_bind (wpAny_eqIsQuiet_tuple (tup_key (prog := prog) (w := w) hT) ?_)
    rw [if_neg (by decide)]
    refine wpAny_bind (wpAny_of_eq (eqIsQuiet_byValue 8 rfl) ?_)
    rw [if_neg (by decide)]
    refine wpAny_bind (no_class hT ?_)
    rw [if_neg (by decide)]
    refine wpAny_bind (wpAny_of_eq (a := false) rfl ?_)
    rw [if_neg (by decide)]
    exact wpAny_pure ⟨rfl, rfl, fun y hy => hr y (List.mem_cons_of_mem _ hy)⟩
  · rintro r s' ⟨rfl, rfl, _⟩
    exact wpAny_pure h
end
end Mine
end PartS1f

section PartS1g
open PySem PySem.W PyProof.Rows
set_option Elab.async false
set_option maxRecDepth 100000
set_option linter.unusedVariables false
namespace Mine
theorem freshS1g : True ∧ True := by
  w_top off
  first | (walk1; all_goals trivial) | exact ⟨trivial, trivial⟩
section
variable {A : Around} {s : Shared}
theorem slot_bytes_eq_refl : Slot "bytes" (cmpInfo .Eq).2.2 "bytes.__eq__" := FB.slot_bytes_eq
theorem by_int (b : Array UInt8) (t : Tok) (i : Int) (u : Tok) : Gives (Builtin.«bytes.__eq__» ⟨[.bytes b t, .int i u], []⟩) (.val (Value.notImplemented)) := by
  refine .of_wp fun M A E s Q hq => ?_
  show wpAny M A (isInstance (.int i u) (.type "bytes") >>= fun r => _) _ E s
  refine wpAny_bind (wpAny_isInstance (typeIs_int s i u) PySem.F.sub_int_bytes ?_)
  show wpAny M A (rule _ >>= fun _ => ret Value.notImplemented) _ E s
  exact wpAny_bind (wpAny_rule (wpAny_pure ⟨_, rfl, hq⟩))
theorem by_str (b : Array UInt8) (t : Tok) (x : Str) (u : Tok) : Gives (Builtin.«bytes.__eq__» ⟨[.bytes b t, .str x u], []⟩) (.val (Value.notImplemented)) := by
  refine .of_wp fun M A E s Q hq => ?_
  show wpAny M A (isInstance (.str x u) (.type "bytes") >>= fun r => _) _ E s
  refine wpAny_bind (wpAny_isInstance (typeIs_str s x u) PySem.F.sub_str_bytes ?_)
  show wpAny M A (rule _ >>= fun _ => ret Value.notImplemented) _ E s
  exact wpAny_bind (wpAny_rule (wpAny_pure ⟨_, rfl, hq⟩))
theorem int_by (i : Int) (u : Tok) (b : Array UInt8) (t : Tok) : Gives (Builtin.«int.__eq__» ⟨[.int i u, .bytes b t], []⟩) (.val (Value.notImplemented)) :=
  .of_wp fun M A E s Q h => by obtain ⟨hp, g, d, tk, os⟩ := s; wp_walk; exact ⟨_, rfl, h⟩
theorem str_by (x : Str) (u : Tok) (b : Array UInt8) (t : Tok) : Gives (Builtin.«str.__eq__» ⟨[.str x u, .bytes b t], []⟩) (.val (Value.notImplemented)) :=
  .of_wp fun M A E s Q h => by obtain ⟨hp, g, d, tk, os⟩ := s; wp_walk; exact ⟨_, rfl, h⟩
theorem rc_bytes_int (b : Array UInt8) (t : Tok) (i : Int) (u : Tok) : SeqAt.RcAt A s (.bytes b t) (.int i u) false := fun prog w E Q h =>
  SeqAt.rc_eq_decline_or (k := false) (typeIs_bytes s b t) (typeIs_int s i u) (by decide) PySem.F.sub_int_bytes FB.slot_bytes_eq PySem.F.slot_int_eq_refl
    (fun _ hq => call_gives FB.slot_bytes_eq (typeIs_bytes s b t) FB.entry_bytes_eq (FB.args_bytes_eq_2 _ _) (by_int b t i u) hq)
    (fun _ hq => call_gives PySem.F.slot_int_eq_refl (typeIs_int s i u) PySem.F.entry_int_eq (PySem.F.args_int_eq_2 _ _) (int_by i u b t) hq)
    (fun _ hq => wpAny_of_eq (rfl : isSame (.bytes b t) (.int i u) = pure false) hq) (.inl rfl) h
theorem rc_int_bytes (i : Int) (u : Tok) (b : Array UInt8) (t : Tok) : SeqAt.RcAt A s (.int i u) (.bytes b t) false := fun prog w E Q h =>
  SeqAt.rc_eq_decline_or (k := false) (typeIs_int s i u) (typeIs_bytes s b t) (by decide) PySem.F.sub_bytes_int PySem.F.slot_int_eq slot_bytes_eq_refl
    (fun _ hq => call_gives PySem.F.slot_int_eq (typeIs_int s i u) PySem.F.entry_int_eq (PySem.F.args_int_eq_2 _ _) (int_by i u b t) hq)
    (fun _ hq => call_gives slot_bytes_eq_refl (typeIs_bytes s b t) FB.entry_bytes_eq (FB.args_bytes_eq_2 _ _) (by_int b t i u) hq)
    (fun _ hq => wpAny_of_eq (rfl : isSame (.int i u) (.bytes b t) = pure false) hq) (.inl rfl) h
theorem rc_bytes_str (b : Array UInt8) (t : Tok) (x : Str) (u : Tok) : SeqAt.RcAt A s (.bytes b t) (.str x u) false := fun prog w E Q h =>
  SeqAt.rc_eq_decline_or (k := false) (typeIs_bytes s b t) (typeIs_str s x u) (by decide) PySem.F.sub_str_bytes FB.slot_bytes_eq PySem.F.slot_str_eq_refl
    (fun _ hq => call_gives FB.slot_bytes_eq (typeIs_bytes s b t) FB.entry_bytes_eq (FB.args_bytes_eq_2 _ _) (by_str b t x u) hq)
    (fun _ hq => call_gives PySem.F.slot_str_eq_refl (typeIs_str s x u) PySem.F.entry_str_eq (PySem.F.args_str_eq_2 _ _) (str_by x u b t) hq)
    (fun _ hq => wpAny_of_eq (rfl : isSame (.bytes b t) (.str x u) = pure false) hq) (.inl rfl) h
theorem rc_str_bytes (x : Str) (u : Tok) (b : Array UInt8) (t : Tok) : SeqAt.RcAt A s (.str x u) (.bytes b t) false := fun prog w E Q h =>
  SeqAt.rc_eq_decline_or (k := false) (typeIs_str s x u) (typeIs_bytes s b t) (by decide) PySem.F.sub_bytes_str PySem.F.slot_str_eq slot_bytes_eq_refl
    (fun _ hq => call_gives PySem.F.slot_str_eq (typeIs_str s x u) PySem.F.entry_str_eq (PySem.F.args_str_eq_2 _ _) (str_by x u b t) hq)
    (fun _ hq => call_gives slot_bytes_eq_refl (typeIs_bytes s b t) FB.entry_bytes_eq (FB.args_bytes_eq_2 _ _) (by_str b t x u) hq)
    (fun _ hq => wpAny_of_eq (rfl : isSame (.str x u) (.bytes b t) = pure false) hq) (.inl rfl) h
/-- eqBool out of a comparison, two unlike values -/
theorem eq_of_rc {a b : Value} (hne : (a == b) = false) (hfl : ∀ p t q u, ¬ (a = .float p t ∧ b = .float q u)) (h : SeqAt.RcAt A s a b false) : SeqAt.EqAt A s a b false := fun prog w E Q hq => by
  unfold eqBool
  refine wpAny_holding ?_
  rw [if_neg (by rw [hne]; exact Bool.false_ne_true)]
  split
  · rename_i p t q u heq
    injection heq with h1 h2
    exact absurd ⟨h1, h2⟩ (hfl p t q u)
  · exact wpAny_bind (h prog w E _ (wpAny_truthy_bool hq))
end
end Mine
end PartS1g

section PartS1h
open PySem PySem.W PyProof.Rows
set_option Elab.async false
set_option maxRecDepth 100000
set_option linter.unusedVariables false
namespace Mine
theorem freshS1h : True ∧ True := by
  w_top off
  first | (walk1; all_goals trivial) | exact ⟨trivial, trivial⟩
theorem sub_tuple_bytes : isSubtype (.type "tuple") (.type "bytes") = pure false := by rw [isSubtype_type]; kernel_rfl
theorem sub_bytes_tuple : isSubtype (.type "bytes") (.type "tuple") = pure false := by rw [isSubtype_type]; kernel_rfl
section
variable {A : Around} {s : Shared}
theorem by_tup (b : Array UInt8) (t : Tok) (l : Addr) (items : Array Value) (n : Nat) (dd : Option Addr) (sl : Array (Option Value)) :
    Meets (Builtin.«bytes.__eq__» ⟨[.bytes b t, .ref l], []⟩) (fun _ R s => s.heap.get? l = some { cls := .type "tuple", dict := dd, data := .seq items n, slots := sl } ∧ R (.ok (.ret .notImplemented)) s) := by
  refine .of_wp fun prog w A R s h => ?_
  obtain ⟨hl, h⟩ := h
  show wpAny _ A.in1 (isInstance (.ref l) (.type "bytes") >>= fun r => _) _ _ s
  refine wpAny_bind (wpAny_isInstance (T := "tuple") ⟨_, hl, rfl⟩ sub_tuple_bytes ?_)
  show wpAny _ A.in1 (rule _ >>= fun _ => ret Value.notImplemented) _ _ s
  exact wpAny_bind (wpAny_rule (wpAny_pure ⟨_, rfl, h⟩))
theorem tup_by (l : Addr) (items : Array Value) (n : Nat) (dd : Option Addr) (sl : Array (Option Value)) (b : Array UInt8) (t : Tok) :
    Meets (Builtin.«tuple.__eq__» ⟨[.ref l, .bytes b t], []⟩) (fun _ R s => s.heap.get? l = some { cls := .type "tuple", dict := dd, data := .seq items n, slots := sl } ∧ R (.ok (.ret .notImplemented)) s) :=
  .of_wp fun prog w A R s h => by obtain ⟨hp, g, d, tk, os⟩ := s; obtain ⟨hl, h⟩ := h; have f1 := sub_bytes_tuple; wp_walk using wpAny_loadPart' hl; exact ⟨_, rfl, h⟩
theorem rc_tuple_bytes {l : Addr} {items : Array Value} (b : Array UInt8) (t : Tok) (hl : s.heap.IsTuple l items) (hu : A.units < cLine) : SeqAt.RcAt A s (.ref l) (.bytes b t) false := fun prog w E Q h => by
  obtain ⟨⟨cls, dd, data, sl⟩, ho, hc, n, hd⟩ := id hl
  simp only at hc hd
  subst hc hd
  exact SeqAt.rc_eq_decline_or (k := false) ⟨_, ho, rfl⟩ (typeIs_bytes s b t) (by decide) sub_bytes_tuple PySem.F.slot_tuple_eq slot_bytes_eq_refl
    (fun _ hq => call_meets PySem.F.slot_tuple_eq ⟨_, ho, rfl⟩ PySem.F.entry_tuple_eq (PySem.F.args_tuple_eq_2 _ _) (tup_by l items n dd sl b t) ⟨ho, hq⟩)
    (fun _ hq => call_meets slot_bytes_eq_refl (typeIs_bytes s b t) FB.entry_bytes_eq (FB.args_bytes_eq_2 _ _) (by_tup b t l items n dd sl) ⟨ho, hq⟩)
    (fun _ hq => wpAny_of_eq (rfl : isSame (.ref l) (.bytes b t) = pure false) hq) (.inr hu) h
theorem rc_bytes_tuple {l : Addr} {items : Array Value} (b : Array UInt8) (t : Tok) (hl : s.heap.IsTuple l items) (hu : A.units < cLine) : SeqAt.RcAt A s (.bytes b t) (.ref l) false := fun prog w E Q h => by
  obtain ⟨⟨cls, dd, data, sl⟩, ho, hc, n, hd⟩ := id hl
  simp only at hc hd
  subst hc hd
  exact SeqAt.rc_eq_decline_or (k := false) (typeIs_bytes s b t) ⟨_, ho, rfl⟩ (by decide) sub_tuple_bytes FB.slot_bytes_eq PySem.F.slot_tuple_eq_refl
    (fun _ hq => call_meets FB.slot_bytes_eq (typeIs_bytes s b t) FB.entry_bytes_eq (FB.args_bytes_eq_2 _ _) (by_tup b t l items n dd sl) ⟨ho, hq⟩)
    (fun _ hq => call_meets PySem.F.slot_tuple_eq_refl ⟨_, ho, rfl⟩ PySem.F.entry_tuple_eq (PySem.F.args_tuple_eq_2 _ _) (tup_by l items n dd sl b t) ⟨ho, hq⟩)
    (fun _ hq => wpAny_of_eq (rfl : isSame (.bytes b t) (.ref l) = pure false) hq) (.inr hu) h
end
end Mine
end PartS1h

section PartS1i
open PySem PySem.W PyProof.Rows
set_option Elab.async false
set_option maxRecDepth 100000
set_option linter.unusedVariables false
set_option genSizeOf false
namespace Mine
theorem freshS1i : True ∧ True := by
  w_top off
  first | (walk1; all_goals trivial) | exact ⟨trivial, trivial⟩
/-- a module that is asked about: a text, a number, bytes, the tuple of a text alone -/
inductive Md where
  | s (x : Str)
  | n (i : Int)
  | b (x : Array UInt8)
  | t (x : Str)
  deriving DecidableEq
def KeyOk (h : Heap) : Md → Value → Prop
  | .s x, v => ∃ t, v = .str x t
  | .n i, v => ∃ t, v = .int i t
  | .b x, v => ∃ t, v = .bytes x t
  | .t x, v => ∃ T u, v = .ref T ∧ h.IsTuple T #[.str x u]
section
variable {prog : Program} {w : World} {A : Around} {E : Value → Shared → Prop} {s : Shared}
theorem eq_md (hu : A.units < cLine) {a b : Md} {u v : Value} (ha : KeyOk s.heap a u) (hb : KeyOk s.heap b v) {Q : Bool → Shared → Prop} (h : Q (decide (a = b)) s) :
    wpAny (model prog w) A (eqBool u v) Q E s := by
  have ne : ∀ {a b : Md}, Q (decide (a = b)) s → a ≠ b → Q false s := fun h hne => by rwa [decide_eq_false hne] at h
  cases a with
  | s x =>
    obtain ⟨t, rfl⟩ := ha
    cases b with
    | s y => obtain ⟨t', rfl⟩ := hb; exact wpAny_eqBool_str (by simpa using h)
    | n y => obtain ⟨t', rfl⟩ := hb; exact SeqAt.EqAt.str_int x t y t' prog w E Q (ne h nofun)
    | b y => obtain ⟨t', rfl⟩ := hb; exact eq_of_rc rfl (by rintro _ _ _ _ ⟨h, _⟩; cases h) (rc_str_bytes x t y t') prog w E Q (ne h nofun)
    | t y => obtain ⟨T, w', rfl, hT⟩ := hb; exact SeqAt.EqAt.str_tuple x t hT hu prog w E Q (ne h nofun)
  | n x =>
    obtain ⟨t, rfl⟩ := ha
    cases b with
    | s y => obtain ⟨t', rfl⟩ := hb; exact SeqAt.EqAt.int_str x t y t' prog w E Q (ne h nofun)
    | n y => obtain ⟨t', rfl⟩ := hb; refine wpAny_eqBool_int ?_; exact (show (x == y) = decide (Md.n x = Md.n y) by by_cases hxy : x = y <;> simp [hxy]) ▸ h
    | b y => obtain ⟨t', rfl⟩ := hb; exact eq_of_rc rfl (by rintro _ _ _ _ ⟨h, _⟩; cases h) (rc_int_bytes x t y t') prog w E Q (ne h nofun)
    | t y => obtain ⟨T, w', rfl, hT⟩ := hb; exact SeqAt.EqAt.int_tuple x t hT hu prog w E Q (ne h nofun)
  | b x =>
    obtain ⟨t, rfl⟩ := ha
    cases b with
    | s y => obtain ⟨t', rfl⟩ := hb; exact eq_of_rc rfl (by rintro _ _ _ _ ⟨h, _⟩; cases h) (rc_bytes_str x t y t') prog w E Q (ne h nofun)
    | n y => obtain ⟨t', rfl⟩ := hb; exact eq_of_rc rfl (by rintro _ _ _ _ ⟨h, _⟩; cases h) (rc_bytes_int x t y t') prog w E Q (ne h nofun)
    | b y => obtain ⟨t', rfl⟩ := hb; refine eqBool_bytes ?_; exact (show decide (x.toList = y.toList) = decide (Md.b x = Md.b y) by simp [Array.toList_inj]) ▸ h
    | t y => obtain ⟨T, w', rfl, hT⟩ := hb; exact eq_of_rc rfl (by rintro _ _ _ _ ⟨h, _⟩; cases h) (rc_bytes_tuple x t hT hu) prog w E Q (ne h nofun)
  | t x =>
    obtain ⟨T, t, rfl, hT⟩ := ha
    cases b with
    | s y => obtain ⟨t', rfl⟩ := hb; exact SeqAt.EqAt.tuple_str y t' hT hu prog w E Q (ne h nofun)
    | n y => obtain ⟨t', rfl⟩ := hb; exact SeqAt.EqAt.tuple_int y t' hT hu prog w E Q (ne h nofun)
    | b y => obtain ⟨t', rfl⟩ := hb; exact eq_of_rc rfl (by rintro _ _ _ _ ⟨h, _⟩; cases h) (rc_tuple_bytes y t' hT hu) prog w E Q (ne h nofun)
    | t y =>
      obtain ⟨T', t', rfl, hT'⟩ := hb
      refine wpAny_eqBool_tuple hu (tup_key (prog := prog) (w := w) hT) (tup_key hT') ?_
      have e : decide ([x] = [y]) = decide (Md.t x = Md.t y) := by simp
      rw [e]; exact h
end
end Mine
end PartS1i

section PartS1j
open PySem PySem.W PyProof.Rows
set_option Elab.async false
set_option maxRecDepth 100000
set_option linter.unusedVariables false
namespace Mine
theorem freshS1j : True ∧ True := by
  w_top off
  first | (walk1; all_goals trivial) | exact ⟨trivial, trivial⟩
def mdHash (w : World) : Md → Int
  | .s x => hashStr w x
  | .n i => hashInt i
  | .b x => hashW w.params (.bytes x.toList)
  | .t x => reduceHash (Builtin.Tuple.tupleHashOf [hashStr w x])
section
variable {prog : Program} {w : World} {A : Around} {E : Value → Shared → Prop} {s : Shared}
theorem hash_md (hu : A.units + 8 < cLine) {a : Md} {v : Value} (ha : KeyOk s.heap a v) {Q : Int → Shared → Prop} (h : ∀ tk, Q (mdHash w a) { s with toks := tk }) :
    wpAny (model prog w) A (pyHash v) Q E s := by
  cases a with
  | s x => obtain ⟨t, rfl⟩ := ha; exact wpAny_pyHash_str (h _)
  | n x => obtain ⟨t, rfl⟩ := ha; exact wpAny_pyHash_int (h _)
  | b x => obtain ⟨t, rfl⟩ := ha; exact pyHash_laid (.bytes x.toList) _ A s Q rfl (by have := Well.bytes (P := w.params) (h := s.heap) x.toList t; rwa [Array.toArray_toList] at this) (by show A.units + _ < _; exact Nat.lt_of_le_of_lt (Nat.add_le_add_left (show (WData.bytes x.toList).depth ≤ 8 by simp [WData.depth]) _) hu) h
  | t x =>
    obtain ⟨T, u, rfl, hT⟩ := ha
    refine wpAny_pyHash_tuple (by omega) (tup_key (prog := prog) (w := w) hT) ?_
    exact h _
end
end Mine
end PartS1j

section PartS1k
open PySem PySem.W PyProof.Rows
set_option Elab.async false
set_option maxRecDepth 100000
set_option linter.unusedVariables false
namespace Mine
theorem freshS1k : True ∧ True := by
  w_top off
  first | (walk1; all_goals trivial) | exact ⟨trivial, trivial⟩
/-- a key, its value, what is stored -/
abbrev MdRow := Md × Value × Value
def mdEntry (w : World) (x : MdRow) : DictEntry := ⟨mdHash w x.1, x.2.1, x.2.2⟩
def placesOf (w : World) (xs : List MdRow) (k : Md) : List Nat := placesWithHash (xs.map (mdEntry w)).toArray.size (fun i => (xs.map (mdEntry w)).toArray[i]?.map (·.hash)) (mdHash w k)
theorem row_unique {xs : List MdRow} (hn : (xs.map (·.1)).Nodup) {k : Md} {i j : Nat} {p q : Value × Value} (hi : xs[i]? = some (k, p)) (hj : xs[j]? = some (k, q)) : i = j := by
  obtain ⟨hi1, hi2⟩ := List.getElem?_eq_some_iff.mp hi
  obtain ⟨hj1, hj2⟩ := List.getElem?_eq_some_iff.mp hj
  have e1 : (xs.map (·.1))[i]'(by simpa using hi1) = k := by simp [hi2]
  have e2 : (xs.map (·.1))[j]'(by simpa using hj1) = k := by simp [hj2]
  rcases Nat.lt_trichotomy i j with h | h | h
  · exact absurd (e1.trans e2.symm) ((List.pairwise_iff_getElem.mp hn) i j (by simpa using hi1) (by simpa using hj1) h)
  · exact h
  · exact absurd (e2.trans e1.symm) ((List.pairwise_iff_getElem.mp hn) j i (by simpa using hj1) (by simpa using hi1) h)
theorem entry_of {w : World} {xs : List MdRow} {i : Nat} : (xs.map (mdEntry w)).toArray[i]? = xs[i]?.map (mdEntry w) := by simp
theorem places_mem {w : World} {xs : List MdRow} {k : Md} {i : Nat} : i ∈ placesOf w xs k ↔ ∃ x, xs[i]? = some x ∧ mdHash w x.1 = mdHash w k := by
  unfold placesOf placesWithHash
  simp only [List.mem_filter, List.mem_range, List.size_toArray, List.length_map, entry_of, Option.map_map, beq_iff_eq]
  constructor
  · rintro ⟨hlt, he⟩
    refine ⟨xs[i], by simp [hlt], ?_⟩
    rw [List.getElem?_eq_getElem hlt] at he
    simpa [mdEntry] using he
  · rintro ⟨x, hx, he⟩
    refine ⟨(List.getElem?_eq_some_iff.mp hx).1, ?_⟩
    rw [hx]
    simpa [mdEntry] using he
theorem places_nodup {w : World} {xs : List MdRow} {k : Md} : (placesOf w xs k).Nodup := List.Pairwise.filter _ List.nodup_range
end Mine
end PartS1k

section PartS1l
open PySem PySem.W PyProof.Rows
set_option Elab.async false
set_option maxRecDepth 100000
set_option linter.unusedVariables false
namespace Mine
theorem freshS1l : True ∧ True := by
  w_top off
  first | (walk1; all_goals trivial) | exact ⟨trivial, trivial⟩
section
variable {prog : Program} {w : World} {A : Around} {E : Value → Shared → Prop} {s : Shared} {d : Addr} {o : Obj} {ep : Nat} {xs : List MdRow} {k : Md} {key : Value}
theorem either {α : Type} {c : Prop} [Decidable c] {a b : Sem α} {M : Model} {Q : α → Shared → Prop} (h1 : c → wpAny M A a Q E s) (h2 : ¬ c → wpAny M A b Q E s) : wpAny M A (if c then a else b) Q E s := by
  by_cases h : c
  · rw [if_pos h]; exact h1 h
  · rw [if_neg h]; exact h2 h
theorem walk_md (hu : A.units < cLine) (hkey : KeyOk s.heap k key) (ho : s.heap.get? d = some o) (hd : o.data = .dict (xs.map (mdEntry w)).toArray ep) (his : ∀ x ∈ xs, KeyOk s.heap x.1 x.2.1)
    {Q : Option Nat → Shared → Prop} (hnone : (∀ (j : Nat) (p : Value × Value), xs[j]? ≠ some (k, p)) → Q none s) (hsome : ∀ (j : Nat) (p : Value × Value), xs[j]? = some (k, p) → Q (some j) s) :
    wpAny (model prog w) A (dictWalkPlain d key (mdHash w k) (xs.map (mdEntry w)).toArray (placesOf w xs k)) Q E s := by
  unfold dictWalkPlain
  refine wpAny_bind ?_
  refine wpAny_forIn_list _ (fun rest b s' => s' = s ∧ b = (none, ()) ∧ ∃ pre, placesOf w xs k = pre ++ rest ∧ ∀ j ∈ pre, ∀ p, xs[j]? ≠ some (k, p)) _ ?_ ?_ _ _ ⟨rfl, rfl, [], rfl, fun _ h => nomatch h⟩
  · rintro i rest b s' ⟨rfl, rfl, pre, hpre, hno⟩
    have hin : i ∈ placesOf w xs k := by rw [hpre]; exact List.mem_append_right _ (.head _)
    obtain ⟨x, hx, hh⟩ := places_mem.mp hin
    rw [entry_of, hx]
    simp only [Option.map_some, mdEntry]
    rw [if_pos (by rw [hh]; simp)]
    refine wpAny_bind (wpAny_dictEpoch ho hd (wpAny_bind (eq_md hu (his x (List.mem_of_getElem? hx)) hkey (wpAny_bind (wpAny_dictEpoch ho hd ?_)))))
    rw [if_neg (by simp)]
    by_cases hk : x.1 = k
    · rw [decide_eq_true hk]
      exact wpAny_bind (wpAny_rule (wpAny_pure (wpAny_pure (hsome i x.2 (by rw [hx, ← hk])))))
    · rw [decide_eq_false hk]
      refine wpAny_bind (wpAny_rule (wpAny_pure ⟨rfl, rfl, pre ++ [i], by rw [hpre]; simp, fun j hj p hp => ?_⟩))
      rcases List.mem_append.mp hj with hj | hj
      · exact hno j hj p hp
      · rcases List.mem_singleton.mp hj with rfl
        rw [hx] at hp
        exact hk (congrArg Prod.fst (Option.some.inj hp))
  · rintro b s' ⟨rfl, rfl, pre, hpre, hno⟩
    refine wpAny_pure (hnone fun j p hp => ?_)
    refine hno j ?_ p hp
    rw [List.append_nil] at hpre
    rw [← hpre]
    exact places_mem.mpr ⟨_, hp, rfl⟩
theorem quiet_md {x : Md} {v : Value} (h : KeyOk s.heap x v) {Q : Bool → Shared → Prop} (hq : Q true s) : wpAny (model prog w) A (eqIsQuiet 8 v) Q E s := by
  cases x with
  | s x => obtain ⟨t, rfl⟩ := h; exact wpAny_of_eq (eqIsQuiet_byValue 8 rfl) hq
  | n x => obtain ⟨t, rfl⟩ := h; exact wpAny_of_eq (eqIsQuiet_byValue 8 rfl) hq
  | b x => obtain ⟨t, rfl⟩ := h; exact wpAny_of_eq (eqIsQuiet_byValue 8 rfl) hq
  | t x => obtain ⟨T, u, rfl, hT⟩ := h; exact wpAny_eqIsQuiet_tuple (tup_key (prog := prog) (w := w) hT) hq
theorem tells_md (hkey : KeyOk s.heap k key) {st : List Value} (hst : ∀ v ∈ st, ∃ x, KeyOk s.heap x v) {Q : Bool → Shared → Prop} (h : Q false s) : wpAny (model prog w) A (tableMayTell key st) Q E s := by
  unfold tableMayTell
  split
  · exact wpAny_pure h
  · refine wpAny_bind (quiet_md hkey ?_)
    simp only [Bool.not_true, Bool.false_eq_true, if_false]
    refine wpAny_bind ?_
    refine wpAny_forIn_list _ (fun rest r s' => s' = s ∧ r = (none, ()) ∧ ∀ v ∈ rest, ∃ x, KeyOk s.heap x v) _ ?_ ?_ _ _ ⟨rfl, rfl, hst⟩
    · rintro y rest r s' ⟨rfl, rfl, hr⟩
      obtain ⟨x, hb⟩ := hr y List.mem_cons_self
      refine wpAny_bind (quiet_md hb ?_)
      simp only [Bool.not_true, Bool.false_eq_true, if_false]
      exact wpAny_pure ⟨rfl, rfl, fun v hv => hr v (List.mem_cons_of_mem _ hv)⟩
    · rintro r s' ⟨rfl, rfl, _⟩
      exact wpAny_pure h
theorem find_md (hu : A.units < cLine) (hkey : KeyOk s.heap k key) (ho : s.heap.get? d = some o) (hd : o.data = .dict (xs.map (mdEntry w)).toArray ep) (his : ∀ x ∈ xs, KeyOk s.heap x.1 x.2.1) (hn : (xs.map (·.1)).Nodup)
    {Q : Option Nat → Shared → Prop} (hnone : (∀ (j : Nat) (p : Value × Value), xs[j]? ≠ some (k, p)) → Q none s) (hsome : ∀ (j : Nat) (p : Value × Value), xs[j]? = some (k, p) → Q (some j) s) :
    wpAny (model prog w) A (dictFind d key (mdHash w k)) Q E s := by
  have hst : ∀ v ∈ (placesOf w xs k).filterMap (fun i => (xs.map (mdEntry w)).toArray[i]?.map (·.key)), ∃ x, KeyOk s.heap x v := by
    intro v hv
    obtain ⟨i, _, hi⟩ := List.mem_filterMap.mp hv
    rw [entry_of] at hi
    cases hx : xs[i]? with
    | none => rw [hx] at hi; cases hi
    | some x =>
      rw [hx] at hi
      obtain rfl := Option.some.inj hi
      exact ⟨x.1, his x (List.mem_of_getElem? hx)⟩
  have loop : wpAny (model prog w) A (do
      let mut hit : Option Nat := none
      for i in placesOf w xs k do
        if let some e := (xs.map (mdEntry w)).toArray[i]? then
          if e.hash == mdHash w k then
            let before ← dictEpoch d (keyPart key)
            let same ← eqBool e.key key
            if (← dictEpoch d (keyPart key)) != before then unsupported "dict.changed-during-lookup"
            if same then
              if hit.isSome then unsupported "dict.find:order-among-keys-of-one-hash"
              rule "dict.find.hit"
              if ((placesOf w xs k).filterMap fun i => (xs.map (mdEntry w)).toArray[i]?.map (·.key)).length < 2 then return some i
              hit := some i
            else
              rule "dict.find.same-hash-other-key"
              if false && !(0 ≤ mdHash w k && mdHash w k < 32) then unsupported "dict.find:asked-again-or-not-hangs-on-the-table"
      return hit) Q E s := by
    refine wpAny_bind ?_
    refine wpAny_forIn_list _ (fun rest b s' => s' = s ∧ ∃ hit pre, b = (none, hit) ∧ placesOf w xs k = pre ++ rest ∧ ((hit = none ∧ ∀ j ∈ pre, ∀ p, xs[j]? ≠ some (k, p)) ∨ ∃ j p, hit = some j ∧ j ∈ pre ∧ xs[j]? = some (k, p))) _ ?_ ?_ _ _
      ⟨rfl, none, [], rfl, rfl, .inl ⟨rfl, fun _ h => nomatch h⟩⟩
    · rintro i rest b s' ⟨rfl, hit, pre, rfl, hpre, hH⟩
      have hin : i ∈ placesOf w xs k := by rw [hpre]; exact List.mem_append_right _ (.head _)
      obtain ⟨x, hx, hh⟩ := places_mem.mp hin
      have hnd := places_nodup (w := w) (xs := xs) (k := k)
      rw [entry_of, hx]
      simp only [Option.map_some, mdEntry]
      rw [if_pos (by rw [hh]; simp)]
      refine wpAny_bind (wpAny_dictEpoch ho hd (wpAny_bind (eq_md hu (his x (List.mem_of_getElem? hx)) hkey (wpAny_bind (wpAny_dictEpoch ho hd ?_)))))
      rw [if_neg (by simp)]
      by_cases hk : x.1 = k
      · rw [decide_eq_true hk]
        have hxk : xs[i]? = some (k, x.2) := by rw [hx, ← hk]
        rcases hH with ⟨rfl, hno⟩ | ⟨j, p, rfl, hj, hjp⟩
        · simp only [Option.isSome_none, Bool.false_eq_true, if_false, if_true]
          refine wpAny_bind (wpAny_rule ?_)
          split
          · exact wpAny_pure (wpAny_pure (hsome i _ hxk))
          · exact wpAny_pure ⟨rfl, some i, pre ++ [i], rfl, by rw [hpre]; simp, .inr ⟨i, _, rfl, by simp, hxk⟩⟩
        · exfalso
          obtain rfl := row_unique hn hjp hxk
          rw [hpre] at hnd
          exact (List.nodup_append.mp hnd).2.2 j hj j (.head _) rfl
      · rw [decide_eq_false hk]
        simp only [Bool.false_eq_true, if_false, Bool.false_and]
        refine wpAny_bind (wpAny_rule ?_)
        refine wpAny_pure ⟨rfl, hit, pre ++ [i], rfl, by rw [hpre]; simp, ?_⟩
        rcases hH with ⟨rfl, hno⟩ | ⟨j, p, rfl, hj, hjp⟩
        · refine .inl ⟨rfl, fun j hj p hp => ?_⟩
          rcases List.mem_append.mp hj with hj | hj
          · exact hno j hj p hp
          · rcases List.mem_singleton.mp hj with rfl
            rw [hx] at hp
            exact hk (congrArg Prod.fst (Option.some.inj hp))
        · exact .inr ⟨j, p, rfl, List.mem_append_left _ hj, hjp⟩
    · rintro b s' ⟨rfl, hit, pre, rfl, hpre, hH⟩
      rw [List.append_nil] at hpre
      rcases hH with ⟨rfl, hno⟩ | ⟨j, p, rfl, hj, hjp⟩
      · refine wpAny_pure (hnone fun j p hp => ?_)
        refine hno j ?_ p hp
        rw [← hpre]
        exact places_mem.mpr ⟨_, hp, rfl⟩
      · exact wpAny_pure (hsome j p hjp)
  unfold dictFind
  refine wpAny_holding ?_
  refine wpAny_bind (wpAny_dictEntries ho hd ?_)
  dsimp only
  have hk0 := hkey
  have walk := walk_md (prog := prog) (E := E) hu hkey ho hd his hnone hsome
  cases k with
  | s x =>
    obtain ⟨t, rfl⟩ := hkey
    dsimp only
    refine either (fun hall => ?_) (fun _ => ?_)
    · skip
      have hsa : ∀ (j : Nat) (y : MdRow), xs[j]? = some y → ∃ z, y.1 = Md.s z ∧ ∃ t', y.2.1 = Value.str z t' := by
        intro j y hj
        have h1 := Array.all_eq_true.mp hall j (by simpa using (List.getElem?_eq_some_iff.mp hj).1)
        have h2 := his y (List.mem_of_getElem? hj)
        have e : ((xs.map (mdEntry w)).toArray[j]'(by simpa using (List.getElem?_eq_some_iff.mp hj).1)).key = y.2.1 := by
          have := (List.getElem?_eq_some_iff.mp hj).2
          simp [mdEntry, this]
        rw [e] at h1
        obtain ⟨md, kv, vv⟩ := y
        cases md with
        | s z => exact ⟨z, rfl, h2⟩
        | n z => obtain ⟨t', h2⟩ := h2; dsimp only at h1 h2; rw [h2] at h1; cases h1
        | b z => obtain ⟨t', h2⟩ := h2; dsimp only at h1 h2; rw [h2] at h1; cases h1
        | t z => obtain ⟨T, u, h2, _⟩ := h2; dsimp only at h1 h2; rw [h2] at h1; cases h1
      unfold foundByValue
      cases hf : (xs.map (mdEntry w)).toArray.findIdx? (fun e => e.key.isStr x) with
      | none =>
        refine wpAny_pure (hnone fun j p hj => ?_)
        have h1 := Array.findIdx?_eq_none_iff.mp hf (mdEntry w (Md.s x, p)) (by simp; exact ⟨_, _, _, List.mem_of_getElem? hj, rfl⟩)
        obtain ⟨z, hz, t', ht'⟩ := hsa j _ hj
        injection hz with hz
        subst hz
        dsimp only at ht'
        simp only [mdEntry, ht', Value.isStr] at h1
        simp at h1
      | some i =>
        obtain ⟨hlt, hi, _⟩ := Array.findIdx?_eq_some_iff_getElem.mp hf
        have hlt' : i < xs.length := by simpa using hlt
        have hx : xs[i]? = some xs[i] := List.getElem?_eq_getElem hlt'
        obtain ⟨z, hz, t', ht'⟩ := hsa i _ hx
        have hzx : z = x := by
          simp only [List.getElem_toArray, List.getElem_map, mdEntry, ht', Value.isStr] at hi
          simpa using hi
        subst hzx
        dsimp only
        rw [entry_of, hx]
        simp only [Option.map_some, mdEntry]
        refine wpAny_bind (wpAny_dictEpoch ho hd (wpAny_bind (eq_md hu (his _ (List.mem_of_getElem? hx)) hk0 (wpAny_bind (wpAny_dictEpoch ho hd ?_)))))
        rw [if_neg (by simp), decide_eq_true hz]
        exact wpAny_bind (wpAny_rule (wpAny_pure (hsome i xs[i].2 (by rw [hx, ← hz]))))
    · refine either (fun _ => ?_) (fun _ => ?_)
      · exact walk
      · refine either (fun _ => ?_) (fun _ => ?_)
        · refine wpAny_bind (wpAny_pure ?_)
          rw [if_neg (by simp)]
          exact loop
        · refine wpAny_bind (tells_md hk0 hst ?_)
          rw [if_neg (by simp)]
          exact loop
  | n x =>
    obtain ⟨t, rfl⟩ := hkey
    dsimp only
    refine either (fun _ => ?_) (fun _ => ?_)
    · exact walk
    · refine either (fun _ => ?_) (fun _ => ?_)
      · refine wpAny_bind (wpAny_pure ?_)
        rw [if_neg (by simp)]
        exact loop
      · refine wpAny_bind (tells_md hk0 hst ?_)
        rw [if_neg (by simp)]
        exact loop
  | b x =>
    obtain ⟨t, rfl⟩ := hkey
    dsimp only
    refine either (fun _ => ?_) (fun _ => ?_)
    · exact walk
    · refine either (fun _ => ?_) (fun _ => ?_)
      · refine wpAny_bind (wpAny_pure ?_)
        rw [if_neg (by simp)]
        exact loop
      · refine wpAny_bind (tells_md hk0 hst ?_)
        rw [if_neg (by simp)]
        exact loop
  | t x =>
    obtain ⟨T, u, rfl, hT⟩ := hkey
    dsimp only
    rw [if_neg (by simp [carriedByValue])]
    have hany : ¬ ((xs.map (mdEntry w)).toArray.any fun e => e.key == Value.ref T && e.hash != mdHash w (Md.t x)) = true := by
      rw [← Array.any_toList, List.any_eq_true]
      rintro ⟨e, hin, hc⟩
      obtain ⟨y, hy, rfl⟩ := List.mem_map.mp hin
      simp only [mdEntry, Bool.and_eq_true, beq_iff_eq, bne_iff_ne, ne_eq] at hc
      have h2 := his y hy
      rw [hc.1] at h2
      obtain ⟨md, kv, vv⟩ := y
      cases md with
      | s z => obtain ⟨_, h2⟩ := h2; cases h2
      | n z => obtain ⟨_, h2⟩ := h2; cases h2
      | b z => obtain ⟨_, h2⟩ := h2; cases h2
      | t z =>
        obtain ⟨T', u', h3, hT'⟩ := h2
        injection h3 with h3
        subst h3
        obtain ⟨o1, ho1, hc1, n1, hd1⟩ := hT
        obtain ⟨o2, ho2, hc2, n2, hd2⟩ := hT'
        rw [ho1] at ho2
        obtain rfl := Option.some.inj ho2
        rw [hd1] at hd2
        injection hd2 with hd2 _
        have := congrArg (·[0]?) hd2
        simp at this
        exact hc.2 (by rw [this.1])
    rw [if_neg hany]
    refine either (fun _ => ?_) (fun _ => ?_)
    · refine wpAny_bind (wpAny_pure ?_)
      rw [if_neg (by simp)]
      exact loop
    · refine wpAny_bind (tells_md hk0 hst ?_)
      rw [if_neg (by simp)]
      exact loop
end
end Mine
end PartS1l

section PartS1m
open PySem PySem.W PyProof.Rows
set_option Elab.async false
set_option maxRecDepth 100000
set_option linter.unusedVariables false
namespace Mine
theorem freshS1m : True ∧ True := by
  w_top off
  first | (walk1; all_goals trivial) | exact ⟨trivial, trivial⟩
def tupO (x : Str) (u : Tok) (n : Nat) : Obj := { cls := .type "tuple", data := .seq #[.str x u] n }
/-- a key that the ledger ks bears -/
def KeyIn (ks : List (Addr × Obj)) : Md → Value → Prop
  | .s x, v => ∃ t, v = .str x t
  | .n i, v => ∃ t, v = .int i t
  | .b x, v => ∃ t, v = .bytes x t
  | .t x, v => ∃ T u n, v = .ref T ∧ (T, tupO x u n) ∈ ks
theorem KeyIn.ok {h₀ h : Heap} {L : Addr} {ks news : List (Addr × Obj)} {k : Md} {v : Value} (N : News h₀ L h news) (hs : ∀ p ∈ ks, p ∈ news) (x : KeyIn ks k v) : KeyOk h k v := by
  cases k with
  | s y => exact x
  | n y => exact x
  | b y => exact x
  | t y => obtain ⟨T, u, n, rfl, hm⟩ := x; exact ⟨T, u, rfl, _, (N _ (hs _ hm)).1, rfl, n, rfl⟩
theorem KeyIn.mono {ks ks' : List (Addr × Obj)} {k : Md} {v : Value} (hs : ∀ p ∈ ks, p ∈ ks') (x : KeyIn ks k v) : KeyIn ks' k v := by
  cases k with
  | s y => exact x
  | n y => exact x
  | b y => exact x
  | t y => obtain ⟨T, u, n, rfl, hm⟩ := x; exact ⟨T, u, n, rfl, hs _ hm⟩
/-- what is remembered -/
abbrev Mem := List (Md × Int)
def look (mem : Mem) (k : Md) : Option Int := (mem.find? fun p => decide (p.1 = k)).map (·.2)
def RowsAre (xs : List MdRow) (mem : Mem) : Prop := xs.map (·.1) = mem.map (·.1) ∧ ∀ (j : Nat) (x : MdRow) (p : Md × Int), xs[j]? = some x → mem[j]? = some p → ∃ t, x.2.2 = Value.int p.2 t
def MdDict (w : World) (ks : List (Addr × Obj)) (mem : Mem) (o : Obj) : Prop :=
  ∃ xs ep, o.ExactDict ∧ o.data = .dict (xs.map (mdEntry w)).toArray ep ∧ RowsAre xs mem ∧ (mem.map (·.1)).Nodup ∧ ∀ x ∈ xs, KeyIn ks x.1 x.2.1
theorem MdDict.mono {w : World} {ks ks' : List (Addr × Obj)} {mem : Mem} {o : Obj} (hs : ∀ p ∈ ks, p ∈ ks') (h : MdDict w ks mem o) : MdDict w ks' mem o :=
  let ⟨xs, ep, a, b, c, d, e⟩ := h; ⟨xs, ep, a, b, c, d, fun x hx => (e x hx).mono hs⟩
theorem look_none {xs : List MdRow} {mem : Mem} {k : Md} (hr : RowsAre xs mem) (h : ∀ (j : Nat) (p : Value × Value), xs[j]? ≠ some (k, p)) : look mem k = none := by
  unfold look
  rw [Option.map_eq_none_iff, List.find?_eq_none]
  intro p hp
  simp only [decide_eq_true_eq]
  intro e
  have h1 : k ∈ xs.map (·.1) := by rw [hr.1, ← e]; exact List.mem_map.mpr ⟨p, hp, rfl⟩
  obtain ⟨x, hx, rfl⟩ := List.mem_map.mp h1
  obtain ⟨j, hj, rfl⟩ := List.mem_iff_getElem.mp hx
  exact h j xs[j].2 (by simp [hj])
theorem look_some {xs : List MdRow} {mem : Mem} {k : Md} (hr : RowsAre xs mem) (hn : (mem.map (·.1)).Nodup) {j : Nat} {p : Value × Value} (hx : xs[j]? = some (k, p)) : ∃ i t, look mem k = some i ∧ p.2 = .int i t := by
  have hl : xs.length = mem.length := by have := congrArg List.length hr.1; simpa using this
  have hj : j < mem.length := by rw [← hl]; exact (List.getElem?_eq_some_iff.mp hx).1
  obtain ⟨t, ht⟩ := hr.2 j _ mem[j] hx (by simp [hj])
  refine ⟨mem[j].2, t, ?_, ht⟩
  have e1 : mem[j].1 = k := by
    have := congrArg (·[j]?) hr.1
    simp only [List.getElem?_map, hx, Option.map_some, List.getElem?_eq_getElem hj] at this
    exact (Option.some.inj this).symm
  unfold look
  rw [Option.map_eq_some_iff]
  refine ⟨mem[j], ?_, rfl⟩
  cases hf : mem.find? (fun p => decide (p.1 = k)) with
  | none =>
    have := List.find?_eq_none.mp hf mem[j] (List.getElem_mem hj)
    simp [e1] at this
  | some q =>
    have hq1 : q.1 = k := by simpa using List.find?_some hf
    obtain ⟨i, hi, rfl⟩ := List.mem_iff_getElem.mp (List.mem_of_find?_eq_some hf)
    have : i = j := by
      have hi' : i < (mem.map (·.1)).length := by simpa using hi
      have hj' : j < (mem.map (·.1)).length := by simpa using hj
      have e3 : (mem.map (·.1))[i] = (mem.map (·.1))[j] := by simp [hq1, e1]
      rcases Nat.lt_trichotomy i j with h | h | h
      · exact absurd e3 ((List.pairwise_iff_getElem.mp hn) i j hi' hj' h)
      · exact h
      · exact absurd e3.symm ((List.pairwise_iff_getElem.mp hn) j i hj' hi' h)
    subst this; rfl
section
variable {prog : Program} {w : World} {A : Around} {E : Value → Shared → Prop} {s : Shared} {d : Addr} {o : Obj} {k : Md} {key : Value} {h₀ : Heap} {L : Addr} {m : Str → Option Value} {ks news : List (Addr × Obj)} {mem : Mem}
theorem md_get (hu : A.units + 8 < cLine) (N : News h₀ L s.heap news) (hs : ∀ p ∈ ks, p ∈ news) (hm : (d, o) ∈ news) (hd : MdDict w ks mem o) (hk : KeyIn ks k key) {Q : Option Value → Shared → Prop}
    (h : ∀ v tk, (look mem k = none → v = none) → (∀ i, look mem k = some i → ∃ t, v = some (.int i t)) → Q v { s with toks := tk }) : wpAny (model prog w) A (dictGet d key) Q E s := by
  obtain ⟨xs, ep, hex, hdd, hr, hn, his⟩ := hd
  have hk' := hk.ok N hs
  have hxn : (xs.map (·.1)).Nodup := hr.1 ▸ hn
  unfold dictGet
  refine wpAny_holding ?_
  refine wpAny_bind (hash_md hu hk' fun tk => ?_)
  refine wpAny_bind (find_md (s := { s with toks := tk }) (by omega) hk' (N _ hm).1 hdd (fun x hx => (his x hx).ok N hs) hxn ?_ ?_)
  · intro hno
    have hl := look_none hr hno
    refine wpAny_pure (h none tk (fun _ => rfl) fun i hi => ?_)
    rw [hl] at hi; cases hi
  · intro j p hj
    obtain ⟨i, t, hl, hp⟩ := look_some hr hn hj
    refine wpAny_bind (wpAny_dictEntries (s := { s with toks := tk }) (N _ hm).1 hdd ?_)
    rw [entry_of, hj]
    refine wpAny_pure (h _ tk (fun h => ?_) fun i' hi => ?_)
    · rw [hl] at h; cases h
    · rw [hl] at hi
      obtain rfl := Option.some.inj hi
      exact ⟨t, by simp only [Option.map_some, mdEntry, hp]⟩
theorem md_type (N : News h₀ L s.heap news) (hm : (d, o) ∈ news) (hd : MdDict w ks mem o) : s.TypeIs (.ref d) "dict" := by
  obtain ⟨xs, ep, hex, hdd, hr, hn, his⟩ := hd
  exact ⟨o, (N _ hm).1, hex.1⟩
theorem md_in (hu : A.units + 20 < cLine) (N : News h₀ L s.heap news) (hs : ∀ p ∈ ks, p ∈ news) (hm : (d, o) ∈ news) (hd : MdDict w ks mem o) (hk : KeyIn ks k key) (hds : (d == sysModules) = false) {Q : Value → Shared → Prop}
    (h : ∀ tk, Q (.bool (look mem k).isSome) { s with toks := tk }) : wpAny (model prog w) A (compareOp .In key (.ref d)) Q E s := by
  have hT := md_type N hm hd
  show wpAny _ _ (do return .bool (← contains (.ref d) key)) Q E s
  refine wpAny_bind ?_
  unfold contains
  refine wpAny_holding ?_
  refine wpAny_bind (wpAny_specialOf hT slot_dict_contains.lookup ?_)
  show wpAny _ _ (if (some (Value.builtin "dict.__contains__") == some Value.none) = true then _ else _) _ E s
  rw [if_neg (by rw [beq_builtin_none]; exact Bool.false_ne_true)]
  refine wpAny_bind (wpAny_callSpecialUnlessNone?_slot (name := Str.ofString "__contains__") hT slot_dict_contains
    (wpAny_call_entry slot_dict_contains hT entry_dict_contains ?_ (args_dict_contains _ _)))
  show wpAny _ _ (dictGet d key >>= _) _ _ s
  refine wpAny_bind (md_get (by rw [units_in1]; omega) N hs hm hd hk fun v tk h1 h2 => ?_)
  cases hl : look mem k with
  | some i =>
    obtain ⟨t, rfl⟩ := h2 i hl
    have := h tk
    rw [hl] at this
    show wpAny _ _ (ret (.bool true)) _ _ _
    exact wpAny_pure ⟨_, rfl, wpAny_truthy_bool (wpAny_pure this)⟩
  | none =>
    obtain rfl := h1 hl
    have := h tk
    rw [hl] at this
    show wpAny _ _ (Builtin.Dict.pendingKey? d key >>= _) _ _ _
    exact wpAny_bind (wpAny_pendingKey_other hds (wpAny_pure ⟨_, rfl, wpAny_truthy_bool (wpAny_pure this)⟩))
theorem md_getItem (hu : A.units + 20 < cLine) (N : News h₀ L s.heap news) (hs : ∀ p ∈ ks, p ∈ news) (hm : (d, o) ∈ news) (hd : MdDict w ks mem o) (hk : KeyIn ks k key) {i : Int} (hl : look mem k = some i) {Q : Value → Shared → Prop}
    (h : ∀ t tk, Q (.int i t) { s with toks := tk }) : wpAny (model prog w) A (getItem (.ref d) key) Q E s := by
  have hT := md_type N hm hd
  unfold getItem
  refine wpAny_holding ?_
  refine wpAny_bind (wpAny_sequenceKey hT (by decide) ?_)
  refine wpAny_bind (wpAny_callSpecial?_slot (name := Str.ofString "__getitem__") hT slot_dict_getitem
    (wpAny_call_entry slot_dict_getitem hT entry_dict_getitem ?_ (args_dict_getitem _ _)))
  show wpAny _ _ (dictGet d key >>= _) _ _ s
  refine wpAny_bind (md_get (by rw [units_in1]; omega) N hs hm hd hk fun v tk h1 h2 => ?_)
  obtain ⟨t, rfl⟩ := h2 i hl
  exact wpAny_pure ⟨_, rfl, wpAny_pure (h t tk)⟩
theorem md_dictSet (hu : A.units + 8 < cLine) (N : News h₀ L s.heap news) (hs : ∀ p ∈ ks, p ∈ news) (hm : (d, o) ∈ news) (hd : MdDict w ks mem o) (hk : KeyIn ks k key) (hl : look mem k = none) (hz : mem.length ≤ 1000) {i : Int} {t : Tok} {Q : Unit → Shared → Prop}
    (h : ∀ h' o' tk, h'.get? d = some o' → Heap.SameBut d s.heap h' → MdDict w ks (mem ++ [(k, i)]) o' → Q () { s with heap := h', toks := tk }) : wpAny (model prog w) A (dictSet d key (.int i t)) Q E s := by
  obtain ⟨xs, ep, hex, hdd, hr, hn, his⟩ := hd
  have hk' := hk.ok N hs
  have hxn : (xs.map (·.1)).Nodup := hr.1 ▸ hn
  have hlen : xs.length = mem.length := by have := congrArg List.length hr.1; simpa using this
  have ho := (N _ hm).1
  unfold dictSet
  refine wpAny_holding ?_
  refine wpAny_bind (hash_md hu hk' fun tk => ?_)
  unfold dictSetHashed
  refine wpAny_holding ?_
  refine wpAny_bind (find_md (s := { s with toks := tk }) (by omega) hk' ho hdd (fun x hx => (his x hx).ok N hs) hxn ?_ ?_)
  · intro hno
    have hnot : k ∉ mem.map (·.1) := by
      intro hin
      obtain ⟨p, hp, e⟩ := List.mem_map.mp hin
      unfold look at hl
      rw [Option.map_eq_none_iff, List.find?_eq_none] at hl
      have := hl p hp
      simp [e] at this
    refine wpAny_bind (wpAny_rule (wpAny_updateDictKeys (hz := by simp only [List.size_toArray, List.length_map, sizeLine_eq]; omega) (s := { s with toks := tk }) ho hdd
      (h _ _ tk (Heap.get?_update_self _ ho (Obj.isFreed_of_dict (Obj.data_mapDictKeys hdd _))) (Heap.SameBut.update ..) ⟨xs ++ [(k, key, .int i t)], ep + 1, hex.mapDictKeys _, ?_, ⟨?_, ?_⟩, ?_, ?_⟩)))
    · rw [Obj.data_mapDictKeys hdd]
      simp [mdEntry]
    · simp [hr.1]
    · intro j x p hx hp
      by_cases hj : j < xs.length
      · rw [List.getElem?_append_left hj] at hx
        rw [List.getElem?_append_left (by omega)] at hp
        exact hr.2 j x p hx hp
      · have hj2 : j = xs.length := by
          have := (List.getElem?_eq_some_iff.mp hx).1
          simp at this; omega
        subst hj2
        simp at hx
        rw [hlen] at hp
        simp at hp
        subst hx; subst hp
        exact ⟨t, rfl⟩
    · rw [List.map_append, List.nodup_append]
      refine ⟨hn, by simp, fun x hx y hy e => ?_⟩
      simp only [List.map_cons, List.map_nil, List.mem_singleton] at hy
      exact hnot (by rw [← hy, ← e]; exact hx)
    · intro x hx
      rcases List.mem_append.mp hx with hx | hx
      · exact his x hx
      · rcases List.mem_singleton.mp hx with rfl
        exact hk
  · intro j p hj
    obtain ⟨i', t', hl', _⟩ := look_some hr hn hj
    rw [hl] at hl'; cases hl'
theorem md_set (hu : A.units + 20 < cLine) (F : Fr h₀ L s.heap m) (N : News h₀ L s.heap news) (hs : ∀ p ∈ ks, p ∈ news) {g : Obj → List (Addr × Obj)} (U : UpdF d o news g) (hd : MdDict w ks mem o) (hk : KeyIn ks k key) (hl : look mem k = none) (hz : mem.length ≤ 1000) {i : Int} {t : Tok} {Q : Unit → Shared → Prop}
    (h : ∀ h' o' tk, Fr h₀ L h' m → News h₀ L h' (g o') → MdDict w ks (mem ++ [(k, i)]) o' → Q () { s with heap := h', toks := tk }) : wpAny (model prog w) A (setItem (.ref d) key (.int i t)) Q E s := by
  obtain ⟨pre, post, rfl, hg, a, b⟩ := U.split
  have hm := N (d, o) (List.mem_append_right _ (.head _))
  have hT := md_type N (List.mem_append_right _ (.head _)) hd
  unfold setItem
  refine wpAny_holding ?_
  refine wpAny_bind (wpAny_sequenceKey hT (by decide) ?_)
  refine wpAny_bind (wpAny_callSpecial?_slot (name := Str.ofString "__setitem__") hT slot_dict_setitem
    (wpAny_call_entry slot_dict_setitem hT entry_dict_setitem ?_ (args_dict_setitem _ _ _)))
  show wpAny _ _ (Builtin.Dict.notOrdered "__setitem__" ⟨[.ref d, key, .int i t], []⟩ >>= _) _ _ s
  refine wpAny_bind (wpAny_notOrdered_dict hT ?_)
  show wpAny _ _ (dictSet d key (.int i t) >>= _) _ _ s
  refine wpAny_bind (md_dictSet (by rw [units_in1]; omega) N hs (List.mem_append_right _ (.head _)) hd hk hl hz fun h' o' tk ho' hsb hd' => wpAny_pure ⟨.none, rfl, wpAny_pure ?_⟩)
  exact h h' o' tk (F.change hsb hm.2.1 hm.2.2) (hg o' ▸ N.setIn a b hsb ho') hd'
end
end Mine
end PartS1m

section PartS1n
open PySem PySem.W PyProof.Rows
set_option Elab.async false
set_option maxRecDepth 100000
set_option linter.unusedVariables false
namespace Mine
theorem freshS1n : True ∧ True := by
  w_top off
  first | (walk1; all_goals trivial) | exact ⟨trivial, trivial⟩
/-- is the module on the list -/
def onList (l : List (Str × Tok)) : Md → Bool
  | .s x => decide (x ∈ l.map (·.1))
  | _ => false
section
variable {prog : Program} {w : World} {A : Around} {E : Value → Shared → Prop} {s : Shared} {a : Addr} {o : Obj} {k : Md} {key : Value} {led : Bool} {l : List (Str × Tok)}
theorem md_setOf (ho : s.heap.get? a = some o) (hS : StrSetObj w led l o) (h3 : l.length ≤ 3) : s.heap.SetOf (PySem.strKind prog w) a (fun x => decide (x ∈ l.map (·.1))) l.length := by
  obtain ⟨es, ep, t, hex, hd, hsm, hpl, hled, hpn, hp⟩ := hS
  have hz : es.size = l.length := by rw [← Array.length_toList, hp.length_eq, entries_len]
  refine ⟨o, es, ep, t, ho, hex, hd, elems_of hp, fun x => ?_, by rw [hz]; unfold scanBound; omega, small_fits hsm hpl (by omega), hz⟩
  rw [decide_eq_true_eq]
  constructor
  · intro hx
    obtain ⟨p, hpm, rfl⟩ := List.mem_map.mp hx
    exact ⟨_, hp.mem_iff.mpr (List.mem_map.mpr ⟨p, hpm, rfl⟩), strKind_is _ _ _ _⟩
  · rintro ⟨e, he, hk⟩
    obtain ⟨p, hpm, rfl⟩ := List.mem_map.mp (hp.mem_iff.mp he)
    have : p.1 = x := by
      have h1 : Value.isStrOf x (.str p.1 p.2) = true := hk
      simpa [Value.isStrOf] using h1
    exact this ▸ List.mem_map.mpr ⟨p, hpm, rfl⟩
theorem set_find (hu : A.units < cLine) (ho : s.heap.get? a = some o) (hS : StrSetObj w led l o) (h3 : l.length ≤ 3) (ht : ∀ p ∈ l, p.2 ≠ 0) (hk : KeyOk s.heap k key) {Q : Option Nat → Shared → Prop}
    (h : ∀ r : Option Nat, r.isSome = onList l k → Q r s) : wpAny (model prog w) A (setFind a key (mdHash w k)) Q E s := by
  have hS' := hS
  obtain ⟨es, ep, t, hex, hd, hsm, hpl, hled, hpn, hp⟩ := hS
  have hz : es.size = l.length := by rw [← Array.length_toList, hp.length_eq, entries_len]
  have hf : t.fits es.size = true := small_fits hsm hpl (by omega)
  have hstr : ∀ y ∈ es.toList, ∃ p ∈ l, y.2 = Value.str p.1 p.2 := by
    intro y hy
    obtain ⟨p, hpm, rfl⟩ := List.mem_map.mp (hp.mem_iff.mp hy)
    exact ⟨p, hpm, rfl⟩
  have hne : (∀ x, k ≠ .s x) → ∀ y ∈ es.toList, ∀ Q : Bool → Shared → Prop, Q false s → wpAny (model prog w) A (eqBool y.2 key) Q E s := by
    intro hk0 y hy Q hq
    obtain ⟨p, hpm, e⟩ := hstr y hy
    rw [e]
    refine eq_md hu (a := Md.s p.1) ⟨_, rfl⟩ hk ?_
    rw [decide_eq_false (fun e => hk0 _ e.symm)]
    exact hq
  have scan : key.scannable = true → (∀ x, k ≠ .s x) → (∀ x t, key ≠ .str x t) → onList l k = false → wpAny (model prog w) A (setFind a key (mdHash w k)) Q E s := by
    intro hsc hk0 hk1 hno
    unfold setFind setFindIn
    refine wpAny_bind (wpAny_setState_of ho hd hf ?_)
    dsimp only
    rw [byScan_of (knd := PySem.strKind prog w) hsc (by rw [hz]; unfold scanBound; omega) (elems_of hp)]
    simp only [↓reduceIte]
    refine wpAny_bind (wpAny_rule ?_)
    refine wpAny_bind ?_
    unfold setScan
    split
    · exact absurd rfl (hk1 _ _)
    · exact scan_absent ho hd hf _ _ (hne hk0) (wpAny_pure (h none (by rw [hno]; rfl)))
  cases k with
  | s x =>
    obtain ⟨t', rfl⟩ := hk
    exact wpAny_setFind_of (knd := PySem.strKind prog w) (strKind_is _ _ _ _) rfl (md_setOf ho hS' h3) h
  | n x =>
    obtain ⟨t', rfl⟩ := id hk
    exact scan rfl (fun _ => nofun) (fun _ _ => nofun) rfl
  | b x =>
    obtain ⟨t', rfl⟩ := id hk
    exact scan rfl (fun _ => nofun) (fun _ _ => nofun) rfl
  | t x =>
    obtain ⟨T, u, rfl, hT⟩ := id hk
    refine find_absent_search rfl ho hd hsm hpl (by omega) (hne fun _ => nofun) ?_ ?_ (h none rfl)
    · intro y hy Q hq
      obtain ⟨p, hpm, e⟩ := hstr y hy
      rw [e]
      exact same_str (ht p hpm) hq
    · intro _ st hst Q hq
      refine seen_tuple hT st (fun y hy => ?_) Q hq
      obtain ⟨e, he, rfl⟩ := hst y hy
      obtain ⟨p, hpm, e2⟩ := hstr e he
      exact ⟨p.1, p.2, e2⟩
theorem set_in (hu : A.units + 20 < cLine) (ho : s.heap.get? a = some o) (hS : StrSetObj w led l o) (h3 : l.length ≤ 3) (ht : ∀ p ∈ l, p.2 ≠ 0) (hk : KeyOk s.heap k key) {Q : Value → Shared → Prop}
    (h : ∀ tk, Q (.bool (onList l k)) { s with toks := tk }) : wpAny (model prog w) A (compareOp .In key (.ref a)) Q E s := by
  have hT : s.TypeIs (.ref a) "set" := by
    obtain ⟨es, ep, t, hex, _⟩ := hS
    exact ⟨o, ho, hex.1⟩
  show wpAny _ _ (do return .bool (← contains (.ref a) key)) Q E s
  refine wpAny_bind ?_
  unfold contains
  refine wpAny_holding ?_
  refine wpAny_bind (wpAny_specialOf hT F.slot_set_contains.lookup ?_)
  show wpAny _ _ (if (some (Value.builtin "set.__contains__") == some Value.none) = true then _ else _) _ E s
  rw [if_neg (by rw [beq_builtin_none]; exact Bool.false_ne_true)]
  refine wpAny_bind (wpAny_callSpecialUnlessNone?_slot (name := Str.ofString "__contains__") hT F.slot_set_contains
    (wpAny_call_entry F.slot_set_contains hT entry_set_contains ?_ (F.args_set_contains_2 _ _)))
  unfold Builtin.«frozenset.__contains__» Builtin.Frozenset.oneOther
  simp only [List.isEmpty_nil, bind_assoc]
  unfold Builtin.Frozenset.addrOf Builtin.Frozenset.withSetAsKey setContains
  refine wpAny_bind (wpAny_pure ?_)
  try dsimp only
  refine wpAny_bind (wpAny_pure ?_)
  try dsimp only
  refine wpAny_bind (wpAny_tryCatch ?_)
  refine wpAny_holding ?_
  refine wpAny_bind (hash_md (by rw [units_in1]; omega) hk fun tk => ?_)
  refine wpAny_bind (set_find (s := { s with toks := tk }) (by rw [units_in1]; omega) ho hS h3 ht hk fun r hr => ?_)
  refine wpAny_pure ?_
  show wpAny _ _ (ret (Value.bool r.isSome)) _ _ _
  rw [hr]
  exact wpAny_pure ⟨_, rfl, wpAny_truthy_bool (wpAny_pure (h tk))⟩
end
/-- tokens only grow -/
theorem runs_toks {M : Model} {Γ : Ctx} {p : Pos} {t : Sem Fin} {fs : List Frame} {s s' : Shared} {e : End} (h : Runs M Γ p t fs s e s') : s.toks ≤ s'.toks := by
  induction h with
  | fresh _ ih => exact Nat.le_trans (Nat.le_succ _) ih
  | call _ _ ih1 ih2 => exact Nat.le_trans ih1 ih2
  | resumeFresh _ _ _ _ ih1 ih2 => exact Nat.le_trans ih1 ih2
  | resumeSuspended _ _ _ _ ih1 ih2 => exact Nat.le_trans ih1 ih2
  | segRet _ _ ih1 ih2 => exact Nat.le_trans ih1 ih2
  | segGen _ _ ih1 ih2 => exact Nat.le_trans ih1 ih2
  | segSuspGen _ _ _ _ ih1 ih2 => exact Nat.le_trans ih1 ih2
  | _ => first | exact Nat.le_refl _ | assumption
end Mine
end PartS1n

section PartS1o
open PySem PySem.W PyProof.Rows
set_option Elab.async false
set_option maxRecDepth 100000
set_option linter.unusedVariables false
namespace Mine
theorem freshS1o : True ∧ True := by
  w_top off
  first | (walk1; all_goals trivial) | exact ⟨trivial, trivial⟩
open Sem (wp)
theorem wp_toks {α : Type} {M : Model} {Γ : Ctx} {n : Nat} (t : Sem α) : ∀ {Q : α → Pos → Shared → Prop} {E : Value → Pos → Shared → Prop} {p : Pos} {s : Shared}, n ≤ s.toks → wp M Γ t Q E p s →
    wp M Γ t (fun a p' s' => n ≤ s'.toks ∧ Q a p' s') E p s := by
  induction t with
  | pure x => intro Q E p s hn h; exact ⟨hn, h⟩
  | raise v => intro Q E p s hn h; exact h
  | unsupported | finish | yield | fork | await | register => intro Q E p s hn h; exact h.elim
  | rule _ k ih | «at» _ k ih | loadIfAlive _ k ih | point _ k ih | ask k ih | handled _ k ih | stack k ih | thread k ih => intro Q E p s hn h; exact ih _ hn h
  | alloc _ k ih | os _ _ k ih | newGen _ k ih => intro Q E p s hn h; exact ih _ (s := _) (by exact hn) h
  | fresh k ih => intro Q E p s hn h; exact ih _ (s := _) (Nat.le_succ_of_le hn) h
  | load a _ k ih => intro Q E p s hn h; exact let ⟨o, ho, h⟩ := h; ⟨o, ho, ih _ hn h⟩
  | genState a k ih => intro Q E p s hn h; exact let ⟨o, ho, h⟩ := h; ⟨o, ho, ih _ hn h⟩
  | update a _ f k ih => intro Q E p s hn h; exact ⟨h.1, ih _ (s := _) (by exact hn) h.2⟩
  | choose _ _ k ih => intro Q E p s hn h; exact ⟨h.1, ih _ (s := _) (by exact hn) h.2⟩
  | call c h g l k ih =>
    intro Q E p s hn h
    obtain ⟨r, s', hr, hk⟩ := h
    exact ⟨r, s', hr, ih r (Nat.le_trans hn (runs_toks hr)) hk⟩
  | resume g r l k ih =>
    intro Q E p s hn h
    obtain ⟨res, s', hw, hk⟩ := h
    refine ⟨res, s', hw, ih _ (Nat.le_trans hn ?_) hk⟩
    unfold Wakes at hw
    split at hw
    · exact hw.elim
    · split at hw
      · obtain ⟨e₁, s₁, hr, _, _, rfl⟩ := hw; have := runs_toks hr; exact this
      · obtain ⟨_, rfl⟩ := hw; exact Nat.le_refl _
      · obtain ⟨_, rfl⟩ := hw; exact Nat.le_refl _
    · obtain ⟨e₁, s₁, hr, _, _, rfl⟩ := hw; have := runs_toks hr; exact this
    · obtain ⟨_, rfl⟩ := hw; exact Nat.le_refl _
    · obtain ⟨_, rfl⟩ := hw; exact Nat.le_refl _
/-- what comes behind may know that a token has been drawn -/
theorem tok_kept {α : Type} {M : Model} {A : Around} {t : Sem α} {Q : α → Shared → Prop} {E : Value → Shared → Prop} {s : Shared} {n : Nat} (hn : n ≤ s.toks) (h : wpAny M A t (fun v s' => n ≤ s'.toks → Q v s') E s) : wpAny M A t Q E s :=
  fun Γ p hΓ => Sem.wp_mono M Γ t (fun a _ s' h' => h'.2 h'.1) (fun _ _ _ e => e) p s (wp_toks t hn (h Γ p hΓ))
theorem wp_choose' {M : Model} {A : Around} {src : Source} {n : Nat} {Q : Nat → Shared → Prop} {E : Value → Shared → Prop} {s : Shared} (hn : n ≠ 0) (h : Q (M.w.draws src (s.drawn.get src) % n) { s with drawn := s.drawn.bump src }) : wpAny M A (choose src n) Q E s :=
  fun Γ p hΓ => ⟨hn, h⟩
theorem erase_perm {α : Type} : ∀ {l : List α} {i : Nat} (h : i < l.length), (l[i] :: l.eraseIdx i).Perm l
  | x :: l, 0, _ => List.Perm.refl _
  | x :: l, i + 1, h => by
    have h' : i < l.length := Nat.lt_of_succ_lt_succ h
    show (l[i] :: x :: l.eraseIdx i).Perm (x :: l)
    exact (List.Perm.swap _ _ _).trans (List.Perm.cons _ (erase_perm h'))
theorem draw_order {α : Type} {M : Model} {A : Around} {E : Value → Shared → Prop} : ∀ (n : Nat) (xs : List α) {Q : List α → Shared → Prop} {s : Shared}, xs.length = n → (∀ ys dr, ys.Perm xs → Q ys { s with drawn := dr }) → wpAny M A (drawOrder n xs) Q E s
  | 0, xs, Q, s, hl, h => by
    obtain rfl := List.eq_nil_of_length_eq_zero hl
    unfold drawOrder
    exact wpAny_pure (h [] s.drawn (List.Perm.refl _))
  | n + 1, [], Q, s, hl, h => by cases hl
  | n + 1, x :: xs, Q, s, hl, h => by
    unfold drawOrder
    refine wpAny_bind (wp_choose' (by simp) ?_)
    generalize hi : M.w.draws .order (s.drawn.get .order) % (x :: xs).length = i
    have hlt : i < (x :: xs).length := by rw [← hi]; exact Nat.mod_lt _ (by simp)
    rw [List.getElem?_eq_getElem hlt]
    dsimp only
    refine wpAny_bind (draw_order n ((x :: xs).eraseIdx i) (by rw [List.length_eraseIdx, if_pos hlt, hl]; rfl) fun ys dr hp => ?_)
    refine wpAny_pure (h _ dr ?_)
    exact (List.Perm.cons _ hp).trans (erase_perm hlt)
theorem pick_go {α : Type} (next : Nat → Nat) : ∀ (fuel k : Nat) (left : List α) (out : Array α), left.length = fuel → (pickOrder.go next fuel k left out).toList.Perm (out.toList ++ left)
  | 0, k, left, out, hl => by
    obtain rfl := List.eq_nil_of_length_eq_zero hl
    simp [pickOrder.go]
  | n + 1, k, left, out, hl => by
    have hlt : next k % left.length < left.length := Nat.mod_lt _ (by omega)
    unfold pickOrder.go
    rw [List.getElem?_eq_getElem hlt]
    dsimp only
    refine (pick_go next n (k + 1) _ _ (by rw [List.length_eraseIdx, if_pos hlt, hl]; rfl)).trans ?_
    rw [Array.toList_push, List.append_assoc]
    exact List.Perm.append_left _ (erase_perm hlt)
theorem pick_perm {α : Type} (next : Nat → Nat) (xs : Array α) : (pickOrder next xs).toList.Perm xs.toList := by
  have := pick_go next xs.size 0 xs.toList #[] (by simp)
  rw [List.nil_append] at this
  exact this
theorem below_0 : ∀ {pl : Array Nat}, pl.size ≤ 1 → SetTable.below pl 0 = 0 := by
  intro pl h
  obtain ⟨l⟩ := pl
  match l, h with
  | [], _ => rfl
  | [j], _ => simp [SetTable.below, SetTable.below.go]
theorem below_1 {pl : Array Nat} {j : Nat} (h : pl.size ≤ 1) (hj : pl[0]? = some j) : SetTable.below pl (j + 1) = 1 := by
  obtain ⟨l⟩ := pl
  match l, h with
  | [], _ => simp at hj
  | [j'], _ =>
    simp at hj
    subst hj
    simp [SetTable.below, SetTable.below.go]
/-- entries that are a rearrangement of a list's are those of a rearranged list -/
theorem entries_perm {w : World} {xs : List (Int × Value)} {l : List (Str × Tok)} (h : xs.Perm (entries w l)) : ∃ order, xs = entries w order ∧ order.Perm l := by
  have back : ∀ xs : List (Int × Value), (∀ e ∈ xs, ∃ p ∈ l, e = (hashStr w p.1, Value.str p.1 p.2)) → ∃ order, xs = entries w order := by
    intro xs
    induction xs with
    | nil => intro _; exact ⟨[], rfl⟩
    | cons e xs ih =>
      intro hx
      obtain ⟨p, _, he⟩ := hx e (.head _)
      obtain ⟨order, ho⟩ := ih fun e he => hx e (.tail _ he)
      exact ⟨p :: order, by rw [he, ho]; rfl⟩
  obtain ⟨order, ho⟩ := back xs fun e he => by
    obtain ⟨p, hp, e'⟩ := List.mem_map.mp (h.mem_iff.mp he)
    exact ⟨p, hp, e'.symm⟩
  refine ⟨order, ho, ?_⟩
  rw [ho] at h
  have inv : ∀ l : List (Str × Tok), (entries w l).map (fun e => match e.2 with | .str x t => (x, t) | _ => default) = l := by
    intro l
    induction l with
    | nil => rfl
    | cons p l ih =>
      show (p.1, p.2) :: (entries w l).map _ = p :: l
      rw [ih]
  have h2 := h.map (fun e : Int × Value => match e.2 with | .str x t => (x, t) | _ => default)
  rwa [inv, inv] at h2
def setIt (first : Value) (i : Nat) (D : Addr) (n ep : Nat) : Obj := { cls := .type "set_iterator", data := .fields #[first, .int i 0, .ref D, .int n 0, .int ep 0] }
def placesO (pl : List Nat) : Obj := { cls := .type "tuple", data := .seq (pl.map fun (i : Nat) => rawInt i).toArray }
/-- the iterator stands ahead of the i-th of the order -/
def SetIt (w : World) (D : Addr) (o : Obj) (order : List (Str × Tok)) (T : Addr) (oT : Obj) (i : Nat) (oI : Obj) : Prop :=
  ∃ es ep t, o.data = .set es ep t ∧ t.fits es.size = true ∧ es.size = order.length ∧
    ((w.params.followText "set-order" = true ∧ oI = setIt (.int 0 0) i D es.size ep ∧ (pickOrder (w.params.setOrder D ep) es).toList = entries w order) ∨
     (w.params.followText "set-order" = false ∧ es.size ≤ 1 ∧ t.led = true ∧ es.toList = entries w order ∧ t.place.size = es.size ∧ ∃ sl : Nat, oI = setIt (.int sl 0) i D es.size ep ∧ SetTable.below t.place sl = i) ∨
     (w.params.followText "set-order" = false ∧ ∃ pl : List Nat, oT = placesO pl ∧ oI = setIt (.ref T) i D es.size ep ∧ pl.length = order.length ∧ ∀ (j q : Nat), pl[j]? = some q → es[q]? = (entries w order)[j]?))
theorem perm_one {α : Type} {a b : List α} (hp : a.Perm b) (h : a.length ≤ 1) : a = b := by
  cases a with
  | nil => exact (List.nil_perm.mp hp).symm
  | cons x r =>
    cases r with
    | nil => exact (List.Perm.eq_singleton hp.symm).symm
    | cons y r => exact absurd h (by simp)
section
variable {prog : Program} {w : World} {A : Around} {E : Value → Shared → Prop} {s : Shared} {D : Addr} {o : Obj} {l : List (Str × Tok)}
theorem set_iter (ho : s.heap.get? D = some o) (hS : StrSetObj w (ledOf w) l o) (h3 : l.length ≤ 3) {Q : Value → Shared → Prop}
    (hQ : ∀ order T I oT oI h' dr, order.Perm l → SetIt w D o order T oT 0 oI → (∀ b o, s.heap.get? b = some o → h'.get? b = some o) → ((s.heap.objs.size ≤ T ∧ T ≠ I) ∨ (T = D ∧ oT = o)) → s.heap.objs.size ≤ I → h'.get? I = some oI → h'.get? T = some oT →
      Q (.ref I) { s with heap := h', drawn := dr }) : wpAny (model prog w) A (pyIter (.ref D)) Q E s := by
  obtain ⟨es, ep, t, hex, hd, hsm, hpl, hled, hpn, hp⟩ := hS
  have hz : es.size = l.length := by rw [← Array.length_toList, hp.length_eq, entries_len]
  have hf : t.fits es.size = true := small_fits hsm hpl (by omega)
  have hT : s.TypeIs (.ref D) "set" := ⟨o, ho, hex.1⟩
  refine wpAny_pyIter_slot hT F.slot_set_iter (wpAny_call_entry F.slot_set_iter hT entry_set_iter ?_ (F.args_set_iter_1 _))
  unfold Builtin.«frozenset.__iter__» Builtin.Frozenset.slot0
  refine wpAny_bind (wpAny_bind (wpAny_pure ?_))
  refine wpAny_pure ?_
  unfold Builtin.Frozenset.sizeOf
  refine wpAny_bind (wpAny_bind (wpAny_setEntries_of ho hd hf (wpAny_pure ?_)))
  unfold setDrawn
  refine wpAny_bind (wpAny_bind (wpAny_setState_of ho hd hf ?_))
  unfold setsByText
  refine wpAny_bind (wpAny_bind (wpAny_askSetting (wpAny_pure ?_)))
  refine wpAny_pure ?_
  dsimp only
  show wpAny _ _ (do
    let first ← if (!w.params.followText "set-order" && (!t.plain && decide (es.size > 1))) = true then do newTuple ((← drawOrder es.size (List.range es.size)).map fun (i : Nat) => rawInt i) else pure (rawInt 0)
    ret (← newFields "set_iterator" [first, rawInt 0, .ref D, rawInt es.size, rawInt (← setEpoch D)])) _ _ s
  have plain : ∀ order, order.Perm l → SetIt w D o order D o 0 (setIt (.int 0 0) 0 D es.size ep) → (!w.params.followText "set-order" && (!t.plain && decide (es.size > 1))) = false → wpAny (model prog w) A.in1 (do
    let first ← if (!w.params.followText "set-order" && (!t.plain && decide (es.size > 1))) = true then do newTuple ((← drawOrder es.size (List.range es.size)).map fun (i : Nat) => rawInt i) else pure (rawInt 0)
    ret (← newFields "set_iterator" [first, rawInt 0, .ref D, rawInt es.size, rawInt (← setEpoch D)])) (fun r s' => ∃ v, r = .done (.ret v) ∧ ∃ T n, s'.TypeIs v T ∧ typeLookup (.type T) (Str.ofString "__next__") = pure (some n) ∧ Q v s') E s := by
    intro order hord hit hb
    rw [hb]
    rw [if_neg Bool.false_ne_true]
    refine wpAny_bind (wpAny_pure ?_)
    refine wpAny_bind (wpAny_setEpoch_of ho hd hf ?_)
    refine wpAny_bind (wpAny_newObj_type (wpAny_pure ⟨_, rfl, "set_iterator", _, ⟨_, Heap.get?_push_size _ rfl, rfl⟩, slot_setit_next.lookup, ?_⟩))
    exact hQ order D s.heap.objs.size _ _ _ s.drawn hord hit (fun b o e => Heap.get?_push_of_some _ e) (.inr ⟨rfl, rfl⟩) (Nat.le_refl _) (Heap.get?_push_size _ rfl) (Heap.get?_push_of_some _ ho)
  cases hby : w.params.followText "set-order" with
  | true =>
    obtain ⟨order, h1, h2⟩ := entries_perm ((pick_perm (w.params.setOrder D ep) es).trans hp)
    refine (hby ▸ plain) order h2 ⟨es, ep, t, hd, hf, by rw [hz, h2.length_eq], .inl ⟨hby, rfl, h1⟩⟩ ?_
    rfl
  | false =>
    by_cases hsz : es.size ≤ 1
    · refine (hby ▸ plain) l (List.Perm.refl _) ⟨es, ep, t, hd, hf, hz, .inr (.inl ⟨hby, hsz, ?_, ?_, hpl, 0, rfl, below_0 (by omega)⟩)⟩ ?_
      · rw [hled]; unfold ledOf; rw [hby]; rfl
      · exact perm_one hp (by simpa using hsz)
      · have : decide (es.size > 1) = false := decide_eq_false (by omega)
        rw [this, Bool.and_false, Bool.and_false]
    · have hne : l ≠ [] := fun e => by
        have : es.size = 0 := by rw [hz, e]; rfl
        omega
      have hb : (!false && (!t.plain && decide (es.size > 1))) = true := by
        rw [hpn hne, decide_eq_true (by omega)]; rfl
      rw [hb, if_pos rfl]
      refine wpAny_bind (draw_order es.size (List.range es.size) (by simp) fun pl dr hpl' => ?_)
      refine wpAny_bind (wpAny_newTuple ?_ (by rw [List.length_map, hpl'.length_eq, List.length_range, sizeLine_eq]; omega))
      dsimp only
      refine wpAny_bind (wpAny_setEpoch_of (s := { s with heap := s.heap.push _, drawn := dr }) (Heap.get?_push_of_some _ ho) hd hf ?_)
      refine wpAny_bind (wpAny_newObj_type (wpAny_pure ⟨_, rfl, "set_iterator", _, ⟨_, Heap.get?_push_size _ rfl, rfl⟩, slot_setit_next.lookup, ?_⟩))
      have hex2 : ∀ q ∈ pl, q < es.size := fun q hq => List.mem_range.mp (hpl'.mem_iff.mp hq)
      have hperm : (pl.map fun q => es.getD q (0, .none)).Perm (entries w l) := by
        refine (hpl'.map _).trans (List.Perm.trans ?_ hp)
        have : (List.range es.size).map (fun q => es.getD q (0, .none)) = es.toList := by
          apply List.ext_getElem
          · simp
          · intro i h1 h2
            simp at h1
            simp [h1]
        rw [this]
      obtain ⟨order, h1, h2⟩ := entries_perm hperm
      have hlen : pl.length = order.length := by
        have := congrArg List.length h1
        rw [entries_len] at this
        simpa using this
      refine hQ order s.heap.objs.size (s.heap.push (placesO pl)).objs.size (placesO pl) (setIt (.ref s.heap.objs.size) 0 D es.size ep) _ dr h2 ⟨es, ep, t, hd, hf, by rw [hz, h2.length_eq], .inr (.inr ⟨hby, pl, rfl, rfl, hlen, fun j q hj => ?_⟩)⟩
        (fun b o e => Heap.get?_push_of_some _ (Heap.get?_push_of_some _ e)) (.inl ⟨Nat.le_refl _, by rw [Heap.size_push]; exact Nat.ne_of_lt (Nat.lt_succ_self _)⟩) (by rw [Heap.size_push]; exact Nat.le_succ _) (Heap.get?_push_size _ rfl) (Heap.get?_push_of_some _ (Heap.get?_push_size _ rfl))
      rw [← h1, List.getElem?_map, hj]
      have := hex2 q (List.mem_of_getElem? hj)
      simp [this]
theorem set_item {order : List (Str × Tok)} {T I : Addr} {oT oI : Obj} {i : Nat} (hD : s.heap.get? D = some o) (hI : s.heap.get? I = some oI) (hT : s.heap.get? T = some oT) (hit : SetIt w D o order T oT i oI) (hi : i < order.length) {Q : Option Value → Shared → Prop}
    (hQ : ∀ h' oI', Heap.SameBut I s.heap h' → h'.get? I = some oI' → SetIt w D o order T oT (i + 1) oI' → Q (some (.str order[i].1 order[i].2)) { s with heap := h' }) : wpAny (model prog w) A (pyNext (.ref I)) Q E s := by
  obtain ⟨es, ep, t, hd, hf, hz, hmode⟩ := hit
  have hTy : s.TypeIs (.ref I) "set_iterator" := by
    refine ⟨oI, hI, ?_⟩
    rcases hmode with ⟨_, rfl, _⟩ | ⟨_, _, _, _, _, sl, rfl, _⟩ | ⟨_, pl, _, rfl, _⟩ <;> rfl
  have hent : (entries w order)[i]? = some (hashStr w order[i].1, .str order[i].1 order[i].2) := by simp [entries, hi]
  unfold pyNext
  refine wpAny_bind (wpAny_attempt (wpAny_callSpecial?_slot (name := Str.ofString "__next__") hTy slot_setit_next
    (wpAny_call_entry slot_setit_next hTy entry_setit_next ?_ (args_setit_next _))))
  unfold Builtin.«set_iterator.__next__»
  refine wpAny_bind (wpAny_pure ?_)
  rcases hmode with ⟨hby, rfl, hpick⟩ | ⟨hby, hsz, hled, hes, hps, sl, rfl, hbel⟩ | ⟨hby, pl, rfl, rfl, hpl, hplace⟩
  · refine wpAny_bind (wpAny_fieldsOf hI rfl ?_)
    dsimp only
    refine wpAny_bind (wpAny_setEntries_of hD hd hf ?_)
    rw [if_neg (by simp)]
    refine wpAny_bind ?_
    unfold setNext
    refine wpAny_bind (wpAny_setState_of hD hd hf ?_)
    dsimp only
    unfold setsByText
    refine wpAny_bind (wpAny_bind (wpAny_askSetting (wpAny_pure ?_)))
    show wpAny _ _ (if w.params.followText "set-order" = true then _ else _) _ _ _
    rw [if_pos hby, if_neg (by simp)]
    unfold setWalk
    refine wpAny_bind (wpAny_bind (wpAny_setState_of hD hd hf ?_))
    dsimp only
    unfold setsByText
    refine wpAny_bind (wpAny_bind (wpAny_askSetting (wpAny_pure ?_)))
    show wpAny _ _ (if w.params.followText "set-order" = true then _ else _) _ _ _
    rw [if_pos hby]
    refine wpAny_bind (wpAny_askSetting (wpAny_pure ?_))
    have hx : (pickOrder (w.params.setOrder D ep) es)[i]? = some (hashStr w order[i].1, .str order[i].1 order[i].2) := by
      rw [← Array.getElem?_toList, hpick]; exact hent
    refine wpAny_pure ?_
    rw [Int.toNat_natCast, show (pickOrder ((⟨(model prog w).prog, (model prog w).w.params⟩ : Setting).params.setOrder D ep) es)[i]? = _ from hx]
    dsimp only [Option.map_some]
    refine wpAny_bind (wpAny_setField_rec hI (by simp) fun h1 e1 s1 => ?_)
    refine wpAny_bind (wpAny_setField_rec (s := { s with heap := h1 }) e1 (by simp) fun h2 e2 s2 => ?_)
    refine wpAny_pure ⟨_, rfl, wpAny_pure ?_⟩
    exact hQ h2 _ (s1.trans s2) e2 ⟨es, ep, t, hd, hf, hz, .inl ⟨hby, by simp [setIt, rawInt], hpick⟩⟩
  · refine wpAny_bind (wpAny_fieldsOf hI rfl ?_)
    dsimp only
    refine wpAny_bind (wpAny_setEntries_of hD hd hf ?_)
    rw [if_neg (by simp)]
    refine wpAny_bind ?_
    unfold setNext
    refine wpAny_bind (wpAny_setState_of hD hd hf ?_)
    dsimp only
    unfold setsByText
    refine wpAny_bind (wpAny_bind (wpAny_askSetting (wpAny_pure ?_)))
    show wpAny _ _ (if w.params.followText "set-order" = true then _ else _) _ _ _
    rw [if_neg (by rw [hby]; exact Bool.false_ne_true)]
    show wpAny _ _ (if (!t.plain && decide (es.size > 1)) = true then _ else _) _ _ _
    rw [if_neg (by rw [decide_eq_false (by omega), Bool.and_false]; exact Bool.false_ne_true)]
    refine wpAny_bind (wpAny_of_eq (a := ()) ?_ ?_)
    · show (if (!t.led && !es.isEmpty) = true then unsupported "set:maker-not-led" else pure ()) = pure ()
      rw [hled]; rfl
    have hi0 : i = 0 := by omega
    subst hi0
    have hx : es[0]? = some (hashStr w order[0].1, .str order[0].1 order[0].2) := by
      rw [← Array.getElem?_toList, hes]; exact hent
    obtain ⟨j, hj⟩ : ∃ j, t.place[0]? = some j := ⟨t.place[0]'(by omega), by simp⟩
    rw [Int.toNat_natCast, hbel, hx, hj]
    refine wpAny_pure ?_
    dsimp only
    refine wpAny_bind (wpAny_setField_rec hI (by simp) fun h1 e1 s1 => ?_)
    refine wpAny_bind (wpAny_setField_rec (s := { s with heap := h1 }) e1 (by simp) fun h2 e2 s2 => ?_)
    refine wpAny_pure ⟨_, rfl, wpAny_pure ?_⟩
    exact hQ h2 _ (s1.trans s2) e2 ⟨es, ep, t, hd, hf, hz, .inr (.inl ⟨hby, hsz, hled, hes, hps, j + 1, by simp [setIt, rawInt], below_1 (by omega) hj⟩)⟩
  · refine wpAny_bind (wpAny_fieldsOf hI rfl ?_)
    dsimp only
    refine wpAny_bind (wpAny_setEntries_of hD hd hf ?_)
    rw [if_neg (by simp)]
    refine wpAny_bind (wpAny_seqItems hT rfl ?_)
    dsimp only
    obtain ⟨q, hq⟩ : ∃ q, pl[i]? = some q := ⟨pl[i]'(by omega), by simp⟩
    have hx : es[q]? = some (hashStr w order[i].1, .str order[i].1 order[i].2) := by rw [hplace i q hq]; exact hent
    have hm : (pl.map fun (i : Nat) => rawInt i).toArray[(i : Int).toNat]? = some (.int q 0) := by
      rw [Int.toNat_natCast, List.getElem?_toArray, List.getElem?_map, hq]; rfl
    rw [hm]
    dsimp only
    refine wpAny_bind ?_
    unfold setNextDrawn
    refine wpAny_bind (wpAny_setState_of hD hd hf ?_)
    dsimp only
    rw [if_neg (by simp), Int.toNat_natCast, hx]
    refine wpAny_pure ?_
    refine wpAny_bind (wpAny_setField_rec hI (by simp) fun h1 e1 s1 => ?_)
    refine wpAny_pure ⟨_, rfl, wpAny_pure ?_⟩
    exact hQ h1 _ s1 e1 ⟨es, ep, t, hd, hf, hz, .inr (.inr ⟨hby, pl, rfl, by simp [setIt, rawInt], hpl, hplace⟩)⟩
theorem set_end {order : List (Str × Tok)} {T I : Addr} {oT oI : Obj} (hh : A.handled = none) (hD : s.heap.get? D = some o) (hI : s.heap.get? I = some oI) (hT : s.heap.get? T = some oT) (hit : SetIt w D o order T oT order.length oI) {Q : Option Value → Shared → Prop}
    (hQ : ∀ h', Heap.ExtBut I s.heap h' → Q none { s with heap := h' }) : wpAny (model prog w) A (pyNext (.ref I)) Q E s := by
  obtain ⟨es, ep, t, hd, hf, hz, hmode⟩ := hit
  have hTy : s.TypeIs (.ref I) "set_iterator" := by
    refine ⟨oI, hI, ?_⟩
    rcases hmode with ⟨_, rfl, _⟩ | ⟨_, _, _, _, _, sl, rfl, _⟩ | ⟨_, pl, _, rfl, _⟩ <;> rfl
  have hent : (entries w order)[order.length]? = none := by rw [List.getElem?_eq_none_iff, entries_len]; exact Nat.le_refl _
  unfold pyNext
  refine wpAny_bind (wpAny_attempt (wpAny_callSpecial?_slot (name := Str.ofString "__next__") hTy slot_setit_next
    (wpAny_call_entry slot_setit_next hTy entry_setit_next ?_ (args_setit_next _))))
  unfold Builtin.«set_iterator.__next__»
  refine wpAny_bind (wpAny_pure ?_)
  have stop : ∀ s1 : Shared, (∃ h1, s1 = { s with heap := h1 } ∧ Heap.SameBut I s.heap h1) → wpAny (model prog w) A.in1 (do raiseNew (← newExc (.type "StopIteration") []) : Sem Fin)
      (fun fin s' => ∃ v, fin = Fin.done (Flow.ret v) ∧ wpAny (model prog w) A (pure (some v)) Q E s')
      (fun e s' => wpAny (model prog w) A (do
          let __do_lift ← isInstance e (Value.type "StopIteration")
          if __do_lift = true then pure none else throw e) Q E s') s1 := by
    rintro _ ⟨h1, rfl, hs1⟩
    refine wpAny_bind ?_
    simp only [newExc, newTuple]
    refine wpAny_bind (wpAny_newObj_type ?_ (by size_fits))
    refine wpAny_bind (m := firstArgMember _ _) (wpAny_of_eq (a := Value.none) (by first | rfl | (simp only [firstArgMember]; rfl)) ?_)
    refine wpAny_newObj_type ?_ (by size_fits)
    simp only [raiseNew]
    refine wpAny_bind (wpAny_handled ?_)
    rw [show A.in1.handled = none from hh]
    refine wpAny_bind (wpAny_pure (wpAny_throw ?_))
    refine wpAny_bind (wpAny_isInstance (T := "StopIteration") (b := true) ⟨_, Heap.get?_push_size _ rfl, rfl⟩ isSubtype_stop ?_)
    exact wpAny_pure (hQ _ ((hs1.extBut.push _).push _))
  rcases hmode with ⟨hby, rfl, hpick⟩ | ⟨hby, hsz, hled, hes, hps, sl, rfl, hbel⟩ | ⟨hby, pl, rfl, rfl, hpl, hplace⟩
  · refine wpAny_bind (wpAny_fieldsOf hI rfl ?_)
    dsimp only
    refine wpAny_bind (wpAny_setEntries_of hD hd hf ?_)
    rw [if_neg (by simp)]
    refine wpAny_bind ?_
    unfold setNext
    refine wpAny_bind (wpAny_setState_of hD hd hf ?_)
    dsimp only
    unfold setsByText
    refine wpAny_bind (wpAny_bind (wpAny_askSetting (wpAny_pure ?_)))
    show wpAny _ _ (if w.params.followText "set-order" = true then _ else _) _ _ _
    rw [if_pos hby, if_neg (by simp)]
    unfold setWalk
    refine wpAny_bind (wpAny_bind (wpAny_setState_of hD hd hf ?_))
    dsimp only
    unfold setsByText
    refine wpAny_bind (wpAny_bind (wpAny_askSetting (wpAny_pure ?_)))
    show wpAny _ _ (if w.params.followText "set-order" = true then _ else _) _ _ _
    rw [if_pos hby]
    refine wpAny_bind (wpAny_askSetting (wpAny_pure ?_))
    have hx : (pickOrder (w.params.setOrder D ep) es)[order.length]? = none := by
      rw [← Array.getElem?_toList, hpick]; exact hent
    refine wpAny_pure ?_
    rw [Int.toNat_natCast, show (pickOrder ((⟨(model prog w).prog, (model prog w).w.params⟩ : Setting).params.setOrder D ep) es)[order.length]? = _ from hx]
    dsimp only [Option.map_none]
    refine wpAny_bind (wpAny_setField_rec hI (by simp) fun h1 e1 s1 => ?_)
    exact stop _ ⟨h1, rfl, s1⟩
  · refine wpAny_bind (wpAny_fieldsOf hI rfl ?_)
    dsimp only
    refine wpAny_bind (wpAny_setEntries_of hD hd hf ?_)
    rw [if_neg (by simp)]
    refine wpAny_bind ?_
    unfold setNext
    refine wpAny_bind (wpAny_setState_of hD hd hf ?_)
    dsimp only
    unfold setsByText
    refine wpAny_bind (wpAny_bind (wpAny_askSetting (wpAny_pure ?_)))
    show wpAny _ _ (if w.params.followText "set-order" = true then _ else _) _ _ _
    rw [if_neg (by rw [hby]; exact Bool.false_ne_true)]
    show wpAny _ _ (if (!t.plain && decide (es.size > 1)) = true then _ else _) _ _ _
    rw [if_neg (by rw [decide_eq_false (by omega), Bool.and_false]; exact Bool.false_ne_true)]
    refine wpAny_bind (wpAny_of_eq (a := ()) ?_ ?_)
    · show (if (!t.led && !es.isEmpty) = true then unsupported "set:maker-not-led" else pure ()) = pure ()
      rw [hled]; rfl
    have hx : es[order.length]? = none := by
      rw [← Array.getElem?_toList, hes]; exact hent
    rw [Int.toNat_natCast, hbel, hx]
    refine wpAny_pure ?_
    dsimp only
    refine wpAny_bind (wpAny_setField_rec hI (by simp) fun h1 e1 s1 => ?_)
    exact stop _ ⟨h1, rfl, s1⟩
  · refine wpAny_bind (wpAny_fieldsOf hI rfl ?_)
    dsimp only
    refine wpAny_bind (wpAny_setEntries_of hD hd hf ?_)
    rw [if_neg (by simp)]
    refine wpAny_bind (wpAny_seqItems hT rfl ?_)
    dsimp only
    have hm : (pl.map fun (i : Nat) => rawInt i).toArray[(order.length : Int).toNat]? = none := by
      rw [Int.toNat_natCast, List.getElem?_toArray, List.getElem?_map, List.getElem?_eq_none_iff.mpr (Nat.le_of_eq hpl)]; rfl
    rw [hm]
    dsimp only
    refine wpAny_bind (wpAny_setField_rec hI (by simp) fun h1 e1 s1 => ?_)
    refine wpAny_bind (wpAny_setField_rec (s := { s with heap := h1 }) e1 (by simp) fun h2 e2 s2 => ?_)
    exact stop _ ⟨h2, rfl, s1.trans s2⟩
end
end Mine
end PartS1o

section PartS1p
open PySem PySem.W PyProof.Rows
set_option Elab.async false
set_option maxRecDepth 100000
set_option linter.unusedVariables false
namespace Mine
theorem freshS1p : True ∧ True := by
  w_top off
  first | (walk1; all_goals trivial) | exact ⟨trivial, trivial⟩
/-- what a turn over a set's texts must leave -/
def SetPost (h₀ : Heap) (L I T : Addr) (oI oT : Obj) (x : Str) (m₀ : Str → Option Value) (news : List (Addr × Obj)) (g : Prop) (Q : Flow → Shared → Prop) (s : Shared) (dr : Drawn) (f : Flow) (s₂ : Shared) : Prop :=
  match f with
  | .ret v => Q (.ret v) s₂
  | .brk => Q .next s₂
  | _ => ∃ h' tk m', s₂ = { s with heap := h', toks := tk, drawn := dr } ∧ Fr h₀ L h' m' ∧ News h₀ L h' ((I, oI) :: (T, oT) :: news) ∧ (∀ y, y ≠ x → m' y = m₀ y) ∧ g
theorem SetPost.of {h₀ : Heap} {L I T : Addr} {oI oT : Obj} {x : Str} {m₀ : Str → Option Value} {news all : List (Addr × Obj)} {g : Prop} {Q : Flow → Shared → Prop} {s : Shared} {dr : Drawn} {h' : Heap} {tk : Nat} {m' : Str → Option Value} {f : Flow}
    (hf : f = .next ∨ f = .cont) (F : Fr h₀ L h' m') (N : News h₀ L h' all) (hs : ∀ p ∈ (I, oI) :: (T, oT) :: news, p ∈ all) (hm : ∀ y, y ≠ x → m' y = m₀ y) (hg : g) : SetPost h₀ L I T oI oT x m₀ news g Q s dr f { s with heap := h', toks := tk, drawn := dr } := by
  rcases hf with rfl | rfl <;> exact ⟨h', tk, m', rfl, F, fun p hp => N p (hs p hp), hm, hg⟩
section
variable {prog : Program} {w : World} {A : Around} {E : Value → Shared → Prop} {s : Shared} {env : Env} {h₀ : Heap} {D : Addr} {o : Obj} {l : List (Str × Tok)}
theorem for_set {x : Str} {px : Pos} {body : List Stmt} {m₀ : Str → Option Value} {news : List (Addr × Obj)} {Q : Flow → Shared → Prop} (g : Str × Tok → Prop)
    (hh : A.handled = none) (hm : (D, o) ∈ news) (hS : StrSetObj w (ledOf w) l o) (h3 : l.length ≤ 3)
    (F : Fr h₀ env.locals s.heap m₀) (N : News h₀ env.locals s.heap news) (hE : PassesOwn (model prog w) A env E)
    (turn : ∀ c tc (u : Str → Option Value) h tk dr T I oT oI, (c, tc) ∈ l → (∀ p ∈ news, p.1 < I) → (∀ p ∈ news, p.1 ≠ D → p.1 ≠ T) → Fr h₀ env.locals h (fun y => if y = x then u y else m₀ y) → News h₀ env.locals h ((I, oI) :: (T, oT) :: news) →
      wpAny (model prog w) A (assign (.Name x px) env (.str c tc)) (fun _ s₂ => wpAny (model prog w) A (execs body env) (SetPost h₀ env.locals I T oI oT x m₀ news (g (c, tc)) Q s dr) E s₂) E { s with heap := h, toks := tk, drawn := dr })
    (done : ∀ (u : Str → Option Value) h tk dr, (∀ p ∈ l, g p) → Fr h₀ env.locals h (fun y => if y = x then u y else m₀ y) → News h₀ env.locals h news → Q .next { s with heap := h, toks := tk, drawn := dr }) :
    wpAny (model prog w) A (pyIter (.ref D)) (fun it s₂ => codeAny (model prog w) A (.forLoop (.Name x px) it body [] env) (fun r s' => match r with | .ok f => Q f s' | .error e => cameBackBy (model prog w) A env E e s') s₂) E s := by
  have split : ∀ m₁ : Str → Option Value, (∀ y, y ≠ x → m₁ y = m₀ y) → m₁ = fun y => if y = x then m₁ y else m₀ y := by
    intro m₁ hm
    funext y
    by_cases e : y = x
    · rw [if_pos e]
    · rw [if_neg e, hm y e]
  refine set_iter (N _ hm).1 hS h3 fun order T I oT oI0 h1 dr hord hit0 hold hTm hIge hI0 hT0 => ?_
  obtain ⟨oL, _, _, hL, _⟩ := id F.ns
  have hLlt : env.locals < s.heap.objs.size := Heap.lt_size hL
  have fresh₀ : ∀ a, s.heap.objs.size ≤ a → h₀.get? a = none := fun a ha => by
    cases e : h₀.get? a with
    | none => rfl
    | some o' => exact absurd (Heap.lt_size (F.keep a o' e)) (Nat.not_lt.mpr ha)
  have hnI : ∀ p ∈ news, p.1 < I := fun p hp => Nat.lt_of_lt_of_le (Heap.lt_size (N p hp).1) hIge
  have hDI : D ≠ I := Nat.ne_of_lt (hnI _ hm)
  have hTI : T ≠ I := by rcases hTm with h | h; exact h.2; exact h.1 ▸ hDI
  have hnT : ∀ p ∈ news, p.1 ≠ D → p.1 ≠ T := fun p hp hpD => by
    rcases hTm with h | h
    · exact Nat.ne_of_lt (Nat.lt_of_lt_of_le (Heap.lt_size (N p hp).1) h.1)
    · rw [h.1]; exact hpD
  have hTL : T ≠ env.locals ∧ h₀.get? T = none := by
    rcases hTm with h | h
    · exact ⟨Nat.ne_of_gt (Nat.lt_of_lt_of_le hLlt h.1), fresh₀ _ h.1⟩
    · rw [h.1]; exact (N _ hm).2
  have hlen : order.length = l.length := hord.length_eq
  let Inv : Nat → Shared → Prop := fun k s' => ∃ i h tk m₁ oI, s' = { s with heap := h, toks := tk, drawn := dr } ∧ i ≤ order.length ∧ k = order.length + 1 - i ∧ (∀ p ∈ order.take i, g p) ∧ (∀ y, y ≠ x → m₁ y = m₀ y) ∧
    Fr h₀ env.locals h m₁ ∧ News h₀ env.locals h ((I, oI) :: (T, oT) :: news) ∧ SetIt w D o order T oT i oI
  refine codeAny_loop' rfl Inv (fun k s' hI => ?_) (order.length + 1) ?_
  · obtain ⟨i, h, tk, m₁, oI, rfl, hi, rfl, hg, hmm, F₁, N₁, hit⟩ := hI
    show wpAny _ _ ((forTurn (.Name x px) (.ref I) body [] env).onRaise (fun x => do noteFrame x env; theTreesLotGoes x)) _ _ _
    refine wpAny_noted ?_
    simp only [forTurn]
    have hIn := N₁ _ (.head _)
    have hTn := N₁ _ (.tail _ (.head _))
    have hDn := N₁ _ (.tail _ (.tail _ hm))
    by_cases hlt : i < order.length
    · refine wpAny_bind (wpAny_standAt (wpAny_bind (wpAny_onRaise (set_item (s := { s with heap := h, toks := tk, drawn := dr }) hDn.1 hIn.1 hTn.1 hit hlt fun h' oI' hs' hI' hit' => ?_))))
      dsimp only
      refine wpAny_bind (wpAny_of_eq (a := ()) rfl ?_)
      have F₂ : Fr h₀ env.locals h' m₁ := by
        refine ⟨F₁.ns.sameBut hs' (Ne.symm hIn.2.1), fun b o e => (hs'.2 b fun q => ?_).trans (F₁.keep b o e), F₁.above⟩
        have := hIn.2.2; rw [← q] at this; rw [this] at e; cases e
      have N₂ : News h₀ env.locals h' ((I, oI') :: (T, oT) :: news) := by
        intro p hp
        rcases List.mem_cons.mp hp with rfl | hp
        · exact ⟨hI', hIn.2⟩
        · have := N₁ p (.tail _ hp)
          refine ⟨(hs'.2 _ ?_).trans this.1, this.2⟩
          rcases List.mem_cons.mp hp with rfl | hp
          · exact hTI
          · exact Nat.ne_of_lt (hnI p hp)
      rw [split m₁ hmm] at F₂
      have hin : (order[i].1, order[i].2) ∈ l := hord.mem_iff.mp (List.getElem_mem hlt)
      have t := turn order[i].1 order[i].2 m₁ h' tk dr T I oT oI' hin hnI hnT F₂ N₂
      refine wpAny_bind (wpAny_mono (wpAny_passesOwn hE t) (fun _ s₂ h₂ => ?_) fun _ _ x => x)
      refine wpAny_bind (wpAny_mono (wpAny_passesOwn hE h₂) (fun f s₃ h₃ => ?_) fun _ _ x => x)
      have fin : (∃ h' tk m', s₃ = { s with heap := h', toks := tk, drawn := dr } ∧ Fr h₀ env.locals h' m' ∧ News h₀ env.locals h' ((I, oI') :: (T, oT) :: news) ∧ (∀ y, y ≠ x → m' y = m₀ y) ∧ g (order[i].1, order[i].2)) → ∃ m, m < order.length + 1 - i ∧ Inv m s₃ := by
        rintro ⟨g₃, tk₃, m₃, rfl, F₃, N₃, hm₃, hg₃⟩
        refine ⟨order.length + 1 - (i + 1), by omega, i + 1, g₃, tk₃, m₃, oI', rfl, hlt, rfl, ?_, hm₃, F₃, N₃, hit'⟩
        intro p hp
        rw [List.take_add_one, List.getElem?_eq_getElem hlt] at hp
        rcases List.mem_append.mp hp with hp | hp
        · exact hg p hp
        · simp only [Option.toList_some, List.mem_singleton] at hp
          rw [hp]; exact hg₃
      cases f with
      | ret v => exact wpAny_pure h₃
      | brk => exact wpAny_pure h₃
      | next => exact wpAny_pure (.inl ⟨rfl, fin h₃⟩)
      | cont => exact wpAny_pure (.inl ⟨rfl, fin h₃⟩)
    · have hie : i = order.length := by omega
      subst hie
      refine wpAny_bind (wpAny_standAt (wpAny_bind (wpAny_onRaise (set_end (s := { s with heap := h, toks := tk, drawn := dr }) hh hDn.1 hIn.1 hTn.1 hit fun h' he' => ?_))))
      refine wpAny_pure (.inr ⟨rfl, codeAny_block (wpAny_execs_nil ?_)⟩)
      rw [List.take_length] at hg
      rw [split m₁ hmm] at F₁
      refine done m₁ h' tk dr (fun p hp => hg p (hord.mem_iff.mpr hp)) ?_ ?_
      · refine ⟨?_, fun b o e => he' b o (fun q => ?_) (F₁.keep b o e), F₁.above⟩
        · obtain ⟨oL, es, ep, hL, r⟩ := F₁.ns
          exact ⟨oL, es, ep, he' _ _ (Ne.symm hIn.2.1) hL, r⟩
        · have := hIn.2.2; rw [← q] at this; rw [this] at e; cases e
      · intro p hp
        have := N₁ p (.tail _ (.tail _ hp))
        exact ⟨he' _ _ (Nat.ne_of_lt (hnI p hp)) this.1, this.2⟩
  · refine ⟨0, h1, _, m₀, oI0, rfl, Nat.zero_le _, rfl, fun p hp => by simp at hp, fun _ _ => rfl, F.keeps hold, ?_, hit0⟩
    intro p hp
    rcases List.mem_cons.mp hp with rfl | hp
    · exact ⟨hI0, Nat.ne_of_gt (Nat.lt_of_lt_of_le hLlt hIge), fresh₀ _ hIge⟩
    rcases List.mem_cons.mp hp with rfl | hp
    · exact ⟨hT0, hTL⟩
    · exact ⟨hold _ _ (N p hp).1, (N p hp).2⟩
end
end Mine
end PartS1p

section PartM1n
open PySem PySem.W PyProof.Rows
set_option Elab.async false
set_option maxRecDepth 100000
set_option maxHeartbeats 4000000
set_option linter.unusedVariables false
set_option compiler.extract_closed false
namespace Mine
theorem freshM1n : True ∧ True := by
  w_top off
  first | (walk1; all_goals trivial) | exact ⟨trivial, trivial⟩
/-- a def's contract: called from a def's frame, upon any ledger -/
def Spec2 (bd : Nat) (f : Addr) (w : World) (vs : List Value) (news : List (Addr × Obj)) (Post : Value → List (Addr × Obj) → Prop) : Prop :=
  ∀ (mean : ExcName → Option Value) (mg mb : Str → Option Value) (dp un : Nat) (gd : Option (List Code)) (cn : Str) (cs : Scope) (a : Addr) (ccd : Value) (cl : List (Str × Addr)) (outer : List Env) (A₀ : Around) (base h₀ : Heap) (L : Addr) (m : Str → Option Value) (s : Shared) (Q E : Value → Shared → Prop)
    (B : Below A₀ base outer h₀) (F : Fr h₀ L s.heap m) (X : (hd.heap_39 w.params).In h₀) (N : News h₀ L s.heap news) (T : Top hd.view_39 (looseW hd.view_39 []) mean mg mb h₀) (hk : cs.kind = .function)
    (hd1 : dp + bd < recursionLimit) (hu1 : un + 8 * bd + 100 < cLine)
    (hret : ∀ v h' tk' news', Fr h₀ L h' m → News h₀ L h' news' → Post v news' → Q v { s with heap := h', toks := tk' }),
    wpAny (model PySem.Challenge.rw_nq0320_01.row.prog w) (ktrTop dp un gd cn cs L a ccd cl outer) (call (.ref f) vs) Q E s

theorem Spec2.use {bd : Nat} {f : Addr} {w : World} {vs : List Value} {news : List (Addr × Obj)} {Post : Value → List (Addr × Obj) → Prop} (h : Spec2 bd f w vs news Post)
    {mean : ExcName → Option Value} {mg mb : Str → Option Value} {dp un : Nat} {gd : Option (List Code)} {cn : Str} {cs : Scope} {a : Addr} {ccd : Value} {cl : List (Str × Addr)} {outer : List Env} {A₀ : Around} {base h₀ : Heap} {L : Addr} {m : Str → Option Value} {s : Shared} {Q E : Value → Shared → Prop}
    (B : Below A₀ base outer h₀) (F : Fr h₀ L s.heap m) (X : (hd.heap_39 w.params).In h₀) (N : News h₀ L s.heap news) (T : Top hd.view_39 (looseW hd.view_39 []) mean mg mb h₀) (hk : cs.kind = .function)
    (hd1 : dp + bd < recursionLimit) (hu1 : un + 8 * bd + 100 < cLine)
    (hret : ∀ v h' tk' news', Fr h₀ L h' m → News h₀ L h' news' → Post v news' → Q v { s with heap := h', toks := tk' }) :
    wpAny (model PySem.Challenge.rw_nq0320_01.row.prog w) (ktrTop dp un gd cn cs L a ccd cl outer) (call (.ref f) vs) Q E s :=
  h mean mg mb dp un gd cn cs a ccd cl outer A₀ base h₀ L m s Q E B F X N T hk hd1 hu1 hret

theorem beq_t {c d : Str} (h : (c == d) = true) : c = d := by simpa using h
theorem beq_f {c d : Str} (h : (c == d) = false) : c ≠ d := by simpa using h
/-- a directory's text as it is asked about -/
def normOf (x : Str) : Str := x
def DirOk (x : Str) : Prop := x = Str.ofString "/l" ∨ x = Str.ofString "/w/a"
theorem DirOk.len {x : Str} (h : DirOk x) : x.length ≤ 100 := by rcases h with rfl | rfl <;> decide
def PushJ (acc : Addr) (R : List (Addr × Obj)) (vs : List Value) (x : Str) (m₀ : Str → Option Value) (i : Nat) (m : Str → Option Value) (nx : List (Addr × Obj)) : Prop := nx = (acc, listOf (vs.take i).toArray i) :: R ∧ ∀ y, y ≠ x → m y = m₀ y
theorem push_split {x : Str} {m m₀ : Str → Option Value} (h : ∀ y, y ≠ x → m y = m₀ y) : m = fun y => if y = x then m y else m₀ y := by
  funext y
  by_cases e : y = x
  · rw [if_pos e]
  · rw [if_neg e, h y e]
theorem push_end {h₀ : Heap} {L I acc : Addr} {io : Obj} {R : List (Addr × Obj)} {vs : List Value} {x : Str} {m₀ m' : Str → Option Value} {i : Nat} {Q : Flow → Shared → Prop} {s : Shared} {h' : Heap} {tk : Nat}
    (F : Fr h₀ L h' m') (N : News h₀ L h' ((I, io) :: (acc, listOf (vs.take (i + 1)).toArray (i + 1)) :: R)) (hI : ∀ p ∈ (acc, listOf (vs.take i).toArray i) :: R, p.1 ≠ I) (hm : ∀ y, y ≠ x → m' y = m₀ y) :
    TurnPost h₀ L I io (PushJ acc R vs x m₀ (i + 1)) Q s .next { s with heap := h', toks := tk } := by
  refine TurnPost.next (nx := (acc, listOf (vs.take (i + 1)).toArray (i + 1)) :: R) F N (fun p hp => hp) (fun p hp => ?_) ⟨rfl, hm⟩
  rcases List.mem_cons.mp hp with rfl | hp
  · exact hI (acc, listOf (vs.take i).toArray i) (.head _)
  · exact hI p (.tail _ hp)
section
variable {prog : Program} {w : World} {A : Around} {E : Value → Shared → Prop} {s : Shared} {env : Env} {h₀ : Heap}
theorem for_push {x : Str} {px : Pos} {body : List Stmt} {l acc : Addr} {vs : List Value} {nn : Nat} {m₀ : Str → Option Value} {R : List (Addr × Obj)} {Q : Flow → Shared → Prop}
    (hh : A.handled = none) (F : Fr h₀ env.locals s.heap m₀) (N : News h₀ env.locals s.heap ((acc, listOf #[] 0) :: (l, listOf vs.toArray nn) :: R)) (hE : PassesOwn (model prog w) A env E)
    (turn : ∀ i v (u : Str → Option Value) h tk I io, vs[i]? = some v → (∀ p ∈ (acc, listOf (vs.take i).toArray i) :: (l, listOf vs.toArray nn) :: R, p.1 ≠ I) → Fr h₀ env.locals h (fun y => if y = x then u y else m₀ y) → News h₀ env.locals h ((I, io) :: (acc, listOf (vs.take i).toArray i) :: (l, listOf vs.toArray nn) :: R) →
      wpAny (model prog w) A (assign (.Name x px) env v) (fun _ s₂ => wpAny (model prog w) A (execs body env) (TurnPost h₀ env.locals I io (PushJ acc ((l, listOf vs.toArray nn) :: R) vs x m₀ (i + 1)) Q s) E s₂) E { s with heap := h, toks := tk })
    (done : ∀ (u : Str → Option Value) h tk, Fr h₀ env.locals h (fun y => if y = x then u y else m₀ y) → News h₀ env.locals h ((acc, listOf vs.toArray vs.length) :: (l, listOf vs.toArray nn) :: R) → Q .next { s with heap := h, toks := tk }) :
    wpAny (model prog w) A (pyIter (.ref l)) (fun it s₂ => codeAny (model prog w) A (.forLoop (.Name x px) it body [] env) (fun r s' => match r with | .ok f => Q f s' | .error e => cameBackBy (model prog w) A env E e s') s₂) E s := by
  refine for_list (vs := vs) (nn := nn) (news := (acc, listOf #[] 0) :: (l, listOf vs.toArray nn) :: R) (m₀ := m₀) (PushJ acc ((l, listOf vs.toArray nn) :: R) vs x m₀) hh ?_ F N ⟨rfl, fun _ _ => rfl⟩ hE ?_ ?_
  · rintro i m nx ⟨rfl, _⟩
    exact .tail _ (.head _)
  · rintro i v m₁ nx h tk I io hv ⟨rfl, hm⟩ hI F' N'
    rw [push_split hm] at F'
    exact turn i v m₁ h tk I io hv hI F' N'
  · rintro m₁ nx h tk ⟨rfl, hm⟩ F' N'
    rw [push_split hm] at F'
    rw [List.take_length] at N'
    exact done m₁ h tk F' N'
end
theorem allLt_mem {d : Addr} : ∀ {l : List (Addr × Obj)}, AllLt d l → ∀ p ∈ l, p.1 ≠ d
  | [], _, _, hp => nomatch hp
  | _ :: _, h, _, .head _ => Nat.ne_of_lt h.1
  | _ :: _, h, p, .tail _ hp => allLt_mem h.2 p hp
local macro_rules | `(tactic| k_all) => `(tactic| assumption)
local macro_rules | `(tactic| k_room) => `(tactic| ktr_room)
local macro_rules | `(tactic| walk_at $s:str) => if ["exec For Name Name cons nil", "pyIter ref"].contains s.getString then `(tactic| (refine of_stop ?_)) else Lean.Macro.throwUnsupported
theorem lt_one_eq {i : Nat} (h : i < 1) : i = 0 := Nat.lt_one_iff.mp h
theorem lt_two_eq {i : Nat} (h : i < 2) : i = 0 ∨ i = 1 := by omega
theorem normpath_both : ∀ (w : World) (news : List (Addr × Obj)) (tx : Tok),
    Spec2 2 49 w [.str (Str.ofString "/l") tx] news (fun v news' => (∃ t, v = .str (Str.ofString "/l") t) ∧ news' = news) ∧
    Spec2 2 49 w [.str (Str.ofString "/w/a") tx] news (fun v news' => (∃ t, v = .str (Str.ofString "/w/a") t) ∧ news' = news) := by
  intro w news tx
  constructor
  · unfold Spec2
    k_fill
    intro mean mg mb dp un gd cn cs a ccd cl outer A₀ base h₀ L m s Q E B F X N T hk hd1 hu1 hret
    refine wpAny_call ?_
    k_dflt cell_enter
    k_steps
    refine to_stop ?_
    refine wpAny_For ?_ (by intro _; rfl)
    k_steps
    (rename Fr _ _ _ _ => kF)
    (rename News _ _ _ _ => kN)
    refine to_stop ?_
    (rename _ ∧ _ ∧ AllLt _ news => hlt9)
    have xl9 := allLt_mem hlt9.2.2
    refine' for_push (vs := [_]) rfl kF kN ?hEP ?turnP ?doneP
    case hEP => first | passes_own | with_unfolding_all passes_own
    case turnP =>
      intro i v u h tk I io hv hI F' N'
      obtain rfl := lt_one_eq (List.getElem?_eq_some_iff.mp hv).1
      obtain rfl := Option.some.inj hv
      have nI := neN (hI _ (.head _))
      dsimp only [List.take] at N' nI
      k_steps
      (rename Fr _ _ _ _ => kF3)
      (rename News _ _ _ _ => kN3)
      exact push_end kF3 kN3 hI (fun y hy => by simp only [if_neg hy])
    case doneP =>
      intro u h tk F' N'
      dsimp only [List.length] at N'
      k_steps
      refine hret _ _ _ _ (by assumption) (cb_drop (by assumption) (fun p hp => by repeat (first | exact hp | apply List.Mem.tail))) ⟨⟨_, rfl⟩, rfl⟩
  · unfold Spec2
    k_fill
    intro mean mg mb dp un gd cn cs a ccd cl outer A₀ base h₀ L m s Q E B F X N T hk hd1 hu1 hret
    refine wpAny_call ?_
    k_dflt cell_enter
    k_steps
    refine to_stop ?_
    refine wpAny_For ?_ (by intro _; rfl)
    k_steps
    (rename Fr _ _ _ _ => kF)
    (rename News _ _ _ _ => kN)
    refine to_stop ?_
    (rename _ ∧ _ ∧ AllLt _ news => hlt9)
    have xl9 := allLt_mem hlt9.2.2
    refine' for_push (vs := [_, _]) rfl kF kN ?hEP ?turnP ?doneP
    case hEP => first | passes_own | with_unfolding_all passes_own
    case turnP =>
      intro i v u h tk I io hv hI F' N'
      rcases lt_two_eq (List.getElem?_eq_some_iff.mp hv).1 with rfl | rfl
      · obtain rfl := Option.some.inj hv
        have nI := neN (hI _ (.head _))
        dsimp only [List.take] at N' nI
        k_steps
        (rename Fr _ _ _ _ => kF3)
        (rename News _ _ _ _ => kN3)
        exact push_end kF3 kN3 hI (fun y hy => by simp only [if_neg hy])
      · obtain rfl := Option.some.inj hv
        have nI := neN (hI _ (.head _))
        dsimp only [List.take] at N' nI
        k_steps
        (rename Fr _ _ _ _ => kF3)
        (rename News _ _ _ _ => kN3)
        exact push_end kF3 kN3 hI (fun y hy => by simp only [if_neg hy])
    case doneP =>
      intro u h tk F' N'
      dsimp only [List.length] at N'
      k_steps
      refine hret _ _ _ _ (by assumption) (cb_drop (by assumption) (fun p hp => by repeat (first | exact hp | apply List.Mem.tail))) ⟨⟨_, rfl⟩, rfl⟩
theorem normpath_spec : ∀ (w : World) (news : List (Addr × Obj)) (x : Str) (tx : Tok), DirOk x →
    Spec2 2 49 w [.str x tx] news (fun v news' => (∃ t, v = .str (normOf x) t) ∧ news' = news) := by
  intro w news x tx hx
  rcases hx with rfl | rfl
  · exact (normpath_both w news tx).1
  · exact (normpath_both w news tx).2
local macro_rules | `(tactic| walk_at "call ref") => `(tactic| ((with_reducible show wpAny _ _ (call (Value.ref 49) _) _ _ _); (refine of_stop ?_)))
theorem osnorm_spec : ∀ (w : World) (news : List (Addr × Obj)) (x : Str) (tx : Tok), DirOk x →
    Spec2 4 56 w [.str x tx] news (fun v news' => (∃ t, v = .str (normOf x) t) ∧ (normOf x).length ≤ 6000 ∧ news' = news) := by
  unfold Spec2
  k_fill
  intro w news x tx hx mean mg mb dp un gd cn cs a ccd cl outer A₀ base h₀ L m s Q E B F X N T hk hd1 hu1 hret
  refine wpAny_call ?_
  k_dflt (refine' kp_both ?k1 ?k2 ?k3 ?k4 ?k5 ?kA ?kF ?kK ?k6 ?k7 ?k8 ?kV ?kX ?kQ ?kM ?kN ?kD ?kR ?kP ?kS ?kT ?kB ?_ ?c2 ?c3 ?c4 ?c5; (case kA => exact rfl); (case kF => exact rfl); (case kK => assumption); (case k1 => k_asm); (case k2 => k_asm); (case k3 => k_asm); (case k4 => k_asm); (case k5 => k_asm); (case k6 => k_is); (case k7 => k_is); (case k8 => k_room); (case kV => kp_lit); (case kX => kp_lit); (case kQ => exact rfl); (case kM => exact rfl); (case kN => exact rfl); (case kD => kp_flats); (case kR => exact rfl); (case kP => exact rfl); (case kS => exact fun _ => rfl); (case kT => exact fun _ _ => rfl); (case kB => exact fun _ _ => locs rfl); (case c5 => decide); (case c2 => exact rfl); (case c3 => exact rfl); (case c4 => exact rfl); k_whole; intro C' D' o' g' L' h' tk' l1 l2 lo' hs' fs' FG' F' N' B' X' T'; (try k_lt l1); (try k_lt2 l2); (try dsimp only); (try k_lift B'); (try k_fold))
  k_steps
  refine to_stop ?_
  k_dflt (refine' Spec2.use (normpath_spec _ _ _ _ hx) ?B ?F ?X ?N ?T ?hk ?d ?u ?_; (case B => k_asm); (case F => k_asm); (case X => k_asm); (case N => k_asm); (case T => k_asm); (case hk => first | exact rfl | assumption); (case d => ktr_room); (case u => ktr_units); k_whole; rintro v9 h' tk' news9 F' N9 ⟨⟨t1, e9⟩, e8⟩; subst e9; subst e8; (try dsimp only); (try k_fold))
  k_steps
  all_goals refine hret _ _ _ _ (by assumption) (cb_drop (by assumption) (fun p hp => .tail _ (.tail _ hp))) ⟨⟨_, rfl⟩, Nat.le_trans hx.len (by decide), rfl⟩
end Mine
end PartM1n

section PartU1a
open PySem PySem.W PyProof.Rows
set_option Elab.async false
set_option maxRecDepth 100000
set_option linter.unusedVariables false
set_option genSizeOf false
namespace Mine
theorem freshU1a : True ∧ True := by
  w_top off
  first | (walk1; all_goals trivial) | exact ⟨trivial, trivial⟩
/-- a path that is asked about -/
inductive Pth where
  | none
  | s (x : Str)
  | n (i : Int)
  | b (x : Array UInt8)
def PathIs : Pth → Value → Prop
  | .none, v => v = .none
  | .s x, v => ∃ t, v = .str x t
  | .n i, v => ∃ t, v = .int i t
  | .b x, v => ∃ t, v = .bytes x t
/-- an answer: a number, or the name of a fault -/
inductive Ans where
  | i (n : Int)
  | e (x : Str)
  deriving DecidableEq
def AnsIs : Ans → Value → Prop
  | .i n, v => ∃ t, v = .int n t
  | .e x, v => ∃ t, v = .str x t
def faultT : Str := Str.ofString "TypeError"
def faultA : Str := Str.ofString "AttributeError"
def faultM : Md → Str
  | .b _ => faultT
  | _ => faultA
def faultP : Pth → Str
  | .b _ => faultT
  | _ => faultA
def pathAns (p : Pth) (ds : List Str) : Ans :=
  match p with
  | .none => .i 1
  | .s y => if ds.any (fun d => Txt.startswith y (d ++ Str.ofString "/")) = true then .i 1 else .i 0
  | p => if ds = [] then .i 0 else .e (faultP p)
def goesOn (x : Str) (ms : List Str) : Bool := ms.any fun m => Txt.startswith x (m ++ Str.ofString ".")
def aloneN (md : Md) (p : Pth) (ms ds : List Str) : Ans :=
  match md with
  | .s x => if x ∈ ms ∨ goesOn x ms = true then .i 1 else pathAns p ds
  | md => if ms = [] then pathAns p ds else .e (faultM md)
def keepAns (mem : Mem) (md : Md) : Ans → Mem
  | .i n => mem ++ [(md, n)]
  | .e _ => mem
def saidA (mem : Mem) (md : Md) (p : Pth) (ms ds : List Str) : Ans := match look mem md with | some i => .i i | none => aloneN md p ms ds
def saidM (mem : Mem) (md : Md) (p : Pth) (ms ds : List Str) : Mem := match look mem md with | some _ => mem | none => keepAns mem md (aloneN md p ms ds)
def igD (w : World) (t1 t2 t3 : Tok) (n : Nat) (dM D7 dG : Addr) : Obj := dictOf [{ hash := PyData.keyHash w.params (Str.ofString "_mods"), key := .str (Str.ofString "_mods") t1, val := .ref dM }, { hash := PyData.keyHash w.params (Str.ofString "_dirs"), key := .str (Str.ofString "_dirs") t2, val := .ref D7 }, { hash := PyData.keyHash w.params (Str.ofString "_ignore"), key := .str (Str.ofString "_ignore") t3, val := .ref dG }] n
end Mine
end PartU1a

section PartU1h
open PySem PySem.W PyProof.Rows
set_option Elab.async false
set_option maxRecDepth 100000
set_option maxHeartbeats 3200000
set_option linter.unusedVariables false
namespace Mine
theorem freshU1h : True ∧ True := by
  w_top off
  first | (walk1; all_goals trivial) | exact ⟨trivial, trivial⟩
section
variable {prog : Program} {w : World} {A : Around} {E : Value → Shared → Prop} {s : Shared}
theorem new_led0 {Q₁ : Value → Shared → Prop} (h : Q₁ (.ref s.heap.objs.size) { s with heap := s.heap.push (set0w w) }) :
    codeAny (model prog w) A (.call (.builtin "set.__new__") ⟨[.type "set"], []⟩) (wants Q₁ E) s := by
  refine codeAny_of_tree ?_
  show wpAny _ A.in1 (do checkBuiltinCall "set.__new__" ⟨[.type "set"], []⟩; again (.builtin "set.__new__" ⟨[.type "set"], []⟩)) _ _ s
  refine wpAny_bind (wpAny_of_eq PySem.F.newCall_set_0 (wpAny_pure ⟨plainId_quiet PySem.F.plain_set_new _, codeAny_builtin PySem.F.entry_set_new ?_⟩))
  rw [Around.under_plainId PySem.F.plain_set_new _]
  unfold Builtin.«set.__new__» Builtin.Frozenset.newClass
  have hsub := sub_set_self
  obtain ⟨hp, g, d, tk, os⟩ := s
  dsimp only
  wp_walk
  refine wpAny_askSetting (wpAny_pure ?_)
  dsimp only
  simp only [newObj]
  refine wpAny_bind (wpAny_alloc (wpAny_pure ?_))
  exact wpAny_pure h
theorem call_set_none {Q : Value → Shared → Prop} (h : Q (.ref s.heap.objs.size) { s with heap := s.heap.push (set0w w) }) :
    wpAny (model prog w) A (call (.type "set") []) Q E s := by
  obtain ⟨c, tl, hmro⟩ := PySem.F.called_set.mro
  have hmade := PySem.F.called_set.made
  have hsub := PySem.F.called_set.sub
  refine wpAny_call (codeAny_of_tree ?_)
  show wpAny _ _ (callAny (.type "set") _) _ _ _
  refine wpAny_pure ⟨Code.quiet_builtin _ (by decide +kernel), codeAny_builtin PySem.F.entry_type_call ?_⟩
  rw [Around.under_plain (weight_type_call_type "set" [] []) rfl]
  have h1 := PySem.F.called_set.notType
  have h2 := PySem.F.called_set.canCreate
  have hct := PySem.F.typeCall_set_0
  repeat (any_goals (first | assumption | wp_step))
  refine codeAny_mono (new_led0 (E := E) (Q₁ := fun obj s₁ => obj = .ref s.heap.objs.size ∧ s₁ = { s with heap := s.heap.push (set0w w) }) ⟨rfl, rfl⟩) fun r s₁ hr => ?_
  cases r with
  | error e => exact hr
  | ok fl =>
    cases fl with
    | ret obj =>
      obtain ⟨rfl, rfl⟩ := hr
      have hS : (s.heap.push (set0w w)).get? s.heap.objs.size = some (set0w w) := Heap.get?_push_size _ rfl
      have hT : Shared.TypeIs { s with heap := s.heap.push (set0w w) } (.ref s.heap.objs.size) "set" := ⟨_, hS, rfl⟩
      have hli := PySem.F.called_set.init.lookup
      have hbi := PySem.F.called_set.init.bind (.ref s.heap.objs.size)
      repeat (any_goals (first | assumption | wp_step))
      refine codeAny_mono (codeAny_call_builtin (R := wants (fun r s₂ => r = .none ∧ Q (.ref s.heap.objs.size) s₂) E) PySem.F.called_set.init.plain PySem.F.entry_set_init (check_set_init hT ?_)) fun r₂ s₂ hr₂ => ?_
      · unfold Builtin.«set.__init__» noKeywords
        wp_walk
        exact ⟨rfl, h⟩
      · cases r₂ with
        | error e => exact hr₂
        | ok fl₂ =>
          cases fl₂ with
          | ret r =>
            obtain ⟨rfl, hq⟩ := hr₂
            repeat (any_goals (first | assumption | wp_step))
          | _ => exact hr₂.elim
    | _ => exact hr.elim
end
section
variable {prog : Program} {w : World} {A : Around} {E : Value → Shared → Prop} {s : Shared} {h₀ : Heap} {L : Addr} {m : Str → Option Value} {news : List (Addr × Obj)}
theorem newSetNone {Q : Value → Shared → Prop} (F : Fr h₀ L s.heap m) (N : News h₀ L s.heap news)
    (h : ∀ D h' o, Fr h₀ L h' m → News h₀ L h' ((D, o) :: news) → StrSetObj w (ledOf w) [] o → (∀ p ∈ news, p.1 < D) → Q (.ref D) { s with heap := h' }) : wpAny (model prog w) A (call (.type "set") []) Q E s :=
  call_set_none (h _ _ _ (F.push _) (N.push F _ rfl) set0w_is fun p hp => Heap.lt_size (N p hp).1)
end
end Mine
end PartU1h

section PartU1i
open PySem PySem.W PyProof.Rows
set_option Elab.async false
set_option maxRecDepth 100000
set_option linter.unusedVariables false
namespace Mine
theorem freshU1i : True ∧ True := by
  w_top off
  first | (walk1; all_goals trivial) | exact ⟨trivial, trivial⟩
section
variable {prog : Program} {w : World} {A : Around} {E : Value → Shared → Prop} {s : Shared} {h₀ : Heap} {L : Addr} {m : Str → Option Value} {news : List (Addr × Obj)}
theorem pairs_inv {K : Type} [DecidableEq K] {knd : KeyKind prog w K} {es : List DictEntry} {kv : K × Value} {kvs : List (K × Value)} (h : Pairs knd es (kv :: kvs)) : ∃ e es', es = e :: es' ∧ knd.is kv.1 e.key = true ∧ e.val = kv.2 ∧ Pairs knd es' kvs := by
  generalize hk : kv :: kvs = l at h
  cases h with
  | nil => cases hk
  | cons h1 h2 h3 => cases hk; exact ⟨_, _, rfl, h1, h2, h3⟩
/-- what a reader remembers at first -/
theorem first_mem {o : Obj} {x : Str} {i : Int} {t : Tok} (hd : o.IsDictOf (strKind prog w) [(x, .int i t)]) (ks : List (Addr × Obj)) : MdDict w ks [(Md.s x, i)] o := by
  obtain ⟨es, ep, hex, hdd, hkeys, hp, hn⟩ := hd
  obtain ⟨e, es', he, h1, h2, h3⟩ := pairs_inv hp
  have hl := h3.length
  obtain rfl := List.eq_nil_of_length_eq_zero hl
  obtain ⟨k, hk1, hk2⟩ := hkeys e (by rw [← Array.mem_toList_iff, he]; exact .head _)
  obtain ⟨t', ht'⟩ := Value.isStrOf_shape h1
  have hkx : k = x := by
    have h4 : Value.isStrOf k e.key = true := hk1
    rw [ht'] at h4
    exact (by simpa [Value.isStrOf] using h4 : x = k).symm
  subst hkx
  have hes : es = #[e] := by
    obtain ⟨el⟩ := es
    simp only at he
    rw [he]
  refine ⟨[(Md.s k, e.key, e.val)], ep, hex, ?_, ⟨rfl, ?_⟩, by simp, ?_⟩
  · rw [hdd, hes]
    have : e = mdEntry w (Md.s k, e.key, e.val) := by
      obtain ⟨eh, ek, ev⟩ := e
      simp only [mdEntry, mdHash]
      exact congrArg (fun z => DictEntry.mk z ek ev) hk2
    show Data.dict #[e] ep = Data.dict #[mdEntry w (Md.s k, e.key, e.val)] ep
    rw [← this]
  · intro j y p hy hp'
    cases j with
    | zero =>
      cases hy; cases hp'
      exact ⟨t, h2⟩
    | succ j => cases hy
  · intro y hy
    rcases List.mem_singleton.mp hy with rfl
    exact ⟨t', ht'⟩
end
end Mine
end PartU1i

section PartU1j
open PySem PySem.W PyProof.Rows PySem.Spec PySem.Calls
set_option Elab.async false
set_option maxRecDepth 100000
set_option maxHeartbeats 1500000
set_option linter.unusedVariables false
set_option compiler.extract_closed false
namespace Mine
theorem freshU1j : True ∧ True := by
  w_top off
  first | (walk1; all_goals trivial) | exact ⟨trivial, trivial⟩
def AtIf : Prop := True
local macro_rules | `(tactic| k_room) => `(tactic| ktr_room)
local macro_rules | `(tactic| walk_at $s:str) => if ["CompSrc", "call type:set nil nil", "call type:set cons nil", "truthy ref", "call ref"].contains s.getString then `(tactic| (k_here; (refine of_stop ?_))) else if s.getString == "eval IfExp" then `(tactic| ((rename AtIf => zmark); (refine of_stop ?_))) else Lean.Macro.throwUnsupported
theorem off1_out {D : Addr} : ∀ {l : List (Addr × Obj)}, LCg.Off1 D l → ∀ p ∈ l, (p.1 : Nat) ≠ D
  | [], _, _, h => nomatch h
  | q :: l, x, p, h => by
    rcases List.mem_cons.mp h with rfl | h
    · exact x.1
    · exact off1_out x.2 p h
def SetMade (w : World) (h₀ : Heap) (L : Addr) (m : Str → Option Value) (news : List (Addr × Obj)) (lm : List (Str × Tok)) (s : Shared) (v : Value) (s' : Shared) : Prop :=
  ∃ D h' tk o, v = .ref D ∧ s' = { s with heap := h', toks := tk } ∧ Fr h₀ L h' m ∧ News h₀ L h' ((D, o) :: news) ∧ StrSetObj w (ledOf w) lm o ∧ ∀ p ∈ news, p.1 < D
def ListMade (h₀ : Heap) (L : Addr) (m : Str → Option Value) (news : List (Addr × Obj)) (ld : List (Str × Tok)) (s : Shared) (v : Value) (s' : Shared) : Prop :=
  ∃ D h' tk l, v = .ref D ∧ s' = { s with heap := h', toks := tk } ∧ Fr h₀ L h' m ∧ News h₀ L h' ((D, LCg.lst (strValues l)) :: news) ∧ l.map (·.1) = (ld.map (·.1)).map normOf ∧ l.length = ld.length ∧ ∀ p ∈ news, p.1 ≠ D
section
variable {M : Model} {w : World} {A : Around} {e : Sem Value} {Q : Value → Shared → Prop} {E : Value → Shared → Prop} {s : Shared} {h₀ : Heap} {L : Addr} {m : Str → Option Value} {news : List (Addr × Obj)}
theorem cut_set (lm : List (Str × Tok)) (F : Fr h₀ L s.heap m) (N : News h₀ L s.heap news) (one : wpAny M A e (SetMade w h₀ L m news lm s) E s)
    (two : ∀ D h' tk o, Fr h₀ L h' m → News h₀ L h' ((D, o) :: news) → StrSetObj w (ledOf w) lm o → (∀ p ∈ news, p.1 < D) → Q (.ref D) { s with heap := h', toks := tk }) : wpAny M A e Q E s :=
  wpAny_mono one (fun _ _ hv => by obtain ⟨D, h', tk, o, rfl, rfl, a, b, c, d⟩ := hv; exact two D h' tk o a b c d) fun _ _ x => x
theorem cut_list (ld : List (Str × Tok)) (F : Fr h₀ L s.heap m) (N : News h₀ L s.heap news) (one : wpAny M A e (ListMade h₀ L m news ld s) E s)
    (two : ∀ D h' tk l, Fr h₀ L h' m → News h₀ L h' ((D, LCg.lst (strValues l)) :: news) → l.map (·.1) = (ld.map (·.1)).map normOf → l.length = ld.length → (∀ p ∈ news, p.1 ≠ D) → Q (.ref D) { s with heap := h', toks := tk }) : wpAny M A e Q E s :=
  wpAny_mono one (fun _ _ hv => by obtain ⟨D, h', tk, l, rfl, rfl, a, b, c, d, f⟩ := hv; exact two D h' tk l a b c d f) fun _ _ x => x
end
theorem init_spec : ∀ (w : World) (news : List (Addr × Obj)) (aN aP : Addr) (nN nP : Nat) (lm ld : List (Str × Tok)),
    (aN, listOf (strValues lm).toArray nN) ∈ news → (aP, listOf (strValues ld).toArray nP) ∈ news → lm.length ≤ 3 → ld.length ≤ 3 → (lm.map (·.1)).Nodup → (∀ q ∈ ld, DirOk q.1) →
    Spec2 6 79 w [.ref aN, .ref aP] news (fun v news' => ∃ (dG x dI dM aD : Nat) (oM o : Obj) (t1 t2 t3 : Tok) (n : Nat) (l : List (Str × Tok)), v = .ref x ∧ l.map (·.1) = (ld.map (·.1)).map normOf ∧ l.length = ld.length ∧ StrSetObj w (ledOf w) lm oM ∧ MdDict w [] [(Md.s (Str.ofString "<string>"), 1)] o ∧
      (∀ p ∈ news, (p.1 : Nat) < dI) ∧ dI < x ∧ x < dM ∧ dM < dG ∧ aD < dG ∧ aD ≠ dM ∧ aD ≠ x ∧ aD ≠ dI ∧ (∀ p ∈ news, (p.1 : Nat) ≠ aD) ∧ ((dG : Addr) == sysModules) = false ∧
      news' = (dG, o) :: (aD, LCg.lst (strValues l)) :: (dM, oM) :: (x, instObj 79 dI) :: (dI, igD w t1 t2 t3 n dM aD dG) :: news) := by
  unfold Spec2
  k_fill
  intro w news aN aP nN nP lm ld hN hP hlm3 hld3 hnd hld mean mg mb dp un gd cn cs a ccd cl outer A₀ base h₀ L m s Q E B F X N T hk hd1 hu1 hret
  k_dflt (refine' call_cls ?k1 ?k2 ?k3 ?k4 ?k5 ?k6 ?_; (case k1 => k_asm); (case k2 => k_asm); (case k3 => k_asm); (case k4 => k_is); (case k5 => k_is); (case k6 => k_is); k_whole; intro x' d' h' F' N' l1 l2; (try k_lt l1); (try k_lt2 l2); (try k_sweep); (refine' code_def ?k1 ?k2 ?k3 ?k4 ?k5 ?kA ?kF ?kK ?k6 ?k7 ?k8 ?k9 ?kB ?_ ?c2 ?c3 ?c4 ?c5; (case kA => exact rfl); (case kF => exact rfl); (case kK => assumption); (case k1 => k_asm); (case k2 => k_asm); (case k3 => k_asm); (case k4 => k_asm); (case k5 => k_asm); (case k6 => k_is); (case k7 => k_is); (case k8 => ktr_room); (case k9 => exact binds_K (by k_in) rfl (by k_is) rfl rfl rfl); (case c5 => decide); (case kB => exact locs rfl); (case c2 => exact rfl); (case c3 => exact rfl); (case c4 => exact rfl); k_whole; intro g' L' h' FG' F' N' B' X' T'; (try dsimp only); (try k_lift B'); (try k_fold)))
  have hmk : AtIf := trivial
  k_steps
  (rename Fr _ _ _ _ => kF)
  (rename News _ _ _ _ => kN)
  refine to_stop ?_
  refine' cut_set (w := w) lm kF kN ?one ?two
  case one =>
    (rename AtIf => zm); clear zm
    k_steps
    refine to_stop ?_
    k_dflt (refine strs_truthy (by k_asm) (by repeat (first | assumption | exact List.Mem.head _ | apply List.Mem.tail)) (by omega) ?_; k_whole; intro tk9)
    k_steps
    · refine to_stop ?_
      k_dflt (refine newSetStrs (by k_asm) (by k_asm) rfl (by repeat (first | assumption | exact List.Mem.head _ | apply List.Mem.tail)) (by assumption) (by assumption) ?_; k_whole; intro D' h' tk' o' F' N' hS' l1)
      exact ⟨D', h', tk', o', rfl, rfl, F', N', hS', l1⟩
    · have hme : lm = [] := Decidable.not_not.mp (by assumption)
      subst hme
      refine to_stop ?_
      k_dflt (refine newSetNone (by k_asm) (by k_asm) ?_; k_whole; intro D' h' o' F' N' hS' l1)
      exact ⟨D', h', _, o', rfl, rfl, F', N', hS', l1⟩
  case two =>
    intro D5 h5 tk5 o5 F5 N5 hS5 hl5
    have a1 := ltN (hl5 _ (.head _))
    have a2 := ltN (hl5 _ (.tail _ (.head _)))
    dsimp only at a1 a2
    clear kF kN
    k_steps
    (rename Fr _ _ _ _ => kF)
    (rename News _ _ _ _ => kN)
    refine to_stop ?_
    refine' cut_list ld kF kN ?oneL ?twoL
    case oneL =>
      (rename AtIf => zm); clear zm
      k_steps
      refine to_stop ?_
      k_dflt (refine strs_truthy (by k_asm) (by repeat (first | assumption | exact List.Mem.head _ | apply List.Mem.tail)) (by omega) ?_; k_whole; intro tk9)
      k_steps
      · (rename Fr _ _ _ _ => kF1)
        (rename News _ _ _ _ => kN1)
        refine to_stop (src_strs normOf rfl kF1 kN1 (by repeat (first | assumption | apply List.Mem.tail)) (by omega) ?turn ?fin)
        case turn =>
          intro z t I oI C oC D m₂ ys h tk E' hz hC hx F' N' off ne
          have hzl : DirOk z := hld _ hz
          clear kF1 kN1
          k_steps
          refine to_stop ?_
          k_dflt (refine Spec2.use (osnorm_spec _ _ _ _ hzl) (by k_asm) (by k_asm) (by k_asm) (by k_asm) (by k_asm) (by first | exact rfl | assumption) (by ktr_room) (by simp only [units_under_make, units_in1, units_deeper, units_caller, cLine] at *; (try dsimp only [ktrTop] at *); omega) ?_; k_whole; rintro v9 h' tk' news9 F' N9 ⟨⟨t1, e9⟩, z9, e8⟩; subst e9; subst e8; (try dsimp only); (try k_fold))
          k_steps
          exact ElPost.of (by assumption) (by assumption) (fun p hp => hp) ⟨_, rfl⟩
        case fin =>
          intro g9 l2 hl2 hn2 D9 h9 tk9 F9 N9 o9
          clear kF1 kN1
          k_steps
          exact ⟨D9, h9, tk9, l2, rfl, rfl, F9, N9, hl2, hn2, off1_out o9⟩
      · have hle : ld = [] := Decidable.not_not.mp (by assumption)
        subst hle
        (rename Fr _ _ _ _ => kF1)
        (rename News _ _ _ _ => kN1)
        (rename _ ∧ _ ∧ _ ∧ AllLt _ news => lN)
        exact ⟨_, _, _, [], rfl, rfl, kF1, kN1, rfl, rfl, fun p hp => Nat.ne_of_lt (allLt_out (l := (_, _) :: (_, _) :: (_, _) :: news) lN p hp)⟩
    case twoL =>
      intro D6 h6 tk6 l6 F6 N6 hm6 hn6 ho6
      have b1 := neN (ho6 _ (.head _))
      have b2 := neN (ho6 _ (.tail _ (.head _)))
      have b3 := neN (ho6 _ (.tail _ (.tail _ (.head _))))
      have b4 : ∀ p ∈ news, (p.1 : Nat) ≠ D6 := fun p hp => ho6 p (.tail _ (.tail _ (.tail _ hp)))
      dsimp only at b1 b2 b3
      clear kF kN
      k_steps
      (rename Obj.IsDictOf _ _ _ => kD)
      refine hret _ _ _ _ (by assumption) (by assumption) ⟨_, _, _, _, _, _, _, _, _, _, _, l6, rfl, hm6, hn6, by assumption, first_mem kD _, ?_, ?_, ?_, ?_, ?_, ?_, ?_, ?_, ?_, by assumption, rfl⟩
      all_goals first | assumption | exact And.left (by assumption) | exact And.left (And.right (by assumption)) | exact And.left (And.right (And.right (by assumption))) | exact Ne.symm (by assumption) | omega | exact fun p hp => allLt_out (by assumption) p hp | exact fun p hp => allLt_out (And.right (by assumption)) p hp
end Mine
end PartU1j

section PartU1b
open PySem PySem.W PyProof.Rows PySem.Spec PySem.Calls
set_option Elab.async false
set_option maxRecDepth 100000
set_option linter.unusedVariables false
namespace Mine
theorem freshU1b : True ∧ True := by
  w_top off
  first | (walk1; all_goals trivial) | exact ⟨trivial, trivial⟩
section
variable {prog : Program} {w : World} {A₀ A : Around} {s : Shared} {base h₀ : Heap} {L a : Addr} {m : Str → Option Value} {cn : Str} {cs : Scope} {ccd : Value} {cl : List (Str × Addr)} {news : List (Addr × Obj)} {K : Frag} {p : Program} {loose : List Str} {mean : ExcName → Option Value} {mg mb : Str → Option Value}
  {R : Result → Shared → Prop} {name qual : Str} {params : Arguments} {body : List Stmt} {scope : Scope} {dV kV doc pm cdv ct oc : Value} {an od : Option Addr} {osl : Array (Option Value)} {f : Addr} {args : Args} {binds : List (Str × Value)}
/-- a def that catches, called from a frame that owns cells and stands alone -/
theorem call_catcher (B : Below A₀ base [] h₀) (F : Fr h₀ L s.heap m) (X₀ : K.In h₀) (N : News h₀ L s.heap news) (T : Top p loose mean mg mb h₀) (hA : A.frames = some [envX cn cs L a ccd cl])
    (ho : K.lookup f = some ⟨oc, od, .func (fnOf name qual params body scope dV kV doc pm an cdv ct), osl⟩) (hcd : codeIn K cdv qual = true) (hroom : A.depth < recursionLimit)
    (hbind : BindsTo s (fnOf name qual params body scope dV kV doc pm an cdv ct) args binds) (hloc : ∀ y ∈ binds, scope.names.lookup y.1 = some .local)
    (h : ∀ g L' h₁, Fr h₀ L g m → Fr g L' h₁ (fun y => binds.reverse.lookup y) → News g L' h₁ news → Below A base [envX cn cs L a ccd cl] g → K.In g → Top p loose mean mg mb g → KtsDicts ([envX cn cs L a ccd cl].filterMap (·.frame)) g →
      wpAny (model prog w) (A.deeper (envOf qual scope L' f cdv)) (execs body (envOf qual scope L' f cdv))
        (fun fl s' => LeaveS0 ([envX cn cs L a ccd cl].filterMap (·.frame)) h₀ L m g R (match fl with | .ret v => v | _ => .none) s')
        (fun e s' => wpAny (model prog w) (A.deeper (envOf qual scope L' f cdv)) (leaving (envOf qual scope L' f cdv) e) (fun _ s'' => R (.error e) s'') (fun e' s'' => R (.error e') s'') s')
        { s with heap := h₁, toks := s.toks + binds.length })
    (hck : cs.kind = .function) (hco : scope.isCoroutine = false) (hgen : scope.isGenerator = false) (hk : scope.kind = .function)
    (hcell : ∀ x ∈ scope.names, x.2 ≠ .cell) : codeAny (model prog w) A (.call (.ref f) args) R s := by
  -- the ground: all but the ledger
  have hout : ∀ q ∈ news, h₀.get? q.1 = none := fun q hq => (N q hq).2.2
  let g := hideAll s.heap (news.map (·.1))
  have hg : ∀ b o, h₀.get? b = some o → g.get? b = some o := fun b o e => hideAll_get _ (F.keep b o e) fun hm => by
    obtain ⟨q, hq, rfl⟩ := List.mem_map.mp hm
    rw [hout q hq] at e; cases e
  obtain ⟨oL, es, ep, hL, hLd, hLk, hLf⟩ := F.ns
  have hgL : g.get? L = some oL := hideAll_get _ hL fun hm => by
    obtain ⟨q, hq, e⟩ := List.mem_map.mp hm
    exact (N q hq).2.1 e
  have nL : h₀.get? L = none := kts_self F
  have hgs : g.objs.size = s.heap.objs.size := hideAll_size _ _
  have Fg : Fr h₀ L g m := ⟨⟨oL, es, ep, hgL, hLd, hLk, hLf⟩, hg, F.above⟩
  have nb : base.get? L = none := kts_none B.stays nL
  have Bg : Below A base [envX cn cs L a ccd cl] g :=
    ⟨hA, fun b o e => hg b o (B.stays b o e), .cons (by show cs.kind ≠ .module; rw [hck]; decide) rfl Fg.ns nb trivial⟩
  have X := X₀.keeps F.keep
  refine codeAny_call_def (fd := fnOf name qual params body scope dV kV doc pm an cdv ct) (body := body) (binds := binds) hroom (X _ _ ho) rfl (T.nolimit.keeps F.keep) (codeRec_of X hcd) rfl hbind hcell hloc (fun h₁ hns hk₁ => ?_) hco hgen hk
  have F₁ : Fr g s.heap.objs.size h₁ (fun y => binds.reverse.lookup y) := ⟨hns, fun b o e => hk₁ b o (of_hideAll _ e), Nat.le_of_eq hgs⟩
  have N₁ : News g s.heap.objs.size h₁ news := fun q hq => ⟨hk₁ _ _ (N q hq).1, Nat.ne_of_lt (Heap.lt_size (N q hq).1), hideAll_none _ (List.mem_map_of_mem hq)⟩
  have D : KtsDicts ([envX cn cs L a ccd cl].filterMap (·.frame)) g := fun b hb => by
    have hb' : b ∈ [L] := hb
    rcases List.mem_singleton.mp hb' with rfl
    exact ⟨oL, es, ep, hgL, hLd⟩
  refine wpAny_mono (h g s.heap.objs.size h₁ Fg F₁ N₁ Bg (X₀.keeps hg) (T.keeps hg) D) (fun fl s' hl => ?_) fun _ _ y => y
  obtain ⟨g', L', m', news', T', F', N', k⟩ := hl
  obtain ⟨sl, hs⟩ := T'.up hgL
  have back : ∀ b o, h₀.get? b = some o → g'.get? b = some o := fun b o e => T'.other b o (hg b o e) fun hm => by
    have hm' : b ∈ [L] := hm
    rcases List.mem_singleton.mp hm' with rfl
    rw [nL] at e; cases e
  refine k ⟨⟨_, es, ep, F'.keep _ _ hs, hLd, hLk, hLf⟩, fun b o e => F'.keep b o (back b o e), F.above⟩ fun q hq => ⟨(N' q hq).1, fun e => ?_, ?_⟩
  · have := (N' q hq).2.2
    rw [e, hs] at this; cases this
  · cases e : h₀.get? q.1 with
    | none => rfl
    | some o =>
      have := (N' q hq).2.2
      rw [back _ _ e] at this
      cases this
end
section
variable {M : Model} {A : Around} {E : Value → Shared → Prop} {s' : Shared} {base g h : Heap} {outer : List Env} {L a e : Addr} {m : Str → Option Value} {name : Str} {scope : Scope} {cd : Value} {Q : Unit → Shared → Prop} {news : List (Addr × Obj)}
/-- a raise that the interpreter makes, of any members, leaves the frame -/
theorem leave_newO {cls : String} (K : Below A base outer g) (hx : Heap.NewExcOf h s'.heap e cls) (F : Fr g L h m) (N : News g L h news)
    (hQ : ∀ h', RaisedSN base g outer e (.type cls) news h' → RaisedN base outer e (.type cls) news h' → g.UpToSlots h' → Q () { s' with heap := h' }) (hk : scope.kind = .function := by rfl) :
    wpAny M (A.deeper (envOf name scope L a cd)) (leaving (envOf name scope L a cd) (.ref e)) Q E s' := by
  have K' := K.push (name := name) (a := a) (cd := cd) F hk
  let fs := (envOf name scope L a cd :: outer).filterMap (·.frame)
  have mem : ∀ {b : Addr}, b ∈ fs → b = L ∨ b ∈ outer.filterMap (·.frame) := fun hb => kts_mem hb
  have up : ∀ b o, h.get? b = some o → b ∉ fs → (hideAll h fs).get? b = some o := fun b o hb hn => hideAll_get _ hb hn
  have fr : ∀ b ∈ fs, base.get? b = none := fun b hb => (K'.frames.mem hb).1
  have st : base.StaysIn (hideAll h fs) := fun b o q => up b o (K'.stays b o q) fun hm => by
    rw [fr b hm] at q; cases q
  have sg : ∀ b o, g.get? b = some o → b ∉ outer.filterMap (·.frame) → (hideAll h fs).get? b = some o := fun b o q nm => up b o (F.keep b o q) fun hm => by
    rcases mem hm with z | z
    · rw [z, kts_self F] at q; cases q
    · exact nm z
  have hl : ∀ q ∈ news, (hideAll h fs).get? q.1 = some q.2 ∧ g.get? q.1 = none ∧ base.get? q.1 = none := fun q hq => by
    refine ⟨up _ _ (N q hq).1 fun hm => ?_, (N q hq).2.2, fresh_of_stays K.stays (N q hq).2.2⟩
    rcases mem hm with z | z
    · exact (N q hq).2.1 z
    · obtain ⟨o, ho, _⟩ := (K.frames.mem z).2
      rw [(N q hq).2.2] at ho; cases ho
  obtain ⟨ob, vs, he, hcls, hd, h1⟩ := hx.there
  obtain ⟨a0, h0⟩ : ∃ a0, vs[0]? = some a0 := by
    have : 1 < vs.size := (Array.getElem?_eq_some_iff.mp h1).1
    exact ⟨vs[0], by simp⟩
  have hen : (hideAll h fs).get? e = none := by
    cases q : (hideAll h fs).get? e with
    | none => rfl
    | some o => have := of_hideAll _ q; rw [hx.new] at this; cases this
  have hff : s'.heap.FunFrames (hideAll h fs) (envOf name scope L a cd :: outer) :=
    (funFrames_hide K'.frames fun env he b hb => List.mem_filterMap.mpr ⟨env, he, hb⟩).of_keeps fun b o hb _ => ⟨o, hx.keeps b o hb, rfl⟩
  refine wpAny_leaving_firstW K'.stack hff rfl he (fun b o hb => hx.keeps b o (of_hideAll _ hb)) hen hd h1 h0 fun h' hL => ?_
  obtain ⟨k1, ⟨_, _, k2⟩, k3, k4⟩ := hL
  have R : RaisedSN base g outer e (.type cls) news h' := ⟨_, a0, st, sg, hl, k1, hen, k2, by rw [← hcls]; exact k3⟩
  exact hQ h' R R.toN (((Heap.UpToSlots.of_keeps F.keep).trans (Heap.UpToSlots.of_keeps hx.keeps)).trans k4)
end
/-- a def's contract, called from the law's own frame -/
def SpecS (bd : Nat) (f : Addr) (w : World) (vs : List Value) (news : List (Addr × Obj)) (Post : Value → List (Addr × Obj) → Prop) : Prop :=
  ∀ (mean : ExcName → Option Value) (mg mb : Str → Option Value) (dp un : Nat) (gd : Option (List Code)) (cn : Str) (cs : Scope) (a : Addr) (ccd : Value) (cl : List (Str × Addr)) (A₀ : Around) (base h₀ : Heap) (L : Addr) (m : Str → Option Value) (s : Shared) (Q E : Value → Shared → Prop)
    (B : Below A₀ base [] h₀) (F : Fr h₀ L s.heap m) (X : (hd.heap_39 w.params).In h₀) (N : News h₀ L s.heap news) (T : Top hd.view_39 (looseW hd.view_39 []) mean mg mb h₀) (XB : (hd.heap_39 w.params).In base) (TB : Top hd.view_39 (looseW hd.view_39 []) mean mg mb base) (hk : cs.kind = .function)
    (hd1 : dp + bd < recursionLimit) (hu1 : un + 8 * bd + 100 < cLine)
    (hret : ∀ v h' tk' dr' news', Fr h₀ L h' m → News h₀ L h' news' → Post v news' → Q v { s with heap := h', toks := tk', drawn := dr' }),
    wpAny (model PySem.Challenge.rw_nq0320_01.row.prog w) (ktrTop dp un gd cn cs L a ccd cl []) (call (.ref f) vs) Q E s
end Mine
end PartU1b

section PartU1d
open PySem PySem.W PyProof.Rows PySem.Spec PySem.Calls
set_option Elab.async false
set_option maxRecDepth 100000
set_option linter.unusedVariables false
namespace Mine
theorem freshU1d : True ∧ True := by
  w_top off
  first | (walk1; all_goals trivial) | exact ⟨trivial, trivial⟩
section
variable {prog : Program} {w : World} {A : Around} {E : Value → Shared → Prop} {s : Shared} {Q : Value → Shared → Prop}
theorem getAttr_missF_int {n : Int} {t : Tok} {name : Str} (hmiss : typeLookup (.type "int") name = pure none) (hA : A.handled = none)
    (h : ∀ h' tk e, Heap.NewExcOf s.heap h' e "AttributeError" → E (.ref e) { s with heap := h', toks := tk }) (hsz : name.length + 100 ≤ sizeLine) :
    wpAny (model prog w) A (getAttr (.int n t) name) Q E s := by
  obtain ⟨hp, g, d, tk, os⟩ := s
  have hT : ∀ s' : Shared, s'.TypeIs (.int n t) "int" := fun _ => rfl
  have f1 := sub_AttributeError
  have f3 := F.slot_int_getattribute.lookup
  have f4 := F.slot_int_getattribute.bind (.int n t)
  have f5 := am_int_getattr_none
  unfold getAttr getAttrBy
  repeat (any_goals (first | assumption | ((with_reducible show wpAny _ _ (call (Value.builtin "int.__getattribute__") _ _) _ _ _); refine call_meets F.slot_int_getattribute (hT _) am_entry_int_getattribute (F.args_int_getattribute_2 _ _) (meets_getattribute_miss_int n t name _ hmiss hsz) ⟨hA, fun h' tk' e hx => ?_⟩) | wp_step))
  obtain ⟨t', u', he⟩ := hx.there
  show wpAny _ _ (getattributeRaised _ _ _ _ _ _ _) _ _ _
  unfold getattributeRaised
  repeat (any_goals (first | assumption | wp_step))
  exact h _ _ _ hx.of
theorem getAttr_missF_tuple {a : Addr} {xs : Array Value} {k : Nat} {sl : Array (Option Value)} {name : Str}
    (hx : s.heap.get? a = some { cls := .type "tuple", dict := none, data := .seq xs k, slots := sl }) (hmiss : typeLookup (.type "tuple") name = pure none) (hname : (["__module__", "__name__", "__qualname__", "__doc__", "__annotations__"] : List Str).contains name = false) (hA : A.handled = none)
    (h : ∀ h' tk e, Heap.NewExcOf s.heap h' e "AttributeError" → E (.ref e) { s with heap := h', toks := tk }) (hsz : name.length + 100 ≤ sizeLine) :
    wpAny (model prog w) A (getAttr (.ref a) name) Q E s := by
  obtain ⟨hp, g, d, tk, os⟩ := s
  have hT : ∀ tk', (⟨hp, g, d, tk', os⟩ : Shared).TypeIs (.ref a) "tuple" := fun _ => ⟨_, hx, rfl⟩
  have f1 := sub_AttributeError
  have f3 := F.slot_tuple_getattribute.lookup
  have f4 := F.slot_tuple_getattribute.bind (.ref a)
  have f5 := am_tuple_getattr_none
  unfold getAttr getAttrBy
  repeat (any_goals (first | assumption | exact hT _ | ((with_reducible show wpAny _ _ (call (Value.builtin "tuple.__getattribute__") _ _) _ _ _); refine call_meets F.slot_tuple_getattribute (hT _) am_entry_tuple_getattribute (F.args_tuple_getattribute_2 _ _) (meets_getattribute_miss_tuple a xs k sl name _ hmiss hname hsz) ⟨hx, hA, fun h' tk' e hx' => ?_⟩) | wp_step))
  obtain ⟨t', u', he⟩ := hx'.there
  show wpAny _ _ (getattributeRaised _ _ _ _ _ _ _) _ _ _
  unfold getattributeRaised
  repeat (any_goals (first | assumption | wp_step))
  exact h _ _ _ hx'.of
theorem miss_int : typeLookup (.type "int") (Str.ofString "startswith") = pure none := am_miss_of_fast (by decide +kernel)
theorem miss_tuple : typeLookup (.type "tuple") (Str.ofString "startswith") = pure none := am_miss_of_fast (by decide +kernel)
theorem starts_int {n : Int} {t : Tok} {pl : Sem Bool} {Q : Value × List Value → Shared → Prop} (hA : A.handled = none)
    (h : ∀ h' tk e, Heap.NewExcOf s.heap h' e "AttributeError" → E (.ref e) { s with heap := h', toks := tk }) :
    wpAny (model prog w) A (getMethod (.int n t) (Str.ofString "startswith") pl) Q E s := by
  obtain ⟨g, hg, hcan⟩ := F.plainAttrs_int.ga
  unfold getMethod
  refine wpAny_bind (wpAny_specialOf (typeIs_int s n t) hg ?_)
  show wpAny _ A (if (Manifest.canonical g != "object.__getattribute__") = true then _ else _) Q E s
  rw [hcan, if_neg Bool.false_ne_true]
  refine wpAny_bind (wpAny_specialOf (typeIs_int s n t) F.plainAttrs_int.noGetattr ?_)
  refine wpAny_bind (wpAny_specialOf (typeIs_int s n t) miss_int ?_)
  exact wpAny_bind (getAttr_missF_int miss_int hA h (by decide +kernel))
theorem starts_tuple {a : Addr} {xs : Array Value} {k : Nat} {sl : Array (Option Value)} {pl : Sem Bool} {Q : Value × List Value → Shared → Prop} (hx : s.heap.get? a = some { cls := .type "tuple", dict := none, data := .seq xs k, slots := sl }) (hA : A.handled = none)
    (h : ∀ h' tk e, Heap.NewExcOf s.heap h' e "AttributeError" → E (.ref e) { s with heap := h', toks := tk }) :
    wpAny (model prog w) A (getMethod (.ref a) (Str.ofString "startswith") pl) Q E s := by
  obtain ⟨g, hg, hcan⟩ := F.plainAttrs_tuple.ga
  have hT : s.TypeIs (.ref a) "tuple" := ⟨_, hx, rfl⟩
  unfold getMethod
  refine wpAny_bind (wpAny_specialOf hT hg ?_)
  show wpAny _ A (if (Manifest.canonical g != "object.__getattribute__") = true then _ else _) Q E s
  rw [hcan, if_neg Bool.false_ne_true]
  refine wpAny_bind (wpAny_specialOf hT F.plainAttrs_tuple.noGetattr ?_)
  refine wpAny_bind (wpAny_specialOf hT miss_tuple ?_)
  exact wpAny_bind (getAttr_missF_tuple hx miss_tuple (by decide +kernel) hA h (by decide +kernel))
end
end Mine
end PartU1d

section PartU1e
open PySem PySem.W PyProof.Rows PySem.Spec PySem.Calls
set_option Elab.async false
set_option maxRecDepth 100000
set_option linter.unusedVariables false
namespace Mine
theorem freshU1e : True ∧ True := by
  w_top off
  first | (walk1; all_goals trivial) | exact ⟨trivial, trivial⟩
section
variable {prog : Program} {w : World} {A : Around} {E : Value → Shared → Prop} {s : Shared} {Q : Value → Shared → Prop}
theorem starts_bytes {b : Array UInt8} {t : Tok} {pl : Sem Bool} {Q : Value × List Value → Shared → Prop} (h : Q (.builtin "bytes.startswith", [.bytes b t]) s) :
    wpAny (model prog w) A (getMethod (.bytes b t) (Str.ofString "startswith") pl) Q E s := by
  with_reducible exact getMethod_builtin (typeIs_bytes s b t) FB.plainAttrs_bytes FB.slot_bytes_startswith FB.type_bytes_startswith (fun _ e => nomatch e) h
theorem str_no_buffer : typeLookup (.type "str") (Str.ofString "__buffer__") = pure none := am_miss_of_fast (by decide +kernel)
theorem sub_str_tuple' : isSubtype (.type "str") (.type "tuple") = pure false := by rw [isSubtype_type]; kernel_rfl
theorem bytes_starts_str {b : Array UInt8} {t : Tok} {x : Str} {u : Tok} (hA : A.handled = none)
    (h : ∀ h' tk e, Heap.NewExc s.heap h' e "TypeError" → E (.ref e) { s with heap := h', toks := tk }) :
    wpAny (model prog w) A (call (.builtin "bytes.startswith") [.bytes b t, .str x u]) Q E s := by
  refine wpAny_call_entry FB.slot_bytes_startswith (typeIs_bytes s b t) FB.entry_bytes_startswith ?_ (FB.args_bytes_startswith_2 _ _)
  unfold Builtin.«bytes.startswith» Builtin.Bytes.tailMatchM
  refine wpAny_bind (wpAny_pure ?_)
  try dsimp only
  refine wpAny_bind (wpAny_pure ?_)
  refine wpAny_bind (wpAny_pure ?_)
  refine wpAny_bind (wpAny_bind (wpAny_pure (wpAny_pure ?_)))
  try dsimp only
  refine wpAny_bind (wpAny_isInstance (typeIs_str s x u) sub_str_tuple' ?_)
  rw [if_neg Bool.false_ne_true]
  refine wpAny_bind ?_
  unfold Builtin.Bytes.buffer?
  refine wpAny_bind (wpAny_specialOf (typeIs_str s x u) str_no_buffer ?_)
  try dsimp only
  refine wpAny_bind (wpAny_specialOf (typeIs_str s x u) str_no_buffer ?_)
  try dsimp only
  refine wpAny_pure ?_
  try dsimp only
  refine wpAny_bind (wpAny_rule ?_)
  refine wpAny_bind (wpAny_typeNameOf' (typeIs_str s x u) (by decide) ?_)
  exact wpAny_raiseTypeError (by rw [show A.in1.handled = A.handled from rfl]; exact hA) h (by decide +kernel)
end
end Mine
end PartU1e

section PartU1c
open PySem PySem.W PyProof.Rows PySem.Spec PySem.Calls
set_option Elab.async false
set_option maxRecDepth 100000
set_option maxHeartbeats 1500000
set_option linter.unusedVariables false
set_option compiler.extract_closed false
namespace Mine
theorem freshU1c : True ∧ True := by
  w_top off
  first | (walk1; all_goals trivial) | exact ⟨trivial, trivial⟩
theorem sub_tail {ks r : List (Addr × Obj)} {q : Addr × Obj} (h : ∀ p ∈ ks, p ∈ r) : ∀ p ∈ ks, p ∈ q :: r := fun p hp => .tail _ (h p hp)
section
variable {prog : Program} {w : World} {A : Around} {E : Value → Shared → Prop} {s : Shared} {d a : Addr} {o : Obj} {k : Md} {key : Value} {h₀ : Heap} {L : Addr} {m : Str → Option Value} {ks news : List (Addr × Obj)} {mem : Mem} {led : Bool} {l : List (Str × Tok)}
theorem md_itemS (hu : A.units + 20 < cLine) (N : News h₀ L s.heap news) (hs : ∀ p ∈ ks, p ∈ news) (hm : (d, o) ∈ news) (hd : MdDict w ks mem o) (hk : KeyIn ks k key) (hl : (look mem k).isSome = true) {Q : Value → Shared → Prop} {value slice : Expr}
    (h : ∀ i t tk, look mem k = some i → Q (.int i t) { s with toks := tk })
    (hs' : subscripted slice false (.ref d) key = operate [.ref d, key] (getItem (.ref d) key)) :
    wpAny (model prog w) A (subscriptTail value slice (.ref d) key) Q E s := by
  obtain ⟨i, hi⟩ := Option.isSome_iff_exists.mp hl
  exact tail_any (md_type N hm hd) slot_dict_getitem.lookup (md_getItem hu N hs hm hd hk hi fun t tk => h i t tk hi) hs'
theorem set_inK (hu : A.units + 20 < cLine) (N : News h₀ L s.heap news) (hs : ∀ p ∈ ks, p ∈ news) (hm : (a, o) ∈ news) (hS : StrSetObj w led l o) (h3 : l.length ≤ 3) (ht : ∀ p ∈ l, p.2 ≠ 0 ∧ p.1.length ≤ 100) (hk : KeyIn ks k key) {Q : Value → Shared → Prop}
    (h : ∀ b tk, onList l k = b → Q (.bool b) { s with toks := tk }) : wpAny (model prog w) A (compareOp .In key (.ref a)) Q E s :=
  set_in hu (N _ hm).1 hS h3 (fun p hp => (ht p hp).1) (hk.ok N hs) fun tk => h _ tk rfl
theorem md_setS (hu : A.units + 20 < cLine) (F : Fr h₀ L s.heap m) (N : News h₀ L s.heap news) (hs : ∀ p ∈ ks, p ∈ news) {g : Obj → List (Addr × Obj)} (U : UpdF d o news g) (hd : MdDict w ks mem o) (hk : KeyIn ks k key) (hl : (look mem k).isSome = false) (hz : mem.length ≤ 100) {i : Int} {t : Tok} {Q : Unit → Shared → Prop}
    (h : ∀ h' o' tk, Fr h₀ L h' m → News h₀ L h' (g o') → MdDict w ks (mem ++ [(k, i)]) o' → Q () { s with heap := h', toks := tk }) : wpAny (model prog w) A (setItem (.ref d) key (.int i t)) Q E s :=
  md_set hu F N hs U hd hk (by simpa using hl) (Nat.le_trans hz (by decide)) h
end
/-- the module is a text that does not go on from c -/
def passes (md : Md) (c : Str) : Prop := match md with | .s y => Txt.startswith y (c ++ Str.ofString ".") = false | _ => False
section
variable {lm : List (Str × Tok)} {md : Md} {p : Pth} {ds : List Str}
theorem alone_on (h : onList lm md = true) : aloneN md p (lm.map (·.1)) ds = .i 1 := by
  cases md with
  | s y => exact if_pos (Or.inl (by simpa [onList] using h))
  | n y => cases h
  | b y => cases h
  | t y => cases h
theorem alone_goes {y c : Str} {tc : Tok} (hc : (c, tc) ∈ lm) (h : Txt.startswith y (c ++ Str.ofString ".") = true) : aloneN (.s y) p (lm.map (·.1)) ds = .i 1 := by
  exact if_pos (Or.inr (List.any_eq_true.mpr ⟨c, List.mem_map.mpr ⟨_, hc, rfl⟩, h⟩))
theorem alone_path (h : onList lm md = false) (hg : ∀ q ∈ lm, passes md q.1) : aloneN md p (lm.map (·.1)) ds = pathAns p ds := by
  have hnil : (∀ c, ¬ passes md c) → lm.map (·.1) = [] := fun hn => by
    cases lm with
    | nil => rfl
    | cons q r => exact absurd (hg q (.head _)) (hn _)
  cases md with
  | s y =>
    unfold aloneN
    refine if_neg ?_
    rintro (h1 | h1)
    · simp only [onList, decide_eq_false_iff_not] at h
      exact h h1
    · obtain ⟨c, hc, h2⟩ := List.any_eq_true.mp h1
      obtain ⟨q, hq, rfl⟩ := List.mem_map.mp hc
      have h3 : Txt.startswith y (q.1 ++ Str.ofString ".") = false := hg q hq
      rw [h3] at h2; cases h2
  | n y => unfold aloneN; exact if_pos (hnil fun _ h => h)
  | b y => unfold aloneN; exact if_pos (hnil fun _ h => h)
  | t y => unfold aloneN; exact if_pos (hnil fun _ h => h)
theorem alone_fault {q : Str × Tok} (hq : q ∈ lm) (h : ∀ y, md ≠ .s y) : aloneN md p (lm.map (·.1)) ds = .e (faultM md) := by
  have hne : lm.map (·.1) ≠ [] := fun e => by
    rw [List.map_eq_nil_iff] at e
    subst e; cases hq
  cases md with
  | s y => exact absurd rfl (h y)
  | n y => unfold aloneN; exact if_neg hne
  | b y => unfold aloneN; exact if_neg hne
  | t y => unfold aloneN; exact if_neg hne
theorem said_new {mem : Mem} {ms : List Str} (h : look mem md = none) : saidA mem md p ms ds = aloneN md p ms ds ∧ saidM mem md p ms ds = keepAns mem md (aloneN md p ms ds) := by
  unfold saidA saidM; rw [h]; exact ⟨rfl, rfl⟩
end
section
variable {prog : Program} {w : World} {A : Around} {E : Value → Shared → Prop} {s : Shared} {h₀ : Heap} {L : Addr} {news : List (Addr × Obj)}
theorem starts_tupleN {a : Addr} {x : Str} {u : Tok} {k : Nat} {pl : Sem Bool} {Q : Value × List Value → Shared → Prop} (N : News h₀ L s.heap news) (hm : (a, tupO x u k) ∈ news) (hA : A.handled = none)
    (h : ∀ h' tk e, Heap.NewExcOf s.heap h' e "AttributeError" → E (.ref e) { s with heap := h', toks := tk }) :
    wpAny (model prog w) A (getMethod (.ref a) (Str.ofString "startswith") pl) Q E s := starts_tuple (N _ hm).1 hA h
end
theorem path_int {i : Int} {ds : List Str} (h : ds = []) : pathAns (.n i) ds = .i 0 := by subst h; rfl
theorem path_bytes {b : Array UInt8} {ds : List Str} (h : ds = []) : pathAns (.b b) ds = .i 0 := by subst h; rfl
theorem path_intF {i : Int} {ds : List Str} (h : ds ≠ []) : pathAns (.n i) ds = .e faultA := if_neg h
theorem path_bytesF {b : Array UInt8} {ds : List Str} (h : ds ≠ []) : pathAns (.b b) ds = .e faultT := if_neg h
theorem path_yes {y c : Str} {l : List (Str × Tok)} {i : Nat} {tc : Tok} (hc : l[i]? = some (c, tc)) (h : Txt.startswith y (c ++ Str.ofString "/") = true) : pathAns (.s y) (l.map (·.1)) = .i 1 :=
  if_pos (List.any_eq_true.mpr ⟨c, List.mem_map.mpr ⟨_, List.mem_of_getElem? hc, rfl⟩, h⟩)
theorem path_no {y : Str} {l : List (Str × Tok)} (h : ∀ j, j < (strValues l).length → ∀ q, l[j]? = some q → Txt.startswith y (q.1 ++ Str.ofString "/") = false) : pathAns (.s y) (l.map (·.1)) = .i 0 := by
  refine if_neg fun e => ?_
  obtain ⟨d, hd, hs⟩ := List.any_eq_true.mp e
  obtain ⟨q, hq, rfl⟩ := List.mem_map.mp hd
  obtain ⟨j, hj, rfl⟩ := List.mem_iff_getElem.mp hq
  rw [h j (by rw [strValues_len]; exact hj) _ (by simp [hj])] at hs
  cases hs
theorem map_ne {l : List (Str × Tok)} {i : Nat} (h : i < (strValues l).length) : l.map (·.1) ≠ [] := fun e => by
  rw [List.map_eq_nil_iff] at e
  subst e; exact absurd h (Nat.not_lt_zero _)
theorem map_nil {l : List (Str × Tok)} (h : (strValues l).length = 0) : l.map (·.1) = [] := by
  rw [strValues_len] at h
  rw [List.eq_nil_of_length_eq_zero h]; rfl
local macro_rules | `(tactic| k_room) => `(tactic| ktr_room)
local macro_rules | `(tactic| walk_at $s:str) => if ["compareOp In", "subscriptTail", "setItem ref int", "setItem ref str", "exec For Name Attribute cons nil", "pyIter ref"].contains s.getString then `(tactic| (refine of_stop ?_)) else Lean.Macro.throwUnsupported
local macro_rules | `(tactic| walk_at "getMethod int") => `(tactic| (k_here; k_dflt (refine' starts_int ?a ?_; (case a => exact rfl); k_whole; intro h' tk' e' x')))
local macro_rules | `(tactic| walk_at "getMethod bytes") => `(tactic| (k_here; k_dflt (refine' starts_bytes ?_; k_whole)))
local macro_rules | `(tactic| walk_at "call builtin:bytes.startswith") => `(tactic| (k_here; k_dflt (refine' bytes_starts_str ?a ?_; (case a => exact rfl); k_whole; intro h' tk' e' x')))
local macro_rules | `(tactic| walk_at "getMethod ref") => `(tactic| (k_here; (with_reducible show wpAny _ _ (getMethod (Value.ref _) (Str.ofString "startswith") _) _ _ _); k_dflt (refine' starts_tupleN (x := _) (u := _) (k := _) ?N ?m ?a ?_; (case a => exact rfl); (case N => k_asm); (case m => (repeat (first | assumption | apply List.Mem.tail))); k_whole; intro h' tk' e' x')))
local macro_rules | `(tactic| walk_at "leaving ref") => `(tactic| (k_here; (refine' leave_newO ?k1 ?k0 ?k2 ?k3 ?_; (case k0 => assumption); (case k2 => assumption); (case k1 => assumption); (case k3 => k_asm); k_whole; intro h' S' R' U'; (try dsimp only at S' R' U' ⊢))))
theorem said_spec : ∀ (w : World) (ks rest : List (Addr × Obj)) (dG x dI dM aD : Addr) (oM o : Obj) (t1 t2 t3 : Tok) (n : Nat) (lm l : List (Str × Tok)) (mem : Mem) (md : Md) (p : Pth) (mv pv : Value),
    MdDict w ks mem o → (∀ q ∈ ks, q ∈ rest) → StrSetObj w (ledOf w) lm oM → lm.length ≤ 3 → (∀ q ∈ lm, q.2 ≠ 0 ∧ q.1.length ≤ 100) → (∀ q ∈ l, q.1.length ≤ 100) → l.length ≤ 3 → KeyIn ks md mv → PathIs p pv → (∀ y, md = .s y → y.length ≤ 100) → (∀ y, p = .s y → y.length ≤ 100) → mem.length ≤ 100 →
    (dG == sysModules) = false → (∀ q ∈ (x, instObj 79 dI) :: (dI, igD w t1 t2 t3 n dM aD dG) :: (dM, oM) :: (aD, LCg.lst (strValues l)) :: rest, q.1 ≠ dG) →
    SpecS 4 102 w [.ref x, mv, pv] ((dG, o) :: (x, instObj 79 dI) :: (dI, igD w t1 t2 t3 n dM aD dG) :: (dM, oM) :: (aD, LCg.lst (strValues l)) :: rest)
      (fun v news' => ∃ o', AnsIs (saidA mem md p (lm.map (·.1)) (l.map (·.1))) v ∧ MdDict w ks (saidM mem md p (lm.map (·.1)) (l.map (·.1))) o' ∧ news' = (dG, o') :: (x, instObj 79 dI) :: (dI, igD w t1 t2 t3 n dM aD dG) :: (dM, oM) :: (aD, LCg.lst (strValues l)) :: rest) := by
  unfold SpecS
  k_fill
  intro w ks rest dG x dI dM aD oM o t1 t2 t3 n lm l mem md p mv pv hdict hks hset hlm3 hlm hl hl3 hkey hpath hmdl hpl hmem hgs hne mean mg mb dp un gd cn cs a ccd cl A₀ base h₀ L m s Q E B F X N T XB TB hk hd1 hu1 hret
  unfold igD at N hne hret
  refine wpAny_call ?_
  k_dflt (refine' call_catcher ?k1 ?k2 ?k3 ?k4 ?k5 ?kA ?k6 ?k7 ?k8 ?k9 ?kB ?_ ?cK ?c2 ?c3 ?c4 ?c5; (case kA => exact rfl); (case k2 => k_asm); (case k1 => k_asm); (case k3 => k_asm); (case k4 => k_asm); (case k5 => k_asm); (case k6 => k_is); (case k7 => k_is); (case k8 => ktr_room); (case k9 => exact BindsTo.of_eq rfl); (case kB => exact locs rfl); (case cK => assumption); (case c2 => exact rfl); (case c3 => exact rfl); (case c4 => exact rfl); (case c5 => decide); k_whole; intro g' L' h' FG' F' N' B' X' T' D'; (try dsimp only); (try k_lift B'); (try k_fold))
  k_steps
  (rename News _ _ _ _ => kN)
  have hs0 : ∀ q ∈ ks, q ∈ (dG, o) :: (x, instObj 79 dI) :: (dI, igD w t1 t2 t3 n dM aD dG) :: (dM, oM) :: (aD, LCg.lst (strValues l)) :: rest := fun q hq => .tail _ (.tail _ (.tail _ (.tail _ (.tail _ (hks q hq)))))
  refine to_stop (md_in (by ktr_units) kN hs0 (.head _) hdict hkey hgs fun tk9 => ?_)
  k_steps
  · refine to_stop (md_itemS (by ktr_units) kN hs0 (.head _) hdict hkey (by assumption) (fun i9 t9 tk9 hi9 => ?_) (by with_unfolding_all rfl))
    k_steps
    exact hret _ _ _ _ _ (by assumption) (by assumption) ⟨o, by unfold saidA; rw [hi9]; exact ⟨_, rfl⟩, by unfold saidM; rw [hi9]; exact hdict, rfl⟩
  · have hno : look mem md = none := by simpa using (by assumption : (look mem md).isSome = false)
    (rename News _ _ _ _ => kN)
    refine to_stop (set_inK (by ktr_units) kN hs0 (.tail _ (.tail _ (.tail _ (.head _)))) hset hlm3 hlm hkey fun b9 tk9 hb9 => ?_)
    k_steps
    · refine to_stop (md_setS (by ktr_units) (by assumption) kN hs0 (UpdF.head hne) hdict hkey (by assumption) hmem fun h8 o8 tk8 F8 N8 hd8 => ?_)
      k_steps
      have ha := (alone_on (hb9.trans (by assumption)) : aloneN md p (lm.map (·.1)) (l.map (·.1)) = _)
      have hsn := said_new (p := p) (ms := lm.map (·.1)) (ds := l.map (·.1)) hno
      refine hret _ _ _ _ _ (by assumption) (by assumption) ⟨o8, ?_, ?_, rfl⟩
      · rw [hsn.1, ha]; exact ⟨_, rfl⟩
      · rw [hsn.2, ha]; exact hd8
    · refine to_stop ?_
      refine wpAny_For ?_ (by intro _; rfl)
      k_steps
      (rename Fr _ _ _ _ => kF)
      (rename News _ _ _ _ => kN)
      refine to_stop (for_set (fun q => passes md q.1) rfl (.tail _ (.tail _ (.tail _ (.head _)))) hset hlm3 kF kN ?hE ?turn ?done)
      case hE => first | passes_own | with_unfolding_all passes_own
      case turn =>
        intro c tc u h tk dr T I oT oI hin hI hT F' N'
        clear kF kN
        have hcl : c.length ≤ 100 := (hlm _ hin).2
        cases md with
        | s y =>
          obtain ⟨ty, rfl⟩ := id hkey
          have hyl := hmdl y rfl
          k_steps
          · (rename News _ _ _ _ => kN)
            have ha := (alone_goes hin (by assumption) : aloneN (.s y) p (lm.map (·.1)) (l.map (·.1)) = _)
            have hsn := said_new (p := p) (ms := lm.map (·.1)) (ds := l.map (·.1)) hno
            refine to_stop (md_setS (by ktr_units) (by assumption) kN (sub_tail (sub_tail hs0)) (UpdF.tail ?a1 (UpdF.tail ?a2 (UpdF.head hne))) hdict hkey (by assumption) hmem fun h8 o8 tk8 F8 N8 hd8 => ?_)
            case a1 => exact Ne.symm (Nat.ne_of_lt (hI _ (.head _)))
            case a2 => exact Ne.symm (hT _ (.head _) (Ne.symm (hne _ (.tail _ (.tail _ (.head _))))))
            dsimp only [SetPost]
            k_steps
            refine hret _ _ _ _ _ (by assumption) (cb_drop (by assumption) (fun p hp => .tail _ (.tail _ hp))) ⟨o8, ?_, ?_, rfl⟩
            · rw [hsn.1, ha]; exact ⟨_, rfl⟩
            · rw [hsn.2, ha]; exact hd8
          · exact SetPost.of (.inl rfl) (by assumption) (by assumption) (fun p hp => hp) (fun y hy => by simp only [if_neg hy]) (by assumption)
        | n y =>
          obtain ⟨ty, rfl⟩ := id hkey
          have ha := (alone_fault hin (fun _ => nofun) : aloneN (.n y) p (lm.map (·.1)) (l.map (·.1)) = _)
          have hsn := said_new (p := p) (ms := lm.map (·.1)) (ds := l.map (·.1)) hno
          k_steps
          refine hret _ _ _ _ _ (by assumption) (cb_drop (by assumption) (fun p hp => .tail _ (.tail _ hp))) ⟨o, ?_, ?_, rfl⟩
          · rw [hsn.1, ha]; exact ⟨_, rfl⟩
          · rw [hsn.2, ha]; exact hdict
        | b y =>
          obtain ⟨ty, rfl⟩ := id hkey
          have ha := (alone_fault hin (fun _ => nofun) : aloneN (.b y) p (lm.map (·.1)) (l.map (·.1)) = _)
          have hsn := said_new (p := p) (ms := lm.map (·.1)) (ds := l.map (·.1)) hno
          k_steps
          refine hret _ _ _ _ _ (by assumption) (cb_drop (by assumption) (fun p hp => .tail _ (.tail _ hp))) ⟨o, ?_, ?_, rfl⟩
          · rw [hsn.1, ha]; exact ⟨_, rfl⟩
          · rw [hsn.2, ha]; exact hdict
        | t y =>
          obtain ⟨T2, ty, ny, rfl, hty⟩ := id hkey
          have hty2 := hks _ hty
          have ha := (alone_fault hin (fun _ => nofun) : aloneN (.t y) p (lm.map (·.1)) (l.map (·.1)) = _)
          have hsn := said_new (p := p) (ms := lm.map (·.1)) (ds := l.map (·.1)) hno
          k_steps
          refine hret _ _ _ _ _ (by assumption) (cb_drop (by assumption) (fun p hp => .tail _ (.tail _ hp))) ⟨o, ?_, ?_, rfl⟩
          · rw [hsn.1, ha]; exact ⟨_, rfl⟩
          · rw [hsn.2, ha]; exact hdict
      case done =>
        intro u h tk dr hg F' N'
        clear kF kN
        have hap := (alone_path (hb9.trans (by assumption)) hg : aloneN md p (lm.map (·.1)) (l.map (·.1)) = _)
        have hsn := said_new (p := p) (ms := lm.map (·.1)) (ds := l.map (·.1)) hno
        cases p with
        | none =>
          obtain rfl := hpath
          have ha : pathAns .none (l.map (·.1)) = .i 1 := rfl
          k_steps
          (rename News _ _ _ _ => kN)
          refine to_stop (md_setS (by ktr_units) (by assumption) kN hs0 (UpdF.head hne) hdict hkey (by assumption) hmem fun h8 o8 tk8 F8 N8 hd8 => ?_)
          k_steps
          refine hret _ _ _ _ _ (by assumption) (by assumption) ⟨o8, ?_, ?_, rfl⟩
          · rw [hsn.1, hap, ha]; exact ⟨_, rfl⟩
          · rw [hsn.2, hap, ha]; exact hd8
        | s y =>
          obtain ⟨tp, rfl⟩ := hpath
          have hyl := hpl y rfl
          k_steps
          refine to_stop ?_
          refine wpAny_For ?_ (by intro _; rfl)
          k_steps
          (rename Fr _ _ _ _ => kF)
          (rename News _ _ _ _ => kN)
          refine to_stop (for_items (σ := Unit) (vs := strValues l) (fun _ => _) (fun _ => []) (fun i _ => ∀ j, j < i → ∀ q, l[j]? = some q → Txt.startswith y (q.1 ++ Str.ofString "/") = false) () rfl (fun _ => .tail _ (.tail _ (.tail _ (.tail _ (.head _))))) (fun _ _ => rfl) kF kN (fun p hp => hp) (fun p hp => nomatch hp) ?h0 ?hE ?turn ?done)
          case hE => first | passes_own | with_unfolding_all passes_own
          case h0 => exact fun j hj => absurd hj (Nat.not_lt_zero _)
          case turn =>
            intro i v c u h tk I io hv hP hI hlt F' N'
            dsimp only at hI F' N'
            obtain ⟨c, tc, hc, rfl⟩ : ∃ c tc, l[i]? = some (c, tc) ∧ v = .str c tc := by
              simp only [strValues, List.getElem?_map] at hv
              cases hq : l[i]? with
              | none => rw [hq] at hv; cases hv
              | some q => rw [hq] at hv; exact ⟨q.1, q.2, rfl, (Option.some.inj hv).symm⟩
            have hcl := hl _ (List.mem_of_getElem? hc)
            dsimp only at hcl
            clear kF kN
            k_steps
            · have ha := path_yes hc (by assumption)
              (rename News _ _ _ _ => kN)
              refine to_stop (md_setS (by ktr_units) (by assumption) kN (sub_tail hs0) (UpdF.tail (Ne.symm (hI _ (.head _))) (UpdF.head hne)) hdict hkey (by assumption) hmem fun h8 o8 tk8 F8 N8 hd8 => ?_)
              dsimp only [ItemsPost]
              k_steps
              refine hret _ _ _ _ _ (by assumption) (cb_drop (by assumption) (fun p hp => .tail _ hp)) ⟨o8, ?_, ?_, rfl⟩
              · rw [hsn.1, hap, ha]; exact ⟨_, rfl⟩
              · rw [hsn.2, hap, ha]; exact hd8
            · refine ItemsPost.of () (.inl rfl) (by assumption) (by assumption) (fun p hp => hp) (fun p hp => nomatch hp) (fun y hy _ => by simp only [if_neg hy, kstB]) ?_
              intro j hj q hq
              rcases Nat.lt_succ_iff_lt_or_eq.mp hj with hj | rfl
              · exact hP j hj q hq
              · obtain rfl := Option.some.inj (hc.symm.trans hq)
                assumption
          case done =>
            intro c u h tk hP F' N'
            clear kF kN
            have ha := path_no hP
            k_steps
            (rename News _ _ _ _ => kN)
            refine to_stop (md_setS (by ktr_units) (by assumption) kN hs0 (UpdF.head hne) hdict hkey (by assumption) hmem fun h8 o8 tk8 F8 N8 hd8 => ?_)
            k_steps
            refine hret _ _ _ _ _ (by assumption) (by assumption) ⟨o8, ?_, ?_, rfl⟩
            · rw [hsn.1, hap, ha]; exact ⟨_, rfl⟩
            · rw [hsn.2, hap, ha]; exact hd8
        | n y =>
          obtain ⟨tp, rfl⟩ := hpath
          k_steps
          refine to_stop ?_
          refine wpAny_For ?_ (by intro _; rfl)
          k_steps
          (rename Fr _ _ _ _ => kF)
          (rename News _ _ _ _ => kN)
          refine to_stop (for_items (σ := Unit) (vs := strValues l) (fun _ => _) (fun _ => []) (fun i _ => i = 0) () rfl (fun _ => .tail _ (.tail _ (.tail _ (.tail _ (.head _))))) (fun _ _ => rfl) kF kN (fun p hp => hp) (fun p hp => nomatch hp) ?h0 ?hE ?turn ?done)
          case hE => first | passes_own | with_unfolding_all passes_own
          case h0 => exact rfl
          case turn =>
            intro i v c u h tk I io hv hP hI hlt F' N'
            dsimp only at hI F' N'
            obtain ⟨c, tc, hc, rfl⟩ : ∃ c tc, l[i]? = some (c, tc) ∧ v = .str c tc := by
              simp only [strValues, List.getElem?_map] at hv
              cases hq : l[i]? with
              | none => rw [hq] at hv; cases hv
              | some q => rw [hq] at hv; exact ⟨q.1, q.2, rfl, (Option.some.inj hv).symm⟩
            have hcl := hl _ (List.mem_of_getElem? hc)
            dsimp only at hcl
            clear kF kN
            have ha := path_intF (i := y) (map_ne hlt)
            k_steps
            refine hret _ _ _ _ _ (by assumption) (cb_drop (by assumption) (fun p hp => .tail _ hp)) ⟨o, ?_, ?_, rfl⟩
            · rw [hsn.1, hap, ha]; exact ⟨_, rfl⟩
            · rw [hsn.2, hap, ha]; exact hdict
          case done =>
            intro c u h tk hP F' N'
            clear kF kN
            have ha := path_int (i := y) (map_nil hP)
            k_steps
            (rename News _ _ _ _ => kN)
            refine to_stop (md_setS (by ktr_units) (by assumption) kN hs0 (UpdF.head hne) hdict hkey (by assumption) hmem fun h8 o8 tk8 F8 N8 hd8 => ?_)
            k_steps
            refine hret _ _ _ _ _ (by assumption) (by assumption) ⟨o8, ?_, ?_, rfl⟩
            · rw [hsn.1, hap, ha]; exact ⟨_, rfl⟩
            · rw [hsn.2, hap, ha]; exact hd8
        | b y =>
          obtain ⟨tp, rfl⟩ := hpath
          k_steps
          refine to_stop ?_
          refine wpAny_For ?_ (by intro _; rfl)
          k_steps
          (rename Fr _ _ _ _ => kF)
          (rename News _ _ _ _ => kN)
          refine to_stop (for_items (σ := Unit) (vs := strValues l) (fun _ => _) (fun _ => []) (fun i _ => i = 0) () rfl (fun _ => .tail _ (.tail _ (.tail _ (.tail _ (.head _))))) (fun _ _ => rfl) kF kN (fun p hp => hp) (fun p hp => nomatch hp) ?h0 ?hE ?turn ?done)
          case hE => first | passes_own | with_unfolding_all passes_own
          case h0 => exact rfl
          case turn =>
            intro i v c u h tk I io hv hP hI hlt F' N'
            dsimp only at hI F' N'
            obtain ⟨c, tc, hc, rfl⟩ : ∃ c tc, l[i]? = some (c, tc) ∧ v = .str c tc := by
              simp only [strValues, List.getElem?_map] at hv
              cases hq : l[i]? with
              | none => rw [hq] at hv; cases hv
              | some q => rw [hq] at hv; exact ⟨q.1, q.2, rfl, (Option.some.inj hv).symm⟩
            have hcl := hl _ (List.mem_of_getElem? hc)
            dsimp only at hcl
            clear kF kN
            have ha := path_bytesF (b := y) (map_ne hlt)
            k_steps
            refine hret _ _ _ _ _ (by assumption) (cb_drop (by assumption) (fun p hp => .tail _ hp)) ⟨o, ?_, ?_, rfl⟩
            · rw [hsn.1, hap, ha]; exact ⟨_, rfl⟩
            · rw [hsn.2, hap, ha]; exact hdict
          case done =>
            intro c u h tk hP F' N'
            clear kF kN
            have ha := path_bytes (b := y) (map_nil hP)
            k_steps
            (rename News _ _ _ _ => kN)
            refine to_stop (md_setS (by ktr_units) (by assumption) kN hs0 (UpdF.head hne) hdict hkey (by assumption) hmem fun h8 o8 tk8 F8 N8 hd8 => ?_)
            k_steps
            refine hret _ _ _ _ _ (by assumption) (by assumption) ⟨o8, ?_, ?_, rfl⟩
            · rw [hsn.1, hap, ha]; exact ⟨_, rfl⟩
            · rw [hsn.2, hap, ha]; exact hd8
end Mine
end PartU1c

section PartU1f
open PySem PySem.W PyProof.Rows PySem.Spec PySem.Calls
set_option Elab.async false
set_option maxRecDepth 100000
set_option linter.unusedVariables false
namespace Mine
theorem freshU1f : True ∧ True := by
  w_top off
  first | (walk1; all_goals trivial) | exact ⟨trivial, trivial⟩
def Md.isS : Md → Bool | .s _ => true | _ => false
def Md.isB : Md → Bool | .b _ => true | _ => false
def Pth.isS : Pth → Bool | .s _ => true | _ => false
def Pth.isB : Pth → Bool | .b _ => true | _ => false
def Pth.isN : Pth → Bool | .none => true | _ => false
section
variable {prog : Program} {w : World} {A : Around} {E : Value → Shared → Prop} {s : Shared} {h₀ : Heap} {L : Addr} {ks news : List (Addr × Obj)} {md : Md} {p : Pth} {v : Value} {Q : Value → Shared → Prop}
theorem bytes_isnt_str {b : Array UInt8} {t : Tok} (h : ∀ tk, Q (.bool false) { s with toks := tk }) : wpAny (model prog w) A (call (.builtin "isinstance") [.bytes b t, .type "str"]) Q E s := by
  obtain ⟨hh, g, d, tk, os⟩ := s
  exact call_isinstance_of (isinstance_nested_false_bytes (by decide +kernel) meta_str PySem.F.sub_bytes_str (h _)) (by intro e; cases e)
theorem isi_md_str (N : News h₀ L s.heap news) (hs : ∀ q ∈ ks, q ∈ news) (hk : KeyIn ks md v) (h : ∀ tk, Q (.bool md.isS) { s with toks := tk }) : wpAny (model prog w) A (call (.builtin "isinstance") [v, .type "str"]) Q E s := by
  cases md with
  | s y => obtain ⟨t, rfl⟩ := hk; exact call_isinstance_yes (typeIs_str _ _ _) meta_str sub_str_str (h s.toks)
  | n y => obtain ⟨t, rfl⟩ := hk; exact IsiPair.int_str (h _)
  | b y => obtain ⟨t, rfl⟩ := hk; exact bytes_isnt_str h
  | t y => obtain ⟨T, u, k, rfl, hm⟩ := hk; exact IsiPair.tuple_str (N _ (hs _ hm)).1 rfl (h _)
theorem isi_md_bytes (N : News h₀ L s.heap news) (hs : ∀ q ∈ ks, q ∈ news) (hk : KeyIn ks md v) (hn : md.isS = false) (h : ∀ tk, Q (.bool md.isB) { s with toks := tk }) : wpAny (model prog w) A (call (.builtin "isinstance") [v, .type "bytes"]) Q E s := by
  cases md with
  | s y => cases hn
  | n y => obtain ⟨t, rfl⟩ := hk; exact IsiPair.int_bytes (h _)
  | b y => obtain ⟨t, rfl⟩ := hk; exact call_isinstance_yes (typeIs_bytes _ _ _) meta_bytes F.isi_self_bytes (h s.toks)
  | t y => obtain ⟨T, u, k, rfl, hm⟩ := hk; exact IsiPair.tuple_bytes (N _ (hs _ hm)).1 rfl (h _)
theorem isi_p_str (hp : PathIs p v) (h : ∀ tk, Q (.bool p.isS) { s with toks := tk }) : wpAny (model prog w) A (call (.builtin "isinstance") [v, .type "str"]) Q E s := by
  cases p with
  | none => obtain rfl := hp; exact IsiPair.NoneType_str (h _)
  | s y => obtain ⟨t, rfl⟩ := hp; exact call_isinstance_yes (typeIs_str _ _ _) meta_str sub_str_str (h s.toks)
  | n y => obtain ⟨t, rfl⟩ := hp; exact IsiPair.int_str (h _)
  | b y => obtain ⟨t, rfl⟩ := hp; exact bytes_isnt_str h
theorem isi_p_bytes (hp : PathIs p v) (hn : p.isS = false) (h0 : p.isN = false) (h : ∀ tk, Q (.bool p.isB) { s with toks := tk }) : wpAny (model prog w) A (call (.builtin "isinstance") [v, .type "bytes"]) Q E s := by
  cases p with
  | none => cases h0
  | s y => cases hn
  | n y => obtain ⟨t, rfl⟩ := hp; exact IsiPair.int_bytes (h _)
  | b y => obtain ⟨t, rfl⟩ := hp; exact call_isinstance_yes (typeIs_bytes _ _ _) meta_bytes F.isi_self_bytes (h s.toks)
theorem is_none_p (hp : PathIs p v) (h : ∀ b, p.isN = b → Q (.bool b) s) : wpAny (model prog w) A (compareOp .Is v .none) Q E s := by
  cases p with
  | none => obtain rfl := hp; exact wpAny_of_eq rfl (h true rfl)
  | s y => obtain ⟨t, rfl⟩ := hp; exact wpAny_of_eq rfl (h false rfl)
  | n y => obtain ⟨t, rfl⟩ := hp; exact wpAny_of_eq rfl (h false rfl)
  | b y => obtain ⟨t, rfl⟩ := hp; exact wpAny_of_eq rfl (h false rfl)
end
def pathL (p : Pth) (ds : List Str) : Ans :=
  match p with
  | .none => .i 1
  | .s y => if ds.any (fun one => Txt.slice y none (some ((one.length : Int) + 1)) == one ++ Str.ofString "/") = true then .i 1 else .i 0
  | p => if ds = [] then .i 0 else .e (faultP p)
def goesL (x : Str) (ms : List Str) : Bool := ms.any fun one => Txt.slice (x ++ Str.ofString ".") none (some ((one.length : Int) + 1)) == one ++ Str.ofString "."
def aloneL (md : Md) (p : Pth) (ms ds : List Str) : Ans :=
  match md with
  | .s x => if x = Str.ofString "<string>" ∨ goesL x ms = true then .i 1 else pathL p ds
  | md => if ms = [] then pathL p ds else .e (faultM md)
section
variable {md : Md} {p : Pth} {ms ds : List Str}
theorem fault_m (h : md.isS = false) : faultM md = if md.isB = true then faultT else faultA := by cases md <;> first | rfl | cases h
theorem fault_p (h : p.isS = false) (h0 : p.isN = false) : faultP p = if p.isB = true then faultT else faultA := by cases p <;> first | rfl | cases h | cases h0
theorem alone_other (h : md.isS = false) : aloneL md p ms ds = if ms = [] then pathL p ds else .e (faultM md) := by cases md <;> first | rfl | cases h
theorem path_other (h : p.isS = false) (h0 : p.isN = false) : pathL p ds = if ds = [] then .i 0 else .e (faultP p) := by
  cases p with
  | none => cases h0
  | s y => cases h
  | n y => rfl
  | b y => rfl
theorem path_nothing (h0 : p.isN = true) : pathL p ds = .i 1 := by cases p <;> first | rfl | cases h0
end
end Mine
end PartU1f

section PartU1g
open PySem PySem.W PyProof.Rows PySem.Spec PySem.Calls
set_option Elab.async false
set_option maxRecDepth 100000
set_option maxHeartbeats 1500000
set_option linter.unusedVariables false
set_option compiler.extract_closed false
namespace Mine
theorem freshU1g : True ∧ True := by
  w_top off
  first | (walk1; all_goals trivial) | exact ⟨trivial, trivial⟩
theorem strs_eq_nil {prog : Program} {w : World} {A : Around} {E : Value → Shared → Prop} {s : Shared} {h₀ : Heap} {L a b : Addr} {news : List (Addr × Obj)} {l : List (Str × Tok)} {n n2 : Nat} {its : Array Value} {Q : Value → Shared → Prop} (N : News h₀ L s.heap news) (ha : (a, listOf (strValues l).toArray n) ∈ news) (hb : (b, listOf its n2) ∈ news) (hi : its = #[]) (hu : A.units + 8 < cLine)
    (h : Q (.bool (decide (l = []))) s) : wpAny (model prog w) A (compareOp .Eq (.ref a) (.ref b)) Q E s := by
  subst hi
  cases l with
  | nil => exact SeqAt.eq_listAt (items := #[]) (items2 := #[]) (e := fun _ => true) (News.isList N ha) (News.isList N hb) rfl (by omega) (fun j h1 _ => absurd h1 (Nat.not_lt_zero _)) (by simpa using h)
  | cons p l => exact SeqAt.eq_list_lengthsAt (News.isList N ha) (News.isList N hb) (by simp [strValues]) (by omega) (by simpa using h)
theorem ne_true {b : Bool} (h : b = false) : ¬ b = true := by rw [h]; exact Bool.false_ne_true
theorem map_is_nil {l : List (Str × Tok)} : l.map (·.1) = [] ↔ l = [] := List.map_eq_nil_iff
theorem isS_of {md : Md} (h : md.isS = true) : ∃ y, md = .s y := by cases md <;> first | exact ⟨_, rfl⟩ | cases h
theorem pS_of {p : Pth} (h : p.isS = true) : ∃ y, p = .s y := by cases p <;> first | exact ⟨_, rfl⟩ | cases h
local macro_rules | `(tactic| k_room) => `(tactic| ktr_room)
local macro_rules | `(tactic| walk_at "CompSrcT") => `(tactic| (k_here; (refine of_stop ?_)))
local macro_rules | `(tactic| walk_at "call builtin:isinstance") => `(tactic| (refine of_stop ?_))
local macro_rules | `(tactic| walk_at "compareOp Is none") => `(tactic| (refine of_stop ?_))
local macro_rules | `(tactic| walk_at "compareOp NotEq ref ref") => `(tactic| (k_here; (with_reducible show wpAny _ _ (compareOp CmpOp.NotEq (Value.ref _) (Value.ref _)) _ _ _); k_dflt (refine' strs_ne_nil ?N ?a ?b ?i ?u ?_; (case N => k_asm); (case a => (repeat (first | assumption | exact List.Mem.head _ | apply List.Mem.tail))); (case b => k_mem); (case i => exact rfl); (case u => ktr_units); k_whole)))
local macro_rules | `(tactic| walk_at "compareOp Eq ref ref") => `(tactic| (k_here; (with_reducible show wpAny _ _ (compareOp CmpOp.Eq (Value.ref _) (Value.ref _)) _ _ _); k_dflt (refine' strs_eq_nil ?N ?a ?b ?i ?u ?_; (case N => k_asm); (case a => (repeat (first | assumption | exact List.Mem.head _ | apply List.Mem.tail))); (case b => k_mem); (case i => exact rfl); (case u => ktr_units); k_whole)))
def AtIfG : Prop := True
local macro_rules | `(tactic| walk_at "exec If") => `(tactic| ((rename AtIfG => zmark); (refine of_stop ?_)))
def AloneCut (h₀ : Heap) (L : Addr) (m : Str → Option Value) (news : List (Addr × Obj)) (P : Prop) (R : Value → Prop) (s : Shared) (fl : Flow) (s' : Shared) : Prop :=
  ∃ h' tk, s' = { s with heap := h', toks := tk } ∧ Fr h₀ L h' m ∧ News h₀ L h' news ∧ ((fl = .next ∧ P) ∨ ∃ v, fl = .ret v ∧ R v)
theorem cut_if {M : Model} {A : Around} {e : Sem Flow} {Q : Flow → Shared → Prop} {E : Value → Shared → Prop} {s : Shared} {h₀ : Heap} {L : Addr} {m : Str → Option Value} {news : List (Addr × Obj)} (P : Prop) (R : Value → Prop)
    (F : Fr h₀ L s.heap m) (N : News h₀ L s.heap news) (one : wpAny M A e (AloneCut h₀ L m news P R s) E s)
    (next : ∀ h' tk, Fr h₀ L h' m → News h₀ L h' news → P → Q .next { s with heap := h', toks := tk }) (ret : ∀ v h' tk, Fr h₀ L h' m → News h₀ L h' news → R v → Q (.ret v) { s with heap := h', toks := tk }) : wpAny M A e Q E s :=
  wpAny_mono one (fun _ _ hv => by
    obtain ⟨h', tk, rfl, a, b, c⟩ := hv
    rcases c with ⟨rfl, c⟩ | ⟨v, rfl, c⟩
    · exact next h' tk a b c
    · exact ret v h' tk a b c) fun _ _ x => x
theorem alone_spec : ∀ (w : World) (ks news : List (Addr × Obj)) (aN aP : Addr) (nN nP : Nat) (lm ld : List (Str × Tok)) (md : Md) (p : Pth) (mv pv : Value),
    (∀ q ∈ ks, q ∈ news) → (aN, listOf (strValues lm).toArray nN) ∈ news → (aP, listOf (strValues ld).toArray nP) ∈ news → lm.length ≤ 3 → ld.length ≤ 3 → (∀ q ∈ lm, q.1.length ≤ 100) → (∀ q ∈ ld, q.1.length ≤ 100) → KeyIn ks md mv → PathIs p pv → (∀ y, md = .s y → y.length ≤ 100) → (∀ y, p = .s y → y.length ≤ 100) →
    Spec2 3 95 w [mv, pv, .ref aN, .ref aP] news (fun v news' => AnsIs (aloneL md p (lm.map (·.1)) (ld.map (·.1))) v ∧ news' = news) := by
  unfold Spec2
  k_fill
  intro w ks news aN aP nN nP lm ld md p mv pv hks hN hP hlm3 hld3 hlm hld hkey hpath hmdl hpl mean mg mb dp un gd cn cs a ccd cl outer A₀ base h₀ L m s Q E B F X N T hk hd1 hu1 hret
  refine wpAny_call ?_
  k_dflt (refine' code_defC ?k1 ?k2 ?k3 ?k4 ?k5 ?kA ?kF ?kK ?k6 ?k7 ?k8 ?k9 ?kB ?kD ?_ ?c2 ?c3 ?c4; (case kA => exact rfl); (case kF => exact rfl); (case kK => assumption); (case k1 => k_asm); (case k2 => k_asm); (case k3 => k_asm); (case k4 => k_asm); (case k5 => k_asm); (case k6 => k_is); (case k7 => k_is); (case k8 => ktr_room); (case k9 => exact BindsTo.of_eq rfl); (case kB => exact rfl); (case kD => decide +kernel); (case c2 => exact rfl); (case c3 => exact rfl); (case c4 => exact rfl); k_whole; intro g' L' h' tk' cells' FG' F' N' Y' B' X' T' l1; (try k_lt l1); k_cells Y'; (try simp only [List.cons_append, List.nil_append] at N'); (try dsimp only); (try k_lift B'); (try k_fold))
  have hmk : AtIfG := trivial
  k_steps
  (rename Fr _ _ _ _ => kF)
  (rename News _ _ _ _ => kN)
  refine to_stop ?_
  refine' cut_if (aloneL md p (lm.map (·.1)) (ld.map (·.1)) = pathL p (ld.map (·.1))) (fun v => AnsIs (aloneL md p (lm.map (·.1)) (ld.map (·.1))) v) kF kN ?one ?next ?ret
  case one =>
    (rename AtIfG => zm); clear zm
    k_steps
    (rename News _ _ _ _ => kN1)
    refine to_stop (isi_md_str kN1 (by repeat (first | assumption | apply sub_tail)) hkey fun tk9 => ?_)
    k_steps
    · obtain ⟨y, rfl⟩ := isS_of (by assumption)
      obtain ⟨ty, rfl⟩ := id hkey
      have hyl := hmdl y rfl
      k_steps
      · have hy : y = Str.ofString "<string>" := beq_t (by assumption)
        have ha : aloneL (.s y) p (lm.map (·.1)) (ld.map (·.1)) = .i 1 := if_pos (Or.inl hy)
        exact ⟨_, _, rfl, by assumption, (by first | assumption | exact fun p hp => (by assumption : News _ _ _ _) p (.tail _ hp)), .inr ⟨_, rfl, by rw [ha]; exact ⟨_, rfl⟩⟩⟩
      · have hy : ¬ y = Str.ofString "<string>" := beq_f (by assumption)
        (rename Fr _ _ _ _ => kF2)
        (rename News _ _ _ _ => kN2)
        refine to_stop (src_pick (fun one => Txt.slice (y ++ Str.ofString ".") none (some ((one.length : Int) + 1)) == one ++ Str.ofString ".") rfl kF2 kN2 (by repeat (first | assumption | apply List.Mem.tail)) (by omega) ?test ?el ?fin)
        case test =>
          intro c t I3 oI C oC D m₂ ys h tk E' hz hC hx F' N' off ne
          have hcl : c.length ≤ 100 := hlm _ hz
          clear kF2 kN2
          k_steps
          exact TestPost.of (by assumption) (by assumption) (fun p hp => hp) (by first | rfl | exact cps_eq ▸ (by simp))
        case el =>
          intro c t I3 oI C oC D m₂ ys h tk E' hz hC hx F' N' off ne
          clear kF2 kN2
          k_steps
          exact ElPost.of (by assumption) (by assumption) (fun p hp => hp) ⟨_, _, rfl⟩
        case fin =>
          intro g6 l6 hl6 hany D6 h6 tk6 F6 N6 o6
          simp only [LCg.Off1] at o6
          clear kF2 kN2
          k_steps
          · have ha : aloneL (.s y) p (lm.map (·.1)) (ld.map (·.1)) = .i 1 := if_pos (Or.inr (hany.mp (by assumption)))
            (rename News _ _ _ _ => kN3)
            exact ⟨_, _, rfl, by assumption, cb_drop kN3 (fun q hq => by repeat (first | exact hq | apply List.Mem.tail)), .inr ⟨_, rfl, by rw [ha]; exact ⟨_, rfl⟩⟩⟩
          · have hap : aloneL (.s y) p (lm.map (·.1)) (ld.map (·.1)) = pathL p (ld.map (·.1)) := if_neg (not_or.mpr ⟨hy, fun e => absurd (hany.mpr e) (by assumption)⟩)
            (rename News _ _ _ _ => kN3)
            exact ⟨_, _, rfl, by assumption, cb_drop kN3 (fun q hq => by repeat (first | exact hq | apply List.Mem.tail)), .inl ⟨rfl, hap⟩⟩
    · (rename News _ _ _ _ => kN2)
      have ha := alone_other (p := p) (ms := lm.map (·.1)) (ds := ld.map (·.1)) (by assumption : md.isS = false)
      have he : ¬ lm.map (·.1) = [] := fun e => absurd (map_is_nil.mp e) (by assumption)
      have hf := fault_m (by assumption : md.isS = false)
      refine to_stop (isi_md_bytes kN2 (by repeat (first | assumption | apply sub_tail)) hkey (by assumption) fun tk9 => ?_)
      k_steps
      · (rename News _ _ _ _ => kN3)
        exact ⟨_, _, rfl, by assumption, cb_drop kN3 (fun q hq => by repeat (first | exact hq | apply List.Mem.tail)), .inr ⟨_, rfl, by rw [ha, if_neg he, hf, if_pos (by assumption)]; exact ⟨_, rfl⟩⟩⟩
      · (rename News _ _ _ _ => kN3)
        exact ⟨_, _, rfl, by assumption, cb_drop kN3 (fun q hq => by repeat (first | exact hq | apply List.Mem.tail)), .inr ⟨_, rfl, by rw [ha, if_neg he, hf, if_neg (ne_true (by assumption))]; exact ⟨_, rfl⟩⟩⟩
    · have ha := alone_other (p := p) (ms := lm.map (·.1)) (ds := ld.map (·.1)) (by assumption : md.isS = false)
      have he : lm.map (·.1) = [] := map_is_nil.mpr (Decidable.not_not.mp (by assumption))
      have hap : aloneL md p (lm.map (·.1)) (ld.map (·.1)) = pathL p (ld.map (·.1)) := by rw [ha, if_pos he]
      (rename News _ _ _ _ => kN3)
      exact ⟨_, _, rfl, by assumption, cb_drop kN3 (fun q hq => by repeat (first | exact hq | apply List.Mem.tail)), .inl ⟨rfl, hap⟩⟩
  case ret =>
    intro v h5 tk5 F5 N5 hv5
    (rename AtIfG => zm); clear zm
    clear kF kN
    k_steps
    refine hret _ _ _ _ (by assumption) (cb_drop (by assumption) (fun q hq => by repeat (first | exact hq | apply List.Mem.tail))) ⟨hv5, rfl⟩
  case next =>
    intro h5 tk5 F5 N5 hap
    (rename AtIfG => zm); clear zm
    clear kF kN
    k_steps
    (rename News _ _ _ _ => kN)
    refine to_stop (is_none_p hpath fun b9 hb9 => ?_)
    k_steps
    · have ha := path_nothing (ds := ld.map (·.1)) (hb9.trans (by assumption))
      refine hret _ _ _ _ (by assumption) (cb_drop (by assumption) (fun q hq => by repeat (first | exact hq | apply List.Mem.tail))) ⟨by rw [hap, ha]; exact ⟨_, rfl⟩, rfl⟩
    · have h0 : p.isN = false := hb9.trans (by assumption)
      refine to_stop (isi_p_str hpath fun tk9 => ?_)
      k_steps
      · obtain ⟨z, rfl⟩ := pS_of (by assumption)
        obtain ⟨tz, rfl⟩ := id hpath
        have hzl := hpl z rfl
        k_steps
        (rename Fr _ _ _ _ => kF)
        (rename News _ _ _ _ => kN)
        refine to_stop (src_pick (fun one => Txt.slice z none (some ((one.length : Int) + 1)) == one ++ Str.ofString "/") rfl kF kN (by repeat (first | assumption | apply List.Mem.tail)) (by omega) ?test ?el ?fin)
        case test =>
          intro c t I3 oI C oC D m₂ ys h tk E' hz hC hx F' N' off ne
          have hcl : c.length ≤ 100 := hld _ hz
          clear kF kN
          k_steps
          exact TestPost.of (by assumption) (by assumption) (fun p hp => hp) (by first | rfl | exact cps_eq ▸ (by simp))
        case el =>
          intro c t I3 oI C oC D m₂ ys h tk E' hz hC hx F' N' off ne
          clear kF kN
          k_steps
          exact ElPost.of (by assumption) (by assumption) (fun p hp => hp) ⟨_, _, rfl⟩
        case fin =>
          intro g6 l6 hl6 hany D6 h6 tk6 F6 N6 o6
          simp only [LCg.Off1] at o6
          clear kF kN
          k_steps
          · have ha : pathL (.s z) (ld.map (·.1)) = .i 1 := if_pos (hany.mp (by assumption))
            refine hret _ _ _ _ (by assumption) (cb_drop (by assumption) (fun q hq => by repeat (first | exact hq | apply List.Mem.tail))) ⟨by rw [hap, ha]; exact ⟨_, rfl⟩, rfl⟩
          · have ha : pathL (.s z) (ld.map (·.1)) = .i 0 := if_neg (fun e => absurd (hany.mpr e) (by assumption))
            refine hret _ _ _ _ (by assumption) (cb_drop (by assumption) (fun q hq => by repeat (first | exact hq | apply List.Mem.tail))) ⟨by rw [hap, ha]; exact ⟨_, rfl⟩, rfl⟩
      · have ha := path_other (ds := ld.map (·.1)) (by assumption) h0
        have he : ld.map (·.1) = [] := map_is_nil.mpr (by assumption)
        refine hret _ _ _ _ (by assumption) (cb_drop (by assumption) (fun q hq => by repeat (first | exact hq | apply List.Mem.tail))) ⟨by rw [hap, ha, if_pos he]; exact ⟨_, rfl⟩, rfl⟩
      · have ha := path_other (ds := ld.map (·.1)) (by assumption) h0
        have he : ¬ ld.map (·.1) = [] := fun e => absurd (map_is_nil.mp e) (by assumption)
        have hf := fault_p (by assumption) h0
        refine to_stop (isi_p_bytes hpath (by assumption) h0 fun tk9 => ?_)
        k_steps
        · refine hret _ _ _ _ (by assumption) (cb_drop (by assumption) (fun q hq => by repeat (first | exact hq | apply List.Mem.tail))) ⟨by rw [hap, ha, if_neg he, hf, if_pos (by assumption)]; exact ⟨_, rfl⟩, rfl⟩
        · refine hret _ _ _ _ (by assumption) (cb_drop (by assumption) (fun q hq => by repeat (first | exact hq | apply List.Mem.tail))) ⟨by rw [hap, ha, if_neg he, hf, if_neg (ne_true (by assumption))]; exact ⟨_, rfl⟩, rfl⟩
end Mine
end PartU1g

section PartV1a
open PySem PySem.W PyProof.Rows PySem.Spec PySem.Calls PyProof.Rows.LCg
set_option Elab.async false
set_option maxRecDepth 100000
set_option maxHeartbeats 2000000
set_option linter.unusedVariables false
namespace Mine
theorem freshV1a : True ∧ True := by
  w_top off
  first | (walk1; all_goals trivial) | exact ⟨trivial, trivial⟩
def testW (prog : Program) (w : World) (A : Around) (c : Option Expr) (env : Env) (Q : Bool → Shared → Prop) (E : Value → Shared → Prop) (s : Shared) : Prop :=
  match c with
  | none => Q true s
  | some c => wpAny (model prog w) A (isTrue c env (eval c env)) Q E s
def ifsOf : Option Expr → List Expr
  | none => []
  | some c => [c]
theorem testW_mono {prog : Program} {w : World} {A : Around} {c : Option Expr} {env : Env} {Q Q' : Bool → Shared → Prop} {E : Value → Shared → Prop} {s : Shared} (h : testW prog w A c env Q E s) (hq : ∀ b s', Q b s' → Q' b s') : testW prog w A c env Q' E s := by
  cases c with
  | none => exact hq _ _ h
  | some c => exact wpAny_mono h (fun b s' hb => hq b s' hb) fun _ _ e => e
section
variable {prog : Program} {w : World} {A : Around} {E : Value → Shared → Prop} {s : Shared}
theorem comp_loop {elt target iter : PySem.Expr} {c : Option Expr} {scope : Scope} {pos : Pos} {it acc : Value} {env : Env} {R : Result → Shared → Prop} (I : Nat → Shared → Prop)
    (turn : ∀ n s, I n s → wpAny (model prog w) A (pyNext it) (fun r s₁ => match r with
      | none => R (.ok .next) s₁
      | some v => wpAny (model prog w) A (letOwnedTupleGo target it v) (fun _ s₀ => wpAny (model prog w) A (assign target env v) (fun _ s₂ =>
          testW prog w A c env (fun ok s₃ => if ok = true then wpAny (model prog w) A (eval elt env) (fun x s₄ =>
            wpAny (model prog w) A (call (.builtin "list.append") [acc, x]) (fun _ s₅ => ∃ m, m < n ∧ I m s₅) (notedBy (model prog w) A env fun e s' => R (.error e) s') s₄) (notedBy (model prog w) A env fun e s' => R (.error e) s') s₃
            else ∃ m, m < n ∧ I m s₃) (notedBy (model prog w) A env fun e s' => R (.error e) s') s₂)
          (notedBy (model prog w) A env fun e s' => R (.error e) s') s₀) (notedBy (model prog w) A env fun e s' => R (.error e) s') s₁) (notedBy (model prog w) A env fun e s' => R (.error e) s') s)
    (n : Nat) (h : I n s) : codeAny (model prog w) A (.compLoop (.ListComp elt [⟨target, iter, ifsOf c, 0⟩] scope pos) 0 it acc env) R s := by
  refine codeAny_loop rfl I (fun n s hI => ?_) n h
  show wpAny _ A ((compTurn (.ListComp elt [⟨target, iter, ifsOf c, 0⟩] scope pos) 0 it acc env).onRaise (fun x => do noteFrame x env; theTreesLotGoes x)) _ _ s
  refine wpAny_noted ?_
  rw [compTurn_list]
  refine wpAny_bind (wpAny_standAt (wpAny_bind (wpAny_mono (turn n s hI) (fun r s₁ h₁ => ?_) fun _ _ h' => h')))
  cases r with
  | none => exact wpAny_pure h₁
  | some v =>
    refine wpAny_bind (wpAny_mono h₁ (fun _ s₀ h₀' => ?_) fun _ _ h' => h')
    refine wpAny_bind (wpAny_mono h₀' (fun _ s₂ h₂ => ?_) fun _ _ h' => h')
    have test : ∀ {Q' : Bool → Shared → Prop}, testW prog w A c env Q' (notedBy (model prog w) A env fun e s' => R (.error e) s') s₂ →
        wpAny (model prog w) A (forIn (ifsOf c) true fun c r => if r = true then do let ok ← isTrue c env (eval c env); pure (ForInStep.yield ok) else pure (ForInStep.yield r)) Q' (notedBy (model prog w) A env fun e s' => R (.error e) s') s₂ := by
      intro Q' hq
      cases c with
      | none => exact wpAny_tests_nil hq
      | some c => exact wpAny_tests_one hq
    refine wpAny_bind (test (testW_mono h₂ fun okb s₃ h₃ => ?_))
    cases okb with
    | false => exact wpAny_pure ⟨rfl, h₃⟩
    | true => exact wpAny_bind (wpAny_bind (wpAny_mono h₃ (fun x s₄ h₄ => wpAny_bind (wpAny_mono h₄ (fun _ s₅ h₅ => wpAny_pure (wpAny_pure ⟨rfl, h₅⟩)) fun _ _ h' => h')) fun _ _ h' => h'))
end
/-- what a comprehension's turn must leave; a set's order may be drawn -/
def EndX (h₀ : Heap) (L : Addr) (m : Str → Option Value) (s : Shared) (os : List (Addr × Obj)) (C D : Addr) (oC : Obj) (ys : List Value) (K : List (Addr × Obj) → Prop) (s₂ : Shared) : Prop :=
  ∃ h' tk dr nx, s₂ = { s with heap := h', toks := tk, drawn := dr } ∧ Fr h₀ L h' m ∧ News h₀ L h' (os ++ (C, oC) :: (D, lst ys) :: nx) ∧ (∀ p ∈ nx, p.1 ≠ C ∧ p.1 ≠ D ∧ p.1 ∉ os.map (·.1)) ∧ K nx
theorem EndX.of {h₀ : Heap} {L : Addr} {m : Str → Option Value} {s : Shared} {os : List (Addr × Obj)} {C D : Addr} {oC : Obj} {ys : List Value} {K : List (Addr × Obj) → Prop} {h' : Heap} {tk : Nat} {dr : Drawn} {all nx : List (Addr × Obj)}
    (F : Fr h₀ L h' m) (N : News h₀ L h' all) (sub : ∀ p ∈ os ++ (C, oC) :: (D, lst ys) :: nx, p ∈ all) (off : ∀ p ∈ nx, p.1 ≠ C ∧ p.1 ≠ D ∧ p.1 ∉ os.map (·.1)) (hK : K nx) :
    EndX h₀ L m s os C D oC ys K { s with heap := h', toks := tk, drawn := dr } := ⟨h', tk, dr, nx, rfl, F, fun p hp => N p (sub p hp), off, hK⟩
section
variable {prog : Program} {w : World} {A : Around} {E : Value → Shared → Prop} {s : Shared} {h₀ : Heap} {L : Addr} {m : Str → Option Value} {env : Env}
theorem comp_block {elt target iter : Expr} {c : Option Expr} {scope : Scope} {cl : List (Str × Addr)} {pos : Pos} {s₂ : Shared} {I : Addr} {fp wr : List Addr} {n : Nat} {P Md : Nat → Value → Heap → Prop} {St : Nat → Heap → Prop}
    {news srcs : List (Addr × Obj)} {RR : Value → Addr → Result → Shared → Prop} (J : Nat → List Value → List (Addr × Obj) → Prop) (Bd : Nat → Value → (Str → Option Value) → Prop)
    (W : KTurns prog w A target I fp wr n P Md St) (self : ∀ (s : Shared) (Q : Value → Shared → Prop) (E : Value → Shared → Prop), St 0 s.heap → Q (.ref I) s → wpAny (model prog w) A (pyIter (.ref I)) Q E s)
    (hsz : n ≤ sizeLine) (hos : ∀ i h, St i h → ∃ os : List (Addr × Obj), os.map (·.1) = wr ∧ ∀ p ∈ os, h.get? p.1 = some p.2)
    (hfp : ∀ b ∈ fp, b ∈ wr ∨ ∃ o, (b, o) ∈ srcs) (hJs : ∀ i ys nx, J i ys nx → ∀ p ∈ srcs, p ∈ nx) (hJl : ∀ i ys nx, J i ys nx → ys.length ≤ i)
    (hcell : ∀ y ∈ scope.names, y.2 ≠ .cell) (hkind : scope.kind = .function) (hst : St 0 s₂.heap) (hlt : ∀ b ∈ fp, b < s₂.heap.objs.size)
    (F : Fr h₀ L s₂.heap m) (N : News h₀ L s₂.heap news) (hLw : L ∉ wr) (hw₀ : ∀ b ∈ wr, h₀.get? b = none) (off : ∀ p ∈ news, p.1 ∉ wr) (h0 : J 0 [] news)
    (asg : ∀ i v ys nx C m' (s : Shared) (Q : Unit → Shared → Prop) (E' : Value → Shared → Prop), i < n → P i v s.heap → J i ys nx → News h₀ L s.heap nx → s.heap.Ns C m' → (∀ h' m₂ tk, h'.Ns C m₂ → Bd i v m₂ → (∀ b o, b ≠ C → s.heap.get? b = some o → h'.get? b = some o) → Q () { s with heap := h', toks := tk }) →
      wpAny (model prog w) A (assign target (compEnvC scope cl C env) v) Q E' s)
    (turn : ∀ i v ys nx os C oC D m₂ h tk dr (E' : Value → Shared → Prop), i < n → Bd i v m₂ → J i ys nx → os.map (·.1) = wr → NsObj oC m₂ → Fr h₀ L h m → News h₀ L h (os ++ (C, oC) :: (D, lst ys) :: nx) → (∀ p ∈ nx, p.1 ≠ C ∧ p.1 ≠ D ∧ p.1 ∉ os.map (·.1)) → C ≠ D → C ∉ wr → D ∉ wr →
      testW prog w A c (compEnvC scope cl C env) (fun ok s₃ => if ok = true then wpAny (model prog w) A (eval elt (compEnvC scope cl C env)) (fun y s₄ => EndX h₀ L m s₂ os C D oC ys (J (i + 1) (ys ++ [y])) s₄) E' s₃
        else EndX h₀ L m s₂ os C D oC ys (J (i + 1) ys) s₃) E' { s₂ with heap := h, toks := tk, drawn := dr })
    (hRR : ∀ D C h tk dr m' ys nx, Fr h₀ L h m → News h₀ L h ((D, lst ys) :: nx) → (∀ p ∈ nx, p.1 ≠ D) → h.Ns C m' → h₀.get? C = none → h₀.get? D = none → C ≠ L → D ≠ L → C ≠ D → (∀ p ∈ nx, p.1 ≠ C) → J n ys nx → RR (.ref D) C (.ok .next) { s₂ with heap := h, toks := tk, drawn := dr }) :
    wpAny (model prog w) A (newList []) (fun acc s₃ => wpAny (model prog w) A (newFunctionEnv scope env.globals cl [] env.qual none .none (some env)) (fun cenv s₄ =>
      codeAny (model prog w) A (.compStart (.ListComp elt [⟨target, iter, ifsOf c, 0⟩] scope pos) 0 (.ref I) acc { cenv with scope := relabel scope env }) (RR acc cenv.locals) s₄) E s₃) E s₂ := by
  refine wpAny_newObj_type (wpAny_newFunctionEnv hcell (by intro y hy; simp at hy) (fun h₁ hns₁ hsb₁ => ?_) hkind)
  dsimp only at hns₁ hsb₁ ⊢
  generalize hH2 : s₂.heap.push { cls := .type "list", dict := none, data := .seq ([] : List Value).toArray } = H2 at hns₁ hsb₁ ⊢
  have hC : H2.objs.size = s₂.heap.objs.size + 1 := by rw [← hH2, Heap.size_push]
  generalize hDD : s₂.heap.objs.size = D at *
  generalize hCC : H2.objs.size = C at *
  have hCD : C ≠ D := by rw [hC]; exact Nat.succ_ne_self _
  have low : ∀ b, b < D → b ≠ C ∧ b ≠ D := fun b hb => ⟨by rw [hC]; exact Nat.ne_of_lt (Nat.lt_succ_of_lt hb), Nat.ne_of_lt hb⟩
  have lt_of : ∀ b o, s₂.heap.get? b = some o → b < D := fun b o e => hDD ▸ Heap.lt_size e
  have old : ∀ b o, s₂.heap.get? b = some o → h₁.get? b = some o := fun b o e => hsb₁.extBut b o (low b (lt_of b o e)).1 (Heap.get?_push_of_some _ (hH2 ▸ Heap.get?_push_of_some _ e))
  have hacc : h₁.get? D = some (lst []) := hsb₁.extBut _ _ hCD.symm (Heap.get?_push_of_some _ (by rw [← hH2, ← hDD]; exact Heap.get?_push_size _ rfl))
  have hwf : ∀ b ∈ wr, b < D := fun b hb => hlt b (W.sub b hb)
  have hCw : C ∉ wr := fun hm => (low C (hwf C hm)).1 rfl
  have hDw : D ∉ wr := fun hm => (low D (hwf D hm)).2 rfl
  have fresh₀ : ∀ a, D ≤ a → h₀.get? a = none := fun a ha => by
    cases e : h₀.get? a with
    | none => rfl
    | some o' => exact absurd (lt_of _ _ (F.keep a o' e)) (Nat.not_lt.mpr ha)
  have hD₀ : h₀.get? D = none := fresh₀ _ (Nat.le_refl _)
  have hC₀ : h₀.get? C = none := fresh₀ _ (by rw [hC]; exact Nat.le_succ _)
  have hLlt : L < D := hDD ▸ F.ns.lt
  have hCL : C ≠ L := Ne.symm (low L hLlt).1
  have hDL : D ≠ L := Ne.symm (low L hLlt).2
  have loop : ∀ s₃ : Shared, s₃ = { s₂ with heap := h₁, toks := s₂.toks + ([] : List (Str × Value)).length } →
      codeAny (model prog w) A (.compLoop (.ListComp elt [⟨target, iter, ifsOf c, 0⟩] scope pos) 0 (.ref I) (.ref D) (compEnvC scope cl C env)) (RR (.ref D) C) s₃ := by
    rintro s₃ rfl
    refine comp_loop
      (fun k s' => ∃ h' tk dr i ys m' nx, s' = { s₂ with heap := h', toks := tk, drawn := dr } ∧ i ≤ n ∧ k = n + 1 - i ∧ St i h' ∧ Fr h₀ L h' m ∧ h'.Ns C m' ∧ News h₀ L h' ((D, lst ys) :: nx) ∧
        (∀ p ∈ nx, p.1 ≠ C ∧ p.1 ≠ D ∧ p.1 ∉ wr) ∧ J i ys nx) ?_ (n + 1)
      ⟨h₁, _, s₂.drawn, 0, [], _, news, rfl, Nat.zero_le _, rfl, W.frame _ _ _ hst fun b _ o e => old b o e, F.keeps old, hns₁, fun p hp => ?_, fun p hp => ?_, h0⟩
    · rintro k s' ⟨h', tk, dr, i, ys, m', nx, rfl, hi, rfl, hst', F', hn', N', off', hj⟩
      by_cases hlt' : i < n
      · refine W.item i _ _ _ hlt' hst' fun v h₂ tk₂ hMd hk₂ => ?_
        refine W.go i v _ _ _ hMd fun h₃ hP hst₃ hk₃ => ?_
        have k23 : ∀ b o, b ∉ wr → h'.get? b = some o → h₃.get? b = some o := fun b o hb e => hk₃ b o hb (hk₂ b o hb e)
        have F₃ := fr_wr F' k23 hLw hw₀
        have offD : ∀ p ∈ (D, lst ys) :: nx, p.1 ∉ wr := fun p hp => by
          rcases List.mem_cons.mp hp with rfl | hp
          · exact hDw
          · exact (off' p hp).2.2
        have N₃ := news_wr N' k23 offD
        have hn₃ : h₃.Ns C m' := hn'.at' fun o e => k23 _ o hCw e
        refine asg i v ys nx C m' _ _ _ hlt' hP hj (fun p hp => N₃ p (.tail _ hp)) hn₃ fun h₄ m₂ tk₄ hn₄ hB hk₄ => ?_
        have F₄ : Fr h₀ L h₄ m := fr_but F₃ (fun b o hb e => hk₄ b o (by simpa using hb) e) (Ne.symm hCL) hC₀
        have N₄ : News h₀ L h₄ ((D, lst ys) :: nx) := news_but N₃ (fun b o hb e => hk₄ b o (by simpa using hb) e) fun p hp => by
          rcases List.mem_cons.mp hp with rfl | hp
          · exact Ne.symm hCD
          · exact (off' p hp).1
        have hst₄ : St (i + 1) h₄ := W.frame _ _ _ hst₃ fun b hb o e => hk₄ b o (low b (hlt b hb)).1 e
        obtain ⟨os, hosw, hosg⟩ := hos _ _ hst₄
        obtain ⟨oC, heC, hoC⟩ := ns_obj hn₄
        have N₅ : News h₀ L h₄ (os ++ (C, oC) :: (D, lst ys) :: nx) := fun p hp => by
          rcases List.mem_append.mp hp with hp | hp
          · have hpw : p.1 ∈ wr := hosw ▸ List.mem_map.mpr ⟨p, hp, rfl⟩
            exact ⟨hosg p hp, fun e => hLw (e ▸ hpw), hw₀ _ hpw⟩
          · rcases List.mem_cons.mp hp with rfl | hp
            · exact ⟨heC, hCL, hC₀⟩
            · exact N₄ p hp
        have offo : ∀ p ∈ nx, p.1 ≠ C ∧ p.1 ≠ D ∧ p.1 ∉ os.map (·.1) := fun p hp => by rw [hosw]; exact off' p hp
        have t := turn i v ys nx os C oC D m₂ h₄ tk₄ dr (notedBy (model prog w) A (compEnvC scope cl C env) fun e s' => RR (.ref D) C (.error e) s') hlt' hB hj hosw hoC F₄ N₅ offo hCD hCw hDw
        -- what stands after the turn
        have back : ∀ {K : List (Addr × Obj) → Prop} {s₅ : Shared}, EndX h₀ L m s₂ os C D oC ys K s₅ → (∀ nx', K nx' → ∀ p ∈ srcs, p ∈ nx') → ∃ h₅ tk₅ dr₅ nx', s₅ = { s₂ with heap := h₅, toks := tk₅, drawn := dr₅ } ∧ St (i + 1) h₅ ∧ Fr h₀ L h₅ m ∧ h₅.Ns C m₂ ∧ News h₀ L h₅ ((D, lst ys) :: nx') ∧ (∀ p ∈ nx', p.1 ≠ C ∧ p.1 ≠ D ∧ p.1 ∉ wr) ∧ K nx' := by
          rintro K s₅ ⟨h₅, tk₅, dr₅, nx', rfl, F₅, N₅', off₅, hK⟩ hsrc
          refine ⟨h₅, tk₅, dr₅, nx', rfl, W.frame _ _ _ hst₄ fun b hb o e => ?_, F₅, hoC.ns (N₅' _ (List.mem_append_right _ (.head _))).1, fun p hp => N₅' p (List.mem_append_right _ (.tail _ hp)), fun p hp => by have := off₅ p hp; rw [hosw] at this; exact this, hK⟩
          rcases hfp b hb with hbw | ⟨o', ho'⟩
          · rw [← hosw] at hbw
            obtain ⟨p, hp, rfl⟩ := List.mem_map.mp hbw
            have := hosg p hp
            rw [e] at this
            rw [Option.some.inj this]
            exact (N₅' p (List.mem_append_left _ hp)).1
          · have h4 := (N₄ _ (.tail _ (hJs _ _ _ hj _ ho'))).1
            rw [e] at h4
            rw [Option.some.inj h4]
            exact (N₅' _ (List.mem_append_right _ (.tail _ (.tail _ (hsrc _ hK _ ho'))))).1
        refine testW_mono t fun ok s₃ hok => ?_
        cases ok with
        | false =>
          rw [if_neg Bool.false_ne_true] at hok ⊢
          obtain ⟨h₅, tk₅, dr₅, nx', rfl, hst₅, F₅, hn₅, N₅', off₅, hK⟩ := back hok (fun nx' hK => hJs _ _ _ hK)
          exact ⟨n + 1 - (i + 1), by omega, h₅, tk₅, dr₅, i + 1, ys, m₂, nx', rfl, hlt', rfl, hst₅, F₅, hn₅, N₅', off₅, hK⟩
        | true =>
          rw [if_pos rfl] at hok ⊢
          refine wpAny_mono hok (fun y s₄ h₄' => ?_) fun _ _ e => e
          obtain ⟨h₅, tk₅, dr₅, nx', rfl, hst₅, F₅, hn₅, N₅', off₅, hK⟩ := back h₄' (fun nx' hK => hJs _ _ _ hK)
          refine append_at (hsz := by show ys.toArray.size ≤ sizeLine; rw [List.size_toArray]; exact Nat.le_trans (hJl _ _ _ hj) (Nat.le_trans hi hsz)) (N₅' _ (.head _)).1 fun h₆ hs₆ hD₆ => ?_
          refine ⟨n + 1 - (i + 1), by omega, h₆, tk₅, dr₅, i + 1, ys ++ [y], m₂, nx', rfl, hlt', rfl, W.frame _ _ _ hst₅ fun b hb o e => hs₆.extBut b o (low b (hlt b hb)).2 e, F₅.change hs₆ hDL hD₀,
            hn₅.sameBut hs₆ hCD, fun p hp => ?_, off₅, hK⟩
          rcases List.mem_cons.mp hp with rfl | hp
          · exact ⟨hD₆.trans (congrArg some (lst_snoc ys y)), hDL, hD₀⟩
          · exact ⟨hs₆.extBut _ _ (off₅ p hp).2.1 (N₅' p (.tail _ hp)).1, (N₅' p (.tail _ hp)).2⟩
      · obtain rfl : i = n := Nat.le_antisymm hi (Nat.not_lt.mp hlt')
        refine W.done _ _ _ hst' fun h₂ tk₂ hk₂ => ?_
        exact hRR _ _ h₂ tk₂ dr _ ys nx (fr_wr F' hk₂ hLw hw₀) (news_wr N' hk₂ fun p hp => by
          rcases List.mem_cons.mp hp with rfl | hp
          · exact hDw
          · exact (off' p hp).2.2) (fun p hp => (off' p hp).2.1) (hn'.at' fun o e => hk₂ _ o hCw e) hC₀ hD₀ hCL hDL hCD (fun p hp => (off' p hp).1) hj
    · rcases List.mem_cons.mp hp with rfl | hp
      · exact ⟨hacc, hDL, hD₀⟩
      · exact ⟨old _ _ (N p hp).1, (N p hp).2⟩
    · have := low _ (lt_of _ _ (N p hp).1)
      exact ⟨this.1, this.2, off p hp⟩
  exact codeAny_compStart_list (loop _ rfl) (self _ _ _ (W.frame _ _ _ hst fun b _ o e => old b o e) (loop _ rfl))
end
end Mine
end PartV1a

section PartV1b
open PySem PySem.W PyProof.Rows PySem.Spec PySem.Calls PyProof.Rows.LCg
set_option Elab.async false
set_option maxRecDepth 100000
set_option maxHeartbeats 2000000
set_option linter.unusedVariables false
namespace Mine
theorem freshV1b : True ∧ True := by
  w_top off
  first | (walk1; all_goals trivial) | exact ⟨trivial, trivial⟩
/-- the source of a comprehension has been reached -/
def SrcGoal (prog : Program) (w : World) (A : Around) (E : Value → Shared → Prop) (env : Env) (elt target iter : Expr) (c : Option Expr) (scope : Scope) (cl : List (Str × Addr)) (pos : Pos) (use : Option (Value → Sem Unit)) (Q : Value → Shared → Prop) (xv : Value) (s₁ : Shared) : Prop :=
  wpAny (model prog w) A (pyIter xv) (fun it s₂ => wpAny (model prog w) A (newList []) (fun acc s₃ => wpAny (model prog w) A (newFunctionEnv scope env.globals cl [] env.qual none .none (some env)) (fun cenv s₄ =>
      codeAny (model prog w) A (.compStart (.ListComp elt [⟨target, iter, ifsOf c, 0⟩] scope pos) 0 it acc { cenv with scope := relabel scope env }) (compPost (model prog w) A E use Q acc cenv.locals) s₄) E s₃) E s₂) E s₁
section
variable {prog : Program} {w : World} {A : Around} {E : Value → Shared → Prop} {s : Shared} {h₀ : Heap} {L : Addr} {m : Str → Option Value} {env : Env} {elt target iter : Expr} {c : Option Expr} {scope : Scope} {cl : List (Str × Addr)} {pos : Pos}
theorem eval_comp {Q : Value → Shared → Prop} (hclos : closureFor scope env = pure cl) (hkind : scope.kind = .function) (hnames : ∀ y ∈ scope.names, y.2 = .local → scope.names.lookup y.1 = some .local)
    (h : wpAny (model prog w) A (eval iter env) (SrcGoal prog w A E env elt target iter c scope cl pos none Q) E s) (hs : ∀ x, foldedSetIterable iter env x = pure x) :
    wpAny (model prog w) A (eval (.ListComp elt [⟨target, iter, ifsOf c, 0⟩] scope pos) env) Q E s := by
  rw [eval_ListComp]
  exact wpAny_comprehension_free (use := none) rfl hs hclos hkind hnames h
theorem assign_comp {y : Str} {py spos : Pos} {Q : Flow → Shared → Prop}
    (hsw : swapsWith (.ListComp elt [⟨target, iter, ifsOf c, 0⟩] scope pos) (some (.Name y py)) spos.line env = pure true)
    (hclos : closureFor scope env = pure cl) (hkind : scope.kind = .function) (hnames : ∀ z ∈ scope.names, z.2 = .local → scope.names.lookup z.1 = some .local)
    (h : wpAny (model prog w) A (eval iter env) (SrcGoal prog w A E env elt target iter c scope cl pos (some (assign (.Name y py) env)) (fun _ s' => Q .next s')) E s) (hs : ∀ x, foldedSetIterable iter env x = pure x) :
    wpAny (model prog w) A (exec (.Assign [.Name y py] (.ListComp elt [⟨target, iter, ifsOf c, 0⟩] scope pos) spos) env) Q E s := by
  rw [exec_Assign_Name_used _ _ _ _ hsw]
  refine wpAny_bind (wpAny_standAt (wpAny_bind ?_))
  show wpAny _ A (do let _ ← comprehension (.ListComp elt [⟨target, iter, ifsOf c, 0⟩] scope pos) scope env _ (newList []) false (eval iter env) (some (assign (.Name y py) env))) _ _ s
  exact wpAny_bind (wpAny_mono (wpAny_comprehension_free (use := some (assign (.Name y py) env)) (Q := fun _ s' => Q .next s') rfl hs hclos hkind hnames h) (fun _ s' hq => wpAny_pure (wpAny_pure hq)) fun _ _ e => e)
theorem post_eval {D C : Addr} {h : Heap} {tk : Nat} {dr : Drawn} {m' : Str → Option Value} {ys : List Value} {nx : List (Addr × Obj)} {Q : Value → Shared → Prop}
    (F : Fr h₀ L h m) (N : News h₀ L h ((D, lst ys) :: nx)) (hn : h.Ns C m') (hC₀ : h₀.get? C = none) (hCL : C ≠ L) (hCD : C ≠ D) (offC : ∀ p ∈ nx, p.1 ≠ C)
    (fin : ∀ h', Fr h₀ L h' m → News h₀ L h' ((D, lst ys) :: nx) → Q (.ref D) { s with heap := h', toks := tk, drawn := dr }) :
    compPost (model prog w) A E none Q (.ref D) C (.ok .next) { s with heap := h, toks := tk, drawn := dr } := by
  refine ⟨m', hn, fun h'' hs'' => fin h'' (F.change hs'' hCL hC₀) fun p hp => ?_⟩
  refine ⟨hs''.extBut _ _ ?_ (N p hp).1, (N p hp).2⟩
  rcases List.mem_cons.mp hp with rfl | hp
  · exact Ne.symm hCD
  · exact offC p hp
theorem post_assign {y : Str} {py : Pos} {D C : Addr} {h : Heap} {tk : Nat} {dr : Drawn} {m' : Str → Option Value} {ys : List Value} {nx : List (Addr × Obj)} {U : Shared → Prop}
    (hy : env.kindOf y = some .local) (hp : (env.scope.kind == .class || (env.scope.kind == .module && env.locals != env.globals)) = false)
    (F : Fr h₀ env.locals h m) (N : News h₀ env.locals h ((D, lst ys) :: nx)) (hn : h.Ns C m') (hC₀ : h₀.get? C = none) (hCL : C ≠ env.locals) (hCD : C ≠ D) (offC : ∀ p ∈ nx, p.1 ≠ C)
    (fin : ∀ h' tk', Fr h₀ env.locals h' (fun z => if z = y then some (.ref D) else m z) → News h₀ env.locals h' ((D, lst ys) :: nx) → U { s with heap := h', toks := tk', drawn := dr }) :
    compPost (model prog w) A E (some (assign (.Name y py) env)) (fun _ s' => U s') (.ref D) C (.ok .next) { s with heap := h, toks := tk, drawn := dr } := by
  show wpAny _ A (assign (.Name y py) env (.ref D)) _ _ _
  refine wpAny_assign_Name (wpAny_storeName_local hy F.ns (fun h₂ hn₂ hs₂ => ?_) hp)
  have hL₀ : h₀.get? env.locals = none := Heap.get?_none_of_le F.above
  have F₂ : Fr h₀ env.locals h₂ (fun z => if z = y then some (.ref D) else m z) := ⟨hn₂, fun b o e => hs₂.extBut b o (fun q => by rw [q, hL₀] at e; cases e) (F.keep b o e), F.above⟩
  refine ⟨m', hn.sameBut hs₂ hCL, fun h'' hs'' => fin h'' _ (F₂.change hs'' hCL hC₀) fun p hp => ?_⟩
  have z : h₂.get? p.1 = some p.2 := hs₂.extBut _ _ (N p hp).2.1 (N p hp).1
  refine ⟨hs''.extBut _ _ ?_ z, (N p hp).2⟩
  rcases List.mem_cons.mp hp with rfl | hp
  · exact Ne.symm hCD
  · exact offC p hp
/-- a turn over the i-th item of a list or an enumerate -/
def TurnX (prog : Program) (w : World) (A : Around) (h₀ : Heap) (L : Addr) (m : Str → Option Value) (env : Env) (elt : Expr) (c : Option Expr) (scope : Scope) (cl : List (Str × Addr)) (s : Shared) (wr : List Addr) (n : Nat) (J : Nat → List Value → List (Addr × Obj) → Prop) (Bd : Nat → (Str → Option Value) → Prop) : Prop :=
  ∀ i ys nx os C oC D m₂ h tk dr (E' : Value → Shared → Prop), i < n → Bd i m₂ → J i ys nx → os.map (·.1) = wr → NsObj oC m₂ → Fr h₀ L h m → News h₀ L h (os ++ (C, oC) :: (D, lst ys) :: nx) → (∀ p ∈ nx, p.1 ≠ C ∧ p.1 ≠ D ∧ p.1 ∉ os.map (·.1)) → C ≠ D → C ∉ wr → D ∉ wr →
      testW prog w A c (compEnvC scope cl C env) (fun ok s₃ => if ok = true then wpAny (model prog w) A (eval elt (compEnvC scope cl C env)) (fun y s₄ => EndX h₀ L m s os C D oC ys (J (i + 1) (ys ++ [y])) s₄) E' s₃
        else EndX h₀ L m s os C D oC ys (J (i + 1) ys) s₃) E' { s with heap := h, toks := tk, drawn := dr }
theorem name_asg {x : Str} {px : Pos} {C : Addr} {m' : Str → Option Value} {v : Value} {Q : Unit → Shared → Prop} (hx : scope.names.lookup x = some .local) (hkind : scope.kind = .function) (hn : s.heap.Ns C m')
    (h : ∀ h' m₂ tk, h'.Ns C m₂ → m₂ x = some v → (∀ b o, b ≠ C → s.heap.get? b = some o → h'.get? b = some o) → Q () { s with heap := h', toks := tk }) :
    wpAny (model prog w) A (assign (.Name x px) (compEnvC scope cl C env) v) Q E s := by
  refine wpAny_assign_Name (wpAny_storeName_local (lookup_relabel_local hx) hn (fun h' hn' hs' => ?_) (by simp [compEnvC, relabel, hkind]))
  exact h h' _ _ hn' (by simp) fun b o hb e => hs'.extBut b o hb e
theorem pair_asg {x x₂ : Str} {px px₂ tp : Pos} {k : Nat} {C T : Addr} {m' : Str → Option Value} {v₁ v₂ : Value} {Q : Unit → Shared → Prop} (hh : A.handled = none) (hx : scope.names.lookup x = some .local) (hx₂ : scope.names.lookup x₂ = some .local) (hxx : x ≠ x₂) (hkind : scope.kind = .function) (hn : s.heap.Ns C m')
    (ht : IsTup s.heap T #[v₁, v₂])
    (h : ∀ h' m₂ tk, h'.Ns C m₂ → m₂ x = some v₁ → m₂ x₂ = some v₂ → (∀ b o, b ≠ C → s.heap.get? b = some o → h'.get? b = some o) → Q () { s with heap := h', toks := tk }) :
    wpAny (model prog w) A (assign (.Tuple [.Name x px, .Name x₂ px₂] k tp) (compEnvC scope cl C env) (.ref T)) Q E s := by
  refine assign_Tuple_tuple hh ht rfl rfl fun h₅ he => ?_
  have he' : ∀ b o, s.heap.get? b = some o → h₅.get? b = some o := fun b o e => he b o (Nat.ne_of_lt (Heap.lt_size e)) e
  refine assignInOrder_cons (wpAny_assign_Name (wpAny_storeName_local (lookup_relabel_local hx) (hn.at' fun o e => he' _ o e) (fun h₆ hn₆ hs₆ => ?_) (by simp [compEnvC, relabel, hkind])))
  refine assignInOrder_cons (wpAny_assign_Name (wpAny_storeName_local (lookup_relabel_local hx₂) hn₆ (fun h₃ hn₃ hs₃ => ?_) (by simp [compEnvC, relabel, hkind])))
  exact assignInOrder_nil (h h₃ _ _ hn₃ (by simp [hxx]) (by simp) fun b o hb e => hs₃.extBut b o hb (hs₆.extBut b o hb (he' b o e)))
theorem src_listX {use : Option (Value → Sem Unit)} {Q : Value → Shared → Prop} {ax : Addr} {vs : List Value} {k : Nat} {news : List (Addr × Obj)} (J : Nat → List Value → List (Addr × Obj) → Prop) (Bd : Nat → (Str → Option Value) → Prop)
    (hh : A.handled = none) (F : Fr h₀ L s.heap m) (N : News h₀ L s.heap news) (hsz : vs.length ≤ 100000) (h0 : J 0 [] news)
    (hJs : ∀ i ys nx, J i ys nx → (ax, listOf vs.toArray k) ∈ nx ∧ ys.length ≤ i)
    (hcell : ∀ y ∈ scope.names, y.2 ≠ .cell) (hkind : scope.kind = .function)
    (asg : ∀ i v ys nx C m' (s : Shared) (Q : Unit → Shared → Prop) (E' : Value → Shared → Prop), vs[i]? = some v → J i ys nx → News h₀ L s.heap nx → s.heap.Ns C m' → (∀ h' m₂ tk, h'.Ns C m₂ → Bd i m₂ → (∀ b o, b ≠ C → s.heap.get? b = some o → h'.get? b = some o) → Q () { s with heap := h', toks := tk }) →
      wpAny (model prog w) A (assign target (compEnvC scope cl C env) v) Q E' s)
    (turn : ∀ I g, TurnX prog w A h₀ L m env elt c scope cl { s with heap := g } [I] vs.length J Bd)
    (post : ∀ g D C h tk dr m' ys nx, Fr h₀ L h m → News h₀ L h ((D, lst ys) :: nx) → (∀ p ∈ nx, p.1 ≠ D) → h.Ns C m' → h₀.get? C = none → C ≠ L → C ≠ D → (∀ p ∈ nx, p.1 ≠ C) → J vs.length ys nx → compPost (model prog w) A E use Q (.ref D) C (.ok .next) { { s with heap := g } with heap := h, toks := tk, drawn := dr }) :
    SrcGoal prog w A E env elt target iter c scope cl pos use Q (.ref ax) s := by
  have hm := (hJs _ _ _ h0).1
  have hl : s.heap.IsList ax vs.toArray := ⟨_, (N _ hm).1, rfl, k, rfl⟩
  have hlt : ax < s.heap.objs.size := Heap.lt_size (N _ hm).1
  refine wpAny_pyIter_list hl ?_
  have up : ∀ b o, s.heap.get? b = some o → (s.heap.push { cls := .type "list_iterator", data := .fields #[.ref ax, .int 0 0] }).get? b = some o := fun b o e => Heap.get?_push_of_some _ e
  refine comp_block (srcs := [(ax, listOf vs.toArray k)]) J (fun i v m₂ => Bd i m₂)
    (KTurns.ofWalks (Walks.list hh s.heap.objs.size ax (Nat.ne_of_lt hlt) vs.toArray) fun i v s' Q' E' st hq => letGo_listiter st.1 hq)
    (fun s' Q' E' st hq => (Walks.list hh s.heap.objs.size ax (Nat.ne_of_lt hlt) vs.toArray).self 0 s' Q' E' st hq)
    (by rw [List.size_toArray, sizeLine_eq]; omega) ?_ ?_ ?_ (fun i ys nx hj => (hJs i ys nx hj).2) hcell hkind ⟨⟨_, Heap.get?_push_size _ rfl, rfl, rfl⟩, hl.push _⟩ ?_ (F.keeps up) (N.grown up) ?_ ?_ ?_ h0 ?_ ?_ ?_
  · rintro i h ⟨⟨o, ho, _⟩, _⟩
    exact ⟨[(s.heap.objs.size, o)], rfl, fun p hp => by rcases List.mem_singleton.mp hp with rfl; exact ho⟩
  · intro b hb
    rcases List.mem_cons.mp hb with rfl | hb
    · exact .inl (.head _)
    · rcases List.mem_singleton.mp hb with rfl
      exact .inr ⟨_, .head _⟩
  · intro i ys nx hj p hp
    rcases List.mem_singleton.mp hp with rfl
    exact (hJs i ys nx hj).1
  · intro b hb
    rw [Heap.size_push]
    rcases List.mem_cons.mp hb with rfl | hb
    · exact Nat.lt_succ_self _
    · rcases List.mem_singleton.mp hb with rfl
      exact Nat.lt_succ_of_lt hlt
  · simpa using Nat.ne_of_lt F.ns.lt
  · intro b hb
    rcases List.mem_singleton.mp hb with rfl
    exact next_is_new F
  · intro p hp
    simpa using Nat.ne_of_lt (Heap.lt_size (N p hp).1)
  · intro i v ys nx C m' s' Q' E' hi hv hj Nx hn hq
    exact asg i v ys nx C m' s' Q' E' (by simpa using hv) hj Nx hn hq
  · intro i v ys nx os C oC D m₂ h tk dr E' hi hB hj ho hC F' N' off' hCD hCw hDw
    exact turn _ _ i ys nx os C oC D m₂ h tk dr E' (by simpa using hi) hB hj ho hC F' N' off' hCD hCw hDw
  · intro D C h tk dr m' ys nx F' N' offD hn hC₀ hD₀ hCL hDL hCD offC hj
    exact post _ D C h tk dr m' ys nx F' N' offD hn hC₀ hCL hCD offC (by simpa using hj)
end
end Mine
end PartV1b

section PartV1c
open PySem PySem.W PyProof.Rows PySem.Spec PySem.Calls PyProof.Rows.LCg
set_option Elab.async false
set_option maxRecDepth 100000
set_option maxHeartbeats 2000000
set_option linter.unusedVariables false
namespace Mine
theorem freshV1c : True ∧ True := by
  w_top off
  first | (walk1; all_goals trivial) | exact ⟨trivial, trivial⟩
section
variable {prog : Program} {w : World} {A : Around} {E : Value → Shared → Prop} {s : Shared} {h₀ : Heap} {L : Addr} {m : Str → Option Value} {env : Env} {elt iter : Expr} {c : Option Expr} {scope : Scope} {cl : List (Str × Addr)} {pos : Pos}
theorem enum_srcX {elts : List Expr} {kk : Nat} {tp : Pos} {use : Option (Value → Sem Unit)} {Q : Value → Shared → Prop} {ax : Addr} {vs : List Value} {k : Nat} {news : List (Addr × Obj)} (J : Nat → List Value → List (Addr × Obj) → Prop) (Bd : Nat → (Str → Option Value) → Prop)
    (hh : A.handled = none) (F : Fr h₀ L s.heap m) (N : News h₀ L s.heap news) (hsz : vs.length ≤ 100000) (h0 : J 0 [] news)
    (hJs : ∀ i ys nx, J i ys nx → (ax, listOf vs.toArray k) ∈ nx ∧ ys.length ≤ i)
    (hcell : ∀ y ∈ scope.names, y.2 ≠ .cell) (hkind : scope.kind = .function)
    (asg : ∀ (i : Nat) x T t C m' (s : Shared) (Q : Unit → Shared → Prop) (E' : Value → Shared → Prop), vs[i]? = some x → IsTup s.heap T #[.int (i : Int) t, x] → s.heap.Ns C m' → (∀ h' m₂ tk, h'.Ns C m₂ → Bd i m₂ → (∀ b o, b ≠ C → s.heap.get? b = some o → h'.get? b = some o) → Q () { s with heap := h', toks := tk }) →
      wpAny (model prog w) A (assign (.Tuple elts kk tp) (compEnvC scope cl C env) (.ref T)) Q E' s)
    (turn : ∀ I g tk₀, TurnX prog w A h₀ L m env elt c scope cl { s with heap := g, toks := tk₀ } [I + 1, I] vs.length J Bd)
    (post : ∀ g tk₀ D C h tk dr m' ys nx, Fr h₀ L h m → News h₀ L h ((D, lst ys) :: nx) → (∀ p ∈ nx, p.1 ≠ D) → h.Ns C m' → h₀.get? C = none → C ≠ L → C ≠ D → (∀ p ∈ nx, p.1 ≠ C) → J vs.length ys nx → compPost (model prog w) A E use Q (.ref D) C (.ok .next) { { s with heap := g, toks := tk₀ } with heap := h, toks := tk, drawn := dr }) :
    wpAny (model prog w) A (call (.type "enumerate") [.ref ax]) (SrcGoal prog w A E env elt (.Tuple elts kk tp) iter c scope cl pos use Q) E s := by
  have hm := (hJs _ _ _ h0).1
  have hl : s.heap.IsList ax vs.toArray := ⟨_, (N _ hm).1, rfl, k, rfl⟩
  have hlt : ax < s.heap.objs.size := Heap.lt_size (N _ hm).1
  have hLs : L < s.heap.objs.size := F.ns.lt
  refine call_enumerate_list hl fun h' hE hI hsz' hk => ?_
  refine wpAny_pyIter_enum hE ?_
  have W := KTurns.ofWalksU (elts := elts) (k := kk) (pos := tp) (WalksT.enumerate (prog := prog) (w := w) hh (s.heap.objs.size + 1) s.heap.objs.size ax (Nat.succ_ne_self _) (Nat.ne_of_lt (Nat.lt_succ_of_lt hlt)) (Nat.ne_of_lt hlt) vs.toArray).toU
  have hnew : ∀ a, s.heap.objs.size ≤ a → h₀.get? a = none := fun a ha => by
    cases e : h₀.get? a with
    | none => rfl
    | some o' => exact absurd (Heap.lt_size (F.keep a o' e)) (Nat.not_lt.mpr ha)
  refine comp_block (srcs := [(ax, listOf vs.toArray k)]) J (fun i v m₂ => Bd i m₂) W
    (fun s' Q' E' st hq => by obtain ⟨⟨old, he⟩, _⟩ := st; exact wpAny_pyIter_enum he hq)
    (by rw [List.size_toArray, sizeLine_eq]; omega) ?_ ?_ ?_ (fun i ys nx hj => (hJs i ys nx hj).2) hcell hkind ?_ ?_ (F.keeps hk) (N.grown hk) ?_ ?_ ?_ h0 ?_ ?_ ?_
  · rintro i h ⟨⟨old, he⟩, ⟨oi, hoi, _⟩, _⟩
    obtain ⟨oe, h1⟩ : ∃ oe : Obj, h.get? (s.heap.objs.size + 1) = some oe := ⟨_, he⟩
    exact ⟨[(s.heap.objs.size + 1, oe), (s.heap.objs.size, oi)], rfl, fun p hp => by
      rcases List.mem_cons.mp hp with rfl | hp
      · exact h1
      · rcases List.mem_singleton.mp hp with rfl; exact hoi⟩
  · intro b hb
    rcases List.mem_cons.mp hb with rfl | hb
    · exact .inl (.head _)
    rcases List.mem_cons.mp hb with rfl | hb
    · exact .inl (.tail _ (.head _))
    · rcases List.mem_singleton.mp hb with rfl
      exact .inr ⟨_, .head _⟩
  · intro i ys nx hj p hp
    rcases List.mem_singleton.mp hp with rfl
    exact (hJs i ys nx hj).1
  · exact ⟨⟨_, hE⟩, hI, hk _ _ (N _ hm).1 |> fun e => ⟨_, e, rfl, k, rfl⟩⟩
  · intro b hb
    have hsz2 : s.heap.objs.size + 2 ≤ h'.objs.size := by omega
    rcases List.mem_cons.mp hb with rfl | hb
    · show s.heap.objs.size + 1 < h'.objs.size
      omega
    rcases List.mem_cons.mp hb with rfl | hb
    · show s.heap.objs.size < h'.objs.size
      omega
    · rcases List.mem_singleton.mp hb with rfl
      exact Nat.lt_of_lt_of_le hlt (Nat.le_trans (Nat.le_add_right _ 2) hsz2)
  · intro hm'
    rcases List.mem_cons.mp hm' with e | hm'
    · exact absurd e (Nat.ne_of_lt (Nat.lt_succ_of_lt hLs))
    · exact absurd (List.mem_singleton.mp hm') (Nat.ne_of_lt hLs)
  · intro b hb
    rcases List.mem_cons.mp hb with rfl | hb
    · exact hnew _ (Nat.le_succ _)
    · rcases List.mem_singleton.mp hb with rfl
      exact hnew _ (Nat.le_refl _)
  · intro p hp hm'
    have hp' := Heap.lt_size (N p hp).1
    rcases List.mem_cons.mp hm' with e | hm'
    · exact absurd e (Nat.ne_of_lt (Nat.lt_succ_of_lt hp'))
    · exact absurd (List.mem_singleton.mp hm') (Nat.ne_of_lt hp')
  · rintro i v ys nx C m' s' Q' E' hi ⟨T, vals, rfl, ⟨t, x, hx, rfl⟩, hT⟩ hj Nx hn hq
    exact asg i x T t C m' s' Q' E' (by simpa using hx) hT hn hq
  · intro i v ys nx os C oC D m₂ h tk dr E' hi hB hj ho hC F' N' off' hCD hCw hDw
    exact turn s.heap.objs.size _ _ i ys nx os C oC D m₂ h tk dr E' (by simpa using hi) hB hj ho hC F' N' off' hCD hCw hDw
  · intro D C h tk dr m' ys nx F' N' offD hn hC₀ hD₀ hCL hDL hCD offC hj
    exact post _ _ D C h tk dr m' ys nx F' N' offD hn hC₀ hCL hCD offC (by simpa using hj)
end
end Mine
end PartV1c

section PartV1d
open PySem PySem.W PyProof.Rows PySem.Spec PySem.Calls PyProof.Rows.LCg
set_option Elab.async false
set_option maxRecDepth 100000
set_option linter.unusedVariables false
namespace Mine
theorem freshV1d : True ∧ True := by
  w_top off
  first | (walk1; all_goals trivial) | exact ⟨trivial, trivial⟩
section
variable {prog : Program} {w : World} {A : Around} {E : Value → Shared → Prop} {s : Shared} {env : Env} {elt target iter c : Expr} {scope : Scope} {cl : List (Str × Addr)} {pos : Pos}
theorem eval_comp0 {Q : Value → Shared → Prop} (hclos : closureFor scope env = pure cl) (hkind : scope.kind = .function) (hnames : ∀ y ∈ scope.names, y.2 = .local → scope.names.lookup y.1 = some .local)
    (h : wpAny (model prog w) A (eval iter env) (SrcGoal prog w A E env elt target iter none scope cl pos none Q) E s) (hs : ∀ x, foldedSetIterable iter env x = pure x) :
    wpAny (model prog w) A (eval (.ListComp elt [⟨target, iter, [], 0⟩] scope pos) env) Q E s := eval_comp (c := none) hclos hkind hnames h hs
theorem assign_comp0 {y : Str} {py spos : Pos} {Q : Flow → Shared → Prop}
    (hsw : swapsWith (.ListComp elt [⟨target, iter, [], 0⟩] scope pos) (some (.Name y py)) spos.line env = pure true)
    (hclos : closureFor scope env = pure cl) (hkind : scope.kind = .function) (hnames : ∀ z ∈ scope.names, z.2 = .local → scope.names.lookup z.1 = some .local)
    (h : wpAny (model prog w) A (eval iter env) (SrcGoal prog w A E env elt target iter none scope cl pos (some (assign (.Name y py) env)) (fun _ s' => Q .next s')) E s) (hs : ∀ x, foldedSetIterable iter env x = pure x) :
    wpAny (model prog w) A (exec (.Assign [.Name y py] (.ListComp elt [⟨target, iter, [], 0⟩] scope pos) spos) env) Q E s := assign_comp (c := none) hsw hclos hkind hnames h hs
theorem assign_comp1 {y : Str} {py spos : Pos} {Q : Flow → Shared → Prop}
    (hsw : swapsWith (.ListComp elt [⟨target, iter, [c], 0⟩] scope pos) (some (.Name y py)) spos.line env = pure true)
    (hclos : closureFor scope env = pure cl) (hkind : scope.kind = .function) (hnames : ∀ z ∈ scope.names, z.2 = .local → scope.names.lookup z.1 = some .local)
    (h : wpAny (model prog w) A (eval iter env) (SrcGoal prog w A E env elt target iter (some c) scope cl pos (some (assign (.Name y py) env)) (fun _ s' => Q .next s')) E s) (hs : ∀ x, foldedSetIterable iter env x = pure x) :
    wpAny (model prog w) A (exec (.Assign [.Name y py] (.ListComp elt [⟨target, iter, [c], 0⟩] scope pos) spos) env) Q E s := assign_comp (c := some c) hsw hclos hkind hnames h hs
end
end Mine
end PartV1d

section PartV1e
open PySem PySem.W PyProof.Rows PySem.Spec PySem.Calls PyProof.Rows.LCg
set_option Elab.async false
set_option maxRecDepth 100000
set_option maxHeartbeats 400000
set_option linter.unusedVariables false
namespace Mine
theorem freshV1e : True ∧ True := by
  w_top off
  first | (walk1; all_goals trivial) | exact ⟨trivial, trivial⟩
def pickTo (b : Nat → Bool) (items : List (Str × Tok)) (i : Nat) : List (Str × Tok) := ((List.range i).filter b).filterMap fun j => items[j]?
theorem pickTo_succ (b : Nat → Bool) (items : List (Str × Tok)) {i : Nat} {q : Str × Tok} (hq : items[i]? = some q) : pickTo b items (i + 1) = if b i = true then pickTo b items i ++ [q] else pickTo b items i := by
  unfold pickTo
  rw [List.range_succ, List.filter_append, List.filterMap_append]
  cases hb : b i with
  | true => simp [hb, hq]
  | false => simp [hb]
theorem pickTo_len (b : Nat → Bool) (items : List (Str × Tok)) (i : Nat) : (pickTo b items i).length ≤ i := by
  unfold pickTo
  exact Nat.le_trans (List.length_filterMap_le _ _) (Nat.le_trans (List.length_filter_le _ _) (by simp))
theorem pickTo_sub (b : Nat → Bool) (items : List (Str × Tok)) : ∀ i, i ≤ items.length → List.Sublist (pickTo b items i) (items.take i)
  | 0, _ => by simp [pickTo]
  | i + 1, h => by
    have hq : items[i]? = some items[i] := by simp [show i < items.length from h]
    rw [pickTo_succ b items hq, List.take_add_one, hq]
    have ih := pickTo_sub b items i (Nat.le_of_lt h)
    split
    · exact ih.append (List.Sublist.refl _)
    · exact ih.trans (List.sublist_append_left _ _)
theorem pick_nodup {b : Nat → Bool} {items l : List (Str × Tok)} (hl : l = pickTo b items items.length) (hn : (items.map (·.1)).Nodup) : (l.map (·.1)).Nodup := by
  subst hl
  have h := pickTo_sub b items items.length (Nat.le_refl _)
  rw [List.take_length] at h
  exact hn.sublist (h.map _)
theorem pickTo_mem {b : Nat → Bool} {items : List (Str × Tok)} {i : Nat} : ∀ p ∈ pickTo b items i, p ∈ items := by
  intro p hp
  obtain ⟨j, _, hj⟩ := List.mem_filterMap.mp hp
  exact List.mem_of_getElem? hj
theorem os_two {os : List (Addr × Obj)} {a b : Addr} (h : os.map (·.1) = [a, b]) : ∃ o1 o2, os = [(a, o1), (b, o2)] := by
  cases os with
  | nil => cases h
  | cons p os =>
    cases os with
    | nil => cases h
    | cons q os =>
      cases os with
      | nil =>
        obtain ⟨a', o1⟩ := p
        obtain ⟨b', o2⟩ := q
        injection h with h1 h2
        injection h2 with h2 _
        exact ⟨o1, o2, by dsimp only at h1 h2; rw [h1, h2]⟩
      | cons r os => cases h
theorem os_one {os : List (Addr × Obj)} {a : Addr} (h : os.map (·.1) = [a]) : ∃ o1, os = [(a, o1)] := by
  cases os with
  | nil => cases h
  | cons p os =>
    cases os with
    | nil =>
      obtain ⟨a', o1⟩ := p
      injection h with h1 _
      exact ⟨o1, by dsimp only at h1; rw [h1]⟩
    | cons q os => cases h
section
variable {prog : Program} {w : World} {A : Around} {E : Value → Shared → Prop} {s : Shared} {h₀ : Heap} {m : Str → Option Value} {env : Env} {elt iter c : Expr} {scope : Scope} {cl : List (Str × Addr)} {pos : Pos}
/-- [one for k, one in enumerate(texts) if a test of k] -/
theorem enum_pickA {x x₂ : Str} {px px₂ tp py : Pos} {kk : Nat} {y : Str} {U : Shared → Prop} {ax : Addr} {items : List (Str × Tok)} {k : Nat} {news : List (Addr × Obj)} (b : Nat → Bool)
    (hh : A.handled = none) (F : Fr h₀ env.locals s.heap m) (N : News h₀ env.locals s.heap news) (hsz : items.length ≤ 100000) (hm : (ax, listOf (strValues items).toArray k) ∈ news)
    (hcell : ∀ y ∈ scope.names, y.2 ≠ .cell) (hkind : scope.kind = .function) (hx : scope.names.lookup x = some .local) (hx₂ : scope.names.lookup x₂ = some .local) (hxx : x ≠ x₂)
    (hy : env.kindOf y = some .local) (hp : (env.scope.kind == .class || (env.scope.kind == .module && env.locals != env.globals)) = false)
    (test : ∀ (i : Nat) (q : Str × Tok) (t : Tok) (I : Addr) (o1 o2 : Obj) (C : Addr) (oC : Obj) (D : Addr) (m₂ : Str → Option Value) (ys : List Value) (g : Heap) (tk₀ : Nat) (h : Heap) (tk : Nat) (dr : Drawn) (E' : Value → Shared → Prop), i < items.length → items[i]? = some q → NsObj oC m₂ → m₂ x = some (.int (i : Nat) t) → m₂ x₂ = some (.str q.1 q.2) → Fr h₀ env.locals h m → News h₀ env.locals h ((I + 1, o1) :: (I, o2) :: (C, oC) :: (D, lst ys) :: news) →
      wpAny (model prog w) A (isTrue c (compEnvC scope cl C env) (eval c (compEnvC scope cl C env))) (fun ok s₃ => ok = b i ∧ wpAny (model prog w) A (eval elt (compEnvC scope cl C env)) (fun v s₄ => v = .str q.1 q.2 ∧ ∃ h' tk', s₄ = { { s with heap := g, toks := tk₀ } with heap := h', toks := tk', drawn := dr } ∧ Fr h₀ env.locals h' m ∧ News h₀ env.locals h' ((I + 1, o1) :: (I, o2) :: (C, oC) :: (D, lst ys) :: news)) E' s₃ ∧
        ∃ h' tk', s₃ = { { s with heap := g, toks := tk₀ } with heap := h', toks := tk', drawn := dr } ∧ Fr h₀ env.locals h' m ∧ News h₀ env.locals h' ((I + 1, o1) :: (I, o2) :: (C, oC) :: (D, lst ys) :: news)) E' { { s with heap := g, toks := tk₀ } with heap := h, toks := tk, drawn := dr })
    (fin : ∀ (D : Addr) (h : Heap) (tk : Nat) (dr : Drawn) (l : List (Str × Tok)), l = pickTo b items items.length → Fr h₀ env.locals h (fun z => if z = y then some (.ref D) else m z) → News h₀ env.locals h ((D, lst (strValues l)) :: news) → (∀ p ∈ news, p.1 ≠ D) → U { s with heap := h, toks := tk, drawn := dr }) :
    wpAny (model prog w) A (call (.type "enumerate") [.ref ax]) (SrcGoal prog w A E env elt (.Tuple [.Name x px, .Name x₂ px₂] kk tp) iter (some c) scope cl pos (some (assign (.Name y py) env)) (fun _ s' => U s')) E s := by
  refine enum_srcX (L := env.locals) (vs := strValues items) (k := k) (news := news) (fun i ys nx => nx = news ∧ ys = strValues (pickTo b items i) ∧ i ≤ items.length) (fun i m₂ => ∃ q t, items[i]? = some q ∧ m₂ x = some (.int (i : Nat) t) ∧ m₂ x₂ = some (.str q.1 q.2)) hh F N (by rw [strValues_len]; exact hsz) ⟨rfl, rfl, Nat.zero_le _⟩ ?_ hcell hkind ?_ ?_ ?_
  · rintro i ys nx ⟨rfl, rfl, _⟩
    exact ⟨hm, by rw [strValues_len]; exact pickTo_len _ _ _⟩
  · intro i v T t C m' s' Q' E' hv hT hn hq
    obtain ⟨q, hqi, rfl⟩ : ∃ q, items[i]? = some q ∧ v = .str q.1 q.2 := by
      simp only [strValues, List.getElem?_map] at hv
      cases hq : items[i]? with
      | none => rw [hq] at hv; cases hv
      | some q => rw [hq] at hv; exact ⟨q, rfl, (Option.some.inj hv).symm⟩
    exact pair_asg hh hx hx₂ hxx hkind hn hT fun h' m₂ tk hn' e1 e2 hk => hq h' m₂ tk hn' ⟨q, t, hqi, e1, e2⟩ hk
  · rintro I g tk₀ i ys nx os C oC D m₂ h tk dr E' hi ⟨q, t, hqi, e1, e2⟩ ⟨rfl, rfl, hil⟩ ho hC F' N' off' hCD hCw hDw
    rw [strValues_len] at hi
    obtain ⟨o1, o2, rfl⟩ := os_two ho
    have hps := pickTo_succ b items hqi
    refine wpAny_mono (test i q t I o1 o2 C oC D m₂ _ g tk₀ h tk dr E' hi hqi hC e1 e2 F' N') (fun ok s₃ hok => ?_) fun _ _ e => e
    obtain ⟨hb, helt, h', tk', rfl, F₃, N₃⟩ := hok
    cases hbi : b i with
    | true =>
      rw [hb, hbi, if_pos rfl]
      refine wpAny_mono helt (fun v s₄ hv => ?_) fun _ _ e => e
      obtain ⟨rfl, h₄, tk₄, rfl, F₄, N₄⟩ := hv
      refine EndX.of F₄ N₄ (fun p hp => hp) off' ⟨rfl, ?_, hi⟩
      rw [hps, if_pos hbi]; simp [strValues]
    | false =>
      rw [hb, hbi, if_neg Bool.false_ne_true]
      refine EndX.of F₃ N₃ (fun p hp => hp) off' ⟨rfl, ?_, hi⟩
      rw [hps, if_neg (by rw [hbi]; exact Bool.false_ne_true)]
  · rintro g tk₀ D C h tk dr m' ys nx F' N' offD hn hC₀ hCL hCD offC ⟨rfl, rfl, _⟩
    rw [strValues_len] at N'
    have hn2 : News h₀ env.locals h ((D, lst (strValues (pickTo b items (strValues items).length))) :: nx) := by rw [strValues_len]; exact N'
    refine post_assign (s := { s with heap := g, toks := tk₀ }) hy hp F' hn2 hn hC₀ hCL hCD offC fun h' tk' F₂ N₂ => ?_
    exact fin D h' tk' dr _ rfl F₂ (by rw [strValues_len] at N₂; exact N₂) offD
end
end Mine
end PartV1e

section PartW1a
open PySem PySem.W PyProof.Rows PySem.Spec PySem.Calls
set_option Elab.async false
set_option maxRecDepth 100000
set_option maxHeartbeats 400000
set_option linter.unusedVariables false
set_option genSizeOf false
set_option genInjectivity false
namespace Mine
theorem freshW1a : True ∧ True := by
  w_top off
  first | (walk1; all_goals trivial) | exact ⟨trivial, trivial⟩
/-- a reader -/
structure Rd where
  dG : Addr
  x : Addr
  dI : Addr
  dM : Addr
  aD : Addr
  t1 : Tok
  t2 : Tok
  t3 : Tok
  n : Nat
  oM : Obj
  lm : List (Str × Tok)
  l : List (Str × Tok)
def Rd.fix (w : World) (r : Rd) : List (Addr × Obj) := [(r.x, instObj 79 r.dI), (r.dI, igD w r.t1 r.t2 r.t3 r.n r.dM r.aD r.dG), (r.dM, r.oM), (r.aD, LCg.lst (strValues r.l))]
structure RdOk (w : World) (r : Rd) : Prop where
  set : StrSetObj w (ledOf w) r.lm r.oM
  lm3 : r.lm.length ≤ 3
  lms : ∀ q ∈ r.lm, q.2 ≠ 0 ∧ q.1.length ≤ 100
  ls : ∀ q ∈ r.l, q.1.length ≤ 100
  l3 : r.l.length ≤ 3
  ne : r.dI ≠ r.dG
  sys : (r.dG == sysModules) = false
theorem md_cls {w : World} {ks : List (Addr × Obj)} {mem : Mem} {o : Obj} (h : MdDict w ks mem o) : o.cls = .type "dict" := by
  obtain ⟨xs, ep, hex, _⟩ := h
  exact hex.1
theorem set_cls {w : World} {led : Bool} {l : List (Str × Tok)} {o : Obj} (h : StrSetObj w led l o) : o.cls = .type "set" := by
  obtain ⟨es, ep, t, hex, _⟩ := h
  exact hex.1
def offA (a : Addr) (l : List (Addr × Obj)) : List (Addr × Obj) := l.filter fun p => decide (p.1 ≠ a)
theorem offA_ne {a : Addr} {l : List (Addr × Obj)} : ∀ p ∈ offA a l, p.1 ≠ a := fun p hp => by simpa using (List.mem_filter.mp hp).2
theorem offA_mem {a : Addr} {l : List (Addr × Obj)} {p : Addr × Obj} (h : p ∈ l) (hn : p.1 ≠ a) : p ∈ offA a l := List.mem_filter.mpr ⟨h, by simpa using hn⟩
theorem offA_sub {a : Addr} {l : List (Addr × Obj)} : ∀ p ∈ offA a l, p ∈ l := fun p hp => (List.mem_filter.mp hp).1
section
variable {h₀ h : Heap} {L : Addr} {all : List (Addr × Obj)}
theorem news_one {a : Addr} {o o' : Obj} (N : News h₀ L h all) (h1 : (a, o) ∈ all) (h2 : (a, o') ∈ all) : o = o' := by
  have e1 := (N _ h1).1
  have e2 := (N _ h2).1
  exact Option.some.inj (e1.symm.trans e2)
theorem news_ne {a b : Addr} {o o' : Obj} (N : News h₀ L h all) (h1 : (a, o) ∈ all) (h2 : (b, o') ∈ all) (hc : o.cls ≠ o'.cls) : a ≠ b := fun e => by
  subst e
  exact hc (by rw [news_one N h1 h2])
end
theorem SpecS.use {bd : Nat} {f : Addr} {w : World} {vs : List Value} {news : List (Addr × Obj)} {Post : Value → List (Addr × Obj) → Prop} (h : SpecS bd f w vs news Post)
    {mean : ExcName → Option Value} {mg mb : Str → Option Value} {dp un : Nat} {gd : Option (List Code)} {cn : Str} {cs : Scope} {a : Addr} {ccd : Value} {cl : List (Str × Addr)} {A₀ : Around} {base h₀ : Heap} {L : Addr} {m : Str → Option Value} {s : Shared} {Q E : Value → Shared → Prop}
    (B : Below A₀ base [] h₀) (F : Fr h₀ L s.heap m) (X : (hd.heap_39 w.params).In h₀) (N : News h₀ L s.heap news) (T : Top hd.view_39 (looseW hd.view_39 []) mean mg mb h₀) (XB : (hd.heap_39 w.params).In base) (TB : Top hd.view_39 (looseW hd.view_39 []) mean mg mb base) (hk : cs.kind = .function)
    (hd1 : dp + bd < recursionLimit) (hu1 : un + 8 * bd + 100 < cLine)
    (hret : ∀ v h' tk' dr' news', Fr h₀ L h' m → News h₀ L h' news' → Post v news' → Q v { s with heap := h', toks := tk', drawn := dr' }) :
    wpAny (model PySem.Challenge.rw_nq0320_01.row.prog w) (ktrTop dp un gd cn cs L a ccd cl []) (call (.ref f) vs) Q E s :=
  h mean mg mb dp un gd cn cs a ccd cl A₀ base h₀ L m s Q E B F X N T XB TB hk hd1 hu1 hret
/-- a reader is asked -/
theorem said_use {w : World} {ks all : List (Addr × Obj)} {r : Rd} {o : Obj} {mem : Mem} {md : Md} {p : Pth} {mv pv : Value}
    {mean : ExcName → Option Value} {mg mb : Str → Option Value} {dp un : Nat} {gd : Option (List Code)} {cn : Str} {cs : Scope} {a : Addr} {ccd : Value} {cl : List (Str × Addr)} {A₀ : Around} {base h₀ : Heap} {L : Addr} {m : Str → Option Value} {s : Shared} {Q E : Value → Shared → Prop}
    (B : Below A₀ base [] h₀) (F : Fr h₀ L s.heap m) (X : (hd.heap_39 w.params).In h₀) (N : News h₀ L s.heap all) (T : Top hd.view_39 (looseW hd.view_39 []) mean mg mb h₀) (XB : (hd.heap_39 w.params).In base) (TB : Top hd.view_39 (looseW hd.view_39 []) mean mg mb base) (hk : cs.kind = .function)
    (hd1 : dp + 4 < recursionLimit) (hu1 : un + 8 * 4 + 100 < cLine)
    (ok : RdOk w r) (hdict : MdDict w ks mem o) (hks : ∀ q ∈ ks, q ∈ all ∧ q.2.cls = .type "tuple") (hfix : ∀ q ∈ r.fix w, q ∈ all) (ho : (r.dG, o) ∈ all) (hkey : KeyIn ks md mv) (hpath : PathIs p pv) (hmdl : ∀ y, md = .s y → y.length ≤ 100) (hpl : ∀ y, p = .s y → y.length ≤ 100) (hmem : mem.length ≤ 100)
    (hret : ∀ v h' tk' dr' o', Fr h₀ L h' m → News h₀ L h' ((r.dG, o') :: offA r.dG all) → AnsIs (saidA mem md p (r.lm.map (·.1)) (r.l.map (·.1))) v → MdDict w ks (saidM mem md p (r.lm.map (·.1)) (r.l.map (·.1))) o' → Q v { s with heap := h', toks := tk', drawn := dr' }) :
    wpAny (model PySem.Challenge.rw_nq0320_01.row.prog w) (ktrTop dp un gd cn cs L a ccd cl []) (call (.ref 102) [.ref r.x, mv, pv]) Q E s := by
  have hoc := md_cls hdict
  have f1 : (r.x, instObj 79 r.dI) ∈ all := hfix _ (.head _)
  have f2 : (r.dI, igD w r.t1 r.t2 r.t3 r.n r.dM r.aD r.dG) ∈ all := hfix _ (.tail _ (.head _))
  have f3 : (r.dM, r.oM) ∈ all := hfix _ (.tail _ (.tail _ (.head _)))
  have f4 : (r.aD, LCg.lst (strValues r.l)) ∈ all := hfix _ (.tail _ (.tail _ (.tail _ (.head _))))
  have n1 : r.x ≠ r.dG := news_ne N f1 ho (by rw [hoc]; intro e; cases e)
  have n3 : r.dM ≠ r.dG := news_ne N f3 ho (by rw [hoc, set_cls ok.set]; decide)
  have n4 : r.aD ≠ r.dG := news_ne N f4 ho (by rw [hoc]; exact (by decide : Value.type "list" ≠ Value.type "dict"))
  refine SpecS.use (said_spec w ks (offA r.dG all) r.dG r.x r.dI r.dM r.aD r.oM o r.t1 r.t2 r.t3 r.n r.lm r.l mem md p mv pv hdict ?_ ok.set ok.lm3 ok.lms ok.ls ok.l3 hkey hpath hmdl hpl hmem ok.sys ?_) B F X ?_ T XB TB hk hd1 hu1 ?_
  · intro q hq
    obtain ⟨h1, h2⟩ := hks q hq
    exact offA_mem h1 (news_ne (a := q.1) (o := q.2) N h1 ho (by rw [h2, hoc]; decide))
  · intro q hq
    rcases List.mem_cons.mp hq with rfl | hq
    · exact n1
    rcases List.mem_cons.mp hq with rfl | hq
    · exact ok.ne
    rcases List.mem_cons.mp hq with rfl | hq
    · exact n3
    rcases List.mem_cons.mp hq with rfl | hq
    · exact n4
    · exact offA_ne q hq
  · intro q hq
    rcases List.mem_cons.mp hq with rfl | hq
    · exact N _ ho
    rcases List.mem_cons.mp hq with rfl | hq
    · exact N _ f1
    rcases List.mem_cons.mp hq with rfl | hq
    · exact N _ f2
    rcases List.mem_cons.mp hq with rfl | hq
    · exact N _ f3
    rcases List.mem_cons.mp hq with rfl | hq
    · exact N _ f4
    · exact N _ (offA_sub q hq)
  · rintro v h' tk' dr' news' F' N' ⟨o', hA, hD, rfl⟩
    refine hret v h' tk' dr' o' F' (fun q hq => ?_) hA hD
    rcases List.mem_cons.mp hq with rfl | hq
    · exact N' _ (.head _)
    · exact N' _ (.tail _ (.tail _ (.tail _ (.tail _ (.tail _ hq)))))
end Mine
end PartW1a

section PartW1b
open PySem PySem.W PyProof.Rows PySem.Spec PySem.Calls
set_option Elab.async false
set_option maxRecDepth 100000
set_option maxHeartbeats 400000
set_option linter.unusedVariables false
set_option genSizeOf false
set_option genInjectivity false
namespace Mine
theorem freshW1b : True ∧ True := by
  w_top off
  first | (walk1; all_goals trivial) | exact ⟨trivial, trivial⟩
/-- a pair of lists: names, places -/
structure Pr where
  T : Addr
  nT : Nat
  aN : Addr
  nN : Nat
  lm : List (Str × Tok)
  aP : Addr
  nP : Nat
  ld : List (Str × Tok)
def Pr.led (q : Pr) : List (Addr × Obj) := [(q.T, { cls := .type "tuple", data := .seq #[.ref q.aN, .ref q.aP] q.nT }), (q.aN, listOf (strValues q.lm).toArray q.nN), (q.aP, listOf (strValues q.ld).toArray q.nP)]
structure PrOk (q : Pr) : Prop where
  lm3 : q.lm.length ≤ 3
  ld3 : q.ld.length ≤ 3
  nd : (q.lm.map (·.1)).Nodup
  lms : ∀ p ∈ q.lm, p.2 ≠ 0 ∧ p.1.length ≤ 100
  lds : ∀ p ∈ q.ld, p.1.length ≤ 100
  fix : ∀ p ∈ q.ld, DirOk p.1
def rdsLed (w : World) (rds : List (Rd × Obj)) : List (Addr × Obj) := rds.flatMap fun r => (r.1.dG, r.2) :: r.1.fix w
theorem rdsLed_app (w : World) (a b : List (Rd × Obj)) : rdsLed w (a ++ b) = rdsLed w a ++ rdsLed w b := by simp [rdsLed]
theorem rdsLed_mem {w : World} {rds : List (Rd × Obj)} {r : Rd × Obj} (h : r ∈ rds) : (r.1.dG, r.2) ∈ rdsLed w rds ∧ ∀ q ∈ r.1.fix w, q ∈ rdsLed w rds :=
  ⟨List.mem_flatMap.mpr ⟨r, h, .head _⟩, fun q hq => List.mem_flatMap.mpr ⟨r, h, .tail _ hq⟩⟩
/-- the readers made so far; what they remember -/
structure RdsOk (w : World) (ks : List (Addr × Obj)) (mems : List Mem) (prs : List Pr) (rds : List (Rd × Obj)) : Prop where
  ok : ∀ r ∈ rds, RdOk w r.1
  lists : rds.map (fun r => (r.1.lm, r.1.l.map (·.1))) = prs.map fun q => (q.lm, q.ld.map (·.1))
  memsLen : mems.length = rds.length
  dict : ∀ (j : Nat) (r : Rd × Obj) (mem : Mem), rds[j]? = some r → mems[j]? = some mem → MdDict w ks mem r.2
  apart : rds.Pairwise fun a b => a.1.dG ≠ b.1.dG
def firstMem : Mem := [(Md.s (Str.ofString "<string>"), 1)]
def RJ (w : World) (prs : List Pr) (base : List (Addr × Obj)) (i : Nat) (ys : List Value) (nx : List (Addr × Obj)) : Prop :=
  ∃ rds, ys = rds.map (fun r => Value.ref r.1.x) ∧ nx = rdsLed w rds ++ base ∧ i ≤ prs.length ∧ rds.length = i ∧ RdsOk w [] (List.replicate i firstMem) (prs.take i) rds ∧ ∀ p ∈ base, ∀ q ∈ rdsLed w rds, q.1 ≠ p.1
theorem init_use {w : World} {all : List (Addr × Obj)} {q : Pr}
    {mean : ExcName → Option Value} {mg mb : Str → Option Value} {dp un : Nat} {gd : Option (List Code)} {cn : Str} {cs : Scope} {a : Addr} {ccd : Value} {cl : List (Str × Addr)} {outer : List Env} {A₀ : Around} {base h₀ : Heap} {L : Addr} {m : Str → Option Value} {s : Shared} {Q E : Value → Shared → Prop}
    (B : Below A₀ base outer h₀) (F : Fr h₀ L s.heap m) (X : (hd.heap_39 w.params).In h₀) (N : News h₀ L s.heap all) (T : Top hd.view_39 (looseW hd.view_39 []) mean mg mb h₀) (hk : cs.kind = .function)
    (hd1 : dp + 6 < recursionLimit) (hu1 : un + 8 * 6 + 100 < cLine) (ok : PrOk q) (hq : ∀ p ∈ q.led, p ∈ all)
    (hret : ∀ h' tk' (r : Rd) o, Fr h₀ L h' m → News h₀ L h' ((r.dG, o) :: (r.fix w ++ all)) → RdOk w r → r.lm = q.lm → r.l.map (·.1) = q.ld.map (·.1) → MdDict w [] firstMem o → (∀ p ∈ all, p.1 ≠ r.dG ∧ ∀ f ∈ r.fix w, p.1 ≠ f.1) → Q (.ref r.x) { s with heap := h', toks := tk' }) :
    wpAny (model PySem.Challenge.rw_nq0320_01.row.prog w) (ktrTop dp un gd cn cs L a ccd cl outer) (call (.ref 79) [.ref q.aN, .ref q.aP]) Q E s := by
  refine Spec2.use (init_spec w all q.aN q.aP q.nN q.nP q.lm q.ld (hq _ (.tail _ (.head _))) (hq _ (.tail _ (.tail _ (.head _)))) ok.lm3 ok.ld3 ok.nd ok.fix) B F X N T hk hd1 hu1 ?_
  rintro v h' tk' news' F' N' ⟨dG, x, dI, dM, aD, oM, o, t1, t2, t3, n, l, rfl, hl, hll, hS, hD, k1, k2, k3, k4, k5, k6, k7, k8, k9, hsys, rfl⟩
  have hl' : l.map (·.1) = q.ld.map (·.1) := by
    rw [hl, List.map_map]
    refine List.map_congr_left fun p hp => ?_
    exact rfl
  refine hret h' tk' ⟨dG, x, dI, dM, aD, t1, t2, t3, n, oM, q.lm, l⟩ o F' (fun p hp => ?_) ⟨hS, ok.lm3, ok.lms, fun p hp => ?_, by rw [hll]; exact ok.ld3, ?_, hsys⟩ rfl hl' hD ?_
  · simp only [Rd.fix, List.cons_append, List.nil_append, List.mem_cons] at hp
    rcases hp with rfl | rfl | rfl | rfl | rfl | hp
    · exact N' _ (.head _)
    · exact N' _ (.tail _ (.tail _ (.tail _ (.head _))))
    · exact N' _ (.tail _ (.tail _ (.tail _ (.tail _ (.head _)))))
    · exact N' _ (.tail _ (.tail _ (.head _)))
    · exact N' _ (.tail _ (.head _))
    · exact N' _ (.tail _ (.tail _ (.tail _ (.tail _ (.tail _ hp)))))
  · have : p.1 ∈ l.map (·.1) := List.mem_map.mpr ⟨p, hp, rfl⟩
    rw [hl'] at this
    obtain ⟨p', hp', e⟩ := List.mem_map.mp this
    rw [← e]
    exact ok.lds p' hp'
  · exact Nat.ne_of_lt (Nat.lt_trans k2 (Nat.lt_trans k3 k4))
  · intro p hp
    have h1 := k1 p hp
    have h9 := k9 p hp
    refine ⟨Nat.ne_of_lt (Nat.lt_trans h1 (Nat.lt_trans k2 (Nat.lt_trans k3 k4))), fun f hf => ?_⟩
    simp only [Rd.fix, List.mem_cons, List.not_mem_nil, or_false] at hf
    rcases hf with rfl | rfl | rfl | rfl
    · exact Nat.ne_of_lt (Nat.lt_trans h1 k2)
    · exact Nat.ne_of_lt h1
    · exact Nat.ne_of_lt (Nat.lt_trans h1 (Nat.lt_trans k2 k3))
    · exact h9
theorem take_map_snoc {α β : Type} (f : α → β) {l : List α} {i : Nat} {x : α} (h : l[i]? = some x) : (l.take (i + 1)).map f = (l.take i).map f ++ [f x] := by
  rw [List.take_add_one, h]; simp
/-- one reader more -/
theorem rd_end {h₀ : Heap} {L I C D : Addr} {m : Str → Option Value} {s : Shared} {w : World} {oI oC : Obj} {prs : List Pr} {base : List (Addr × Obj)} {i : Nat} {ys : List Value} {nx : List (Addr × Obj)} {h' : Heap} {tk' : Nat} {dr : Drawn} {r : Rd} {o : Obj} {q : Pr}
    (hj : RJ w prs base i ys nx) (hq : prs[i]? = some q) (off : ∀ p ∈ nx, p.1 ≠ C ∧ p.1 ≠ D ∧ p.1 ∉ ([(I, oI)] : List (Addr × Obj)).map (·.1))
    (F : Fr h₀ L h' m) (N : News h₀ L h' ((r.dG, o) :: (r.fix w ++ ((I, oI) :: (C, oC) :: (D, LCg.lst ys) :: nx)))) (ok : RdOk w r) (e1 : r.lm = q.lm) (e2 : r.l.map (·.1) = q.ld.map (·.1)) (hD : MdDict w [] firstMem o)
    (hap : ∀ p ∈ (I, oI) :: (C, oC) :: (D, LCg.lst ys) :: nx, p.1 ≠ r.dG ∧ ∀ f ∈ r.fix w, p.1 ≠ f.1) :
    EndX h₀ L m s [(I, oI)] C D oC ys (RJ w prs base (i + 1) (ys ++ [Value.ref r.x])) { s with heap := h', toks := tk', drawn := dr } := by
  obtain ⟨rds, rfl, rfl, hi, hl, R, hsep⟩ := hj
  have hi' : i < prs.length := (List.getElem?_eq_some_iff.mp hq).1
  refine EndX.of (nx := rdsLed w (rds ++ [(r, o)]) ++ base) F N (fun p hp => ?_) (fun p hp => ?_) ⟨rds ++ [(r, o)], by simp, rfl, hi', by simp [hl], ⟨?_, ?_, ?_, ?_, ?_⟩, ?_⟩
  · rw [rdsLed_app] at hp
    simp only [List.cons_append, List.nil_append, List.mem_cons, List.mem_append] at hp ⊢
    rcases hp with hp | hp | hp | (hp | hp) | hp
    · exact .inr (.inr (.inl hp))
    · exact .inr (.inr (.inr (.inl hp)))
    · exact .inr (.inr (.inr (.inr (.inl hp))))
    · exact .inr (.inr (.inr (.inr (.inr (.inl hp)))))
    · simp only [rdsLed, List.flatMap_cons, List.flatMap_nil, List.append_nil, List.mem_cons] at hp
      exact hp.imp id .inl
    · exact .inr (.inr (.inr (.inr (.inr (.inr hp)))))
  · rw [rdsLed_app] at hp
    rcases List.mem_append.mp hp with hp | hp
    · rcases List.mem_append.mp hp with hp | hp
      · exact off p (List.mem_append_left _ hp)
      · have hI := hap _ (.head _)
        have hC := hap _ (.tail _ (.head _))
        have hDD := hap _ (.tail _ (.tail _ (.head _)))
        simp only [rdsLed, List.flatMap_cons, List.flatMap_nil, List.append_nil] at hp
        rcases List.mem_cons.mp hp with rfl | hp
        · exact ⟨Ne.symm hC.1, Ne.symm hDD.1, by simpa using Ne.symm hI.1⟩
        · exact ⟨Ne.symm (hC.2 p hp), Ne.symm (hDD.2 p hp), by simpa using Ne.symm (hI.2 p hp)⟩
    · exact off p (List.mem_append_right _ hp)
  · intro r' hr'
    rcases List.mem_append.mp hr' with hr' | hr'
    · exact R.ok r' hr'
    · rcases List.mem_singleton.mp hr' with rfl; exact ok
  · rw [List.map_append, R.lists, take_map_snoc _ hq, List.map_cons, List.map_nil, e1, e2]
  · simp [hl]
  · intro j r' mem hj hm
    have hmem : mem = firstMem := List.eq_of_mem_replicate (List.mem_of_getElem? hm)
    subst hmem
    by_cases hji : j < rds.length
    · rw [List.getElem?_append_left hji] at hj
      exact R.dict j r' firstMem hj (by rw [List.getElem?_replicate, if_pos (by omega)])
    · have : r' = (r, o) := by
        rw [List.getElem?_append_right (by omega)] at hj
        exact (List.mem_singleton.mp (List.mem_of_getElem? hj))
      subst this
      exact hD
  · refine List.pairwise_append.mpr ⟨R.apart, List.pairwise_singleton _ _, fun a ha b hb => ?_⟩
    rcases List.mem_singleton.mp hb with rfl
    exact (hap _ (.tail _ (.tail _ (.tail _ (List.mem_append_left _ (rdsLed_mem ha).1))))).1
  · intro p hp q' hq'
    rw [rdsLed_app] at hq'
    rcases List.mem_append.mp hq' with hq' | hq'
    · exact hsep p hp q' hq'
    · have hb := hap _ (.tail _ (.tail _ (.tail _ (List.mem_append_right _ hp))))
      simp only [rdsLed, List.flatMap_cons, List.flatMap_nil, List.append_nil] at hq'
      rcases List.mem_cons.mp hq' with rfl | hq'
      · exact Ne.symm hb.1
      · exact Ne.symm (hb.2 q' hq')
end Mine
end PartW1b

section PartW1c
open PySem PySem.W PyProof.Rows PySem.Spec PySem.Calls PyProof.Rows.LCg
set_option Elab.async false
set_option maxRecDepth 100000
set_option maxHeartbeats 400000
set_option linter.unusedVariables false
namespace Mine
theorem freshW1c : True ∧ True := by
  w_top off
  first | (walk1; all_goals trivial) | exact ⟨trivial, trivial⟩
/-- what making one reader must leave -/
def MadeRd (w : World) (h₀ : Heap) (L : Addr) (m : Str → Option Value) (s : Shared) (dr : Drawn) (q : Pr) (all : List (Addr × Obj)) (y : Value) (s₄ : Shared) : Prop :=
  ∃ h' tk' r o, y = Value.ref (Rd.x r) ∧ s₄ = { s with heap := h', toks := tk', drawn := dr } ∧ Fr h₀ L h' m ∧ News h₀ L h' ((r.dG, o) :: (r.fix w ++ all)) ∧ RdOk w r ∧ r.lm = q.lm ∧ r.l.map (·.1) = q.ld.map (·.1) ∧ MdDict w [] firstMem o ∧ (∀ p ∈ all, p.1 ≠ r.dG ∧ ∀ f ∈ r.fix w, p.1 ≠ f.1)
section
variable {prog : Program} {w : World} {A : Around} {E : Value → Shared → Prop} {s : Shared} {h₀ : Heap} {m : Str → Option Value} {env : Env} {elt iter : Expr} {scope : Scope} {cl : List (Str × Addr)} {pos : Pos}
theorem readers_src {x x₂ : Str} {px px₂ tp py : Pos} {kk : Nat} {y : Str} {U : Shared → Prop} {ax : Addr} {k : Nat} {news : List (Addr × Obj)} (prs : List Pr)
    (hh : A.handled = none) (F : Fr h₀ env.locals s.heap m) (N : News h₀ env.locals s.heap news) (hsz : prs.length ≤ 8) (hm : (ax, listOf (prs.map fun q => Value.ref q.T).toArray k) ∈ news) (hled : ∀ q ∈ prs, ∀ p ∈ q.led, p ∈ news)
    (hcell : ∀ y ∈ scope.names, y.2 ≠ .cell) (hkind : scope.kind = .function) (hx : scope.names.lookup x = some .local) (hx₂ : scope.names.lookup x₂ = some .local) (hxx : x ≠ x₂)
    (hy : env.kindOf y = some .local) (hp : (env.scope.kind == .class || (env.scope.kind == .module && env.locals != env.globals)) = false)
    (el : ∀ (q : Pr) (I : Addr) (oI : Obj) (C : Addr) (oC : Obj) (D : Addr) (m₂ : Str → Option Value) (ys : List Value) (nx : List (Addr × Obj)) (g h : Heap) (tk : Nat) (dr : Drawn) (E' : Value → Shared → Prop), q ∈ prs → NsObj oC m₂ → m₂ x = some (.ref q.aN) → m₂ x₂ = some (.ref q.aP) → Fr h₀ env.locals h m → News h₀ env.locals h ((I, oI) :: (C, oC) :: (D, lst ys) :: nx) → (∀ p ∈ q.led, p ∈ nx) →
      wpAny (model prog w) A (eval elt (compEnvC scope cl C env)) (MadeRd w h₀ env.locals m { s with heap := g } dr q ((I, oI) :: (C, oC) :: (D, lst ys) :: nx)) E' { { s with heap := g } with heap := h, toks := tk, drawn := dr })
    (fin : ∀ (D : Addr) (h : Heap) (tk : Nat) (dr : Drawn) (rds : List (Rd × Obj)), Fr h₀ env.locals h (fun z => if z = y then some (.ref D) else m z) → News h₀ env.locals h ((D, lst (rds.map fun r => Value.ref r.1.x)) :: (rdsLed w rds ++ news)) → (∀ p ∈ rdsLed w rds ++ news, p.1 ≠ D) → rds.length = prs.length → RdsOk w [] (List.replicate prs.length firstMem) prs rds → (∀ p ∈ news, ∀ q ∈ rdsLed w rds, q.1 ≠ p.1) → U { s with heap := h, toks := tk, drawn := dr }) :
    SrcGoal prog w A E env elt (.Tuple [.Name x px, .Name x₂ px₂] kk tp) iter none scope cl pos (some (assign (.Name y py) env)) (fun _ s' => U s') (.ref ax) s := by
  have hsub : ∀ {i ys nx}, RJ w prs news i ys nx → ∀ p ∈ news, p ∈ nx := by
    rintro i ys nx ⟨rds, rfl, rfl, _⟩ p hp
    exact List.mem_append_right _ hp
  refine src_listX (L := env.locals) (vs := prs.map fun q => Value.ref q.T) (k := k) (news := news) (RJ w prs news) (fun i m₂ => ∃ q, prs[i]? = some q ∧ m₂ x = some (.ref q.aN) ∧ m₂ x₂ = some (.ref q.aP)) hh F N (by rw [List.length_map]; omega)
    ⟨[], rfl, rfl, Nat.zero_le _, rfl, ⟨(fun _ h => nomatch h), rfl, rfl, (fun j r mem h _ => by cases h), List.Pairwise.nil⟩, (fun _ _ _ h => nomatch h)⟩ ?_ hcell hkind ?_ ?_ ?_
  · rintro i ys nx hj
    refine ⟨hsub hj _ hm, ?_⟩
    obtain ⟨rds, rfl, rfl, hi, hl, R, _⟩ := hj
    rw [List.length_map, hl]
    exact Nat.le_refl _
  · intro i v ys nx C m' s' Q' E' hv hj Nx hn hq
    obtain ⟨q, hqi, rfl⟩ : ∃ q, prs[i]? = some q ∧ v = Value.ref q.T := by
      rw [List.getElem?_map] at hv
      cases hq : prs[i]? with
      | none => rw [hq] at hv; cases hv
      | some q => rw [hq] at hv; exact ⟨q, rfl, (Option.some.inj hv).symm⟩
    have hT : IsTup s'.heap q.T #[.ref q.aN, .ref q.aP] := ⟨_, (Nx _ (hsub hj _ (hled q (List.mem_of_getElem? hqi) _ (.head _)))).1, rfl, q.nT, rfl⟩
    exact pair_asg hh hx hx₂ hxx hkind hn hT fun h' m₂ tk hn' e1 e2 hk => hq h' m₂ tk hn' ⟨q, hqi, e1, e2⟩ hk
  · rintro I g i ys nx os C oC D m₂ h tk dr E' hi ⟨q, hqi, e1, e2⟩ hj ho hC F' N' off' hCD hCw hDw
    obtain ⟨oI, rfl⟩ := os_one ho
    simp only [testW, ↓reduceIte]
    refine wpAny_mono (el q I oI C oC D m₂ ys nx g h tk dr E' (List.mem_of_getElem? hqi) hC e1 e2 F' N' fun p hp => hsub hj _ (hled q (List.mem_of_getElem? hqi) p hp)) (fun v s₄ hv => ?_) fun _ _ e => e
    obtain ⟨h', tk', r, o, rfl, rfl, F₄, N₄, ok, f1, f2, hD, hap⟩ := hv
    exact rd_end hj hqi off' F₄ N₄ ok f1 f2 hD hap
  · rintro g D C h tk dr m' ys nx F' N' offD hn hC₀ hCL hCD offC ⟨rds, rfl, rfl, hi, hl, R, hsep⟩
    refine post_assign (s := { s with heap := g }) hy hp F' N' hn hC₀ hCL hCD offC fun h' tk' F₂ N₂ => ?_
    rw [List.length_map] at hl R
    rw [List.take_length] at R
    exact fin D h' tk' dr rds F₂ N₂ offD hl R hsep
end
end Mine
end PartW1c

section PartW1d
open PySem PySem.W PyProof.Rows PySem.Spec PySem.Calls
set_option Elab.async false
set_option maxRecDepth 100000
set_option linter.unusedVariables false
namespace Mine
theorem freshW1d : True ∧ True := by
  w_top off
  first | (walk1; all_goals trivial) | exact ⟨trivial, trivial⟩
theorem tok_keptB {α : Type} {M : Model} {A : Around} {t : Sem α} {Q : α → Shared → Prop} {E : Value → Shared → Prop} {s : Shared} {n : Nat} (hn : n ≤ s.toks) (h : wpAny M A t (fun v s' => ∀ tk, n ≤ tk → Q v { s' with toks := tk }) E s) : wpAny M A t Q E s :=
  tok_kept hn (wpAny_mono h (fun v s' h' hk => h' s'.toks hk) fun _ _ e => e)
theorem mods_facts {b : Nat → Bool} {t1 : Tok} (h1 : 1 ≤ t1) {mods : List (Str × Tok)} (h : mods = pickTo b [(Str.ofString "a", t1), (Str.ofString "a.b", t1 + 1), (Str.ofString "b", t1 + 1 + 1)] 3) :
    mods.length ≤ 3 ∧ (mods.map (·.1)).Nodup ∧ ∀ p ∈ mods, p.2 ≠ 0 ∧ p.1.length ≤ 100 := by
  refine ⟨by rw [h]; exact pickTo_len _ _ _, pick_nodup (items := [(Str.ofString "a", t1), (Str.ofString "a.b", t1 + 1), (Str.ofString "b", t1 + 1 + 1)]) h ?_, ?_⟩
  · exact (by decide : [Str.ofString "a", Str.ofString "a.b", Str.ofString "b"].Nodup)
  · intro p hp
    rw [h] at hp
    have := pickTo_mem p hp
    simp only [List.mem_cons, List.not_mem_nil, or_false] at this
    rcases this with rfl | rfl | rfl
    · exact ⟨Nat.ne_of_gt h1, (by decide : (Str.ofString "a").length ≤ 100)⟩
    · exact ⟨Nat.succ_ne_zero _, (by decide : (Str.ofString "a.b").length ≤ 100)⟩
    · exact ⟨Nat.succ_ne_zero _, (by decide : (Str.ofString "b").length ≤ 100)⟩
theorem dirs_facts {b : Nat → Bool} {t1 : Tok} {dirs : List (Str × Tok)} (h : dirs = pickTo b [(Str.ofString "/l", t1), (Str.ofString "/w/a", t1 + 1)] 2) :
    dirs.length ≤ 3 ∧ ∀ p ∈ dirs, p.1.length ≤ 100 ∧ DirOk p.1 := by
  refine ⟨by rw [h]; exact Nat.le_trans (pickTo_len _ _ _) (by decide), ?_⟩
  intro p hp
  rw [h] at hp
  have := pickTo_mem p hp
  simp only [List.mem_cons, List.not_mem_nil, or_false] at this
  rcases this with rfl | rfl
  · exact ⟨(by decide : (Str.ofString "/l").length ≤ 100), .inl rfl⟩
  · exact ⟨(by decide : (Str.ofString "/w/a").length ≤ 100), .inr rfl⟩
end Mine
end PartW1d

section PartW1e
open PySem PySem.W PyProof.Rows PySem.Spec PySem.Calls PyProof.Rows.LCg
set_option Elab.async false
set_option maxRecDepth 100000
set_option maxHeartbeats 400000
set_option linter.unusedVariables false
set_option genSizeOf false
set_option genInjectivity false
namespace Mine
theorem freshW1e : True ∧ True := by
  w_top off
  first | (walk1; all_goals trivial) | exact ⟨trivial, trivial⟩
theorem off1_of {D : Addr} : ∀ {l : List (Addr × Obj)}, (∀ p ∈ l, p.1 ≠ D) → LCg.Off1 D l
  | [], _ => trivial
  | p :: l, h => ⟨h p (.head _), off1_of fun q hq => h q (.tail _ hq)⟩
def tup2 (a b : Addr) (n : Nat) : Obj := { cls := .type "tuple", data := .seq #[.ref a, .ref b] n }
structure Fix1 where
  T1 : Addr
  T2 : Addr
  T3 : Addr
  T4 : Addr
  e1 : Addr
  e2 : Addr
  e3 : Addr
  e4 : Addr
  aM : Addr
  aD : Addr
  mods : List (Str × Tok)
  dirs : List (Str × Tok)
def Fix1.prs (f : Fix1) : List Pr :=
  [⟨f.T1, 0, f.e1, 0, [], f.e2, 0, []⟩, ⟨f.T2, 0, f.aM, (strValues f.mods).length, f.mods, f.e3, 0, []⟩, ⟨f.T3, 0, f.e4, 0, [], f.aD, (strValues f.dirs).length, f.dirs⟩, ⟨f.T4, 0, f.aM, (strValues f.mods).length, f.mods, f.aD, (strValues f.dirs).length, f.dirs⟩]
structure Fix1Ok (f : Fix1) : Prop where
  m3 : f.mods.length ≤ 3
  mn : (f.mods.map (·.1)).Nodup
  ms : ∀ p ∈ f.mods, p.2 ≠ 0 ∧ p.1.length ≤ 100
  d3 : f.dirs.length ≤ 3
  ds : ∀ p ∈ f.dirs, p.1.length ≤ 100 ∧ DirOk p.1
theorem Fix1Ok.pr {f : Fix1} (h : Fix1Ok f) : ∀ q ∈ f.prs, PrOk q := by
  intro q hq
  simp only [Fix1.prs, List.mem_cons, List.not_mem_nil, or_false] at hq
  rcases hq with rfl | rfl | rfl | rfl
  · exact ⟨by simp, by simp, by simp, (fun _ h => nomatch h), (fun _ h => nomatch h), (fun _ h => nomatch h)⟩
  · exact ⟨h.m3, by simp, h.mn, h.ms, (fun _ h => nomatch h), (fun _ h => nomatch h)⟩
  · exact ⟨by simp, h.d3, by simp, (fun _ h => nomatch h), fun p hp => (h.ds p hp).1, fun p hp => (h.ds p hp).2⟩
  · exact ⟨h.m3, h.d3, h.mn, h.ms, fun p hp => (h.ds p hp).1, fun p hp => (h.ds p hp).2⟩
section
variable {prog : Program} {w : World} {A : Around} {E : Value → Shared → Prop} {s : Shared} {h₀ : Heap} {m : Str → Option Value} {env : Env} {elt iter : Expr} {scope : Scope} {cl : List (Str × Addr)} {pos : Pos}
theorem readers_src4 {x x₂ : Str} {px px₂ tp py : Pos} {kk : Nat} {y : Str} {U : Shared → Prop} {ax T1 T2 T3 T4 e1 e2 e3 e4 aM aD : Addr} {mods dirs : List (Str × Tok)} {news : List (Addr × Obj)}
    (hh : A.handled = none) (F : Fr h₀ env.locals s.heap m) (N : News h₀ env.locals s.heap news)
    (hm : (ax, listOf #[.ref T1, .ref T2, .ref T3, .ref T4] 0) ∈ news) (m1 : (T1, tup2 e1 e2 0) ∈ news) (m2 : (T2, tup2 aM e3 0) ∈ news) (m3 : (T3, tup2 e4 aD 0) ∈ news) (m4 : (T4, tup2 aM aD 0) ∈ news)
    (n1 : (e1, listOf #[] 0) ∈ news) (n2 : (e2, listOf #[] 0) ∈ news) (n3 : (e3, listOf #[] 0) ∈ news) (n4 : (e4, listOf #[] 0) ∈ news) (l1 : (aM, lst (strValues mods)) ∈ news) (l2 : (aD, lst (strValues dirs)) ∈ news)
    (ok : mods.length ≤ 3 ∧ (mods.map (·.1)).Nodup ∧ ∀ p ∈ mods, p.2 ≠ 0 ∧ p.1.length ≤ 100) (okD : dirs.length ≤ 3 ∧ ∀ p ∈ dirs, p.1.length ≤ 100 ∧ DirOk p.1)
    (hcell : ∀ y ∈ scope.names, y.2 ≠ .cell) (hkind : scope.kind = .function) (hx : scope.names.lookup x = some .local) (hx₂ : scope.names.lookup x₂ = some .local) (hxx : x ≠ x₂)
    (hy : env.kindOf y = some .local) (hp : (env.scope.kind == .class || (env.scope.kind == .module && env.locals != env.globals)) = false)
    (el : ∀ (q : Pr) (I : Addr) (oI : Obj) (C : Addr) (oC : Obj) (D : Addr) (m₂ : Str → Option Value) (ys : List Value) (nx : List (Addr × Obj)) (g h : Heap) (tk : Nat) (dr : Drawn) (E' : Value → Shared → Prop), PrOk q → NsObj oC m₂ → m₂ x = some (.ref q.aN) → m₂ x₂ = some (.ref q.aP) → Fr h₀ env.locals h m → News h₀ env.locals h ((I, oI) :: (C, oC) :: (D, lst ys) :: nx) → (∀ p ∈ q.led, p ∈ nx) →
      wpAny (model prog w) A (eval elt (compEnvC scope cl C env)) (MadeRd w h₀ env.locals m { s with heap := g } dr q ((I, oI) :: (C, oC) :: (D, lst ys) :: nx)) E' { { s with heap := g } with heap := h, toks := tk, drawn := dr })
    (fin : ∀ (D : Addr) (h : Heap) (tk : Nat) (dr : Drawn) (rds : List (Rd × Obj)) (f : Fix1), f = ⟨T1, T2, T3, T4, e1, e2, e3, e4, aM, aD, mods, dirs⟩ → Fix1Ok f → (∀ q ∈ f.prs, ∀ p ∈ q.led, p ∈ news) → Fr h₀ env.locals h (fun z => if z = y then some (.ref D) else m z) → News h₀ env.locals h ((D, lst (rds.map fun r => Value.ref r.1.x)) :: (news ++ rdsLed w rds)) → LCg.Off1 D news → (∀ q ∈ rdsLed w rds, q.1 ≠ D) → rds.length = 4 → RdsOk w [] (List.replicate 4 firstMem) f.prs rds → (∀ p ∈ news, ∀ q ∈ rdsLed w rds, q.1 ≠ p.1) → U { s with heap := h, toks := tk, drawn := dr }) :
    SrcGoal prog w A E env elt (.Tuple [.Name x px, .Name x₂ px₂] kk tp) iter none scope cl pos (some (assign (.Name y py) env)) (fun _ s' => U s') (.ref ax) s := by
  have hf : Fix1Ok ⟨T1, T2, T3, T4, e1, e2, e3, e4, aM, aD, mods, dirs⟩ := ⟨ok.1, ok.2.1, ok.2.2, okD.1, okD.2⟩
  have hled : ∀ q ∈ (Fix1.mk T1 T2 T3 T4 e1 e2 e3 e4 aM aD mods dirs).prs, ∀ p ∈ q.led, p ∈ news := by
    intro q hq p hp
    simp only [Fix1.prs, List.mem_cons, List.not_mem_nil, or_false] at hq
    rcases hq with rfl | rfl | rfl | rfl <;> simp only [Pr.led, List.mem_cons, List.not_mem_nil, or_false] at hp <;> rcases hp with rfl | rfl | rfl <;> assumption
  refine readers_src (Fix1.mk T1 T2 T3 T4 e1 e2 e3 e4 aM aD mods dirs).prs hh F N (show 4 ≤ 8 by decide) hm hled hcell hkind hx hx₂ hxx hy hp ?_ ?_
  · intro q I oI C oC D m₂ ys nx g h tk dr E' hq hC f1 f2 F' N' hl
    exact el q I oI C oC D m₂ ys nx g h tk dr E' (hf.pr q hq) hC f1 f2 F' N' hl
  · intro D h tk dr rds F' N' off hl R hsep
    refine fin D h tk dr rds _ rfl hf hled F' (fun p hp => N' p ?_) (off1_of fun p hp => off p (List.mem_append_right _ hp)) (fun p hp => off p (List.mem_append_left _ hp)) hl R hsep
    rcases List.mem_cons.mp hp with rfl | hp
    · exact .head _
    · rcases List.mem_append.mp hp with hp | hp
      · exact .tail _ (List.mem_append_right _ hp)
      · exact .tail _ (List.mem_append_left _ hp)
end
end Mine
end PartW1e

section PartW1f
open PySem PySem.W PyProof.Rows PySem.Spec PySem.Calls PyProof.Rows.LCg
set_option Elab.async false
set_option maxRecDepth 100000
set_option maxHeartbeats 400000
set_option linter.unusedVariables false
set_option genSizeOf false
set_option genInjectivity false
namespace Mine
theorem freshW1f : True ∧ True := by
  w_top off
  first | (walk1; all_goals trivial) | exact ⟨trivial, trivial⟩
/-- one ask: its tuple, the module, the path; U: the tuple of a text that stood in the menu -/
structure Ask where
  T : Addr
  nT : Nat
  md : Md
  p : Pth
  mv : Value
  pv : Value
  U : Addr
  u : Tok
  nU : Nat
def tupV (a b : Value) (n : Nat) : Obj := { cls := .type "tuple", data := .seq #[a, b] n }
def Ask.key (a : Ask) : List (Addr × Obj) := [(a.U, tupO (Str.ofString "a") a.u a.nU)]
def Ask.led (a : Ask) : List (Addr × Obj) := (a.T, tupV a.mv a.pv a.nT) :: a.key
structure AskOk (a : Ask) : Prop where
  key : KeyIn a.key a.md a.mv
  path : PathIs a.p a.pv
  mds : ∀ y, a.md = .s y → y.length ≤ 100
  ps : ∀ y, a.p = .s y → y.length ≤ 100
def askLed (asks : List Ask) : List (Addr × Obj) := asks.flatMap Ask.led
theorem askLed_app (a b : List Ask) : askLed (a ++ b) = askLed a ++ askLed b := by simp [askLed]
theorem askLed_mem {asks : List Ask} {a : Ask} (h : a ∈ asks) : ∀ q ∈ a.led, q ∈ askLed asks := fun q hq => List.mem_flatMap.mpr ⟨a, h, hq⟩
structure AskSt where
  asks : List Ask
  oM : Obj
  oP : Obj
  vM : Option Value
  vP : Option Value
  n : Nat
def ledA (aA cM cP : Addr) (rest : List (Addr × Obj)) (c : AskSt) : List (Addr × Obj) := (aA, listOf (c.asks.map fun a => Value.ref a.T).toArray c.n) :: (cM, c.oM) :: (cP, c.oP) :: (rest ++ askLed c.asks)
structure GoodA (aA cM cP : Addr) (c : AskSt) : Prop where
  ok : ∀ a ∈ c.asks, AskOk a
  cellM : c.oM.data = .cell c.vM
  cellP : c.oP.data = .cell c.vP
  off : ∀ q ∈ askLed c.asks, q.1 ≠ aA ∧ q.1 ≠ cM ∧ q.1 ≠ cP
def AJ (aA cM cP : Addr) (rest : List (Addr × Obj)) (x : Str) (m₀ : Str → Option Value) (i : Nat) (m : Str → Option Value) (nx : List (Addr × Obj)) : Prop :=
  ∃ c, nx = ledA aA cM cP rest c ∧ c.asks.length = i ∧ GoodA aA cM cP c ∧ ∀ y, y ≠ x → m y = m₀ y
section
variable {prog : Program} {w : World} {A : Around} {E : Value → Shared → Prop} {s : Shared} {env : Env} {h₀ : Heap}
theorem for_asks {x : Str} {px : Pos} {body : List Stmt} {l aA cM cP : Addr} {vs : List Value} {xs : List Int} {nn : Nat} {m₀ : Str → Option Value} {news rest : List (Addr × Obj)} {Q : Flow → Shared → Prop} (c₀ : AskSt)
    (hh : A.handled = none) (hl : (l, listOf vs.toArray nn) ∈ rest) (hI : IntsAre vs xs)
    (F : Fr h₀ env.locals s.heap m₀) (N : News h₀ env.locals s.heap news) (hN : ∀ p ∈ ledA aA cM cP rest c₀, p ∈ news) (hc : c₀.asks = []) (hg : GoodA aA cM cP c₀) (hE : PassesOwn (model prog w) A env E)
    (turn : ∀ (i : Nat) z t c (u : Str → Option Value) h tk I io, z ∈ xs → i < xs.length → c.asks.length = i → GoodA aA cM cP c → (∀ p ∈ ledA aA cM cP rest c, p.1 ≠ I) → Fr h₀ env.locals h (fun y => if y = x then u y else m₀ y) → News h₀ env.locals h ((I, io) :: ledA aA cM cP rest c) →
      wpAny (model prog w) A (assign (.Name x px) env (.int z t)) (fun _ s₂ => wpAny (model prog w) A (execs body env) (TurnPost h₀ env.locals I io (AJ aA cM cP rest x m₀ (i + 1)) Q s) E s₂) E { s with heap := h, toks := tk })
    (done : ∀ c (u : Str → Option Value) h tk, c.asks.length = xs.length → GoodA aA cM cP c → Fr h₀ env.locals h (fun y => if y = x then u y else m₀ y) → News h₀ env.locals h (ledA aA cM cP rest c) → Q .next { s with heap := h, toks := tk }) :
    wpAny (model prog w) A (pyIter (.ref l)) (fun it s₂ => codeAny (model prog w) A (.forLoop (.Name x px) it body [] env) (fun r s' => match r with | .ok f => Q f s' | .error e => cameBackBy (model prog w) A env E e s') s₂) E s := by
  have split : ∀ m₁ : Str → Option Value, (∀ y, y ≠ x → m₁ y = m₀ y) → m₁ = fun y => if y = x then m₁ y else m₀ y := by
    intro m₁ hm
    funext y
    by_cases e : y = x
    · rw [if_pos e]
    · rw [if_neg e, hm y e]
  have hlen : vs.length = xs.length := hI.length
  refine for_list (vs := vs) (nn := nn) (news := ledA aA cM cP rest c₀) (m₀ := m₀) (AJ aA cM cP rest x m₀) hh ?_ F (fun p hp => N p (hN p hp)) ⟨c₀, rfl, by rw [hc]; rfl, hg, fun _ _ => rfl⟩ hE ?_ ?_
  · rintro i m nx ⟨c, rfl, _⟩
    exact .tail _ (.tail _ (.tail _ (List.mem_append_left _ hl)))
  · rintro i v m₁ nx h tk I io hv ⟨c, rfl, hlc, hgc, hm⟩ hne F' N'
    obtain ⟨z, t, rfl, hz⟩ := IntsAre.at hI i v hv
    rw [split m₁ hm] at F'
    exact turn i z t c m₁ h tk I io (List.mem_of_getElem? hz) (List.getElem?_eq_some_iff.mp hz).1 hlc hgc hne F' N'
  · rintro m₁ nx h tk ⟨c, rfl, hlc, hgc, hm⟩ F' N'
    rw [split m₁ hm] at F'
    exact done c m₁ h tk (by rw [hlc, hlen]) hgc F' N'
end
/-- one ask more -/
theorem ask_end {h₀ : Heap} {L I aA cM cP : Addr} {io : Obj} {rest all : List (Addr × Obj)} {x : Str} {m₀ m' : Str → Option Value} {Q : Flow → Shared → Prop} {s : Shared} {h' : Heap} {tk k : Nat} {c : AskSt} {a : Ask} {oM oP : Obj} {vM vP : Option Value} {n : Nat}
    (F : Fr h₀ L h' m') (N : News h₀ L h' all) (hg : GoodA aA cM cP c) (ha : AskOk a) (hk : c.asks.length + 1 = k)
    (hall : ∀ p ∈ (I, io) :: (aA, listOf ((c.asks.map fun a => Value.ref a.T) ++ [Value.ref a.T]).toArray n) :: (cM, oM) :: (cP, oP) :: (rest ++ askLed c.asks), p ∈ all) (hled : ∀ p ∈ a.led, p ∈ all)
    (hI : ∀ p ∈ ledA aA cM cP rest c, p.1 ≠ I) (hoff : ∀ q ∈ a.led, q.1 ≠ aA ∧ q.1 ≠ cM ∧ q.1 ≠ cP ∧ q.1 ≠ I) (d1 : oM.data = .cell vM) (d2 : oP.data = .cell vP) (hm : ∀ y, y ≠ x → m' y = m₀ y) :
    TurnPost h₀ L I io (AJ aA cM cP rest x m₀ k) Q s .next { s with heap := h', toks := tk } := by
  refine TurnPost.next (nx := ledA aA cM cP rest ⟨c.asks ++ [a], oM, oP, vM, vP, n⟩) F N (fun p hp => ?_) (fun p hp => ?_) ⟨_, rfl, by simpa using hk, ⟨?_, d1, d2, ?_⟩, hm⟩
  · simp only [ledA, askLed_app, List.map_append, List.map_cons, List.map_nil, List.mem_cons, List.mem_append] at hp
    rcases hp with hp | hp | hp | hp | hp | hp | hp
    · exact hall _ (hp ▸ .head _)
    · exact hall _ (hp ▸ .tail _ (.head _))
    · exact hall _ (hp ▸ .tail _ (.tail _ (.head _)))
    · exact hall _ (hp ▸ .tail _ (.tail _ (.tail _ (.head _))))
    · exact hall _ (.tail _ (.tail _ (.tail _ (.tail _ (List.mem_append_left _ hp)))))
    · exact hall _ (.tail _ (.tail _ (.tail _ (.tail _ (List.mem_append_right _ hp)))))
    · exact hled _ (by simpa [askLed] using hp)
  · simp only [ledA, askLed_app, List.mem_cons, List.mem_append] at hp
    rcases hp with hp | hp | hp | hp | hp | hp
    · rw [hp]; exact hI (aA, listOf (c.asks.map fun a => Value.ref a.T).toArray c.n) (.head _)
    · rw [hp]; exact hI (cM, c.oM) (.tail _ (.head _))
    · rw [hp]; exact hI (cP, c.oP) (.tail _ (.tail _ (.head _)))
    · exact hI _ (.tail _ (.tail _ (.tail _ (List.mem_append_left _ hp))))
    · exact hI _ (.tail _ (.tail _ (.tail _ (List.mem_append_right _ hp))))
    · exact (hoff p (by simpa [askLed] using hp)).2.2.2
  · intro b hb
    rcases List.mem_append.mp hb with hb | hb
    · exact hg.ok b hb
    · rcases List.mem_singleton.mp hb with rfl; exact ha
  · intro q hq
    rw [askLed_app] at hq
    rcases List.mem_append.mp hq with hq | hq
    · exact hg.off q hq
    · have := hoff q (by simpa [askLed] using hq)
      exact ⟨this.1, this.2.1, this.2.2.1⟩
section
variable {prog : Program} {w : World} {A : Around} {E : Value → Shared → Prop} {s : Shared} {h₀ : Heap} {L D : Addr} {news : List (Addr × Obj)} {n : Nat} {Q : Value → Shared → Prop} {value slice : Expr} {vs : List Value} {u : Tok} {j : Int}
/-- an item of a menu at an open place -/
theorem menu_at (N : News h₀ L s.heap news) (hm : (D, listOf vs.toArray n) ∈ news) (h0 : 0 ≤ j) (h1 : j < vs.length) (hz : vs.length ≤ 1000)
    (h : ∀ v, v ∈ vs → Q v s) (hs : subscripted slice false (.ref D) (.int j u) = operate [.ref D, .int j u] (getItem (.ref D) (.int j u))) :
    wpAny (model prog w) A (subscriptTail value slice (.ref D) (.int j u)) Q E s := by
  have hl : s.heap.IsList D vs.toArray := News.isList N hm
  have hj : j.toNat < vs.length := by omega
  have hq : vs.toArray[j.toNat]? = some vs[j.toNat] := by simp [hj]
  exact tail_any hl.typeIs slot_list_getitem.lookup (wpAny_getItem_list hl h0 (by omega) hq (h _ (List.getElem_mem hj))) hs
end
end Mine
end PartW1f

section PartW1g
open PySem PySem.W PyProof.Rows PySem.Spec PySem.Calls PyProof.Rows.LCg
set_option Elab.async false
set_option maxRecDepth 100000
set_option maxHeartbeats 400000
set_option linter.unusedVariables false
namespace Mine
theorem freshW1g : True ∧ True := by
  w_top off
  first | (walk1; all_goals trivial) | exact ⟨trivial, trivial⟩
def NoCell (o : Obj) : Prop := ∀ v, o.data ≠ .cell v
theorem abs_rest {h₀ h : Heap} {L : Addr} {all : List (Addr × Obj)} {o2 o3 o4 o5 : Obj} {v2 v3 v4 v5 : Option Value} (N : News h₀ L h all)
    (m2 : (L + 1 + 1, o2) ∈ all) (m3 : (L + 1 + 1 + 1, o3) ∈ all) (m4 : (L + 1 + 1 + 1 + 1, o4) ∈ all) (m5 : (L + 1 + 1 + 1 + 1 + 1, o5) ∈ all)
    (d2 : o2.data = .cell v2) (d3 : o3.data = .cell v3) (d4 : o4.data = .cell v4) (d5 : o5.data = .cell v5) :
    ∃ rest, News h₀ L h ((L + 1 + 1, o2) :: (L + 1 + 1 + 1, o3) :: (L + 1 + 1 + 1 + 1, o4) :: (L + 1 + 1 + 1 + 1 + 1, o5) :: rest) ∧
      (∀ p ∈ rest, p.1 ≠ L + 1 + 1) ∧ (∀ p ∈ rest, p.1 ≠ L + 1 + 1 + 1) ∧ (∀ p ∈ rest, p.1 ≠ L + 1 + 1 + 1 + 1) ∧ (∀ p ∈ rest, p.1 ≠ L + 1 + 1 + 1 + 1 + 1) ∧
      ∀ p ∈ all, NoCell p.2 → p ∈ rest := by
  have ne : ∀ {a : Addr} {o : Obj} {v : Option Value}, (a, o) ∈ all → o.data = .cell v → ∀ p ∈ all, NoCell p.2 → p.1 ≠ a := by
    intro a o v hm hd p hp hc e
    obtain ⟨b, o'⟩ := p
    dsimp only at e
    subst e
    have := news_one N hm hp
    subst this
    exact hc _ hd
  refine ⟨offA (L + 1 + 1) (offA (L + 1 + 1 + 1) (offA (L + 1 + 1 + 1 + 1) (offA (L + 1 + 1 + 1 + 1 + 1) all))), ?_, offA_ne, fun p hp => offA_ne p (offA_sub p hp), fun p hp => offA_ne p (offA_sub p (offA_sub p hp)), fun p hp => offA_ne p (offA_sub p (offA_sub p (offA_sub p hp))), ?_⟩
  · intro p hp
    rcases List.mem_cons.mp hp with rfl | hp
    · exact N _ m2
    rcases List.mem_cons.mp hp with rfl | hp
    · exact N _ m3
    rcases List.mem_cons.mp hp with rfl | hp
    · exact N _ m4
    rcases List.mem_cons.mp hp with rfl | hp
    · exact N _ m5
    · exact N _ (offA_sub p (offA_sub p (offA_sub p (offA_sub p hp))))
  · intro p hp hc
    exact offA_mem (offA_mem (offA_mem (offA_mem hp (ne m5 d5 p hp hc)) (ne m4 d4 p hp hc)) (ne m3 d3 p hp hc)) (ne m2 d2 p hp hc)
theorem abs_rest2 {h₀ h : Heap} {L : Addr} {X : Addr × Obj} {news R : List (Addr × Obj)} {o2 o3 o4 o5 : Obj} {v2 v3 v4 v5 : Option Value} (N : News h₀ L h (X :: (news ++ R)))
    (m2 : (L + 1 + 1, o2) ∈ news) (m3 : (L + 1 + 1 + 1, o3) ∈ news) (m4 : (L + 1 + 1 + 1 + 1, o4) ∈ news) (m5 : (L + 1 + 1 + 1 + 1 + 1, o5) ∈ news)
    (d2 : o2.data = .cell v2) (d3 : o3.data = .cell v3) (d4 : o4.data = .cell v4) (d5 : o5.data = .cell v5) :
    ∃ rest, News h₀ L h ((L + 1 + 1, o2) :: (L + 1 + 1 + 1, o3) :: (L + 1 + 1 + 1 + 1, o4) :: (L + 1 + 1 + 1 + 1 + 1, o5) :: rest) ∧
      (∀ p ∈ rest, p.1 ≠ L + 1 + 1) ∧ (∀ p ∈ rest, p.1 ≠ L + 1 + 1 + 1) ∧ (∀ p ∈ rest, p.1 ≠ L + 1 + 1 + 1 + 1) ∧ (∀ p ∈ rest, p.1 ≠ L + 1 + 1 + 1 + 1 + 1) ∧
      (NoCell X.2 → X ∈ rest) ∧ (∀ p ∈ news, NoCell p.2 → p ∈ rest) ∧ (∀ p ∈ R, NoCell p.2 → p ∈ rest) := by
  obtain ⟨rest, NR, x2, x3, x4, x5, hin⟩ := abs_rest N (.tail _ (List.mem_append_left _ m2)) (.tail _ (List.mem_append_left _ m3)) (.tail _ (List.mem_append_left _ m4)) (.tail _ (List.mem_append_left _ m5)) d2 d3 d4 d5
  exact ⟨rest, NR, x2, x3, x4, x5, hin _ (.head _), fun p hp => hin p (.tail _ (List.mem_append_left _ hp)), fun p hp => hin p (.tail _ (List.mem_append_right _ hp))⟩
theorem lists_f {f : Fix1} {a T1 T2 T3 T4 e1 e2 e3 e4 aM aD : Addr} {mods dirs : List (Str × Tok)} {rest : List (Addr × Obj)} (hf : f = ⟨T1, T2, T3, T4, e1, e2, e3, e4, aM, aD, mods, dirs⟩) (h : (a, listOf #[.ref T1, .ref T2, .ref T3, .ref T4] 0) ∈ rest) :
    (a, listOf (f.prs.map fun q => Value.ref q.T).toArray 0) ∈ rest := by subst hf; exact h
theorem pr_data {q : Pr} : ∀ p ∈ q.led, NoCell p.2 := by
  intro p hp v e
  simp only [Pr.led, List.mem_cons, List.not_mem_nil, or_false] at hp
  rcases hp with rfl | rfl | rfl <;> cases e
theorem md_data {w : World} {ks : List (Addr × Obj)} {mem : Mem} {o : Obj} (h : MdDict w ks mem o) : NoCell o := by
  obtain ⟨xs, ep, _, hd, _⟩ := h
  intro v e
  rw [hd] at e; cases e
theorem fix_data {w : World} {r : Rd} (ok : RdOk w r) : ∀ p ∈ r.fix w, NoCell p.2 := by
  intro p hp v e
  simp only [Rd.fix, List.mem_cons, List.not_mem_nil, or_false] at hp
  rcases hp with rfl | rfl | rfl | rfl
  · cases e
  · cases e
  · obtain ⟨es, ep, t, _, hd, _⟩ := ok.set
    dsimp only at e
    rw [hd] at e; cases e
  · cases e
theorem rds_data {w : World} {ks : List (Addr × Obj)} {mems : List Mem} {prs : List Pr} {rds : List (Rd × Obj)} (R : RdsOk w ks mems prs rds) : ∀ p ∈ rdsLed w rds, NoCell p.2 := by
  intro p hp
  obtain ⟨r, hr, hp⟩ := List.mem_flatMap.mp hp
  rcases List.mem_cons.mp hp with rfl | hp
  · obtain ⟨j, hj, rfl⟩ := List.mem_iff_getElem.mp hr
    have hjm : j < mems.length := by rw [R.memsLen]; exact hj
    exact md_data (R.dict j rds[j] mems[j] (by simp [hj]) (by simp [hjm]))
  · exact fix_data (R.ok r hr) p hp
end Mine
end PartW1g

section PartW1h
open PySem PySem.W PyProof.Rows PySem.Spec PySem.Calls PyProof.Rows.LCg
set_option Elab.async false
set_option maxRecDepth 100000
set_option maxHeartbeats 400000
set_option linter.unusedVariables false
namespace Mine
theorem freshW1h : True ∧ True := by
  w_top off
  first | (walk1; all_goals trivial) | exact ⟨trivial, trivial⟩
theorem ledA_start {aA cM cP : Addr} {S Y1 Y2 X2 X3 : Addr × Obj} {oM oP : Obj} {vM vP : Option Value} {rest : List (Addr × Obj)} :
    ∀ p ∈ ledA aA cM cP (S :: X2 :: X3 :: rest) ⟨[], oM, oP, vM, vP, 0⟩, p ∈ S :: Y1 :: Y2 :: (aA, listOf #[] 0) :: X2 :: X3 :: (cM, oM) :: (cP, oP) :: rest := by
  intro p hp
  simp only [ledA, askLed, List.flatMap_nil, List.append_nil, List.mem_cons] at hp ⊢
  rcases hp with hp | hp | hp | hp | hp | hp | hp
  · exact .inr (.inr (.inr (.inl hp)))
  · exact .inr (.inr (.inr (.inr (.inr (.inr (.inl hp))))))
  · exact .inr (.inr (.inr (.inr (.inr (.inr (.inr (.inl hp)))))))
  · exact .inl hp
  · exact .inr (.inr (.inr (.inr (.inl hp))))
  · exact .inr (.inr (.inr (.inr (.inr (.inl hp)))))
  · exact .inr (.inr (.inr (.inr (.inr (.inr (.inr (.inr hp)))))))
theorem menu_md {v : Value} {t0 t1 t2 t3 t4 t5 t7 u : Tok} {U : Addr} {b : Array UInt8} {i : Int} {nU : Nat}
    (h : v ∈ [Value.str (Str.ofString "a") t0, .str (Str.ofString "a.b") t1, .str (Str.ofString "ab") t2, .str (Str.ofString "b.a") t3, .int i t4, .bytes b t5, .ref U, .str (Str.ofString "<string>") t7]) :
    ∃ md, KeyIn [(U, tupO (Str.ofString "a") u nU)] md v ∧ ∀ y, md = .s y → y.length ≤ 100 := by
  simp only [List.mem_cons, List.not_mem_nil, or_false] at h
  rcases h with rfl | rfl | rfl | rfl | rfl | rfl | rfl | rfl
  · exact ⟨.s (Str.ofString "a"), ⟨_, rfl⟩, fun y e => by injection e with e; rw [← e]; decide⟩
  · exact ⟨.s (Str.ofString "a.b"), ⟨_, rfl⟩, fun y e => by injection e with e; rw [← e]; decide⟩
  · exact ⟨.s (Str.ofString "ab"), ⟨_, rfl⟩, fun y e => by injection e with e; rw [← e]; decide⟩
  · exact ⟨.s (Str.ofString "b.a"), ⟨_, rfl⟩, fun y e => by injection e with e; rw [← e]; decide⟩
  · exact ⟨.n i, ⟨_, rfl⟩, fun y e => by cases e⟩
  · exact ⟨.b b, ⟨_, rfl⟩, fun y e => by cases e⟩
  · exact ⟨.t (Str.ofString "a"), ⟨U, u, nU, rfl, .head _⟩, fun y e => by cases e⟩
  · exact ⟨.s (Str.ofString "<string>"), ⟨_, rfl⟩, fun y e => by injection e with e; rw [← e]; decide⟩
theorem menu_path {v : Value} {t0 t1 t2 t4 t5 : Tok} {b : Array UInt8} {i : Int}
    (h : v ∈ [Value.str (Str.ofString "/l/f.py") t0, .str (Str.ofString "/w/a/f.py") t1, .str (Str.ofString "/w/f.py") t2, .none, .int i t4, .bytes b t5]) :
    ∃ p, PathIs p v ∧ ∀ y, p = .s y → y.length ≤ 100 := by
  simp only [List.mem_cons, List.not_mem_nil, or_false] at h
  rcases h with rfl | rfl | rfl | rfl | rfl | rfl
  · exact ⟨.s (Str.ofString "/l/f.py"), ⟨_, rfl⟩, fun y e => by injection e with e; rw [← e]; decide⟩
  · exact ⟨.s (Str.ofString "/w/a/f.py"), ⟨_, rfl⟩, fun y e => by injection e with e; rw [← e]; decide⟩
  · exact ⟨.s (Str.ofString "/w/f.py"), ⟨_, rfl⟩, fun y e => by injection e with e; rw [← e]; decide⟩
  · exact ⟨.none, rfl, fun y e => by cases e⟩
  · exact ⟨.n i, ⟨_, rfl⟩, fun y e => by cases e⟩
  · exact ⟨.b b, ⟨_, rfl⟩, fun y e => by cases e⟩
end Mine
end PartW1h

section PartW1i
open PySem PySem.W PyProof.Rows PySem.Spec PySem.Calls PyProof.Rows.LCg
set_option Elab.async false
set_option maxRecDepth 100000
set_option maxHeartbeats 400000
set_option linter.unusedVariables false
namespace Mine
theorem freshW1i : True ∧ True := by
  w_top off
  first | (walk1; all_goals trivial) | exact ⟨trivial, trivial⟩
theorem news_off {h₀ h : Heap} {L : Addr} {all : List (Addr × Obj)} {a b : Addr} {o o' : Obj} (N : News h₀ L h all) (h1 : (a, o) ∈ all) (h2 : (b, o') ∈ all) (hc : o ≠ o') : a ≠ b := fun e => by
  subst e
  exact hc (news_one N h1 h2)
/-- one ask more, as the walk leaves it -/
theorem ask_end2 {h₀ : Heap} {L I aA cM cP T U : Addr} {P M : Addr × Obj} {io : Obj} {rest : List (Addr × Obj)} {x : Str} {m₀ m' : Str → Option Value} {Q : Flow → Shared → Prop} {s : Shared} {h' : Heap} {tk k nT nU n : Nat} {u : Tok} {c : AskSt} {oM oP : Obj} {vM vP : Option Value} {md : Md} {pp : Pth} {v pv : Value}
    (F : Fr h₀ L h' m') (N : News h₀ L h' ((T, tupV v pv nT) :: P :: M :: (U, tupO (Str.ofString "a") u nU) :: (I, io) :: (aA, listOf ((c.asks.map fun a => Value.ref a.T) ++ [Value.ref T]).toArray n) :: (cM, oM) :: (cP, oP) :: (rest ++ askLed c.asks)))
    (hg : GoodA aA cM cP c) (hmd : KeyIn [(U, tupO (Str.ofString "a") u nU)] md v) (hpp : PathIs pp pv) (hml : ∀ y, md = .s y → y.length ≤ 100) (hpl : ∀ y, pp = .s y → y.length ≤ 100) (hk : c.asks.length + 1 = k)
    (hI : ∀ p ∈ ledA aA cM cP rest c, p.1 ≠ I) (tI : T ≠ I) (uI : U ≠ I) (d1 : oM.data = .cell vM) (d2 : oP.data = .cell vP) (hm : ∀ y, y ≠ x → m' y = m₀ y) :
    TurnPost h₀ L I io (AJ aA cM cP rest x m₀ k) Q s .next { s with heap := h', toks := tk } := by
  have mT : (T, tupV v pv nT) ∈ (T, tupV v pv nT) :: P :: M :: (U, tupO (Str.ofString "a") u nU) :: (I, io) :: (aA, listOf ((c.asks.map fun a => Value.ref a.T) ++ [Value.ref T]).toArray n) :: (cM, oM) :: (cP, oP) :: (rest ++ askLed c.asks) := .head _
  have mU : (U, tupO (Str.ofString "a") u nU) ∈ (T, tupV v pv nT) :: P :: M :: (U, tupO (Str.ofString "a") u nU) :: (I, io) :: (aA, listOf ((c.asks.map fun a => Value.ref a.T) ++ [Value.ref T]).toArray n) :: (cM, oM) :: (cP, oP) :: (rest ++ askLed c.asks) := .tail _ (.tail _ (.tail _ (.head _)))
  have mA : (aA, listOf ((c.asks.map fun a => Value.ref a.T) ++ [Value.ref T]).toArray n) ∈ (T, tupV v pv nT) :: P :: M :: (U, tupO (Str.ofString "a") u nU) :: (I, io) :: (aA, listOf ((c.asks.map fun a => Value.ref a.T) ++ [Value.ref T]).toArray n) :: (cM, oM) :: (cP, oP) :: (rest ++ askLed c.asks) := .tail _ (.tail _ (.tail _ (.tail _ (.tail _ (.head _)))))
  have mM : (cM, oM) ∈ (T, tupV v pv nT) :: P :: M :: (U, tupO (Str.ofString "a") u nU) :: (I, io) :: (aA, listOf ((c.asks.map fun a => Value.ref a.T) ++ [Value.ref T]).toArray n) :: (cM, oM) :: (cP, oP) :: (rest ++ askLed c.asks) := .tail _ (.tail _ (.tail _ (.tail _ (.tail _ (.tail _ (.head _))))))
  have mP : (cP, oP) ∈ (T, tupV v pv nT) :: P :: M :: (U, tupO (Str.ofString "a") u nU) :: (I, io) :: (aA, listOf ((c.asks.map fun a => Value.ref a.T) ++ [Value.ref T]).toArray n) :: (cM, oM) :: (cP, oP) :: (rest ++ askLed c.asks) := .tail _ (.tail _ (.tail _ (.tail _ (.tail _ (.tail _ (.tail _ (.head _)))))))
  have c1 : tupV v pv nT ≠ listOf ((c.asks.map fun a => Value.ref a.T) ++ [Value.ref T]).toArray n := fun e => by have := congrArg Obj.cls e; exact absurd this (by decide : Value.type "tuple" ≠ Value.type "list")
  have c2 : tupO (Str.ofString "a") u nU ≠ listOf ((c.asks.map fun a => Value.ref a.T) ++ [Value.ref T]).toArray n := fun e => by have := congrArg Obj.cls e; exact absurd this (by decide : Value.type "tuple" ≠ Value.type "list")
  refine ask_end (a := ⟨T, nT, md, pp, v, pv, U, u, nU⟩) (oM := oM) (oP := oP) (n := n) F N hg ⟨hmd, hpp, hml, hpl⟩ hk (fun p hp => .tail _ (.tail _ (.tail _ (.tail _ hp)))) ?_ hI ?_ d1 d2 hm
  · exact List.forall_mem_cons.mpr ⟨mT, List.forall_mem_cons.mpr ⟨mU, fun _ h => nomatch h⟩⟩
  · refine List.forall_mem_cons.mpr ⟨⟨news_off N mT mA c1, news_off N mT mM ?_, news_off N mT mP ?_, tI⟩, List.forall_mem_cons.mpr ⟨⟨news_off N mU mA c2, news_off N mU mM ?_, news_off N mU mP ?_, uI⟩, fun _ h => nomatch h⟩⟩
    · intro e; rw [← e] at d1; cases d1
    · intro e; rw [← e] at d2; cases d2
    · intro e; rw [← e] at d1; cases d1
    · intro e; rw [← e] at d2; cases d2
end Mine
end PartW1i

section PartX1a
open PySem PySem.W PyProof.Rows PySem.Spec PySem.Calls PyProof.Rows.LCg
set_option Elab.async false
set_option maxRecDepth 100000
set_option maxHeartbeats 2000000
set_option linter.unusedVariables false
namespace Mine
theorem freshX1a : True ∧ True := by
  w_top off
  first | (walk1; all_goals trivial) | exact ⟨trivial, trivial⟩
/-- a turn of a for over an enumerate; a set's order may be drawn in it -/
def EnumPostX (h₀ : Heap) (L I : Addr) (o1 o2 : Obj) (J : (Str → Option Value) → List (Addr × Obj) → Prop) (Q : Flow → Shared → Prop) (s : Shared) (f : Flow) (s₂ : Shared) : Prop :=
  match f with
  | .ret v => Q (.ret v) s₂
  | .brk => Q .next s₂
  | _ => ∃ h' tk dr m' nx, s₂ = { s with heap := h', toks := tk, drawn := dr } ∧ Fr h₀ L h' m' ∧ News h₀ L h' ((I + 1, o1) :: (I, o2) :: nx) ∧ (∀ p ∈ nx, p.1 ≠ I ∧ p.1 ≠ I + 1) ∧ J m' nx
theorem EnumPostX.next {h₀ : Heap} {L I : Addr} {o1 o2 : Obj} {J : (Str → Option Value) → List (Addr × Obj) → Prop} {Q : Flow → Shared → Prop} {s : Shared} {h' : Heap} {tk : Nat} {dr : Drawn} {m' : Str → Option Value} {nx all : List (Addr × Obj)}
    (F : Fr h₀ L h' m') (N : News h₀ L h' all) (hs : ∀ p ∈ (I + 1, o1) :: (I, o2) :: nx, p ∈ all) (hne : ∀ p ∈ nx, p.1 ≠ I ∧ p.1 ≠ I + 1) (hj : J m' nx) : EnumPostX h₀ L I o1 o2 J Q s .next { s with heap := h', toks := tk, drawn := dr } :=
  ⟨h', tk, dr, m', nx, rfl, F, fun p hp => N p (hs p hp), hne, hj⟩
section
variable {prog : Program} {w : World} {A : Around} {E : Value → Shared → Prop} {s : Shared} {env : Env} {h₀ : Heap} {body : List Stmt} {Q : Flow → Shared → Prop}
theorem enum_listX {elts : List Expr} {k : Nat} {pos : Pos} {l : Addr} {vs : List Value} {n : Nat} {m₀ : Str → Option Value} {news : List (Addr × Obj)}
    (J : Nat → (Str → Option Value) → List (Addr × Obj) → Prop)
    (hh : A.handled = none) (hJl : ∀ i m nx, J i m nx → (l, listOf vs.toArray n) ∈ nx)
    (F : Fr h₀ env.locals s.heap m₀) (N : News h₀ env.locals s.heap news) (h0 : J 0 m₀ news) (hEE : PassesOwn (model prog w) A env E)
    (turn : ∀ i v T t m₁ nx h tk dr I o1 o2, vs[i]? = some v → J i m₁ nx → (∀ p ∈ nx, p.1 ≠ I ∧ p.1 ≠ I + 1) → IsTup h T #[.int (i : Int) t, v] → Fr h₀ env.locals h m₁ → News h₀ env.locals h ((I + 1, o1) :: (I, o2) :: nx) →
      wpAny (model prog w) A (assign (.Tuple elts k pos) env (.ref T)) (fun _ s₂ => wpAny (model prog w) A (execs body env) (EnumPostX h₀ env.locals I o1 o2 (J (i + 1)) Q s) E s₂) E { s with heap := h, toks := tk, drawn := dr })
    (done : ∀ m₁ nx h tk dr, J vs.length m₁ nx → Fr h₀ env.locals h m₁ → News h₀ env.locals h nx → Q .next { s with heap := h, toks := tk, drawn := dr }) :
    wpAny (model prog w) A (call (.type "enumerate") [.ref l]) (fun xv s₁ => wpAny (model prog w) A (pyIter xv) (fun it s₂ => codeAny (model prog w) A (.forLoop (.Tuple elts k pos) it body [] env) (fun r s' => match r with | .ok f => Q f s' | .error e => cameBackBy (model prog w) A env E e s') s₂) E s₁) E s := by
  have hm := hJl _ _ _ h0
  have hl : s.heap.IsList l vs.toArray := ⟨_, (N _ hm).1, rfl, n, rfl⟩
  have hlt : l < s.heap.objs.size := Heap.lt_size (N _ hm).1
  have hLs : env.locals < s.heap.objs.size := F.ns.lt
  refine call_enumerate_list hl fun h' hE hI hsz' hk => ?_
  refine wpAny_pyIter_enum hE ?_
  generalize hII : s.heap.objs.size = I at *
  have W := KTurns.ofWalksU (elts := elts) (k := k) (pos := pos) (WalksT.enumerate (prog := prog) (w := w) hh (I + 1) I l (Nat.succ_ne_self _) (Nat.ne_of_lt (Nat.lt_succ_of_lt hlt)) (Nat.ne_of_lt hlt) vs.toArray).toU
  have hnew : ∀ a, I ≤ a → h₀.get? a = none := fun a ha => by
    cases e : h₀.get? a with
    | none => rfl
    | some o' => exact absurd (hII ▸ Heap.lt_size (F.keep a o' e)) (Nat.not_lt.mpr ha)
  have wr₀ : ∀ b ∈ [I + 1, I], h₀.get? b = none := by
    intro b hb
    rcases List.mem_cons.mp hb with rfl | hb
    · exact hnew _ (Nat.le_succ _)
    · rcases List.mem_singleton.mp hb with rfl
      exact hnew _ (Nat.le_refl _)
  have hLw : env.locals ∉ [I + 1, I] := by
    intro hm'
    rcases List.mem_cons.mp hm' with e | hm'
    · exact absurd e (Nat.ne_of_lt (Nat.lt_succ_of_lt hLs))
    · exact absurd (List.mem_singleton.mp hm') (Nat.ne_of_lt hLs)
  have out : ∀ {nx : List (Addr × Obj)}, (∀ p ∈ nx, p.1 ≠ I ∧ p.1 ≠ I + 1) → ∀ p ∈ nx, p.1 ∉ [I + 1, I] := by
    intro nx h p hp hm'
    rcases List.mem_cons.mp hm' with e | hm'
    · exact (h p hp).2 e
    · exact (h p hp).1 (List.mem_singleton.mp hm')
  refine codeAny_forLoop_any
    (fun q s' => ∃ i h tk dr m₁ nx, s' = { s with heap := h, toks := tk, drawn := dr } ∧ i ≤ vs.length ∧ q = vs.length + 1 - i ∧ ((∃ old, IsEnum h (I + 1) I (i : Int) old) ∧ h.IsListIter I l i ∧ h.IsList l vs.toArray) ∧ Fr h₀ env.locals h m₁ ∧ News h₀ env.locals h nx ∧ (∀ p ∈ nx, p.1 ≠ I ∧ p.1 ≠ I + 1) ∧ J i m₁ nx) ?_ (vs.length + 1)
    ⟨0, h', _, s.drawn, m₀, news, rfl, Nat.zero_le _, rfl, ⟨⟨_, hE⟩, hI, hk _ _ (N _ hm).1 |> fun e => ⟨_, e, rfl, n, rfl⟩⟩, F.keeps hk, N.grown hk, fun p hp => ?_, h0⟩
  · rintro q s' ⟨i, h, tk, dr, m₁, nx, rfl, hi, rfl, hst, F', N', off', hj⟩
    have offw := out off'
    by_cases hlt' : i < vs.length
    · refine W.item i _ _ _ (by simpa using hlt') hst fun v h₂ tk₂ hMd hk₂ => ?_
      refine W.go i v _ _ _ hMd fun h₃ hP hst₃ hk₃ => ?_
      obtain ⟨T, vals, rfl, ⟨t, x, hx, rfl⟩, hT⟩ := hP
      have k23 : ∀ b o, b ∉ [I + 1, I] → h.get? b = some o → h₃.get? b = some o := fun b o hb e => hk₃ b o hb (hk₂ b o hb e)
      have F₃ := fr_wr F' k23 hLw wr₀
      have N₃ := news_wr N' k23 offw
      obtain ⟨⟨old, he⟩, ⟨oi, hoi, hoi2⟩, hli⟩ := id hst₃
      obtain ⟨oe, h1⟩ : ∃ oe : Obj, h₃.get? (I + 1) = some oe := ⟨_, he⟩
      have N₅ : News h₀ env.locals h₃ ((I + 1, oe) :: (I, oi) :: nx) := fun p hp => by
        rcases List.mem_cons.mp hp with rfl | hp
        · exact ⟨h1, fun e => hLw (e ▸ .head _), wr₀ _ (.head _)⟩
        rcases List.mem_cons.mp hp with rfl | hp
        · exact ⟨hoi, fun e => hLw (e ▸ .tail _ (.head _)), wr₀ _ (.tail _ (.head _))⟩
        · exact N₃ p hp
      have t' := turn i x T t m₁ nx h₃ tk₂ dr I oe oi (by simpa using hx) hj off' hT F₃ N₅
      refine wpAny_mono (wpAny_passesOwn hEE t') (fun _ s₂ h₂ => wpAny_mono (wpAny_passesOwn hEE h₂) (fun f s₃ p => ?_) fun _ _ e => e) fun _ _ e => e
      have fin : (∃ h' tk dr m' nx, s₃ = { s with heap := h', toks := tk, drawn := dr } ∧ Fr h₀ env.locals h' m' ∧ News h₀ env.locals h' ((I + 1, oe) :: (I, oi) :: nx) ∧ (∀ p ∈ nx, p.1 ≠ I ∧ p.1 ≠ I + 1) ∧ J (i + 1) m' nx) →
          ∃ m, m < vs.length + 1 - i ∧ ∃ i h tk dr m₁ nx, s₃ = { s with heap := h, toks := tk, drawn := dr } ∧ i ≤ vs.length ∧ m = vs.length + 1 - i ∧ ((∃ old, IsEnum h (I + 1) I (i : Int) old) ∧ h.IsListIter I l i ∧ h.IsList l vs.toArray) ∧ Fr h₀ env.locals h m₁ ∧ News h₀ env.locals h nx ∧ (∀ p ∈ nx, p.1 ≠ I ∧ p.1 ≠ I + 1) ∧ J i m₁ nx := by
        rintro ⟨h₄, tk₄, dr₄, m₄, nx₄, rfl, F₄, N₄, off₄, j₄⟩
        refine ⟨vs.length + 1 - (i + 1), by omega, i + 1, h₄, tk₄, dr₄, m₄, nx₄, rfl, hlt', rfl, ⟨⟨old, ?_⟩, ⟨oi, (N₄ _ (.tail _ (.head _))).1, hoi2⟩, ?_⟩, F₄, fun p hp => N₄ p (.tail _ (.tail _ hp)), off₄, j₄⟩
        · have h2 := (N₄ _ (.head _)).1
          have h3 : h₄.get? (I + 1) = h₃.get? (I + 1) := h2.trans h1.symm
          exact h3.trans he
        · exact ⟨_, (N₄ _ (.tail _ (.tail _ (hJl _ _ _ j₄)))).1, rfl, n, rfl⟩
      cases f with
      | ret v => exact p
      | brk => exact p
      | next => exact fin p
      | cont => exact fin p
    · obtain rfl : i = vs.length := Nat.le_antisymm hi (Nat.not_lt.mp hlt')
      refine W.done _ _ _ (by simpa using hst) fun h₂ tk₂ hk₂ => wpAny_execs_nil ?_
      exact done m₁ nx h₂ tk₂ dr hj (fr_wr F' hk₂ hLw wr₀) (news_wr N' hk₂ offw)
  · have := hII ▸ Heap.lt_size (N p hp).1
    exact ⟨Nat.ne_of_lt this, Nat.ne_of_lt (Nat.lt_succ_of_lt this)⟩
end
end Mine
end PartX1a

section PartX1b
open PySem PySem.W PyProof.Rows PySem.Spec PySem.Calls PyProof.Rows.LCg
set_option Elab.async false
set_option maxRecDepth 100000
set_option maxHeartbeats 2000000
set_option linter.unusedVariables false
namespace Mine
theorem freshX1b : True ∧ True := by
  w_top off
  first | (walk1; all_goals trivial) | exact ⟨trivial, trivial⟩
/-- a turn of a for over a list; a set's order may be drawn in it -/
def TurnPostX (h₀ : Heap) (L I : Addr) (io : Obj) (J : (Str → Option Value) → List (Addr × Obj) → Prop) (Q : Flow → Shared → Prop) (s : Shared) (f : Flow) (s₂ : Shared) : Prop :=
  match f with
  | .ret v => Q (.ret v) s₂
  | .brk => Q .next s₂
  | _ => ∃ h' tk dr m' nx, s₂ = { s with heap := h', toks := tk, drawn := dr } ∧ Fr h₀ L h' m' ∧ News h₀ L h' ((I, io) :: nx) ∧ (∀ p ∈ nx, p.1 ≠ I) ∧ J m' nx
theorem TurnPostX.next {h₀ : Heap} {L I : Addr} {io : Obj} {J : (Str → Option Value) → List (Addr × Obj) → Prop} {Q : Flow → Shared → Prop} {s : Shared} {h' : Heap} {tk : Nat} {dr : Drawn} {m' : Str → Option Value} {nx all : List (Addr × Obj)}
    (F : Fr h₀ L h' m') (N : News h₀ L h' all) (hs : ∀ p ∈ (I, io) :: nx, p ∈ all) (hne : ∀ p ∈ nx, p.1 ≠ I) (hj : J m' nx) : TurnPostX h₀ L I io J Q s .next { s with heap := h', toks := tk, drawn := dr } :=
  ⟨h', tk, dr, m', nx, rfl, F, fun p hp => N p (hs p hp), hne, hj⟩
section
variable {prog : Program} {w : World} {A : Around} {E : Value → Shared → Prop} {s : Shared} {env : Env} {h₀ : Heap} {body : List Stmt} {Q : Flow → Shared → Prop}
theorem for_listX {target : Expr} {l : Addr} {vs : List Value} {n : Nat} {m₀ : Str → Option Value} {news : List (Addr × Obj)}
    (J : Nat → (Str → Option Value) → List (Addr × Obj) → Prop)
    (hh : A.handled = none) (hJl : ∀ i m nx, J i m nx → (l, listOf vs.toArray n) ∈ nx)
    (F : Fr h₀ env.locals s.heap m₀) (N : News h₀ env.locals s.heap news) (h0 : J 0 m₀ news) (hEE : PassesOwn (model prog w) A env E)
    (turn : ∀ i v m₁ nx h tk dr I io, vs[i]? = some v → J i m₁ nx → (∀ p ∈ nx, p.1 ≠ I) → Fr h₀ env.locals h m₁ → News h₀ env.locals h ((I, io) :: nx) →
      wpAny (model prog w) A (assign target env v) (fun _ s₂ => wpAny (model prog w) A (execs body env) (TurnPostX h₀ env.locals I io (J (i + 1)) Q s) E s₂) E { s with heap := h, toks := tk, drawn := dr })
    (done : ∀ m₁ nx h tk dr, J vs.length m₁ nx → Fr h₀ env.locals h m₁ → News h₀ env.locals h nx → Q .next { s with heap := h, toks := tk, drawn := dr }) :
    wpAny (model prog w) A (pyIter (.ref l)) (fun it s₂ => codeAny (model prog w) A (.forLoop target it body [] env) (fun r s' => match r with | .ok f => Q f s' | .error e => cameBackBy (model prog w) A env E e s') s₂) E s := by
  refine for_listD (n := n) (news := news) (m₀ := m₀) (fun i m nx _ => J i m nx) hh (fun i m nx _ hj => hJl i m nx hj) F N h0 hEE ?_ done
  intro i v m₁ nx h tk dr I io hv hj hne F' N'
  refine wpAny_mono (turn i v m₁ nx h tk dr I io hv hj hne F' N') (fun _ s₂ h₂ => wpAny_mono h₂ (fun f s₃ h₃ => ?_) fun _ _ e => e) fun _ _ e => e
  cases f with
  | ret v => exact h₃
  | brk => exact h₃
  | next => exact h₃
  | cont => exact h₃
end
end Mine
end PartX1b

section PartY1a
open PySem PySem.W PyProof.Rows
set_option Elab.async false
set_option maxRecDepth 100000
set_option linter.unusedVariables false
namespace Mine
theorem freshY1a : True ∧ True := by
  w_top off
  first | (walk1; all_goals trivial) | exact ⟨trivial, trivial⟩
def LL (x : Str) : List Nat := x.cps.toList
theorem LL_ext {x y : Str} (h : LL x = LL y) : x = y := by
  cases x; cases y
  simp only [Str.mk.injEq]
  exact Array.ext' h
theorem LL_len (x : Str) : x.length = (LL x).length := by simp [LL, Str.length]
theorem LL_app (x y : Str) : LL (x ++ y) = LL x ++ LL y := by
  show (x.cps ++ y.cps).toList = _
  simp [LL]
theorem slice_lo (x : Str) (b : Nat) : LL (Txt.slice x none (some (b : Int))) = (LL x).take b := by
  have key : ∀ c : Nat, c ≤ x.length → LL (Txt.slice x none (some (c : Int))) = (LL x).take c := by
    intro c h
    have e : Txt.slice x none (some (c : Int)) = StrLaws.sliceText x (some ((0 : Nat) : Int)) (some (c : Int)) := by
      unfold Txt.slice StrLaws.sliceText
      rw [StrLaws.sliceIdx_none_lo]
      rfl
    rw [e, StrLaws.sliceText_nat x (Nat.zero_le _) h]
    show ((x.cps.toList.drop 0).take (c - 0)) = _
    rfl
  by_cases h : b ≤ x.length
  · exact key b h
  · have e : Txt.slice x none (some (b : Int)) = Txt.slice x none (some (x.length : Int)) := by
      unfold Txt.slice
      rw [sliceIdx_hi_beyond x.length (by omega)]
    rw [e, key _ (Nat.le_refl _), List.take_of_length_le (by rw [← LL_len]; exact Nat.le_refl _), List.take_of_length_le (by rw [← LL_len]; omega)]
theorem beq_y {a b : Str} (h : LL a = LL b) : (a == b) = true := by rw [LL_ext h]; simp
theorem beq_n {a b : Str} (h : LL a ≠ LL b) : (a == b) = false := by
  have : a ≠ b := fun e => h (by rw [e])
  simpa using this
theorem start_sliceC (c p d : Str) (hc : c.length = 1) : (Txt.slice p none (some ((d.length : Int) + 1)) == d ++ c) = Txt.startswith p (d ++ c) := by
  have e : ((d.length : Int) + 1) = ((d.length + 1 : Nat) : Int) := by omega
  have hl : (d ++ c).length = d.length + 1 := by rw [LL_len, LL_app, List.length_append, ← LL_len, ← LL_len, hc]
  have h1 : LL (Txt.slice p none (some ((d.length : Int) + 1))) = (LL p).take (d.length + 1) := by rw [e]; exact slice_lo p (d.length + 1)
  unfold Txt.startswith
  rw [StrLaws.subAt_eq, hl, List.drop_zero]
  show _ = (decide (0 + (d.length + 1) ≤ p.length) && ((LL p).take (d.length + 1) == LL (d ++ c)))
  rw [← h1]
  by_cases h : LL (Txt.slice p none (some ((d.length : Int) + 1))) = LL (d ++ c)
  · have h2 : d.length + 1 ≤ p.length := by
      have := congrArg List.length h
      rw [h1, ← LL_len (d ++ _), hl, List.length_take, ← LL_len] at this
      omega
    rw [beq_y h, h]
    simp [h2]
  · rw [beq_n h]
    have : (LL (Txt.slice p none (some ((d.length : Int) + 1))) == LL (d ++ c)) = false := by simpa using h
    rw [this]
    simp
theorem starts_iff (p q : Str) : Txt.startswith p q = true ↔ LL q <+: LL p := by
  unfold Txt.startswith
  rw [StrLaws.subAt_eq, List.drop_zero]
  show (decide (0 + q.length ≤ p.length) && ((LL p).take q.length == LL q)) = true ↔ _
  rw [Bool.and_eq_true, decide_eq_true_eq, beq_iff_eq, LL_len, LL_len, Nat.zero_add]
  constructor
  · rintro ⟨_, h⟩
    rw [← h]
    exact List.take_prefix _ _
  · intro h
    exact ⟨h.length_le, (List.prefix_iff_eq_take.mp h).symm⟩
/-- x. begins with one. : x is one, or goes on from it by a dot -/
theorem dot_iff (c x one : Str) (hc : c.length = 1) : Txt.startswith (x ++ c) (one ++ c) = true ↔ x = one ∨ Txt.startswith x (one ++ c) = true := by
  rw [starts_iff, starts_iff, LL_app, LL_app]
  obtain ⟨a, ha⟩ : ∃ a, LL c = [a] := by
    have := LL_len c
    rw [hc] at this
    match h : LL c, this with
    | [a], _ => exact ⟨a, rfl⟩
  rw [ha]
  constructor
  · rintro ⟨r, h⟩
    rcases List.eq_nil_or_concat r with rfl | ⟨r', b, rfl⟩
    · left
      simp only [List.append_nil] at h
      have := List.append_inj' h rfl
      exact (LL_ext this.1).symm
    · right
      rw [List.concat_eq_append, ← List.append_assoc] at h
      have := List.append_inj' h rfl
      exact ⟨r', this.1⟩
  · rintro (rfl | ⟨r, h⟩)
    · exact List.prefix_rfl
    · exact ⟨r ++ [a], by rw [← List.append_assoc, h]⟩
theorem goes_eq {x : Str} {ms : List Str} : goesL x ms = true ↔ (x ∈ ms ∨ goesOn x ms = true) := by
  unfold goesL goesOn
  simp only [List.any_eq_true]
  constructor
  · rintro ⟨m, hm, h⟩
    rw [start_sliceC _ _ _ rfl, dot_iff _ _ _ rfl] at h
    rcases h with rfl | h
    · exact .inl hm
    · exact .inr ⟨m, hm, h⟩
  · rintro (h | ⟨m, hm, h⟩)
    · exact ⟨x, h, by rw [start_sliceC _ _ _ rfl, dot_iff _ _ _ rfl]; exact .inl rfl⟩
    · exact ⟨m, hm, by rw [start_sliceC _ _ _ rfl, dot_iff _ _ _ rfl]; exact .inr h⟩
theorem pathL_eq (p : Pth) (ds : List Str) : pathL p ds = pathAns p ds := by
  cases p with
  | none => rfl
  | s y =>
    unfold pathL pathAns
    dsimp only
    have : (ds.any fun one => Txt.slice y none (some ((one.length : Int) + 1)) == one ++ Str.ofString "/") = ds.any fun d => Txt.startswith y (d ++ Str.ofString "/") := by
      congr 1
      funext d
      exact start_sliceC _ _ _ rfl
    rw [this]
  | n y => rfl
  | b y => rfl
def strM : Md := .s (Str.ofString "<string>")
theorem alone_eq {md : Md} (p : Pth) (ms ds : List Str) (h : md ≠ strM) : aloneL md p ms ds = aloneN md p ms ds := by
  cases md with
  | s x =>
    have hx : x ≠ Str.ofString "<string>" := fun e => h (by rw [e]; rfl)
    unfold aloneL aloneN
    dsimp only
    rw [pathL_eq]
    by_cases g : goesL x ms = true
    · rw [if_pos (.inr g), if_pos (goes_eq.mp g)]
    · rw [if_neg (fun e => e.elim hx g), if_neg (fun e => g (goes_eq.mpr e))]
  | n x => unfold aloneL aloneN; dsimp only; rw [pathL_eq]
  | b x => unfold aloneL aloneN; dsimp only; rw [pathL_eq]
  | t x => unfold aloneL aloneN; dsimp only; rw [pathL_eq]
theorem alone_str (p : Pth) (ms ds : List Str) : aloneL strM p ms ds = .i 1 := by
  show (if Str.ofString "<string>" = Str.ofString "<string>" ∨ goesL (Str.ofString "<string>") ms = true then Ans.i 1 else pathL p ds) = Ans.i 1
  exact if_pos (Or.inl rfl)
def Ans.good : Ans → Bool
  | .i n => n == 0 || n == 1
  | .e _ => false
def Ans.fine : Ans → Prop
  | .i n => n = 0 ∨ n = 1
  | .e _ => True
theorem path_fine (p : Pth) (ds : List Str) : (pathL p ds).fine := by
  cases p with
  | none => exact .inr rfl
  | s y => unfold pathL; dsimp only; split <;> first | exact .inl rfl | exact .inr rfl
  | n y => unfold pathL; dsimp only; split <;> first | exact .inl rfl | exact trivial
  | b y => unfold pathL; dsimp only; split <;> first | exact .inl rfl | exact trivial
theorem alone_fine (md : Md) (p : Pth) (ms ds : List Str) : (aloneL md p ms ds).fine := by
  cases md with
  | s x =>
    unfold aloneL; dsimp only; split
    · exact .inr rfl
    · exact path_fine p ds
  | n x => unfold aloneL; dsimp only; split <;> first | exact path_fine p ds | exact trivial
  | b x => unfold aloneL; dsimp only; split <;> first | exact path_fine p ds | exact trivial
  | t x => unfold aloneL; dsimp only; split <;> first | exact path_fine p ds | exact trivial
/-- what the law's own asks about one module give by themselves -/
def selfAns (asks : List (Md × Pth)) (md : Md) (ms ds : List Str) : List Ans := (asks.filter fun q => decide (q.1 = md)).map fun q => aloneL md q.2 ms ds
def firstGood (as : List Ans) : Option Ans := (as.filter Ans.good ++ as.getLast?.toList).head?
def memAt (ms ds : List Str) (asks : List (Md × Pth)) : Mem := asks.foldl (fun mem q => saidM mem q.1 q.2 ms ds) [(strM, 1)]
theorem memAt_snoc (ms ds : List Str) (asks : List (Md × Pth)) (q : Md × Pth) : memAt ms ds (asks ++ [q]) = saidM (memAt ms ds asks) q.1 q.2 ms ds := by simp [memAt]
theorem self_snoc (asks : List (Md × Pth)) (q : Md × Pth) (md : Md) (ms ds : List Str) : selfAns (asks ++ [q]) md ms ds = selfAns asks md ms ds ++ if q.1 = md then [aloneL md q.2 ms ds] else [] := by
  unfold selfAns
  rw [List.filter_append, List.map_append]
  by_cases h : q.1 = md
  · simp [h]
  · simp [h]
theorem look_snoc (mem : Mem) (k md : Md) (n : Int) : look (mem ++ [(k, n)]) md = match look mem md with | some i => some i | none => if k = md then some n else none := by
  unfold look
  rw [List.find?_append]
  cases h : mem.find? fun p => decide (p.1 = md) with
  | some x => simp
  | none =>
    by_cases e : k = md
    · simp [e]
    · simp [e]
def Told (asks : List (Md × Pth)) (mem : Mem) (ms ds : List Str) (md : Md) : Prop :=
  match look mem md with
  | some i => ((selfAns asks md ms ds).filter Ans.good).head? = some (.i i) ∨ (md = strM ∧ i = 1)
  | none => (selfAns asks md ms ds).filter Ans.good = [] ∧ md ≠ strM
theorem head_app {α : Type} {a b : List α} {x : α} (h : a.head? = some x) : (a ++ b).head? = some x := by
  cases a with
  | nil => cases h
  | cons y a => exact h
theorem good_of {i : Int} {md : Md} {p : Pth} {ms ds : List Str} (h : aloneL md p ms ds = .i i) : (aloneL md p ms ds).good = true := by
  have := alone_fine md p ms ds
  rw [h] at this ⊢
  rcases this with rfl | rfl <;> rfl
theorem told_step {ms ds : List Str} {asks : List (Md × Pth)} {mem : Mem} (q : Md × Pth) (h : ∀ md, Told asks mem ms ds md) : ∀ md, Told (asks ++ [q]) (saidM mem q.1 q.2 ms ds) ms ds md := by
  intro md
  have hq := h q.1
  have hm := h md
  unfold Told at hq hm ⊢
  rw [self_snoc, List.filter_append]
  cases hl : look mem q.1 with
  | some i =>
    have e : saidM mem q.1 q.2 ms ds = mem := by unfold saidM; rw [hl]
    rw [e]
    cases hl2 : look mem md with
    | some j =>
      rw [hl2] at hm
      exact hm.imp (fun z => head_app z) id
    | none =>
      rw [hl2] at hm
      have hne : q.1 ≠ md := fun e => by rw [e, hl2] at hl; cases hl
      rw [if_neg hne]
      simpa using hm
  | none =>
    rw [hl] at hq
    have e : saidM mem q.1 q.2 ms ds = keepAns mem q.1 (aloneN q.1 q.2 ms ds) := by unfold saidM; rw [hl]
    rw [e, ← alone_eq q.2 ms ds hq.2]
    cases ha : aloneL q.1 q.2 ms ds with
    | i n =>
      show match look (mem ++ [(q.1, n)]) md with | some i => _ | none => _
      rw [look_snoc]
      cases hl2 : look mem md with
      | some j =>
        rw [hl2] at hm
        exact hm.imp (fun z => head_app z) id
      | none =>
        rw [hl2] at hm
        by_cases hqm : q.1 = md
        · subst hqm
          dsimp only
          rw [if_pos rfl, if_pos rfl, hq.1]
          left
          have := good_of ha
          rw [ha] at this ⊢
          simp [this]
        · dsimp only
          rw [if_neg hqm, if_neg hqm]
          simpa using hm
    | e x =>
      show match look mem md with | some i => _ | none => _
      cases hl2 : look mem md with
      | some j =>
        rw [hl2] at hm
        exact hm.imp (fun z => head_app z) id
      | none =>
        rw [hl2] at hm
        refine ⟨?_, hm.2⟩
        rw [hm.1]
        by_cases hqm : q.1 = md
        · subst hqm
          rw [if_pos rfl, ha]; rfl
        · rw [if_neg hqm]; rfl
theorem told_all (ms ds : List Str) (asks : List (Md × Pth)) : ∀ md, Told asks (memAt ms ds asks) ms ds md := by
  have key : ∀ l : List (Md × Pth), ∀ md, Told l.reverse (memAt ms ds l.reverse) ms ds md := by
    intro l
    induction l with
    | nil =>
      intro md
      show match look [(strM, 1)] md with | some i => _ | none => _
      by_cases e : strM = md
      · have : look [(strM, 1)] md = some 1 := by unfold look; simp [e]
        rw [this]
        exact .inr ⟨e.symm, rfl⟩
      · have : look [(strM, 1)] md = none := by unfold look; simp [e]
        rw [this]
        exact ⟨rfl, fun z => e z.symm⟩
    | cons q l ih =>
      rw [List.reverse_cons, memAt_snoc]
      exact told_step q ih
  have := key asks.reverse
  rwa [List.reverse_reverse] at this
theorem law_plain (ms ds : List Str) (asks : List (Md × Pth)) (md : Md) (p : Pth) : firstGood (selfAns (asks ++ [(md, p)]) md ms ds) = some (saidA (memAt ms ds asks) md p ms ds) := by
  have hm := told_all ms ds asks md
  unfold Told at hm
  unfold firstGood saidA
  rw [self_snoc, List.filter_append]
  dsimp only
  rw [if_pos rfl]
  cases hl : look (memAt ms ds asks) md with
  | some i =>
    rw [hl] at hm
    rcases hm with hm | ⟨rfl, rfl⟩
    · exact head_app (head_app hm)
    · rw [alone_str]
      have all1 : ∀ x ∈ (selfAns asks strM ms ds).filter Ans.good, x = .i 1 := by
        intro x hx
        have hx := (List.mem_filter.mp hx).1
        unfold selfAns at hx
        obtain ⟨q, _, rfl⟩ := List.mem_map.mp hx
        exact alone_str _ _ _
      cases hc : (selfAns asks strM ms ds).filter Ans.good with
      | nil => rfl
      | cons x r =>
        have := all1 x (by rw [hc]; exact .head _)
        rw [this]; rfl
  | none =>
    rw [hl] at hm
    rw [hm.1, ← alone_eq p ms ds hm.2]
    simp only [List.nil_append, List.getLast?_append, List.getLast?_singleton, Option.some_or, Option.toList_some]
    cases hg : (aloneL md p ms ds).good with
    | true => simp [hg]
    | false => simp [hg]
end Mine
end PartY1a

section PartX1c
open PySem PySem.W PyProof.Rows PySem.Spec PySem.Calls PyProof.Rows.LCg
set_option Elab.async false
set_option maxRecDepth 100000
set_option maxHeartbeats 400000
set_option linter.unusedVariables false
namespace Mine
theorem freshX1c : True ∧ True := by
  w_top off
  first | (walk1; all_goals trivial) | exact ⟨trivial, trivial⟩
def AnsAre (as : List Ans) (ys : List Value) : Prop := as.length = ys.length ∧ ∀ (j : Nat) (a : Ans) (y : Value), as[j]? = some a → ys[j]? = some y → AnsIs a y
theorem AnsAre.nil : AnsAre [] [] := ⟨rfl, fun j a y h _ => by cases h⟩
theorem AnsAre.snoc {as : List Ans} {ys : List Value} {a : Ans} {y : Value} (h : AnsAre as ys) (ha : AnsIs a y) : AnsAre (as ++ [a]) (ys ++ [y]) := by
  refine ⟨by simp [h.1], fun j b z hb hz => ?_⟩
  by_cases hj : j < as.length
  · rw [List.getElem?_append_left hj] at hb
    rw [List.getElem?_append_left (by rw [← h.1]; exact hj)] at hz
    exact h.2 j b z hb hz
  · rw [List.getElem?_append_right (by omega)] at hb
    rw [List.getElem?_append_right (by rw [← h.1]; omega), ← h.1] at hz
    have e1 := List.mem_singleton.mp (List.mem_of_getElem? hb)
    have e2 := List.mem_singleton.mp (List.mem_of_getElem? hz)
    rw [e1, e2]; exact ha
theorem md_ne_ig {w : World} {ks : List (Addr × Obj)} {mem : Mem} {o : Obj} (h : MdDict w ks mem o) {t1 t2 t3 : Tok} {n : Nat} {dM aD dG : Addr} : igD w t1 t2 t3 n dM aD dG ≠ o := by
  intro e
  obtain ⟨xs, ep, hex, hd, hr, _⟩ := h
  rw [← e] at hd
  have hd := Data.dict.inj hd
  have hl := congrArg Array.toList hd.1
  simp only at hl
  cases xs with
  | nil => cases hl
  | cons x xs =>
    have hx : (Value.ref dM) = x.2.2 := by
      have := congrArg (fun l => l.head?.map DictEntry.val) hl
      simpa [mdEntry] using this
    cases mem with
    | nil => have := congrArg List.length hr.1; simp at this
    | cons p mem =>
      obtain ⟨t, ht⟩ := hr.2 0 x p rfl rfl
      rw [← hx] at ht
      cases ht
theorem fix_off {w : World} {h₀ h : Heap} {L : Addr} {ks all : List (Addr × Obj)} {mem : Mem} {o : Obj} {d : Addr} (N : News h₀ L h all) (hd : MdDict w ks mem o) (ho : (d, o) ∈ all) {r : Rd} (ok : RdOk w r) (hr : ∀ q ∈ r.fix w, q ∈ all) : ∀ q ∈ r.fix w, q.1 ≠ d := by
  have hoc := md_cls hd
  intro q hq
  have hqa := hr q hq
  simp only [Rd.fix, List.mem_cons, List.not_mem_nil, or_false] at hq
  rcases hq with rfl | rfl | rfl | rfl
  · exact news_ne N hqa ho (by rw [hoc]; intro e; cases e)
  · exact news_off N hqa ho (md_ne_ig hd)
  · exact news_ne N hqa ho (by rw [hoc, set_cls ok.set]; decide)
  · exact news_ne N hqa ho (by rw [hoc]; exact (by decide : Value.type "list" ≠ Value.type "dict"))
theorem rds_addrs {w : World} : ∀ {a b : List (Rd × Obj)}, a.map (·.1) = b.map (·.1) → (rdsLed w a).map (·.1) = (rdsLed w b).map (·.1)
  | [], [], _ => rfl
  | [], _ :: _, h => by cases h
  | _ :: _, [], h => by cases h
  | p :: a, q :: b, h => by
    injection h with h1 h2
    have ih := rds_addrs (w := w) h2
    simp only [rdsLed, List.flatMap_cons, List.map_append, List.map_cons] at ih ⊢
    dsimp only at h1
    rw [ih, h1]
theorem off_rds {w : World} {a b : List (Rd × Obj)} {P : Addr → Prop} (h : a.map (·.1) = b.map (·.1)) (hp : ∀ q ∈ rdsLed w b, P q.1) : ∀ q ∈ rdsLed w a, P q.1 := by
  intro q hq
  have : q.1 ∈ (rdsLed w b).map (·.1) := rds_addrs h ▸ List.mem_map.mpr ⟨q, hq, rfl⟩
  obtain ⟨q', hq', e⟩ := List.mem_map.mp this
  rw [← e]; exact hp q' hq'
theorem map_fst_set {l : List (Rd × Obj)} {i : Nat} {r : Rd} {o o' : Obj} (h : l[i]? = some (r, o)) : (l.set i (r, o')).map (·.1) = l.map (·.1) := by
  rw [List.map_set]
  refine List.ext_getElem? fun j => ?_
  rw [List.getElem?_set]
  split
  · next e =>
    subst e
    rw [List.getElem?_map, h]
    have : i < l.length := (List.getElem?_eq_some_iff.mp h).1
    simp [this]
  · rfl
def Pr.ms (q : Pr) : List Str := q.lm.map (·.1)
def Pr.ds (q : Pr) : List Str := q.ld.map (·.1)
theorem RdsOk.at {w : World} {ks : List (Addr × Obj)} {mems : List Mem} {prs : List Pr} {rds : List (Rd × Obj)} (R : RdsOk w ks mems prs rds) {i : Nat} {r : Rd × Obj} {q : Pr} (hr : rds[i]? = some r) (hq : prs[i]? = some q) : r.1.lm.map (·.1) = q.ms ∧ r.1.l.map (·.1) = q.ds := by
  have h := congrArg (fun l => l[i]?) R.lists
  simp only [List.getElem?_map, hr, hq, Option.map_some, Option.some.injEq, Prod.mk.injEq] at h
  exact ⟨by rw [h.1]; rfl, h.2⟩
/-- one reader has been asked -/
theorem RdsOk.upd {w : World} {ks : List (Addr × Obj)} {mems mems' : List Mem} {prs : List Pr} {rds : List (Rd × Obj)} {i : Nat} {r : Rd} {o o' : Obj} {mem' : Mem} (R : RdsOk w ks mems prs rds) (h : rds[i]? = some (r, o)) (hd : MdDict w ks mem' o')
    (hl : mems'.length = mems.length) (hi : mems'[i]? = some mem') (hj : ∀ j, j ≠ i → mems'[j]? = mems[j]?) : RdsOk w ks mems' prs (rds.set i (r, o')) := by
  have hlt : i < rds.length := (List.getElem?_eq_some_iff.mp h).1
  have hm := map_fst_set (o' := o') h
  refine ⟨?_, ?_, by rw [hl, R.memsLen, List.length_set], ?_, ?_⟩
  · intro q hq
    rcases List.mem_or_eq_of_mem_set hq with hq | rfl
    · exact R.ok q hq
    · exact R.ok (r, o) (List.mem_of_getElem? h)
  · have := congrArg (List.map fun r : Rd => (r.lm, r.l.map (·.1))) hm
    rw [List.map_map, List.map_map] at this
    exact this.trans R.lists
  · intro j q mem hq hmem
    by_cases e : j = i
    · subst e
      rw [hi] at hmem
      injection hmem with hmem
      rw [List.getElem?_set_self hlt] at hq
      injection hq with hq
      subst hq hmem
      exact hd
    · rw [List.getElem?_set_ne (Ne.symm e)] at hq
      rw [hj j e] at hmem
      exact R.dict j q mem hq hmem
  · have := R.apart
    have e1 : (rds.map (·.1)).Pairwise fun a b : Rd => a.dG ≠ b.dG := List.pairwise_map.mpr this
    rw [← hm] at e1
    exact (List.pairwise_map (f := fun x : Rd × Obj => x.1) (R := fun a b : Rd => a.dG ≠ b.dG)).mp e1
end Mine
end PartX1c

section PartX1d
open PySem PySem.W PyProof.Rows PySem.Spec PySem.Calls PyProof.Rows.LCg
set_option Elab.async false
set_option maxRecDepth 100000
set_option maxHeartbeats 400000
set_option linter.unusedVariables false
namespace Mine
theorem freshX1d : True ∧ True := by
  w_top off
  first | (walk1; all_goals trivial) | exact ⟨trivial, trivial⟩
def NoDict (o : Obj) : Prop := ∀ a n, o.data ≠ .dict a n
theorem no_dict_ne {w : World} {h₀ h : Heap} {L : Addr} {ks all : List (Addr × Obj)} {mem : Mem} {o : Obj} {d : Addr} (N : News h₀ L h all) (hd : MdDict w ks mem o) (ho : (d, o) ∈ all) {p : Addr × Obj} (hp : p ∈ all) (hn : NoDict p.2) : p.1 ≠ d := by
  refine news_off N hp ho fun e => ?_
  obtain ⟨xs, ep, _, hdd, _⟩ := hd
  rw [← e] at hdd
  exact hn _ _ hdd
/-- what one reader's answer must leave -/
def SaidOne (w : World) (ks all : List (Addr × Obj)) (r : Rd) (mem : Mem) (md : Md) (p : Pth) (h₀ : Heap) (L : Addr) (m : Str → Option Value) (s : Shared) (v : Value) (s₄ : Shared) : Prop :=
  ∃ h' tk' dr' o', s₄ = { s with heap := h', toks := tk', drawn := dr' } ∧ Fr h₀ L h' m ∧ News h₀ L h' ((r.dG, o') :: offA r.dG all) ∧ AnsIs (saidA mem md p (r.lm.map (·.1)) (r.l.map (·.1))) v ∧ MdDict w ks (saidM mem md p (r.lm.map (·.1)) (r.l.map (·.1))) o'
def mixed (prs : List Pr) (g g' : Pr → Mem) (i : Nat) : List Mem := prs.mapIdx fun j q => if j < i then g' q else g q
theorem mixed_len (prs : List Pr) (g g' : Pr → Mem) (i : Nat) : (mixed prs g g' i).length = prs.length := List.length_mapIdx
theorem mixed_at (prs : List Pr) (g g' : Pr → Mem) (i j : Nat) : (mixed prs g g' i)[j]? = prs[j]?.map fun q => if j < i then g' q else g q := List.getElem?_mapIdx
theorem mixed_zero (prs : List Pr) (g g' : Pr → Mem) : mixed prs g g' 0 = prs.map g := List.ext_getElem? fun j => by
  rw [mixed_at, List.getElem?_map]; rfl
theorem mixed_all (prs : List Pr) (g g' : Pr → Mem) : mixed prs g g' prs.length = prs.map g' := List.ext_getElem? fun j => by
  rw [mixed_at, List.getElem?_map]
  cases h : prs[j]? with
  | none => rfl
  | some q => rw [Option.map_some, Option.map_some, if_pos (List.getElem?_eq_some_iff.mp h).1]
section
variable {prog : Program} {w : World} {A : Around} {E : Value → Shared → Prop} {s : Shared} {h₀ : Heap} {L : Addr} {m : Str → Option Value} {env : Env} {elt iter : Expr} {scope : Scope} {cl : List (Str × Addr)} {pos : Pos}
theorem told_src {x : Str} {px : Pos} {Q : Value → Shared → Prop} {ax cM cP : Addr} {oM oP : Obj} {k : Nat} {ks base : List (Addr × Obj)} {prs : List Pr} {rds : List (Rd × Obj)} {md : Md} {p : Pth} (g : Pr → Mem)
    (hh : A.handled = none) (F : Fr h₀ L s.heap m) (N : News h₀ L s.heap (base ++ rdsLed w rds)) (hsz : rds.length ≤ 8) (hax : (ax, listOf (rds.map fun r => Value.ref r.1.x).toArray k) ∈ base) (hcM : (cM, oM) ∈ base) (hcP : (cP, oP) ∈ base)
    (hks : ∀ q ∈ ks, q ∈ base) (hb : ∀ q ∈ base, ∀ r ∈ rds, q.1 ≠ r.1.dG) (R : RdsOk w ks (prs.map g) prs rds) (hg : ∀ q ∈ prs, (g q).length ≤ 100)
    (hcell : ∀ y ∈ scope.names, y.2 ≠ .cell) (hkind : scope.kind = .function) (hx : scope.names.lookup x = some .local)
    (el : ∀ (r : Rd) (o : Obj) (mem : Mem) (nx : List (Addr × Obj)) (I : Addr) (oI : Obj) (C : Addr) (oC : Obj) (D : Addr) (m₂ : Str → Option Value) (ys : List Value) (g h : Heap) (tk : Nat) (dr : Drawn) (E' : Value → Shared → Prop), RdOk w r → MdDict w ks mem o → mem.length ≤ 100 → NsObj oC m₂ → m₂ x = some (.ref r.x) → Fr h₀ L h m → News h₀ L h ((I, oI) :: (C, oC) :: (D, lst ys) :: (cM, oM) :: (cP, oP) :: nx) → (∀ q ∈ ks, q ∈ nx) → (∀ q ∈ r.fix w, q ∈ nx) → (r.dG, o) ∈ nx →
      wpAny (model prog w) A (eval elt (compEnvC scope cl C env)) (SaidOne w ks ((I, oI) :: (C, oC) :: (D, lst ys) :: (cM, oM) :: (cP, oP) :: nx) r mem md p h₀ L m { s with heap := g }) E' { { s with heap := g } with heap := h, toks := tk, drawn := dr })
    (fin : ∀ (D : Addr) (h : Heap) (tk : Nat) (dr : Drawn) (ys : List Value) (rds' : List (Rd × Obj)), Fr h₀ L h m → News h₀ L h ((D, lst ys) :: (base ++ rdsLed w rds')) → (∀ q ∈ base ++ rdsLed w rds', q.1 ≠ D) → RdsOk w ks (prs.map fun q => saidM (g q) md p q.ms q.ds) prs rds' → rds'.map (·.1) = rds.map (·.1) → AnsAre (prs.map fun q => saidA (g q) md p q.ms q.ds) ys → Q (.ref D) { s with heap := h, toks := tk, drawn := dr }) :
    SrcGoal prog w A E env elt (.Name x px) iter none scope cl pos none Q (.ref ax) s := by
  have hlp : prs.length = rds.length := by have := R.memsLen; simpa using this
  refine src_listX (L := L) (vs := rds.map fun r => Value.ref r.1.x) (k := k) (news := base ++ rdsLed w rds)
    (fun i ys nx => ∃ rds', nx = base ++ rdsLed w rds' ∧ RdsOk w ks (mixed prs g (fun q => saidM (g q) md p q.ms q.ds) i) prs rds' ∧ rds'.map (·.1) = rds.map (·.1) ∧ AnsAre ((prs.map fun q => saidA (g q) md p q.ms q.ds).take i) ys ∧ i ≤ prs.length)
    (fun i m₂ => ∃ r, (rds.map (·.1))[i]? = some r ∧ m₂ x = some (.ref r.x)) hh F N (by rw [List.length_map]; omega)
    ⟨rds, rfl, by rw [mixed_zero]; exact R, rfl, AnsAre.nil, Nat.zero_le _⟩ ?_ hcell hkind ?_ ?_ ?_
  · rintro i ys nx ⟨rds', rfl, _, _, hA, hi⟩
    refine ⟨List.mem_append_left _ hax, ?_⟩
    have := hA.1
    simp at this
    omega
  · intro i v ys nx C m' s' Q' E' hv hj Nx hn hq
    obtain ⟨r, hr, rfl⟩ : ∃ r, rds[i]? = some r ∧ v = Value.ref r.1.x := by
      rw [List.getElem?_map] at hv
      cases hq : rds[i]? with
      | none => rw [hq] at hv; cases hv
      | some q => rw [hq] at hv; exact ⟨q, rfl, (Option.some.inj hv).symm⟩
    exact name_asg hx hkind hn fun h' m₂ tk hn' e1 hk => hq h' m₂ tk hn' ⟨r.1, by rw [List.getElem?_map, hr]; rfl, e1⟩ hk
  · rintro I gg i ys nx os C oC D m₂ h tk dr E' hi ⟨r, hri, e1⟩ ⟨rds', rfl, R', hm, hA, hip⟩ ho hC F' N' off' hCD hCw hDw
    obtain ⟨oI, rfl⟩ := os_one ho
    rw [List.length_map] at hi
    have hip' : i < prs.length := by omega
    obtain ⟨o, hro⟩ : ∃ o, rds'[i]? = some (r, o) := by
      rw [← hm, List.getElem?_map] at hri
      cases hq : rds'[i]? with
      | none => rw [hq] at hri; cases hri
      | some q => rw [hq] at hri; exact ⟨q.2, by rw [← Option.some.inj hri]⟩
    obtain ⟨q, hq⟩ : ∃ q, prs[i]? = some q := ⟨prs[i], by simp [hip']⟩
    have hmem := rdsLed_mem (w := w) (List.mem_of_getElem? hro)
    have okr := R'.ok _ (List.mem_of_getElem? hro)
    have hmi : (mixed prs g (fun q => saidM (g q) md p q.ms q.ds) i)[i]? = some (g q) := by rw [mixed_at, hq]; simp
    have hdict := R'.dict i (r, o) _ hro hmi
    obtain ⟨hms, hds⟩ := R'.at hro hq
    simp only [testW, ↓reduceIte]
    have N2 : News h₀ L h ((I, oI) :: (C, oC) :: (D, lst ys) :: (cM, oM) :: (cP, oP) :: (base ++ rdsLed w rds')) := by
      intro p hp
      rcases List.mem_cons.mp hp with rfl | hp
      · exact N' _ (.head _)
      rcases List.mem_cons.mp hp with rfl | hp
      · exact N' _ (.tail _ (.head _))
      rcases List.mem_cons.mp hp with rfl | hp
      · exact N' _ (.tail _ (.tail _ (.head _)))
      rcases List.mem_cons.mp hp with rfl | hp
      · exact N' _ (.tail _ (.tail _ (.tail _ (List.mem_append_left _ hcM))))
      rcases List.mem_cons.mp hp with rfl | hp
      · exact N' _ (.tail _ (.tail _ (.tail _ (List.mem_append_left _ hcP))))
      · exact N' _ (.tail _ (.tail _ (.tail _ hp)))
    refine wpAny_mono (el r o (g q) _ I oI C oC D m₂ ys gg h tk dr E' okr hdict (hg q (List.mem_of_getElem? hq)) hC e1 F' N2 (fun z hz => List.mem_append_left _ (hks z hz)) (fun z hz => List.mem_append_right _ (hmem.2 z hz)) (List.mem_append_right _ hmem.1)) (fun v s₄ hv => ?_) fun _ _ e => e
    obtain ⟨h', tk', dr', o', rfl, F₄, N₄, hAns, hDict⟩ := hv
    have Nnx : News h₀ L h (base ++ rdsLed w rds') := fun p hp => N' p (.tail _ (.tail _ (.tail _ hp)))
    have hdG : (r.dG, o) ∈ base ++ rdsLed w rds' := List.mem_append_right _ hmem.1
    have hoD := off' _ hdG
    rw [hms, hds] at hAns hDict
    have hset := map_fst_set (o' := o') hro
    have hbr : ∀ z ∈ base, z.1 ≠ r.dG := by
      intro z hz
      rw [List.getElem?_map] at hri
      cases hq0 : rds[i]? with
      | none => rw [hq0] at hri; cases hri
      | some q0 =>
        rw [hq0] at hri
        rw [← Option.some.inj hri]
        exact hb z hz q0 (List.mem_of_getElem? hq0)
    refine EndX.of (nx := base ++ rdsLed w (rds'.set i (r, o'))) F₄ N₄ (fun z hz => ?_) (fun z hz => ?_) ⟨rds'.set i (r, o'), rfl, ?_, hset.trans hm, ?_, hip'⟩
    · have low : z ∈ (I, oI) :: (C, oC) :: (D, lst ys) :: (cM, oM) :: (cP, oP) :: (base ++ rdsLed w rds') → z.1 ≠ r.dG → z ∈ (r.dG, o') :: offA r.dG ((I, oI) :: (C, oC) :: (D, lst ys) :: (cM, oM) :: (cP, oP) :: (base ++ rdsLed w rds')) := fun h1 h2 => .tail _ (offA_mem h1 h2)
      rcases List.mem_cons.mp hz with rfl | hz
      · exact low (.head _) (fun e => hoD.2.2 (by rw [← e]; exact .head _))
      rcases List.mem_cons.mp hz with rfl | hz
      · exact low (.tail _ (.head _)) (Ne.symm hoD.1)
      rcases List.mem_cons.mp hz with rfl | hz
      · exact low (.tail _ (.tail _ (.head _))) (Ne.symm hoD.2.1)
      rcases List.mem_append.mp hz with hz | hz
      · exact low (.tail _ (.tail _ (.tail _ (.tail _ (.tail _ (List.mem_append_left _ hz)))))) (hbr z hz)
      · obtain ⟨r2, hr2, hz⟩ := List.mem_flatMap.mp hz
        obtain ⟨j, hj⟩ := List.mem_iff_getElem?.mp hr2
        by_cases hji : j = i
        · subst hji
          have hlt : j < rds'.length := (List.getElem?_eq_some_iff.mp hro).1
          rw [List.getElem?_set_self hlt] at hj
          injection hj with hj
          subst hj
          rcases List.mem_cons.mp hz with rfl | hz
          · exact .head _
          · exact low (.tail _ (.tail _ (.tail _ (.tail _ (.tail _ (List.mem_append_right _ (hmem.2 z hz))))))) (fix_off Nnx hdict hdG okr (fun z hz => List.mem_append_right _ (hmem.2 z hz)) z hz)
        · rw [List.getElem?_set_ne (Ne.symm hji)] at hj
          have hm2 := rdsLed_mem (w := w) (List.mem_of_getElem? hj)
          rcases List.mem_cons.mp hz with rfl | hz
          · refine low (.tail _ (.tail _ (.tail _ (.tail _ (.tail _ (List.mem_append_right _ hm2.1)))))) ?_
            obtain ⟨hi1, hi2⟩ := List.getElem?_eq_some_iff.mp hro
            obtain ⟨hj1, hj2⟩ := List.getElem?_eq_some_iff.mp hj
            rcases Nat.lt_or_gt_of_ne hji with hlt | hgt
            · have := (List.pairwise_iff_getElem.mp R'.apart) j i hj1 hi1 hlt
              rw [hi2, hj2] at this
              exact this
            · have := (List.pairwise_iff_getElem.mp R'.apart) i j hi1 hj1 hgt
              rw [hi2, hj2] at this
              exact Ne.symm this
          · exact low (.tail _ (.tail _ (.tail _ (.tail _ (.tail _ (List.mem_append_right _ (hm2.2 z hz))))))) (fix_off Nnx hdict hdG (R'.ok _ (List.mem_of_getElem? hj)) (fun z hz => List.mem_append_right _ (hm2.2 z hz)) z hz)
    · rcases List.mem_append.mp hz with hz | hz
      · exact off' z (List.mem_append_left _ hz)
      · exact off_rds (P := fun a => a ≠ C ∧ a ≠ D ∧ a ∉ ([(I, oI)] : List (Addr × Obj)).map (·.1)) hset (fun q hq => off' q (List.mem_append_right _ hq)) z hz
    · refine R'.upd hro hDict (by rw [mixed_len, mixed_len]) ?_ ?_
      · rw [mixed_at, hq]; simp
      · intro j hji
        rw [mixed_at, mixed_at]
        congr 1
        funext q
        by_cases h1 : j < i
        · rw [if_pos h1, if_pos (by omega)]
        · rw [if_neg h1, if_neg (by omega)]
    · have : (prs.map fun q => saidA (g q) md p q.ms q.ds)[i]? = some (saidA (g q) md p q.ms q.ds) := by rw [List.getElem?_map, hq]; rfl
      rw [List.take_add_one, this]
      exact hA.snoc hAns
  · rintro gg D C h tk dr m' ys nx F' N' offD hn hC₀ hCL hCD offC ⟨rds', rfl, R', hm, hA, hip⟩
    refine post_eval (s := { s with heap := gg }) F' N' hn hC₀ hCL hCD offC fun h' F₂ N₂ => ?_
    rw [List.length_map] at hA R'
    rw [← hlp] at hA R'
    rw [mixed_all] at R'
    rw [show List.take prs.length (prs.map fun q => saidA (g q) md p q.ms q.ds) = (prs.map fun q => saidA (g q) md p q.ms q.ds) from by rw [List.take_of_length_le (by simp)]] at hA
    exact fin D h' tk dr ys rds' F₂ N₂ offD R' hm hA
end
end Mine
end PartX1d

section PartX1e
open PySem PySem.W PyProof.Rows PySem.Spec PySem.Calls PyProof.Rows.LCg
set_option Elab.async false
set_option maxRecDepth 100000
set_option maxHeartbeats 400000
set_option linter.unusedVariables false
namespace Mine
theorem freshX1e : True ∧ True := by
  w_top off
  first | (walk1; all_goals trivial) | exact ⟨trivial, trivial⟩
section
variable {prog : Program} {w : World} {A : Around} {E : Value → Shared → Prop} {s : Shared}
theorem rc_use {a b : Value} {k : Bool} {Q : Value → Shared → Prop} (h : SeqAt.RcAt A s a b k) (hq : Q (.bool k) s) : wpAny (model prog w) A (compareOp .Eq a b) Q E s := h prog w E Q hq
/-- == of two modules of any kinds -/
theorem cmp_ok (hu : A.units + 8 < cLine) {a b : Md} {u v : Value} (ha : KeyOk s.heap a u) (hb : KeyOk s.heap b v) {Q : Value → Shared → Prop} (h : Q (.bool (decide (a = b))) s) :
    wpAny (model prog w) A (compareOp .Eq u v) Q E s := by
  have hu' : A.units < cLine := by omega
  have ne : ∀ {a b : Md}, Q (.bool (decide (a = b))) s → a ≠ b → Q (.bool false) s := fun h hne => by rwa [decide_eq_false hne] at h
  cases a with
  | s x =>
    obtain ⟨t, rfl⟩ := ha
    cases b with
    | s y => obtain ⟨t', rfl⟩ := hb; refine rc_use (SeqAt.RcAt.str_str x t y t') ?_; exact (show (x == y) = decide (Md.s x = Md.s y) by by_cases hxy : x = y <;> simp [hxy]) ▸ h
    | n y => obtain ⟨t', rfl⟩ := hb; exact rc_use (SeqAt.RcAt.str_int x t y t') (ne h nofun)
    | b y => obtain ⟨t', rfl⟩ := hb; exact rc_use (rc_str_bytes x t y t') (ne h nofun)
    | t y => obtain ⟨T, w', rfl, hT⟩ := hb; exact rc_use (SeqAt.RcAt.str_tuple x t hT hu') (ne h nofun)
  | n x =>
    obtain ⟨t, rfl⟩ := ha
    cases b with
    | s y => obtain ⟨t', rfl⟩ := hb; exact rc_use (SeqAt.RcAt.int_str x t y t') (ne h nofun)
    | n y => obtain ⟨t', rfl⟩ := hb; refine rc_use (SeqAt.RcAt.int_int x t y t') ?_; exact (show (x == y) = decide (Md.n x = Md.n y) by by_cases hxy : x = y <;> simp [hxy]) ▸ h
    | b y => obtain ⟨t', rfl⟩ := hb; exact rc_use (rc_int_bytes x t y t') (ne h nofun)
    | t y => obtain ⟨T, w', rfl, hT⟩ := hb; exact rc_use (SeqAt.RcAt.int_tuple x t hT hu') (ne h nofun)
  | b x =>
    obtain ⟨t, rfl⟩ := ha
    cases b with
    | s y => obtain ⟨t', rfl⟩ := hb; exact rc_use (rc_bytes_str x t y t') (ne h nofun)
    | n y => obtain ⟨t', rfl⟩ := hb; exact rc_use (rc_bytes_int x t y t') (ne h nofun)
    | b y => obtain ⟨t', rfl⟩ := hb; refine eq_bytes ?_; exact (show (x.toList == y.toList) = decide (Md.b x = Md.b y) by rw [Bool.eq_iff_iff]; simp [Array.toList_inj]) ▸ h
    | t y => obtain ⟨T, w', rfl, hT⟩ := hb; exact rc_use (rc_bytes_tuple x t hT hu') (ne h nofun)
  | t x =>
    obtain ⟨T, t, rfl, hT⟩ := ha
    cases b with
    | s y => obtain ⟨t', rfl⟩ := hb; exact rc_use (SeqAt.RcAt.tuple_str y t' hT hu') (ne h nofun)
    | n y => obtain ⟨t', rfl⟩ := hb; exact rc_use (SeqAt.RcAt.tuple_int y t' hT hu') (ne h nofun)
    | b y => obtain ⟨t', rfl⟩ := hb; exact rc_use (rc_tuple_bytes y t' hT hu') (ne h nofun)
    | t y =>
      obtain ⟨T', t', rfl, hT'⟩ := hb
      refine rc_use (SeqAt.RcAt.tuples (e := fun _ => x == y) hT hT' hu' fun j g1 g2 => ?_) ?_
      · have : j = 0 := by simpa using g1
        subst this
        exact SeqAt.EqAt.str_str x t y t'
      · have e : ((List.range (min (#[Value.str x t] : Array Value).size (#[Value.str y t'] : Array Value).size)).all (fun _ => x == y) && (#[Value.str x t] : Array Value).size == (#[Value.str y t'] : Array Value).size) = decide (Md.t x = Md.t y) := by
          by_cases hxy : x = y <;> simp [hxy]
        rw [e]; exact h
theorem cmp_md {h₀ : Heap} {L : Addr} {ks ks' news : List (Addr × Obj)} (hu : A.units + 8 < cLine) (N : News h₀ L s.heap news) (h1 : ∀ p ∈ ks, p ∈ news) (h2 : ∀ p ∈ ks', p ∈ news) {a b : Md} {u v : Value} (ha : KeyIn ks a u) (hb : KeyIn ks' b v) {Q : Value → Shared → Prop} (h : Q (.bool (decide (a = b))) s) :
    wpAny (model prog w) A (compareOp .Eq u v) Q E s := cmp_ok hu (ha.ok N h1) (hb.ok N h2) h
end
def Ask.mp (a : Ask) : Md × Pth := (a.md, a.p)
theorem self_len (asks : List (Md × Pth)) (md : Md) (ms ds : List Str) : (selfAns asks md ms ds).length ≤ asks.length := by
  unfold selfAns
  rw [List.length_map]
  exact List.length_filter_le _ _
section
variable {prog : Program} {w : World} {A : Around} {E : Value → Shared → Prop} {s : Shared} {h₀ : Heap} {m : Str → Option Value} {env : Env} {elt iter c : Expr} {scope : Scope} {cl : List (Str × Addr)} {pos : Pos}
/-- [_law_alone(module, where, ..) for owner, where in asks if owner == module] -/
theorem alone_src {x x₂ y : Str} {px px₂ tp py : Pos} {kk : Nat} {U : Shared → Prop} {ax : Addr} {k : Nat} {news : List (Addr × Obj)} {asks : List Ask} {md : Md} {ms ds : List Str}
    (hh : A.handled = none) (F : Fr h₀ env.locals s.heap m) (N : News h₀ env.locals s.heap news) (hsz : asks.length ≤ 1000) (hm : (ax, listOf (asks.map fun a => Value.ref a.T).toArray k) ∈ news) (hled : ∀ a ∈ asks, ∀ p ∈ a.led, p ∈ news)
    (hcell : ∀ y ∈ scope.names, y.2 ≠ .cell) (hkind : scope.kind = .function) (hx : scope.names.lookup x = some .local) (hx₂ : scope.names.lookup x₂ = some .local) (hxx : x ≠ x₂)
    (hy : env.kindOf y = some .local) (hp : (env.scope.kind == .class || (env.scope.kind == .module && env.locals != env.globals)) = false)
    (test : ∀ (a : Ask) (I : Addr) (oI : Obj) (C : Addr) (oC : Obj) (D : Addr) (m₂ : Str → Option Value) (ys : List Value) (g h : Heap) (tk : Nat) (dr : Drawn) (E' : Value → Shared → Prop), a ∈ asks → (∀ p ∈ a.key, p ∈ news) → NsObj oC m₂ → m₂ x = some a.mv → m₂ x₂ = some a.pv → Fr h₀ env.locals h m → News h₀ env.locals h ((I, oI) :: (C, oC) :: (D, lst ys) :: news) →
      wpAny (model prog w) A (isTrue c (compEnvC scope cl C env) (eval c (compEnvC scope cl C env))) (fun ok s₃ => ok = decide (a.md = md) ∧ ∃ h' tk', s₃ = { { s with heap := g } with heap := h', toks := tk', drawn := dr } ∧ Fr h₀ env.locals h' m ∧ News h₀ env.locals h' ((I, oI) :: (C, oC) :: (D, lst ys) :: news)) E' { { s with heap := g } with heap := h, toks := tk, drawn := dr })
    (el : ∀ (a : Ask) (I : Addr) (oI : Obj) (C : Addr) (oC : Obj) (D : Addr) (m₂ : Str → Option Value) (ys : List Value) (g h : Heap) (tk : Nat) (dr : Drawn) (E' : Value → Shared → Prop), a ∈ asks → (∀ p ∈ a.key, p ∈ news) → NsObj oC m₂ → m₂ x = some a.mv → m₂ x₂ = some a.pv → Fr h₀ env.locals h m → News h₀ env.locals h ((I, oI) :: (C, oC) :: (D, lst ys) :: news) →
      wpAny (model prog w) A (eval elt (compEnvC scope cl C env)) (fun v s₄ => AnsIs (aloneL md a.p ms ds) v ∧ ∃ h' tk', s₄ = { { s with heap := g } with heap := h', toks := tk', drawn := dr } ∧ Fr h₀ env.locals h' m ∧ News h₀ env.locals h' ((I, oI) :: (C, oC) :: (D, lst ys) :: news)) E' { { s with heap := g } with heap := h, toks := tk, drawn := dr })
    (fin : ∀ (D : Addr) (h : Heap) (tk : Nat) (dr : Drawn) (ys : List Value), AnsAre (selfAns (asks.map Ask.mp) md ms ds) ys → Fr h₀ env.locals h (fun z => if z = y then some (.ref D) else m z) → News h₀ env.locals h ((D, lst ys) :: news) → (∀ p ∈ news, p.1 ≠ D) → U { s with heap := h, toks := tk, drawn := dr }) :
    SrcGoal prog w A E env elt (.Tuple [.Name x px, .Name x₂ px₂] kk tp) iter (some c) scope cl pos (some (assign (.Name y py) env)) (fun _ s' => U s') (.ref ax) s := by
  refine src_listX (L := env.locals) (vs := asks.map fun a => Value.ref a.T) (k := k) (news := news) (fun i ys nx => nx = news ∧ AnsAre (selfAns ((asks.take i).map Ask.mp) md ms ds) ys ∧ i ≤ asks.length) (fun i m₂ => ∃ a, asks[i]? = some a ∧ m₂ x = some a.mv ∧ m₂ x₂ = some a.pv) hh F N (by rw [List.length_map]; omega) ⟨rfl, AnsAre.nil, Nat.zero_le _⟩ ?_ hcell hkind ?_ ?_ ?_
  · rintro i ys nx ⟨rfl, hA, hi⟩
    refine ⟨hm, ?_⟩
    rw [← hA.1]
    refine Nat.le_trans (self_len _ _ _ _) ?_
    simp; omega
  · intro i v ys nx C m' s' Q' E' hv hj Nx hn hq
    obtain ⟨a, ha, rfl⟩ : ∃ a, asks[i]? = some a ∧ v = Value.ref a.T := by
      rw [List.getElem?_map] at hv
      cases hq : asks[i]? with
      | none => rw [hq] at hv; cases hv
      | some q => rw [hq] at hv; exact ⟨q, rfl, (Option.some.inj hv).symm⟩
    obtain ⟨rfl, _⟩ := hj
    have hT : IsTup s'.heap a.T #[a.mv, a.pv] := ⟨_, (Nx _ (hled a (List.mem_of_getElem? ha) _ (.head _))).1, rfl, a.nT, rfl⟩
    exact pair_asg hh hx hx₂ hxx hkind hn hT fun h' m₂ tk hn' e1 e2 hk => hq h' m₂ tk hn' ⟨a, ha, e1, e2⟩ hk
  · rintro I g i ys nx os C oC D m₂ h tk dr E' hi ⟨a, ha, e1, e2⟩ ⟨rfl, hA, hil⟩ ho hC F' N' off' hCD hCw hDw
    rw [List.length_map] at hi
    obtain ⟨oI, rfl⟩ := os_one ho
    have hmem := List.mem_of_getElem? ha
    have hkey : ∀ p ∈ a.key, p ∈ nx := fun p hp => hled a hmem p (.tail _ hp)
    have hnext : selfAns ((asks.take (i + 1)).map Ask.mp) md ms ds = selfAns ((asks.take i).map Ask.mp) md ms ds ++ if a.md = md then [aloneL md a.p ms ds] else [] := by
      rw [take_map_snoc Ask.mp ha, self_snoc]; rfl
    refine wpAny_mono (test a I oI C oC D m₂ ys g h tk dr E' hmem hkey hC e1 e2 F' N') (fun ok s₃ hok => ?_) fun _ _ e => e
    obtain ⟨rfl, h', tk', rfl, F₃, N₃⟩ := hok
    by_cases hb : a.md = md
    · rw [if_pos (decide_eq_true hb)]
      refine wpAny_mono (el a I oI C oC D m₂ ys g h' tk' dr E' hmem hkey hC e1 e2 F₃ N₃) (fun v s₄ hv => ?_) fun _ _ e => e
      obtain ⟨hv, h₄, tk₄, rfl, F₄, N₄⟩ := hv
      refine EndX.of F₄ N₄ (fun p hp => hp) off' ⟨rfl, ?_, hi⟩
      rw [hnext, if_pos hb]
      exact hA.snoc hv
    · rw [if_neg (by simpa using hb)]
      refine EndX.of F₃ N₃ (fun p hp => hp) off' ⟨rfl, ?_, hi⟩
      rw [hnext, if_neg hb, List.append_nil]
      exact hA
  · rintro g D C h tk dr m' ys nx F' N' offD hn hC₀ hCL hCD offC ⟨rfl, hA, _⟩
    rw [List.length_map, List.take_length] at hA
    refine post_assign (s := { s with heap := g }) hy hp F' N' hn hC₀ hCL hCD offC fun h' tk' F₂ N₂ => ?_
    exact fin D h' tk' dr _ hA F₂ N₂ offD
/-- [one for one in alone if one in [0, 1]] -/
theorem good_src {x y : Str} {px py : Pos} {U : Shared → Prop} {ax : Addr} {k : Nat} {news : List (Addr × Obj)} {as : List Ans} {vs : List Value}
    (hh : A.handled = none) (F : Fr h₀ env.locals s.heap m) (N : News h₀ env.locals s.heap news) (hsz : vs.length ≤ 1000) (hm : (ax, listOf vs.toArray k) ∈ news) (hv : AnsAre as vs) (hfine : ∀ a ∈ as, a.fine)
    (hcell : ∀ y ∈ scope.names, y.2 ≠ .cell) (hkind : scope.kind = .function) (hx : scope.names.lookup x = some .local)
    (hy : env.kindOf y = some .local) (hp : (env.scope.kind == .class || (env.scope.kind == .module && env.locals != env.globals)) = false)
    (test : ∀ (a : Ans) (v : Value) (I : Addr) (oI : Obj) (C : Addr) (oC : Obj) (D : Addr) (m₂ : Str → Option Value) (ys : List Value) (g h : Heap) (tk : Nat) (dr : Drawn) (E' : Value → Shared → Prop), AnsIs a v → a.fine → NsObj oC m₂ → m₂ x = some v → Fr h₀ env.locals h m → News h₀ env.locals h ((I, oI) :: (C, oC) :: (D, lst ys) :: news) →
      wpAny (model prog w) A (isTrue c (compEnvC scope cl C env) (eval c (compEnvC scope cl C env))) (fun ok s₃ => ok = a.good ∧ wpAny (model prog w) A (eval elt (compEnvC scope cl C env)) (fun v' s₄ => v' = v ∧ ∃ h' tk', s₄ = { { s with heap := g } with heap := h', toks := tk', drawn := dr } ∧ Fr h₀ env.locals h' m ∧ News h₀ env.locals h' ((I, oI) :: (C, oC) :: (D, lst ys) :: news)) E' s₃ ∧
        ∃ h' tk', s₃ = { { s with heap := g } with heap := h', toks := tk', drawn := dr } ∧ Fr h₀ env.locals h' m ∧ News h₀ env.locals h' ((I, oI) :: (C, oC) :: (D, lst ys) :: news)) E' { { s with heap := g } with heap := h, toks := tk, drawn := dr })
    (fin : ∀ (D : Addr) (h : Heap) (tk : Nat) (dr : Drawn) (ys : List Value), AnsAre (as.filter Ans.good) ys → Fr h₀ env.locals h (fun z => if z = y then some (.ref D) else m z) → News h₀ env.locals h ((D, lst ys) :: news) → (∀ p ∈ news, p.1 ≠ D) → U { s with heap := h, toks := tk, drawn := dr }) :
    SrcGoal prog w A E env elt (.Name x px) iter (some c) scope cl pos (some (assign (.Name y py) env)) (fun _ s' => U s') (.ref ax) s := by
  have hlen := hv.1
  refine src_listX (L := env.locals) (vs := vs) (k := k) (news := news) (fun i ys nx => nx = news ∧ AnsAre ((as.take i).filter Ans.good) ys ∧ i ≤ vs.length) (fun i m₂ => ∃ a v, as[i]? = some a ∧ AnsIs a v ∧ m₂ x = some v) hh F N (by omega) ⟨rfl, AnsAre.nil, Nat.zero_le _⟩ ?_ hcell hkind ?_ ?_ ?_
  · rintro i ys nx ⟨rfl, hA, hi⟩
    refine ⟨hm, ?_⟩
    rw [← hA.1]
    refine Nat.le_trans (List.length_filter_le _ _) ?_
    simp; omega
  · intro i v ys nx C m' s' Q' E' hvi hj Nx hn hq
    obtain ⟨a, ha⟩ : ∃ a, as[i]? = some a := by
      have : i < as.length := by rw [hlen]; exact (List.getElem?_eq_some_iff.mp hvi).1
      exact ⟨as[i], by simp [this]⟩
    exact name_asg hx hkind hn fun h' m₂ tk hn' e1 hk => hq h' m₂ tk hn' ⟨a, v, ha, hv.2 i a v ha hvi, e1⟩ hk
  · rintro I g i ys nx os C oC D m₂ h tk dr E' hi ⟨a, v, ha, hav, e1⟩ ⟨rfl, hA, hil⟩ ho hC F' N' off' hCD hCw hDw
    obtain ⟨oI, rfl⟩ := os_one ho
    have hnext : (as.take (i + 1)).filter Ans.good = (as.take i).filter Ans.good ++ if a.good = true then [a] else [] := by
      rw [List.take_add_one, ha, List.filter_append]
      congr 1
      cases hg : a.good <;> simp [hg]
    refine wpAny_mono (test a v I oI C oC D m₂ ys g h tk dr E' hav (hfine a (List.mem_of_getElem? ha)) hC e1 F' N') (fun ok s₃ hok => ?_) fun _ _ e => e
    obtain ⟨rfl, helt, h', tk', rfl, F₃, N₃⟩ := hok
    by_cases hb : a.good = true
    · rw [if_pos hb]
      refine wpAny_mono helt (fun v' s₄ hv' => ?_) fun _ _ e => e
      obtain ⟨rfl, h₄, tk₄, rfl, F₄, N₄⟩ := hv'
      refine EndX.of F₄ N₄ (fun p hp => hp) off' ⟨rfl, ?_, hi⟩
      rw [hnext, if_pos hb]
      exact hA.snoc hav
    · rw [if_neg hb]
      refine EndX.of F₃ N₃ (fun p hp => hp) off' ⟨rfl, ?_, hi⟩
      rw [hnext, if_neg hb, List.append_nil]
      exact hA
  · rintro g D C h tk dr m' ys nx F' N' offD hn hC₀ hCL hCD offC ⟨rfl, hA, _⟩
    rw [← hlen, List.take_length] at hA
    refine post_assign (s := { s with heap := g }) hy hp F' N' hn hC₀ hCL hCD offC fun h' tk' F₂ N₂ => ?_
    exact fin D h' tk' dr _ hA F₂ N₂ offD
end
end Mine
end PartX1e

section PartX1f
open PySem PySem.W PyProof.Rows PySem.Spec PySem.Calls PyProof.Rows.LCg
set_option Elab.async false
set_option maxRecDepth 100000
set_option maxHeartbeats 400000
set_option linter.unusedVariables false
set_option genSizeOf false
set_option genInjectivity false
namespace Mine
theorem freshX1f : True ∧ True := by
  w_top off
  first | (walk1; all_goals trivial) | exact ⟨trivial, trivial⟩
/-- a row of answers -/
structure RowV where
  a : Addr
  vs : List Value
  n : Nat
def rowLed (rows : List RowV) : List (Addr × Obj) := rows.map fun r => (r.a, listOf r.vs.toArray r.n)
theorem rowLed_app (a b : List RowV) : rowLed (a ++ b) = rowLed a ++ rowLed b := by simp [rowLed]
def refsV (rows : List RowV) : List Value := rows.map fun r => Value.ref r.a
theorem refsV_app (rows : List RowV) (r : RowV) : refsV (rows ++ [r]) = refsV rows ++ [Value.ref r.a] := by simp [refsV]
/-- what stands through the law's last loop -/
structure LawFx where
  w : World
  tD : Addr
  dD : Addr
  cM : Addr
  cP : Addr
  cN : Addr
  cL : Addr
  aA : Addr
  rD : Addr
  lD : Addr
  nA : Nat
  nR : Nat
  nL : Nat
  asks : List Ask
  prs : List Pr
  rs : List Rd
structure LawSt where
  told : List RowV
  due : List RowV
  rds : List (Rd × Obj)
  oM : Obj
  oP : Obj
  oN : Obj
  oL : Obj
  vM : Option Value
  vP : Option Value
  vN : Option Value
  vL : Option Value
  nT : Nat
  nD : Nat
def LawFx.keys (f : LawFx) : List (Addr × Obj) := f.asks.flatMap Ask.key
def LawFx.st (f : LawFx) : List (Addr × Obj) := f.prs.flatMap Pr.led ++ askLed f.asks
def LawFx.mem (f : LawFx) (i : Nat) (q : Pr) : Mem := memAt q.ms q.ds ((f.asks.take i).map Ask.mp)
def LawFx.ans (f : LawFx) (i : Nat) (a : Ask) (q : Pr) : Ans := saidA (f.mem i q) a.md a.p q.ms q.ds
def LawFx.row (f : LawFx) (i : Nat) : List Ans := match f.asks[i]? with | some a => f.prs.map (f.ans i a) | none => []
def tailM (f : LawFx) (told due : List RowV) (rds : List (Rd × Obj)) : List (Addr × Obj) := (f.st ++ (rowLed told ++ rowLed due)) ++ rdsLed f.w rds
def ledM (f : LawFx) (c : LawSt) : List (Addr × Obj) :=
  (f.tD, listOf (refsV c.told).toArray c.nT) :: (f.dD, listOf (refsV c.due).toArray c.nD) :: (f.cM, c.oM) :: (f.cP, c.oP) :: (f.cN, c.oN) :: (f.cL, c.oL) ::
    (f.aA, listOf (f.asks.map fun a => Value.ref a.T).toArray f.nA) :: (f.rD, listOf (f.rs.map fun r => Value.ref r.x).toArray f.nR) :: (f.lD, listOf (f.prs.map fun q => Value.ref q.T).toArray f.nL) :: tailM f c.told c.due c.rds
def Off6 (f : LawFx) (a : Addr) : Prop := a ≠ f.tD ∧ a ≠ f.dD ∧ a ≠ f.cM ∧ a ≠ f.cP ∧ a ≠ f.cN ∧ a ≠ f.cL
structure LawOk (f : LawFx) : Prop where
  asks : ∀ a ∈ f.asks, AskOk a
  asksN : f.asks.length ≤ 64
  prs : ∀ q ∈ f.prs, PrOk q
  prsN : f.prs.length ≤ 4
structure GoodL (f : LawFx) (i : Nat) (c : LawSt) : Prop where
  rds : RdsOk f.w f.keys (f.prs.map (f.mem i)) f.prs c.rds
  same : c.rds.map (·.1) = f.rs
  toldN : c.told.length = i
  dueN : c.due.length = i
  told : ∀ j r, c.told[j]? = some r → AnsAre (f.row j) r.vs
  due : ∀ j r, c.due[j]? = some r → AnsAre (f.row j) r.vs
  cellM : c.oM.data = .cell c.vM
  cellP : c.oP.data = .cell c.vP
  cellN : c.oN.data = .cell c.vN
  cellL : c.oL.data = .cell c.vL
  off : ∀ p ∈ tailM f c.told c.due c.rds, Off6 f p.1
abbrev chain4 (m₁ m₀ : Str → Option Value) : Str → Option Value := fun y => if y = Str.ofString "k" then m₁ y else if y = Str.ofString "row" then m₁ y else if y = Str.ofString "alone" then m₁ y else if y = Str.ofString "answers" then m₁ y else m₀ y
abbrev chainA (m₁ m₀ : Str → Option Value) : Str → Option Value := fun y => if y = Str.ofString "alone" then m₁ y else if y = Str.ofString "answers" then m₁ y else m₀ y
def Off4 (m m₀ : Str → Option Value) : Prop := ∀ y, y ≠ Str.ofString "k" → y ≠ Str.ofString "row" → y ≠ Str.ofString "alone" → y ≠ Str.ofString "answers" → m y = m₀ y
def OffT (m m₀ : Str → Option Value) : Prop := ∀ y, y ≠ Str.ofString "alone" → y ≠ Str.ofString "answers" → m y = m₀ y
theorem Off4.eq {m m₀ : Str → Option Value} (h : Off4 m m₀) : m = chain4 m m₀ := by
  funext y
  unfold chain4
  split
  · rfl
  split
  · rfl
  split
  · rfl
  split
  · rfl
  exact h y (by assumption) (by assumption) (by assumption) (by assumption)
theorem OffT.eq {m m₀ : Str → Option Value} (h : OffT m m₀) : m = chainA m m₀ := by
  funext y
  unfold chainA
  split
  · rfl
  split
  · rfl
  exact h y (by assumption) (by assumption)
def LJ (f : LawFx) (m₀ : Str → Option Value) (i : Nat) (m : Str → Option Value) (nx : List (Addr × Obj)) : Prop := ∃ c, nx = ledM f c ∧ GoodL f i c ∧ Off4 m m₀
section
variable {prog : Program} {w : World} {A : Around} {E : Value → Shared → Prop} {s : Shared} {env : Env} {h₀ : Heap} {body : List Stmt} {Q : Flow → Shared → Prop}
/-- for k, (module, path) in enumerate(asks) -/
theorem enum_asks {elts : List Expr} {k : Nat} {pos : Pos} {m₀ : Str → Option Value} {news : List (Addr × Obj)} (f : LawFx) (c₀ : LawSt)
    (hh : A.handled = none) (F : Fr h₀ env.locals s.heap m₀) (N : News h₀ env.locals s.heap news) (hN : ∀ p ∈ ledM f c₀, p ∈ news) (hg : GoodL f 0 c₀) (hE : PassesOwn (model prog w) A env E)
    (turn : ∀ i a T t m₁ c h tk dr I o1 o2, f.asks[i]? = some a → GoodL f i c → (∀ p ∈ ledM f c, p.1 ≠ I ∧ p.1 ≠ I + 1) → IsTup h T #[.int (i : Int) t, .ref a.T] → Fr h₀ env.locals h (chain4 m₁ m₀) → News h₀ env.locals h ((I + 1, o1) :: (I, o2) :: ledM f c) →
      wpAny (model prog w) A (assign (.Tuple elts k pos) env (.ref T)) (fun _ s₂ => wpAny (model prog w) A (execs body env) (EnumPostX h₀ env.locals I o1 o2 (LJ f m₀ (i + 1)) Q s) E s₂) E { s with heap := h, toks := tk, drawn := dr })
    (done : ∀ m₁ c h tk dr, GoodL f f.asks.length c → Fr h₀ env.locals h (chain4 m₁ m₀) → News h₀ env.locals h (ledM f c) → Q .next { s with heap := h, toks := tk, drawn := dr }) :
    wpAny (model prog w) A (call (.type "enumerate") [.ref f.aA]) (fun xv s₁ => wpAny (model prog w) A (pyIter xv) (fun it s₂ => codeAny (model prog w) A (.forLoop (.Tuple elts k pos) it body [] env) (fun r s' => match r with | .ok f => Q f s' | .error e => cameBackBy (model prog w) A env E e s') s₂) E s₁) E s := by
  refine enum_listX (vs := f.asks.map fun a => Value.ref a.T) (n := f.nA) (news := ledM f c₀) (m₀ := m₀) (LJ f m₀) hh ?_ F (fun p hp => N p (hN p hp)) ⟨c₀, rfl, hg, fun _ _ _ _ _ => rfl⟩ hE ?_ ?_
  · rintro i m nx ⟨c, rfl, _⟩
    exact .tail _ (.tail _ (.tail _ (.tail _ (.tail _ (.tail _ (.head _))))))
  · rintro i v T t m₁ nx h tk dr I o1 o2 hv ⟨c, rfl, hgc, hm⟩ hne hT F' N'
    obtain ⟨a, ha, rfl⟩ : ∃ a, f.asks[i]? = some a ∧ v = Value.ref a.T := by
      rw [List.getElem?_map] at hv
      cases hq : f.asks[i]? with
      | none => rw [hq] at hv; cases hv
      | some q => rw [hq] at hv; exact ⟨q, rfl, (Option.some.inj hv).symm⟩
    rw [hm.eq] at F'
    exact turn i a T t m₁ c h tk dr I o1 o2 ha hgc hne hT F' N'
  · rintro m₁ nx h tk dr ⟨c, rfl, hgc, hm⟩ F' N'
    rw [List.length_map] at hgc
    rw [hm.eq] at F'
    exact done m₁ c h tk dr hgc F' N'
end
section
variable {prog : Program} {w : World} {A : Around} {E : Value → Shared → Prop} {s : Shared} {h₀ : Heap} {L a b : Addr} {news : List (Addr × Obj)} {Q : Value → Shared → Prop}
theorem ans_eq {x : Ans} {u v : Value} (hu : AnsIs x u) (hv : AnsIs x v) : SeqAt.EqAt A s u v true := by
  cases x with
  | i n =>
    obtain ⟨t, rfl⟩ := hu
    obtain ⟨t', rfl⟩ := hv
    have := SeqAt.EqAt.int_int (A := A) (s := s) n t n t'
    simpa using this
  | e y =>
    obtain ⟨t, rfl⟩ := hu
    obtain ⟨t', rfl⟩ := hv
    have := SeqAt.EqAt.str_str (A := A) (s := s) y t y t'
    simpa using this
/-- told == due -/
theorem lists_eq {R : Nat → List Ans} {told due : List RowV} {n n2 : Nat} (N : News h₀ L s.heap news) (ha : (a, listOf (refsV told).toArray n) ∈ news) (hb : (b, listOf (refsV due).toArray n2) ∈ news)
    (ht : ∀ p ∈ rowLed told, p ∈ news) (hd : ∀ p ∈ rowLed due, p ∈ news) (hl : told.length = due.length) (h1 : ∀ j r, told[j]? = some r → AnsAre (R j) r.vs) (h2 : ∀ j r, due[j]? = some r → AnsAre (R j) r.vs)
    (hu : A.units + 8 < cLine) (h : Q (.bool true) s) : wpAny (model prog w) A (compareOp .Eq (.ref a) (.ref b)) Q E s := by
  have hu1 : A.in1.units < cLine := by rw [units_in1]; omega
  refine SeqAt.eq_listAt (e := fun _ => true) (News.isList N ha) (News.isList N hb) (by simp [refsV, hl]) (by omega) (fun j g1 g2 => ?_) (by rw [all_t]; exact h)
  have hj : j < told.length := by simpa [refsV] using g1
  have hj2 : j < due.length := by omega
  have e1 : (refsV told).toArray[j] = .ref told[j].a := by simp [refsV]
  have e2 : (refsV due).toArray[j] = .ref due[j].a := by simp [refsV]
  rw [e1, e2]
  by_cases hne : told[j].a = due[j].a
  · rw [hne]; exact SeqAt.EqAt.same _
  have r1 := h1 j told[j] (by simp [hj])
  have r2 := h2 j due[j] (by simp [hj2])
  have l1 : s.heap.IsList told[j].a told[j].vs.toArray := News.isList N (ht _ (List.mem_map.mpr ⟨told[j], List.getElem_mem hj, rfl⟩))
  have l2 : s.heap.IsList due[j].a due[j].vs.toArray := News.isList N (hd _ (List.mem_map.mpr ⟨due[j], List.getElem_mem hj2, rfl⟩))
  have len1 := r1.1
  have len2 := r2.1
  refine SeqAt.EqAt.of_refs hne ?_
  have := SeqAt.RcAt.lists (e := fun _ => true) l1 l2 (by simp; omega) hu1 (fun i g1 g2 => ?_)
  · rw [all_t] at this
    exact this
  · have i1 : i < told[j].vs.length := by simpa using g1
    have i2 : i < due[j].vs.length := by simpa using g2
    have i0 : i < (R j).length := by omega
    have x1 := r1.2 i (R j)[i] told[j].vs[i] (by simp [i0]) (by simp [i1])
    have x2 := r2.2 i (R j)[i] due[j].vs[i] (by simp [i0]) (by simp [i2])
    have e3 : told[j].vs.toArray[i] = told[j].vs[i] := by simp
    have e4 : due[j].vs.toArray[i] = due[j].vs[i] := by simp
    rw [e3, e4]
    exact ans_eq x1 x2
end
theorem saidM_len (mem : Mem) (md : Md) (p : Pth) (ms ds : List Str) : (saidM mem md p ms ds).length ≤ mem.length + 1 := by
  unfold saidM
  split
  · omega
  · unfold keepAns
    split
    · simp
    · omega
theorem memAt_len (ms ds : List Str) (asks : List (Md × Pth)) : (memAt ms ds asks).length ≤ asks.length + 1 := by
  have : ∀ (asks : List (Md × Pth)) (mem : Mem), (asks.foldl (fun mem q => saidM mem q.1 q.2 ms ds) mem).length ≤ mem.length + asks.length := by
    intro asks
    induction asks with
    | nil => intro mem; simp
    | cons q r ih =>
      intro mem
      rw [List.foldl_cons, List.length_cons]
      have h1 := ih (saidM mem q.1 q.2 ms ds)
      have h2 := saidM_len mem q.1 q.2 ms ds
      omega
  have := this asks [(strM, 1)]
  simp only [List.length_cons, List.length_nil] at this
  unfold memAt
  omega
theorem LawFx.mem_len {f : LawFx} (h : LawOk f) (i : Nat) (q : Pr) : (f.mem i q).length ≤ 100 := by
  have h1 := memAt_len q.ms q.ds ((f.asks.take i).map Ask.mp)
  have h2 := h.asksN
  simp only [List.length_map, List.length_take] at h1
  unfold LawFx.mem
  omega
theorem LawFx.mem_next {f : LawFx} {i : Nat} {a : Ask} (h : f.asks[i]? = some a) (q : Pr) : f.mem (i + 1) q = saidM (f.mem i q) a.md a.p q.ms q.ds := by
  unfold LawFx.mem
  rw [take_map_snoc Ask.mp h, memAt_snoc]
  rfl
theorem LawFx.row_at {f : LawFx} {i : Nat} {a : Ask} (h : f.asks[i]? = some a) : f.row i = f.prs.map (f.ans i a) := by
  unfold LawFx.row
  rw [h]
/-- one ask more has been told and is due -/
theorem GoodL.next {f : LawFx} {i : Nat} {c : LawSt} {a : Ask} (g : GoodL f i c) (ha : f.asks[i]? = some a) {rds' : List (Rd × Obj)} (R : RdsOk f.w f.keys (f.prs.map fun q => saidM (f.mem i q) a.md a.p q.ms q.ds) f.prs rds') (hm : rds'.map (·.1) = c.rds.map (·.1))
    {D R' : Addr} {ys vs : List Value} {nD nV nT nU : Nat} {oM oP oN oL : Obj} {vM vP vN vL : Option Value} (hy : AnsAre (f.prs.map (f.ans i a)) ys) (hv : AnsAre (f.prs.map (f.ans i a)) vs) (oD : Off6 f D) (oR : Off6 f R')
    (d1 : oM.data = .cell vM) (d2 : oP.data = .cell vP) (d3 : oN.data = .cell vN) (d4 : oL.data = .cell vL) :
    GoodL f (i + 1) ⟨c.told ++ [⟨D, ys, nD⟩], c.due ++ [⟨R', vs, nV⟩], rds', oM, oP, oN, oL, vM, vP, vN, vL, nT, nU⟩ := by
  have snoc : ∀ {rows : List RowV} {r0 : RowV}, rows.length = i → (∀ j r, rows[j]? = some r → AnsAre (f.row j) r.vs) → AnsAre (f.prs.map (f.ans i a)) r0.vs → ∀ j r, (rows ++ [r0])[j]? = some r → AnsAre (f.row j) r.vs := by
    intro rows r0 hl hr h0 j r hj
    by_cases hlt : j < rows.length
    · rw [List.getElem?_append_left hlt] at hj
      exact hr j r hj
    · rw [List.getElem?_append_right (by omega)] at hj
      have h1 := List.mem_singleton.mp (List.mem_of_getElem? hj)
      have h2 := (List.getElem?_eq_some_iff.mp hj).1
      simp at h2
      have h3 : j = i := by omega
      rw [h1, h3, LawFx.row_at ha]; exact h0
  refine ⟨?_, hm.trans g.same, by simp [g.toldN], by simp [g.dueN], snoc g.toldN g.told hy, snoc g.dueN g.due hv, d1, d2, d3, d4, ?_⟩
  · have e : (f.prs.map (f.mem (i + 1))) = f.prs.map fun q => saidM (f.mem i q) a.md a.p q.ms q.ds := List.map_congr_left fun q _ => LawFx.mem_next ha q
    rw [e]; exact R
  · intro p hp
    unfold tailM at hp
    rw [rowLed_app, rowLed_app] at hp
    simp only [List.mem_append] at hp
    rcases hp with (hp | (hp | hp) | hp | hp) | hp
    · exact g.off p (List.mem_append_left _ (List.mem_append_left _ hp))
    · exact g.off p (List.mem_append_left _ (List.mem_append_right _ (List.mem_append_left _ hp)))
    · simp only [rowLed, List.map_cons, List.map_nil, List.mem_singleton] at hp
      subst hp; exact oD
    · exact g.off p (List.mem_append_left _ (List.mem_append_right _ (List.mem_append_right _ hp)))
    · simp only [rowLed, List.map_cons, List.map_nil, List.mem_singleton] at hp
      subst hp; exact oR
    · exact off_rds (P := Off6 f) hm (fun q hq => g.off q (List.mem_append_right _ hq)) p hp
end Mine
end PartX1f

section PartX1g
open PySem PySem.W PyProof.Rows PySem.Spec PySem.Calls PyProof.Rows.LCg
set_option Elab.async false
set_option maxRecDepth 100000
set_option maxHeartbeats 400000
set_option linter.unusedVariables false
namespace Mine
theorem freshX1g : True ∧ True := by
  w_top off
  first | (walk1; all_goals trivial) | exact ⟨trivial, trivial⟩
theorem RdsOk.mono {w : World} {ks ks' : List (Addr × Obj)} {mems : List Mem} {prs : List Pr} {rds : List (Rd × Obj)} (h : ∀ p ∈ ks, p ∈ ks') (R : RdsOk w ks mems prs rds) : RdsOk w ks' mems prs rds :=
  ⟨R.ok, R.lists, R.memsLen, fun j r mem hr hm => (R.dict j r mem hr hm).mono h, R.apart⟩
/-- the last loop's first state -/
theorem law_start {w : World} {h₀ h : Heap} {L tD dD cM cP cN cL aA rD lD : Addr} {nA nR nL : Nat} {asks : List Ask} {prs : List Pr} {rds : List (Rd × Obj)} {oM oP oN oL : Obj} {vM vP vN vL : Option Value} {S : Addr × Obj} {rest : List (Addr × Obj)}
    (N : News h₀ L h ((dD, listOf #[] 0) :: (tD, listOf #[] 0) :: (aA, listOf (asks.map fun a => Value.ref a.T).toArray nA) :: (cM, oM) :: (cP, oP) :: S :: (cN, oN) :: (cL, oL) :: (rest ++ askLed asks)))
    (mR : (rD, listOf (rds.map fun r => Value.ref r.1.x).toArray nR) ∈ rest) (mP : ∀ q ∈ prs, ∀ p ∈ q.led, p ∈ rest) (mQ : ∀ p ∈ rdsLed w rds, p ∈ rest) (mL : (lD, listOf (prs.map fun q => Value.ref q.T).toArray nL) ∈ rest)
    (xT : ∀ p ∈ rest ++ askLed asks, p.1 ≠ tD) (xD : ∀ p ∈ rest ++ askLed asks, p.1 ≠ dD) (xM : ∀ p ∈ rest ++ askLed asks, p.1 ≠ cM) (xP : ∀ p ∈ rest ++ askLed asks, p.1 ≠ cP) (xN : ∀ p ∈ rest, p.1 ≠ cN) (xL : ∀ p ∈ rest, p.1 ≠ cL)
    (d1 : oM.data = .cell vM) (d2 : oP.data = .cell vP) (d3 : oN.data = .cell vN) (d4 : oL.data = .cell vL) (R : RdsOk w [] (List.replicate 4 firstMem) prs rds) (hn : prs.length = 4) :
    (∀ p ∈ ledM ⟨w, tD, dD, cM, cP, cN, cL, aA, rD, lD, nA, nR, nL, asks, prs, rds.map (·.1)⟩ ⟨[], [], rds, oM, oP, oN, oL, vM, vP, vN, vL, 0, 0⟩, p ∈ (dD, listOf #[] 0) :: (tD, listOf #[] 0) :: (aA, listOf (asks.map fun a => Value.ref a.T).toArray nA) :: (cM, oM) :: (cP, oP) :: S :: (cN, oN) :: (cL, oL) :: (rest ++ askLed asks)) ∧
    GoodL ⟨w, tD, dD, cM, cP, cN, cL, aA, rD, lD, nA, nR, nL, asks, prs, rds.map (·.1)⟩ 0 ⟨[], [], rds, oM, oP, oN, oL, vM, vP, vN, vL, 0, 0⟩ := by
  have tl : ∀ p ∈ tailM ⟨w, tD, dD, cM, cP, cN, cL, aA, rD, lD, nA, nR, nL, asks, prs, rds.map (·.1)⟩ [] [] rds, p ∈ rest ++ askLed asks := by
    intro p hp
    simp only [tailM, LawFx.st, rowLed, List.map_nil, List.append_nil, List.mem_append] at hp ⊢
    rcases hp with (hp | hp) | hp
    · obtain ⟨q, hq, hp⟩ := List.mem_flatMap.mp hp
      exact .inl (mP q hq p hp)
    · exact .inr hp
    · exact .inl (mQ p hp)
  have cellOff : ∀ {c : Addr} {o : Obj} {v : Option Value}, (c, o) ∈ (dD, listOf #[] 0) :: (tD, listOf #[] 0) :: (aA, listOf (asks.map fun a => Value.ref a.T).toArray nA) :: (cM, oM) :: (cP, oP) :: S :: (cN, oN) :: (cL, oL) :: (rest ++ askLed asks) → o.data = .cell v → ∀ p ∈ askLed asks, p.1 ≠ c := by
    intro c o v hc hd p hp
    refine news_off N (List.mem_append_right [(dD, listOf #[] 0), (tD, listOf #[] 0), (aA, listOf (asks.map fun a => Value.ref a.T).toArray nA), (cM, oM), (cP, oP), S, (cN, oN), (cL, oL)] (List.mem_append_right _ hp)) hc fun e => ?_
    obtain ⟨a, ha, hp⟩ := List.mem_flatMap.mp hp
    rw [← e] at hd
    simp only [Ask.led, Ask.key, List.mem_cons, List.not_mem_nil, or_false] at hp
    rcases hp with rfl | rfl <;> cases hd
  refine ⟨fun p hp => ?_, ?_, rfl, rfl, rfl, (fun j r h => by cases h), (fun j r h => by cases h), d1, d2, d3, d4, ?_⟩
  · simp only [ledM, refsV, List.map_nil, List.mem_cons] at hp
    have e : (rds.map (·.1)).map (fun r : Rd => Value.ref r.x) = rds.map fun r => Value.ref r.1.x := by rw [List.map_map]; rfl
    rw [e] at hp
    rcases hp with rfl | rfl | rfl | rfl | rfl | rfl | rfl | rfl | rfl | hp
    · exact .tail _ (.head _)
    · exact .head _
    · exact .tail _ (.tail _ (.tail _ (.head _)))
    · exact .tail _ (.tail _ (.tail _ (.tail _ (.head _))))
    · exact .tail _ (.tail _ (.tail _ (.tail _ (.tail _ (.tail _ (.head _))))))
    · exact .tail _ (.tail _ (.tail _ (.tail _ (.tail _ (.tail _ (.tail _ (.head _)))))))
    · exact .tail _ (.tail _ (.head _))
    · exact .tail _ (.tail _ (.tail _ (.tail _ (.tail _ (.tail _ (.tail _ (.tail _ (List.mem_append_left _ mR))))))))
    · exact .tail _ (.tail _ (.tail _ (.tail _ (.tail _ (.tail _ (.tail _ (.tail _ (List.mem_append_left _ mL))))))))
    · exact .tail _ (.tail _ (.tail _ (.tail _ (.tail _ (.tail _ (.tail _ (.tail _ (tl p hp))))))))
  · have e : (prs.map (LawFx.mem ⟨w, tD, dD, cM, cP, cN, cL, aA, rD, lD, nA, nR, nL, asks, prs, rds.map (·.1)⟩ 0)) = List.replicate 4 firstMem := by
      rw [← hn]
      refine List.eq_replicate_iff.mpr ⟨by simp, fun b hb => ?_⟩
      obtain ⟨q, _, rfl⟩ := List.mem_map.mp hb
      rfl
    show RdsOk w _ (prs.map (LawFx.mem _ 0)) prs rds
    rw [e]
    exact R.mono fun p h => absurd h List.not_mem_nil
  · intro p hp
    have hp' := tl p hp
    refine ⟨xT p hp', xD p hp', xM p hp', xP p hp', ?_, ?_⟩
    · rcases List.mem_append.mp hp' with h | h
      · exact xN p h
      · exact cellOff (.tail _ (.tail _ (.tail _ (.tail _ (.tail _ (.tail _ (.head _))))))) d3 p h
    · rcases List.mem_append.mp hp' with h | h
      · exact xL p h
      · exact cellOff (.tail _ (.tail _ (.tail _ (.tail _ (.tail _ (.tail _ (.tail _ (.head _)))))))) d4 p h
/-- the inner loop: the row so far -/
def NJ (R cN cL : Addr) (rest : List (Addr × Obj)) (ans : Pr → Ans) (prs : List Pr) (m₀ : Str → Option Value) (j : Nat) (m : Str → Option Value) (nx : List (Addr × Obj)) : Prop :=
  ∃ (vs : List Value) (n : Nat) (oN oL : Obj) (vN vL : Option Value), nx = (R, listOf vs.toArray n) :: (cN, oN) :: (cL, oL) :: rest ∧ AnsAre ((prs.map ans).take j) vs ∧ oN.data = .cell vN ∧ oL.data = .cell vL ∧ OffT m m₀
section
variable {prog : Program} {w : World} {A : Around} {E : Value → Shared → Prop} {s : Shared} {env : Env} {h₀ : Heap} {body : List Stmt} {Q : Flow → Shared → Prop}
/-- for names, places in lists -/
theorem for_lists {target : Expr} {lD R cN cL : Addr} {nL n₀ : Nat} {m₀ : Str → Option Value} {rest : List (Addr × Obj)} {prs : List Pr} {oN₀ oL₀ : Obj} {vN₀ vL₀ : Option Value} (ans : Pr → Ans)
    (hh : A.handled = none) (F : Fr h₀ env.locals s.heap m₀) (N : News h₀ env.locals s.heap ((R, listOf #[] n₀) :: (cN, oN₀) :: (cL, oL₀) :: rest)) (hl : (lD, listOf (prs.map fun q => Value.ref q.T).toArray nL) ∈ rest) (d1 : oN₀.data = .cell vN₀) (d2 : oL₀.data = .cell vL₀) (hE : PassesOwn (model prog w) A env E)
    (turn : ∀ j q vs n oN oL vN vL m₁ h tk dr I io, prs[j]? = some q → AnsAre ((prs.map ans).take j) vs → oN.data = .cell vN → oL.data = .cell vL → (∀ p ∈ (R, listOf vs.toArray n) :: (cN, oN) :: (cL, oL) :: rest, p.1 ≠ I) → Fr h₀ env.locals h (chainA m₁ m₀) → News h₀ env.locals h ((I, io) :: (R, listOf vs.toArray n) :: (cN, oN) :: (cL, oL) :: rest) →
      wpAny (model prog w) A (assign target env (.ref q.T)) (fun _ s₂ => wpAny (model prog w) A (execs body env) (TurnPostX h₀ env.locals I io (NJ R cN cL rest ans prs m₀ (j + 1)) Q s) E s₂) E { s with heap := h, toks := tk, drawn := dr })
    (done : ∀ vs n oN oL vN vL m₁ h tk dr, AnsAre (prs.map ans) vs → oN.data = .cell vN → oL.data = .cell vL → Fr h₀ env.locals h (chainA m₁ m₀) → News h₀ env.locals h ((R, listOf vs.toArray n) :: (cN, oN) :: (cL, oL) :: rest) → Q .next { s with heap := h, toks := tk, drawn := dr }) :
    wpAny (model prog w) A (pyIter (.ref lD)) (fun it s₂ => codeAny (model prog w) A (.forLoop target it body [] env) (fun r s' => match r with | .ok f => Q f s' | .error e => cameBackBy (model prog w) A env E e s') s₂) E s := by
  refine for_listX (vs := prs.map fun q => Value.ref q.T) (n := nL) (m₀ := m₀) (NJ R cN cL rest ans prs m₀) hh ?_ F N ⟨[], n₀, oN₀, oL₀, vN₀, vL₀, rfl, AnsAre.nil, d1, d2, fun _ _ _ => rfl⟩ hE ?_ ?_
  · rintro i m nx ⟨vs, n, oN, oL, vN, vL, rfl, _⟩
    exact .tail _ (.tail _ (.tail _ hl))
  · rintro i v m₁ nx h tk dr I io hv ⟨vs, n, oN, oL, vN, vL, rfl, hA, e1, e2, hm⟩ hne F' N'
    obtain ⟨q, hq, rfl⟩ : ∃ q, prs[i]? = some q ∧ v = Value.ref q.T := by
      rw [List.getElem?_map] at hv
      cases hq : prs[i]? with
      | none => rw [hq] at hv; cases hv
      | some q => rw [hq] at hv; exact ⟨q, rfl, (Option.some.inj hv).symm⟩
    rw [hm.eq] at F'
    exact turn i q vs n oN oL vN vL m₁ h tk dr I io hq hA e1 e2 hne F' N'
  · rintro m₁ nx h tk dr ⟨vs, n, oN, oL, vN, vL, rfl, hA, e1, e2, hm⟩ F' N'
    rw [hm.eq] at F'
    rw [List.take_of_length_le (by simp)] at hA
    exact done vs n oN oL vN vL m₁ h tk dr hA e1 e2 F' N'
end
/-- one answer more is due -/
theorem row_end {h₀ : Heap} {L I R cN cL : Addr} {io : Obj} {rest all : List (Addr × Obj)} {ans : Pr → Ans} {prs : List Pr} {m₀ m' : Str → Option Value} {j : Nat} {Q : Flow → Shared → Prop} {s : Shared} {h' : Heap} {tk n n₁ : Nat} {dr : Drawn} {oN oL oN₁ oL₁ : Obj} {vN vL : Option Value} {q : Pr} {vs : List Value} {v : Value}
    (F : Fr h₀ L h' m') (N : News h₀ L h' all) (hall : ∀ p ∈ (I, io) :: (R, listOf (vs ++ [v]).toArray n) :: (cN, oN) :: (cL, oL) :: rest, p ∈ all) (hI : ∀ p ∈ (R, listOf vs.toArray n₁) :: (cN, oN₁) :: (cL, oL₁) :: rest, p.1 ≠ I)
    (hq : prs[j]? = some q) (hA : AnsAre ((prs.map ans).take j) vs) (hv : AnsIs (ans q) v) (d1 : oN.data = .cell vN) (d2 : oL.data = .cell vL) (hm : OffT m' m₀) :
    TurnPostX h₀ L I io (NJ R cN cL rest ans prs m₀ (j + 1)) Q s .next { s with heap := h', toks := tk, drawn := dr } := by
  refine TurnPostX.next (nx := (R, listOf (vs ++ [v]).toArray n) :: (cN, oN) :: (cL, oL) :: rest) F N hall (fun p hp => ?_) ⟨vs ++ [v], n, oN, oL, vN, vL, rfl, ?_, d1, d2, hm⟩
  · rcases List.mem_cons.mp hp with rfl | hp
    · exact hI (R, listOf vs.toArray n₁) (.head _)
    rcases List.mem_cons.mp hp with rfl | hp
    · exact hI (cN, oN₁) (.tail _ (.head _))
    rcases List.mem_cons.mp hp with rfl | hp
    · exact hI (cL, oL₁) (.tail _ (.tail _ (.head _)))
    · exact hI p (.tail _ (.tail _ (.tail _ hp)))
  · have : (prs.map ans)[j]? = some (ans q) := by rw [List.getElem?_map, hq]; rfl
    rw [List.take_add_one, this]
    exact hA.snoc hv
/-- one ask's rows stand -/
theorem law_end {h₀ : Heap} {L I : Addr} {o1 o2 : Obj} {all : List (Addr × Obj)} {f : LawFx} {c : LawSt} {m₀ m' : Str → Option Value} {i : Nat} {Q : Flow → Shared → Prop} {s : Shared} {h' : Heap} {tk : Nat} {dr : Drawn} {a : Ask} {rds' : List (Rd × Obj)} {D R' : Addr} {ys vs : List Value} {nD nV nT nU : Nat} {oM oP oN oL : Obj} {vM vP vN vL : Option Value}
    (F : Fr h₀ L h' m') (N : News h₀ L h' all)
    (hall : ∀ p ∈ (I + 1, o1) :: (I, o2) :: (f.tD, listOf (refsV c.told ++ [Value.ref D]).toArray nT) :: (f.dD, listOf (refsV c.due ++ [Value.ref R']).toArray nU) :: (f.cM, oM) :: (f.cP, oP) :: (f.cN, oN) :: (f.cL, oL) ::
      (f.aA, listOf (f.asks.map fun a => Value.ref a.T).toArray f.nA) :: (f.rD, listOf (f.rs.map fun r => Value.ref r.x).toArray f.nR) :: (f.lD, listOf (f.prs.map fun q => Value.ref q.T).toArray f.nL) :: tailM f c.told c.due rds', p ∈ all)
    (hD : (D, listOf ys.toArray nD) ∈ all) (hR : (R', listOf vs.toArray nV) ∈ all) (hoff : ∀ p ∈ ledM f c, p.1 ≠ I ∧ p.1 ≠ I + 1) (oD : Off6 f D) (oR : Off6 f R') (iD : D ≠ I ∧ D ≠ I + 1) (iR : R' ≠ I ∧ R' ≠ I + 1)
    (g : GoodL f i c) (ha : f.asks[i]? = some a) (R : RdsOk f.w f.keys (f.prs.map fun q => saidM (f.mem i q) a.md a.p q.ms q.ds) f.prs rds') (hm : rds'.map (·.1) = c.rds.map (·.1)) (hy : AnsAre (f.prs.map (f.ans i a)) ys) (hv : AnsAre (f.prs.map (f.ans i a)) vs)
    (d1 : oM.data = .cell vM) (d2 : oP.data = .cell vP) (d3 : oN.data = .cell vN) (d4 : oL.data = .cell vL) (h4 : Off4 m' m₀) :
    EnumPostX h₀ L I o1 o2 (LJ f m₀ (i + 1)) Q s .next { s with heap := h', toks := tk, drawn := dr } := by
  have split : ∀ p ∈ tailM f (c.told ++ [⟨D, ys, nD⟩]) (c.due ++ [⟨R', vs, nV⟩]) rds', p ∈ tailM f c.told c.due rds' ∨ p = (D, listOf ys.toArray nD) ∨ p = (R', listOf vs.toArray nV) := by
    intro p hp
    unfold tailM at hp ⊢
    rw [rowLed_app, rowLed_app] at hp
    simp only [List.mem_append] at hp ⊢
    rcases hp with (hp | (hp | hp) | hp | hp) | hp
    · exact .inl (.inl (.inl hp))
    · exact .inl (.inl (.inr (.inl hp)))
    · simp only [rowLed, List.map_cons, List.map_nil, List.mem_singleton] at hp
      exact .inr (.inl hp)
    · exact .inl (.inl (.inr (.inr hp)))
    · simp only [rowLed, List.map_cons, List.map_nil, List.mem_singleton] at hp
      exact .inr (.inr hp)
    · exact .inl (.inr hp)
  refine EnumPostX.next (nx := ledM f ⟨c.told ++ [⟨D, ys, nD⟩], c.due ++ [⟨R', vs, nV⟩], rds', oM, oP, oN, oL, vM, vP, vN, vL, nT, nU⟩) F N (fun p hp => ?_) (fun p hp => ?_) ⟨_, rfl, g.next ha R hm hy hv oD oR d1 d2 d3 d4, h4⟩
  · simp only [ledM, refsV_app, List.mem_cons] at hp
    rcases hp with rfl | rfl | rfl | rfl | rfl | rfl | rfl | rfl | rfl | rfl | rfl | hp
    · exact hall _ (.head _)
    · exact hall _ (.tail _ (.head _))
    · exact hall _ (.tail _ (.tail _ (.head _)))
    · exact hall _ (.tail _ (.tail _ (.tail _ (.head _))))
    · exact hall _ (.tail _ (.tail _ (.tail _ (.tail _ (.head _)))))
    · exact hall _ (.tail _ (.tail _ (.tail _ (.tail _ (.tail _ (.head _))))))
    · exact hall _ (.tail _ (.tail _ (.tail _ (.tail _ (.tail _ (.tail _ (.head _)))))))
    · exact hall _ (.tail _ (.tail _ (.tail _ (.tail _ (.tail _ (.tail _ (.tail _ (.head _))))))))
    · exact hall _ (.tail _ (.tail _ (.tail _ (.tail _ (.tail _ (.tail _ (.tail _ (.tail _ (.head _)))))))))
    · exact hall _ (.tail _ (.tail _ (.tail _ (.tail _ (.tail _ (.tail _ (.tail _ (.tail _ (.tail _ (.head _))))))))))
    · exact hall _ (.tail _ (.tail _ (.tail _ (.tail _ (.tail _ (.tail _ (.tail _ (.tail _ (.tail _ (.tail _ (.head _)))))))))))
    · rcases split p hp with hp | rfl | rfl
      · exact hall _ (.tail _ (.tail _ (.tail _ (.tail _ (.tail _ (.tail _ (.tail _ (.tail _ (.tail _ (.tail _ (.tail _ hp)))))))))))
      · exact hD
      · exact hR
  · simp only [ledM, List.mem_cons] at hp
    rcases hp with rfl | rfl | rfl | rfl | rfl | rfl | rfl | rfl | rfl | hp
    · exact hoff (f.tD, listOf (refsV c.told).toArray c.nT) (.head _)
    · exact hoff (f.dD, listOf (refsV c.due).toArray c.nD) (.tail _ (.head _))
    · exact hoff (f.cM, c.oM) (.tail _ (.tail _ (.head _)))
    · exact hoff (f.cP, c.oP) (.tail _ (.tail _ (.tail _ (.head _))))
    · exact hoff (f.cN, c.oN) (.tail _ (.tail _ (.tail _ (.tail _ (.head _)))))
    · exact hoff (f.cL, c.oL) (.tail _ (.tail _ (.tail _ (.tail _ (.tail _ (.head _))))))
    · exact hoff _ (.tail _ (.tail _ (.tail _ (.tail _ (.tail _ (.tail _ (.head _)))))))
    · exact hoff _ (.tail _ (.tail _ (.tail _ (.tail _ (.tail _ (.tail _ (.tail _ (.head _))))))))
    · exact hoff _ (.tail _ (.tail _ (.tail _ (.tail _ (.tail _ (.tail _ (.tail _ (.tail _ (.head _)))))))))
    · rcases split p hp with hp | rfl | rfl
      · have tl : ∀ q ∈ tailM f c.told c.due c.rds, q.1 ≠ I ∧ q.1 ≠ I + 1 := fun q hq => hoff q (.tail _ (.tail _ (.tail _ (.tail _ (.tail _ (.tail _ (.tail _ (.tail _ (.tail _ hq)))))))))
        unfold tailM at hp
        rcases List.mem_append.mp hp with hp | hp
        · exact tl p (List.mem_append_left _ hp)
        · exact off_rds (P := fun a => a ≠ I ∧ a ≠ I + 1) hm (fun q hq => tl q (List.mem_append_right _ hq)) p hp
      · exact iD
      · exact iR
theorem news_cons {h₀ h : Heap} {L : Addr} {all : List (Addr × Obj)} {p : Addr × Obj} (N : News h₀ L h all) (hp : p ∈ all) : News h₀ L h (p :: all) := fun q hq => by
  rcases List.mem_cons.mp hq with rfl | hq
  · exact N _ hp
  · exact N _ hq
theorem LawOk.of {f : LawFx} {i : Nat} {c : LawSt} (g : GoodL f i c) (h1 : ∀ a ∈ f.asks, AskOk a) (h2 : f.asks.length ≤ 64) (h3 : ∀ q ∈ f.prs, PrOk q) (h4 : f.prs.length ≤ 4) : LawOk f := ⟨h1, h2, h3, h4⟩
theorem ask_in {f : LawFx} {i : Nat} {a : Ask} {told due : List RowV} {rds : List (Rd × Obj)} (h : f.asks[i]? = some a) : ∀ p ∈ a.led, p ∈ tailM f told due rds := fun p hp =>
  List.mem_append_left _ (List.mem_append_left _ (List.mem_append_right _ (askLed_mem (List.mem_of_getElem? h) p hp)))
theorem pr_in {f : LawFx} {q : Pr} {told due : List RowV} {rds : List (Rd × Obj)} (h : q ∈ f.prs) : ∀ p ∈ q.led, p ∈ tailM f told due rds := fun p hp =>
  List.mem_append_left _ (List.mem_append_left _ (List.mem_append_left _ (List.mem_flatMap.mpr ⟨q, h, hp⟩)))
theorem take_len_le (xs : List Int) : (xs.take 8 ++ [34, 2, 44, 20, 29, 40, 39, 6, 4]).length ≤ 64 := by
  rw [List.length_append, List.length_take]
  have : ([34, 2, 44, 20, 29, 40, 39, 6, 4] : List Int).length = 9 := rfl
  omega
end Mine
end PartX1g

section PartX1h
open PySem PySem.W PyProof.Rows PySem.Spec PySem.Calls PyProof.Rows.LCg
set_option Elab.async false
set_option maxRecDepth 100000
set_option maxHeartbeats 400000
set_option linter.unusedVariables false
namespace Mine
theorem freshX1h : True ∧ True := by
  w_top off
  first | (walk1; all_goals trivial) | exact ⟨trivial, trivial⟩
theorem keys_st {f : LawFx} : ∀ p ∈ f.keys, p ∈ f.st := by
  intro p hp
  obtain ⟨a, ha, hp⟩ := List.mem_flatMap.mp hp
  exact List.mem_append_right _ (askLed_mem ha p (.tail _ hp))
theorem st_nodict {f : LawFx} : ∀ p ∈ f.st, NoDict p.2 := by
  intro p hp x n e
  rcases List.mem_append.mp hp with hp | hp
  · obtain ⟨q, _, hp⟩ := List.mem_flatMap.mp hp
    simp only [Pr.led, List.mem_cons, List.not_mem_nil, or_false] at hp
    rcases hp with rfl | rfl | rfl <;> cases e
  · obtain ⟨a, _, hp⟩ := List.mem_flatMap.mp hp
    simp only [Ask.led, Ask.key, List.mem_cons, List.not_mem_nil, or_false] at hp
    rcases hp with rfl | rfl <;> cases e
theorem row_nodict {rows : List RowV} : ∀ p ∈ rowLed rows, NoDict p.2 := by
  intro p hp x n e
  obtain ⟨r, _, rfl⟩ := List.mem_map.mp hp
  cases e
section
variable {prog : Program} {A : Around} {E : Value → Shared → Prop} {s : Shared} {h₀ : Heap} {L : Addr} {m : Str → Option Value} {env : Env} {elt iter : Expr} {scope : Scope} {cl : List (Str × Addr)} {pos : Pos}
/-- [_law_said(reader, module, path) for reader in readers] -/
theorem told_use {x : Str} {px : Pos} {Q : Value → Shared → Prop} {f : LawFx} {c : LawSt} {i : Nat} {a : Ask} {I : Addr} {Z : Addr × Obj} {X : List (Addr × Obj)} {o1 o2 oT oD oM oP oN oL : Obj}
    (g : GoodL f i c) (hok : LawOk f) (ha : f.asks[i]? = some a) (hX : X = tailM f c.told c.due c.rds) (hI : ∀ p ∈ X, p.1 ≠ I ∧ p.1 ≠ I + 1)
    (hh : A.handled = none) (F : Fr h₀ L s.heap m)
    (N : News h₀ L s.heap (Z :: (I + 1, o1) :: (I, o2) :: (f.tD, oT) :: (f.dD, oD) :: (f.cM, oM) :: (f.cP, oP) :: (f.cN, oN) :: (f.cL, oL) :: (f.aA, listOf (f.asks.map fun a => Value.ref a.T).toArray f.nA) :: (f.rD, listOf (f.rs.map fun r => Value.ref r.x).toArray f.nR) :: (f.lD, listOf (f.prs.map fun q => Value.ref q.T).toArray f.nL) :: X))
    (hcell : ∀ y ∈ scope.names, y.2 ≠ .cell) (hkind : scope.kind = .function) (hx : scope.names.lookup x = some .local)
    (el : ∀ (r : Rd) (o : Obj) (mem : Mem) (nx : List (Addr × Obj)) (I : Addr) (oI : Obj) (C : Addr) (oC : Obj) (D : Addr) (m₂ : Str → Option Value) (ys : List Value) (g h : Heap) (tk : Nat) (dr : Drawn) (E' : Value → Shared → Prop), RdOk f.w r → MdDict f.w f.keys mem o → mem.length ≤ 100 → NsObj oC m₂ → m₂ x = some (.ref r.x) → Fr h₀ L h m → News h₀ L h ((I, oI) :: (C, oC) :: (D, lst ys) :: (f.cM, oM) :: (f.cP, oP) :: nx) → (∀ q ∈ f.keys, q ∈ nx) → (∀ q ∈ r.fix f.w, q ∈ nx) → (r.dG, o) ∈ nx →
      wpAny (model prog f.w) A (eval elt (compEnvC scope cl C env)) (SaidOne f.w f.keys ((I, oI) :: (C, oC) :: (D, lst ys) :: (f.cM, oM) :: (f.cP, oP) :: nx) r mem a.md a.p h₀ L m { s with heap := g }) E' { { s with heap := g } with heap := h, toks := tk, drawn := dr })
    (fin : ∀ (D : Addr) (h : Heap) (tk : Nat) (dr : Drawn) (ys : List Value) (rds' : List (Rd × Obj)) (X' : List (Addr × Obj)), X' = tailM f c.told c.due rds' → Fr h₀ L h m → News h₀ L h ((D, lst ys) :: (I + 1, o1) :: (I, o2) :: (f.tD, oT) :: (f.dD, oD) :: (f.cM, oM) :: (f.cP, oP) :: (f.cN, oN) :: (f.cL, oL) :: (f.aA, listOf (f.asks.map fun a => Value.ref a.T).toArray f.nA) :: (f.rD, listOf (f.rs.map fun r => Value.ref r.x).toArray f.nR) :: (f.lD, listOf (f.prs.map fun q => Value.ref q.T).toArray f.nL) :: X') →
      Off6 f D → (@Ne Nat D I ∧ @Ne Nat D (I + 1)) → @Ne Nat D f.aA → @Ne Nat D f.rD → @Ne Nat D f.lD → (∀ q ∈ X', q.1 ≠ D) → (∀ q ∈ X', Off6 f q.1 ∧ q.1 ≠ I ∧ q.1 ≠ I + 1) → RdsOk f.w f.keys (f.prs.map fun q => saidM (f.mem i q) a.md a.p q.ms q.ds) f.prs rds' → rds'.map (·.1) = c.rds.map (·.1) → AnsAre (f.prs.map (f.ans i a)) ys → Q (.ref D) { s with heap := h, toks := tk, drawn := dr }) :
    SrcGoal prog f.w A E env elt (.Name x px) iter none scope cl pos none Q (.ref f.rD) s := by
  subst hX
  have N1 : News h₀ L s.heap (((I + 1, o1) :: (I, o2) :: (f.tD, oT) :: (f.dD, oD) :: (f.cM, oM) :: (f.cP, oP) :: (f.cN, oN) :: (f.cL, oL) :: (f.aA, listOf (f.asks.map fun a => Value.ref a.T).toArray f.nA) :: (f.rD, listOf (f.rs.map fun r => Value.ref r.x).toArray f.nR) :: (f.lD, listOf (f.prs.map fun q => Value.ref q.T).toArray f.nL) :: (f.st ++ (rowLed c.told ++ rowLed c.due))) ++ rdsLed f.w c.rds) := fun p hp => N p (.tail _ hp)
  have hrs : (f.rs.map fun r => Value.ref r.x) = c.rds.map fun r => Value.ref r.1.x := by rw [← g.same, List.map_map]; rfl
  refine told_src (f.mem i) hh F N1 ?_ (by rw [← hrs]; exact .tail _ (.tail _ (.tail _ (.tail _ (.tail _ (.tail _ (.tail _ (.tail _ (.tail _ (.head _)))))))))) (.tail _ (.tail _ (.tail _ (.tail _ (.head _))))) (.tail _ (.tail _ (.tail _ (.tail _ (.tail _ (.head _))))))
    (fun q hq => .tail _ (.tail _ (.tail _ (.tail _ (.tail _ (.tail _ (.tail _ (.tail _ (.tail _ (.tail _ (.tail _ (List.mem_append_left _ (keys_st q hq))))))))))))) ?_ g.rds (fun q _ => LawFx.mem_len hok i q) hcell hkind hx el ?_
  · have := g.rds.memsLen
    have := hok.prsN
    simp only [List.length_map] at *
    omega
  · intro q hq r hr
    have hmem := (rdsLed_mem (w := f.w) hr).1
    have ht : (r.1.dG, r.2) ∈ tailM f c.told c.due c.rds := List.mem_append_right _ hmem
    obtain ⟨y1, y2, y3, y4, y5, y6⟩ := g.off _ ht
    obtain ⟨z1, z2⟩ := hI _ ht
    obtain ⟨j, hj⟩ := List.mem_iff_getElem?.mp hr
    have hjp : j < f.prs.length := by
      have := g.rds.memsLen
      have := (List.getElem?_eq_some_iff.mp hj).1
      simp only [List.length_map] at *
      omega
    have hdict := g.rds.dict j r (f.mem i f.prs[j]) hj (by simp [hjp])
    have hno : ∀ {p : Addr × Obj}, p ∈ ((I + 1, o1) :: (I, o2) :: (f.tD, oT) :: (f.dD, oD) :: (f.cM, oM) :: (f.cP, oP) :: (f.cN, oN) :: (f.cL, oL) :: (f.aA, listOf (f.asks.map fun a => Value.ref a.T).toArray f.nA) :: (f.rD, listOf (f.rs.map fun r => Value.ref r.x).toArray f.nR) :: (f.lD, listOf (f.prs.map fun q => Value.ref q.T).toArray f.nL) :: (f.st ++ (rowLed c.told ++ rowLed c.due))) → NoDict p.2 → p.1 ≠ r.1.dG := fun hp hn => no_dict_ne N1 hdict (List.mem_append_right _ hmem) (List.mem_append_left _ hp) hn
    have hq0 := hq
    rcases List.mem_cons.mp hq with rfl | hq
    · exact Ne.symm z2
    rcases List.mem_cons.mp hq with rfl | hq
    · exact Ne.symm z1
    rcases List.mem_cons.mp hq with rfl | hq
    · exact Ne.symm y1
    rcases List.mem_cons.mp hq with rfl | hq
    · exact Ne.symm y2
    rcases List.mem_cons.mp hq with rfl | hq
    · exact Ne.symm y3
    rcases List.mem_cons.mp hq with rfl | hq
    · exact Ne.symm y4
    rcases List.mem_cons.mp hq with rfl | hq
    · exact Ne.symm y5
    rcases List.mem_cons.mp hq with rfl | hq
    · exact Ne.symm y6
    rcases List.mem_cons.mp hq with rfl | hq
    · exact hno hq0 fun a n e => by cases e
    rcases List.mem_cons.mp hq with rfl | hq
    · exact hno hq0 fun a n e => by cases e
    rcases List.mem_cons.mp hq with rfl | hq
    · exact hno hq0 fun a n e => by cases e
    rcases List.mem_append.mp hq with hq | hq
    · exact hno hq0 (st_nodict q hq)
    rcases List.mem_append.mp hq with hq | hq
    · exact hno hq0 (row_nodict q hq)
    · exact hno hq0 (row_nodict q hq)
  · intro D h tk dr ys rds' F' N' off R' hm hA
    have o := fun p hp => Ne.symm (off p hp)
    refine fin D h tk dr ys rds' _ rfl F' N' ⟨o _ (List.mem_append_left _ (.tail _ (.tail _ (.head _)))), o _ (List.mem_append_left _ (.tail _ (.tail _ (.tail _ (.head _))))), o _ (List.mem_append_left _ (.tail _ (.tail _ (.tail _ (.tail _ (.head _)))))), o _ (List.mem_append_left _ (.tail _ (.tail _ (.tail _ (.tail _ (.tail _ (.head _))))))), o _ (List.mem_append_left _ (.tail _ (.tail _ (.tail _ (.tail _ (.tail _ (.tail _ (.head _)))))))), o _ (List.mem_append_left _ (.tail _ (.tail _ (.tail _ (.tail _ (.tail _ (.tail _ (.tail _ (.head _)))))))))⟩
      ⟨neN (o _ (List.mem_append_left _ (.tail _ (.head _)))), neN (o _ (List.mem_append_left _ (.head _)))⟩ (neN (o _ (List.mem_append_left _ (.tail _ (.tail _ (.tail _ (.tail _ (.tail _ (.tail _ (.tail _ (.tail _ (.head _))))))))))))
      (neN (o _ (List.mem_append_left _ (.tail _ (.tail _ (.tail _ (.tail _ (.tail _ (.tail _ (.tail _ (.tail _ (.tail _ (.head _)))))))))))))
      (neN (o _ (List.mem_append_left _ (.tail _ (.tail _ (.tail _ (.tail _ (.tail _ (.tail _ (.tail _ (.tail _ (.tail _ (.tail _ (.head _)))))))))))))) ?_ ?_ R' hm hA
    · intro q hq
      exact off q (by
        rcases List.mem_append.mp hq with hq | hq
        · exact List.mem_append_left _ (.tail _ (.tail _ (.tail _ (.tail _ (.tail _ (.tail _ (.tail _ (.tail _ (.tail _ (.tail _ (.tail _ hq)))))))))))
        · exact List.mem_append_right _ hq)
    · intro q hq
      have old : ∀ p ∈ tailM f c.told c.due c.rds, Off6 f p.1 ∧ p.1 ≠ I ∧ p.1 ≠ I + 1 := fun p hp => ⟨g.off p hp, hI p hp⟩
      rcases List.mem_append.mp hq with hq | hq
      · exact old q (List.mem_append_left _ hq)
      · exact off_rds (P := fun z => Off6 f z ∧ z ≠ I ∧ z ≠ I + 1) hm (fun p hp => old p (List.mem_append_right _ hp)) q hq
end
theorem keys_of {f : LawFx} {i : Nat} {a : Ask} (h : f.asks[i]? = some a) : ∀ p ∈ a.key, p ∈ f.keys := fun p hp => List.mem_flatMap.mpr ⟨a, List.mem_of_getElem? h, hp⟩
theorem keys_cls {f : LawFx} : ∀ p ∈ f.keys, p.2.cls = .type "tuple" := by
  intro p hp
  obtain ⟨a, ha, hp⟩ := List.mem_flatMap.mp hp
  rcases List.mem_singleton.mp hp with rfl
  rfl
theorem turn_abs {f : LawFx} {i : Nat} {c : LawSt} {I : Addr} {h₀ h : Heap} {L : Addr} {Y Z : Addr × Obj} (g : GoodL f i c) (hne : ∀ p ∈ ledM f c, p.1 ≠ I ∧ p.1 ≠ I + 1) (N : News h₀ L h (Y :: Z :: ledM f c)) :
    ∃ X, X = tailM f c.told c.due c.rds ∧ News h₀ L h (Y :: Z :: (f.tD, listOf (refsV c.told).toArray c.nT) :: (f.dD, listOf (refsV c.due).toArray c.nD) :: (f.cM, c.oM) :: (f.cP, c.oP) :: (f.cN, c.oN) :: (f.cL, c.oL) ::
      (f.aA, listOf (f.asks.map fun a => Value.ref a.T).toArray f.nA) :: (f.rD, listOf (f.rs.map fun r => Value.ref r.x).toArray f.nR) :: (f.lD, listOf (f.prs.map fun q => Value.ref q.T).toArray f.nL) :: X) ∧ (∀ p ∈ X, Off6 f p.1) ∧ ∀ p ∈ X, p.1 ≠ I ∧ p.1 ≠ I + 1 :=
  ⟨_, rfl, N, g.off, fun p hp => hne p (.tail _ (.tail _ (.tail _ (.tail _ (.tail _ (.tail _ (.tail _ (.tail _ (.tail _ hp)))))))))⟩
theorem told_small {f : LawFx} {i : Nat} {c : LawSt} {a : Ask} (g : GoodL f i c) (hok : LawOk f) (ha : f.asks[i]? = some a) : (refsV c.told).length ≤ 100000 ∧ (refsV c.due).length ≤ 100000 := by
  have h1 := g.toldN
  have h2 := g.dueN
  have h3 := hok.asksN
  have h4 := (List.getElem?_eq_some_iff.mp ha).1
  simp only [refsV, List.length_map]
  omega
theorem led_in {R D E1 E2 T U M P N L A B C : Addr × Obj} {X : List (Addr × Obj)} : ∀ p ∈ R :: N :: L :: D :: E1 :: E2 :: T :: U :: M :: P :: A :: B :: C :: X, p ∈ R :: D :: E1 :: E2 :: T :: U :: M :: P :: N :: L :: A :: B :: C :: X := by
  intro p hp
  simp only [List.mem_cons] at hp ⊢
  rcases hp with h | h | h | h | h | h | h | h | h | h | h | h | h | h <;> simp only [h, true_or, or_true]
theorem led_swap {h₀ h : Heap} {L₀ : Addr} {R D E1 E2 T U M P N L A B C : Addr × Obj} {X : List (Addr × Obj)} (H : News h₀ L₀ h (R :: D :: E1 :: E2 :: T :: U :: M :: P :: N :: L :: A :: B :: C :: X)) : News h₀ L₀ h (R :: N :: L :: D :: E1 :: E2 :: T :: U :: M :: P :: A :: B :: C :: X) := fun p hp => H p (led_in p hp)
theorem ans_abs {f : LawFx} {i : Nat} {c : LawSt} (_ : GoodL f i c) (a : Ask) : ∃ fa, fa = f.ans i a := ⟨_, rfl⟩
theorem pick_upto {l : List Ask} {i : Nat} (h : i < l.length) : (slicePick (l.map fun a => Value.ref a.T).toArray none (some ((i : Int) + 1)) none).toList = (l.take (i + 1)).map fun a => Value.ref a.T := by
  rw [show ((i : Int) + 1) = ((i + 1 : Nat) : Int) by omega, slicePick_upto _ _ (by simp; omega)]
  simp [List.map_take]
theorem ask_all {f : LawFx} {a : Ask} {told due : List RowV} {rds : List (Rd × Obj)} (h : a ∈ f.asks) : ∀ p ∈ a.led, p ∈ tailM f told due rds := fun p hp =>
  List.mem_append_left _ (List.mem_append_left _ (List.mem_append_right _ (askLed_mem h p hp)))
theorem self_fine {asks : List (Md × Pth)} {md : Md} {ms ds : List Str} : ∀ a ∈ selfAns asks md ms ds, a.fine := by
  intro a ha
  obtain ⟨q, _, rfl⟩ := List.mem_map.mp ha
  exact alone_fine _ _ _ _
end Mine
end PartX1h

section PartX1i
open PySem PySem.W PyProof.Rows PySem.Spec PySem.Calls PyProof.Rows.LCg
set_option Elab.async false
set_option maxRecDepth 100000
set_option maxHeartbeats 400000
set_option linter.unusedVariables false
namespace Mine
theorem freshX1i : True ∧ True := by
  w_top off
  first | (walk1; all_goals trivial) | exact ⟨trivial, trivial⟩
theorem in01_good {n : Int} (h : Ans.fine (.i n)) : (([0, 1] : List Int).any fun x => x == n) = (Ans.i n).good := by
  rcases h with rfl | rfl <;> rfl
theorem pick_last (l : List Value) : (slicePick l.toArray (some (-1)) none none).toList = l.drop (l.length - 1) := by
  have := slicePick_last l.toArray 1 (Nat.le_refl 1)
  rw [show (-1 : Int) = -((1 : Nat) : Int) by rfl, this]
  simp
section
variable {prog : Program} {w : World} {A : Around} {E : Value → Shared → Prop} {s : Shared} {h₀ : Heap} {L l : Addr} {m : Str → Option Value} {news : List (Addr × Obj)} {Q : Value → Shared → Prop} {n : Nat} {value slice : Expr}
theorem str_in_01 {x : Str} {t t0 t1 : Tok} (N : News h₀ L s.heap news) (hm : (l, listOf #[.int 0 t0, .int 1 t1] n) ∈ news) (h : Q (.bool false) s) : wpAny (model prog w) A (compareOp .In (.str x t) (.ref l)) Q E s := by
  refine SeqAt.in_listAt (fun _ => false) (News.isList N hm) (fun y hy => ?_) (by simpa using h)
  simp only [List.mem_toArray, List.mem_cons, List.not_mem_nil, or_false] at hy
  rcases hy with rfl | rfl
  · exact SeqAt.EqAt.int_str 0 t0 x t
  · exact SeqAt.EqAt.int_str 1 t1 x t
theorem first_at {vs : List Value} {v : Value} {u : Tok} (N : News h₀ L s.heap news) (hm : (l, listOf vs.toArray n) ∈ news) (hv : vs[0]? = some v) (h : Q v s)
    (hs : subscripted slice false (.ref l) (.int 0 u) = operate [.ref l, .int 0 u] (getItem (.ref l) (.int 0 u))) : wpAny (model prog w) A (subscriptTail value slice (.ref l) (.int 0 u)) Q E s := by
  have hl : s.heap.IsList l vs.toArray := News.isList N hm
  exact tail_any hl.typeIs slot_list_getitem.lookup (wpAny_getItem_list hl (Int.le_refl 0) (by decide) (by simpa using hv) h) hs
end
theorem AnsAre.at {as : List Ans} {ys : List Value} (h : AnsAre as ys) {j : Nat} {a : Ans} (ha : as[j]? = some a) : ∃ y, ys[j]? = some y ∧ AnsIs a y := by
  have hj : j < ys.length := by rw [← h.1]; exact (List.getElem?_eq_some_iff.mp ha).1
  exact ⟨ys[j], by simp [hj], h.2 j a ys[j] ha (by simp [hj])⟩
/-- (answers + alone[-1:])[0] -/
theorem first_good {as : List Ans} {ys zs : List Value} (h1 : AnsAre (as.filter Ans.good) ys) (h2 : AnsAre as zs) {a : Ans} (ha : firstGood as = some a) : ∃ v, (ys ++ zs.drop (zs.length - 1))[0]? = some v ∧ AnsIs a v := by
  unfold firstGood at ha
  cases hf : as.filter Ans.good with
  | cons b r =>
    rw [hf] at ha h1
    have hb : b = a := by simpa using ha
    subst hb
    obtain ⟨y, hy, hA⟩ := h1.at (j := 0) rfl
    refine ⟨y, ?_, hA⟩
    rw [List.getElem?_append_left (List.getElem?_eq_some_iff.mp hy).1]
    exact hy
  | nil =>
    rw [hf] at ha h1
    have hy : ys = [] := List.eq_nil_of_length_eq_zero h1.1.symm
    subst hy
    have hl : as.getLast? = some a := by
      cases hg : as.getLast? with
      | none => rw [hg] at ha; cases ha
      | some b => rw [hg] at ha; simpa using ha
    rw [List.getLast?_eq_getElem?] at hl
    obtain ⟨y, hy, hA⟩ := h2.at hl
    refine ⟨y, ?_, hA⟩
    rw [h2.1] at hy
    rw [List.nil_append, List.getElem?_drop]
    exact hy
theorem ask_self {f : LawFx} {i : Nat} {a : Ask} (h : f.asks[i]? = some a) (q : Pr) : firstGood (selfAns ((f.asks.take (i + 1)).map Ask.mp) a.md q.ms q.ds) = some (f.ans i a q) := by
  rw [take_map_snoc Ask.mp h]
  exact law_plain q.ms q.ds ((f.asks.take i).map Ask.mp) a.md a.p
section
variable {prog : Program} {w : World} {A : Around} {E : Value → Shared → Prop} {s : Shared} {h₀ : Heap} {L l b : Addr} {m : Str → Option Value} {news : List (Addr × Obj)} {Q : Value → Shared → Prop} {n n2 : Nat} {vs ws : List Value}
theorem add_vals (F : Fr h₀ L s.heap m) (N : News h₀ L s.heap news) (hl : (l, listOf vs.toArray n) ∈ news) (hb : (b, listOf ws.toArray n2) ∈ news) (hsz : vs.length + ws.length ≤ 100000)
    (h : ∀ D h', Fr h₀ L h' m → News h₀ L h' ((D, listOf (vs ++ ws).toArray 0) :: news) → (∀ p ∈ news, p.1 < D) → Q (.ref D) { s with heap := h' }) : wpAny (model prog w) A (binaryOp .Add (.ref l) (.ref b)) Q E s :=
  add_lists F N (News.isList N hl) (News.isList N hb) (fun h' F' N' => h _ h' F' N' fun p hp => Heap.lt_size (N p hp).1) (by rw [sizeLine_eq]; omega)
end
theorem law_end2 {h₀ : Heap} {L I : Addr} {o1 o2 : Obj} {X' : List (Addr × Obj)} {f : LawFx} {c : LawSt} {m₀ m' : Str → Option Value} {i : Nat} {Q : Flow → Shared → Prop} {s : Shared} {h' : Heap} {tk : Nat} {dr : Drawn} {a : Ask} {rds' : List (Rd × Obj)} {D R' : Addr} {ys vs : List Value} {nV nT nU : Nat} {oM oP oN oL : Obj} {vM vP vN vL : Option Value}
    (F : Fr h₀ L h' m')
    (N : News h₀ L h' ((R', listOf vs.toArray nV) :: (f.cN, oN) :: (f.cL, oL) :: (D, lst ys) :: (I + 1, o1) :: (I, o2) :: (f.tD, listOf (refsV c.told ++ [Value.ref D]).toArray nT) :: (f.dD, listOf (refsV c.due ++ [Value.ref R']).toArray nU) :: (f.cM, oM) :: (f.cP, oP) ::
      (f.aA, listOf (f.asks.map fun a => Value.ref a.T).toArray f.nA) :: (f.rD, listOf (f.rs.map fun r => Value.ref r.x).toArray f.nR) :: (f.lD, listOf (f.prs.map fun q => Value.ref q.T).toArray f.nL) :: X'))
    (hX' : X' = tailM f c.told c.due rds') (hoff : ∀ p ∈ ledM f c, p.1 ≠ I ∧ p.1 ≠ I + 1) (oD : Off6 f D) (oR : Off6 f R') (iD : D ≠ I ∧ D ≠ I + 1) (iR : R' ≠ I ∧ R' ≠ I + 1)
    (g : GoodL f i c) (ha : f.asks[i]? = some a) (R : RdsOk f.w f.keys (f.prs.map fun q => saidM (f.mem i q) a.md a.p q.ms q.ds) f.prs rds') (hm : rds'.map (·.1) = c.rds.map (·.1)) (hy : AnsAre (f.prs.map (f.ans i a)) ys) (hv : AnsAre (f.prs.map (f.ans i a)) vs)
    (d1 : oM.data = .cell vM) (d2 : oP.data = .cell vP) (d3 : oN.data = .cell vN) (d4 : oL.data = .cell vL) (h4 : Off4 m' m₀) :
    EnumPostX h₀ L I o1 o2 (LJ f m₀ (i + 1)) Q s .next { s with heap := h', toks := tk, drawn := dr } := by
  subst hX'
  refine law_end (nD := ys.length) (nV := nV) (nT := nT) (nU := nU) (D := D) (R' := R') F N (fun p hp => ?_) (.tail _ (.tail _ (.tail _ (.head _)))) (.head _) hoff oD oR iD iR g ha R hm hy hv d1 d2 d3 d4 h4
  simp only [List.mem_cons] at hp ⊢
  rcases hp with h | h | h | h | h | h | h | h | h | h | h | h <;> simp only [h, true_or, or_true]
end Mine
end PartX1i

section PartU1y
open PySem PySem.W PyProof.Rows PySem.Spec PySem.Calls
set_option Elab.async false
set_option maxRecDepth 100000
set_option maxHeartbeats 4000000
set_option linter.unusedVariables false
set_option compiler.extract_closed false
namespace Mine
theorem freshU1y : True ∧ True := by
  w_top off
  first | (walk1; all_goals trivial) | exact ⟨trivial, trivial⟩
theorem cells_ne {h₀ h : Heap} {L : Nat} {news : List (Addr × Obj)} (_ : News h₀ L h news) : @Ne Nat (L + 1 + 1) (L + 1 + 1 + 1) ∧ @Ne Nat (L + 1 + 1) (L + 1 + 1 + 1 + 1) ∧ @Ne Nat (L + 1 + 1) (L + 1 + 1 + 1 + 1 + 1) ∧ @Ne Nat (L + 1 + 1 + 1) (L + 1 + 1 + 1 + 1) ∧ @Ne Nat (L + 1 + 1 + 1) (L + 1 + 1 + 1 + 1 + 1) ∧ @Ne Nat (L + 1 + 1 + 1 + 1) (L + 1 + 1 + 1 + 1 + 1) := by omega
def AtTotal : Prop := True
def AtTold : Prop := True
theorem pow2_pos (k : Nat) : (0 : Int) < 2 ^ k := Int.pow_pos (by decide)
theorem pow2_ne (k : Nat) : (2 : Int) ^ k ≠ 0 := Int.ne_of_gt (pow2_pos k)
theorem pow2_small {k : Nat} (h : k < 8) : ((2 : Int) ^ k).natAbs < 1073741824 := by
  have : ∀ j, j < 8 → ((2 : Int) ^ j).natAbs < 1073741824 := by decide
  exact this k h
section
variable {prog : Program} {w : World} {A : Around} {E : Value → Shared → Prop} {s : Shared} {Q : Value → Shared → Prop} {t u : Tok}
theorem pow2_at {j : Int} {i : Nat} (hj : j = (i : Int)) (hi : i < 8) (h : ∀ t tk, Q (.int (2 ^ i) t) { s with toks := tk }) : wpAny (model prog w) A (binaryOp .Pow (.int 2 t) (.int j u)) Q E s := by
  subst hj
  refine pow_int_small (by omega) (by omega) (by decide) ?_
  rw [Int.toNat_natCast]
  exact h _ _
theorem div2_at {x : Int} {i : Nat} (hi : i < 8) (h : ∀ t tk, Q (.int (x.fdiv (2 ^ i)) t) { s with toks := tk }) : wpAny (model prog w) A (binaryOp .FloorDiv (.int x t) (.int (2 ^ i) u)) Q E s :=
  floordiv_int (pow2_ne _) (h _ _) (Or.inl (PyProof.noPylong_small (pow2_small hi)))
theorem mod2_at {x : Int} (h : ∀ t tk, Q (.int (x.fmod 2) t) { s with toks := tk }) : wpAny (model prog w) A (binaryOp .Mod (.int x t) (.int 2 u)) Q E s :=
  mod_int (by decide) (h _ _)
theorem div8_at {x : Int} (h : ∀ j t tk, Q (.int j t) { s with toks := tk }) : wpAny (model prog w) A (binaryOp .FloorDiv (.int x t) (.int 8 u)) Q E s :=
  floordiv_int (by decide) (h _ _ _) (Or.inl (PyProof.noPylong_small (by decide)))
theorem modd_at {x d : Int} (hd : 0 < d) (h : ∀ j t tk, 0 ≤ j → j < d → Q (.int j t) { s with toks := tk }) : wpAny (model prog w) A (binaryOp .Mod (.int x t) (.int d u)) Q E s :=
  mod_int (Int.ne_of_gt hd) (h _ _ _ (Int.fmod_nonneg_of_pos x hd) (Int.fmod_lt_of_pos x hd))
end
theorem off_app {a b : List (Addr × Obj)} {c : Addr} (h1 : ∀ p ∈ a, p.1 ≠ c) (h2 : ∀ p ∈ b, p.1 ≠ c) : ∀ p ∈ a ++ b, p.1 ≠ c := fun p hp => (List.mem_append.mp hp).elim (h1 p) (h2 p)
theorem menu_md2 {v : Value} {t0 t1 t2 t3 t4 t5 t7 u : Tok} {U : Addr} {b : Array UInt8} {i : Int} {nU : Nat} {h₀ h : Heap} {L : Addr} {news : List (Addr × Obj)} (N : News h₀ L h news) (hm : (U, tupO (Str.ofString "a") u nU) ∈ news)
    (hv : v ∈ [Value.str (Str.ofString "a") t0, .str (Str.ofString "a.b") t1, .str (Str.ofString "ab") t2, .str (Str.ofString "b.a") t3, .int i t4, .bytes b t5, .ref U, .str (Str.ofString "<string>") t7]) :
    ∃ md, KeyIn [(U, tupO (Str.ofString "a") u nU)] md v ∧ ∀ y, md = .s y → y.length ≤ 100 := menu_md hv
local macro_rules | `(tactic| k_all) => `(tactic| assumption)
local macro_rules | `(tactic| k_ne) => `(tactic| (refine neN ?_; (try dsimp only); (with_reducible first | assumption | (refine Ne.symm ?_; assumption))))
local macro_rules | `(tactic| walk_at $s:str) => if ["exec Assign cons ListComp", "call type:enumerate", "call ref", "pyIter ref", "compareOp Eq", "compareOp In str ref", "subscriptTail BinOp Name Add Subscript Constant ref int", "compareOp Eq ref ref", "exec For Tuple Name", "exec For Tuple Call", "eval ListComp", "exec For Name BinOp cons nil", "subscriptTail List cons BinOp ref int", "binaryOp Pow int int", "binaryOp FloorDiv int int", "binaryOp Mod int int"].contains s.getString then `(tactic| (refine of_stop ?_)) else if ["subscriptTail Name Slice ref ref", "binaryOp Add ref ref", "call builtin:list.append"].contains s.getString then `(tactic| ((rename AtTold => zmark); (refine of_stop ?_))) else if s.getString == "storeName" then `(tactic| ((rename AtTotal => zmark); (refine of_stop ?_))) else Lean.Macro.throwUnsupported
theorem lawwalk : Challenge.rw_nq0320_01.Holds := hd rfl rfl rfl (by
  k_go0; (all_goals try k_fold)
  have hm0 : AtTotal := trivial
  k_steps
  refine to_stop ?_
  (rename AtTotal => hm1)
  clear hm1
  refine tok_keptB (n := 1) ?_ ?_
  focus (first | exact Nat.le_add_left _ _ | (dsimp only; omega))
  k_steps
  (rename Obj.data _ = Data.cell (some (Value.int _ _)) => hcell)
  obtain ⟨tot, ttot, hcell2⟩ : ∃ (tot : Int) (tt : Tok), _ = Data.cell (some (Value.int tot tt)) := ⟨_, _, hcell⟩
  clear hcell
  (rename 1 ≤ _ => htk)
  refine to_stop ?_
  refine assign_comp1 (by with_unfolding_all rfl) (by with_unfolding_all rfl) rfl (by decide) ?_ (by intro _; rfl)
  k_steps
  (rename Fr _ _ _ _ => kF)
  (rename News _ _ _ _ => kN)
  refine to_stop ?_
  refine' enum_pickA (items := [(Str.ofString "a", _), (Str.ofString "a.b", _), (Str.ofString "b", _)]) (fun i => decide ((tot.fdiv (2 ^ i)).fmod 2 = 1)) ?hh ?kF ?kN ?hsz ?hm ?hcl ?hk ?hx ?hx2 ?hne ?hy ?hp ?test ?fin
  case hh => exact rfl
  case kF => exact kF
  case kN => exact kN
  case hsz => exact (by decide : 3 ≤ 100000)
  case hm => exact .head _
  case hcl => decide
  case hk => exact rfl
  case hx => exact rfl
  case hx2 => exact rfl
  case hne => decide
  case hy => exact rfl
  case hp => exact rfl
  case test =>
    intro i q t I o1 o2 C oC D m₂ ys g tk₀ h tk dr E' hi hq hC hx hx2 F' N'
    clear kF kN
    have hi8 : i < 3 := hi
    k_steps
    refine to_stop ?_
    k_dflt (refine' pow2_at ?pwa ?pwb ?_; (case pwa => exact rfl); (case pwb => omega); k_whole; intro t9 k9)
    k_steps
    refine to_stop ?_
    k_dflt (refine' div2_at ?dvb ?_; (case dvb => omega); k_whole; intro t9 k9)
    k_steps
    refine to_stop ?_
    k_dflt (refine' mod2_at ?_; k_whole; intro t9 k9)
    k_steps
    all_goals assumption
  case fin =>
    intro D h tk dr mods hmods F' N' off
    obtain ⟨hM3, hMn, hMs⟩ := mods_facts htk hmods
    clear hmods
    have o1 := off1_of off
    simp only [LCg.Off1, and_true] at o1
    clear kF kN off
    k_steps
    refine to_stop ?_
    refine assign_comp1 (by with_unfolding_all rfl) (by with_unfolding_all rfl) rfl (by decide) ?_ (by intro _; rfl)
    k_steps
    (rename Fr _ _ _ _ => kF)
    (rename News _ _ _ _ => kN)
    refine to_stop ?_
    refine' enum_pickA (items := [(Str.ofString "/l", _), (Str.ofString "/w/a", _)]) (fun i => decide ((tot.fdiv (2 ^ (i + 3))).fmod 2 = 1)) ?hh ?kF ?kN ?hsz ?hm ?hcl ?hk ?hx ?hx2 ?hne ?hy ?hp ?test ?fin
    case hh => exact rfl
    case kF => exact kF
    case kN => exact kN
    case hsz => exact (by decide : 2 ≤ 100000)
    case hm => exact .head _
    case hcl => decide
    case hk => exact rfl
    case hx => exact rfl
    case hx2 => exact rfl
    case hne => decide
    case hy => exact rfl
    case hp => exact rfl
    case test =>
      intro i q t I o1 o2 C oC D m₂ ys g tk₀ h tk dr E' hi hq hC hx hx2 F' N'
      clear kF kN
      have hi8 : i < 2 := hi
      k_steps
      refine to_stop ?_
      k_dflt (refine' pow2_at (i := i + 3) ?pwa ?pwb ?_; (case pwa => omega); (case pwb => omega); k_whole; intro t9 k9)
      k_steps
      refine to_stop ?_
      k_dflt (refine' div2_at ?dvb ?_; (case dvb => omega); k_whole; intro t9 k9)
      k_steps
      refine to_stop ?_
      k_dflt (refine' mod2_at ?_; k_whole; intro t9 k9)
      k_steps
      all_goals assumption
    case fin =>
      intro D h tk dr dirs hdirs F' N' off
      obtain ⟨hD2, hDs⟩ := dirs_facts hdirs
      clear hdirs
      have o1 := off1_of off
      simp only [LCg.Off1, and_true] at o1
      clear kF kN off
      k_steps
      refine to_stop ?_
      refine assign_comp0 (by with_unfolding_all rfl) (by with_unfolding_all rfl) rfl (by decide) ?_ (by intro _; rfl)
      k_steps
      (rename Fr _ _ _ _ => kF)
      (rename News _ _ _ _ => kN)
      refine' readers_src4 ?hh ?kF ?kN ?hm ?m1 ?m2 ?m3 ?m4 ?n1 ?n2 ?n3 ?n4 ?l1 ?l2 ?ok ?okD ?hcl ?hk ?hx ?hx2 ?hne ?hy ?hp ?el ?fin
      case hh => exact rfl
      case kF => exact kF
      case kN => exact kN
      case hm => k_mem
      case m1 => k_mem
      case m2 => k_mem
      case m3 => k_mem
      case m4 => k_mem
      case n1 => k_mem
      case n2 => k_mem
      case n3 => k_mem
      case n4 => k_mem
      case l1 => k_mem
      case l2 => k_mem
      case ok => exact ⟨hM3, hMn, hMs⟩
      case okD => exact ⟨hD2, hDs⟩
      case hcl => decide
      case hk => exact rfl
      case hx => exact rfl
      case hx2 => exact rfl
      case hne => decide
      case hy => exact rfl
      case hp => exact rfl
      case el =>
        intro q I oI C oC D m₂ ys nx g h tk dr E' hq hC hx hx2 F' N' hl
        clear kF kN
        k_steps
        (rename Fr _ _ _ _ => kF)
        (rename News _ _ _ _ => kN)
        refine to_stop ?_
        k_dflt (refine' init_use (q := q) ?B ?F ?X ?N ?T ?hk ?d ?u ?ok ?hq ?_; (case B => k_asm); (case F => exact kF); (case X => k_asm); (case N => exact kN); (case T => k_asm); (case hk => first | exact rfl | assumption); (case d => ktr_room); (case u => ktr_units); (case ok => assumption); (case hq => exact fun p hp => .tail _ (.tail _ (.tail _ (hl p hp)))))
        intro h5 tk5 r5 o5 F5 N5 ok5 e1 e2 hD5 hap5
        k_steps
        exact ⟨h5, tk5, r5, o5, rfl, rfl, F5, N5, ok5, e1, e2, hD5, hap5⟩
      case fin =>
        intro D h tk dr rds f hf hfo hfl F' N0 o1 off hlen R hsep
        dsimp only [envOfC] at F' N0
        obtain ⟨rest, NR, x2, x3, x4, x5, hin1, hin2, hin3⟩ := abs_rest2 N0 (by k_mem) (by k_mem) (by k_mem) (by k_mem) (by assumption) (by assumption) (by assumption) (by assumption)
        have mR := hin1 (fun v e => by cases e)
        obtain ⟨cn1, cn2, cn3, cn4, cn5, cn6⟩ := cells_ne NR
        have mP : ∀ q ∈ f.prs, ∀ p ∈ q.led, p ∈ rest := fun q hq p hp => hin2 p (hfl q hq p hp) (pr_data p hp)
        have mQ : ∀ p ∈ rdsLed _ rds, p ∈ rest := fun p hp => hin3 p hp (rds_data R p hp)
        have mL := lists_f hf (hin2 _ (.head _) (fun v e => by cases e))
        clear hin1 hin2 hin3 N0 hsep hfl o1 off kF kN hf
        k_steps
        refine to_stop ?_
        refine wpAny_For ?_ (by intro _; rfl)
        k_steps
        (rename Fr _ _ _ _ => kF)
        (rename News _ _ _ _ => kN)
        (rename IntsAre _ (_ ++ _) => kI)
        (rename _ ∧ _ ∧ _ ∧ _ ∧ AllLt _ rest => kL)
        have xA := allLt_mem kL.2.2.2.2
        refine to_stop ?_
        refine' for_asks (rest := (_, _) :: (_, _) :: (_, _) :: rest) ⟨[], _, _, _, _, 0⟩ ?hh ?hl kI kF kN ?hN ?hc ?hg ?hE ?turn ?done
        case hh => exact rfl
        case hl => exact .head _
        case hN => exact ledA_start
        case hc => exact rfl
        case hg => exact ⟨(fun _ h => nomatch h), by assumption, by assumption, (fun _ h => nomatch h)⟩
        case hE => first | passes_own | with_unfolding_all passes_own
        case turn =>
          intro i z t c u h tk I io hz hi hci hgc hne F' N'
          obtain ⟨gok, gM, gP, goff⟩ := hgc
          have xM := off_app x4 fun q hq => (goff q hq).2.1
          have xP := off_app x5 fun q hq => (goff q hq).2.2
          have xL := off_app xA fun q hq => (goff q hq).1
          have nL := hne _ (.head _)
          have nM := hne _ (.tail _ (.head _))
          have nP := hne _ (.tail _ (.tail _ (.head _)))
          have nL' := Ne.symm nL
          have nM' := Ne.symm nM
          have nP' := Ne.symm nP
          dsimp only [ledA, List.cons_append] at hne F' N'
          clear kF kN
          have e12 := neN (Nat.ne_of_lt kL.1)
          have e13 := neN (Nat.ne_of_lt kL.2.1)
          have e14 := neN (Nat.ne_of_lt kL.2.2.1)
          have e15 := neN (Nat.ne_of_lt kL.2.2.2.1)
          k_steps
          (rename _ ∧ _ ∧ _ ∧ _ ∧ _ ∧ _ ∧ _ ∧ AllLt _ (rest ++ _) => lD)
          (rename _ ∧ _ ∧ _ ∧ _ ∧ _ ∧ _ ∧ _ ∧ _ ∧ AllLt _ (rest ++ _) => lM)
          have f1 := neN (Nat.ne_of_lt lD.2.1)
          have f2 := neN (Nat.ne_of_lt lD.2.2.1)
          have f3 := neN (Nat.ne_of_lt lD.2.2.2.1)
          have f4 := neN (Nat.ne_of_lt lM.2.2.1)
          have f5 := neN (Nat.ne_of_lt lM.2.2.2.1)
          have f6 := neN (Nat.ne_of_lt lM.2.2.2.2.1)
          have f7 := neN (Nat.ne_of_gt lD.1)
          refine to_stop ?_
          k_dflt (refine' modd_at (by decide) ?_; k_whole; intro j9 t9 k9 hj0 hj1)
          k_steps
          (rename Fr _ _ _ _ => kF)
          (rename News _ _ _ _ => kN)
          refine to_stop ?_
          refine' menu_at (vs := [_, _, _, _, _, _, _, _]) kN (.head _) (by assumption) (by assumption) (show 8 ≤ 1000 by decide) ?_ (by with_unfolding_all rfl)
          intro v hv
          obtain ⟨md, hmd, hml⟩ := menu_md2 kN (.tail _ (.head _)) hv
          clear hv
          k_steps
          (rename _ ∧ _ ∧ _ ∧ _ ∧ _ ∧ _ ∧ _ ∧ _ ∧ _ ∧ AllLt _ (rest ++ _) => lP)
          have f8 := neN (Nat.ne_of_lt lP.2.2.2.1)
          have f9 := neN (Nat.ne_of_lt lP.2.2.2.2.1)
          have f10 := neN (Nat.ne_of_lt lP.2.2.2.2.2.1)
          refine to_stop ?_
          k_dflt (refine' div8_at ?_; k_whole; intro j9 t9 k9)
          k_steps
          refine to_stop ?_
          k_dflt (refine' modd_at (by decide) ?_; k_whole; intro j9 t9 k9 hj0 hj1)
          k_steps
          (rename Fr _ _ _ _ => kF2)
          (rename News _ _ _ _ => kN2)
          refine to_stop ?_
          refine' menu_at (vs := [_, _, _, _, _, _]) kN2 (.head _) (by assumption) (by assumption) (show 6 ≤ 1000 by decide) ?_ (by with_unfolding_all rfl)
          intro pv hpv
          obtain ⟨pp, hpp, hpl⟩ := menu_path hpv
          clear hpv
          have hmark0 : AtTold := trivial
          k_steps
          (rename Fr _ _ _ _ => kF4)
          (rename News _ _ _ _ => kN4)
          (rename _ ∧ _ ∧ _ ∧ _ ∧ _ ∧ _ ∧ _ ∧ _ ∧ _ ∧ _ ∧ AllLt _ (rest ++ _) => lT)
          have f11 := neN (Nat.ne_of_lt lT.2.2.2.2.1)
          have f12 := neN (Nat.ne_of_gt lT.2.2.2.1)
          refine to_stop ?_
          refine' vals_append (vs := c.asks.map fun a => Value.ref a.T) kF4 kN4 ?UA ?zA ?_
          case UA => k_upd
          case zA => exact Nat.le_trans (Nat.le_of_eq (List.length_map _)) (Nat.le_trans (Nat.le_of_lt (hci ▸ hi)) (Nat.le_trans (take_len_le _) (by decide)))
          intro h5 F5 N5
          clear kF4 kN4
          k_steps
          (rename Fr _ _ _ _ => kF3)
          (rename News _ _ _ _ => kN3)
          (rename _ = Data.cell (some pv) => dP)
          (rename _ = Data.cell (some v) => dM)
          refine' ask_end2 kF3 kN3 ⟨gok, gM, gP, goff⟩ hmd hpp hml hpl ?hk ?hI ?tI ?uI dM dP ?hm
          case hk => rw [hci]
          case hI => exact hne
          case tI => first | k_ne | skip
          case uI => first | k_ne | skip
          case hm => intro y hy; simp only [if_neg hy]
        case done =>
          intro c u h tk hcl hgc F' N'
          obtain ⟨gok, gM, gP, goff⟩ := hgc
          have xM := off_app x4 fun q hq => (goff q hq).2.1
          have xP := off_app x5 fun q hq => (goff q hq).2.2
          have xL := off_app xA fun q hq => (goff q hq).1
          dsimp only [ledA, List.cons_append] at F' N'
          clear kF kN
          k_steps
          refine to_stop ?_
          refine wpAny_For ?_ (by intro _; rfl)
          k_steps
          (rename Fr _ _ _ _ => kF)
          (rename News _ _ _ _ => kN)
          (rename _ ∧ _ ∧ _ ∧ _ ∧ _ ∧ _ ∧ AllLt _ (rest ++ _) => l3)
          (rename _ ∧ _ ∧ _ ∧ _ ∧ _ ∧ _ ∧ _ ∧ AllLt _ (rest ++ _) => l2)
          have xD := allLt_mem l2.2.2.2.2.2.2.2
          have xT := allLt_mem l3.2.2.2.2.2.2
          obtain ⟨hst, hg0⟩ := law_start kN mR mP mQ mL xT xD xM xP x2 x3 gM gP (by assumption) (by assumption) R rfl
          have e1 := neN (Nat.ne_of_lt l3.1)
          have e2 := neN (Nat.ne_of_lt l3.2.1)
          have e3 := neN (Nat.ne_of_lt l3.2.2.1)
          have e4 := neN (Nat.ne_of_lt l3.2.2.2.2.1)
          have e5 := neN (Nat.ne_of_lt l3.2.2.2.2.2.1)
          have e6 := neN (Nat.ne_of_lt l2.1)
          have e7 := neN (Nat.ne_of_lt l2.2.1)
          have e8 := neN (Nat.ne_of_lt l2.2.2.1)
          have e9 := neN (Nat.ne_of_lt l2.2.2.2.1)
          have e10 := neN (Nat.ne_of_lt l2.2.2.2.2.2.1)
          have e11 := neN (Nat.ne_of_lt l2.2.2.2.2.2.2.1)
          have e12 := neN (Nat.ne_of_lt kL.1)
          have e13 := neN (Nat.ne_of_lt kL.2.1)
          have e14 := neN (Nat.ne_of_lt kL.2.2.1)
          have e15 := neN (Nat.ne_of_lt kL.2.2.2.1)
          have r1 := neN (x2 _ mR)
          have r2 := neN (x3 _ mR)
          have r3 := neN (x4 _ mR)
          have r4 := neN (x5 _ mR)
          have r5 := neN (xT _ (List.mem_append_left _ mR))
          have r6 := neN (xD _ (List.mem_append_left _ mR))
          have s1 := neN (x2 _ mL)
          have s2 := neN (x3 _ mL)
          have s3 := neN (x4 _ mL)
          have s4 := neN (x5 _ mL)
          have s5 := neN (xT _ (List.mem_append_left _ mL))
          have s6 := neN (xD _ (List.mem_append_left _ mL))
          dsimp only at r1 r2 r3 r4 r5 r6 s1 s2 s3 s4 s5 s6
          have hfok := LawOk.of hg0 gok (hcl ▸ take_len_le _) hfo.pr (Nat.le_refl 4)
          refine to_stop ?_
          refine' enum_asks _ _ rfl kF kN hst hg0 ?hE ?turn ?done
          case hE => first | passes_own | with_unfolding_all passes_own
          case turn =>
            intro i a T t m₁ c2 h tk dr I o1 o2 ha hgc hne hT F' N'
            have hmark0 : AtTold := trivial
            obtain ⟨X, hX, NX, offX, iC⟩ := turn_abs hgc hne N'
            have hTm : (a.T, tupV a.mv a.pv a.nT) ∈ X := hX ▸ ask_in ha _ (.head _)
            have oT := offX _ hTm
            have iT := iC _ hTm
            have xT := fun p hp => (offX p hp).1
            have xD := fun p hp => (offX p hp).2.1
            have xM := fun p hp => (offX p hp).2.2.1
            have xP := fun p hp => (offX p hp).2.2.2.1
            have xN := fun p hp => (offX p hp).2.2.2.2.1
            have xL := fun p hp => (offX p hp).2.2.2.2.2
            have i1 := hne _ (.head _)
            have i2 := hne _ (.tail _ (.head _))
            have i3 := hne _ (.tail _ (.tail _ (.head _)))
            have i4 := hne _ (.tail _ (.tail _ (.tail _ (.head _))))
            have i5 := hne _ (.tail _ (.tail _ (.tail _ (.tail _ (.head _)))))
            have i6 := hne _ (.tail _ (.tail _ (.tail _ (.tail _ (.tail _ (.head _))))))
            have i7 := hne _ (.tail _ (.tail _ (.tail _ (.tail _ (.tail _ (.tail _ (.head _)))))))
            have i8 := hne _ (.tail _ (.tail _ (.tail _ (.tail _ (.tail _ (.tail _ (.tail _ (.head _))))))))
            have i9 := hne _ (.tail _ (.tail _ (.tail _ (.tail _ (.tail _ (.tail _ (.tail _ (.tail _ (.head _)))))))))
            dsimp only [ledM] at i1 i2 i3 i4 i5 i6 i7 i8 i9 iT xT xD xM xP xN xL oT NX
            have gM2 := hgc.cellM
            have gP2 := hgc.cellP
            have gN2 := hgc.cellN
            have gL2 := hgc.cellL
            obtain ⟨t1, t2, t3, t4, t5, t6⟩ := oT
            have t1 := neN t1
            have t2 := neN t2
            have t3 := neN t3
            have t4 := neN t4
            have t5 := neN t5
            have t6 := neN t6
            have j1 := neN i1.1
            have g1 := neN i1.2
            have j2 := neN i2.1
            have g2 := neN i2.2
            have j3 := neN i3.1
            have g3 := neN i3.2
            have j4 := neN i4.1
            have g4 := neN i4.2
            have j5 := neN i5.1
            have g5 := neN i5.2
            have j6 := neN i6.1
            have g6 := neN i6.2
            have j7 := neN i7.1
            have g7 := neN i7.2
            have j8 := neN i8.1
            have g8 := neN i8.2
            have j9 := neN i9.1
            have g9 := neN i9.2
            have j0 := neN iT.1
            have g0 := neN iT.2
            clear i1 i2 i3 i4 i5 i6 i7 i8 i9 iT
            have NT := news_cons NX (by repeat (first | exact hTm | apply List.Mem.tail))
            dsimp only [tupV] at NT
            clear kF kN N' NX
            k_steps
            refine to_stop ?_
            refine eval_comp0 (by with_unfolding_all rfl) rfl (by decide) ?_ (by intro _; rfl)
            k_steps
            (rename Fr _ _ _ _ => kF)
            (rename News _ _ _ _ => kN)
            refine' told_use hgc hfok ha hX ?hI ?hh kF kN ?hcl ?hk ?hx ?el ?fin
            case hI => exact iC
            case hh => exact rfl
            case hcl => decide
            case hk => exact rfl
            case hx => exact rfl
            case el =>
              intro r o mem nx I oI C oC D m₂ ys g h tk dr E' okr hd hml hC hx F' N' hks hfix hdG
              clear kF kN
              dsimp only at N'
              k_steps
              (rename Fr _ _ _ _ => kF3)
              (rename News _ _ _ _ => kN3)
              refine to_stop ?_
              have hao := hfok.asks a (List.mem_of_getElem? ha)
              refine' said_use ?B kF3 ?X kN3 ?T ?XB ?TB ?hk ?d ?u okr hd ?hks ?hfix ?ho (hao.key.mono (keys_of ha)) hao.path hao.mds hao.ps hml ?_
              case B => k_asm
              case X => k_asm
              case T => k_asm
              case XB => k_asm
              case TB => k_asm
              case hk => first | exact rfl | assumption
              case d => ktr_room
              case u => ktr_units
              case hks => exact fun q hq => ⟨.tail _ (.tail _ (.tail _ (.tail _ (.tail _ (hks q hq))))), keys_cls q hq⟩
              case hfix => exact fun q hq => .tail _ (.tail _ (.tail _ (.tail _ (.tail _ (hfix q hq)))))
              case ho => exact .tail _ (.tail _ (.tail _ (.tail _ (.tail _ hdG))))
              intro v5 h5 tk5 dr5 o5 F5 N5 hA5 hD5
              k_steps
              exact ⟨h5, tk5, dr5, o5, rfl, F5, N5, hA5, hD5⟩
            case fin =>
              intro D h tk dr ys rds' X' hX' F' N' oD iD nA nR nL offD off R' hm hy
              have v1 := neN oD.1
              have v2 := neN oD.2.1
              have v3 := neN oD.2.2.1
              have v4 := neN oD.2.2.2.1
              have v5 := neN oD.2.2.2.2.1
              have v6 := neN oD.2.2.2.2.2
              have v7 := neN iD.1
              have v8 := neN iD.2
              have xT := fun p hp => (off p hp).1.1
              have xD := fun p hp => (off p hp).1.2.1
              have xM := fun p hp => (off p hp).1.2.2.1
              have xP := fun p hp => (off p hp).1.2.2.2.1
              have xN := fun p hp => (off p hp).1.2.2.2.2.1
              have xL := fun p hp => (off p hp).1.2.2.2.2.2
              dsimp only at v1 v2 v3 v4 v5 v6 nA nR nL xT xD xM xP xN xL N'
              clear kF kN
              k_steps
              (rename Fr _ _ _ _ => kF)
              (rename News _ _ _ _ => kN)
              refine to_stop ?_
              have hsm := told_small hgc hfok ha
              refine' vals_append (vs := refsV c2.told) kF kN ?U hsm.1 ?_
              case U => k_upd
              intro h5 F5 N5
              clear kF kN
              k_steps
              refine to_stop ?_
              refine wpAny_For ?_ (by intro _; rfl)
              k_steps
              (rename Fr _ _ _ _ => kF)
              (rename News _ _ _ _ => kN)
              (rename _ ∧ _ ∧ _ ∧ _ ∧ _ ∧ _ ∧ _ ∧ _ ∧ _ ∧ _ ∧ _ ∧ _ ∧ AllLt _ X' => lR)
              have xR := allLt_mem lR.2.2.2.2.2.2.2.2.2.2.2.2
              have p1 := neN (Nat.ne_of_lt lR.1)
              have p2 := neN (Nat.ne_of_lt lR.2.1)
              have p3 := neN (Nat.ne_of_lt lR.2.2.1)
              have p4 := neN (Nat.ne_of_lt lR.2.2.2.1)
              have p5 := neN (Nat.ne_of_lt lR.2.2.2.2.1)
              have p6 := neN (Nat.ne_of_lt lR.2.2.2.2.2.1)
              have p7 := neN (Nat.ne_of_lt lR.2.2.2.2.2.2.1)
              have p8 := neN (Nat.ne_of_lt lR.2.2.2.2.2.2.2.1)
              have p9 := neN (Nat.ne_of_lt lR.2.2.2.2.2.2.2.2.1)
              have p10 := neN (Nat.ne_of_lt lR.2.2.2.2.2.2.2.2.2.1)
              have p11 := neN (Nat.ne_of_lt lR.2.2.2.2.2.2.2.2.2.2.1)
              have p12 := neN (Nat.ne_of_lt lR.2.2.2.2.2.2.2.2.2.2.2.1)
              refine to_stop ?_
              obtain ⟨fa, hfa⟩ := ans_abs hgc a
              rw [← hfa] at hy
              refine' for_lists fa ?hhB kF (led_swap kN) ?hlB ?d1B ?d2B ?hEB ?turnB ?doneB
              case hhB => exact rfl
              case hlB => k_mem
              case d1B => exact gN2
              case d2B => exact gL2
              case hEB => first | passes_own | with_unfolding_all passes_own
              case turnB =>
                intro j q vs n oN oL vN vL m₂ h tk dr I2 io hq hA d3 d4 hne2 F' N'
                have hqp := List.mem_of_getElem? hq
                have hTq : (q.T, { cls := .type "tuple", data := .seq #[.ref q.aN, .ref q.aP] q.nT }) ∈ X' := hX' ▸ pr_in hqp _ (.head _)
                have q1 := neN (xN _ hTq)
                have q2 := neN (xL _ hTq)
                have z1 := neN (hne2 _ (.head _))
                have z2 := neN (hne2 _ (.tail _ (.head _)))
                have z3 := neN (hne2 _ (.tail _ (.tail _ (.head _))))
                dsimp only at q1 q2 z1 z2 z3
                have NT := news_cons N' (by repeat (first | exact hTq | apply List.Mem.tail))
                clear kF kN N'
                k_steps
                refine to_stop ?_
                refine assign_comp1 (by with_unfolding_all rfl) (by with_unfolding_all rfl) rfl (by decide) ?_ (by intro _; rfl)
                k_steps
                (rename Fr _ _ _ _ => kF)
                (rename News _ _ _ _ => kN)
                refine to_stop ?_
                have hil : i < c.asks.length := (List.getElem?_eq_some_iff.mp ha).1
                have has : c.asks.length ≤ 64 := hfok.asksN
                k_dflt refine' kmk_slice_lit kF kN ?lS ?pS ?qS ?eS ?_ ?sS ?tS ?zS
                case lS => exact News.isList kN (by k_mem)
                case pS => exact IsPart.none
                case qS => exact IsPart.int _ _
                case eS => exact pick_upto hil
                case sS => with_unfolding_all rfl
                case tS => intro _; with_unfolding_all rfl
                case zS => rw [List.size_toArray, List.length_map, sizeLine_eq]; omega
                intro D4 h4 F4 N4 l4
                clear kF kN
                have hxa : ∀ a' ∈ c.asks.take (i + 1), ∀ p ∈ a'.led, p ∈ X' := fun a' ha' p hp => hX' ▸ ask_all (List.mem_of_mem_take ha') p hp
                refine' alone_src (asks := c.asks.take (i + 1)) (md := a.md) (ms := q.ms) (ds := q.ds) ?hhC F4 N4 ?szC ?mC ?ledC ?hclC ?hkC ?hxC ?hx2C ?neC ?hyC ?hpC ?testC ?elC ?finC
                case hhC => exact rfl
                case szC => exact Nat.le_trans (List.length_take_le _ _) (show i + 1 ≤ 1000 by omega)
                case mC => exact .head _
                case ledC => exact fun a' ha' p hp => by repeat (first | exact hxa a' ha' p hp | apply List.Mem.tail)
                case hclC => decide
                case hkC => exact rfl
                case hxC => exact rfl
                case hx2C => exact rfl
                case neC => decide
                case hyC => exact rfl
                case hpC => exact rfl
                case testC =>
                  intro a' I oI C oC D m₃ ys3 g h tk dr E' ha' hka hC hx hx2 F' N'
                  k_steps
                  (rename News _ _ _ _ => kN)
                  have hao := hfok.asks a (List.mem_of_getElem? ha)
                  have hao' := hfok.asks a' (List.mem_of_mem_take ha')
                  have hkx : ∀ p ∈ a.key, p ∈ X' := fun p hp => hX' ▸ ask_in ha p (.tail _ hp)
                  refine to_stop ?_
                  refine' cmp_md (ks := a'.key) (ks' := a.key) ?uT kN ?aT ?bT hao'.key hao.key ?_
                  case uT => ktr_units
                  case aT => exact fun p hp => .tail _ (.tail _ (.tail _ (hka p hp)))
                  case bT => exact fun p hp => by repeat (first | exact hkx p hp | apply List.Mem.tail)
                  k_steps
                  all_goals first | rfl | assumption | exact ⟨_, _, rfl, by assumption, by assumption⟩
                case elC =>
                  intro a' I oI C oC D m₃ ys3 g h tk dr E' ha' hka hC hx hx2 F' N'
                  k_steps
                  (rename Fr _ _ _ _ => kF)
                  (rename News _ _ _ _ => kN)
                  have hao := hfok.asks a (List.mem_of_getElem? ha)
                  have hao' := hfok.asks a' (List.mem_of_mem_take ha')
                  have hkx : ∀ p ∈ a.key, p ∈ X' := fun p hp => hX' ▸ ask_in ha p (.tail _ hp)
                  have pok := hfok.prs q hqp
                  have pin : ∀ p ∈ q.led, p ∈ X' := fun p hp => hX' ▸ pr_in hqp p hp
                  refine to_stop ?_
                  refine' Spec2.use (alone_spec _ a.key _ q.aN q.aP q.nN q.nP q.lm q.ld a.md a'.p a.mv a'.pv ?k1 ?k2 ?k3 pok.lm3 pok.ld3 (fun z hz => (pok.lms z hz).2) pok.lds hao.key hao'.path hao.mds hao'.ps) ?BE kF ?XE kN ?TE ?hkE ?dE ?uE ?_
                  case k1 => exact fun p hp => by repeat (first | exact hkx p hp | apply List.Mem.tail)
                  case k2 => repeat (first | exact pin _ (.tail _ (.head _)) | apply List.Mem.tail)
                  case k3 => repeat (first | exact pin _ (.tail _ (.tail _ (.head _))) | apply List.Mem.tail)
                  case BE => k_asm
                  case XE => k_asm
                  case TE => k_asm
                  case hkE => first | exact rfl | assumption
                  case dE => ktr_room
                  case uE => ktr_units
                  rintro v5 h5 tk5 news5 F5 N5 ⟨hv5, rfl⟩
                  k_steps
                  all_goals first | exact hv5 | assumption | exact ⟨_, _, rfl, by assumption, by assumption⟩
                case finC =>
                  intro D5 h tk dr ys5 hA5 F' N' off5
                  k_steps
                  refine to_stop ?_
                  refine assign_comp1 (by with_unfolding_all rfl) (by with_unfolding_all rfl) rfl (by decide) ?_ (by intro _; rfl)
                  k_steps
                  (rename Fr _ _ _ _ => kF)
                  (rename News _ _ _ _ => kN)
                  refine' good_src (as := selfAns ((c.asks.take (i + 1)).map Ask.mp) a.md q.ms q.ds) (vs := ys5) ?hhD kF kN ?szD ?mD hA5 ?fineD ?hclD ?hkD ?hxD ?hyD ?hpD ?testD ?finD
                  case hhD => exact rfl
                  case szD => exact Nat.le_trans (Nat.le_of_eq hA5.1.symm) (Nat.le_trans (self_len _ _ _ _) (by rw [List.length_map]; exact Nat.le_trans (List.length_take_le _ _) (show i + 1 ≤ 1000 by omega)))
                  case mD => exact .head _
                  case fineD => exact self_fine
                  case hclD => decide
                  case hkD => exact rfl
                  case hxD => exact rfl
                  case hyD => exact rfl
                  case hpD => exact rfl
                  case testD =>
                    intro an v I oI C oC D m₃ ys3 g h tk dr E' hv hfine hC hx F' N'
                    cases an with
                    | i nn =>
                      obtain ⟨tv, rfl⟩ := hv
                      clear kF kN
                      k_steps
                      all_goals first | exact in01_good hfine | assumption | exact fun p hp => (by assumption : News _ _ _ _) p (.tail _ hp)
                    | e xx =>
                      obtain ⟨tv, rfl⟩ := hv
                      clear kF kN
                      k_steps
                      (rename News _ _ _ _ => kN)
                      refine to_stop (str_in_01 kN (.head _) ?_)
                      k_steps
                      all_goals first | rfl | assumption | exact fun p hp => (by assumption : News _ _ _ _) p (.tail _ hp)
                  case finD =>
                    intro D6 h tk dr ys6 hA6 F' N' off6
                    clear kF kN
                    k_steps
                    (rename Fr _ _ _ _ => kF)
                    (rename News _ _ _ _ => kN)
                    refine to_stop ?_
                    have hl5 : ys5.length ≤ 1000 := Nat.le_trans (Nat.le_of_eq hA5.1.symm) (Nat.le_trans (self_len _ _ _ _) (by rw [List.length_map]; exact Nat.le_trans (List.length_take_le _ _) (show i + 1 ≤ 1000 by omega)))
                    have hl6 : ys6.length ≤ 1000 := Nat.le_trans (Nat.le_of_eq hA6.1.symm) (Nat.le_trans (List.length_filter_le _ _) (hA5.1 ▸ hl5))
                    k_dflt refine' kmk_slice_lit kF kN ?lU ?pU ?qU ?eU ?_ ?sU ?tU ?zU
                    case lU => exact News.isList kN (.tail _ (.head _))
                    case pU => exact IsPart.int _ _
                    case qU => exact IsPart.none
                    case eU => exact pick_last ys5
                    case sU => with_unfolding_all rfl
                    case tU => intro _; with_unfolding_all rfl
                    case zU => rw [List.size_toArray, sizeLine_eq]; omega
                    intro D7 h7 F7 N7 l7
                    clear kF kN
                    k_steps
                    (rename Fr _ _ _ _ => kF)
                    (rename News _ _ _ _ => kN)
                    refine to_stop ?_
                    k_dflt refine' add_vals (vs := ys6) (ws := ys5.drop (ys5.length - 1)) kF kN ?lV ?bV ?zV ?_
                    case lV => exact .tail _ (.head _)
                    case bV => exact .head _
                    case zV => rw [List.length_drop]; omega
                    intro D8 h8 F8 N8 l8
                    clear kF kN
                    k_steps
                    (rename News _ _ _ _ => kN)
                    refine to_stop ?_
                    obtain ⟨va, hva, hAv⟩ := first_good hA6 hA5 (ask_self ha q)
                    have hAv' : AnsIs (fa q) va := by rw [hfa]; exact hAv
                    refine' first_at kN (.head _) hva ?_ (by with_unfolding_all rfl)
                    have w1 := neN (Nat.ne_of_lt (l8 _ (.tail _ (.tail _ (.tail _ (.tail _ (.tail _ (.tail _ (.head _)))))))))
                    have w2 := neN (Nat.ne_of_lt (l7 _ (.tail _ (.tail _ (.tail _ (.tail _ (.tail _ (.head _))))))))
                    have w3 := neN (off6 _ (.tail _ (.tail _ (.tail _ (.tail _ (.head _))))))
                    have w4 := neN (off5 _ (.tail _ (.tail _ (.tail _ (.head _)))))
                    have w5 := neN (Nat.ne_of_lt (l4 _ (.tail _ (.tail _ (.head _)))))
                    have w6 := neN (xR _ hTq)
                    dsimp only at w1 w2 w3 w4 w5 w6
                    k_steps
                    (rename Fr _ _ _ _ => kF)
                    (rename News _ _ _ _ => kN)
                    refine to_stop ?_
                    have hvl : vs.length ≤ 100000 := by
                      have h1 := hA.1
                      have h2 := hfok.prsN
                      simp only [List.length_take, List.length_map] at h1
                      dsimp only at h2
                      omega
                    refine' vals_append (vs := vs) kF kN ?UW hvl ?_
                    case UW => k_upd
                    intro h9 F9 N9
                    clear kF kN
                    k_steps
                    refine' row_end (v := va) F9 N9 ?hallR hne2 hq hA hAv' ?d1R ?d2R ?hmR
                    case hallR => exact fun p hp => .tail _ (.tail _ (.tail _ (.tail _ (.tail _ (.tail _ hp)))))
                    case d1R => assumption
                    case d2R => assumption
                    case hmR => intro y h1 h2; simp only [chainA, if_neg h1, if_neg h2]
              case doneB =>
                intro vs n oN oL vN vL m₂ h tk dr hA d3 d4 F' N'
                rw [hfa] at hA hy
                clear kF kN
                k_steps
                (rename Fr _ _ _ _ => kF)
                (rename News _ _ _ _ => kN)
                refine to_stop ?_
                refine' vals_append (vs := refsV c2.due) kF kN ?UX hsm.2 ?_
                case UX => k_upd
                intro h9 F9 N9
                clear kF kN
                k_steps
                refine' law_end2 F9 N9 hX' hne oD ?oRY iD ?iRY hgc ha R' hm hy hA ?d1Y ?d2Y d3 d4 ?h4Y
                case oRY => exact ⟨Ne.symm p4, Ne.symm p5, Ne.symm p6, Ne.symm p7, Ne.symm p8, Ne.symm p9⟩
                case iRY => exact ⟨Ne.symm p3, Ne.symm p2⟩
                case d1Y => assumption
                case d2Y => assumption
                case h4Y => intro y h1 h2 h3 h4; simp only [chainA, chain4, if_neg h1, if_neg h2, if_neg h3, if_neg h4]
          case done =>
            intro m₁ c2 h tk dr hgc F' N'
            dsimp only [ledM] at N'
            clear kF kN
            k_steps
            (rename News _ _ _ _ => kN)
            refine to_stop ?_
            refine' lists_eq (R := LawFx.row _) kN (.head _) (.tail _ (.head _)) ?htZ ?hdZ (hgc.toldN.trans hgc.dueN.symm) hgc.told hgc.due ?huZ ?_
            case htZ => exact fun p hp => .tail _ (.tail _ (.tail _ (.tail _ (.tail _ (.tail _ (.tail _ (.tail _ (.tail _ (List.mem_append_left _ (List.mem_append_right _ (List.mem_append_left _ hp)))))))))))
            case hdZ => exact fun p hp => .tail _ (.tail _ (.tail _ (.tail _ (.tail _ (.tail _ (.tail _ (.tail _ (.tail _ (List.mem_append_left _ (List.mem_append_right _ (List.mem_append_right _ hp)))))))))))
            case huZ => ktr_units
            k_steps)
end Mine
end PartU1y
theorem PySem.Challenge.cw_nq0320_01_holds : PySem.Challenge.rw_nq0320_01.Holds :=
  Mine.lawwalk
