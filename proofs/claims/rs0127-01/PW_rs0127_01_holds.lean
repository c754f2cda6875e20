import PyProof.Rows.All
import Wide.All
import OpenK.AllK
import Wide.FinOn
import PyProof.FactsAll.range
import KE.KDictSum
import PyProof.Rows.SumAny
import Lean
import PySem.Challenge.RW_rs0127_01
set_option linter.all false
set_option Elab.async false
set_option maxRecDepth 100000
namespace Mine
section
open PySem PySem.W PyProof.Rows
noncomputable def nthS : List Stmt → Nat → Stmt
  | [], _ => .Pass ⟨0, 0, 0, 0⟩
  | s :: _, 0 => s
  | _ :: r, n + 1 => nthS r n
noncomputable def cOf : Stmt → List Stmt
  | .ClassDef _ _ _ body .. => body
  | _ => []
noncomputable def fOf : Stmt → Arguments × List Stmt × Scope
  | .FunctionDef _ a b _ _ _ s _ _ _ => (a, b, s)
  | _ => (⟨[], [], none, [], [], none, []⟩, [], ⟨.function, [], false, false, []⟩)
noncomputable abbrev D21 : { d : Arguments × List Stmt × Scope // d = fOf (nthS PySem.Challenge.pw_rs0127_01.main.body 0) } := ⟨_, by conv => { rhs; whnf }⟩
noncomputable abbrev D38 : { d : Arguments × List Stmt × Scope // d = fOf (nthS (cOf (nthS PySem.Challenge.pw_rs0127_01.main.body 3)) 0) } := ⟨_, by conv => { rhs; whnf }⟩
noncomputable abbrev D45 : { d : Arguments × List Stmt × Scope // d = fOf (nthS (cOf (nthS PySem.Challenge.pw_rs0127_01.main.body 3)) 1) } := ⟨_, by conv => { rhs; whnf }⟩
noncomputable abbrev D53 : { d : Arguments × List Stmt × Scope // d = fOf (nthS (cOf (nthS PySem.Challenge.pw_rs0127_01.main.body 3)) 2) } := ⟨_, by conv => { rhs; whnf }⟩
noncomputable abbrev D61 : { d : Arguments × List Stmt × Scope // d = fOf (nthS (cOf (nthS PySem.Challenge.pw_rs0127_01.main.body 3)) 3) } := ⟨_, by conv => { rhs; whnf }⟩
noncomputable abbrev D68 : { d : Arguments × List Stmt × Scope // d = fOf (nthS (cOf (nthS PySem.Challenge.pw_rs0127_01.main.body 3)) 4) } := ⟨_, by conv => { rhs; whnf }⟩
noncomputable abbrev D75 : { d : Arguments × List Stmt × Scope // d = fOf (nthS (cOf (nthS PySem.Challenge.pw_rs0127_01.main.body 3)) 5) } := ⟨_, by conv => { rhs; whnf }⟩
noncomputable abbrev D83 : { d : Arguments × List Stmt × Scope // d = fOf (nthS (cOf (nthS PySem.Challenge.pw_rs0127_01.main.body 3)) 6) } := ⟨_, by conv => { rhs; whnf }⟩
noncomputable abbrev D90 : { d : Arguments × List Stmt × Scope // d = fOf (nthS (cOf (nthS PySem.Challenge.pw_rs0127_01.main.body 3)) 7) } := ⟨_, by conv => { rhs; whnf }⟩
noncomputable abbrev D98 : { d : Arguments × List Stmt × Scope // d = fOf (nthS (cOf (nthS PySem.Challenge.pw_rs0127_01.main.body 3)) 8) } := ⟨_, by conv => { rhs; whnf }⟩
noncomputable abbrev D112 : { d : Arguments × List Stmt × Scope // d = fOf (nthS PySem.Challenge.pw_rs0127_01.main.body 6) } := ⟨_, by conv => { rhs; whnf }⟩
noncomputable abbrev D119 : { d : Arguments × List Stmt × Scope // d = fOf (nthS PySem.Challenge.pw_rs0127_01.main.body 7) } := ⟨_, by conv => { rhs; whnf }⟩
noncomputable abbrev D126 : { d : Arguments × List Stmt × Scope // d = fOf (nthS PySem.Challenge.pw_rs0127_01.main.body 8) } := ⟨_, by conv => { rhs; whnf }⟩
noncomputable abbrev D133 : { d : Arguments × List Stmt × Scope // d = fOf (nthS PySem.Challenge.pw_rs0127_01.main.body 9) } := ⟨_, by conv => { rhs; whnf }⟩
noncomputable abbrev D140 : { d : Arguments × List Stmt × Scope // d = fOf (nthS PySem.Challenge.pw_rs0127_01.main.body 10) } := ⟨_, by conv => { rhs; whnf }⟩
noncomputable abbrev D147 : { d : Arguments × List Stmt × Scope // d = fOf (nthS PySem.Challenge.pw_rs0127_01.main.body 11) } := ⟨_, by conv => { rhs; whnf }⟩
noncomputable abbrev D156 : { d : Arguments × List Stmt × Scope // d = fOf (nthS PySem.Challenge.pw_rs0127_01.main.body 13) } := ⟨_, by conv => { rhs; whnf }⟩
noncomputable abbrev D161 : { d : Arguments × List Stmt × Scope // d = fOf (nthS PySem.Challenge.pw_rs0127_01.main.body 15) } := ⟨_, by conv => { rhs; whnf }⟩
noncomputable abbrev D168 : { d : Arguments × List Stmt × Scope // d = fOf (nthS PySem.Challenge.pw_rs0127_01.main.body 16) } := ⟨_, by conv => { rhs; whnf }⟩
noncomputable abbrev D175 : { d : Arguments × List Stmt × Scope // d = fOf (nthS PySem.Challenge.pw_rs0127_01.main.body 17) } := ⟨_, by conv => { rhs; whnf }⟩
noncomputable abbrev D180 : { d : Arguments × List Stmt × Scope // d = fOf (nthS PySem.Challenge.pw_rs0127_01.main.body 18) } := ⟨_, by conv => { rhs; whnf }⟩
noncomputable abbrev D187 : { d : Arguments × List Stmt × Scope // d = fOf (nthS PySem.Challenge.pw_rs0127_01.main.body 19) } := ⟨_, by conv => { rhs; whnf }⟩
noncomputable abbrev D192 : { d : Arguments × List Stmt × Scope // d = fOf (nthS PySem.Challenge.pw_rs0127_01.main.body 20) } := ⟨_, by conv => { rhs; whnf }⟩
noncomputable abbrev D197 : { d : Arguments × List Stmt × Scope // d = fOf (nthS PySem.Challenge.pw_rs0127_01.main.body 21) } := ⟨_, by conv => { rhs; whnf }⟩
noncomputable abbrev D202 : { d : Arguments × List Stmt × Scope // d = fOf (nthS PySem.Challenge.pw_rs0127_01.main.body 22) } := ⟨_, by conv => { rhs; whnf }⟩
noncomputable def K0 (P : Params) : Frag := [
  (nat_lit 2, Obj.mk Value.none none (Data.dict #[]) #[]),
  (nat_lit 3, Obj.mk (Value.type "dict") none (Data.dict #[DictEntry.mk (PyData.keyHash P (Str.ofString "__name__")) (Value.str (Str.ofString "__name__") (nat_lit 165)) (Value.str (Str.ofString "law_rs0127_01") (nat_lit 392)), DictEntry.mk (PyData.keyHash P (Str.ofString "__doc__")) (Value.str (Str.ofString "__doc__") (nat_lit 166)) Value.none, DictEntry.mk (PyData.keyHash P (Str.ofString "__package__")) (Value.str (Str.ofString "__package__") (nat_lit 167)) Value.none, DictEntry.mk (PyData.keyHash P (Str.ofString "__loader__")) (Value.str (Str.ofString "__loader__") (nat_lit 168)) (Value.builtin "__main__.__loader__#opaque"), DictEntry.mk (PyData.keyHash P (Str.ofString "__spec__")) (Value.str (Str.ofString "__spec__") (nat_lit 169)) Value.none, DictEntry.mk (PyData.keyHash P (Str.ofString "__annotations__")) (Value.str (Str.ofString "__annotations__") (nat_lit 170)) (Value.ref (nat_lit 6)), DictEntry.mk (PyData.keyHash P (Str.ofString "__builtins__")) (Value.str (Str.ofString "__builtins__") (nat_lit 171)) (Value.ref (nat_lit 4)), DictEntry.mk (PyData.keyHash P (Str.ofString "__file__")) (Value.str (Str.ofString "__file__") (nat_lit 173)) (Value.str (Str.ofString "/claim/cut.py") (nat_lit 172)), DictEntry.mk (PyData.keyHash P (Str.ofString "__cached__")) (Value.str (Str.ofString "__cached__") (nat_lit 174)) Value.none, DictEntry.mk (PyData.keyHash P (Str.ofString "_wall")) (Value.str (Str.ofString "_wall") (nat_lit 193)) (Value.ref (nat_lit 21)), DictEntry.mk (PyData.keyHash P (Str.ofString "EMPTYSTRING")) (Value.str (Str.ofString "EMPTYSTRING") (nat_lit 197)) (Value.str (Str.ofString "") (nat_lit 196)), DictEntry.mk (PyData.keyHash P (Str.ofString "_Accumulator")) (Value.str (Str.ofString "_Accumulator") (nat_lit 293)) (Value.ref (nat_lit 101)), DictEntry.mk (PyData.keyHash P (Str.ofString "_DIV_LIMIT")) (Value.str (Str.ofString "_DIV_LIMIT") (nat_lit 297)) (Value.int 4000 (nat_lit 296)), DictEntry.mk (PyData.keyHash P (Str.ofString "_div2n1n")) (Value.str (Str.ofString "_div2n1n") (nat_lit 314)) (Value.ref (nat_lit 112)), DictEntry.mk (PyData.keyHash P (Str.ofString "_div3n2n")) (Value.str (Str.ofString "_div3n2n") (nat_lit 328)) (Value.ref (nat_lit 119)), DictEntry.mk (PyData.keyHash P (Str.ofString "_int2digits")) (Value.str (Str.ofString "_int2digits") (nat_lit 339)) (Value.ref (nat_lit 126)), DictEntry.mk (PyData.keyHash P (Str.ofString "_digits2int")) (Value.str (Str.ofString "_digits2int") (nat_lit 350)) (Value.ref (nat_lit 133)), DictEntry.mk (PyData.keyHash P (Str.ofString "_divmod_pos")) (Value.str (Str.ofString "_divmod_pos") (nat_lit 365)) (Value.ref (nat_lit 140)), DictEntry.mk (PyData.keyHash P (Str.ofString "int_divmod")) (Value.str (Str.ofString "int_divmod") (nat_lit 375)) (Value.ref (nat_lit 147)), DictEntry.mk (PyData.keyHash P (Str.ofString "bisect_right")) (Value.str (Str.ofString "bisect_right") (nat_lit 391)) (Value.ref (nat_lit 156)), DictEntry.mk (PyData.keyHash P (Str.ofString "_law_asked")) (Value.str (Str.ofString "_law_asked") (nat_lit 399)) (Value.ref (nat_lit 161)), DictEntry.mk (PyData.keyHash P (Str.ofString "_law_hours")) (Value.str (Str.ofString "_law_hours") (nat_lit 409)) (Value.ref (nat_lit 168)), DictEntry.mk (PyData.keyHash P (Str.ofString "_law_piled")) (Value.str (Str.ofString "_law_piled") (nat_lit 430)) (Value.ref (nat_lit 175)), DictEntry.mk (PyData.keyHash P (Str.ofString "_law_best")) (Value.str (Str.ofString "_law_best") (nat_lit 436)) (Value.ref (nat_lit 180)), DictEntry.mk (PyData.keyHash P (Str.ofString "_law_rows")) (Value.str (Str.ofString "_law_rows") (nat_lit 451)) (Value.ref (nat_lit 187)), DictEntry.mk (PyData.keyHash P (Str.ofString "_law_held")) (Value.str (Str.ofString "_law_held") (nat_lit 457)) (Value.ref (nat_lit 192)), DictEntry.mk (PyData.keyHash P (Str.ofString "_law_summed")) (Value.str (Str.ofString "_law_summed") (nat_lit 463)) (Value.ref (nat_lit 197)), DictEntry.mk (PyData.keyHash P (Str.ofString "law")) (Value.str (Str.ofString "law") (nat_lit 469)) (Value.ref (nat_lit 202))] 28) #[]),
  (nat_lit 15, Obj.mk (Value.type "tuple") none (Data.seq #[]) #[]),
  (nat_lit 17, Obj.mk (Value.type "tuple") none (Data.seq #[Value.str (Str.ofString "k") (nat_lit 190)]) #[]),
  (nat_lit 18, Obj.mk (Value.type "tuple") none (Data.seq #[]) #[]),
  (nat_lit 20, Obj.mk (Value.type "code") none (Data.fields #[Value.str (Str.ofString "_wall") (nat_lit 187), Value.str (Str.ofString "_wall") (nat_lit 188), Value.str (Str.ofString "/claim/cut.py") (nat_lit 189), Value.int 1 (nat_lit 0), Value.int 1 (nat_lit 0), Value.int 0 (nat_lit 0), Value.int 0 (nat_lit 0), Value.int 3 (nat_lit 0), Value.ref (nat_lit 15), Value.bool true, Value.int 181 (nat_lit 0), Value.ref (nat_lit 16), Value.none, Value.ref (nat_lit 17), Value.ref (nat_lit 18), Value.ref (nat_lit 19), Value.int 191 (nat_lit 0), Value.int 1 (nat_lit 0), Value.str (Str.ofString "/claim/cut.py") (nat_lit 192)]) #[]),
  (nat_lit 21, Obj.mk (Value.type "function") none (Data.func (FuncData.mk (Str.ofString "_wall") (Str.ofString "_wall") D21.1.1 (FuncBody.stmts D21.1.2.1) D21.1.2.2 3 [] Value.none Value.none Value.none (Value.str (Str.ofString "__main__") (nat_lit 164)) none (Value.ref (nat_lit 20)) Value.none 0)) #[]),
  (nat_lit 22, Obj.mk (Value.type "tuple") none (Data.seq #[Value.type "list"]) #[]),
  (nat_lit 25, Obj.mk (Value.type "cell") none (Data.cell (some (Value.ref (nat_lit 101)))) #[]),
  (nat_lit 30, Obj.mk (Value.type "tuple") none (Data.seq #[Value.int 0 (nat_lit 210)]) #[]),
  (nat_lit 31, Obj.mk (Value.type "tuple") none (Data.seq #[Value.ref (nat_lit 25)]) #[]),
  (nat_lit 32, Obj.mk (Value.type "tuple") none (Data.seq #[Value.str (Str.ofString "__class__") (nat_lit 214)]) #[]),
  (nat_lit 34, Obj.mk (Value.type "tuple") none (Data.seq #[Value.str (Str.ofString "self") (nat_lit 215), Value.str (Str.ofString "initial_size") (nat_lit 216)]) #[]),
  (nat_lit 35, Obj.mk (Value.type "tuple") none (Data.seq #[]) #[]),
  (nat_lit 37, Obj.mk (Value.type "code") none (Data.fields #[Value.str (Str.ofString "__init__") (nat_lit 211), Value.str (Str.ofString "_Accumulator.__init__") (nat_lit 212), Value.str (Str.ofString "/claim/cut.py") (nat_lit 213), Value.int 8 (nat_lit 0), Value.int 2 (nat_lit 0), Value.int 0 (nat_lit 0), Value.int 0 (nat_lit 0), Value.int 3 (nat_lit 0), Value.ref (nat_lit 32), Value.bool true, Value.int 181 (nat_lit 0), Value.ref (nat_lit 33), Value.none, Value.ref (nat_lit 34), Value.ref (nat_lit 35), Value.ref (nat_lit 36), Value.int 217 (nat_lit 0), Value.int 8 (nat_lit 0), Value.str (Str.ofString "/claim/cut.py") (nat_lit 218)]) #[]),
  (nat_lit 38, Obj.mk (Value.type "function") none (Data.func (FuncData.mk (Str.ofString "__init__") (Str.ofString "_Accumulator.__init__") D38.1.1 (FuncBody.stmts D38.1.2.1) D38.1.2.2 3 [(Str.ofString "__class__", nat_lit 25)] (Value.ref (nat_lit 30)) Value.none Value.none (Value.str (Str.ofString "cpy313.email.header") (nat_lit 194)) none (Value.ref (nat_lit 37)) (Value.ref (nat_lit 31)) 0)) #[]),
  (nat_lit 39, Obj.mk (Value.type "tuple") none (Data.seq #[]) #[]),
  (nat_lit 41, Obj.mk (Value.type "tuple") none (Data.seq #[Value.str (Str.ofString "self") (nat_lit 223), Value.str (Str.ofString "fws") (nat_lit 224), Value.str (Str.ofString "string") (nat_lit 225)]) #[]),
  (nat_lit 42, Obj.mk (Value.type "tuple") none (Data.seq #[]) #[]),
  (nat_lit 44, Obj.mk (Value.type "code") none (Data.fields #[Value.str (Str.ofString "push") (nat_lit 220), Value.str (Str.ofString "_Accumulator.push") (nat_lit 221), Value.str (Str.ofString "/claim/cut.py") (nat_lit 222), Value.int 12 (nat_lit 0), Value.int 3 (nat_lit 0), Value.int 0 (nat_lit 0), Value.int 0 (nat_lit 0), Value.int 3 (nat_lit 0), Value.ref (nat_lit 39), Value.bool true, Value.int 181 (nat_lit 0), Value.ref (nat_lit 40), Value.none, Value.ref (nat_lit 41), Value.ref (nat_lit 42), Value.ref (nat_lit 43), Value.int 226 (nat_lit 0), Value.int 12 (nat_lit 0), Value.str (Str.ofString "/claim/cut.py") (nat_lit 227)]) #[]),
  (nat_lit 45, Obj.mk (Value.type "function") none (Data.func (FuncData.mk (Str.ofString "push") (Str.ofString "_Accumulator.push") D45.1.1 (FuncBody.stmts D45.1.2.1) D45.1.2.2 3 [] Value.none Value.none Value.none (Value.str (Str.ofString "cpy313.email.header") (nat_lit 194)) none (Value.ref (nat_lit 44)) Value.none 0)) #[]),
  (nat_lit 46, Obj.mk (Value.type "tuple") none (Data.seq #[Value.int 0 (nat_lit 229)]) #[]),
  (nat_lit 47, Obj.mk (Value.type "tuple") none (Data.seq #[]) #[]),
  (nat_lit 49, Obj.mk (Value.type "tuple") none (Data.seq #[Value.str (Str.ofString "self") (nat_lit 233), Value.str (Str.ofString "i") (nat_lit 234), Value.str (Str.ofString "popped") (nat_lit 235)]) #[]),
  (nat_lit 50, Obj.mk (Value.type "tuple") none (Data.seq #[]) #[]),
  (nat_lit 52, Obj.mk (Value.type "code") none (Data.fields #[Value.str (Str.ofString "pop_from") (nat_lit 230), Value.str (Str.ofString "_Accumulator.pop_from") (nat_lit 231), Value.str (Str.ofString "/claim/cut.py") (nat_lit 232), Value.int 15 (nat_lit 0), Value.int 2 (nat_lit 0), Value.int 0 (nat_lit 0), Value.int 0 (nat_lit 0), Value.int 3 (nat_lit 0), Value.ref (nat_lit 47), Value.bool true, Value.int 181 (nat_lit 0), Value.ref (nat_lit 48), Value.none, Value.ref (nat_lit 49), Value.ref (nat_lit 50), Value.ref (nat_lit 51), Value.int 236 (nat_lit 0), Value.int 15 (nat_lit 0), Value.str (Str.ofString "/claim/cut.py") (nat_lit 237)]) #[]),
  (nat_lit 53, Obj.mk (Value.type "function") none (Data.func (FuncData.mk (Str.ofString "pop_from") (Str.ofString "_Accumulator.pop_from") D53.1.1 (FuncBody.stmts D53.1.2.1) D53.1.2.2 3 [] (Value.ref (nat_lit 46)) Value.none Value.none (Value.str (Str.ofString "cpy313.email.header") (nat_lit 194)) none (Value.ref (nat_lit 52)) Value.none 0)) #[]),
  (nat_lit 54, Obj.mk (Value.type "tuple") none (Data.seq #[Value.ref (nat_lit 25)]) #[]),
  (nat_lit 55, Obj.mk (Value.type "tuple") none (Data.seq #[Value.str (Str.ofString "__class__") (nat_lit 242)]) #[]),
  (nat_lit 57, Obj.mk (Value.type "tuple") none (Data.seq #[Value.str (Str.ofString "self") (nat_lit 243)]) #[]),
  (nat_lit 58, Obj.mk (Value.type "tuple") none (Data.seq #[]) #[]),
  (nat_lit 60, Obj.mk (Value.type "code") none (Data.fields #[Value.str (Str.ofString "pop") (nat_lit 239), Value.str (Str.ofString "_Accumulator.pop") (nat_lit 240), Value.str (Str.ofString "/claim/cut.py") (nat_lit 241), Value.int 20 (nat_lit 0), Value.int 1 (nat_lit 0), Value.int 0 (nat_lit 0), Value.int 0 (nat_lit 0), Value.int 3 (nat_lit 0), Value.ref (nat_lit 55), Value.bool true, Value.int 181 (nat_lit 0), Value.ref (nat_lit 56), Value.none, Value.ref (nat_lit 57), Value.ref (nat_lit 58), Value.ref (nat_lit 59), Value.int 244 (nat_lit 0), Value.int 20 (nat_lit 0), Value.str (Str.ofString "/claim/cut.py") (nat_lit 245)]) #[]),
  (nat_lit 61, Obj.mk (Value.type "function") none (Data.func (FuncData.mk (Str.ofString "pop") (Str.ofString "_Accumulator.pop") D61.1.1 (FuncBody.stmts D61.1.2.1) D61.1.2.2 3 [(Str.ofString "__class__", nat_lit 25)] Value.none Value.none Value.none (Value.str (Str.ofString "cpy313.email.header") (nat_lit 194)) none (Value.ref (nat_lit 60)) (Value.ref (nat_lit 54)) 0)) #[]),
  (nat_lit 62, Obj.mk (Value.type "tuple") none (Data.seq #[]) #[]),
  (nat_lit 64, Obj.mk (Value.type "tuple") none (Data.seq #[Value.str (Str.ofString "self") (nat_lit 250)]) #[]),
  (nat_lit 65, Obj.mk (Value.type "tuple") none (Data.seq #[]) #[]),
  (nat_lit 67, Obj.mk (Value.type "code") none (Data.fields #[Value.str (Str.ofString "__len__") (nat_lit 247), Value.str (Str.ofString "_Accumulator.__len__") (nat_lit 248), Value.str (Str.ofString "/claim/cut.py") (nat_lit 249), Value.int 25 (nat_lit 0), Value.int 1 (nat_lit 0), Value.int 0 (nat_lit 0), Value.int 0 (nat_lit 0), Value.int 3 (nat_lit 0), Value.ref (nat_lit 62), Value.bool true, Value.int 181 (nat_lit 0), Value.ref (nat_lit 63), Value.none, Value.ref (nat_lit 64), Value.ref (nat_lit 65), Value.ref (nat_lit 66), Value.int 251 (nat_lit 0), Value.int 25 (nat_lit 0), Value.str (Str.ofString "/claim/cut.py") (nat_lit 252)]) #[]),
  (nat_lit 68, Obj.mk (Value.type "function") none (Data.func (FuncData.mk (Str.ofString "__len__") (Str.ofString "_Accumulator.__len__") D68.1.1 (FuncBody.stmts D68.1.2.1) D68.1.2.2 3 [] Value.none Value.none Value.none (Value.str (Str.ofString "cpy313.email.header") (nat_lit 194)) none (Value.ref (nat_lit 67)) Value.none 0)) #[]),
  (nat_lit 69, Obj.mk (Value.type "tuple") none (Data.seq #[]) #[]),
  (nat_lit 71, Obj.mk (Value.type "tuple") none (Data.seq #[Value.str (Str.ofString "self") (nat_lit 257)]) #[]),
  (nat_lit 72, Obj.mk (Value.type "tuple") none (Data.seq #[]) #[]),
  (nat_lit 74, Obj.mk (Value.type "code") none (Data.fields #[Value.str (Str.ofString "__str__") (nat_lit 254), Value.str (Str.ofString "_Accumulator.__str__") (nat_lit 255), Value.str (Str.ofString "/claim/cut.py") (nat_lit 256), Value.int 28 (nat_lit 0), Value.int 1 (nat_lit 0), Value.int 0 (nat_lit 0), Value.int 0 (nat_lit 0), Value.int 3 (nat_lit 0), Value.ref (nat_lit 69), Value.bool true, Value.int 181 (nat_lit 0), Value.ref (nat_lit 70), Value.none, Value.ref (nat_lit 71), Value.ref (nat_lit 72), Value.ref (nat_lit 73), Value.int 258 (nat_lit 0), Value.int 28 (nat_lit 0), Value.str (Str.ofString "/claim/cut.py") (nat_lit 259)]) #[]),
  (nat_lit 75, Obj.mk (Value.type "function") none (Data.func (FuncData.mk (Str.ofString "__str__") (Str.ofString "_Accumulator.__str__") D75.1.1 (FuncBody.stmts D75.1.2.1) D75.1.2.2 3 [] Value.none Value.none Value.none (Value.str (Str.ofString "cpy313.email.header") (nat_lit 194)) none (Value.ref (nat_lit 74)) Value.none 0)) #[]),
  (nat_lit 76, Obj.mk (Value.type "tuple") none (Data.seq #[Value.none]) #[]),
  (nat_lit 77, Obj.mk (Value.type "tuple") none (Data.seq #[]) #[]),
  (nat_lit 79, Obj.mk (Value.type "tuple") none (Data.seq #[Value.str (Str.ofString "self") (nat_lit 264), Value.str (Str.ofString "startval") (nat_lit 265)]) #[]),
  (nat_lit 80, Obj.mk (Value.type "tuple") none (Data.seq #[]) #[]),
  (nat_lit 82, Obj.mk (Value.type "code") none (Data.fields #[Value.str (Str.ofString "reset") (nat_lit 261), Value.str (Str.ofString "_Accumulator.reset") (nat_lit 262), Value.str (Str.ofString "/claim/cut.py") (nat_lit 263), Value.int 31 (nat_lit 0), Value.int 2 (nat_lit 0), Value.int 0 (nat_lit 0), Value.int 0 (nat_lit 0), Value.int 3 (nat_lit 0), Value.ref (nat_lit 77), Value.bool true, Value.int 181 (nat_lit 0), Value.ref (nat_lit 78), Value.none, Value.ref (nat_lit 79), Value.ref (nat_lit 80), Value.ref (nat_lit 81), Value.int 266 (nat_lit 0), Value.int 31 (nat_lit 0), Value.str (Str.ofString "/claim/cut.py") (nat_lit 267)]) #[]),
  (nat_lit 83, Obj.mk (Value.type "function") none (Data.func (FuncData.mk (Str.ofString "reset") (Str.ofString "_Accumulator.reset") D83.1.1 (FuncBody.stmts D83.1.2.1) D83.1.2.2 3 [] (Value.ref (nat_lit 76)) Value.none Value.none (Value.str (Str.ofString "cpy313.email.header") (nat_lit 194)) none (Value.ref (nat_lit 82)) Value.none 0)) #[]),
  (nat_lit 84, Obj.mk (Value.type "tuple") none (Data.seq #[]) #[]),
  (nat_lit 86, Obj.mk (Value.type "tuple") none (Data.seq #[Value.str (Str.ofString "self") (nat_lit 272)]) #[]),
  (nat_lit 87, Obj.mk (Value.type "tuple") none (Data.seq #[]) #[]),
  (nat_lit 89, Obj.mk (Value.type "code") none (Data.fields #[Value.str (Str.ofString "is_onlyws") (nat_lit 269), Value.str (Str.ofString "_Accumulator.is_onlyws") (nat_lit 270), Value.str (Str.ofString "/claim/cut.py") (nat_lit 271), Value.int 34 (nat_lit 0), Value.int 1 (nat_lit 0), Value.int 0 (nat_lit 0), Value.int 0 (nat_lit 0), Value.int 3 (nat_lit 0), Value.ref (nat_lit 84), Value.bool true, Value.int 181 (nat_lit 0), Value.ref (nat_lit 85), Value.none, Value.ref (nat_lit 86), Value.ref (nat_lit 87), Value.ref (nat_lit 88), Value.int 273 (nat_lit 0), Value.int 34 (nat_lit 0), Value.str (Str.ofString "/claim/cut.py") (nat_lit 274)]) #[]),
  (nat_lit 90, Obj.mk (Value.type "function") none (Data.func (FuncData.mk (Str.ofString "is_onlyws") (Str.ofString "_Accumulator.is_onlyws") D90.1.1 (FuncBody.stmts D90.1.2.1) D90.1.2.2 3 [] Value.none Value.none Value.none (Value.str (Str.ofString "cpy313.email.header") (nat_lit 194)) none (Value.ref (nat_lit 89)) Value.none 0)) #[]),
  (nat_lit 91, Obj.mk (Value.type "tuple") none (Data.seq #[Value.ref (nat_lit 25)]) #[]),
  (nat_lit 92, Obj.mk (Value.type "tuple") none (Data.seq #[Value.str (Str.ofString "__class__") (nat_lit 279)]) #[]),
  (nat_lit 94, Obj.mk (Value.type "tuple") none (Data.seq #[Value.str (Str.ofString "self") (nat_lit 280)]) #[]),
  (nat_lit 95, Obj.mk (Value.type "tuple") none (Data.seq #[]) #[]),
  (nat_lit 97, Obj.mk (Value.type "code") none (Data.fields #[Value.str (Str.ofString "part_count") (nat_lit 276), Value.str (Str.ofString "_Accumulator.part_count") (nat_lit 277), Value.str (Str.ofString "/claim/cut.py") (nat_lit 278), Value.int 37 (nat_lit 0), Value.int 1 (nat_lit 0), Value.int 0 (nat_lit 0), Value.int 0 (nat_lit 0), Value.int 3 (nat_lit 0), Value.ref (nat_lit 92), Value.bool true, Value.int 181 (nat_lit 0), Value.ref (nat_lit 93), Value.none, Value.ref (nat_lit 94), Value.ref (nat_lit 95), Value.ref (nat_lit 96), Value.int 281 (nat_lit 0), Value.int 37 (nat_lit 0), Value.str (Str.ofString "/claim/cut.py") (nat_lit 282)]) #[]),
  (nat_lit 98, Obj.mk (Value.type "function") none (Data.func (FuncData.mk (Str.ofString "part_count") (Str.ofString "_Accumulator.part_count") D98.1.1 (FuncBody.stmts D98.1.2.1) D98.1.2.2 3 [(Str.ofString "__class__", nat_lit 25)] Value.none Value.none Value.none (Value.str (Str.ofString "cpy313.email.header") (nat_lit 194)) none (Value.ref (nat_lit 97)) (Value.ref (nat_lit 91)) 0)) #[]),
  (nat_lit 99, Obj.mk (Value.type "tuple") none (Data.seq #[Value.str (Str.ofString "_initial_size") (nat_lit 284)]) #[]),
  (nat_lit 100, Obj.mk (Value.type "dict") none (Data.dict #[DictEntry.mk (PyData.keyHash P (Str.ofString "__module__")) (Value.str (Str.ofString "__module__") (nat_lit 205)) (Value.str (Str.ofString "cpy313.email.header") (nat_lit 194)), DictEntry.mk (PyData.keyHash P (Str.ofString "__firstlineno__")) (Value.str (Str.ofString "__firstlineno__") (nat_lit 209)) (Value.int 6 (nat_lit 208)), DictEntry.mk (PyData.keyHash P (Str.ofString "__init__")) (Value.str (Str.ofString "__init__") (nat_lit 219)) (Value.ref (nat_lit 38)), DictEntry.mk (PyData.keyHash P (Str.ofString "push")) (Value.str (Str.ofString "push") (nat_lit 228)) (Value.ref (nat_lit 45)), DictEntry.mk (PyData.keyHash P (Str.ofString "pop_from")) (Value.str (Str.ofString "pop_from") (nat_lit 238)) (Value.ref (nat_lit 53)), DictEntry.mk (PyData.keyHash P (Str.ofString "pop")) (Value.str (Str.ofString "pop") (nat_lit 246)) (Value.ref (nat_lit 61)), DictEntry.mk (PyData.keyHash P (Str.ofString "__len__")) (Value.str (Str.ofString "__len__") (nat_lit 253)) (Value.ref (nat_lit 68)), DictEntry.mk (PyData.keyHash P (Str.ofString "__str__")) (Value.str (Str.ofString "__str__") (nat_lit 260)) (Value.ref (nat_lit 75)), DictEntry.mk (PyData.keyHash P (Str.ofString "reset")) (Value.str (Str.ofString "reset") (nat_lit 268)) (Value.ref (nat_lit 83)), DictEntry.mk (PyData.keyHash P (Str.ofString "is_onlyws")) (Value.str (Str.ofString "is_onlyws") (nat_lit 275)) (Value.ref (nat_lit 90)), DictEntry.mk (PyData.keyHash P (Str.ofString "part_count")) (Value.str (Str.ofString "part_count") (nat_lit 283)) (Value.ref (nat_lit 98)), DictEntry.mk (PyData.keyHash P (Str.ofString "__static_attributes__")) (Value.str (Str.ofString "__static_attributes__") (nat_lit 285)) (Value.ref (nat_lit 99)), DictEntry.mk (PyData.keyHash P (Str.ofString "__dict__")) (Value.str (Str.ofString "__dict__") (nat_lit 288)) (Value.ref (nat_lit 102)), DictEntry.mk (PyData.keyHash P (Str.ofString "__weakref__")) (Value.str (Str.ofString "__weakref__") (nat_lit 290)) (Value.ref (nat_lit 103)), DictEntry.mk (PyData.keyHash P (Str.ofString "__doc__")) (Value.str (Str.ofString "__doc__") (nat_lit 291)) Value.none] 5) #[]),
  (nat_lit 101, Obj.mk (Value.type "type") none (Data.cls (ClassData.mk (Str.ofString "_Accumulator") [Value.type "list"] [Value.ref (nat_lit 101), Value.type "list", Value.type "object"] (nat_lit 100) (Str.ofString "_Accumulator") true [] [] false none false)) #[some (Value.ref (nat_lit 22)), none, some (Value.str (Str.ofString "_Accumulator") (nat_lit 198)), some (Value.str (Str.ofString "_Accumulator") (nat_lit 206)), some (Value.builtin "list.__new__"), some (Value.bool true)]),
  (nat_lit 102, Obj.mk (Value.type "getset_descriptor") none (Data.fields #[Value.str (Str.ofString "__dict__") (nat_lit 287), Value.ref (nat_lit 101), Value.builtin "function.__dict__", Value.builtin "function.__dict__#set"]) #[]),
  (nat_lit 103, Obj.mk (Value.type "getset_descriptor") none (Data.fields #[Value.str (Str.ofString "__weakref__") (nat_lit 289), Value.ref (nat_lit 101), Value.builtin "ExceptionGroup.__weakref__", Value.none]) #[]),
  (nat_lit 106, Obj.mk (Value.type "tuple") none (Data.seq #[]) #[]),
  (nat_lit 108, Obj.mk (Value.type "tuple") none (Data.seq #[Value.str (Str.ofString "a") (nat_lit 301), Value.str (Str.ofString "b") (nat_lit 302), Value.str (Str.ofString "n") (nat_lit 303), Value.str (Str.ofString "pad") (nat_lit 304), Value.str (Str.ofString "half_n") (nat_lit 305), Value.str (Str.ofString "mask") (nat_lit 306), Value.str (Str.ofString "b1") (nat_lit 307), Value.str (Str.ofString "b2") (nat_lit 308), Value.str (Str.ofString "q1") (nat_lit 309), Value.str (Str.ofString "r") (nat_lit 310), Value.str (Str.ofString "q2") (nat_lit 311)]) #[]),
  (nat_lit 109, Obj.mk (Value.type "tuple") none (Data.seq #[]) #[]),
  (nat_lit 111, Obj.mk (Value.type "code") none (Data.fields #[Value.str (Str.ofString "_div2n1n") (nat_lit 298), Value.str (Str.ofString "_div2n1n") (nat_lit 299), Value.str (Str.ofString "/claim/cut.py") (nat_lit 300), Value.int 41 (nat_lit 0), Value.int 3 (nat_lit 0), Value.int 0 (nat_lit 0), Value.int 0 (nat_lit 0), Value.int 3 (nat_lit 0), Value.ref (nat_lit 106), Value.bool true, Value.int 181 (nat_lit 0), Value.ref (nat_lit 107), Value.none, Value.ref (nat_lit 108), Value.ref (nat_lit 109), Value.ref (nat_lit 110), Value.int 312 (nat_lit 0), Value.int 41 (nat_lit 0), Value.str (Str.ofString "/claim/cut.py") (nat_lit 313)]) #[]),
  (nat_lit 112, Obj.mk (Value.type "function") none (Data.func (FuncData.mk (Str.ofString "_div2n1n") (Str.ofString "_div2n1n") D112.1.1 (FuncBody.stmts D112.1.2.1) D112.1.2.2 3 [] Value.none Value.none Value.none (Value.str (Str.ofString "cpy313._pylong") (nat_lit 294)) none (Value.ref (nat_lit 111)) Value.none 0)) #[]),
  (nat_lit 113, Obj.mk (Value.type "tuple") none (Data.seq #[]) #[]),
  (nat_lit 115, Obj.mk (Value.type "tuple") none (Data.seq #[Value.str (Str.ofString "a12") (nat_lit 318), Value.str (Str.ofString "a3") (nat_lit 319), Value.str (Str.ofString "b") (nat_lit 320), Value.str (Str.ofString "b1") (nat_lit 321), Value.str (Str.ofString "b2") (nat_lit 322), Value.str (Str.ofString "n") (nat_lit 323), Value.str (Str.ofString "q") (nat_lit 324), Value.str (Str.ofString "r") (nat_lit 325)]) #[]),
  (nat_lit 116, Obj.mk (Value.type "tuple") none (Data.seq #[]) #[]),
  (nat_lit 118, Obj.mk (Value.type "code") none (Data.fields #[Value.str (Str.ofString "_div3n2n") (nat_lit 315), Value.str (Str.ofString "_div3n2n") (nat_lit 316), Value.str (Str.ofString "/claim/cut.py") (nat_lit 317), Value.int 57 (nat_lit 0), Value.int 6 (nat_lit 0), Value.int 0 (nat_lit 0), Value.int 0 (nat_lit 0), Value.int 3 (nat_lit 0), Value.ref (nat_lit 113), Value.bool true, Value.int 181 (nat_lit 0), Value.ref (nat_lit 114), Value.none, Value.ref (nat_lit 115), Value.ref (nat_lit 116), Value.ref (nat_lit 117), Value.int 326 (nat_lit 0), Value.int 57 (nat_lit 0), Value.str (Str.ofString "/claim/cut.py") (nat_lit 327)]) #[]),
  (nat_lit 119, Obj.mk (Value.type "function") none (Data.func (FuncData.mk (Str.ofString "_div3n2n") (Str.ofString "_div3n2n") D119.1.1 (FuncBody.stmts D119.1.2.1) D119.1.2.2 3 [] Value.none Value.none Value.none (Value.str (Str.ofString "cpy313._pylong") (nat_lit 294)) none (Value.ref (nat_lit 118)) Value.none 0)) #[]),
  (nat_lit 120, Obj.mk (Value.type "tuple") none (Data.seq #[]) #[]),
  (nat_lit 122, Obj.mk (Value.type "tuple") none (Data.seq #[Value.str (Str.ofString "a") (nat_lit 332), Value.str (Str.ofString "n") (nat_lit 333)]) #[]),
  (nat_lit 123, Obj.mk (Value.type "tuple") none (Data.seq #[Value.str (Str.ofString "n") (nat_lit 334), Value.str (Str.ofString "a_digits") (nat_lit 335), Value.str (Str.ofString "inner") (nat_lit 336)]) #[]),
  (nat_lit 125, Obj.mk (Value.type "code") none (Data.fields #[Value.str (Str.ofString "_int2digits") (nat_lit 329), Value.str (Str.ofString "_int2digits") (nat_lit 330), Value.str (Str.ofString "/claim/cut.py") (nat_lit 331), Value.int 67 (nat_lit 0), Value.int 2 (nat_lit 0), Value.int 0 (nat_lit 0), Value.int 0 (nat_lit 0), Value.int 3 (nat_lit 0), Value.ref (nat_lit 120), Value.bool true, Value.int 181 (nat_lit 0), Value.ref (nat_lit 121), Value.none, Value.ref (nat_lit 122), Value.ref (nat_lit 123), Value.ref (nat_lit 124), Value.int 337 (nat_lit 0), Value.int 67 (nat_lit 0), Value.str (Str.ofString "/claim/cut.py") (nat_lit 338)]) #[]),
  (nat_lit 126, Obj.mk (Value.type "function") none (Data.func (FuncData.mk (Str.ofString "_int2digits") (Str.ofString "_int2digits") D126.1.1 (FuncBody.stmts D126.1.2.1) D126.1.2.2 3 [] Value.none Value.none Value.none (Value.str (Str.ofString "cpy313._pylong") (nat_lit 294)) none (Value.ref (nat_lit 125)) Value.none 0)) #[]),
  (nat_lit 127, Obj.mk (Value.type "tuple") none (Data.seq #[]) #[]),
  (nat_lit 129, Obj.mk (Value.type "tuple") none (Data.seq #[Value.str (Str.ofString "digits") (nat_lit 343), Value.str (Str.ofString "n") (nat_lit 344)]) #[]),
  (nat_lit 130, Obj.mk (Value.type "tuple") none (Data.seq #[Value.str (Str.ofString "digits") (nat_lit 345), Value.str (Str.ofString "n") (nat_lit 346), Value.str (Str.ofString "inner") (nat_lit 347)]) #[]),
  (nat_lit 132, Obj.mk (Value.type "code") none (Data.fields #[Value.str (Str.ofString "_digits2int") (nat_lit 340), Value.str (Str.ofString "_digits2int") (nat_lit 341), Value.str (Str.ofString "/claim/cut.py") (nat_lit 342), Value.int 83 (nat_lit 0), Value.int 2 (nat_lit 0), Value.int 0 (nat_lit 0), Value.int 0 (nat_lit 0), Value.int 3 (nat_lit 0), Value.ref (nat_lit 127), Value.bool true, Value.int 181 (nat_lit 0), Value.ref (nat_lit 128), Value.none, Value.ref (nat_lit 129), Value.ref (nat_lit 130), Value.ref (nat_lit 131), Value.int 348 (nat_lit 0), Value.int 83 (nat_lit 0), Value.str (Str.ofString "/claim/cut.py") (nat_lit 349)]) #[]),
  (nat_lit 133, Obj.mk (Value.type "function") none (Data.func (FuncData.mk (Str.ofString "_digits2int") (Str.ofString "_digits2int") D133.1.1 (FuncBody.stmts D133.1.2.1) D133.1.2.2 3 [] Value.none Value.none Value.none (Value.str (Str.ofString "cpy313._pylong") (nat_lit 294)) none (Value.ref (nat_lit 132)) Value.none 0)) #[]),
  (nat_lit 134, Obj.mk (Value.type "tuple") none (Data.seq #[]) #[]),
  (nat_lit 136, Obj.mk (Value.type "tuple") none (Data.seq #[Value.str (Str.ofString "a") (nat_lit 354), Value.str (Str.ofString "b") (nat_lit 355), Value.str (Str.ofString "n") (nat_lit 356), Value.str (Str.ofString "a_digits") (nat_lit 357), Value.str (Str.ofString "r") (nat_lit 358), Value.str (Str.ofString "q_digits") (nat_lit 359), Value.str (Str.ofString "a_digit") (nat_lit 360), Value.str (Str.ofString "q_digit") (nat_lit 361), Value.str (Str.ofString "q") (nat_lit 362)]) #[]),
  (nat_lit 137, Obj.mk (Value.type "tuple") none (Data.seq #[]) #[]),
  (nat_lit 139, Obj.mk (Value.type "code") none (Data.fields #[Value.str (Str.ofString "_divmod_pos") (nat_lit 351), Value.str (Str.ofString "_divmod_pos") (nat_lit 352), Value.str (Str.ofString "/claim/cut.py") (nat_lit 353), Value.int 92 (nat_lit 0), Value.int 2 (nat_lit 0), Value.int 0 (nat_lit 0), Value.int 0 (nat_lit 0), Value.int 3 (nat_lit 0), Value.ref (nat_lit 134), Value.bool true, Value.int 181 (nat_lit 0), Value.ref (nat_lit 135), Value.none, Value.ref (nat_lit 136), Value.ref (nat_lit 137), Value.ref (nat_lit 138), Value.int 363 (nat_lit 0), Value.int 92 (nat_lit 0), Value.str (Str.ofString "/claim/cut.py") (nat_lit 364)]) #[]),
  (nat_lit 140, Obj.mk (Value.type "function") none (Data.func (FuncData.mk (Str.ofString "_divmod_pos") (Str.ofString "_divmod_pos") D140.1.1 (FuncBody.stmts D140.1.2.1) D140.1.2.2 3 [] Value.none Value.none Value.none (Value.str (Str.ofString "cpy313._pylong") (nat_lit 294)) none (Value.ref (nat_lit 139)) Value.none 0)) #[]),
  (nat_lit 141, Obj.mk (Value.type "tuple") none (Data.seq #[]) #[]),
  (nat_lit 143, Obj.mk (Value.type "tuple") none (Data.seq #[Value.str (Str.ofString "a") (nat_lit 369), Value.str (Str.ofString "b") (nat_lit 370), Value.str (Str.ofString "q") (nat_lit 371), Value.str (Str.ofString "r") (nat_lit 372)]) #[]),
  (nat_lit 144, Obj.mk (Value.type "tuple") none (Data.seq #[]) #[]),
  (nat_lit 146, Obj.mk (Value.type "code") none (Data.fields #[Value.str (Str.ofString "int_divmod") (nat_lit 366), Value.str (Str.ofString "int_divmod") (nat_lit 367), Value.str (Str.ofString "/claim/cut.py") (nat_lit 368), Value.int 103 (nat_lit 0), Value.int 2 (nat_lit 0), Value.int 0 (nat_lit 0), Value.int 0 (nat_lit 0), Value.int 3 (nat_lit 0), Value.ref (nat_lit 141), Value.bool true, Value.int 181 (nat_lit 0), Value.ref (nat_lit 142), Value.none, Value.ref (nat_lit 143), Value.ref (nat_lit 144), Value.ref (nat_lit 145), Value.int 373 (nat_lit 0), Value.int 103 (nat_lit 0), Value.str (Str.ofString "/claim/cut.py") (nat_lit 374)]) #[]),
  (nat_lit 147, Obj.mk (Value.type "function") none (Data.func (FuncData.mk (Str.ofString "int_divmod") (Str.ofString "int_divmod") D147.1.1 (FuncBody.stmts D147.1.2.1) D147.1.2.2 3 [] Value.none Value.none Value.none (Value.str (Str.ofString "cpy313._pylong") (nat_lit 294)) none (Value.ref (nat_lit 146)) Value.none 0)) #[]),
  (nat_lit 148, Obj.mk (Value.type "tuple") none (Data.seq #[Value.int 0 (nat_lit 378), Value.none]) #[]),
  (nat_lit 149, Obj.mk (Value.type "dict") none (Data.dict #[DictEntry.mk (PyData.keyHash P (Str.ofString "key")) (Value.str (Str.ofString "key") (nat_lit 379)) Value.none] 1) #[]),
  (nat_lit 150, Obj.mk (Value.type "tuple") none (Data.seq #[]) #[]),
  (nat_lit 152, Obj.mk (Value.type "tuple") none (Data.seq #[Value.str (Str.ofString "a") (nat_lit 383), Value.str (Str.ofString "x") (nat_lit 384), Value.str (Str.ofString "lo") (nat_lit 385), Value.str (Str.ofString "hi") (nat_lit 386), Value.str (Str.ofString "key") (nat_lit 387), Value.str (Str.ofString "mid") (nat_lit 388)]) #[]),
  (nat_lit 153, Obj.mk (Value.type "tuple") none (Data.seq #[]) #[]),
  (nat_lit 155, Obj.mk (Value.type "code") none (Data.fields #[Value.str (Str.ofString "bisect_right") (nat_lit 380), Value.str (Str.ofString "bisect_right") (nat_lit 381), Value.str (Str.ofString "/claim/cut.py") (nat_lit 382), Value.int 115 (nat_lit 0), Value.int 4 (nat_lit 0), Value.int 0 (nat_lit 0), Value.int 1 (nat_lit 0), Value.int 3 (nat_lit 0), Value.ref (nat_lit 150), Value.bool true, Value.int 181 (nat_lit 0), Value.ref (nat_lit 151), Value.none, Value.ref (nat_lit 152), Value.ref (nat_lit 153), Value.ref (nat_lit 154), Value.int 389 (nat_lit 0), Value.int 115 (nat_lit 0), Value.str (Str.ofString "/claim/cut.py") (nat_lit 390)]) #[]),
  (nat_lit 156, Obj.mk (Value.type "function") none (Data.func (FuncData.mk (Str.ofString "bisect_right") (Str.ofString "bisect_right") D156.1.1 (FuncBody.stmts D156.1.2.1) D156.1.2.2 3 [] (Value.ref (nat_lit 148)) (Value.ref (nat_lit 149)) Value.none (Value.str (Str.ofString "cpy313.bisect") (nat_lit 376)) none (Value.ref (nat_lit 155)) Value.none 0)) #[]),
  (nat_lit 157, Obj.mk (Value.type "tuple") none (Data.seq #[]) #[]),
  (nat_lit 160, Obj.mk (Value.type "code") none (Data.fields #[Value.str (Str.ofString "_law_asked") (nat_lit 394), Value.str (Str.ofString "_law_asked") (nat_lit 395), Value.str (Str.ofString "/claim/cut.py") (nat_lit 396), Value.int 136 (nat_lit 0), Value.int 1 (nat_lit 0), Value.int 0 (nat_lit 0), Value.int 0 (nat_lit 0), Value.int 3 (nat_lit 0), Value.ref (nat_lit 157), Value.bool true, Value.int 181 (nat_lit 0), Value.ref (nat_lit 158), Value.none, Value.none, Value.none, Value.ref (nat_lit 159), Value.int 397 (nat_lit 0), Value.int 136 (nat_lit 0), Value.str (Str.ofString "/claim/cut.py") (nat_lit 398)]) #[]),
  (nat_lit 161, Obj.mk (Value.type "function") none (Data.func (FuncData.mk (Str.ofString "_law_asked") (Str.ofString "_law_asked") D161.1.1 (FuncBody.stmts D161.1.2.1) D161.1.2.2 3 [] Value.none Value.none Value.none (Value.str (Str.ofString "law_rs0127_01") (nat_lit 392)) none (Value.ref (nat_lit 160)) Value.none 0)) #[]),
  (nat_lit 162, Obj.mk (Value.type "tuple") none (Data.seq #[]) #[]),
  (nat_lit 164, Obj.mk (Value.type "tuple") none (Data.seq #[Value.str (Str.ofString "asks") (nat_lit 403), Value.str (Str.ofString "hours") (nat_lit 404), Value.str (Str.ofString "ahead") (nat_lit 405), Value.str (Str.ofString "hour") (nat_lit 406)]) #[]),
  (nat_lit 165, Obj.mk (Value.type "tuple") none (Data.seq #[]) #[]),
  (nat_lit 167, Obj.mk (Value.type "code") none (Data.fields #[Value.str (Str.ofString "_law_hours") (nat_lit 400), Value.str (Str.ofString "_law_hours") (nat_lit 401), Value.str (Str.ofString "/claim/cut.py") (nat_lit 402), Value.int 141 (nat_lit 0), Value.int 1 (nat_lit 0), Value.int 0 (nat_lit 0), Value.int 0 (nat_lit 0), Value.int 3 (nat_lit 0), Value.ref (nat_lit 162), Value.bool true, Value.int 181 (nat_lit 0), Value.ref (nat_lit 163), Value.none, Value.ref (nat_lit 164), Value.ref (nat_lit 165), Value.ref (nat_lit 166), Value.int 407 (nat_lit 0), Value.int 141 (nat_lit 0), Value.str (Str.ofString "/claim/cut.py") (nat_lit 408)]) #[]),
  (nat_lit 168, Obj.mk (Value.type "function") none (Data.func (FuncData.mk (Str.ofString "_law_hours") (Str.ofString "_law_hours") D168.1.1 (FuncBody.stmts D168.1.2.1) D168.1.2.2 3 [] Value.none Value.none Value.none (Value.str (Str.ofString "law_rs0127_01") (nat_lit 392)) none (Value.ref (nat_lit 167)) Value.none 0)) #[]),
  (nat_lit 169, Obj.mk (Value.type "tuple") none (Data.seq #[]) #[]),
  (nat_lit 171, Obj.mk (Value.type "tuple") none (Data.seq #[Value.str (Str.ofString "asks") (nat_lit 413), Value.str (Str.ofString "hours") (nat_lit 414), Value.str (Str.ofString "head") (nat_lit 415), Value.str (Str.ofString "pile") (nat_lit 416), Value.str (Str.ofString "depths") (nat_lit 417), Value.str (Str.ofString "shown") (nat_lit 418), Value.str (Str.ofString "sizes") (nat_lit 419), Value.str (Str.ofString "signs") (nat_lit 420), Value.str (Str.ofString "hour") (nat_lit 421), Value.str (Str.ofString "sign") (nat_lit 422), Value.str (Str.ofString "at") (nat_lit 423), Value.str (Str.ofString "above") (nat_lit 424), Value.str (Str.ofString "place") (nat_lit 425), Value.str (Str.ofString "blanks") (nat_lit 426), Value.str (Str.ofString "part") (nat_lit 427)]) #[]),
  (nat_lit 172, Obj.mk (Value.type "tuple") none (Data.seq #[]) #[]),
  (nat_lit 174, Obj.mk (Value.type "code") none (Data.fields #[Value.str (Str.ofString "_law_piled") (nat_lit 410), Value.str (Str.ofString "_law_piled") (nat_lit 411), Value.str (Str.ofString "/claim/cut.py") (nat_lit 412), Value.int 148 (nat_lit 0), Value.int 3 (nat_lit 0), Value.int 0 (nat_lit 0), Value.int 0 (nat_lit 0), Value.int 3 (nat_lit 0), Value.ref (nat_lit 169), Value.bool true, Value.int 181 (nat_lit 0), Value.ref (nat_lit 170), Value.none, Value.ref (nat_lit 171), Value.ref (nat_lit 172), Value.ref (nat_lit 173), Value.int 428 (nat_lit 0), Value.int 148 (nat_lit 0), Value.str (Str.ofString "/claim/cut.py") (nat_lit 429)]) #[]),
  (nat_lit 175, Obj.mk (Value.type "function") none (Data.func (FuncData.mk (Str.ofString "_law_piled") (Str.ofString "_law_piled") D175.1.1 (FuncBody.stmts D175.1.2.1) D175.1.2.2 3 [] Value.none Value.none Value.none (Value.str (Str.ofString "law_rs0127_01") (nat_lit 392)) none (Value.ref (nat_lit 174)) Value.none 0)) #[]),
  (nat_lit 176, Obj.mk (Value.type "tuple") none (Data.seq #[]) #[]),
  (nat_lit 179, Obj.mk (Value.type "code") none (Data.fields #[Value.str (Str.ofString "_law_best") (nat_lit 431), Value.str (Str.ofString "_law_best") (nat_lit 432), Value.str (Str.ofString "/claim/cut.py") (nat_lit 433), Value.int 172 (nat_lit 0), Value.int 2 (nat_lit 0), Value.int 0 (nat_lit 0), Value.int 0 (nat_lit 0), Value.int 3 (nat_lit 0), Value.ref (nat_lit 176), Value.bool true, Value.int 181 (nat_lit 0), Value.ref (nat_lit 177), Value.none, Value.none, Value.none, Value.ref (nat_lit 178), Value.int 434 (nat_lit 0), Value.int 172 (nat_lit 0), Value.str (Str.ofString "/claim/cut.py") (nat_lit 435)]) #[]),
  (nat_lit 180, Obj.mk (Value.type "function") none (Data.func (FuncData.mk (Str.ofString "_law_best") (Str.ofString "_law_best") D180.1.1 (FuncBody.stmts D180.1.2.1) D180.1.2.2 3 [] Value.none Value.none Value.none (Value.str (Str.ofString "law_rs0127_01") (nat_lit 392)) none (Value.ref (nat_lit 179)) Value.none 0)) #[]),
  (nat_lit 181, Obj.mk (Value.type "tuple") none (Data.seq #[]) #[]),
  (nat_lit 183, Obj.mk (Value.type "tuple") none (Data.seq #[Value.str (Str.ofString "asks") (nat_lit 440), Value.str (Str.ofString "places") (nat_lit 441), Value.str (Str.ofString "ends") (nat_lit 442), Value.str (Str.ofString "last") (nat_lit 443), Value.str (Str.ofString "told") (nat_lit 444), Value.str (Str.ofString "hour") (nat_lit 445), Value.str (Str.ofString "sign") (nat_lit 446), Value.str (Str.ofString "begun") (nat_lit 447), Value.str (Str.ofString "at") (nat_lit 448)]) #[]),
  (nat_lit 184, Obj.mk (Value.type "tuple") none (Data.seq #[]) #[]),
  (nat_lit 186, Obj.mk (Value.type "code") none (Data.fields #[Value.str (Str.ofString "_law_rows") (nat_lit 437), Value.str (Str.ofString "_law_rows") (nat_lit 438), Value.str (Str.ofString "/claim/cut.py") (nat_lit 439), Value.int 192 (nat_lit 0), Value.int 2 (nat_lit 0), Value.int 0 (nat_lit 0), Value.int 0 (nat_lit 0), Value.int 3 (nat_lit 0), Value.ref (nat_lit 181), Value.bool true, Value.int 181 (nat_lit 0), Value.ref (nat_lit 182), Value.none, Value.ref (nat_lit 183), Value.ref (nat_lit 184), Value.ref (nat_lit 185), Value.int 449 (nat_lit 0), Value.int 192 (nat_lit 0), Value.str (Str.ofString "/claim/cut.py") (nat_lit 450)]) #[]),
  (nat_lit 187, Obj.mk (Value.type "function") none (Data.func (FuncData.mk (Str.ofString "_law_rows") (Str.ofString "_law_rows") D187.1.1 (FuncBody.stmts D187.1.2.1) D187.1.2.2 3 [] Value.none Value.none Value.none (Value.str (Str.ofString "law_rs0127_01") (nat_lit 392)) none (Value.ref (nat_lit 186)) Value.none 0)) #[]),
  (nat_lit 188, Obj.mk (Value.type "tuple") none (Data.seq #[]) #[]),
  (nat_lit 191, Obj.mk (Value.type "code") none (Data.fields #[Value.str (Str.ofString "_law_held") (nat_lit 452), Value.str (Str.ofString "_law_held") (nat_lit 453), Value.str (Str.ofString "/claim/cut.py") (nat_lit 454), Value.int 210 (nat_lit 0), Value.int 3 (nat_lit 0), Value.int 0 (nat_lit 0), Value.int 0 (nat_lit 0), Value.int 3 (nat_lit 0), Value.ref (nat_lit 188), Value.bool true, Value.int 181 (nat_lit 0), Value.ref (nat_lit 189), Value.none, Value.none, Value.none, Value.ref (nat_lit 190), Value.int 455 (nat_lit 0), Value.int 210 (nat_lit 0), Value.str (Str.ofString "/claim/cut.py") (nat_lit 456)]) #[]),
  (nat_lit 192, Obj.mk (Value.type "function") none (Data.func (FuncData.mk (Str.ofString "_law_held") (Str.ofString "_law_held") D192.1.1 (FuncBody.stmts D192.1.2.1) D192.1.2.2 3 [] Value.none Value.none Value.none (Value.str (Str.ofString "law_rs0127_01") (nat_lit 392)) none (Value.ref (nat_lit 191)) Value.none 0)) #[]),
  (nat_lit 193, Obj.mk (Value.type "tuple") none (Data.seq #[]) #[]),
  (nat_lit 196, Obj.mk (Value.type "code") none (Data.fields #[Value.str (Str.ofString "_law_summed") (nat_lit 458), Value.str (Str.ofString "_law_summed") (nat_lit 459), Value.str (Str.ofString "/claim/cut.py") (nat_lit 460), Value.int 220 (nat_lit 0), Value.int 2 (nat_lit 0), Value.int 0 (nat_lit 0), Value.int 0 (nat_lit 0), Value.int 3 (nat_lit 0), Value.ref (nat_lit 193), Value.bool true, Value.int 181 (nat_lit 0), Value.ref (nat_lit 194), Value.none, Value.none, Value.none, Value.ref (nat_lit 195), Value.int 461 (nat_lit 0), Value.int 220 (nat_lit 0), Value.str (Str.ofString "/claim/cut.py") (nat_lit 462)]) #[]),
  (nat_lit 197, Obj.mk (Value.type "function") none (Data.func (FuncData.mk (Str.ofString "_law_summed") (Str.ofString "_law_summed") D197.1.1 (FuncBody.stmts D197.1.2.1) D197.1.2.2 3 [] Value.none Value.none Value.none (Value.str (Str.ofString "law_rs0127_01") (nat_lit 392)) none (Value.ref (nat_lit 196)) Value.none 0)) #[]),
  (nat_lit 198, Obj.mk (Value.type "tuple") none (Data.seq #[]) #[]),
  (nat_lit 201, Obj.mk (Value.type "code") none (Data.fields #[Value.str (Str.ofString "law") (nat_lit 464), Value.str (Str.ofString "law") (nat_lit 465), Value.str (Str.ofString "/claim/cut.py") (nat_lit 466), Value.int 224 (nat_lit 0), Value.int 1 (nat_lit 0), Value.int 0 (nat_lit 0), Value.int 0 (nat_lit 0), Value.int 3 (nat_lit 0), Value.ref (nat_lit 198), Value.bool true, Value.int 181 (nat_lit 0), Value.ref (nat_lit 199), Value.none, Value.none, Value.none, Value.ref (nat_lit 200), Value.int 467 (nat_lit 0), Value.int 224 (nat_lit 0), Value.str (Str.ofString "/claim/cut.py") (nat_lit 468)]) #[]),
  (nat_lit 202, Obj.mk (Value.type "function") none (Data.func (FuncData.mk (Str.ofString "law") (Str.ofString "law") D202.1.1 (FuncBody.stmts D202.1.2.1) D202.1.2.2 3 [] Value.none Value.none Value.none (Value.str (Str.ofString "law_rs0127_01") (nat_lit 392)) none (Value.ref (nat_lit 201)) Value.none 0)) #[])]
end
section
open PySem PySem.W PyProof.Rows PySem.Spec PySem.Calls
inductive Sh where
  | list (xs : List Value)
  | tup (xs : List Value)
  | dict (kvs : List (Str × Value))
  | cell (v : Option Value)
  | flds (c : String) (vs : List Value)
  | raw (o : Obj)

noncomputable def isTab (b : Nat) : Bool := b == 63 || b == 70 || b == 121 || b == 128

noncomputable def Sh.Is (prog : Program) (w : World) (h : Heap) (a : Addr) : Sh → Prop
  | .list xs => ∃ n, h.get? a = some { cls := .type "list", data := .seq xs.toArray n }
  | .tup xs => ∃ n, h.get? a = some { cls := .type "tuple", data := .seq xs.toArray n }
  | .dict kvs => h.DictOf (PySem.strKind prog w) a kvs
  | .cell v => h.IsCell a v
  | .flds c vs => ∃ o, h.get? a = some o ∧ o.cls = .type c ∧ o.data = .fields vs.toArray
  | .raw o => h.get? a = some o

structure Cx (σ : Bool) (prog : Program) (w : World) (g : Heap) (L : Addr) (m : List (Str × Value)) (own : List (Addr × Sh)) (s₀ s : Shared) : Prop where
  ns : m = [] ∨ ∃ f, s.heap.Ns L f ∧ ∀ x v, (x, v) ∈ m → f x = some v
  keep : ∀ b o, (σ || !isTab b) = true → g.get? b = some o → s.heap.get? b = some o
  low : ∃ o, g.get? 202 = some o
  above : m = [] ∨ (g.get? L = none ∧ 203 ≤ L)
  its : ∀ p ∈ own, p.2.Is prog w s.heap p.1 ∧ (g.get? p.1 = none ∧ 203 ≤ p.1) ∧ (m = [] ∨ p.1 ≠ L)
  nd : (own.map (·.1)).Nodup
  uq : (m.map (·.1)).Nodup
  os : s.os = s₀.os
  drawn : s.drawn = s₀.drawn
  gens : if σ = true then s.gens = s₀.gens else (AllBare s₀.gens → AllBare s.gens)
  toks : s₀.toks ≤ s.toks

variable {σ : Bool} {prog : Program} {w : World} {g h h' : Heap} {L a : Addr} {m m' : List (Str × Value)} {own own' : List (Addr × Sh)} {s₀ s s' : Shared} {sh sh' : Sh}

theorem Sh.Is.at (x : sh.Is prog w h a) (k : ∀ o, h.get? a = some o → h'.get? a = some o) : sh.Is prog w h' a := by
  cases sh with
  | list xs => obtain ⟨n, ho⟩ := x; exact ⟨n, k _ ho⟩
  | tup xs => obtain ⟨n, ho⟩ := x; exact ⟨n, k _ ho⟩
  | dict kvs => obtain ⟨o, es, ep, ho, r⟩ := x; exact ⟨o, es, ep, k o ho, r⟩
  | cell v => obtain ⟨o, ho, r⟩ := x; exact ⟨o, k o ho, r⟩
  | flds c vs => obtain ⟨o, ho, r⟩ := x; exact ⟨o, k o ho, r⟩
  | raw o => exact k o x
theorem Sh.Is.has (x : sh.Is prog w h a) : ∃ o, h.get? a = some o := by
  cases sh with
  | list xs => obtain ⟨n, ho⟩ := x; exact ⟨_, ho⟩
  | tup xs => obtain ⟨n, ho⟩ := x; exact ⟨_, ho⟩
  | dict kvs => obtain ⟨o, _, _, ho, _⟩ := x; exact ⟨o, ho⟩
  | cell v => obtain ⟨o, ho, _⟩ := x; exact ⟨o, ho⟩
  | flds c vs => obtain ⟨o, ho, _⟩ := x; exact ⟨o, ho⟩
  | raw o => exact ⟨o, x⟩
theorem Sh.isL {xs : List Value} (x : Sh.Is prog w h a (.list xs)) : h.IsList a xs.toArray := let ⟨n, ho⟩ := x; ⟨_, ho, rfl, n, rfl⟩
theorem Sh.isP {xs : List Value} (x : Sh.Is prog w h a (.list xs)) : PlainL h a xs.toArray := let ⟨n, ho⟩ := x; ⟨_, n, ho, rfl, rfl, rfl⟩
theorem Sh.isT {xs : List Value} (x : Sh.Is prog w h a (.tup xs)) : h.IsTuple a xs.toArray := let ⟨n, ho⟩ := x; ⟨_, ho, rfl, n, rfl⟩
theorem Sh.Is.lt (x : sh.Is prog w h a) : a < h.objs.size := let ⟨_, ho⟩ := x.has; Heap.lt_size ho
theorem get_size (h : Heap) : h.get? h.objs.size = none := by
  cases q : h.get? h.objs.size with
  | none => rfl
  | some o => exact absurd (Heap.lt_size q) (Nat.lt_irrefl _)

theorem tab_lt {b : Nat} (h : isTab b = true) : b < 203 := by
  simp only [isTab, Bool.or_eq_true, beq_iff_eq] at h
  lia
theorem tab_ge {b : Nat} (h : 203 ≤ b) : isTab b = false := by
  cases q : isTab b with
  | false => rfl
  | true => exact absurd (tab_lt q) (by lia)

structure Gr (σ : Bool) (s s' : Shared) : Prop where
  keep : ∀ b o, (σ || !isTab b) = true → s.heap.get? b = some o → s'.heap.get? b = some o
  os : s'.os = s.os
  drawn : s'.drawn = s.drawn
  gens : if σ = true then s'.gens = s.gens else (AllBare s.gens → AllBare s'.gens)
  toks : s.toks ≤ s'.toks
theorem gens_refl {x : Array GenState} : if σ = true then x = x else (AllBare x → AllBare x) := by cases σ <;> simp
theorem gens_trans {x y z : Array GenState} (h : if σ = true then y = x else (AllBare x → AllBare y)) (k : if σ = true then z = y else (AllBare y → AllBare z)) : if σ = true then z = x else (AllBare x → AllBare z) := by
  cases σ with
  | true => simp only [if_true] at *; rw [k, h]
  | false => simp only [Bool.false_eq_true, if_false] at *; exact fun q => k (h q)
theorem off {b : Nat} (h : isTab b = false) : (σ || !isTab b) = true := by rw [h]; simp
theorem Gr.refl : Gr σ s s := ⟨fun _ _ _ e => e, rfl, rfl, gens_refl, Nat.le_refl _⟩
theorem Gr.trans {s'' : Shared} (x : Gr σ s s') (y : Gr σ s' s'') : Gr σ s s'' :=
  ⟨fun b o t e => y.keep b o t (x.keep b o t e), y.os.trans x.os, y.drawn.trans x.drawn, gens_trans x.gens y.gens, Nat.le_trans x.toks y.toks⟩
theorem Gr.push {o : Obj} {tk : Nat} (ht : s.toks ≤ tk) : Gr σ s { s with heap := s.heap.push o, toks := tk } :=
  ⟨fun _ _ _ e => Heap.get?_push_of_some _ e, rfl, rfl, gens_refl, ht⟩
theorem Gr.tok {tk : Nat} (ht : s.toks ≤ tk) : Gr σ s { s with toks := tk } := ⟨fun _ _ _ e => e, rfl, rfl, gens_refl, ht⟩
theorem Gr.heap {tk : Nat} (ht : s.toks ≤ tk) (k : ∀ b o, s.heap.get? b = some o → h'.get? b = some o) : Gr σ s { s with heap := h', toks := tk } := ⟨fun b o _ e => k b o e, rfl, rfl, gens_refl, ht⟩

theorem Cx.grown (C : Cx σ prog w g L m own s₀ s) (G : Gr σ s s') : Cx σ prog w g L m own s₀ s' := by
  refine ⟨?_, fun b o t e => G.keep b o t (C.keep b o t e), C.low, C.above, fun p hp => ?_, C.nd, C.uq, G.os.trans C.os, G.drawn.trans C.drawn, gens_trans C.gens G.gens, Nat.le_trans C.toks G.toks⟩
  · rcases C.ns with e | ⟨f, hf, hm⟩
    · exact .inl e
    · rcases C.above with e | ha
      · exact .inl e
      · obtain ⟨o, es, ep, ho, r⟩ := hf
        exact .inr ⟨f, ⟨o, es, ep, G.keep _ _ (off (tab_ge ha.2)) ho, r⟩, hm⟩
  · obtain ⟨h1, h2, h3⟩ := C.its p hp
    exact ⟨h1.at fun o e => G.keep _ _ (off (tab_ge h2.2)) e, h2, h3⟩
theorem Cx.tokens (C : Cx σ prog w g L m own s₀ s) {tk : Nat} (h : s.toks ≤ tk) : Cx σ prog w g L m own s₀ { s with toks := tk } := C.grown (.tok h)
theorem Cx.top (C : Cx σ prog w g L m own s₀ s) : 203 ≤ s.heap.objs.size := by
  obtain ⟨o, ho⟩ := C.low
  exact Heap.lt_size (C.keep 202 o (off rfl) ho)

theorem Cx.add (C : Cx σ prog w g L m own s₀ s) (G : Gr σ s s') (hs : sh.Is prog w s'.heap a) (hn : s.heap.get? a = none) (ht : 203 ≤ a) : Cx σ prog w g L m ((a, sh) :: own) s₀ s' := by
  have C' := C.grown G
  have hL : m = [] ∨ a ≠ L := by
    rcases C.ns with e | ⟨_, ⟨o, _, _, ho, _⟩, _⟩
    · exact .inl e
    · refine .inr ?_
      rintro rfl
      rw [hn] at ho; cases ho
  have hg : g.get? a = none := by
    cases q : g.get? a with
    | none => rfl
    | some o => rw [C.keep a o (off (tab_ge ht)) q] at hn; cases hn
  refine ⟨C'.ns, C'.keep, C'.low, C'.above, fun p hp => ?_, ?_, C'.uq, C'.os, C'.drawn, C'.gens, C'.toks⟩
  · rcases List.mem_cons.mp hp with rfl | hp
    · exact ⟨hs, ⟨hg, ht⟩, hL⟩
    · exact C'.its p hp
  · rw [List.map_cons]
    refine List.nodup_cons.mpr ⟨fun hm => ?_, C.nd⟩
    obtain ⟨p, hp, e⟩ := List.mem_map.mp hm
    obtain ⟨o, ho⟩ := (C.its p hp).1.has
    have e' : p.1 = a := e
    rw [e', hn] at ho
    cases ho
theorem Cx.push (C : Cx σ prog w g L m own s₀ s) {o : Obj} {tk : Nat} (ht : s.toks ≤ tk) (hs : sh.Is prog w (s.heap.push o) s.heap.objs.size) : Cx σ prog w g L m ((s.heap.objs.size, sh) :: own) s₀ { s with heap := s.heap.push o, toks := tk } :=
  C.add (s' := { s with heap := s.heap.push o, toks := tk }) (Gr.push ht) hs (get_size _) C.top

inductive Up (a : Addr) (sh sh' : Sh) : List (Addr × Sh) → List (Addr × Sh) → Prop where
  | head {r} : Up a sh sh' ((a, sh) :: r) ((a, sh') :: r)
  | tail {p r r'} : Up a sh sh' r r' → Up a sh sh' (p :: r) (p :: r')
theorem Up.mem (u : Up a sh sh' own own') : (a, sh) ∈ own := by
  induction u with
  | head => exact .head _
  | tail _ ih => exact .tail _ ih
theorem Up.keys (u : Up a sh sh' own own') : own'.map (·.1) = own.map (·.1) := by
  induction u with
  | head => rfl
  | tail _ ih => rw [List.map_cons, List.map_cons, ih]
theorem Up.or (u : Up a sh sh' own own') (nd : (own.map (·.1)).Nodup) : ∀ p ∈ own', p = (a, sh') ∨ (p ∈ own ∧ p.1 ≠ a) := by
  induction u with
  | head =>
    intro p hp
    rw [List.map_cons, List.nodup_cons] at nd
    rcases List.mem_cons.mp hp with rfl | hp
    · exact .inl rfl
    · refine .inr ⟨.tail _ hp, fun e => nd.1 ?_⟩
      exact e ▸ List.mem_map_of_mem (f := (·.1)) hp
  | @tail q r r' u ih =>
    intro p hp
    rw [List.map_cons, List.nodup_cons] at nd
    rcases List.mem_cons.mp hp with rfl | hp
    · refine .inr ⟨.head _, fun e => nd.1 ?_⟩
      show p.1 ∈ _
      rw [e]; exact List.mem_map_of_mem (f := (·.1)) u.mem
    · rcases ih nd.2 p hp with h | h
      · exact .inl h
      · exact .inr ⟨.tail _ h.1, h.2⟩
theorem Cx.next (C : Cx σ prog w g L m own s₀ s) (u : Up a sh sh' own own') {tk : Nat} (ht : s.toks ≤ tk) (hs : ∀ b o, b ≠ a → s.heap.get? b = some o → h'.get? b = some o) (hn : sh'.Is prog w h' a) :
    Cx σ prog w g L m own' s₀ { s with heap := h', toks := tk } := by
  obtain ⟨h1, h2, h3⟩ := C.its _ u.mem
  refine ⟨?_, fun b o t e => ?_, C.low, C.above, fun p hp => ?_, by rw [u.keys]; exact C.nd, C.uq, C.os, C.drawn, C.gens, Nat.le_trans C.toks ht⟩
  · rcases C.ns with e | ⟨f, ⟨o, es, ep, ho, r⟩, hm⟩
    · exact .inl e
    · rcases h3 with e | h3
      · exact .inl e
      · exact .inr ⟨f, ⟨o, es, ep, hs _ _ (Ne.symm h3) ho, r⟩, hm⟩
  · refine hs b o ?_ (C.keep b o t e)
    rintro rfl
    rw [show g.get? b = none from h2.1] at e; cases e
  · rcases u.or C.nd p hp with rfl | ⟨hp, hne⟩
    · exact ⟨hn, h2, h3⟩
    · obtain ⟨k1, k2, k3⟩ := C.its p hp
      exact ⟨k1.at fun o e => hs _ _ hne e, k2, k3⟩
theorem Cx.upd (C : Cx σ prog w g L m own s₀ s) (u : Up a sh sh' own own') {tk : Nat} (ht : s.toks ≤ tk) (hs : Heap.SameBut a s.heap h') (hn : sh'.Is prog w h' a) :
    Cx σ prog w g L m own' s₀ { s with heap := h', toks := tk } := C.next u ht (fun b o hb e => (hs.2 b hb).trans e) hn
theorem Cx.drop (C : Cx σ prog w g L m own s₀ s) (hs : own'.Sublist own) : Cx σ prog w g L m own' s₀ s :=
  ⟨C.ns, C.keep, C.low, C.above, fun p hp => C.its p (hs.subset hp), (hs.map _).nodup C.nd, C.uq, C.os, C.drawn, C.gens, C.toks⟩
theorem Cx.forget (C : Cx σ prog w g L m own s₀ s) (hs : m'.Sublist m) : Cx σ prog w g L m' own s₀ s := by
  have h0 : m = [] → m' = [] := fun e => by subst e; exact List.sublist_nil.mp hs
  refine ⟨?_, C.keep, C.low, C.above.imp h0 id, fun p hp => ⟨(C.its p hp).1, (C.its p hp).2.1, (C.its p hp).2.2.imp h0 id⟩, C.nd, (hs.map _).nodup C.uq, C.os, C.drawn, C.gens, C.toks⟩
  rcases C.ns with e | ⟨f, hf, hm⟩
  · exact .inl (h0 e)
  · exact .inr ⟨f, hf, fun x v hx => hm x v (hs.subset hx)⟩
theorem Cx.start (hl : ∃ o, s.heap.get? 202 = some o) : Cx σ prog w s.heap L [] [] s s :=
  ⟨.inl rfl, fun _ _ _ e => e, hl, .inl rfl, fun _ h => (nomatch h), List.nodup_nil, List.nodup_nil, rfl, rfl, gens_refl, Nat.le_refl _⟩
theorem Cx.keeps (C : Cx true prog w s₀.heap L m own s₀ s) : Keeps s₀ s := by
  refine ⟨s.heap, s.toks, ?_, fun b o e => C.keep b o rfl e⟩
  have h1 := C.os
  have h2 := C.drawn
  have h3 : s.gens = s₀.gens := by simpa using C.gens
  obtain ⟨a, b, c, d, e⟩ := s
  dsimp only at h1 h2 h3
  subst h1 h2 h3
  rfl
theorem Cx.gone (C : Cx σ prog w g L m ((a, sh) :: own) s₀ s) {tk : Nat} (ht : s.toks ≤ tk) (hs : ∀ b o, b ≠ a → s.heap.get? b = some o → h'.get? b = some o) : Cx σ prog w g L m own s₀ { s with heap := h', toks := tk } := by
  obtain ⟨h1, h2, h3⟩ := C.its _ List.mem_cons_self
  have nd := C.nd
  rw [List.map_cons, List.nodup_cons] at nd
  refine ⟨?_, fun b o t e => ?_, C.low, C.above, fun p hp => ?_, nd.2, C.uq, C.os, C.drawn, C.gens, Nat.le_trans C.toks ht⟩
  · rcases C.ns with e | ⟨f, ⟨o, es, ep, ho, r⟩, hm⟩
    · exact .inl e
    · rcases h3 with e | h3
      · exact .inl e
      · exact .inr ⟨f, ⟨o, es, ep, hs _ _ (Ne.symm h3) ho, r⟩, hm⟩
  · refine hs b o ?_ (C.keep b o t e)
    rintro rfl
    rw [show g.get? b = none from h2.1] at e; cases e
  · obtain ⟨k1, k2, k3⟩ := C.its p (List.mem_cons_of_mem _ hp)
    have hne : p.1 ≠ a := fun e => nd.1 (e ▸ List.mem_map_of_mem (f := (·.1)) hp)
    exact ⟨k1.at fun o e => hs _ _ hne e, k2, k3⟩
theorem Cx.fresh (C : Cx σ prog w g L m own s₀ s) (hm : (a, sh) ∈ own) : g.get? a = none ∧ 203 ≤ a := (C.its _ hm).2.1
theorem Cx.fr (C : Cx σ prog w g L m own s₀ s) (hm : ∃ sh, (a, sh) ∈ own) : 203 ≤ a := let ⟨_, h⟩ := hm; (C.fresh h).2
theorem Cx.raw (C : Cx σ prog w g L m own s₀ s) {o : Obj} (hm : (a, .raw o) ∈ own) : s.heap.get? a = some o := (C.its _ hm).1
theorem Cx.is (C : Cx σ prog w g L m own s₀ s) (hm : (a, sh) ∈ own) : sh.Is prog w s.heap a := (C.its _ hm).1

theorem Cx.old (C : Cx σ prog w g L m own s₀ s) (x : sh.Is prog w g a) (ht : σ = true ∨ 203 ≤ a) : sh.Is prog w s.heap a :=
  x.at fun o e => C.keep _ _ (by rcases ht with e | e; · rw [e]; rfl
                                 · exact off (tab_ge e)) e

inductive Put (x : Str) (v : Value) : List (Str × Value) → List (Str × Value) → Prop where
  | nil : Put x v [] [(x, v)]
  | head {u r} : Put x v ((x, u) :: r) ((x, v) :: r)
  | tail {y u r r'} : (y == x) = false → Put x v r r' → Put x v ((y, u) :: r) ((y, u) :: r')

theorem Put.keys {x : Str} {v : Value} (u : Put x v m m') : m'.map (·.1) = m.map (·.1) ∨ (m'.map (·.1) = m.map (·.1) ++ [x] ∧ x ∉ m.map (·.1)) := by
  induction u with
  | nil => exact .inr ⟨rfl, by simp⟩
  | head => exact .inl rfl
  | @tail y u r r' hp _ ih =>
    rcases ih with h | ⟨h, q⟩
    · exact .inl (by rw [List.map_cons, List.map_cons, h])
    · refine .inr ⟨by rw [List.map_cons, List.map_cons, h]; rfl, fun hm => ?_⟩
      rw [List.map_cons] at hm
      rcases List.mem_cons.mp hm with e | hm
      · rw [show x = y from e] at hp; simp at hp
      · exact q hm
theorem Put.uq {x : Str} {v : Value} (u : Put x v m m') (h : (m.map (·.1)).Nodup) : (m'.map (·.1)).Nodup := by
  rcases u.keys with e | ⟨e, q⟩
  · rw [e]; exact h
  · rw [e]; exact List.nodup_append.mpr ⟨h, by simp, by intro a ha b hb; rw [List.mem_singleton.mp hb]; exact fun e => q (e ▸ ha)⟩
theorem Put.or {x : Str} {v : Value} (u : Put x v m m') (h : (m.map (·.1)).Nodup) : ∀ p ∈ m', p = (x, v) ∨ (p ∈ m ∧ p.1 ≠ x) := by
  induction u with
  | nil => intro p hp; exact .inl (List.mem_singleton.mp hp)
  | @head u r =>
    intro p hp
    rw [List.map_cons, List.nodup_cons] at h
    rcases List.mem_cons.mp hp with rfl | hp
    · exact .inl rfl
    · exact .inr ⟨.tail _ hp, fun e => h.1 (e ▸ List.mem_map_of_mem (f := (·.1)) hp)⟩
  | @tail y u r r' hp' _ ih =>
    intro p hp
    rw [List.map_cons, List.nodup_cons] at h
    rcases List.mem_cons.mp hp with rfl | hp
    · exact .inr ⟨.head _, by simpa using hp'⟩
    · rcases ih h.2 p hp with e | e
      · exact .inl e
      · exact .inr ⟨.tail _ e.1, e.2⟩

section
variable {A : Around} {E : Value → Shared → Prop} {M : Model} {env : Env} {x : Str} {v : Value}

theorem ldL {Q : Value → Shared → Prop} (C : Cx σ prog w g L m own s₀ s) (hv : (x, v) ∈ m) (h : Q v s) (hL : env.locals = L := by with_unfolding_all rfl) (hk : env.scope.kind = .function := by with_unfolding_all rfl) (hl : env.kindOf x = some .local := by with_unfolding_all rfl) :
    wpAny M A (loadName env x) Q E s := by
  subst hL
  rcases C.ns with e | ⟨f, hf, hm⟩
  · subst e; cases hv
  · exact wpAny_loadName_local hk hl hf (hm x v hv) h
theorem ldB {pos : Pos} {Q : Value → Shared → Prop} {f : Str → Option Value} (C : Cx σ prog w g L m own s₀ s) (hn : g.Ns env.locals f) (ht : σ = true) (hv : f x = some v) (h : Q v s) (hk : env.scope.kind = .function := by with_unfolding_all rfl) (hl : env.kindOf x = some .local := by with_unfolding_all rfl)
    (hd : (x == ("__debug__" : Str)) = false := by decide +kernel) : wpAny M A (eval (.Name x pos) env) Q E s := by
  obtain ⟨o, es, ep, ho, r⟩ := hn
  exact wpAny_Name (wpAny_loadName_local hk hl ⟨o, es, ep, C.keep _ _ (by rw [ht]; rfl) ho, r⟩ hv h) hd
theorem ld {pos : Pos} {Q : Value → Shared → Prop} (C : Cx σ prog w g L m own s₀ s) (hv : (x, v) ∈ m) (h : Q v s) (hL : env.locals = L := by with_unfolding_all rfl) (hk : env.scope.kind = .function := by with_unfolding_all rfl) (hl : env.kindOf x = some .local := by with_unfolding_all rfl)
    (hd : (x == ("__debug__" : Str)) = false := by decide +kernel) : wpAny M A (eval (.Name x pos) env) Q E s := wpAny_Name (ldL C hv h hL hk hl) hd

theorem Cx.stored (C : Cx σ prog w g L m own s₀ s) (h0 : m ≠ []) {f : Str → Option Value} (hf : h'.Ns L (fun y => if y = x then some v else f y)) (hs : Heap.SameBut L s.heap h') (u : Put x v m m') (hm : ∀ y u, (y, u) ∈ m → f y = some u) {tk : Nat} (ht : s.toks ≤ tk) :
    Cx σ prog w g L m' own s₀ { s with heap := h', toks := tk } := by
  have ha : g.get? L = none ∧ 203 ≤ L := C.above.resolve_left h0
  refine ⟨.inr ⟨_, hf, fun y z hy => ?_⟩, fun b o t e => ?_, C.low, .inr ha, fun p hp => ?_, C.nd, u.uq C.uq, C.os, C.drawn, C.gens, Nat.le_trans C.toks ht⟩
  · rcases u.or C.uq _ hy with e | ⟨hy, hne⟩
    · cases e; simp
    · have hne' : y ≠ x := hne
      simp only [if_neg hne']
      exact hm y _ hy
  · refine (hs.2 b ?_).trans (C.keep b o t e)
    rintro rfl
    rw [ha.1] at e; cases e
  · obtain ⟨k1, k2, k3⟩ := C.its p hp
    have k3' := k3.resolve_left h0
    exact ⟨k1.at fun o e => (hs.2 _ k3').trans e, k2, .inr k3'⟩
theorem st {Q : Unit → Shared → Prop} (C : Cx σ prog w g L m own s₀ s) (u : Put x v m m') (h : ∀ s', Cx σ prog w g L m' own s₀ s' → Q () s')
    (h0 : m ≠ [] := by exact List.cons_ne_nil _ _) (hL : env.locals = L := by with_unfolding_all rfl) (hl : env.kindOf x = some .local := by with_unfolding_all rfl) (hp : (env.scope.kind == .class || (env.scope.kind == .module && env.locals != env.globals)) = false := by with_unfolding_all rfl) : wpAny M A (storeName env x v) Q E s := by
  subst hL
  obtain ⟨f, hf, hm⟩ := C.ns.resolve_left h0
  exact wpAny_storeName_local hl hf (fun h' hn hs => h _ (C.stored h0 hn hs u hm (Nat.le_succ _))) hp
end
end
section
open PySem PySem.W PyProof.Rows PySem.Spec PySem.Calls
noncomputable abbrev KK : Params → Frag := K0

theorem kk_tab {P : Params} {b : Nat} (h : isTab b = true) : (KK P).lookup b = none := by
  simp only [isTab, Bool.or_eq_true, beq_iff_eq] at h
  rcases h with ((h | h) | h) | h <;> subst h <;> kernel_rfl!

structure Bs (w : World) (g : Heap) : Prop where
  k : (KK w.params).In g
  gl : ∃ mg, g.Ns mainGlobals mg
  bl : ∃ mb, g.Ns builtinsNs mb ∧ ∀ x : Str, x ≠ "__name__" → mb x = bootBuiltins x
  lim : g.NoLimit

variable {σ : Bool} {prog : Program} {w : World} {g h h' : Heap} {L a : Addr} {m m' : List (Str × Value)} {own own' : List (Addr × Sh)} {s₀ s s' : Shared} {sh sh' : Sh}

theorem ns_keep {h h' : Heap} {b : Nat} {f : Str → Option Value} (x : h.Ns b f) (ht : isTab b = false) (k : ∀ b o, (σ || !isTab b) = true → h.get? b = some o → h'.get? b = some o) : h'.Ns b f :=
  let ⟨o, es, ep, ho, r⟩ := x; ⟨o, es, ep, k _ _ (off ht) ho, r⟩
theorem kk_202 {P : Params} : ∃ o, (KK P).lookup 202 = some o := ⟨_, rfl⟩
theorem Bs.low (B : Bs w h) : ∃ o, h.get? 202 = some o := let ⟨o, e⟩ := kk_202; ⟨o, B.k _ _ e⟩
theorem Bs.keeps (B : Bs w h) (k : ∀ b o, (σ || !isTab b) = true → h.get? b = some o → h'.get? b = some o) : Bs w h' := by
  refine ⟨fun a o e => k a o (off ?_) (B.k a o e), ?_, ?_, ?_⟩
  · cases q : isTab a with
    | false => rfl
    | true => rw [kk_tab q] at e; cases e
  · obtain ⟨mg, x⟩ := B.gl; exact ⟨mg, ns_keep x rfl k⟩
  · obtain ⟨mb, x, y⟩ := B.bl; exact ⟨mb, ns_keep x rfl k, y⟩
  · obtain ⟨mc, x, y⟩ := B.lim; exact ⟨mc, ns_keep x rfl k, y⟩
theorem Cx.bs (C : Cx σ prog w g L m own s₀ s) (B : Bs w g) : Bs w s.heap := B.keeps C.keep
theorem Gr.bs (G : Gr σ s s') (B : Bs w s.heap) : Bs w s'.heap := B.keeps G.keep
theorem Cx.out (C : Cx σ prog w s₀.heap L m own s₀ s) : Gr σ s₀ s := ⟨C.keep, C.os, C.drawn, C.gens, C.toks⟩

section
variable {A : Around} {E : Value → Shared → Prop} {M : Model} {env : Env} {x : Str} {v : Value}

theorem enter {Q : Value → Shared → Prop} {name qual : Str} {params : Arguments} {body : List Stmt} {scope : Scope} {dV kV doc pm cdv ct oc : Value} {an od : Option Addr} {osl : Array (Option Value)} {f : Addr} {args : List Value} {binds : List (Str × Value)}
    (B : Bs w s.heap) (hroom : A.depth < recursionLimit)
    (ho : (KK w.params).lookup f = some ⟨oc, od, .func (fnOf name qual params body scope dV kV doc pm an cdv ct), osl⟩) (hcd : codeIn (KK w.params) cdv qual = true)
    (hbind : BindsTo s (fnOf name qual params body scope dV kV doc pm an cdv ct) ⟨args, []⟩ binds)
    (hloc : (binds.all fun y => decide (scope.names.lookup y.1 = some .local)) = true) (hu : (binds.map (·.1)).Nodup)
    (hcell : ∀ x ∈ scope.names, x.2 ≠ .cell) (hco : scope.isCoroutine = false) (hgen : scope.isGenerator = false) (hk : scope.kind = .function)
    (h : ∀ L s', Cx σ prog w s.heap L binds [] s s' →
      wpAny (model prog w) (A.deeper (envOf qual scope L f cdv)) (execs body (envOf qual scope L f cdv)) (fun fl s' => Q (match fl with | .ret v => v | _ => .none) s') (fun _ _ => False) s') :
    wpAny (model prog w) A (call (.ref f) args) Q E s := by
  refine wpAny_call ?_
  refine codeAny_call_function hroom (B.k _ _ ho) rfl hco hgen rfl (codeRec_of B.k hcd) ?_
  refine hbind _ _ _ _ ?_
  have hl : ∀ y ∈ binds, scope.names.lookup y.1 = some .local := fun y hy => of_decide_eq_true (List.all_eq_true.mp hloc y hy)
  refine wpAny_newFunctionEnv hcell hl (fun h₁ hns hsb => ⟨B.lim.fresh _ hsb, ?_⟩) hk
  have C : Cx σ prog w s.heap s.heap.objs.size binds [] s { s with heap := h₁, toks := s.toks + binds.length } := by
    refine ⟨.inr ⟨_, hns, fun y v hy => ?_⟩, fun b o t e => hsb.extBut b o (Nat.ne_of_lt (Heap.lt_size e)) (Heap.get?_push_of_some _ e), B.low, .inr ⟨get_size _, (let ⟨_, e⟩ := B.low; Heap.lt_size e)⟩, fun p hp => (nomatch hp), List.nodup_nil, hu, rfl, rfl, gens_refl, Nat.le_add_right ..⟩
    · have hr : ((binds.reverse).map (·.1)).Nodup := by rw [List.map_reverse]; exact (List.reverse_perm _).nodup_iff.mpr hu
      have hy' := List.mem_reverse.mpr hy
      clear hy hns
      generalize binds.reverse = l at hr hy'
      induction l with
      | nil => cases hy'
      | cons p r ih =>
        rw [List.map_cons, List.nodup_cons] at hr
        rcases List.mem_cons.mp hy' with rfl | hm
        · simp [List.lookup]
        · have hne : (y == p.1) = false := by
            rw [beq_eq_false_iff_ne]
            intro e
            exact hr.1 (e ▸ List.mem_map_of_mem (f := (·.1)) hm)
          simp only [List.lookup, hne]
          exact ih hr.2 hm
  refine codeAny_func (wpAny_mono (h _ _ C) (fun fl s' hq => ?_) fun _ _ hf => hf.elim)
  exact hq

theorem gl {pos : Pos} {Q : Value → Shared → Prop} (B : Bs w g) (C : Cx σ prog w g L m own s₀ s) (e : nsIn (KK w.params) mainGlobals x = some (some v)) (h : Q v s)
    (hg : env.globals = mainGlobals := by with_unfolding_all rfl) (hk : env.scope.kind = .function := by with_unfolding_all rfl) (hx : env.kindOf x = some .globalImplicit := by with_unfolding_all rfl) (hd : (x == ("__debug__" : Str)) = false := by decide +kernel) :
    wpAny M A (eval (.Name x pos) env) Q E s := by
  have B' := C.bs B
  obtain ⟨mg, G⟩ := B'.gl
  exact Name_function_global hk hx (loadGlobal_global (hg ▸ G) (mg_of B'.k G e) h) hd
theorem bl {pos : Pos} {Q : Value → Shared → Prop} (B : Bs w g) (C : Cx σ prog w g L m own s₀ s) (e : nsIn (KK w.params) mainGlobals x = some none) (hv : bootBuiltins x = some v) (h : Q v s)
    (hg : env.globals = mainGlobals := by with_unfolding_all rfl) (hbn : env.builtins = builtinsNs := by with_unfolding_all rfl) (hk : env.scope.kind = .function := by with_unfolding_all rfl) (hx : env.kindOf x = some .globalImplicit := by with_unfolding_all rfl)
    (hn : x ≠ "__name__" := by decide +kernel) (hd : (x == ("__debug__" : Str)) = false := by decide +kernel) :
    wpAny M A (eval (.Name x pos) env) Q E s := by
  have B' := C.bs B
  obtain ⟨mg, G⟩ := B'.gl
  obtain ⟨mb, N, hb⟩ := B'.bl
  exact Name_function_global hk hx (loadGlobal_builtin (hg ▸ G) (mg_none_of B'.k G e) (hbn ▸ N) ((hb x hn).trans hv) h) hd

noncomputable def Loop (prog : Program) (w : World) (A : Around) (target : Expr) (it : Value) (body : List Stmt) (env : Env) (Q : Flow → Shared → Prop) (E : Value → Shared → Prop) (s : Shared) : Prop :=
  codeAny (model prog w) A (.forLoop target it body [] env) (fun r s' => match r with | .ok f => Q f s' | .error e => cameBackBy (model prog w) A env E e s') s
theorem sFor {target iter : Expr} {body : List Stmt} {pos : Pos} {Q : Flow → Shared → Prop}
    (h : wpAny (model prog w) A (eval iter env) (fun x s₁ => wpAny (model prog w) A (pyIter x) (fun it s₂ => Loop prog w A target it body env Q E s₂) E s₁) E s)
    (hs : ∀ x, foldedSetIterable iter env x = pure x := by intro _; with_unfolding_all rfl) : wpAny (model prog w) A (exec (.For target iter body [] pos) env) Q E s := wpAny_For h hs
theorem for_walk {I : Addr} {fp wr : List Addr} {n : Nat} {P : Nat → Value → Prop} {St : Nat → Heap → Prop} {target : Expr} {body : List Stmt} {Q : Flow → Shared → Prop}
    (W : Walks prog w A I fp wr n P St) (J J' : Nat → Shared → Prop) (hS : ∀ i s, J i s → St i s.heap) (h0 : J 0 s)
    (next : ∀ i s h' tk, i < n → J i s → s.toks ≤ tk → St (i + 1) h' → (∀ b o, b ∉ wr → s.heap.get? b = some o → h'.get? b = some o) → J' i { s with heap := h', toks := tk })
    (turn : ∀ i v s, i < n → P i v → J' i s → wpAny (model prog w) A (letOwnedTupleGo target (.ref I) v) (fun _ s₁ => wpAny (model prog w) A (assign target env v) (fun _ s₂ => wpAny (model prog w) A (execs body env) (fun f s₃ => match f with
        | .next | .cont => J (i + 1) s₃
        | .brk => Q .next s₃
        | .ret v => Q (.ret v) s₃) (fun _ _ => False) s₂) (fun _ _ => False) s₁) (fun _ _ => False) s)
    (done : ∀ s h' tk, J n s → s.toks ≤ tk → (∀ b o, b ∉ wr → s.heap.get? b = some o → h'.get? b = some o) → Q .next { s with heap := h', toks := tk }) :
    Loop prog w A target (.ref I) body env Q E s := by
  refine codeAny_forLoop_any (fun k s => ∃ i, i + k = n ∧ J i s) (fun k s ⟨i, hi, hJ⟩ => ?_) n ⟨0, by lia, h0⟩
  by_cases hin : i < n
  · refine wpAny_with_toks (Nat.le_refl _) (W.item i s _ _ hin (hS i s hJ) fun v h' tk hP hS' hkeep ht => ?_)
    refine wpAny_mono (turn i v _ hin hP (next i s h' tk hin hJ ht hS' hkeep)) (fun _ s₁ q => wpAny_mono q (fun _ s₂ q => wpAny_mono q (fun f s₃ q => ?_) (fun _ _ e => e.elim)) (fun _ _ e => e.elim)) (fun _ _ e => e.elim)
    cases f with
    | next => exact ⟨k - 1, by lia, i + 1, by lia, q⟩
    | cont => exact ⟨k - 1, by lia, i + 1, by lia, q⟩
    | brk => exact q
    | ret v => exact q
  · have hin' : i = n := by lia
    subst hin'
    refine wpAny_with_toks (Nat.le_refl _) (W.done s _ _ (hS i s hJ) fun h' tk hkeep ht => ?_)
    exact wpAny_execs_nil (done s h' tk hJ ht hkeep)
end
theorem cps0 {α : Type} {M : Model} {A : Around} {t : Sem α} {P : α → Shared → Prop} {E : Value → Shared → Prop} (h : ∀ K : α → Shared → Prop, (∀ fl z, P fl z → K fl z) → wpAny M A t K E s) : wpAny M A t P E s := h P fun _ _ q => q
theorem cps1 {α β : Type} {M : Model} {A : Around} {t : Sem α} {u : Sem β} {P : β → Shared → Prop} {E E' : Value → Shared → Prop} (h : ∀ K : β → Shared → Prop, (∀ fl z, P fl z → K fl z) → wpAny M A t (fun _ s₂ => wpAny M A u K E' s₂) E s) :
    wpAny M A t (fun _ s₂ => wpAny M A u P E' s₂) E s := h P fun _ _ q => q
theorem cps2 {α β γ : Type} {M : Model} {A : Around} {t : Sem α} {u : Sem β} {v : Sem γ} {P : γ → Shared → Prop} {E E' E'' : Value → Shared → Prop} (h : ∀ K : γ → Shared → Prop, (∀ fl z, P fl z → K fl z) → wpAny M A t (fun _ s₁ => wpAny M A u (fun _ s₂ => wpAny M A v K E'' s₂) E' s₁) E s) :
    wpAny M A t (fun _ s₁ => wpAny M A u (fun _ s₂ => wpAny M A v P E'' s₂) E' s₁) E s := h P fun _ _ q => q
end
section
open PySem PySem.W PyProof.Rows PySem.Spec PySem.Calls
variable {σ : Bool} {prog : Program} {w : World} {g h h' : Heap} {L a : Addr} {m m' : List (Str × Value)} {own own' : List (Addr × Sh)} {s₀ s s' : Shared} {sh sh' : Sh}
section
variable {A : Around} {E : Value → Shared → Prop} {M : Model} {env : Env} {x : Str} {v : Value}

theorem aName {y : Str} {pos' pos : Pos} {value : Expr} {Q : Flow → Shared → Prop} (h : wpAny M A (eval value env) (fun v s₁ => wpAny M A (storeName env y v) (fun _ => Q .next) E s₁) E s)
    (hs : swapsWith value (some (.Name y pos')) pos.line env = pure false := by with_unfolding_all rfl) : wpAny M A (exec (.Assign [.Name y pos'] value pos) env) Q E s := wpAny_Assign_Name h hs
theorem sm {e : Expr} {rest : List Expr} {pos : Pos} {Q : List Value → Shared → Prop}
    (h : wpAny M A (eval e env) (fun v s₁ => wpAny M A (spliced (backTo pos (starEach rest env))) (fun vs s₂ => Q (v :: vs) s₂) E s₁) E s)
    (he : starEach (e :: rest) env = (false, eval e env) :: starEach rest env := by with_unfolding_all rfl) : wpAny M A (spliced (backTo pos (starEach (e :: rest) env))) Q E s := spliced_more h he
theorem kis {k : Str} {t : Tok} : (PySem.strKind prog w).is k (.str k t) = true := by simp [PySem.strKind, Value.isStrOf]
theorem cInt {i : Int} {k : Nat} {pos : Pos} {Q : Value → Shared → Prop} (C : Cx σ prog w g L m own s₀ s) (h : ∀ t s', Cx σ prog w g L m own s₀ s' → Q (.int i t) s') : wpAny M A (eval (.Constant (.int i) k pos) env) Q E s :=
  wpAny_Constant_int (h _ _ (C.tokens (Nat.le_succ _)))
theorem cStr {i : Str} {k : Nat} {pos : Pos} {Q : Value → Shared → Prop} (C : Cx σ prog w g L m own s₀ s) (h : ∀ t s', Cx σ prog w g L m own s₀ s' → Q (.str i t) s') : wpAny M A (eval (.Constant (.str i) k pos) env) Q E s :=
  Constant_str (h _ _ (C.tokens (Nat.le_succ _)))

theorem eList {elts : List Expr} {pos : Pos} {Q : Value → Shared → Prop}
    (h : wpAny M A (spliced (backTo pos (starEach elts env))) (fun vs s₁ => ∃ m own, Cx σ prog w g L m own s₀ s₁ ∧ Nat.ble vs.length 16777216 = true ∧ ∀ a s', Cx σ prog w g L m ((a, .list vs) :: own) s₀ s' → Q (.ref a) s') E s) : wpAny M A (eval (.List elts pos) env) Q E s :=
  wpAny_List (wpAny_mono h (fun _ s₁ ⟨_, _, C, hs, hq⟩ => ⟨Nat.le_of_ble_eq_true hs, hq _ _ (C.push (tk := s₁.toks) (Nat.le_refl _) ⟨0, Heap.get?_push_size _ rfl⟩)⟩) fun _ _ e => e)
theorem eTup {elts : List Expr} {k : Nat} {pos : Pos} {Q : Value → Shared → Prop}
    (h : wpAny M A (spliced (backTo pos (starEach elts env))) (fun vs s₁ => ∃ m own, Cx σ prog w g L m own s₀ s₁ ∧ Nat.ble vs.length 16777216 = true ∧ ∀ a s', Cx σ prog w g L m ((a, .tup vs) :: own) s₀ s' → Q (.ref a) s') E s) : wpAny M A (eval (.Tuple elts k pos) env) Q E s :=
  wpAny_Tuple (wpAny_mono h (fun _ s₁ ⟨_, _, C, hs, hq⟩ => ⟨Nat.le_of_ble_eq_true hs, hq _ _ (C.push (tk := s₁.toks) (Nat.le_refl _) ⟨0, Heap.get?_push_size _ rfl⟩)⟩) fun _ _ e => e)

theorem foldl_app (l : List (Array Value)) (acc : Array Value) : (l.foldl (fun x1 x2 => x1 ++ x2) acc) = acc ++ (l.map Array.toList).flatten.toArray := by
  induction l generalizing acc with
  | nil => simp
  | cons y r ih =>
    rw [List.foldl_cons, ih]
    apply Array.ext'
    simp
theorem mulList {l : Addr} {y : Value} {x : Int} {u : Tok} {Q : Value → Shared → Prop} (C : Cx σ prog w g L m own s₀ s) (hl : (l, .list [y]) ∈ own) (hlo : 0 ≤ x) (hhi : x ≤ 256)
    (h : ∀ a s', Cx σ prog w g L m ((a, .list (List.replicate x.toNat y)) :: own) s₀ s' → Q (.ref a) s') : wpAny (model prog w) A (binaryOp .Mult (.ref l) (.int x u)) Q E s := by
  obtain ⟨k, ho⟩ := C.is hl
  refine wpAny_binaryOp_repeat_ref (T := "list") (U := "int") (by decide) ⟨_, ho, rfl⟩ (fun s' => typeIs_int s' x u) noFill_list_mul F.fills_int_mul F.slot_int_rmul repeat_list F.slot_int_index.lookup
    (call_meets F.slot_int_rmul (typeIs_int s x u) F.entry_int_rmul (F.args_int_rmul_2 _ _) (lm_int_rmul_list_any x u l #[y] k none #[])
      ⟨ho, rfl, ⟨_, ho, rfl⟩, call_meets F.slot_list_mul ⟨_, ho, rfl⟩ F.entry_list_mul (F.args_list_mul_2 _ _)
        (lm_list_mul_any l #[y] k none #[] x u (by simp [Builtin.List.listFitsIndex]; lia) (by simp; lia) (by simp [Builtin.List.listTooLong, sizeLine]; lia)) ⟨ho, ?_⟩⟩)
  refine h _ _ (C.push (tk := s.toks) (Nat.le_refl _) ⟨0, ?_⟩)
  rw [Heap.get?_push_size _ rfl, foldl_app]
  congr 3
  apply Array.ext'
  simp [List.flatten_replicate_singleton]

theorem mkDict {keys : List (Option Expr)} {values : List Expr} {pos : Pos} {Q : Value → Shared → Prop} (C : Cx σ prog w g L m own s₀ s)
    (hall : keys.all (·.isSome) = true) (hl : keys.length = values.length) (h0 : keys ≠ []) (hlen : keys.length ≤ 15)
    (h : ∀ d s₁, Cx σ prog w g L m ((d, .dict []) :: own) s₀ s₁ → wpAny (model prog w) A (evalPairs (pairTrees keys values env pos)) (fun vs s₂ => ∃ kvs, Carries (PySem.strKind prog w) vs kvs ∧ (kvs.map (·.1)).Nodup ∧ Cx σ prog w g L m ((d, .dict []) :: own) s₀ s₂ ∧
      ∀ s₃, Cx σ prog w g L m ((d, .dict kvs) :: own) s₀ s₃ → Q (.ref d) s₃) E s₁) :
    wpAny (model prog w) A (eval (.Dict keys values pos) env) Q E s := by
  have C1 := C.push (sh := .dict []) (o := { cls := .type "dict", data := .dict #[] }) (tk := s.toks) (Nat.le_refl _) (Heap.DictOf.new _)
  refine wpAny_Dict_walk (knd := PySem.strKind prog w) hall hl h0 hlen (wpAny_mono (h _ _ C1) (fun vs s₂ q => ?_) fun _ _ e => e)
  obtain ⟨kvs, hc, hn, C2, hq⟩ := q
  refine ⟨kvs, hc, C2.is (.head _), fun h' hd hs => hq _ ?_⟩
  rw [merged_nil_of_nodup _ hn] at hd
  exact C2.upd .head (Nat.le_add_right ..) hs hd

theorem subList {value slice : Expr} {l : Addr} {vs : List Value} {k : Int} {u : Tok} {v : Value} {Q : Value → Shared → Prop} (hl : Sh.Is prog w s.heap l (.list vs)) (h0 : 0 ≤ k) (hhi : k < 2 ^ 63) (hx : vs[k.toNat]? = some v) (h : Q v s)
    (hs : subscripted slice false (.ref l) (.int k u) = operate [.ref l, .int k u] (getItem (.ref l) (.int k u)) := by with_unfolding_all rfl) :
    wpAny (model prog w) A (subscriptTail value slice (.ref l) (.int k u)) Q E s :=
  tail_any (Heap.IsList.typeIs (Sh.isL hl)) slot_list_getitem.lookup (wpAny_getItem_list (Sh.isL hl) h0 hhi (by simpa using hx) h) hs
theorem subDict {value slice : Expr} {d : Addr} {kvs : List (Str × Value)} {k : Str} {u : Tok} {v : Value} {Q : Value → Shared → Prop} (C : Cx σ prog w g L m own s₀ s) (hl : Sh.Is prog w s.heap d (.dict kvs)) (hx : valueAt kvs k = some v)
    (h : ∀ s', Cx σ prog w g L m own s₀ s' → Q v s')
    (hs : subscripted slice false (.ref d) (.str k u) = operate [.ref d, .str k u] (getItem (.ref d) (.str k u)) := by with_unfolding_all rfl) :
    wpAny (model prog w) A (subscriptTail value slice (.ref d) (.str k u)) Q E s :=
  tail_any (Heap.MapOf.typeIs (Heap.DictOf.mapOf hl)) slot_dict_getitem.lookup (wpAny_getItem_of (knd := PySem.strKind prog w) (k := k) (by simp [PySem.strKind, Value.isStrOf]) (Heap.DictOf.mapOf hl) hx (h _ (C.tokens (Nat.le_succ _)))) hs
theorem subStr {value slice : Expr} {y : Str} {t : Tok} {k : Int} {u : Tok} {c : Nat} {Q : Value → Shared → Prop} (C : Cx σ prog w g L m own s₀ s) (h0 : 0 ≤ k) (hhi : k < 2 ^ 63) (hx : y.cps[k.toNat]? = some c)
    (h : ∀ t s', Cx σ prog w g L m own s₀ s' → Q (.str ⟨#[c]⟩ t) s')
    (hs : subscripted slice false (.str y t) (.int k u) = operate [.str y t, .int k u] (getItem (.str y t) (.int k u)) := by with_unfolding_all rfl) :
    wpAny (model prog w) A (subscriptTail value slice (.str y t) (.int k u)) Q E s := by
  refine tail_any (T := "str") (typeIs_str _ _ _) F.slot_str_getitem.lookup (PyProof.Rows.getItem_str (c := c) (by simp; lia) ?_ (h _ _ (C.tokens (Nat.le_succ _)))) hs
  have hlt : k.toNat < y.cps.size := (Array.getElem?_eq_some_iff.mp hx).1
  have : seqIndex? k y.length = some k.toNat := by
    have e : y.length = y.cps.size := rfl
    have hk : k < (y.cps.size : Int) := by lia
    simp [seqIndex?, e, Int.not_lt.mpr h0, h0, hk]
  rw [this]
  exact hx
theorem mapSeq_put (its : Array Value) (n : Nat) (j : Nat) (v : Value) : ∃ n', Obj.mapSeq (·.setIfInBounds j v) { cls := .type "list", data := .seq its n } = { cls := .type "list", data := .seq (its.setIfInBounds j v) n' } := ⟨_, rfl⟩
theorem setItem_plain {l : Addr} {items : Array Value} {ne : Nat} {k : Int} {t : Tok} {v : Value} {Q : Unit → Shared → Prop} (ho : s.heap.get? l = some { cls := .type "list", data := .seq items ne })
    (h0 : 0 ≤ k) (hfit : k < 2 ^ 63) (hn : k < items.size)
    (hQ : Q () { s with heap := s.heap.update l (Obj.mapSeq (·.setIfInBounds k.toNat v)) }) :
    wpAny (model prog w) A (setItem (.ref l) (.int k t) v) Q E s := by
  have hT : s.TypeIs (.ref l) "list" := ⟨_, ho, rfl⟩
  unfold setItem
  try with_reducible refine wpAny_holding ?_
  first | refine wpAny_bind (wpAny_pure ?_) | skip
  refine wpAny_bind (wpAny_sequenceKey hT (by decide) ?_)
  refine wpAny_bind (wpAny_callSpecial?_slot (name := Str.ofString "__setitem__") hT slot_list_setitem
    (wpAny_call_entry slot_list_setitem hT entry_list_setitem ?_ (args_list_setitem _ _ _)))
  show wpAny _ _ (Builtin.List.listSubscript? (.int k t) >>= _) _ _ s
  refine wpAny_bind (wpAny_listSubscript_int (fitsIndex_of h0 hfit) ?_)
  clear hfit
  obtain ⟨j, rfl⟩ := Int.eq_ofNat_of_zero_le h0
  have hj : j < items.size := by lia
  have hx' : items[j]? = some items[j] := Array.getElem?_eq_getElem hj
  show wpAny _ _ ((seqItemAt l j >>= fun r => pure (r.map (j, ·))) >>= _) _ _ s
  refine wpAny_bind (wpAny_bind (wpAny_seqItemAt ho rfl (wpAny_pure ?_)))
  rw [hx']
  show wpAny _ _ (setSeqItemAt l j v >>= _) _ _ s
  refine wpAny_bind (wpAny_setSeqItemAt ho rfl ?_)
  first
    | exact wpAny_bind (wpAny_pure (wpAny_pure ⟨.none, rfl, wpAny_pure hQ⟩))
    | exact wpAny_pure ⟨.none, rfl, wpAny_pure hQ⟩
theorem setList {l : Addr} {vs : List Value} {k : Int} {u : Tok} {v : Value} {Q : Unit → Shared → Prop} (C : Cx σ prog w g L m own s₀ s) (up : Up l (.list vs) (.list (vs.set k.toNat v)) own own') (h0 : 0 ≤ k) (hf : k < 2 ^ 63) (hn : k.toNat < vs.length)
    (h : ∀ s', Cx σ prog w g L m own' s₀ s' → Q () s') : wpAny (model prog w) A (setItem (.ref l) (.int k u) v) Q E s := by
  obtain ⟨n, ho⟩ := C.is up.mem
  refine setItem_plain ho h0 hf (by rw [List.size_toArray]; lia) (h _ (C.upd (tk := s.toks) up (Nat.le_refl _) (Heap.SameBut.update ..) ?_))
  obtain ⟨n', e⟩ := mapSeq_put vs.toArray n k.toNat v
  exact ⟨n', by rw [Heap.get?_update_self _ ho (by rw [e]; rfl), e]; simp⟩
theorem setDict {d : Addr} {kvs : List (Str × Value)} {k : Str} {u : Tok} {v : Value} {Q : Unit → Shared → Prop} (C : Cx σ prog w g L m own s₀ s) (up : Up d (.dict kvs) (.dict (stored kvs k v)) own own') (hn : kvs.length ≤ 1000)
    (h : ∀ s', Cx σ prog w g L m own' s₀ s' → Q () s') : wpAny (model prog w) A (setItem (.ref d) (.str k u) v) Q E s :=
  wpAny_setItem_pairs (knd := PySem.strKind prog w) (k := k) kis (C.is up.mem) (fun h' hl hs => h _ (C.upd up (Nat.le_succ _) hs hl)) (by rw [sizeLine_eq]; lia)
theorem aSub {o i value : Expr} {pos' pos : Pos} {Q : Flow → Shared → Prop}
    (h : wpAny M A (eval value env) (fun v s₁ => wpAny M A (eval o env) (fun ov s₂ => wpAny M A (eval i env) (fun iv s₃ => wpAny M A (setItem ov iv v) (fun _ => Q .next) E s₃) E s₂) E s₁) E s)
    (hs : swapsWith value (some (.Subscript o i pos')) pos.line env = pure false := by with_unfolding_all rfl) : wpAny M A (exec (.Assign [.Subscript o i pos'] value pos) env) Q E s := wpAny_Assign_Subscript h hs
theorem goName {y : Str} {p : Pos} {it v : Value} {Q : Unit → Shared → Prop} (h : Q () s) : wpAny M A (letOwnedTupleGo (.Name y p) it v) Q E s := wpAny_pure h
noncomputable def IntL (f : Nat → Int) (n : Nat) (vs : List Value) : Prop := vs.length = n ∧ ∀ i, i < n → ∃ t, vs[i]? = some (.int (f i) t)
theorem IntL.set {f : Nat → Int} {n : Nat} {vs : List Value} (H : IntL f n vs) {k : Nat} {x : Int} {t : Tok} (hk : k < n) : IntL (fun i => if i = k then x else f i) n (vs.set k (.int x t)) := by
  refine ⟨by rw [List.length_set]; exact H.1, fun i hi => ?_⟩
  by_cases e : i = k
  · subst e
    exact ⟨t, by simp [H.1, hi]⟩
  · obtain ⟨t', h'⟩ := H.2 i hi
    exact ⟨t', by rw [List.getElem?_set_ne (Ne.symm e)]; simp [e, h']⟩
end
end
section
open PySem PySem.W PyProof.Rows PySem.Spec PySem.Calls
theorem sub_ri_reversed : isSubtype (.type "range_iterator") (.type "reversed") = pure false := by rw [isSubtype_type]; kernel_rfl
variable {σ : Bool} {prog : Program} {w : World} {g h h' : Heap} {L a : Addr} {m m' : List (Str × Value)} {own own' : List (Addr × Sh)} {s₀ s s' : Shared} {sh sh' : Sh}
section
variable {A : Around} {E : Value → Shared → Prop} {M : Model} {env : Env} {x : Str} {v : Value}
noncomputable def rng9 (t u v : Tok) : Obj := { cls := .type "range", data := .fields #[.int 0 t, .int 9 u, .int 1 v] }
noncomputable def rit (x left step : Int) : Obj := { cls := .type "range_iterator", dict := none, data := .fields #[rawInt x, rawInt left, rawInt step], slots := #[] }
theorem rev9_meets (r : Addr) (t u v : Tok) : Meets (Builtin.«range.__reversed__» ⟨[.ref r], []⟩) (fun _ R s => s.heap.get? r = some { cls := .type "range", data := .fields #[.int 0 t, .int 9 u, .int 1 v] } ∧ R (.ok (.ret (.ref s.heap.objs.size))) { s with heap := s.heap.push (rit 8 9 (-1)) }) :=
  .of_wp fun prog w A R s h => by
    obtain ⟨hp, g, d, tk, os⟩ := s
    obtain ⟨hl, h⟩ := h
    wp_walk
    exact ⟨_, rfl, h⟩
theorem call_range_rev9 {r : Addr} {t u v : Tok} {Q : Value → Shared → Prop} (hr : s.heap.get? r = some (rng9 t u v)) (h : Q (.ref s.heap.objs.size) { s with heap := s.heap.push (rit 8 9 (-1)) }) :
    wpAny (model prog w) A (call (.builtin "range.__reversed__") [.ref r]) Q E s :=
  call_meets F.slot_range_reversed ⟨_, hr, rfl⟩ F.entry_range_reversed (F.args_range_reversed_1 _) (rev9_meets r t u v) ⟨hr, h⟩
theorem code_reversed_new9 {r : Addr} {t u v : Tok} {Q₁ : Value → Shared → Prop} (hr : s.heap.get? r = some (rng9 t u v))
    (h : Q₁ (.ref s.heap.objs.size) { s with heap := s.heap.push (rit 8 9 (-1)) }) :
    codeAny (model prog w) A (.call (.builtin "reversed.__new__") ⟨[.type "reversed", .ref r], []⟩) (wants Q₁ E) s := by
  refine codeAny_of_tree ?_
  show wpAny _ A.in1 (do checkBuiltinCall "reversed.__new__" ⟨[.type "reversed", .ref r], []⟩; again (.builtin "reversed.__new__" ⟨[.type "reversed", .ref r], []⟩)) _ _ s
  refine wpAny_bind (wpAny_of_eq (F.newCall_reversed_1 _) (wpAny_pure ⟨plainId_quiet F.plain_reversed_new _, codeAny_builtin F.entry_reversed_new ?_⟩))
  rw [Around.under_plainId F.plain_reversed_new _]
  unfold Builtin.«reversed.__new__»
  refine wpAny_bind (wpAny_of_eq (newClass_reversed _) ?_)
  try dsimp only
  refine wpAny_bind (wpAny_of_eq (a := ()) (by first | rfl | kernel_rfl) ?_)
  refine wpAny_bind (wpAny_of_eq (a := ()) (by first | rfl | kernel_rfl) ?_)
  try dsimp only
  refine wpAny_bind (wpAny_specialOf (T := "range") ⟨_, hr, rfl⟩ F.slot_range_reversed.lookup ?_)
  try dsimp only
  refine wpAny_bind (wpAny_of_eq (F.slot_range_reversed.bind _) ?_)
  try dsimp only
  first
  | rw [if_neg (show ¬ ((Value.builtin "range.__reversed__" == Value.none) = true) from Bool.false_ne_true)]
  | (show wpAny _ _ (if (Value.builtin "range.__reversed__" == Value.none) = true then _ else _) _ _ _; rw [if_neg (show ¬ ((Value.builtin "range.__reversed__" == Value.none) = true) from Bool.false_ne_true)])
  refine wpAny_bind (wpAny_rule ?_)
  refine wpAny_bind (m := runValue (.call (.builtin "range.__reversed__") ⟨[.ref r], []⟩)) (show wpAny _ _ (call (.builtin "range.__reversed__") [.ref r]) _ _ _ from call_range_rev9 hr ?_)
  first
  | exact wpAny_pure h
  | exact wpAny_bind (wpAny_pure (wpAny_pure h))
theorem call_reversed9 {r : Addr} {t u v : Tok} {Q : Value → Shared → Prop} (hr : s.heap.get? r = some (rng9 t u v))
    (h : Q (.ref s.heap.objs.size) { s with heap := s.heap.push (rit 8 9 (-1)) }) : wpAny (model prog w) A (call (.type "reversed") [.ref r]) Q E s := by
  refine callType_other (U := "range_iterator") (Q₁ := fun obj s₁ => obj = .ref s.heap.objs.size ∧ s₁ = { s with heap := s.heap.push (rit 8 9 (-1)) }) (by decide +kernel) F.create_reversed ⟨_, _, F.mro_reversed⟩ F.made_reversed sub_ri_reversed (F.typeCall_reversed_1 _) (code_reversed_new9 hr ⟨rfl, rfl⟩) ?_
  rintro obj s₁ ⟨rfl, rfl⟩
  exact ⟨⟨_, Heap.get?_push_size _ rfl, rfl⟩, h⟩
theorem cRange9 {t : Tok} {Q : Value → Shared → Prop} (C : Cx σ prog w g L m own s₀ s) (h : ∀ r t u v z, Cx σ prog w g L m ((r, .raw (rng9 t u v)) :: own) s₀ z → Q (.ref r) z) : wpAny (model prog w) A (call (.type "range") [.int 9 t]) Q E s :=
  call_range_1 (h _ _ _ _ _ (C.push (o := rng9 _ _ _) (by lia) (Heap.get?_push_size _ rfl)))
theorem cRev9 {r : Addr} {t u v : Tok} {Q : Value → Shared → Prop} (C : Cx σ prog w g L m own s₀ s) (hr : (r, .raw (rng9 t u v)) ∈ own) (h : ∀ I z, Cx σ prog w g L m ((I, .raw (rit 8 9 (-1))) :: own) s₀ z → Q (.ref I) z) :
    wpAny (model prog w) A (call (.type "reversed") [.ref r]) Q E s :=
  call_reversed9 (C.is hr) (h _ _ (C.push (tk := s.toks) (Nat.le_refl _) (Heap.get?_push_size _ rfl)))
end
end
set_option compiler.extract_closed false
set_option hygiene false in
local macro_rules | `(tactic| wtm_at "mm") => `(tactic| with_reducible first | exact List.mem_cons_self | (refine List.mem_cons_of_mem _ ?_; wtm_at "mm"))
set_option hygiene false in
local macro_rules | `(tactic| wtm_at "mp") => `(tactic| with_reducible first | exact Put.head | exact Put.nil | (apply Put.tail; (decide +kernel); wtm_at "mp"))
set_option hygiene false in
local macro_rules | `(tactic| wtm_at "mu") => `(tactic| with_reducible first | exact Up.head | (apply Up.tail; wtm_at "mu"))
set_option hygiene false in
local macro_rules | `(tactic| wtm_at "tz") => `(tactic| (clear C; intro t z C))
set_option hygiene false in
local macro_rules | `(tactic| wtm_at "zz") => `(tactic| (clear C; intro z C))
set_option hygiene false in
local macro_rules | `(tactic| wtm_at "ms") => `(tactic| repeat (first | with_reducible exact List.Sublist.slnil | with_reducible apply List.Sublist.cons_cons | with_reducible apply List.Sublist.cons))
set_option hygiene false in
local macro_rules | `(tactic| wtm_at "pk") => `(tactic| with_reducible first | exact Pick.head | (apply Pick.tail; wtm_at "pk"))
set_option hygiene false in
local macro_rules | `(tactic| wtm_at "pm") => `(tactic| with_reducible first | exact List.Perm.refl _ | (refine Pick.perm (by wtm_at "pk") ?_; wtm_at "pm"))
set_option hygiene false in
local macro_rules | `(tactic| wtm_at "is") => `(tactic| with_reducible first | (refine Cx.is ‹_› ?_; wtm_at "mm") | (refine Cx.old ‹_› ‹_› (.inl rfl)) | (refine Cx.old ‹_› ‹_› (.inr ‹_›)))
set_option hygiene false in
local macro_rules | `(tactic| wtm_at "hh") => `(tactic| with_reducible first | assumption | (refine deeper_handled ?_; assumption))
set_option hygiene false in
local macro_rules | `(tactic| wtm_at "dp") => `(tactic| first | lia | (simp only [deeper_depth]; lia))
set_option hygiene false in
local macro_rules | `(tactic| wtm_at "fr") => `(tactic| with_reducible first | assumption | exact Cx.fr ‹_› ⟨_, by wtm_at "mm"⟩)
set_option hygiene false in
local macro_rules | `(tactic| wtm_at "side") => `(tactic| first | decide | lia | (simp; done) | (simp; lia) | assumption)
set_option hygiene false in
local macro_rules | `(tactic| wtm_at "w-execs") => `(tactic| (with_reducible show wpAny _ _ (execs _ _) _ _ _; first
  | (with_reducible first | refine xName ?_ | refine xExprN ?_ | refine xSub ?_ | refine xAugSub ?_ | refine xRet ?_ | refine xLast ?_ | refine wpAny_execs_cons ?_)
  | (with_reducible refine wpAny_execs_nil ?_; (try dsimp only))
  | dsimp only))
set_option hygiene false in
local macro_rules | `(tactic| wtm_at "w-exec") => `(tactic| (with_reducible show wpAny _ _ (exec _ _) _ _ _; first
  | (with_reducible first | refine aName ?_ | refine sIf ?_ | refine sFor ?_ | refine sExprN ?_ | refine wpAny_Return_some ?_ | refine aRet0 ?_ | refine aSub ?_)
  | dsimp only))
set_option hygiene false in
local macro_rules | `(tactic| wtm_at "w-eval") => `(tactic| (with_reducible show wpAny _ _ (eval _ _) _ _ _; first
  | (with_reducible show wpAny _ _ (eval (Expr.Name _ _) _) _ _ _; first | with_reducible refine ld ‹_› (by wtm_at "mm") ?_ | with_reducible refine ldC (by with_unfolding_all rfl) (by wtm_at "is") ?_ | with_reducible refine ldF (by with_unfolding_all rfl) (by wtm_at "is") ?_)
  | (with_reducible refine cInt ‹_› ?_; wtm_at "tz")
  | (with_reducible refine cStr ‹_› ?_; wtm_at "tz")
  | (with_reducible first | refine wpAny_Constant_none ?_ | refine wpAny_BinOp ?_ | refine wpAny_UnaryOp ?_ | refine wpAny_Compare1 ?_ | refine Subscript_ ?_ | refine methA (name := "part_count") ?_ | refine methA (name := "push") ?_ | refine methA (name := "pop_from") ?_ | refine meth ?_)
  | (with_reducible refine eList0 ‹_› ?_; clear C; intro l z C)
  | (with_reducible refine eDict0 ‹_› ?_; clear C; intro d z C)
  | (with_reducible first | refine eIf ?_ | refine eSliceL ‹_› ?_ | refine eSliceU ‹_› ?_ | refine eList1 ‹_› ?_)
  | (with_reducible show wpAny _ _ (eval (Expr.Call (Expr.Name _ _) _ _ _) _) _ _ _; with_reducible first | refine wpAny_Call_NameR (bl ‹_› ‹_› ni_len boot_len ?_) | refine wpAny_Call_NameR (bl ‹_› ‹_› ni_min boot_min ?_) | refine wpAny_Call_NameR (bl ‹_› ‹_› ni_max boot_max ?_) | refine wpAny_Call_NameR (bl ‹_› ‹_› ni_sum boot_sum ?_) | refine wpAny_Call_NameR (bl ‹_› ‹_› ni_enumerate boot_enumerate ?_) | refine wpAny_Call_NameR (bl ‹_› ‹_› ni_sorted boot_sorted ?_) | refine wpAny_Call_NameR (bl ‹_› ‹_› ni_range boot_range ?_) | refine wpAny_Call_NameR (bl ‹_› ‹_› ni_list boot_list ?_) | refine wpAny_Call_NameR (bl ‹_› ‹_› ni_reversed boot_reversed ?_) | refine wpAny_Call_NameR (bl ‹_› ‹_› ni_str boot_str ?_))
  | dsimp only))
set_option hygiene false in
local macro_rules | `(tactic| wtm_at "w-test") => `(tactic| (with_reducible show wpAny _ _ (isTrue _ _ _) _ _ _; first
  | (with_reducible first | refine tName ?_ | refine wpAny_isTrue_Compare1 ?_ | refine tAnd ?_ | refine tAnd1 ?_)
  | dsimp only))
set_option hygiene false in
local macro_rules | `(tactic| wtm_at "w-load") => `(tactic| (with_reducible show wpAny _ _ (loadName _ _) _ _ _; first
  | with_reducible refine ldL ‹_› (by wtm_at "mm") ?_
  | dsimp only))
set_option hygiene false in
local macro_rules | `(tactic| wtm_at "w-store") => `(tactic| (with_reducible show wpAny _ _ (storeName _ _ _) _ _ _; first
  | (with_reducible refine st ‹_› (by wtm_at "mp") ?_; clear C; intro z C; (try dsimp only))
  | (with_reducible refine stC ‹_› (by with_unfolding_all rfl) (by wtm_at "mu") ?_; clear C; intro z C; (try dsimp only))
  | dsimp only))
set_option hygiene false in
local macro_rules | `(tactic| wtm_at "w-truthy") => `(tactic| (with_reducible show wpAny _ _ (truthy _) _ _ _; first
  | (with_reducible first | refine wpAny_truthy_bool ?_ | refine truthy_int ?_)
  | (with_reducible refine tList ‹_› (by wtm_at "is") (by wtm_at "side") ?_; wtm_at "zz")
  | dsimp only))
set_option hygiene false in
local macro_rules | `(tactic| wtm_at "w-cmp") => `(tactic| (with_reducible show wpAny _ _ (compareOp _ _ _) _ _ _; first
  | (with_reducible first | refine PySem.P.lt_int ?_ | refine PySem.P.gt_int ?_ | refine PySem.P.le_int ?_ | refine PySem.P.ge_int ?_ | refine PySem.P.eq_int ?_ | refine PySem.P.ne_int ?_ | refine PyProof.Rows.is_none_none ?_)
  | (with_reducible show wpAny _ _ (compareOp CmpOp.In (Value.str _ _) (Value.str _ _)) _ _ _; with_reducible refine PySem.P.in_str ?_)
  | (with_reducible show wpAny _ _ (compareOp CmpOp.NotEq (Value.str _ _) (Value.str _ _)) _ _ _; with_reducible refine PySem.P.ne_str ?_)
  | (with_reducible show wpAny _ _ (compareOp CmpOp.NotIn (Value.str _ _) (Value.ref _)) _ _ _; (with_reducible refine oNotInD ‹_› (by wtm_at "is") (by wtm_at "fr") ?_; wtm_at "zz"))
  | dsimp only))
set_option hygiene false in
local macro_rules | `(tactic| wtm_at "w-bin") => `(tactic| (with_reducible show wpAny _ _ (binaryOp _ (Value.int _ _) (Value.int _ _)) _ _ _; first
  | (with_reducible refine oAdd ‹_› ?_; wtm_at "tz")
  | (with_reducible refine oSub ‹_› ?_; wtm_at "tz")
  | (with_reducible show wpAny _ _ (binaryOp Operator.Mod _ _) _ _ _; (with_reducible refine oMod ‹_› (by wtm_at "side") ?_; wtm_at "tz"))
  | (with_reducible show wpAny _ _ (binaryOp Operator.Mult _ _) _ _ _; (with_reducible refine oMul ‹_› (by wtm_at "side") ?_; wtm_at "tz"))
  | (with_reducible show wpAny _ _ (binaryOp Operator.FloorDiv _ _) _ _ _; (with_reducible refine oDiv ‹_› (by wtm_at "side") (PyProof.noPylong_small (by wtm_at "side")) ?_; wtm_at "tz"))
  | dsimp only))
set_option hygiene false in
local macro_rules | `(tactic| wtm_at "w-ibin") => `(tactic| (with_reducible show wpAny _ _ (inplaceOp _ (Value.int _ _) (Value.int _ _)) _ _ _; first
  | (with_reducible refine oIAdd ‹_› ?_; wtm_at "tz")
  | dsimp only))
set_option hygiene false in
local macro_rules | `(tactic| wtm_at "w-un") => `(tactic| (with_reducible show wpAny _ _ (unaryOp _ _) _ _ _; first
  | (with_reducible refine oNeg ‹_› ?_; wtm_at "tz")
  | dsimp only))
set_option hygiene false in
local macro_rules | `(tactic| wtm_at "w-cw") => `(tactic| (with_reducible show wpAny _ _ (callWith _ _ _ _ _) _ _ _; first
  | (with_reducible first | refine m1 ?_ | refine m0 ?_ | refine m2 ?_ | refine f1 ?_ | refine f2 ?_ | refine t1 ?_ | refine t3 ?_)
  | dsimp only))
set_option hygiene false in
local macro_rules | `(tactic| wtm_at "w-call") => `(tactic| (with_reducible show wpAny _ _ (call _ _ _) _ _ _; first
  | (with_reducible show wpAny _ _ (call (Value.builtin "list.append") _ _) _ _ _; (with_reducible refine cAppend ‹_› (by wtm_at "mu") (by wtm_at "side") ?_; wtm_at "zz"))
  | (with_reducible show wpAny _ _ (call (Value.builtin "dict.get") _ _) _ _ _; (with_reducible refine cGet2 ‹_› (by wtm_at "is") (by wtm_at "fr") ?_; wtm_at "zz"))
  | (with_reducible show wpAny _ _ (call (Value.builtin "len") _ _) _ _ _; first | (with_reducible refine cLenL ‹_› (by wtm_at "is") (by wtm_at "side") ?_; wtm_at "tz") | (with_reducible refine cLenD ‹_› (by wtm_at "is") (by wtm_at "fr") (by wtm_at "side") ?_; wtm_at "tz"))
  | (with_reducible show wpAny _ _ (call (Value.builtin "dict.values") _ _) _ _ _; (with_reducible refine cValues ‹_› (by wtm_at "is") (by wtm_at "fr") ?_; clear C; intro r z C))
  | (with_reducible show wpAny _ _ (call (Value.builtin "int.bit_length") _ _) _ _ _; (with_reducible refine cBits ‹_› ?_; wtm_at "tz"))
  | (with_reducible show wpAny _ _ (call (Value.builtin "dict.items") _ _) _ _ _; (with_reducible refine cItems ‹_› (by wtm_at "is") (by wtm_at "fr") ?_; clear C; intro r z C))
  | (with_reducible show wpAny _ _ (call (Value.builtin "str.count") _ _) _ _ _; (with_reducible refine cCount ‹_› ?_; wtm_at "tz"))
  | (with_reducible show wpAny _ _ (call (Value.builtin "min") _ _) _ _ _; (with_reducible refine cMin2 ‹_› (by wtm_at "hh") ?_; wtm_at "tz"))
  | (with_reducible show wpAny _ _ (call (Value.builtin "max") [_, _] _) _ _ _; (with_reducible refine cMax2 ‹_› (by wtm_at "hh") ?_; wtm_at "tz"))
  | dsimp only))
set_option hygiene false in
local macro_rules | `(tactic| wtm_at "w-set") => `(tactic| (with_reducible show wpAny _ _ (setItem _ _ _) _ _ _; first
  | (with_reducible refine setDict ‹_› (by wtm_at "mu") (by wtm_at "side") ?_; wtm_at "zz")
  | dsimp only))
set_option hygiene false in
local macro_rules | `(tactic| wtm_at "w-meth") => `(tactic| (with_reducible show MethodOnS _ _ _ _ _ _ _ _ _ _; first
  | (with_reducible first | refine onStr F.slot_str_join F.type_str_join ?_ | refine onStr F.slot_str_count F.type_str_count ?_ | refine onStr F.slot_str_split F.type_str_split ?_ | refine onStr F.slot_str_index F.type_str_index ?_ | refine onStr F.slot_str_replace F.type_str_replace ?_ | refine onInt F.slot_int_bit_length F.type_int_bit_length ?_ | refine onList (by wtm_at "is") F.slot_list_append F.type_list_append ?_ | refine onList (by wtm_at "is") F.slot_list_pop F.type_list_pop ?_ | refine onList (by wtm_at "is") F.slot_list_index F.type_list_index ?_ | refine onList (by wtm_at "is") F.slot_list_count F.type_list_count ?_ | refine onList (by wtm_at "is") F.slot_list_reverse F.type_list_reverse ?_ | refine onDict (by wtm_at "is") F.slot_dict_get F.type_dict_get ?_ | refine onDict (by wtm_at "is") F.slot_dict_values F.type_dict_values ?_ | refine onDict (by wtm_at "is") F.slot_dict_items F.type_dict_items ?_)))
set_option hygiene false in
local macro_rules | `(tactic| wtm_at "w-and") => `(tactic| (with_reducible show _ ∧ _; first
  | with_reducible refine ⟨none_ne, ?_⟩
  | with_reducible refine ⟨int_ne, ?_⟩
  | (with_reducible refine ⟨fun hb => ?_, fun hb => absurd hb (by first | decide | (simp; done) | (simp; lia))⟩; clear hb)
  | (with_reducible refine ⟨fun hb => absurd hb (by first | decide | (simp; done) | (simp; lia)), fun hb => ?_⟩; clear hb)))
set_option hygiene false in
local macro_rules | `(tactic| wtm_at "w-ex") => `(tactic| (with_reducible show ∃ _ _, _; with_reducible refine ⟨_, _, C, ?_⟩; clear C; intro a z C))
set_option hygiene false in
local macro_rules | `(tactic| wtm_at "w-hk") => `(tactic| (with_reducible refine kpost _ _ ?_; (try dsimp only)))
set_option hygiene false in
local macro_rules | `(tactic| wtm_at "cps") => `(tactic| (with_reducible first | refine cps2 ?_ | refine cps1 ?_); intro Kp kpost)
set_option hygiene false in
local macro_rules | `(tactic| wtm_at "cps0") => `(tactic| with_reducible refine cps0 ?_; intro Kp kpost)
set_option hygiene false in
local macro_rules | `(tactic| wtm_at "w") => `(tactic| first | wtm_at "w-execs" | wtm_at "w-exec" | wtm_at "w-eval" | wtm_at "w-test" | wtm_at "w-load" | wtm_at "w-store" | wtm_at "w-truthy" | wtm_at "w-cmp" | wtm_at "w-bin" | wtm_at "w-ibin" | wtm_at "w-un" | wtm_at "w-cw" | wtm_at "w-call" | wtm_at "w-set" | wtm_at "w-meth" | wtm_at "w-ex" | wtm_at "w-and" | wtm_at "w-hk" | dsimp only)
section
open PySem PySem.W PyProof.Rows PySem.Spec PySem.Calls
variable {σ : Bool} {prog : Program} {w : World} {g h h' : Heap} {L a : Addr} {m m' : List (Str × Value)} {own own' : List (Addr × Sh)} {s₀ s s' : Shared} {sh sh' : Sh}
variable {A : Around} {E : Value → Shared → Prop} {M : Model} {env : Env} {x : Str} {v : Value}


noncomputable def sg (p : Nat) : Str := ⟨#[97 + p]⟩
structure Pg (asks : Str) (q : Nat → Nat) : Prop where
  size : asks.cps.size = 9
  lt : ∀ i, q i < 4
  at' : ∀ i, i < 9 → asks.cps[i]? = some (97 + q i)
noncomputable def hst (q : Nat → Nat) : Nat → (Nat → Int) × (Nat → Int)
  | 0 => (fun _ => 0, fun p => 9 + (p : Int))
  | k + 1 => (fun i => if i = 8 - k then (hst q k).2 (q (8 - k)) else (hst q k).1 i, fun p => if p = q (8 - k) then ((8 - k : Nat) : Int) else (hst q k).2 p)
noncomputable def hoursOf (q : Nat → Nat) : Nat → Int := (hst q 9).1
noncomputable def four (f : Nat → Int) (kvs : List (Str × Value)) : Prop := ∃ t0 t1 t2 t3 : Tok, kvs = ([("a", .int (f 0) t0), ("b", .int (f 1) t1), ("c", .int (f 2) t2), ("d", .int (f 3) t3)] : List (Str × Value))
theorem lt4 {n : Nat} (h : n < 4) : n = 0 ∨ n = 1 ∨ n = 2 ∨ n = 3 := by lia
theorem keyA : (⟨#[97 + 0]⟩ : Str) = "a" ∧ (⟨#[97 + 1]⟩ : Str) = "b" ∧ (⟨#[97 + 2]⟩ : Str) = "c" ∧ (⟨#[97 + 3]⟩ : Str) = "d" := by decide +kernel
theorem keyNe : ("a" : Str) ≠ "b" ∧ ("a" : Str) ≠ "c" ∧ ("a" : Str) ≠ "d" ∧ ("b" : Str) ≠ "a" ∧ ("b" : Str) ≠ "c" ∧ ("b" : Str) ≠ "d" ∧ ("c" : Str) ≠ "a" ∧ ("c" : Str) ≠ "b" ∧ ("c" : Str) ≠ "d" ∧ ("d" : Str) ≠ "a" ∧ ("d" : Str) ≠ "b" ∧ ("d" : Str) ≠ "c" := by decide +kernel
theorem four_get {f : Nat → Int} {kvs : List (Str × Value)} (H : four f kvs) {p : Nat} (hp : p < 4) : ∃ t, valueAt kvs ⟨#[97 + p]⟩ = some (.int (f p) t) := by
  obtain ⟨t0, t1, t2, t3, rfl⟩ := H
  rcases lt4 hp with rfl | rfl | rfl | rfl
  · exact ⟨t0, by kernel_rfl⟩
  · exact ⟨t1, by kernel_rfl⟩
  · exact ⟨t2, by kernel_rfl⟩
  · exact ⟨t3, by kernel_rfl⟩
theorem four_set {f : Nat → Int} {kvs : List (Str × Value)} (H : four f kvs) {p : Nat} (hp : p < 4) {x : Int} {t : Tok} : four (fun i => if i = p then x else f i) (stored kvs ⟨#[97 + p]⟩ (.int x t)) := by
  obtain ⟨t0, t1, t2, t3, rfl⟩ := H
  rcases lt4 hp with rfl | rfl | rfl | rfl
  · exact ⟨t, t1, t2, t3, by kernel_rfl⟩
  · exact ⟨t0, t, t2, t3, by kernel_rfl⟩
  · exact ⟨t0, t1, t, t3, by kernel_rfl⟩
  · exact ⟨t0, t1, t2, t, by kernel_rfl⟩
theorem four_len {f : Nat → Int} {kvs : List (Str × Value)} (H : four f kvs) : kvs.length ≤ 1000 := by
  obtain ⟨t0, t1, t2, t3, rfl⟩ := H; exact Nat.le_of_ble_eq_true rfl

inductive HoursJ (prog : Program) (w : World) (s : Shared) (L : Addr) (asks : Str) (ta : Tok) (hl d I r l : Addr) (t u v tz : Tok) (q : Nat → Nat) (k i : Nat) (z : Shared) : Prop
  | mk (vs : List Value) (kvs : List (Str × Value)) (C : Cx true prog w s.heap L [("asks", .str asks ta), ("hours", .ref hl), ("ahead", .ref d)] [(I, .raw (rit (8 + (k : Nat) * (-1)) (((9 : Nat) : Int) - (k : Nat)) (-1))), (r, .raw (rng9 t u v)), (d, .dict kvs), (hl, .list vs), (l, .list [.int 0 tz])] s z)
      (h1 : IntL (hst q i).1 9 vs) (h2 : four (hst q i).2 kvs) : HoursJ prog w s L asks ta hl d I r l t u v tz q k i z

set_option maxHeartbeats 1000000 in
theorem hours_spec {asks : Str} {ta : Tok} {q : Nat → Nat} {Q : Value → Shared → Prop} (P : Pg asks q) (B : Bs w s.heap) (hd : A.depth + 10 < recursionLimit) (hh : A.handled = none)
    (hret : ∀ a vs s', Gr true s s' → Sh.Is prog w s'.heap a (.list vs) → IntL (hoursOf q) 9 vs → s.heap.get? a = none → 203 ≤ a → Q (.ref a) s') :
    wpAny (model prog w) A (call (.ref 168) [.str asks ta]) Q E s := by
  refine enter (σ := true) (binds := [("asks", .str asks ta)]) B (by lia) rfl rfl (BindsTo.of_eq rfl) rfl (by simp) (by decide) rfl rfl rfl ?_
  intro L s1 C
  with_reducible refine wpAny_execs_cons (aName (wpAny_BinOp (eList (sm (cInt C fun tz s2 C => spliced_none ⟨_, _, C, by with_unfolding_all rfl, fun l s3 C => cInt C fun t2 s4 C => ?_⟩)))))
  with_reducible refine mulList C (by wtm_at "mm") (by decide) (by decide) ?_
  intro hl s5 C
  with_reducible refine st C (by wtm_at "mp") ?_
  intro s6 C
  dsimp only
  with_reducible refine wpAny_execs_cons (aName ?_)
  with_reducible refine mkDict C ?_ ?_ ?_ ?_ ?_
  · rfl
  · rfl
  · exact List.cons_ne_nil _ _
  · exact Nat.le_of_ble_eq_true rfl
  intro d s1 C
  with_reducible refine pairTrees_cons_walk (cStr C fun t1 z C => cInt C fun u1 z C => pairTrees_cons_walk (cStr C fun t2 z C => cInt C fun u2 z C => pairTrees_cons_walk (cStr C fun t3 z C => cInt C fun u3 z C => pairTrees_cons_walk (cStr C fun t4 z C => cInt C fun u4 z C => pairTrees_nil_walk ?_))))
  refine ⟨[("a", .int 9 u1), ("b", .int 10 u2), ("c", .int 11 u3), ("d", .int 12 u4)], ?_, ?_, ?_, ?_⟩
  · exact ⟨kis, rfl, kis, rfl, kis, rfl, kis, rfl, trivial⟩
  · show ([Str.ofString "a", Str.ofString "b", Str.ofString "c", Str.ofString "d"] : List Str).Nodup
    decide +kernel
  · exact C
  intro z C
  with_reducible refine st C (by wtm_at "mp") ?_
  intro z C
  dsimp only
  with_reducible refine wpAny_execs_cons (sFor ?_)
  with_reducible refine wpAny_Call_NameR (bl B C ?_ boot_reversed ?_)
  · kernel_rfl!
  with_reducible refine callWith_type1 (sm ?_) ?_ ?_
  rotate_left
  · with_unfolding_all rfl
  · with_unfolding_all rfl
  with_reducible refine wpAny_Call_NameR (bl B C ?_ boot_range ?_)
  · kernel_rfl!
  with_reducible refine callWith_type1 (sm (cInt C fun t1 z C => spliced_none (cRange9 C fun r t u v z C => spliced_none ?_))) ?_ ?_
  rotate_left
  · with_unfolding_all rfl
  · with_unfolding_all rfl
  with_reducible refine cRev9 C (by wtm_at "mm") ?_
  intro I z C
  with_reducible refine wpAny_pyIter_rangeiter (it := I) (x := 8) (left := 9) (step := -1) (C.raw (o := rit 8 9 (-1)) (by wtm_at "mm")) ?_
  with_reducible (refine for_walk (Walks.range ?hA I 8 (-1) 9) (fun i => HoursJ prog w s L asks ta hl d I r l t u v tz q i i) (fun i => HoursJ prog w s L asks ta hl d I r l t u v tz q (i + 1) i) ?_ ?_ ?_ ?_ ?_)
  case hA => with_unfolding_all exact hh
  · rintro i z ⟨vs, kvs, C, _, _⟩
    exact C.raw (o := rit _ _ _) (by wtm_at "mm")
  · exact ⟨_, _, C, ⟨rfl, fun i hi => ⟨tz, by rw [List.getElem?_replicate]; simp [hst]; exact hi⟩⟩, u1, u2, u3, u4, rfl⟩
  · rintro i z h' tk hi ⟨vs, kvs, C, H1, H2⟩ ht hS hk
    exact ⟨vs, kvs, C.next Up.head ht (fun b o hb e => hk b o (by simpa using hb) e) hS, H1, H2⟩
  · rintro i y z hi ⟨t5, rfl⟩ ⟨vs, kvs, C, H1, H2⟩
    wtm_at "cps"
    with_reducible refine goName (wpAny_assign_Name ?_)
    with_reducible refine st C (by wtm_at "mp") ?_
    intro z C
    have e8 : (8 + (i : Int) * -1) = ((8 - i : Nat) : Int) := by lia
    rw [e8] at C
    have hp := P.at' (8 - i) (by lia)
    have hlen : vs.length = 9 := H1.1
    obtain ⟨t6, hg⟩ := four_get H2 (P.lt (8 - i))
    with_reducible refine wpAny_execs_cons (aSub (Subscript_ ?_))
    with_reducible refine ld C (by wtm_at "mm") (Subscript_ ?_)
    with_reducible refine ld C (by wtm_at "mm") ?_
    with_reducible refine ld C (by wtm_at "mm") ?_
    with_reducible refine subStr C (by lia) (by lia) (by simpa using hp) ?_
    intro t7 z C
    with_reducible refine subDict C (by wtm_at "is") hg ?_
    intro z C
    with_reducible refine ld C (by wtm_at "mm") ?_
    with_reducible refine ld C (by wtm_at "mm") ?_
    with_reducible refine setList C (by wtm_at "mu") (by lia) (by lia) (by lia) ?_
    intro z C
    dsimp only
    with_reducible refine wpAny_execs_cons (aSub ?_)
    with_reducible refine ld C (by wtm_at "mm") ?_
    with_reducible refine ld C (by wtm_at "mm") (Subscript_ ?_)
    with_reducible refine ld C (by wtm_at "mm") ?_
    with_reducible refine ld C (by wtm_at "mm") ?_
    with_reducible refine subStr C (by lia) (by lia) (by simpa using hp) ?_
    intro t8 z C
    with_reducible refine setDict C (by wtm_at "mu") (four_len H2) ?_
    intro z C
    dsimp only
    refine wpAny_execs_nil (kpost _ _ ⟨_, _, C.forget (by wtm_at "ms"), ?_, ?_⟩)
    · simp only [hst, Int.toNat_natCast]
      exact H1.set (by lia)
    · exact four_set H2 (P.lt _)
  · rintro z h' tk ⟨vs, kvs, C, H1, H2⟩ ht hk
    have C := C.gone ht (fun b o hb e => hk b o (by simpa using hb) e)
    with_reducible refine wpAny_execs_cons (wpAny_Return_some ?_)
    with_reducible refine ld C (by wtm_at "mm") ?_
    have hm : (hl, Sh.list vs) ∈ [(r, Sh.raw (rng9 t u v)), (d, Sh.dict kvs), (hl, Sh.list vs), (l, Sh.list [Value.int 0 tz])] := by wtm_at "mm"
    exact hret hl vs _ C.out (C.is hm) H1 (C.fresh hm).1 (C.fresh hm).2
end
section
open PySem PySem.W PyProof.Rows PySem.Spec PySem.Calls
variable {σ : Bool} {prog : Program} {w : World} {g h h' : Heap} {L a : Addr} {m m' : List (Str × Value)} {own own' : List (Addr × Sh)} {s₀ s s' : Shared} {sh sh' : Sh}
variable {A : Around} {E : Value → Shared → Prop} {M : Model} {env : Env} {x : Str} {v : Value}
noncomputable def enO (it : Addr) (i : Int) (old : Value) : Obj := { cls := .type "enumerate", dict := none, data := .fields #[.none, .bool false, .ref it, rawInt i, .none, old], slots := #[] }

inductive EnJ (prog : Program) (w : World) (L e it : Addr) (c : String) (f : Nat → List Value) (J : Nat → Heap → Shared → List (Str × Value) → List (Addr × Sh) → Prop) (n r : Nat) (s : Shared) : Prop
  | mk (i : Nat) (g : Heap) (s₀ : Shared) (m : List (Str × Value)) (own : List (Addr × Sh)) (old : Value) (hi : i + r = n) (hJ : J i g s₀ m own) (C : Cx true prog w g L m ((e, .raw (enO it i old)) :: (it, .flds c (f i)) :: own) s₀ s) : EnJ prog w L e it c f J n r s
theorem loop_enumJ {it e : Addr} {fp : List Addr} {n : Nat} {P : Nat → Value → Prop} {S : Nat → Heap → Prop} {c : String} {f : Nat → List Value} {elts : List Expr} {k : Nat} {pos : Pos} {body : List Stmt} {Q : Flow → Shared → Prop}
    (hh : A.handled = none) (D : Draws prog w A.in1 it fp n P S) (hei : e ≠ it) (hef : e ∉ fp) (hif : it ∈ fp) (J : Nat → Heap → Shared → List (Str × Value) → List (Addr × Sh) → Prop)
    (hS1 : ∀ i h, S i h → Sh.Is prog w h it (.flds c (f i)))
    (hS2 : ∀ i g s₀ m own z old, J i g s₀ m own → Cx true prog w g L m ((e, .raw (enO it i old)) :: (it, .flds c (f i)) :: own) s₀ z → S i z.heap)
    (C : Cx true prog w g L m ((e, .raw (enO it 0 .none)) :: (it, .flds c (f 0)) :: own) s₀ s) (h0 : J 0 g s₀ m own)
    (hn2 : (assignEach elts env).length = 2) (hstar : (assignEach elts env).findIdx? (·.1) = none)
    (turn : ∀ i t0 y g s₀ m own old z, i < n → P i y → J i g s₀ m own → Cx true prog w g L m ((e, .raw (enO it (i + 1 : Nat) old)) :: (it, .flds c (f (i + 1))) :: own) s₀ z →
      wpAny (model prog w) A (assignInOrder ((assignEach elts env).map (·.2)) [.int i t0, y]) (fun _ s₂ => wpAny (model prog w) A (execs body env) (fun fl s₃ => match fl with
        | .next | .cont => ∃ g' s₀' m' own', J (i + 1) g' s₀' m' own' ∧ Cx true prog w g' L m' ((e, .raw (enO it (i + 1 : Nat) old)) :: (it, .flds c (f (i + 1))) :: own') s₀' s₃
        | .brk => Q .next s₃
        | .ret v => Q (.ret v) s₃) (fun _ _ => False) s₂) (fun _ _ => False) z)
    (done : ∀ g s₀ m own z, J n g s₀ m own → Cx true prog w g L m own s₀ z → Q .next z) : Loop prog w A (.Tuple elts k pos) (.ref e) body env Q E s := by
  have W := WalksT.enumerateD D e hei hef hif
  refine codeAny_forLoop_any (EnJ prog w L e it c f J n) (fun r z ⟨i, g, s₀, m, own, old, hi, hJ, C⟩ => ?_) n ⟨0, g, s₀, m, own, .none, by lia, h0, C⟩
  have hSt : (∃ old, IsEnum z.heap e it i old) ∧ S i z.heap := ⟨⟨old, C.raw (o := enO it i old) List.mem_cons_self⟩, hS2 i g s₀ m own z old hJ C⟩
  by_cases hin : i < n
  · refine wpAny_with_toks (Nat.le_refl _) (W.item i z _ _ hin hSt fun T vals h1 tk hP hT0 hT hmid hkeep ht => ?_)
    obtain ⟨t0, y, hPy, rfl⟩ := hP
    have hTn : z.heap.get? T = none := by
      cases q : z.heap.get? T with
      | none => rfl
      | some o => exact absurd (Heap.lt_size q) (Nat.not_lt.mpr hT0)
    have hTe : T ≠ e := hmid.2.2.1
    have hTi : T ≠ it := hmid.2.2.2
    refine wpAny_with_toks (Nat.le_refl _) (W.go elts k pos i T _ _ _ hmid fun h2 hSt2 hk2 _ => ?_)
    obtain ⟨⟨old2, he2⟩, hs2⟩ := hSt2
    have hall : ∀ b o, b ≠ e → b ≠ it → z.heap.get? b = some o → h2.get? b = some o := fun b o h1' h2' q => hk2 b o (by simp [h1', h2']) (hkeep b o (by simp [h1', h2']) q)
    have hTup : h2.IsTuple T #[.int i t0, y] := by
      obtain ⟨o, ho, r⟩ := hT
      exact ⟨o, hk2 T o (by simp [hTe, hTi]) ho, r⟩
    have C2 : Cx true prog w g L m ((e, .raw (enO it (i + 1 : Nat) old2)) :: (it, .flds c (f (i + 1))) :: own) s₀ { z with heap := h2, toks := tk } := by
      obtain ⟨k1, k2, k3⟩ := C.its _ List.mem_cons_self
      obtain ⟨j1, j2, j3⟩ := C.its _ (List.mem_cons_of_mem _ List.mem_cons_self)
      have nd := C.nd
      rw [List.map_cons, List.map_cons, List.nodup_cons, List.nodup_cons] at nd
      refine ⟨?_, fun b o t q => hall b o ?_ ?_ (C.keep b o t q), C.low, C.above, fun p hp => ?_, C.nd, C.uq, C.os, C.drawn, C.gens, Nat.le_trans C.toks ht⟩
      · rcases C.ns with q | ⟨f', ⟨o, es, ep, ho, r'⟩, hm⟩
        · exact .inl q
        · rcases k3 with q | k3
          · exact .inl q
          · rcases j3 with q | j3
            · exact .inl q
            · exact .inr ⟨f', ⟨o, es, ep, hall _ _ (Ne.symm k3) (Ne.symm j3) ho, r'⟩, hm⟩
      · rintro rfl; rw [show g.get? b = none from k2.1] at q; cases q
      · rintro rfl; rw [show g.get? b = none from j2.1] at q; cases q
      · rcases List.mem_cons.mp hp with rfl | hp
        · exact ⟨he2, k2, k3⟩
        · rcases List.mem_cons.mp hp with rfl | hp
          · exact ⟨hS1 _ _ hs2, j2, j3⟩
          · obtain ⟨l1, l2, l3⟩ := C.its p (List.mem_cons_of_mem _ (List.mem_cons_of_mem _ hp))
            refine ⟨l1.at fun o q => hall _ _ ?_ ?_ q, l2, l3⟩
            · intro q; exact nd.1 (List.mem_cons_of_mem _ (q ▸ List.mem_map_of_mem (f := (·.1)) hp))
            · intro q; exact nd.2.1 (q ▸ List.mem_map_of_mem (f := (·.1)) hp)
    refine wpAny_assign_Tuple hh (items := #[.int i t0, y]) hTup (by rw [hn2]; rfl) hstar fun h3 hx3 => ?_
    have C3 : Cx true prog w g L m ((e, .raw (enO it (i + 1 : Nat) old2)) :: (it, .flds c (f (i + 1))) :: own) s₀ { z with heap := h3, toks := tk } :=
      C2.grown (s' := { z with heap := h3, toks := tk }) ⟨fun b o _ q => hx3 b o (Nat.ne_of_lt (Heap.lt_size q)) q, rfl, rfl, gens_refl, Nat.le_refl _⟩
    refine wpAny_mono (turn i t0 y g s₀ m own old2 _ hin hPy hJ C3) (fun _ s₂ q => wpAny_mono q (fun fl s₃ q => ?_) (fun _ _ e => e.elim)) (fun _ _ e => e.elim)
    cases fl with
    | next => obtain ⟨g', s₀', m', own', hJ', C'⟩ := q; exact ⟨r - 1, by lia, i + 1, g', s₀', m', own', _, by lia, hJ', C'⟩
    | cont => obtain ⟨g', s₀', m', own', hJ', C'⟩ := q; exact ⟨r - 1, by lia, i + 1, g', s₀', m', own', _, by lia, hJ', C'⟩
    | brk => exact q
    | ret v => exact q
  · have hin' : i = n := by lia
    subst hin'
    refine wpAny_with_toks (Nat.le_refl _) (W.done z _ _ hSt fun h1 tk hkeep ht => ?_)
    refine wpAny_execs_nil (done g s₀ m own _ hJ ?_)
    obtain ⟨k1, k2, k3⟩ := C.its _ List.mem_cons_self
    obtain ⟨j1, j2, j3⟩ := C.its _ (List.mem_cons_of_mem _ List.mem_cons_self)
    have nd := C.nd
    rw [List.map_cons, List.map_cons, List.nodup_cons, List.nodup_cons] at nd
    have hall : ∀ b o, b ≠ e → b ≠ it → z.heap.get? b = some o → h1.get? b = some o := fun b o h1' h2' q => hkeep b o (by simp [h1', h2']) q
    refine ⟨?_, fun b o t q => hall b o ?_ ?_ (C.keep b o t q), C.low, C.above, fun p hp => ?_, nd.2.2, C.uq, C.os, C.drawn, C.gens, Nat.le_trans C.toks ht⟩
    · rcases C.ns with q | ⟨f', ⟨o, es, ep, ho, r'⟩, hm⟩
      · exact .inl q
      · rcases k3 with q | k3
        · exact .inl q
        · rcases j3 with q | j3
          · exact .inl q
          · exact .inr ⟨f', ⟨o, es, ep, hall _ _ (Ne.symm k3) (Ne.symm j3) ho, r'⟩, hm⟩
    · rintro rfl; rw [show g.get? b = none from k2.1] at q; cases q
    · rintro rfl; rw [show g.get? b = none from j2.1] at q; cases q
    · obtain ⟨l1, l2, l3⟩ := C.its p (List.mem_cons_of_mem _ (List.mem_cons_of_mem _ hp))
      refine ⟨l1.at fun o q => hall _ _ ?_ ?_ q, l2, l3⟩
      · intro q; exact nd.1 (List.mem_cons_of_mem _ (q ▸ List.mem_map_of_mem (f := (·.1)) hp))
      · intro q; exact nd.2.1 (q ▸ List.mem_map_of_mem (f := (·.1)) hp)
theorem loop_enum {it e : Addr} {fp : List Addr} {n : Nat} {P : Nat → Value → Prop} {S : Nat → Heap → Prop} {c : String} {f : Nat → List Value} {elts : List Expr} {k : Nat} {pos : Pos} {body : List Stmt} {Q : Flow → Shared → Prop}
    (hh : A.handled = none) (D : Draws prog w A.in1 it fp n P S) (hei : e ≠ it) (hef : e ∉ fp) (hif : it ∈ fp) (J : Nat → List (Str × Value) → List (Addr × Sh) → Prop)
    (hS1 : ∀ i h, S i h → Sh.Is prog w h it (.flds c (f i)))
    (hS2 : ∀ i m own z old, J i m own → Cx true prog w g L m ((e, .raw (enO it i old)) :: (it, .flds c (f i)) :: own) s₀ z → S i z.heap)
    (C : Cx true prog w g L m ((e, .raw (enO it 0 .none)) :: (it, .flds c (f 0)) :: own) s₀ s) (h0 : J 0 m own)
    (hn2 : (assignEach elts env).length = 2) (hstar : (assignEach elts env).findIdx? (·.1) = none)
    (turn : ∀ i t0 y m own old z, i < n → P i y → J i m own → Cx true prog w g L m ((e, .raw (enO it (i + 1 : Nat) old)) :: (it, .flds c (f (i + 1))) :: own) s₀ z →
      wpAny (model prog w) A (assignInOrder ((assignEach elts env).map (·.2)) [.int i t0, y]) (fun _ s₂ => wpAny (model prog w) A (execs body env) (fun fl s₃ => match fl with
        | .next | .cont => ∃ m' own', J (i + 1) m' own' ∧ Cx true prog w g L m' ((e, .raw (enO it (i + 1 : Nat) old)) :: (it, .flds c (f (i + 1))) :: own') s₀ s₃
        | .brk => Q .next s₃
        | .ret v => Q (.ret v) s₃) (fun _ _ => False) s₂) (fun _ _ => False) z)
    (done : ∀ m own z, J n m own → Cx true prog w g L m own s₀ z → Q .next z) : Loop prog w A (.Tuple elts k pos) (.ref e) body env Q E s :=
  loop_enumJ hh D hei hef hif (fun i g' s' m own => g' = g ∧ s' = s₀ ∧ J i m own) hS1 (fun i g' s' m own z old q C => hS2 i m own z old q.2.2 (q.1 ▸ q.2.1 ▸ C)) C ⟨rfl, rfl, h0⟩ hn2 hstar
    (fun i t0 y g' s' m own old z hi hP q Cq => by
      obtain ⟨rfl, rfl, hJ⟩ := q
      refine wpAny_mono (turn i t0 y m own old z hi hP hJ Cq) (fun _ s₂ q => wpAny_mono q (fun fl s₃ q => ?_) fun _ _ e => e) fun _ _ e => e
      cases fl with
      | next => obtain ⟨m', own', hJ', C'⟩ := q; exact ⟨_, _, m', own', ⟨rfl, rfl, hJ'⟩, C'⟩
      | cont => obtain ⟨m', own', hJ', C'⟩ := q; exact ⟨_, _, m', own', ⟨rfl, rfl, hJ'⟩, C'⟩
      | brk => exact q
      | ret v => exact q)
    (fun g' s' m own z q C => done m own z q.2.2 (q.1 ▸ q.2.1 ▸ C))
end
section
open PySem PySem.W PyProof.Rows PySem.Spec PySem.Calls
variable {σ : Bool} {prog : Program} {w : World} {g h h' : Heap} {L a : Addr} {m m' : List (Str × Value)} {own own' : List (Addr × Sh)} {s₀ s s' : Shared} {sh sh' : Sh}
section
variable {A : Around} {E : Value → Shared → Prop} {M : Model} {env : Env} {x : Str} {v : Value}

theorem notMods (h1 : 203 ≤ a) : (a == sysModules) = false := by
  rw [show sysModules = (1 : Nat) from rfl]
  exact beq_eq_false_iff_ne.mpr (Nat.ne_of_gt (Nat.lt_of_lt_of_le (by decide) h1))
theorem ni_len {P : Params} : nsIn (KK P) mainGlobals "len" = some none := by kernel_rfl!
theorem ni_min {P : Params} : nsIn (KK P) mainGlobals "min" = some none := by kernel_rfl!
theorem ni_max {P : Params} : nsIn (KK P) mainGlobals "max" = some none := by kernel_rfl!
theorem ni_sum {P : Params} : nsIn (KK P) mainGlobals "sum" = some none := by kernel_rfl!
theorem ni_enumerate {P : Params} : nsIn (KK P) mainGlobals "enumerate" = some none := by kernel_rfl!
theorem ni_sorted {P : Params} : nsIn (KK P) mainGlobals "sorted" = some none := by kernel_rfl!
theorem ni_range {P : Params} : nsIn (KK P) mainGlobals "range" = some none := by kernel_rfl!
theorem ni_list {P : Params} : nsIn (KK P) mainGlobals "list" = some none := by kernel_rfl!
theorem ni_reversed {P : Params} : nsIn (KK P) mainGlobals "reversed" = some none := by kernel_rfl!
theorem ni_str {P : Params} : nsIn (KK P) mainGlobals "str" = some none := by kernel_rfl!
theorem sIf {test : Expr} {body orelse : List Stmt} {pos : Pos} {Q : Flow → Shared → Prop} (h : wpAny M A (isTrue test env (eval test env)) (fun b s₂ => (b = true → wpAny M A (execs body env) Q E s₂) ∧ (b = false → wpAny M A (execs orelse env) Q E s₂)) E s) :
    wpAny M A (exec (.If test body orelse pos) env) Q E s :=
  wpAny_If (wpAny_mono h (fun b _ q => by cases b <;> simp at q <;> simpa using q) fun _ _ e => e)
theorem sExprN {e : Expr} {pos : Pos} {Q : Flow → Shared → Prop} (h : wpAny M A (eval e env) (fun v s' => (∀ a, v ≠ .ref a) ∧ Q .next s') E s)
    (hi : interactive env = false := by with_unfolding_all rfl) (hs : swapsWith e none pos.line env = pure false := by with_unfolding_all rfl) : wpAny M A (exec (.Expr e pos) env) Q E s := by
  rw [exec_Expr env e pos hi hs]
  exact wpAny_bind (wpAny_standAt (wpAny_bind (wpAny_mono h (fun v s' h' => by rw [dropValue_plain h'.1]; exact wpAny_pure h'.2) fun _ _ x => x)))

theorem none_ne : ∀ a : Addr, Value.none ≠ .ref a := fun _ e => nomatch e
theorem int_ne {n : Int} {t : Tok} : ∀ a : Addr, Value.int n t ≠ .ref a := fun _ e => nomatch e
theorem tAnd1 {t : Expr} {pos : Pos} {whole : Sem Value} {Q : Bool → Shared → Prop} (h : wpAny M A (isTrue t env (eval t env)) Q E s) : wpAny M A (isTrue (.BoolOp .And [t] pos) env whole) Q E s :=
  isTrue_and (wpAny_mono h (fun b z q => by cases b with
    | true => exact isTrue_and_nil q
    | false => exact q) fun _ _ e => e)
theorem tAnd {t u : Expr} {rest : List Expr} {pos : Pos} {whole : Sem Value} {Q : Bool → Shared → Prop} (h : wpAny M A (isTrue t env (eval t env)) (fun b z => (b = true → wpAny M A (isTrue (.BoolOp .And (u :: rest) pos) env whole) Q E z) ∧ (b = false → Q false z)) E s) : wpAny M A (isTrue (.BoolOp .And (t :: u :: rest) pos) env whole) Q E s :=
  isTrue_and (wpAny_mono h (fun b z q => by cases b with
    | true => exact q.1 rfl
    | false => exact q.2 rfl) fun _ _ e => e)
theorem xLast {st : Stmt} {Q : Flow → Shared → Prop} (h : wpAny M A (exec st env) Q E s) : wpAny M A (execs [st] env) Q E s :=
  wpAny_execs_cons (wpAny_mono h (fun f s' q => by cases f with
    | next => exact wpAny_execs_nil q
    | _ => exact q) fun _ _ e => e)
theorem xName {y : Str} {pos' pos : Pos} {value : Expr} {rest : List Stmt} {Q : Flow → Shared → Prop} (h : wpAny M A (eval value env) (fun v s₁ => wpAny M A (storeName env y v) (fun _ s₂ => wpAny M A (execs rest env) Q E s₂) E s₁) E s)
    (hs : swapsWith value (some (.Name y pos')) pos.line env = pure false := by with_unfolding_all rfl) : wpAny M A (execs (.Assign [.Name y pos'] value pos :: rest) env) Q E s := wpAny_execs_cons (aName h hs)
theorem xSub {o i value : Expr} {pos' pos : Pos} {rest : List Stmt} {Q : Flow → Shared → Prop}
    (h : wpAny M A (eval value env) (fun v s₁ => wpAny M A (eval o env) (fun ov s₂ => wpAny M A (eval i env) (fun iv s₃ => wpAny M A (setItem ov iv v) (fun _ s₄ => wpAny M A (execs rest env) Q E s₄) E s₃) E s₂) E s₁) E s)
    (hs : swapsWith value (some (.Subscript o i pos')) pos.line env = pure false := by with_unfolding_all rfl) : wpAny M A (execs (.Assign [.Subscript o i pos'] value pos :: rest) env) Q E s := wpAny_execs_cons (aSub h hs)
theorem xExprN {e : Expr} {pos : Pos} {rest : List Stmt} {Q : Flow → Shared → Prop} (h : wpAny M A (eval e env) (fun v s' => (∀ a, v ≠ .ref a) ∧ wpAny M A (execs rest env) Q E s') E s)
    (hi : interactive env = false := by with_unfolding_all rfl) (hs : swapsWith e none pos.line env = pure false := by with_unfolding_all rfl) : wpAny M A (execs (.Expr e pos :: rest) env) Q E s := wpAny_execs_cons (sExprN h hi hs)
theorem eIf {test body orelse : Expr} {pos : Pos} {Q : Value → Shared → Prop}
    (h : wpAny M A (isTrue test env (eval test env)) (fun b s₁ => (b = true → wpAny M A (eval body env) Q E s₁) ∧ (b = false → wpAny M A (eval orelse env) Q E s₁)) E s) : wpAny M A (eval (.IfExp test body orelse pos) env) Q E s :=
  wpAny_IfExp (wpAny_mono h (fun b _ q => by cases b <;> simp at q <;> simpa using q) fun _ _ e => e)
theorem xAugSub {o i value : Expr} {tpos pos : Pos} {op : Operator} {rest : List Stmt} {Q : Flow → Shared → Prop}
    (h : wpAny M A (eval o env) (fun ov s₁ => wpAny M A (eval i env) (fun iv s₂ => wpAny M A (getItem ov iv) (fun old s₃ => wpAny M A (eval value env) (fun v s₄ => wpAny M A (inplaceOp op old v) (fun new s₅ =>
      wpAny M A (setItem ov iv new) (fun _ s₆ => wpAny M A (execs rest env) Q E s₆) E s₅) E s₄) E s₃) E s₂) E s₁) E s)
    (hi : ∀ ov iv new, augStore i ov iv new = (do holding [new, ov, iv] (setItem ov iv new); release [new, ov, iv] []; pure .next) := by intros; with_unfolding_all rfl) :
    wpAny M A (execs (.AugAssign (.Subscript o i tpos) op value pos :: rest) env) Q E s := wpAny_execs_cons (wpAny_AugAssign_SubscriptAny h hi)
theorem xRet {e : Expr} {pos : Pos} {Q : Flow → Shared → Prop} (h : wpAny M A (eval e env) (fun v s' => Q (.ret v) s') E s) : wpAny M A (execs [.Return (some e) pos] env) Q E s := xLast (wpAny_Return_some h)
variable {i j : Int} {t u : Tok}
theorem oAdd {Q : Value → Shared → Prop} (C : Cx σ prog w g L m own s₀ s) (h : ∀ t s', Cx σ prog w g L m own s₀ s' → Q (.int (i + j) t) s') : wpAny (model prog w) A (binaryOp .Add (.int i t) (.int j u)) Q E s := add_int (h _ _ (C.tokens (Nat.le_succ _)))
theorem oIAdd {Q : Value → Shared → Prop} (C : Cx σ prog w g L m own s₀ s) (h : ∀ t s', Cx σ prog w g L m own s₀ s' → Q (.int (i + j) t) s') : wpAny (model prog w) A (inplaceOp .Add (.int i t) (.int j u)) Q E s := iadd_int (h _ _ (C.tokens (Nat.le_succ _)))
theorem oSub {Q : Value → Shared → Prop} (C : Cx σ prog w g L m own s₀ s) (h : ∀ t s', Cx σ prog w g L m own s₀ s' → Q (.int (i - j) t) s') : wpAny (model prog w) A (binaryOp .Sub (.int i t) (.int j u)) Q E s := sub_int (h _ _ (C.tokens (Nat.le_succ _)))
theorem oNeg {Q : Value → Shared → Prop} (C : Cx σ prog w g L m own s₀ s) (h : ∀ t s', Cx σ prog w g L m own s₀ s' → Q (.int (-i) t) s') : wpAny (model prog w) A (unaryOp .USub (.int i t)) Q E s := neg_int (h _ _ (C.tokens (Nat.le_succ _)))
theorem oMod {Q : Value → Shared → Prop} (C : Cx σ prog w g L m own s₀ s) (hj : 0 < j) (h : ∀ t s', Cx σ prog w g L m own s₀ s' → Q (.int (i % j) t) s') : wpAny (model prog w) A (binaryOp .Mod (.int i t) (.int j u)) Q E s :=
  mod_int' (by lia) (by rw [Int.fmod_eq_emod_of_nonneg _ (by lia)]; exact h _ _ (C.tokens (Nat.le_succ _)))
theorem oDiv {Q : Value → Shared → Prop} (C : Cx σ prog w g L m own s₀ s) (hj : 0 < j) (hp : Builtin.divisionGoesByPylong i j = false) (h : ∀ t s', Cx σ prog w g L m own s₀ s' → Q (.int (i / j) t) s') : wpAny (model prog w) A (binaryOp .FloorDiv (.int i t) (.int j u)) Q E s :=
  floordiv_int (by lia) (by rw [Int.fdiv_eq_ediv_of_nonneg _ (by lia)]; exact h _ _ (C.tokens (Nat.le_succ _))) (.inl hp)
theorem f1 {id : String} {e : Expr} {pos : Pos} {Q : Value → Shared → Prop} (h : wpAny M A (eval e env) (fun v s₁ => wpAny M A (call (.builtin id) [v]) Q E s₁) E s)
    (he : starEach [e] env = [(false, eval e env)] := by with_unfolding_all rfl) : wpAny M A (callWith pos (.builtin id) [] (backTo pos (starEach [e] env)) []) Q E s :=
  PyProof.Rows.callWith_builtin1 (sm (wpAny_mono h (fun _ _ q => spliced_none q) fun _ _ e => e) he) he rfl
theorem f2 {id : String} {e f : Expr} {pos : Pos} {Q : Value → Shared → Prop} (h : wpAny M A (eval e env) (fun v s₁ => wpAny M A (eval f env) (fun v₂ s₂ => wpAny M A (call (.builtin id) [v, v₂]) Q E s₂) E s₁) E s)
    (he : starEach [e, f] env = [(false, eval e env), (false, eval f env)] := by with_unfolding_all rfl) (he' : starEach [f] env = [(false, eval f env)] := by with_unfolding_all rfl) : wpAny M A (callWith pos (.builtin id) [] (backTo pos (starEach [e, f] env)) []) Q E s :=
  PyProof.Rows.callWith_builtin1 (sm (wpAny_mono h (fun _ _ q => sm (wpAny_mono q (fun _ _ q => spliced_none q) fun _ _ e => e) he') fun _ _ e => e) (he.trans (by rw [he']))) (he.trans (by rw [he'])) (by rw [he']; rfl)
theorem t1 {id : String} {e : Expr} {pos : Pos} {Q : Value → Shared → Prop} (h : wpAny M A (eval e env) (fun v s₁ => wpAny M A (call (.type id) [v]) Q E s₁) E s)
    (he : starEach [e] env = [(false, eval e env)] := by with_unfolding_all rfl) : wpAny M A (callWith pos (.type id) [] (backTo pos (starEach [e] env)) []) Q E s :=
  PyProof.Rows.callWith_type1 (sm (wpAny_mono h (fun _ _ q => spliced_none q) fun _ _ e => e) he) he rfl
theorem m0 {id : String} {o : Value} {pos : Pos} {Q : Value → Shared → Prop} (h : wpAny M A (call (.builtin id) [o]) Q E s) : wpAny M A (callWith pos (.builtin id) [o] (backTo pos (starEach [] env)) []) Q E s := callWith_method0 h
theorem m1 {id : String} {o : Value} {e : Expr} {pos : Pos} {Q : Value → Shared → Prop} (h : wpAny M A (eval e env) (fun v s₁ => wpAny M A (call (.builtin id) [o, v]) Q E s₁) E s)
    (he : starEach [e] env = [(false, eval e env)] := by with_unfolding_all rfl) : wpAny M A (callWith pos (.builtin id) [o] (backTo pos (starEach [e] env)) []) Q E s :=
  callWith_method1 (sm (wpAny_mono h (fun _ _ q => spliced_none q) fun _ _ e => e) he) he rfl
theorem m2 {id : String} {o : Value} {e f : Expr} {pos : Pos} {Q : Value → Shared → Prop} (h : wpAny M A (eval e env) (fun v s₁ => wpAny M A (eval f env) (fun v₂ s₂ => wpAny M A (call (.builtin id) [o, v, v₂]) Q E s₂) E s₁) E s)
    (he : starEach [e, f] env = [(false, eval e env), (false, eval f env)] := by with_unfolding_all rfl) (he' : starEach [f] env = [(false, eval f env)] := by with_unfolding_all rfl) : wpAny M A (callWith pos (.builtin id) [o] (backTo pos (starEach [e, f] env)) []) Q E s :=
  callWith_method1 (sm (wpAny_mono h (fun _ _ q => sm (wpAny_mono q (fun _ _ q => spliced_none q) fun _ _ e => e) he') fun _ _ e => e) (he.trans (by rw [he']))) (he.trans (by rw [he'])) (by rw [he']; rfl)
theorem meth {o : Expr} {name : Str} {apos pos : Pos} {args : List Expr} {Q : Value → Shared → Prop}
    (h : wpAny (model prog w) A (eval o env) (fun ov s₁ => MethodOnS prog w A E name ov pos (backTo pos (starEach args env)) Q s₁) E s)
    (hbase : attributeBase o name env (eval o env) = eval o env := by with_unfolding_all rfl)
    (hfew : ((backTo pos (starEach args env)).all (fun x => !x.1) && (backToKw pos (keywordEach [] env)).all (fun x => x.1.isSome)
      && decide (args.length + ([] : List Keyword).length + (if ([] : List Keyword).isEmpty then 0 else 1) < 30)) = true := by with_unfolding_all rfl)
    (hline : (apos.endLine == pos.line) = true := by with_unfolding_all rfl) : wpAny (model prog w) A (eval (.Call (.Attribute o name apos) args [] pos) env) Q E s := wpAny_Call_method_lateS hbase hfew hline h
theorem onList {l : Addr} {vs : List Value} {name : Str} {id : String} {pos : Pos} {args : List (Bool × Sem Value)} {Q : Value → Shared → Prop} (hl : Sh.Is prog w s.heap l (.list vs))
    (slot : Slot "list" name id) (hty : typeOf (.builtin id) = pure (.type "method_descriptor")) (h : wpAny (model prog w) A (callWith pos (.builtin id) [.ref l] args []) Q E s) : MethodOnS prog w A E name (.ref l) pos args Q s := by
  obtain ⟨n, ho⟩ := hl
  exact ⟨"list", id, F.plainAttrs_list, slot, hty, ⟨_, ho, rfl⟩, fun a e => by cases e; exact ⟨_, ho, rfl⟩, h⟩
theorem onDict {d : Addr} {kvs : List (Str × Value)} {name : Str} {id : String} {pos : Pos} {args : List (Bool × Sem Value)} {Q : Value → Shared → Prop} (hl : Sh.Is prog w s.heap d (.dict kvs))
    (slot : Slot "dict" name id) (hty : typeOf (.builtin id) = pure (.type "method_descriptor")) (h : wpAny (model prog w) A (callWith pos (.builtin id) [.ref d] args []) Q E s) : MethodOnS prog w A E name (.ref d) pos args Q s :=
  ⟨"dict", id, F.plainAttrs_dict, slot, hty, Heap.MapOf.typeIs (Heap.DictOf.mapOf hl), Heap.MapOf.noDict (Heap.DictOf.mapOf hl), h⟩
theorem onStr {y : Str} {name : Str} {id : String} {pos : Pos} {args : List (Bool × Sem Value)} {Q : Value → Shared → Prop}
    (slot : Slot "str" name id) (hty : typeOf (.builtin id) = pure (.type "method_descriptor")) (h : wpAny (model prog w) A (callWith pos (.builtin id) [.str y t] args []) Q E s) : MethodOnS prog w A E name (.str y t) pos args Q s :=
  ⟨"str", id, F.plainAttrs_str, slot, hty, typeIs_str _ _ _, (fun _ e => nomatch e), h⟩
theorem cAppend {l : Addr} {vs : List Value} {v : Value} {Q : Value → Shared → Prop} (C : Cx σ prog w g L m own s₀ s) (up : Up l (.list vs) (.list (vs ++ [v])) own own') (hn : vs.length ≤ 1000)
    (h : ∀ s', Cx σ prog w g L m own' s₀ s' → Q .none s') : wpAny (model prog w) A (call (.builtin "list.append") [.ref l, v]) Q E s := by
  obtain ⟨n, ho⟩ := C.is up.mem
  exact append_at ho (fun h' hs ho' => h _ (C.upd (tk := s.toks) up (Nat.le_refl _) hs ⟨n + 1, by simpa using ho'⟩)) (by rw [sizeLine_eq, List.size_toArray]; lia)
theorem cPopAt {l : Addr} {vs : List Value} {k : Nat} {y : Value} {Q : Value → Shared → Prop} (C : Cx σ prog w g L m own s₀ s) (hi : i = k) (hy : vs[k]? = some y) (up : Up l (.list vs) (.list (vs.eraseIdx k)) own own') (hn : vs.length ≤ 1000)
    (h : ∀ s', Cx σ prog w g L m own' s₀ s' → Q y s') : wpAny (model prog w) A (call (.builtin "list.pop") [.ref l, .int i u]) Q E s := by
  obtain ⟨n, ho⟩ := C.is up.mem
  have hk : k < vs.length := (List.getElem?_eq_some_iff.mp hy).1
  refine call_meets PySem.F.slot_list_pop ⟨_, ho, rfl⟩ PySem.F.entry_list_pop (PySem.F.args_list_pop_2 _ _) (PySem.MeetsSeq.list_pop_at l vs.toArray n i u k y ?_ ?_ (by simpa using hy) (by rw [sizeLine_eq, List.size_toArray]; lia)) ⟨ho, ?_⟩
  · simp [Builtin.List.listFitsIndex]; lia
  · subst hi
    have h1 : ¬ ((k : Int) < 0) := by lia
    have h2 : (k : Int) < (vs.length : Int) := by lia
    simp [seqIndex?, h1, h2]
  · refine h _ (C.upd (tk := s.toks) up (Nat.le_refl _) (Heap.SameBut.update ..) ⟨n + 1, ?_⟩)
    have e := mapSeq_erase vs.toArray n k (by simpa using hk)
    rw [Heap.get?_update_self _ ho (by rw [e]; rfl), e]
theorem cPop {l : Addr} {vs : List Value} {y : Value} {Q : Value → Shared → Prop} (C : Cx σ prog w g L m own s₀ s) (up : Up l (.list (vs ++ [y])) (.list vs) own own') (hn : vs.length ≤ 1000)
    (h : ∀ s', Cx σ prog w g L m own' s₀ s' → Q y s') : wpAny (model prog w) A (call (.builtin "list.pop") [.ref l]) Q E s := by
  obtain ⟨n, ho⟩ := C.is up.mem
  refine call_meets PySem.F.slot_list_pop ⟨_, ho, rfl⟩ PySem.F.entry_list_pop (PySem.F.args_list_pop_1 _) (PySem.MeetsSeq.list_pop_last l (vs ++ [y]).toArray n y (by simp) (by rw [sizeLine_eq, List.size_toArray]; simp; lia)) ⟨ho, ?_⟩
  refine h _ (C.upd (tk := s.toks) up (Nat.le_refl _) (Heap.SameBut.update ..) ⟨n + 1, ?_⟩)
  have e := mapSeq_erase (vs ++ [y]).toArray n vs.length (by simp)
  have e2 : (vs ++ [y]).toArray.size - 1 = vs.length := by simp
  rw [e2, Heap.get?_update_self _ ho (by rw [e]; rfl), e]
  simp [List.eraseIdx_append_of_length_le]
theorem cLenL {l : Addr} {vs : List Value} {Q : Value → Shared → Prop} (C : Cx σ prog w g L m own s₀ s) (hl : Sh.Is prog w s.heap l (.list vs)) (hn : vs.length ≤ 1000)
    (h : ∀ t s', Cx σ prog w g L m own s₀ s' → Q (.int vs.length t) s') : wpAny (model prog w) A (call (.builtin "len") [.ref l]) Q E s :=
  call_len_list (Sh.isL hl) (by rw [List.size_toArray]; lia) (by rw [List.size_toArray]; exact h _ _ (C.tokens (by lia)))
theorem cLenD {d : Addr} {kvs : List (Str × Value)} {Q : Value → Shared → Prop} (C : Cx σ prog w g L m own s₀ s) (hl : Sh.Is prog w s.heap d (.dict kvs)) (hd : 203 ≤ d) (hn : kvs.length ≤ 1000)
    (h : ∀ t s', Cx σ prog w g L m own s₀ s' → Q (.int kvs.length t) s') : wpAny (model prog w) A (call (.builtin "len") [.ref d]) Q E s :=
  call_len_dict (notMods hd) hl (by lia) (h _ _ (C.tokens (by lia)))
theorem eList0 {pos : Pos} {Q : Value → Shared → Prop} (C : Cx σ prog w g L m own s₀ s) (h : ∀ a s', Cx σ prog w g L m ((a, .list []) :: own) s₀ s' → Q (.ref a) s') : wpAny M A (eval (.List [] pos) env) Q E s :=
  eList (spliced_none ⟨_, _, C, by with_unfolding_all rfl, h⟩)
theorem eDict0 {pos : Pos} {Q : Value → Shared → Prop} (C : Cx σ prog w g L m own s₀ s) (h : ∀ a s', Cx σ prog w g L m ((a, .dict []) :: own) s₀ s' → Q (.ref a) s') : wpAny M A (eval (.Dict [] [] pos) env) Q E s :=
  wpAny_Dict_empty (h _ _ (C.push (tk := s.toks) (Nat.le_refl _) (Heap.DictOf.new _)))
theorem cGet2 {d : Addr} {kvs : List (Str × Value)} {k : Str} {v : Value} {Q : Value → Shared → Prop} (C : Cx σ prog w g L m own s₀ s) (hl : Sh.Is prog w s.heap d (.dict kvs)) (hd : 203 ≤ d)
    (h : ∀ s', Cx σ prog w g L m own s₀ s' → Q ((valueAt kvs k).getD v) s') : wpAny (model prog w) A (call (.builtin "dict.get") [.ref d, .str k t, v]) Q E s := by
  have hm := Heap.DictOf.mapOf hl
  exact call_meetsIn F.slot_dict_get hm.typeIs F.entry_dict_get (F.args_dict_get_3 _ _ _) (meets_dict_get_default (PySem.strKind prog w) d (k := k) kis (notMods hd) v) ⟨_, hm, h _ (C.tokens (Nat.le_succ _))⟩
theorem oNotInD {d : Addr} {kvs : List (Str × Value)} {k : Str} {Q : Value → Shared → Prop} (C : Cx σ prog w g L m own s₀ s) (hl : Sh.Is prog w s.heap d (.dict kvs)) (hd : 203 ≤ d)
    (h : ∀ s', Cx σ prog w g L m own s₀ s' → Q (.bool (!(valueAt kvs k).isSome)) s') : wpAny (model prog w) A (compareOp .NotIn (.str k t) (.ref d)) Q E s :=
  wpAny_notIn_of (knd := PySem.strKind prog w) (k := k) kis (notMods hd) (Heap.DictOf.mapOf hl) (h _ (C.tokens (Nat.le_succ _)))
theorem cMin2 {Q : Value → Shared → Prop} (C : Cx σ prog w g L m own s₀ s) (hh : A.handled = none) (h : ∀ t s', Cx σ prog w g L m own s₀ s' → Q (.int (min i j) t) s') : wpAny (model prog w) A (call (.builtin "min") [.int i t, .int j u]) Q E s :=
  wpAny_with_toks (Nat.le_refl _) (PySem.min_two_ints hh fun h' tk hk htk => by
    have e : (if j < i then Value.int j u else Value.int i t) = .int (min i j) (if j < i then u else t) := by
      by_cases q : j < i
      · rw [if_pos q, if_pos q, Int.min_eq_right (by lia)]
      · rw [if_neg q, if_neg q, Int.min_eq_left (by lia)]
    rw [e]
    exact h _ _ (C.grown ⟨fun b o _ q => hk b o q, rfl, rfl, gens_refl, htk⟩))
theorem cMax2 {Q : Value → Shared → Prop} (C : Cx σ prog w g L m own s₀ s) (hh : A.handled = none) (h : ∀ t s', Cx σ prog w g L m own s₀ s' → Q (.int (max i j) t) s') : wpAny (model prog w) A (call (.builtin "max") [.int i t, .int j u]) Q E s :=
  wpAny_with_toks (Nat.le_refl _) (PySem.max_two_ints hh fun h' tk hk htk => by
    have e : (if j > i then Value.int j u else Value.int i t) = .int (max i j) (if j > i then u else t) := by
      by_cases q : j > i
      · rw [if_pos q, if_pos q, Int.max_eq_right (by lia)]
      · rw [if_neg q, if_neg q, Int.max_eq_left (by lia)]
    rw [e]
    exact h _ _ (C.grown ⟨fun b o _ q => hk b o q, rfl, rfl, gens_refl, htk⟩))
end
end
section
open PySem PySem.W PyProof.Rows PySem.Spec PySem.Calls
variable {σ : Bool} {prog : Program} {w : World} {g h h' : Heap} {L a : Addr} {m m' : List (Str × Value)} {own own' : List (Addr × Sh)} {s₀ s s' : Shared} {sh sh' : Sh}
variable {A : Around} {E : Value → Shared → Prop} {M : Model} {env : Env} {x y : Str} {v : Value}
theorem Pg.ascii {asks : Str} {q : Nat → Nat} (P : Pg asks q) : strIterType asks = "str_ascii_iterator" := by
  unfold strIterType
  rw [if_pos]
  rw [Array.all_eq_true]
  intro i hi
  have hz := P.size
  have h1 := P.at' i (by lia)
  have h2 := P.lt i
  rw [Array.getElem?_eq_getElem hi] at h1
  have := Option.some.inj h1
  rw [this]
  exact decide_eq_true (by lia)
theorem enumAsks {asks : Str} {ta : Tok} {q : Nat → Nat} {p1 p2 pos : Pos} {k : Nat} {body : List Stmt} {Q : Flow → Shared → Prop} (P : Pg asks q) (hh : A.handled = none) (C : Cx true prog w g L m own s₀ s) (J : Nat → List (Str × Value) → List (Addr × Sh) → Prop) (h0 : J 0 m own)
    (turn : ∀ i t0 u m own z X Y e it, i < 9 → J i m own → Cx true prog w g L m ((e, X) :: (it, Y) :: own) s₀ z →
      wpAny (model prog w) A (storeName env x (.int (i : Nat) t0)) (fun _ s₁ => wpAny (model prog w) A (storeName env y (.str (sg (q i)) u)) (fun _ s₂ => wpAny (model prog w) A (execs body env) (fun fl s₃ => match fl with
        | .next | .cont => ∃ m' own', J (i + 1) m' own' ∧ Cx true prog w g L m' ((e, X) :: (it, Y) :: own') s₀ s₃
        | .brk => Q .next s₃
        | .ret v => Q (.ret v) s₃) (fun _ _ => False) s₂) (fun _ _ => False) s₁) (fun _ _ => False) z)
    (done : ∀ m own z, J 9 m own → Cx true prog w g L m own s₀ z → Q .next z) :
    wpAny (model prog w) A (call (.type "enumerate") [.str asks ta]) (fun v s₁ => wpAny (model prog w) A (pyIter v) (fun it s₂ => Loop prog w A (.Tuple [.Name x p1, .Name y p2] k pos) it body env Q E s₂) E s₁) E s := by
  refine call_enumerate_str fun h' he hi hz hk => ?_
  refine wpAny_pyIter_enum (he : IsEnum _ _ _ _ _) ?_
  rw [P.ascii] at hi
  have htop := C.top
  have C1 : Cx true prog w g L m ((s.heap.objs.size + 1, .raw (enO s.heap.objs.size 0 .none)) :: (s.heap.objs.size, .flds "str_ascii_iterator" [.str asks ta, .int 0 0]) :: own) s₀ { s with heap := h' } := by
    have C2 := C.add (a := s.heap.objs.size) (sh := .flds "str_ascii_iterator" [.str asks ta, .int 0 0]) (s' := { s with heap := h' }) (Gr.heap (Nat.le_refl _) hk) (by obtain ⟨o, ho, r1, r2⟩ := hi; exact ⟨o, ho, r1, r2⟩) (get_size _) C.top
    have hne : s.heap.get? (s.heap.objs.size + 1) = none := by
      cases q : s.heap.get? (s.heap.objs.size + 1) with
      | none => rfl
      | some o => exact absurd (Heap.lt_size q) Nat.not_succ_lt_self
    have ht2 : 203 ≤ s.heap.objs.size + 1 := Nat.le_succ_of_le htop
    have C3 := C.add (a := s.heap.objs.size + 1) (sh := .raw (enO s.heap.objs.size 0 .none)) (s' := { s with heap := h' }) (Gr.heap (Nat.le_refl _) hk) he hne ht2
    refine ⟨C2.ns, C2.keep, C2.low, C2.above, fun p hp => ?_, ?_, C2.uq, C2.os, C2.drawn, C2.gens, C2.toks⟩
    · rcases List.mem_cons.mp hp with rfl | hp
      · exact C3.its _ List.mem_cons_self
      · exact C2.its p hp
    · have n2 := C2.nd
      have n3 := C3.nd
      rw [List.map_cons, List.map_cons, List.nodup_cons]
      rw [List.map_cons, List.nodup_cons] at n3
      refine ⟨fun hm => ?_, n2⟩
      rcases List.mem_cons.mp hm with e | hm
      · exact absurd e (Nat.succ_ne_self _)
      · exact n3.1 hm
  refine loop_enum (f := fun i => [.str asks ta, .int (i : Nat) 0]) (c := "str_ascii_iterator") hh (Draws.strAscii (A := A.in1) hh s.heap.objs.size asks ta) (Nat.succ_ne_self _) (by simp) (by simp) J ?_ ?_ C1 h0 rfl rfl ?_ ?_
  · intro i h hS; obtain ⟨o, ho, r1, r2⟩ := hS; exact ⟨o, ho, r1, r2⟩
  · intro i m own z old _ C; obtain ⟨o, ho, r1, r2⟩ := C.is (List.mem_cons_of_mem _ List.mem_cons_self); exact ⟨o, ho, r1, r2⟩
  · rintro i t0 v m own old z hi ⟨c, u, hc, rfl⟩ hJ C
    have hi9 : i < 9 := by rw [P.size] at hi; exact hi
    have := P.at' i hi9
    rw [hc] at this
    cases this
    exact assignInOrder_cons (wpAny_assign_Name (wpAny_mono (turn i t0 u m own z _ _ _ _ hi9 hJ C) (fun _ s₁ h1 => assignInOrder_cons (wpAny_assign_Name (wpAny_mono h1 (fun _ s₂ h2 => assignInOrder_nil h2) fun _ _ e => e.elim))) fun _ _ e => e.elim))
  · intro m own z hJ C
    rw [P.size] at hJ
    exact done m own z hJ C
theorem sWhile {test : Expr} {body : List Stmt} {pos : Pos} {Q : Flow → Shared → Prop} (I : Nat → Shared → Prop)
    (turn : ∀ n s, I n s → wpAny (model prog w) A (isTrue test env (eval test env)) (fun b s₂ => (b = true → wpAny (model prog w) A (execs body env) (fun f s₃ => match f with
        | .next | .cont => ∃ k, k < n ∧ I k s₃
        | .brk => Q .next s₃
        | .ret v => Q (.ret v) s₃) (fun _ _ => False) s₂) ∧ (b = false → Q .next s₂)) (fun _ _ => False) s)
    (n : Nat) (h : I n s) : wpAny (model prog w) A (exec (.While test body [] pos) env) Q E s := by
  refine wpAny_While (codeAny_whileLoop I (fun n s hI => ?_) n h)
  refine wpAny_mono (turn n s hI) (fun b s₂ q => ?_) fun _ _ e => e.elim
  cases b with
  | true => exact wpAny_mono (q.1 rfl) (fun f s₃ q => by cases f <;> exact q) fun _ _ e => e.elim
  | false => exact wpAny_execs_nil (q.2 rfl)
end
section
open PySem PySem.W PyProof.Rows PySem.Spec PySem.Calls
theorem sg_inj {p r : Nat} (h : sg p = sg r) : p = r := by
  unfold sg at h
  have := congrArg (fun x => x.cps[0]?) h
  simp at this
  lia
theorem sg_eq {p r : Nat} : (sg p = sg r) = (p = r) := propext ⟨sg_inj, fun h => by rw [h]⟩

noncomputable abbrev ID := List (Str × Int)
noncomputable def ID.get (ps : ID) (k : Str) : Option Int := (ps.find? fun p => p.1 = k).map (·.2)
noncomputable def ID.put (ps : ID) (k : Str) (n : Int) : ID := if ps.any (fun p => p.1 = k) then ps.map (fun p => if p.1 = k then (p.1, n) else p) else ps ++ [(k, n)]
inductive IsID : List (Str × Value) → ID → Prop
  | nil : IsID [] []
  | cons (k : Str) (n : Int) (t : Tok) {kvs ps} : IsID kvs ps → IsID ((k, .int n t) :: kvs) ((k, n) :: ps)
theorem IsID.length {kvs : List (Str × Value)} {ps : ID} (h : IsID kvs ps) : kvs.length = ps.length := by
  induction h with
  | nil => rfl
  | cons => simp_all
theorem IsID.append {kvs kvs' : List (Str × Value)} {ps ps' : ID} (h : IsID kvs ps) (h' : IsID kvs' ps') : IsID (kvs ++ kvs') (ps ++ ps') := by
  induction h with
  | nil => exact h'
  | cons k n t _ ih => exact .cons k n t ih
theorem IsID.keys {kvs : List (Str × Value)} {ps : ID} (h : IsID kvs ps) : kvs.map (·.1) = ps.map (·.1) := by
  induction h with
  | nil => rfl
  | cons => simp_all
theorem IsID.get {kvs : List (Str × Value)} {ps : ID} (h : IsID kvs ps) (k : Str) : (∃ n t, valueAt kvs k = some (.int n t) ∧ ps.get k = some n) ∨ (valueAt kvs k = none ∧ ps.get k = none) := by
  induction h with
  | nil => exact .inr ⟨rfl, rfl⟩
  | cons k' n t _ ih =>
    by_cases e : k' = k
    · exact .inl ⟨n, t, by simp [valueAt, e], by simp [ID.get, e]⟩
    · simpa [valueAt, ID.get, e] using ih
theorem IsID.isSome {kvs : List (Str × Value)} {ps : ID} (h : IsID kvs ps) (k : Str) : (valueAt kvs k).isSome = (ps.get k).isSome := by
  rcases h.get k with ⟨n, t, e1, e2⟩ | ⟨e1, e2⟩ <;> rw [e1, e2] <;> rfl
theorem IsID.map {kvs : List (Str × Value)} {ps : ID} (h : IsID kvs ps) (k : Str) (n : Int) (t : Tok) : IsID (kvs.map (fun kv => if kv.1 = k then (kv.1, .int n t) else kv)) (ps.map (fun p => if p.1 = k then (p.1, n) else p)) := by
  induction h with
  | nil => exact .nil
  | cons k' n' t' _ ih =>
    by_cases e : k' = k
    · simpa [e] using IsID.cons k n t ih
    · simpa [e] using IsID.cons k' n' t' ih
theorem IsID.put {kvs : List (Str × Value)} {ps : ID} (h : IsID kvs ps) (k : Str) (n : Int) (t : Tok) : IsID (stored kvs k (.int n t)) (ps.put k n) := by
  have e : (kvs.any fun kv => kv.1 = k) = (ps.any fun p => p.1 = k) := by
    have := h.keys
    have h1 : (kvs.any fun kv => kv.1 = k) = ((kvs.map (·.1)).any fun x => x = k) := by rw [List.any_map]; rfl
    have h2 : (ps.any fun kv => kv.1 = k) = ((ps.map (·.1)).any fun x => x = k) := by rw [List.any_map]; rfl
    rw [h1, h2, this]
  unfold stored ID.put
  rw [e]
  by_cases q : (ps.any fun p => p.1 = k) = true
  · rw [if_pos q, if_pos q]; exact h.map k n t
  · rw [if_neg q, if_neg q]; exact h.append (.cons k n t .nil)
theorem ID.put_length (ps : ID) (k : Str) (n : Int) : (ps.put k n).length ≤ ps.length + 1 := by
  unfold ID.put; split <;> simp
theorem ID.put_new {ps : ID} {k : Str} {n : Int} (h : k ∉ ps.map (·.1)) : ps.put k n = ps ++ [(k, n)] := by
  unfold ID.put
  rw [if_neg]
  intro hc
  obtain ⟨p, hp, e⟩ := List.any_eq_true.mp hc
  exact h (List.mem_map.mpr ⟨p, hp, by simpa using e⟩)
theorem ID.new_of_nodup {ps : ID} (hn : (ps.map (·.1)).Nodup) {i : Nat} {k : Str} {n : Int} (hi : ps[i]? = some (k, n)) (p : Str × Int → Bool) : k ∉ ((ps.take i).filter p).map (·.1) := by
  intro hm
  obtain ⟨x, hx, e⟩ := List.mem_map.mp hm
  have hx := (List.mem_filter.mp hx).1
  obtain ⟨j, hj, e2⟩ := List.mem_iff_getElem.mp hx
  have hi' : i < ps.length := (List.getElem?_eq_some_iff.mp hi).1
  have hj' : j < i := by rw [List.length_take] at hj; lia
  rw [List.getElem_take] at e2
  have hh := (List.nodup_iff_pairwise_ne.mp hn)
  rw [List.pairwise_map, List.pairwise_iff_getElem] at hh
  have := hh j i (by lia) hi' hj'
  rw [e2, e] at this
  rw [List.getElem?_eq_getElem hi'] at hi
  rw [Option.some.inj hi] at this
  exact this rfl
theorem ID.take_succ {ps : ID} {i : Nat} {k : Str} {n : Int} (hi : ps[i]? = some (k, n)) (p : Str × Int → Bool) : (ps.take (i + 1)).filter p = (ps.take i).filter p ++ (if p (k, n) then [(k, n)] else []) := by
  rw [List.take_add_one, hi, List.filter_append]
  congr 1
  simp [List.filter_cons]
theorem IntsAre.toL {vs : List Value} {ns : List Int} (h : IntsAre vs ns) : IntL (fun i => ns.getD i 0) ns.length vs := by
  refine ⟨IntsAre.length h, fun i hi => ?_⟩
  obtain ⟨t, e⟩ := IntsAre.get h i ns[i] (List.getElem?_eq_getElem hi)
  exact ⟨t, by rw [e]; simp [hi]⟩
theorem ints_snoc {vs : List Value} {ns : List Int} (h : IntsAre vs ns) (n : Int) (t : Tok) : IntsAre (vs ++ [.int n t]) (ns ++ [n]) := IntsAre.append h (.cons n t .nil)
theorem ints_repl (n : Nat) (x : Int) (t : Tok) : IntsAre (List.replicate n (.int x t)) (List.replicate n x) := by
  induction n with
  | zero => exact .nil
  | succ n ih => exact .cons x t ih
theorem ints_erase {vs : List Value} {ns : List Int} (h : IntsAre vs ns) (k : Nat) : IntsAre (vs.eraseIdx k) (ns.eraseIdx k) := by
  induction h generalizing k with
  | nil => simpa using IntsAre.nil
  | cons n t h ih =>
    cases k with
    | zero => simpa using h
    | succ k => simpa using IntsAre.cons n t (ih k)

section
variable {σ : Bool} {prog : Program} {w : World} {g h h' : Heap} {L a : Addr} {m m' : List (Str × Value)} {own own' : List (Addr × Sh)} {s₀ s s' : Shared} {sh sh' : Sh}
variable {A : Around} {E : Value → Shared → Prop} {M : Model} {env : Env}
theorem deeper_handled {e : Env} (h : A.handled = none) : (A.deeper e).handled = none := h
theorem deeper_depth {e : Env} : (A.deeper e).depth = A.depth + 1 := rfl
theorem g1 (B : Bs w g) {f : Addr} {e : Expr} {pos : Pos} {Q : Value → Shared → Prop} (hk : keepIn (KK w.params) (.ref f) = true)
    (h : wpAny (model prog w) A (eval e env) (fun v s₁ => Bs w s₁.heap ∧ wpAny (model prog w) A (call (.ref f) [v]) Q E s₁) E s)
    (he : starEach [e] env = [(false, eval e env)] := by with_unfolding_all rfl) : wpAny (model prog w) A (callWith pos (.ref f) [] (backTo pos (starEach [e] env)) []) Q E s := by
  refine callWith_K (K := KK w.params) B.k hk (sm (wpAny_mono h (fun _ _ q => spliced_none ⟨q.1.k, q.2⟩) fun _ _ e => e) he) ?_ ?_
  · exact he
  · rfl
theorem g2 (B : Bs w g) {f : Addr} {e e2 : Expr} {pos : Pos} {Q : Value → Shared → Prop} (hk : keepIn (KK w.params) (.ref f) = true)
    (h : wpAny (model prog w) A (eval e env) (fun v s₁ => wpAny (model prog w) A (eval e2 env) (fun v₂ s₂ => Bs w s₂.heap ∧ wpAny (model prog w) A (call (.ref f) [v, v₂]) Q E s₂) E s₁) E s)
    (he : starEach [e, e2] env = [(false, eval e env), (false, eval e2 env)] := by with_unfolding_all rfl) (he' : starEach [e2] env = [(false, eval e2 env)] := by with_unfolding_all rfl) : wpAny (model prog w) A (callWith pos (.ref f) [] (backTo pos (starEach [e, e2] env)) []) Q E s := by
  refine callWith_K (K := KK w.params) B.k hk (sm (wpAny_mono h (fun _ _ q => sm (wpAny_mono q (fun _ _ q => spliced_none ⟨q.1.k, q.2⟩) fun _ _ e => e) he') fun _ _ e => e) (he.trans (by rw [he']))) ?_ ?_
  · exact he.trans (by rw [he'])
  · rw [he']; rfl
theorem g3 (B : Bs w g) {f : Addr} {e e2 e3 : Expr} {pos : Pos} {Q : Value → Shared → Prop} (hk : keepIn (KK w.params) (.ref f) = true)
    (h : wpAny (model prog w) A (eval e env) (fun v s₁ => wpAny (model prog w) A (eval e2 env) (fun v₂ s₂ => wpAny (model prog w) A (eval e3 env) (fun v₃ s₃ => Bs w s₃.heap ∧ wpAny (model prog w) A (call (.ref f) [v, v₂, v₃]) Q E s₃) E s₂) E s₁) E s)
    (he : starEach [e, e2, e3] env = [(false, eval e env), (false, eval e2 env), (false, eval e3 env)] := by with_unfolding_all rfl) (he' : starEach [e2, e3] env = [(false, eval e2 env), (false, eval e3 env)] := by with_unfolding_all rfl) (he'' : starEach [e3] env = [(false, eval e3 env)] := by with_unfolding_all rfl) :
    wpAny (model prog w) A (callWith pos (.ref f) [] (backTo pos (starEach [e, e2, e3] env)) []) Q E s := by
  refine callWith_K (K := KK w.params) B.k hk (sm (wpAny_mono h (fun _ _ q => sm (wpAny_mono q (fun _ _ q => sm (wpAny_mono q (fun _ _ q => spliced_none ⟨q.1.k, q.2⟩) fun _ _ e => e) he'') fun _ _ e => e) (he'.trans (by rw [he'']))) fun _ _ e => e) (he.trans (by rw [he']))) ?_ ?_
  · exact he.trans (by rw [he'])
  · rw [he']; rfl
theorem kp_bisect {P : Params} : keepIn (KK P) (.ref 156) = true := by kernel_rfl!
theorem gn_bisect {P : Params} : nsIn (KK P) mainGlobals "bisect_right" = some (some (.ref 156)) := by kernel_rfl!
end
end
section
open PySem PySem.W PyProof.Rows PySem.Spec PySem.Calls
variable {σ : Bool} {prog : Program} {w : World} {g h h' : Heap} {L a : Addr} {m m' : List (Str × Value)} {own own' : List (Addr × Sh)} {s₀ s s' : Shared} {sh sh' : Sh}
variable {A : Around} {E : Value → Shared → Prop} {M : Model} {env : Env} {x y : Str} {v : Value}

noncomputable def bis (f : Nat → Int) (x : Int) : Nat → Nat → Nat → Nat
  | 0, lo, _ => lo
  | k + 1, lo, hi => if lo < hi then (if x < f ((lo + hi) / 2) then bis f x k lo ((lo + hi) / 2) else bis f x k ((lo + hi) / 2 + 1) hi) else lo

theorem bis_out {f : Nat → Int} {x : Int} {k lo hi : Nat} (h : ¬ lo < hi) : bis f x k lo hi = lo := by
  cases k with
  | zero => rfl
  | succ k => rw [bis, if_neg h]
set_option maxHeartbeats 1000000 in
theorem bisect_spec {l : Addr} {vs : List Value} {f : Nat → Int} {n : Nat} {x : Int} {tx : Tok} {Q : Value → Shared → Prop} (B : Bs w s.heap) (hd : A.depth + 10 < recursionLimit)
    (hl : Sh.Is prog w s.heap l (.list vs)) (hv : IntL f n vs) (hn : n ≤ 100)
    (hret : ∀ t s', Gr true s s' → Q (.int (bis f x n 0 n) t) s') :
    wpAny (model prog w) A (call (.ref 156) [.ref l, .int x tx]) Q E s := by
  refine enter (σ := true) (binds := [("a", .ref l), ("x", .int x tx), ("lo", .int 0 ?t0), ("hi", .none), ("key", .none)]) B (by lia) rfl rfl (kp_binds B.k fun S => ?e) ?c1 ?c2 (by decide) rfl rfl rfl ?_
  case e => with_unfolding_all rfl
  · rfl
  · show ([Str.ofString "a", Str.ofString "x", Str.ofString "lo", Str.ofString "hi", Str.ofString "key"] : List Str).Nodup
    decide +kernel
  intro L s1 C
  have hlen := hv.1
  repeat wtm_at "w"
  with_reducible refine sWhile (fun k z => ∃ (lo hi : Nat) (t1 t2 : Tok), Cx true prog w s.heap L [("a", .ref l), ("x", .int x tx), ("lo", .int lo t1), ("hi", .int hi t2)] [] s z ∧ lo ≤ hi ∧ hi ≤ n ∧ hi - lo ≤ k ∧ bis f x n 0 n = bis f x k lo hi) ?_ n ?_
  · rintro k z ⟨lo, hi, t1, t2, C, h1, h2, h3, h4⟩
    repeat wtm_at "w"
    refine ⟨fun hb => ?_, fun hb => ?_⟩
    · have hb : (lo : Int) < hi := by first | exact of_decide_eq_true hb | simpa using hb
      obtain ⟨tm, hm⟩ := hv.2 ((lo + hi) / 2) (by lia)
      have e : ((lo : Int) + hi) / 2 = ((lo + hi) / 2 : Nat) := by lia
      repeat wtm_at "w"
      rw [e] at C ⊢
      with_reducible refine subList (v := .int (f ((lo + hi) / 2)) tm) (by wtm_at "is") (by lia) (by lia) (by rw [Int.toNat_natCast]; exact hm) ?_
      obtain ⟨k, rfl⟩ : ∃ j, k = j + 1 := ⟨k - 1, by lia⟩
      rw [bis, if_pos (by lia)] at h4
      repeat wtm_at "w"
      refine ⟨fun hc => ?_, fun hc => ?_⟩
      · have hc : x < f ((lo + hi) / 2) := by first | exact of_decide_eq_true hc | simpa using hc
        repeat wtm_at "w"
        rw [if_pos hc] at h4
        exact ⟨k, by lia, _, _, _, _, C.forget (by wtm_at "ms"), by lia, by lia, by lia, h4⟩
      · have hc : ¬ x < f ((lo + hi) / 2) := by first | exact of_decide_eq_false hc | simpa using hc
        repeat wtm_at "w"
        rw [if_neg hc] at h4
        rw [show (((lo + hi) / 2 : Nat) : Int) + 1 = (((lo + hi) / 2 + 1 : Nat) : Int) from rfl] at C
        exact ⟨k, by lia, (lo + hi) / 2 + 1, _, _, _, C.forget (by wtm_at "ms"), by lia, by lia, by lia, h4⟩
    · have hb : ¬ (lo < hi) := by first | exact of_decide_eq_false hb | simpa using hb
      repeat wtm_at "w"
      rw [bis_out hb] at h4
      rw [← h4]
      exact hret _ _ C.out
  · rw [hlen, show (0 : Int) = ((0 : Nat) : Int) from rfl] at C
    exact ⟨0, n, _, _, C.forget (by wtm_at "ms"), by lia, by lia, by lia, rfl⟩
end
section
open PySem PySem.W PyProof.Rows PySem.Spec PySem.Calls
variable {σ : Bool} {prog : Program} {w : World} {g h h' : Heap} {L a : Addr} {m m' : List (Str × Value)} {own own' : List (Addr × Sh)} {s₀ s s' : Shared} {sh sh' : Sh}
variable {A : Around} {E : Value → Shared → Prop} {M : Model} {env : Env} {x y : Str} {v : Value}

structure RowS where
  ends : List Int
  last : ID
  told : List Int
noncomputable def bisOf (ends : List Int) (x : Int) : Nat := bis (fun i => ends.getD i 0) x ends.length 0 ends.length
noncomputable def rowStep (p : Nat) (hour : Nat) (S : RowS) : RowS :=
  let b := (S.last.get (sg p)).getD (-1)
  if b < 0 then ⟨S.ends, S.last.put (sg p) hour, S.told ++ [0]⟩
  else if b + 1 = hour then ⟨S.ends, S.last.put (sg p) hour, S.told ++ [1]⟩
  else if 0 < bisOf S.ends (b + 1) then ⟨S.ends.eraseIdx (bisOf S.ends (b + 1) - 1) ++ [(hour : Int)], S.last.put (sg p) hour, S.told ++ [1]⟩
  else ⟨S.ends, S.last.put (sg p) hour, S.told ++ [0]⟩
noncomputable def rowRun (q : Nat → Nat) (places : Int) : Nat → RowS
  | 0 => ⟨List.replicate (places - 1).toNat 0, [], []⟩
  | i + 1 => rowStep (q i) i (rowRun q places i)
theorem bis_le (f : Nat → Int) (x : Int) : ∀ k lo hi, lo ≤ hi → lo ≤ bis f x k lo hi ∧ bis f x k lo hi ≤ hi
  | 0, lo, hi, h => ⟨Nat.le_refl _, h⟩
  | k + 1, lo, hi, h => by
    rw [bis]
    split
    · split
      · have := bis_le f x k lo ((lo + hi) / 2) (by lia); lia
      · have := bis_le f x k ((lo + hi) / 2 + 1) hi (by lia); lia
    · lia
theorem rowRun_len (q : Nat → Nat) (places : Int) (hp : places ≤ 3) : ∀ i, (rowRun q places i).ends.length ≤ 3 ∧ (rowRun q places i).last.length ≤ i ∧ (rowRun q places i).told.length ≤ i
  | 0 => ⟨by simp [rowRun]; lia, by simp [rowRun], by simp [rowRun]⟩
  | i + 1 => by
    obtain ⟨h1, h2, h3⟩ := rowRun_len q places hp i
    have h4 := ID.put_length (rowRun q places i).last (sg (q i)) i
    rw [rowRun, rowStep]
    split
    · exact ⟨h1, by dsimp only; lia, by simp; lia⟩
    · split
      · exact ⟨h1, by dsimp only; lia, by simp; lia⟩
      · split
        · rename_i hb
          have := bis_le (fun i_1 => (rowRun q places i).ends.getD i_1 0) (((rowRun q places i).last.get (sg (q i))).getD (-1) + 1) (rowRun q places i).ends.length 0 (rowRun q places i).ends.length (by lia)
          unfold bisOf at *
          refine ⟨?_, by dsimp only; lia, by simp; lia⟩
          dsimp only
          rw [List.length_append, List.length_eraseIdx_of_lt (by lia)]
          simp; lia
        · exact ⟨h1, by dsimp only; lia, by simp; lia⟩

inductive RowsJ (asks : Str) (ta : Tok) (places : Int) (tp : Tok) (el d l : Addr) (S : RowS) (m' : List (Str × Value)) (own' : List (Addr × Sh)) : Prop
  | mk (vsE : List Value) (kvs : List (Str × Value)) (vsT : List Value) (hm : m' = ([("asks", .str asks ta), ("places", .int places tp), ("ends", .ref el), ("last", .ref d), ("told", .ref l)] : List (Str × Value))) (ho : own' = [(l, Sh.list vsT), (d, Sh.dict kvs), (el, Sh.list vsE)])
      (h1 : IntsAre vsE S.ends) (h2 : IsID kvs S.last) (h3 : IntsAre vsT S.told) : RowsJ asks ta places tp el d l S m' own'
theorem row_next (q : Nat → Nat) (places : Int) (i : Nat) (b : Int) (S : RowS) (hS : rowRun q places i = S) (hb : (S.last.get (sg (q i))).getD (-1) = b) :
    (b < 0 → rowRun q places (i + 1) = ⟨S.ends, S.last.put (sg (q i)) i, S.told ++ [0]⟩) ∧ (¬ b < 0 → (b + 1 = i → rowRun q places (i + 1) = ⟨S.ends, S.last.put (sg (q i)) i, S.told ++ [1]⟩) ∧
      (¬ b + 1 = i → (0 < bisOf S.ends (b + 1) → rowRun q places (i + 1) = ⟨S.ends.eraseIdx (bisOf S.ends (b + 1) - 1) ++ [(i : Int)], S.last.put (sg (q i)) i, S.told ++ [1]⟩) ∧
        (¬ 0 < bisOf S.ends (b + 1) → rowRun q places (i + 1) = ⟨S.ends, S.last.put (sg (q i)) i, S.told ++ [0]⟩))) := by
  rw [rowRun, hS, rowStep]
  try dsimp only
  rw [hb]
  refine ⟨fun h => by rw [if_pos h], fun h => ⟨fun h2 => by rw [if_neg h, if_pos h2], fun h2 => ⟨fun h3 => by rw [if_neg h, if_neg h2, if_pos h3], fun h3 => by rw [if_neg h, if_neg h2, if_neg h3]⟩⟩⟩

set_option maxHeartbeats 0 in
theorem rows_spec {asks : Str} {ta : Tok} {q : Nat → Nat} {places : Int} {tp : Tok} {Q : Value → Shared → Prop} (P : Pg asks q) (B : Bs w s.heap) (hd : A.depth + 20 < recursionLimit) (hh : A.handled = none) (hp : 1 ≤ places ∧ places ≤ 3)
    (hret : ∀ a vs s', Gr true s s' → Sh.Is prog w s'.heap a (.list vs) → IntsAre vs (rowRun q places 9).told → s.heap.get? a = none → 203 ≤ a → Q (.ref a) s') :
    wpAny (model prog w) A (call (.ref 187) [.str asks ta, .int places tp]) Q E s := by
  refine enter (σ := true) (binds := [("asks", .str asks ta), ("places", .int places tp)]) B (by lia) rfl rfl (BindsTo.of_eq rfl) rfl ?_ (by decide) rfl rfl rfl ?_
  · show ([Str.ofString "asks", Str.ofString "places"] : List Str).Nodup
    decide +kernel
  intro L s1 C
  with_reducible refine wpAny_execs_cons (aName (wpAny_BinOp (eList (sm (cInt C fun tz s2 C => spliced_none ⟨_, _, C, by with_unfolding_all rfl, fun l s3 C => ?_⟩)))))
  repeat wtm_at "w"
  with_reducible refine mulList C (by wtm_at "mm") (by lia) (by lia) ?_
  intro el z C
  repeat wtm_at "w"
  have C := C.drop (own' := [(l, Sh.list []), (d, Sh.dict []), (el, Sh.list (List.replicate (places - 1).toNat (Value.int 0 tz)))]) (by wtm_at "ms")
  with_reducible (refine enumAsks P (by wtm_at "hh") C (fun i => RowsJ asks ta places tp el d l (rowRun q places i)) ?_ ?_ ?_)
  · exact ⟨_, _, _, rfl, rfl, ints_repl _ _ _, .nil, .nil⟩
  · rintro i t0 u m own z X Y e it hi ⟨vsE, kvs, vsT, rfl, rfl, h1, h2, h3⟩ C
    wtm_at "cps"
    obtain ⟨k1, k2, k3⟩ := rowRun_len q places hp.2 i
    have j1 := IntsAre.length h1
    have j2 := h2.length
    have j3 := IntsAre.length h3
    have hg : ∀ t, ∃ t', (valueAt kvs (sg (q i))).getD (.int (-1) t) = .int (((rowRun q places i).last.get (sg (q i))).getD (-1)) t' := by
      intro t
      rcases h2.get (sg (q i)) with ⟨n, t', e1, e2⟩ | ⟨e1, e2⟩
      · exact ⟨t', by rw [e1, e2]; rfl⟩
      · exact ⟨t, by rw [e1, e2]; rfl⟩
    have hN := row_next q places i _ _ rfl rfl
    generalize hb : ((rowRun q places i).last.get (sg (q i))).getD (-1) = b at *
    generalize (rowRun q places i) = S at *
    repeat wtm_at "w"
    rw [(hg _).choose_spec] at C ⊢
    repeat wtm_at "w"
    refine ⟨fun hb => ?_, fun hb => ?_⟩
    · have hb : b < 0 := by first | exact of_decide_eq_true hb | simpa using hb
      repeat wtm_at "w"
      rw [hN.1 hb]
      exact ⟨_, _, ⟨_, _, _, rfl, rfl, h1, h2.put _ _ _, ints_snoc h3 _ _⟩, C.forget (by wtm_at "ms")⟩
    · have hb : ¬ b < 0 := by first | exact of_decide_eq_false hb | simpa using hb
      have hN := hN.2 hb
      repeat wtm_at "w"
      refine ⟨fun hc => ?_, fun hc => ?_⟩
      · have hc : b + 1 = i := by first | exact of_decide_eq_true hc | simpa using hc
        repeat wtm_at "w"
        rw [hN.1 hc]
        exact ⟨_, _, ⟨_, _, _, rfl, rfl, h1, h2.put _ _ _, ints_snoc h3 _ _⟩, C.forget (by wtm_at "ms")⟩
      · have hc : ¬ b + 1 = i := by first | exact of_decide_eq_false hc | simpa using hc
        have hN := hN.2 hc
        repeat wtm_at "w"
        with_reducible refine wpAny_Call_NameR (gl (by assumption) (by assumption) gn_bisect ?_)
        with_reducible refine g2 (by assumption) kp_bisect ?_
        repeat wtm_at "w"
        refine ⟨C.bs B, ?_⟩
        with_reducible refine bisect_spec (C.bs B) (by wtm_at "dp") (by wtm_at "is") (IntsAre.toL h1) (by lia) ?_
        intro t z G
        have C := C.grown G
        repeat wtm_at "w"
        rw [show bis (fun i => S.ends.getD i 0) (b + 1) S.ends.length 0 S.ends.length = bisOf S.ends (b + 1) from rfl] at C ⊢
        have hle : bisOf S.ends (b + 1) ≤ S.ends.length := (bis_le _ _ _ _ _ (Nat.zero_le _)).2
        generalize bisOf S.ends (b + 1) = at' at C hle hN ⊢
        refine ⟨fun hd => ?_, fun hd => ?_⟩
        · have hd : 0 < at' := by first | exact of_decide_eq_true hd | simpa using hd
          rw [show (min ((at' : Nat) : Int) 1) = 1 by lia] at C
          repeat wtm_at "w"
          obtain ⟨ty, hy⟩ := IntsAre.get h1 (at' - 1) _ (List.getElem?_eq_getElem (by lia))
          with_reducible refine cPopAt (k := at' - 1) C (by lia) hy (by wtm_at "mu") (by lia) ?_
          intro z C
          have hlen : (vsE.eraseIdx (at' - 1)).length ≤ 1000 := by rw [List.length_eraseIdx_of_lt (by lia)]; lia
          repeat wtm_at "w"
          rw [hN.1 hd]
          exact ⟨_, _, ⟨_, _, _, rfl, rfl, ints_snoc (ints_erase h1 _) _ _, h2.put _ _ _, ints_snoc h3 _ _⟩, C.forget (by wtm_at "ms")⟩
        · have hd : at' = 0 := by first | exact of_decide_eq_true hd | simpa using hd
          subst hd
          rw [show (min ((0 : Nat) : Int) 1) = 0 from rfl] at C
          repeat wtm_at "w"
          rw [hN.2 (by lia)]
          exact ⟨_, _, ⟨_, _, _, rfl, rfl, h1, h2.put _ _ _, ints_snoc h3 _ _⟩, C.forget (by wtm_at "ms")⟩
  · rintro m own z ⟨vsE, kvs, vsT, rfl, rfl, h1, h2, h3⟩ C
    repeat wtm_at "w"
    have hm : (l, Sh.list vsT) ∈ [(l, Sh.list vsT), (d, Sh.dict kvs), (el, Sh.list vsE)] := by wtm_at "mm"
    exact hret l vsT _ C.out (C.is hm) h3 (C.fresh hm).1 (C.fresh hm).2
end
section
open PySem PySem.W PyProof.Rows PySem.Spec PySem.Calls
variable {σ : Bool} {prog : Program} {w : World} {g h h' : Heap} {L a : Addr} {m m' : List (Str × Value)} {own own' : List (Addr × Sh)} {s₀ s s' : Shared} {sh sh' : Sh}
variable {A : Around} {E : Value → Shared → Prop} {M : Model} {env : Env} {x y : Str} {v : Value}

structure Src (prog : Program) (w : World) (A : Around) (G : Heap → Prop) (T : Nat) (I : Addr) (n : Nat) (P : Nat → Nat → Value → Prop) (sh : Nat → Sh) : Prop where
  item : ∀ i (s : Shared) (Q : Option Value → Shared → Prop) (E : Value → Shared → Prop), i < n → T ≤ s.toks → G s.heap → (sh i).Is prog w s.heap I →
    (∀ v h' tk, P i tk v → s.toks ≤ tk → (sh (i + 1)).Is prog w h' I → (∀ b o, b ≠ I → s.heap.get? b = some o → h'.get? b = some o) → Q (some v) { s with heap := h', toks := tk }) → wpAny (model prog w) A (pyNext (.ref I)) Q E s
  done : ∀ (s : Shared) (Q : Option Value → Shared → Prop) (E : Value → Shared → Prop), G s.heap → (sh n).Is prog w s.heap I →
    (∀ h' tk, s.toks ≤ tk → (∀ b o, b ≠ I → s.heap.get? b = some o → h'.get? b = some o) → Q none { s with heap := h', toks := tk }) → wpAny (model prog w) A (pyNext (.ref I)) Q E s
  self : ∀ i (s : Shared) (Q : Value → Shared → Prop) (E : Value → Shared → Prop), G s.heap → (sh i).Is prog w s.heap I → Q (.ref I) s → wpAny (model prog w) A (pyIter (.ref I)) Q E s
theorem Src.of {G : Heap → Prop} {T : Nat} {I : Addr} {fp : List Addr} {n : Nat} {P : Nat → Value → Prop} {St : Nat → Heap → Prop} {sh : Nat → Sh} (W : Walks prog w A I fp [I] n P St)
    (h1 : ∀ i h, St i h → (sh i).Is prog w h I) (h2 : ∀ i h, G h → (sh i).Is prog w h I → St i h) : Src prog w A G T I n (fun i _ v => P i v) sh where
  item := fun i s Q E hi _ hG hI hQ => wpAny_with_toks (Nat.le_refl _) (W.item i s _ _ hi (h2 i _ hG hI) fun v h' tk hP hS hk ht => hQ v h' tk hP ht (h1 _ _ hS) fun b o hb e => hk b o (by simpa using hb) e)
  done := fun s Q E hG hI hQ => wpAny_with_toks (Nat.le_refl _) (W.done s _ _ (h2 n _ hG hI) fun h' tk hk ht => hQ h' tk ht fun b o hb e => hk b o (by simpa using hb) e)
  self := fun i s Q E hG hI hQ => W.self i s Q E (h2 i _ hG hI) hQ

noncomputable def liSh (l : Addr) (i : Nat) : Sh := .flds "list_iterator" [.ref l, .int (i : Nat) 0]
theorem Src.list {l I : Addr} {T : Nat} {vs : List Value} (hh : A.handled = none) (hne : l ≠ I) : Src prog w A (fun h => h.IsList l vs.toArray) T I vs.length (fun i _ v => vs[i]? = some v) (liSh l) := by
  have W := Walks.list (prog := prog) (w := w) (A := A) hh I l hne vs.toArray
  have e : vs.toArray.size = vs.length := by simp
  rw [e] at W
  refine Src.of (St := fun i h => h.IsListIter I l i ∧ h.IsList l vs.toArray) (fp := [I, l]) (by simpa using W) ?_ ?_
  · rintro i h ⟨⟨o, ho, r1, r2⟩, _⟩; exact ⟨o, ho, r1, by simpa using r2⟩
  · rintro i h hG ⟨o, ho, r1, r2⟩; exact ⟨⟨o, ho, r1, by simpa using r2⟩, hG⟩
noncomputable def siSh (y : Str) (t : Tok) (i : Nat) : Sh := .flds "str_ascii_iterator" [.str y t, .int (i : Nat) 0]
theorem Src.ascii {I : Addr} {y : Str} {t : Tok} {T : Nat} (hh : A.handled = none) : Src prog w A (fun _ => True) T I y.cps.size (fun i tk v => ∃ c u, y.cps[i]? = some c ∧ v = .str ⟨#[c]⟩ u ∧ u < tk ∧ T ≤ u) (siSh y t) := by
  have W := Walks.strAscii (prog := prog) (w := w) (A := A) hh I y t
  have h1 : ∀ i h, (siSh y t i).Is prog w h I → h.IsStrIter I "str_ascii_iterator" y t i := by rintro i h ⟨o, ho, r1, r2⟩; exact ⟨o, ho, r1, r2⟩
  have h2 : ∀ i h, h.IsStrIter I "str_ascii_iterator" y t i → (siSh y t i).Is prog w h I := by rintro i h ⟨o, ho, r1, r2⟩; exact ⟨o, ho, r1, r2⟩
  refine ⟨fun i s Q E hi hT _ hI hQ => ?_, fun s Q E _ hI hQ => wpAny_with_toks (Nat.le_refl _) (W.done s _ _ (h1 _ _ hI) fun h' tk hk ht => hQ h' tk ht fun b o hb e => hk b o (by simpa using hb) e), fun i s Q E _ hI hQ => W.self i s Q E (h1 _ _ hI) hQ⟩
  refine wpAny_pyNext_ascii_item (h1 _ _ hI) (c := y.cps[i]) (by simp [hi]) fun h' hit' hs' => ?_
  exact hQ _ h' (s.toks + 1) ⟨_, _, by simp [hi], rfl, Nat.lt_succ_self _, hT⟩ (Nat.le_succ _) (h2 _ _ hit') fun b o hb e => hs'.extBut b o hb e

theorem itList {l : Addr} {vs : List Value} {Q : Value → Shared → Prop} (C : Cx σ prog w g L m own s₀ s) (hl : Sh.Is prog w s.heap l (.list vs))
    (h : ∀ I s', l ≠ I → Cx σ prog w g L m ((I, liSh l 0) :: own) s₀ s' → Q (.ref I) s') : wpAny (model prog w) A (pyIter (.ref l)) Q E s :=
  wpAny_pyIter_list (Sh.isL hl) (h _ _ (fun e => Nat.lt_irrefl _ (by have := hl.lt; rw [e] at this; exact this)) (C.push (tk := s.toks) (Nat.le_refl _) ⟨_, Heap.get?_push_size _ rfl, rfl, rfl⟩))
theorem itStr {y : Str} {t : Tok} {Q : Value → Shared → Prop} (C : Cx σ prog w g L m own s₀ s) (ha : strIterType y = "str_ascii_iterator")
    (h : ∀ I s', Cx σ prog w g L m ((I, siSh y t 0) :: own) s₀ s' → Q (.ref I) s') : wpAny (model prog w) A (pyIter (.str y t)) Q E s :=
  wpAny_pyIter_strU (h _ _ (C.push (tk := s.toks) (Nat.le_refl _) ⟨_, Heap.get?_push_size _ rfl, by rw [ha], rfl⟩))

inductive SrJ (σ : Bool) (prog : Program) (w : World) (g : Heap) (L : Addr) (s₀ : Shared) (I : Addr) (sh : Nat → Sh) (J : Nat → List (Str × Value) → List (Addr × Sh) → Prop) (n r : Nat) (s : Shared) : Prop
  | mk (i : Nat) (m : List (Str × Value)) (own : List (Addr × Sh)) (hi : i + r = n) (hJ : J i m own) (C : Cx σ prog w g L m ((I, sh i) :: own) s₀ s) : SrJ σ prog w g L s₀ I sh J n r s
theorem loop_src {G : Heap → Prop} {T : Nat} {I : Addr} {n : Nat} {P : Nat → Nat → Value → Prop} {sh : Nat → Sh} {target : Expr} {body : List Stmt} {Q : Flow → Shared → Prop} (S : Src prog w A G T I n P sh) (hT : T ≤ s₀.toks)
    (J : Nat → List (Str × Value) → List (Addr × Sh) → Prop) (hG : ∀ i m own z, J i m own → Cx σ prog w g L m ((I, sh i) :: own) s₀ z → G z.heap)
    (C : Cx σ prog w g L m ((I, sh 0) :: own) s₀ s) (h0 : J 0 m own)
    (turn : ∀ i v m own z, i < n → P i z.toks v → J i m own → Cx σ prog w g L m ((I, sh (i + 1)) :: own) s₀ z →
      wpAny (model prog w) A (letOwnedTupleGo target (.ref I) v) (fun _ s₁ => wpAny (model prog w) A (assign target env v) (fun _ s₂ => wpAny (model prog w) A (execs body env) (fun fl s₃ => match fl with
        | .next | .cont => ∃ m' own', J (i + 1) m' own' ∧ Cx σ prog w g L m' ((I, sh (i + 1)) :: own') s₀ s₃
        | .brk => Q .next s₃
        | .ret v => Q (.ret v) s₃) (fun _ _ => False) s₂) (fun _ _ => False) s₁) (fun _ _ => False) z)
    (done : ∀ m own z, J n m own → Cx σ prog w g L m own s₀ z → Q .next z) : Loop prog w A target (.ref I) body env Q E s := by
  refine codeAny_forLoop_any (SrJ σ prog w g L s₀ I sh J n) (fun r z ⟨i, m, own, hi, hJ, C⟩ => ?_) n ⟨0, m, own, by lia, h0, C⟩
  have hg := hG i m own z hJ C
  by_cases hin : i < n
  · refine S.item i z _ _ hin (Nat.le_trans hT C.toks) hg (C.is List.mem_cons_self) fun v h' tk hP ht hS hk => ?_
    refine wpAny_mono (turn i v m own _ hin hP hJ (C.next Up.head ht hk hS)) (fun _ s₁ q => wpAny_mono q (fun _ s₂ q => wpAny_mono q (fun f s₃ q => ?_) (fun _ _ e => e.elim)) (fun _ _ e => e.elim)) (fun _ _ e => e.elim)
    cases f with
    | next => obtain ⟨m', own', q1, q2⟩ := q; exact ⟨r - 1, by lia, i + 1, m', own', by lia, q1, q2⟩
    | cont => obtain ⟨m', own', q1, q2⟩ := q; exact ⟨r - 1, by lia, i + 1, m', own', by lia, q1, q2⟩
    | brk => exact q
    | ret v => exact q
  · have hin' : i = n := by lia
    subst hin'
    refine S.done z _ _ hg (C.is List.mem_cons_self) fun h' tk ht hk => ?_
    exact wpAny_execs_nil (done m own _ hJ (C.gone ht hk))
theorem Cx.poke (C : Cx σ prog w g L [] own s₀ s) {c : Addr} (hs : Heap.SameBut c s.heap h') (hg : g.get? c = none) (hne : ∀ p ∈ own, p.1 ≠ c) {tk : Nat} (ht : s.toks ≤ tk) : Cx σ prog w g L [] own s₀ { s with heap := h', toks := tk } :=
  ⟨.inl rfl, fun b o t e => (hs.2 b (by rintro rfl; rw [hg] at e; cases e)).trans (C.keep b o t e), C.low, .inl rfl,
    fun p hp => ⟨(C.its p hp).1.at fun o e => (hs.2 _ (hne p hp)).trans e, (C.its p hp).2.1, .inl rfl⟩, C.nd, List.nodup_nil, C.os, C.drawn, C.gens, Nat.le_trans C.toks ht⟩
theorem Cx.framed (C : Cx σ prog w g L [] own s₀ s) {c : Addr} {f : Str → Option Value} (hn : s.heap.Ns c f) (hf : f x = some v) (hg : g.get? c = none) (h3 : 203 ≤ c) (hne : ∀ p ∈ own, p.1 ≠ c) : Cx σ prog w g c [(x, v)] own s₀ s :=
  ⟨.inr ⟨f, hn, fun y u hm => by rw [List.mem_singleton] at hm; cases hm; exact hf⟩, C.keep, C.low, .inr ⟨hg, h3⟩, fun p hp => ⟨(C.its p hp).1, (C.its p hp).2.1, .inr (hne p hp)⟩, C.nd, by simp, C.os, C.drawn, C.gens, C.toks⟩
theorem Cx.unframed (C : Cx σ prog w g L m own s₀ s) : Cx σ prog w g a [] own s₀ s :=
  ⟨.inl rfl, C.keep, C.low, .inl rfl, fun p hp => ⟨(C.its p hp).1, (C.its p hp).2.1, .inl rfl⟩, C.nd, List.nodup_nil, C.os, C.drawn, C.gens, C.toks⟩
theorem Cx.inner {I : Addr} (C : Cx σ prog w g L m ((I, sh) :: own) s₀ s) : Cx true prog w (s.heap.hide I) a [] [(I, sh)] s s := by
  obtain ⟨h1, h2, _⟩ := C.its _ List.mem_cons_self
  obtain ⟨o, ho⟩ := C.low
  refine ⟨.inl rfl, fun b o _ e => Heap.of_hide e, ⟨o, ?_⟩, .inl rfl, fun p hp => ?_, by simp, List.nodup_nil, rfl, rfl, rfl, Nat.le_refl _⟩
  · have h3 : 203 ≤ I := h2.2
    rw [Heap.hide_ne _ (show (202 : Nat) ≠ I from fun e => by rw [← e] at h3; exact absurd h3 (by decide))]
    exact C.keep 202 o (off rfl) ho
  · rw [List.mem_singleton] at hp; subst hp
    exact ⟨h1, ⟨Heap.hide_self .., h2.2⟩, .inl rfl⟩
theorem hide_size (h : Heap) (I : Addr) : (h.hide I).objs.size = h.objs.size := Heap.hide_size h I
theorem Cx.outer {I : Addr} {L' : Addr} {m₁ : List (Str × Value)} {own₁ : List (Addr × Sh)} {s₂ : Shared} (C : Cx σ prog w g L m ((I, sh) :: own) s₀ s) (D : Cx true prog w (s.heap.hide I) L' m₁ own₁ s s₂) : Cx σ prog w g L m own s₀ s₂ := by
  have e : s₂ = { s with heap := s₂.heap, toks := s₂.toks } := by
    have h1 := D.os
    have h2 := D.drawn
    have h3 : s₂.gens = s.gens := by simpa using D.gens
    obtain ⟨a, b, c, d, e⟩ := s₂
    dsimp only at h1 h2 h3
    subst h1 h2 h3
    rfl
  rw [e]
  exact C.gone D.toks fun b o hb q => D.keep b o rfl (by rw [Heap.hide_ne _ hb]; exact q)
theorem Cx.outer_add {I D : Addr} {L' : Addr} {m₁ : List (Str × Value)} {s₂ : Shared} {sh₂ : Sh} {own₁ : List (Addr × Sh)} (C : Cx σ prog w g L m ((I, sh) :: own) s₀ s) (X : Cx true prog w (s.heap.hide I) L' m₁ ((D, sh₂) :: own₁) s s₂) (hD : D ≠ I) : Cx σ prog w g L m ((D, sh₂) :: own) s₀ s₂ := by
  obtain ⟨h1, h2, _⟩ := X.its _ List.mem_cons_self
  have hn : s.heap.get? D = none := by rw [← Heap.hide_ne s.heap hD]; exact h2.1
  have Y := C.outer X
  have hL : m = [] ∨ D ≠ L := by
    rcases C.ns with e | ⟨_, ⟨o, _, _, ho, _⟩, _⟩
    · exact .inl e
    · refine .inr ?_
      rintro rfl
      rw [hn] at ho; cases ho
  have hg : g.get? D = none := by
    cases q : g.get? D with
    | none => rfl
    | some o => rw [C.keep D o (off (tab_ge h2.2)) q] at hn; cases hn
  refine ⟨Y.ns, Y.keep, Y.low, Y.above, fun p hp => ?_, ?_, Y.uq, Y.os, Y.drawn, Y.gens, Y.toks⟩
  · rcases List.mem_cons.mp hp with rfl | hp
    · exact ⟨h1, ⟨hg, h2.2⟩, hL⟩
    · exact Y.its p hp
  · rw [List.map_cons]
    refine List.nodup_cons.mpr ⟨fun hm => ?_, Y.nd⟩
    obtain ⟨p, hp, e⟩ := List.mem_map.mp hm
    obtain ⟨o, ho⟩ := (C.its p (List.mem_cons_of_mem _ hp)).1.has
    rw [show p.1 = D from e, hn] at ho
    cases ho

noncomputable abbrev Tests (prog : Program) (w : World) (A : Around) (ifs : List Expr) (e : Env) (Q : Bool → Shared → Prop) (s : Shared) : Prop :=
  wpAny (model prog w) A (forIn ifs true fun c r => if r = true then do let ok ← isTrue c e (eval c e); pure (ForInStep.yield ok) else pure (ForInStep.yield r)) Q (fun _ _ => False) s
theorem tests0 {e : Env} {Q : Bool → Shared → Prop} (h : Q true s) : Tests prog w A [] e Q s := by
  unfold Tests
  rw [List.forIn_nil]
  exact wpAny_pure h
theorem tests1 {c : Expr} {e : Env} {Q : Bool → Shared → Prop} (h : wpAny (model prog w) A (isTrue c e (eval c e)) Q (fun _ _ => False) s) : Tests prog w A [c] e Q s := by
  unfold Tests
  rw [List.forIn_cons]
  simp only [if_true]
  refine wpAny_bind (wpAny_bind (wpAny_mono h (fun b z q => wpAny_pure ?_) fun _ _ e => e))
  show wpAny _ _ (forIn [] b _) _ _ _
  rw [List.forIn_nil]
  exact wpAny_pure q

theorem with_toks' {α : Type} {M : Model} {e : Sem α} {Q : α → Shared → Prop} (h : wpAny M A e Q (fun _ _ => False) s) : wpAny M A e (fun a s' => s.toks ≤ s'.toks ∧ Q a s') (fun _ _ => False) s :=
  wpAny_with_toks (Nat.le_refl _) (wpAny_mono h (fun _ _ q ht => ⟨ht, q⟩) fun _ _ e => e.elim)
inductive LtP (prog : Program) (w : World) (s₂ : Shared) (I c D : Addr) (x : Str) (v : Value) (ys : List Value) (shI : Sh) (b : Bool) (ok : Bool) (z' : Shared) : Prop
  | mk (h : ok = b) (own' : List (Addr × Sh)) (hs : [(D, Sh.list ys), (I, shI)].Sublist own') (hC : Cx true prog w (s₂.heap.hide I) c [(x, v)] own' s₂ z') : LtP prog w s₂ I c D x v ys shI b ok z'
inductive LeP (prog : Program) (w : World) (s₂ : Shared) (I c D : Addr) (x : Str) (v : Value) (ys : List Value) (shI : Sh) (F : Value → Value → Prop) (y : Value) (z' : Shared) : Prop
  | mk (h : F v y) (own' : List (Addr × Sh)) (hs : [(D, Sh.list ys), (I, shI)].Sublist own') (hC : Cx true prog w (s₂.heap.hide I) c [(x, v)] own' s₂ z') : LeP prog w s₂ I c D x v ys shI F y z'
inductive LcG (σ : Bool) (prog : Program) (w : World) (g : Heap) (L : Addr) (s₀ : Shared) (A : Around) (p : Value → Bool) (F : Value → Value → Prop) (x : Str) (elt : Expr) (ifs : List Expr) (scope : Scope) (cl : List (Str × Addr)) (env : Env) (Q : Value → Shared → Prop) (it : Value) (s₂ : Shared) : Prop
  | mk (G : Heap → Prop) (T : Nat) (I : Addr) (n : Nat) (P : Nat → Nat → Value → Prop) (sh : Nat → Sh) (own : List (Addr × Sh)) (m : List (Str × Value)) (hit : it = .ref I) (hT : T ≤ s₂.toks) (hS : Src prog w A G T I n P sh) (hmo : ∀ i tk tk' v, tk ≤ tk' → P i tk v → P i tk' v) (hn : n ≤ 1000) (hG : ∀ z : Heap, (∀ b o, b ≠ I → s₂.heap.get? b = some o → z.get? b = some o) → G z) (hC : Cx σ prog w g L m ((I, sh 0) :: own) s₀ s₂) (ht : ∀ c i v z D ys, P i z.toks v → Cx true prog w (s₂.heap.hide I) c [(x, v)] [(D, .list ys), (I, sh (i + 1))] s₂ z →
        Tests prog w A ifs (compEnvC scope cl c env) (LtP prog w s₂ I c D x v ys (sh (i + 1)) (p v)) z) (he : ∀ c i v z D ys, P i z.toks v → p v = true → Cx true prog w (s₂.heap.hide I) c [(x, v)] [(D, .list ys), (I, sh (i + 1))] s₂ z →
        wpAny (model prog w) A (eval elt (compEnvC scope cl c env)) (LeP prog w s₂ I c D x v ys (sh (i + 1)) F) (fun _ _ => False) z) (hf : ∀ D ys (vs : List Value) z, Cx σ prog w g L m ((D, .list ys) :: own) s₀ z → vs.length = n → (∀ j v, vs[j]? = some v → ∃ tk, P j tk v) → Paired F (vs.filter p) ys → Q (.ref D) z) : LcG σ prog w g L s₀ A p F x elt ifs scope cl env Q it s₂
inductive LcAG (σ : Bool) (prog : Program) (w : World) (g : Heap) (L : Addr) (s₀ : Shared) (A : Around) (p : Value → Bool) (F : Value → Value → Prop) (x y : Str) (elt : Expr) (ifs : List Expr) (scope : Scope) (cl : List (Str × Addr)) (env : Env) (Q : Flow → Shared → Prop) (E : Value → Shared → Prop) (it : Value) (s₂ : Shared) : Prop
  | mk (G : Heap → Prop) (T : Nat) (I : Addr) (n : Nat) (P : Nat → Nat → Value → Prop) (sh : Nat → Sh) (own : List (Addr × Sh)) (m : List (Str × Value)) (hit : it = .ref I) (hT : T ≤ s₂.toks) (hS : Src prog w A G T I n P sh) (hmo : ∀ i tk tk' v, tk ≤ tk' → P i tk v → P i tk' v) (hn : n ≤ 1000) (hG : ∀ z : Heap, (∀ b o, b ≠ I → s₂.heap.get? b = some o → z.get? b = some o) → G z) (hC : Cx σ prog w g L m ((I, sh 0) :: own) s₀ s₂) (ht : ∀ c i v z D ys, P i z.toks v → Cx true prog w (s₂.heap.hide I) c [(x, v)] [(D, .list ys), (I, sh (i + 1))] s₂ z →
        Tests prog w A ifs (compEnvC scope cl c env) (LtP prog w s₂ I c D x v ys (sh (i + 1)) (p v)) z) (he : ∀ c i v z D ys, P i z.toks v → p v = true → Cx true prog w (s₂.heap.hide I) c [(x, v)] [(D, .list ys), (I, sh (i + 1))] s₂ z →
        wpAny (model prog w) A (eval elt (compEnvC scope cl c env)) (LeP prog w s₂ I c D x v ys (sh (i + 1)) F) (fun _ _ => False) z) (hf : ∀ D ys (vs : List Value) z c oc, Cx σ prog w g L m ((c, .raw oc) :: (D, .list ys) :: own) s₀ z → vs.length = n → (∀ j v, vs[j]? = some v → ∃ tk, P j tk v) → Paired F (vs.filter p) ys →
        wpAny (model prog w) A (storeName env y (.ref D)) (fun _ z' => ∃ m' own', Cx σ prog w g L m' ((c, .raw oc) :: own') s₀ z' ∧ ∀ z'', Cx σ prog w g L m' own' s₀ z'' → Q .next z'') E z) : LcAG σ prog w g L s₀ A p F x y elt ifs scope cl env Q E it s₂
inductive LoJ (prog : Program) (w : World) (s₂ : Shared) (I D c : Addr) (n : Nat) (P : Nat → Nat → Value → Prop) (sh : Nat → Sh) (p : Value → Bool) (F : Value → Value → Prop) (k : Nat) (z : Shared) : Prop
  | mk (ys vs : List Value) (f : Str → Option Value) (h0 : k = n + 1 - vs.length) (h1 : vs.length ≤ n) (h2 : ys.length ≤ vs.length) (h3 : Cx true prog w (s₂.heap.hide I) 0 [] [(D, .list ys), (I, sh vs.length)] s₂ z) (h4 : z.heap.Ns c f) (h5 : (∀ j v, vs[j]? = some v → ∃ tk, P j tk v)) (h6 : Paired F (vs.filter p) ys) : LoJ prog w s₂ I D c n P sh p F k z
theorem lcore {elt iter : Expr} {px : Pos} {ifs : List Expr} {scope : Scope} {cl : List (Str × Addr)} {pos : Pos} {s₂ : Shared} (p : Value → Bool) (F : Value → Value → Prop) {RR : Value → Addr → Result → Shared → Prop}
    (hcell : ∀ y ∈ scope.names, y.2 ≠ .cell) (hkind : scope.kind = .function) (hx : scope.names.lookup x = some .local)
    {G : Heap → Prop} {T : Nat} {I : Addr} {n : Nat} {P : Nat → Nat → Value → Prop} {sh : Nat → Sh} (hT : T ≤ s₂.toks) (S : Src prog w A G T I n P sh) (hmo : ∀ i tk tk' v, tk ≤ tk' → P i tk v → P i tk' v) (hn : n ≤ 1000)
    (hG : ∀ z : Heap, (∀ b o, b ≠ I → s₂.heap.get? b = some o → z.get? b = some o) → G z) (C : Cx σ prog w g L m ((I, sh 0) :: own) s₀ s₂)
    (ht : ∀ c i v z D ys, P i z.toks v → Cx true prog w (s₂.heap.hide I) c [(x, v)] [(D, .list ys), (I, sh (i + 1))] s₂ z →
        Tests prog w A ifs (compEnvC scope cl c env) (LtP prog w s₂ I c D x v ys (sh (i + 1)) (p v)) z)
    (he : ∀ c i v z D ys, P i z.toks v → p v = true → Cx true prog w (s₂.heap.hide I) c [(x, v)] [(D, .list ys), (I, sh (i + 1))] s₂ z →
        wpAny (model prog w) A (eval elt (compEnvC scope cl c env)) (LeP prog w s₂ I c D x v ys (sh (i + 1)) F) (fun _ _ => False) z)
    (hf : ∀ D c f ys (vs : List Value) z, Cx true prog w (s₂.heap.hide I) 0 [] [(D, .list ys)] s₂ z → z.heap.Ns c f → (s₂.heap.hide I).get? c = none → 203 ≤ c → c ≠ D → c ≠ I → D ≠ I → vs.length = n → (∀ j v, vs[j]? = some v → ∃ tk, P j tk v) → Paired F (vs.filter p) ys → RR (.ref D) c (.ok .next) z) :
    wpAny (model prog w) A (newList []) (fun acc s₃ => wpAny (model prog w) A (newFunctionEnv scope env.globals cl [] env.qual none .none (some env)) (fun cenv s₄ =>
      codeAny (model prog w) A (.compStart (.ListComp elt [⟨.Name x px, iter, ifs, 0⟩] scope pos) 0 (.ref I) acc { cenv with scope := relabel scope env }) (RR acc cenv.locals) s₄) E s₃) E s₂ := by
  have C1 := C.inner (a := 0)
  refine wpAny_newObj_type (wpAny_newFunctionEnv hcell (by intro y hy; simp at hy) (fun h₁ hns hsb => ?_) hkind)
  have C2 := C1.push (sh := .list []) (o := { cls := .type "list", dict := none, data := .seq ([] : List Value).toArray }) (tk := s₂.toks) (Nat.le_refl _) ⟨0, Heap.get?_push_size _ rfl⟩
  dsimp only at hns hsb ⊢
  generalize hD : s₂.heap.objs.size = D at C2 ⊢
  generalize hc : (s₂.heap.push { cls := .type "list", dict := none, data := .seq ([] : List Value).toArray }).objs.size = c at hns hsb ⊢
  have hcs : c = D + 1 := by rw [← hc, Heap.size_push, hD]
  have hID : I < D := by rw [← hD]; exact (C.is List.mem_cons_self).lt
  have hcD : c ≠ D := by rw [hcs]; exact Nat.succ_ne_self D
  have hcI : c ≠ I := by rw [hcs]; exact Nat.ne_of_gt (Nat.lt_succ_of_lt hID)
  have hDI : D ≠ I := Nat.ne_of_gt hID
  have hap : ∀ {sh1 sh2 : Sh}, ∀ p ∈ [(D, sh1), (I, sh2)], p.1 ≠ c := by
    intro _ _ p hp
    rcases List.mem_cons.mp hp with rfl | hp
    · exact hcD.symm
    · rw [List.mem_singleton] at hp; subst hp; exact hcI.symm
  have hap1 : ∀ {sh1 : Sh}, ∀ p ∈ [(D, sh1)], p.1 ≠ c := by
    intro _ p hp
    rw [List.mem_singleton] at hp; subst hp; exact hcD.symm
  have hg : (s₂.heap.hide I).get? c = none := by
    cases q : (s₂.heap.hide I).get? c with
    | none => rfl
    | some o => have := Heap.lt_size q; rw [hide_size, hD, hcs] at this; exact absurd this (Nat.not_lt.mpr (Nat.le_succ _))
  have hc3 : 203 ≤ c := by have := C.top; lia
  have C3 : Cx true prog w (s₂.heap.hide I) 0 [] [(D, .list []), (I, sh 0)] s₂ { s₂ with heap := h₁, toks := s₂.toks + ([] : List (Str × Value)).length } := by
    have C2' := C2.grown (s' := { s₂ with heap := (s₂.heap.push { cls := .type "list", dict := none, data := .seq ([] : List Value).toArray }).push { cls := .type (if (some env).isSome then "dict" else "frame"), data := .dict #[] }, toks := s₂.toks }) (Gr.push (tk := s₂.toks) (Nat.le_refl _))
    exact C2'.poke hsb hg hap (Nat.le_refl _)
  have loop : codeAny (model prog w) A (.compLoop (.ListComp elt [⟨.Name x px, iter, ifs, 0⟩] scope pos) 0 (.ref I) (.ref D) (compEnvC scope cl c env)) (RR (.ref D) c)
      { s₂ with heap := h₁, toks := s₂.toks + ([] : List (Str × Value)).length } := by
    refine codeAny_compLoop_tests (LoJ prog w s₂ I D c n P sh p F) ?_ (n + 1) ⟨[], [], _, rfl, Nat.zero_le _, Nat.le_refl _, C3, hns, by simp, by simpa using Paired.nil⟩
    rintro k z ⟨ys, vs, f, rfl, hl, hyl, Cz, hnz, hP, hF⟩
    have keepI : ∀ b o, b ≠ I → s₂.heap.get? b = some o → z.heap.get? b = some o := fun b o hb q => Cz.keep b o rfl (by rw [Heap.hide_ne _ hb]; exact q)
    have hIo : (I, sh vs.length) ∈ [(D, Sh.list ys), (I, sh vs.length)] := List.mem_cons_of_mem _ List.mem_cons_self
    by_cases hlt : vs.length < n
    · refine S.item _ z _ _ hlt (Nat.le_trans hT Cz.toks) (hG _ keepI) (Cz.is hIo) fun v h' tk hPv htk hS hk => ?_
      have Cy : Cx true prog w (s₂.heap.hide I) 0 [] [(D, .list ys), (I, sh (vs.length + 1))] s₂ { z with heap := h', toks := tk } := Cz.next (.tail .head) htk hk hS
      have hny : h'.Ns c f := let ⟨o, es, ep, e, r⟩ := hnz; ⟨o, es, ep, hk _ _ hcI e, r⟩
      refine wpAny_assign_Name (wpAny_storeName_local (lookup_relabel_local hx) hny (fun h2 hn2 hs2 => ?_) (by simp [compEnvC, relabel, hkind]))
      have Cx2 : Cx true prog w (s₂.heap.hide I) 0 [] [(D, .list ys), (I, sh (vs.length + 1))] s₂ { z with heap := h2, toks := tk + 1 } := Cy.poke hs2 hg hap (Nat.le_succ _)
      have Cf := Cx2.framed (x := x) (v := v) hn2 (by simp) hg hc3 hap
      have hP' : ∀ j u, (vs ++ [v])[j]? = some u → ∃ tk, P j tk u := fun j u hj => by
        rcases Nat.lt_trichotomy j vs.length with q | q | q
        · exact hP j u (by rwa [List.getElem?_append_left q] at hj)
        · subst q; simp at hj; subst hj; exact ⟨_, hPv⟩
        · rw [List.getElem?_eq_none (by simp; lia)] at hj; cases hj
      refine wpAny_mono (with_toks' (ht c _ v _ D ys (hmo _ _ _ _ (Nat.le_succ _) hPv) Cf)) (fun ok z3 q => ?_) fun _ _ e => e.elim
      obtain ⟨htk3, rfl, own3, hsub, C3⟩ := q
      have C3 := C3.drop hsub
      cases hpv : p v with
      | false =>
        simp only [Bool.false_eq_true, if_false]
        obtain ⟨f3, hn3, _⟩ := C3.ns.resolve_left (List.cons_ne_nil _ _)
        refine ⟨n + 1 - (vs.length + 1), by lia, ys, vs ++ [v], f3, by simp, by simp; lia, by simp; lia, by simpa using C3.unframed, hn3, hP', ?_⟩
        rw [List.filter_append]; simpa [hpv] using hF
      | true =>
        simp only [if_true]
        refine wpAny_mono (he c _ v _ D ys (hmo _ _ _ _ (Nat.le_trans (Nat.le_succ _) htk3) hPv) hpv C3) (fun y z4 q => ?_) fun _ _ e => e.elim
        obtain ⟨hFy, own4, hsub, C4⟩ := q
        have C4 := C4.drop hsub
        obtain ⟨n4, ho⟩ := C4.is (List.mem_cons_self)
        refine append_at ho (fun h5 hs5 ho5 => ?_) (by rw [sizeLine_eq, List.size_toArray]; lia)
        have C5 : Cx true prog w (s₂.heap.hide I) c [(x, v)] [(D, .list (ys ++ [y])), (I, sh (vs.length + 1))] s₂ { z4 with heap := h5 } := C4.upd (tk := z4.toks) .head (Nat.le_refl _) hs5 ⟨n4 + 1, by simpa using ho5⟩
        obtain ⟨f5, hn5, _⟩ := C5.ns.resolve_left (List.cons_ne_nil _ _)
        refine ⟨n + 1 - (vs.length + 1), by lia, ys ++ [y], vs ++ [v], f5, by simp, by simp; lia, by simp; lia, by simpa using C5.unframed, hn5, hP', ?_⟩
        rw [List.filter_append]; simpa [hpv] using Paired.snoc hF hFy
    · have hin : vs.length = n := by lia
      refine S.done z _ _ (hG _ keepI) (hin ▸ Cz.is hIo) fun h' tk htk hk => ?_
      have Cy : Cx true prog w (s₂.heap.hide I) 0 [] [(D, .list ys)] s₂ { z with heap := h', toks := tk } := by
        have C6 : Cx true prog w (s₂.heap.hide I) 0 [] [(I, sh vs.length), (D, .list ys)] s₂ z := ⟨.inl rfl, Cz.keep, Cz.low, .inl rfl, fun p hp => Cz.its p (by simp at hp ⊢; exact hp.symm), by have := Cz.nd; simp at this ⊢; exact Ne.symm this, List.nodup_nil, Cz.os, Cz.drawn, Cz.gens, Cz.toks⟩
        exact C6.gone htk hk
      have hny : h'.Ns c f := let ⟨o, es, ep, e, r⟩ := hnz; ⟨o, es, ep, hk _ _ hcI e, r⟩
      exact hf D c f ys vs _ Cy hny hg hc3 hcD hcI hDI hin hP hF
  exact codeAny_compStart_list loop (S.self 0 _ _ _ (hG _ fun b o _ e => by
    exact hsb.extBut b o (by intro e'; subst e'; have := Heap.lt_size e; rw [hD, hcs] at this; exact absurd this (Nat.not_lt.mpr (Nat.le_succ _))) (Heap.get?_push_of_some _ (Heap.get?_push_of_some _ e))) (C3.is (List.mem_cons_of_mem _ List.mem_cons_self)) loop)
theorem lcomp {elt iter : Expr} {px : Pos} {ifs : List Expr} {scope : Scope} {cl : List (Str × Addr)} {pos : Pos} {Q : Value → Shared → Prop} (p : Value → Bool) (F : Value → Value → Prop)
    (hclos : closureFor scope env = pure cl) (hcell : ∀ y ∈ scope.names, y.2 ≠ .cell) (hkind : scope.kind = .function)
    (hnames : ∀ y ∈ scope.names, y.2 = .local → scope.names.lookup y.1 = some .local) (hx : scope.names.lookup x = some .local)
    (h : wpAny (model prog w) A (eval iter env) (fun xv s₁ => wpAny (model prog w) A (pyIter xv) (LcG σ prog w g L s₀ A p F x elt ifs scope cl env Q) E s₁) E s)
    (hs : ∀ x, foldedSetIterable iter env x = pure x := by intro _; with_unfolding_all rfl) :
    wpAny (model prog w) A (eval (.ListComp elt [⟨.Name x px, iter, ifs, 0⟩] scope pos) env) Q E s := by
  rw [eval_ListComp]
  refine wpAny_comprehension_free (use := none) rfl hs hclos hkind hnames (wpAny_mono h (fun xv s₁ h₁ => wpAny_mono h₁ (fun it s₂ h₂ => ?_) fun _ _ e => e) fun _ _ e => e)
  obtain ⟨G, T, I, n, P, sh, own, m, rfl, hT, S, hmo, hn, hG, C, ht, he, hf⟩ := h₂
  refine lcore (RR := fun acc c => compPost (model prog w) A E none Q acc c) p F hcell hkind hx hT S hmo hn hG C ht he fun D c f ys vs z Cy hny hg hc3 hcD hcI hDI hin hP hF => ?_
  refine ⟨f, hny, fun h'' hs'' => ?_⟩
  have Cz' := Cy.poke (tk := z.toks) hs'' hg (by intro p hp; rw [List.mem_singleton] at hp; subst hp; exact hcD.symm) (Nat.le_refl _)
  exact hf D ys vs _ (C.outer_add Cz' hDI) hin hP hF
theorem lcompA {elt iter : Expr} {y : Str} {px py : Pos} {ifs : List Expr} {scope : Scope} {cl : List (Str × Addr)} {pos spos : Pos} {Q : Flow → Shared → Prop} (p : Value → Bool) (F : Value → Value → Prop)
    (hsw : swapsWith (.ListComp elt [⟨.Name x px, iter, ifs, 0⟩] scope pos) (some (.Name y py)) spos.line env = pure true)
    (hclos : closureFor scope env = pure cl) (hcell : ∀ y ∈ scope.names, y.2 ≠ .cell) (hkind : scope.kind = .function)
    (hnames : ∀ y ∈ scope.names, y.2 = .local → scope.names.lookup y.1 = some .local) (hx : scope.names.lookup x = some .local)
    (h : wpAny (model prog w) A (eval iter env) (fun xv s₁ => wpAny (model prog w) A (pyIter xv) (LcAG σ prog w g L s₀ A p F x y elt ifs scope cl env Q E) E s₁) E s)
    (hs : ∀ x, foldedSetIterable iter env x = pure x := by intro _; with_unfolding_all rfl) :
    wpAny (model prog w) A (exec (.Assign [.Name y py] (.ListComp elt [⟨.Name x px, iter, ifs, 0⟩] scope pos) spos) env) Q E s := by
  rw [exec_Assign_Name_used _ _ _ _ hsw]
  refine wpAny_bind (wpAny_standAt (wpAny_bind ?_))
  show wpAny _ A (do let _ ← comprehension (.ListComp elt [⟨.Name x px, iter, ifs, 0⟩] scope pos) scope env _ (newList []) false (eval iter env) (some (assign (.Name y py) env))) _ _ s
  refine wpAny_bind (wpAny_mono (wpAny_comprehension_free (use := some (assign (.Name y py) env)) (Q := fun _ s' => Q .next s') rfl hs hclos hkind hnames
    (wpAny_mono h (fun xv s₁ h₁ => wpAny_mono h₁ (fun it s₂ h₂ => ?_) fun _ _ e => e) fun _ _ e => e)) (fun _ s' hq => wpAny_pure (wpAny_pure hq)) fun _ _ e => e)
  obtain ⟨G, T, I, n, P, sh, own, m, rfl, hT, S, hmo, hn, hG, C, ht, he, hf⟩ := h₂
  refine lcore (RR := fun acc c => compPost (model prog w) A E (some (assign (.Name y py) env)) (fun _ s' => Q .next s') acc c) p F hcell hkind hx hT S hmo hn hG C ht he fun D c f ys vs z Cy hny hg hc3 hcD hcI hDI hin hP hF => ?_
  obtain ⟨oc, es, ep, hoc, hrest⟩ := hny
  have Cz1 := C.outer_add Cy hDI
  have Cz2 : Cx σ prog w g L m ((c, .raw oc) :: (D, .list ys) :: own) s₀ z := by
    have Cq : Cx true prog w (s₂.heap.hide I) 0 [] ((c, .raw oc) :: (D, .list ys) :: []) s₂ z :=
      ⟨.inl rfl, Cy.keep, Cy.low, .inl rfl, fun p hp => by
        rcases List.mem_cons.mp hp with rfl | hp
        · exact ⟨hoc, ⟨hg, hc3⟩, .inl rfl⟩
        · exact Cy.its p hp, by simp [hcD], List.nodup_nil, Cy.os, Cy.drawn, Cy.gens, Cy.toks⟩
    have X := C.outer_add Cq hcI
    refine ⟨Cz1.ns, Cz1.keep, Cz1.low, Cz1.above, fun p hp => ?_, ?_, Cz1.uq, Cz1.os, Cz1.drawn, Cz1.gens, Cz1.toks⟩
    · rcases List.mem_cons.mp hp with rfl | hp
      · exact X.its _ List.mem_cons_self
      · exact Cz1.its p hp
    · have n1 := Cz1.nd
      have n2 := X.nd
      rw [List.map_cons, List.nodup_cons] at n2 ⊢
      refine ⟨fun hm => ?_, n1⟩
      rw [List.map_cons] at hm
      rcases List.mem_cons.mp hm with e | hm
      · exact hcD e
      · exact n2.1 hm
  show wpAny _ A (assign (.Name y py) env (.ref D)) _ _ _
  refine wpAny_assign_Name (wpAny_mono (hf D ys vs z c oc Cz2 hin hP hF) (fun _ z' q => ?_) fun _ _ e => e)
  obtain ⟨m', own', C', hq⟩ := q
  exact ⟨f, ⟨oc, es, ep, C'.raw List.mem_cons_self, hrest⟩, fun h'' hs'' => hq _ (C'.gone (tk := z'.toks) (Nat.le_refl _) fun b o hb e => (hs''.2 b hb).trans e)⟩
end
section
open PySem PySem.W PyProof.Rows PySem.Spec PySem.Calls
variable {σ : Bool} {prog : Program} {w : World} {g h h' : Heap} {L a : Addr} {m m' : List (Str × Value)} {own own' : List (Addr × Sh)} {s₀ s s' : Shared} {sh sh' : Sh}
variable {A : Around} {E : Value → Shared → Prop} {M : Model} {env : Env} {x y : Str} {v : Value}

noncomputable def envC (qual : Str) (scope : Scope) (L : Addr) (cs : List (Str × Addr)) (f : Addr) (cdv : Value) : Env :=
  { scope := scope, locals := L, globals := mainGlobals, cells := cs, qual := qual ++ ".<locals>.", func := some f, code := cdv, frame := some L, builtins := builtinsNs }
theorem enterC {Q : Value → Shared → Prop} {name qual : Str} {params : Arguments} {body : List Stmt} {scope : Scope} {dV kV doc pm cdv ct oc : Value} {an od : Option Addr} {osl : Array (Option Value)} {f : Addr} {args : List Value} {binds : List (Str × Value)}
    (B : Bs w s.heap) (hroom : A.depth < recursionLimit)
    (ho : (KK w.params).lookup f = some ⟨oc, od, .func (fnOf name qual params body scope dV kV doc pm an cdv ct), osl⟩) (hcd : codeIn (KK w.params) cdv qual = true)
    (hbind : bindArgs (fnOf name qual params body scope dV kV doc pm an cdv ct) ⟨args, []⟩ = pure binds)
    (cs : Addr → List (Str × Addr)) (hcs : ∀ n, cellsFrom (n + 1) scope.names [] = cs n) (mb : List (Str × Value)) (co : Addr → List (Addr × Sh))
    (hkind : ∀ n, ∀ x ∈ binds, scope.names.lookup x.1 = some .local ∨ (scope.names.lookup x.1 = some .cell ∧ ((cs n).lookup x.1).isSome = true))
    (hmb : ∀ p ∈ mb, bindL (fun n => scope.names.lookup n) binds (fun _ => none) p.1 = some p.2) (hu : (mb.map (·.1)).Nodup)
    (hoc : ∀ n, ∀ p ∈ co n, ∃ x c, p = (c, .cell (bindC (fun n => scope.names.lookup n) binds (fun _ => none) x)) ∧ (cs n).lookup x = some c) (hnd : ∀ n, ((co n).map (·.1)).Nodup)
    (hco : scope.isCoroutine = false) (hgen : scope.isGenerator = false) (hk : scope.kind = .function)
    (h : ∀ s', Cx σ prog w s.heap s.heap.objs.size mb (co s.heap.objs.size) s s' →
      wpAny (model prog w) (A.deeper (envC qual scope s.heap.objs.size (cs s.heap.objs.size) f cdv)) (execs body (envC qual scope s.heap.objs.size (cs s.heap.objs.size) f cdv)) (fun fl s' => Q (match fl with | .ret v => v | _ => .none) s') (fun _ _ => False) s') :
    wpAny (model prog w) A (call (.ref f) args) Q E s := by
  have ee : callEnvC (fnOf name qual params body scope dV kV doc pm an cdv ct) s.heap.objs.size f = envC qual scope s.heap.objs.size (cs s.heap.objs.size) f cdv := by
    rw [← hcs]; rfl
  refine wpAny_call ?_
  refine codeAny_call_function hroom (B.k _ _ ho) rfl hco hgen rfl (codeRec_of B.k hcd) ?_
  rw [hbind]
  refine wpAny_pure (wpAny_with_toks (Nat.le_refl _) (wpAny_newFunctionEnv_cells hk ?_ fun env he s₁ X htk => ?_))
  · intro x hx
    have := hkind s.heap.objs.size x hx
    rw [← hcs] at this
    exact this
  · subst he
    refine ⟨B.lim.keeps X.toInCall.keep, codeAny_func ?_⟩
    change InCallC s (callEnvC (fnOf name qual params body scope dV kV doc pm an cdv ct) s.heap.objs.size f).locals (bindL (callEnvC (fnOf name qual params body scope dV kV doc pm an cdv ct) s.heap.objs.size f).kindOf binds fun _ => none)
      (callEnvC (fnOf name qual params body scope dV kV doc pm an cdv ct) s.heap.objs.size f).cells (bindC (callEnvC (fnOf name qual params body scope dV kV doc pm an cdv ct) s.heap.objs.size f).kindOf binds fun _ => none) s₁ at X
    show wpAny (model prog w) (A.deeper (callEnvC (fnOf name qual params body scope dV kV doc pm an cdv ct) s.heap.objs.size f)) (execs body (callEnvC (fnOf name qual params body scope dV kV doc pm an cdv ct) s.heap.objs.size f)) _ _ s₁
    rw [ee] at X ⊢
    refine wpAny_mono (h s₁ ?_) (fun fl s' q => by exact q) fun _ _ e => e.elim
    obtain ⟨h₁, tk, hs, hkeep⟩ := X.done
    have hm := X.toInCall.ns
    have hsame := X.toInCall.same
    have hfresh : s.heap.get? s.heap.objs.size = none := get_size _
    have h203 : 203 ≤ s.heap.objs.size := (let ⟨_, e⟩ := B.low; Heap.lt_size e)
    subst hs
    refine ⟨.inr ⟨_, hm, fun x v hx => hmb _ hx⟩, fun b o _ e => hkeep b o e, B.low, .inr ⟨hfresh, h203⟩, fun p hp => ?_, hnd _, hu, rfl, rfl, gens_refl, htk⟩
    obtain ⟨x, c, rfl, hl⟩ := hoc _ p hp
    have habove : s.heap.objs.size < c := X.above x c (mem_of_lookup hl)
    refine ⟨X.cell x c hl, ⟨?_, Nat.le_of_lt (Nat.lt_of_le_of_lt h203 habove)⟩, .inr (Nat.ne_of_gt habove)⟩
    cases q : s.heap.get? c with
    | none => rfl
    | some o => exact absurd (Heap.lt_size q) (Nat.not_lt.mpr (Nat.le_of_lt habove))

theorem ldC {pos : Pos} {c : Addr} {Q : Value → Shared → Prop} (hc : env.cells.lookup x = some c) (hv : Sh.Is prog w s.heap c (.cell (some v))) (h : Q v s) (hk : env.scope.kind = .function := by with_unfolding_all rfl) (hl : env.kindOf x = some .cell := by with_unfolding_all rfl)
    (hd : (x == ("__debug__" : Str)) = false := by decide +kernel) : wpAny M A (eval (.Name x pos) env) Q E s := wpAny_Name (wpAny_loadName_cell hk hl hc hv h) hd
theorem ldF {pos : Pos} {c : Addr} {Q : Value → Shared → Prop} (hc : env.cells.lookup x = some c) (hv : Sh.Is prog w s.heap c (.cell (some v))) (h : Q v s) (hk : env.scope.kind = .function := by with_unfolding_all rfl) (hl : env.kindOf x = some .free := by with_unfolding_all rfl)
    (hd : (x == ("__debug__" : Str)) = false := by decide +kernel) (hn : (x == ("__classdict__" : Str)) = false := by decide +kernel) : wpAny M A (eval (.Name x pos) env) Q E s := wpAny_Name (wpAny_loadName_free hk hl hc hv h hn) hd
theorem stC {c : Addr} {v₀ : Option Value} {Q : Unit → Shared → Prop} (C : Cx σ prog w g L m own s₀ s) (hc : env.cells.lookup x = some c) (u : Up c (.cell v₀) (.cell (some v)) own own') (h : ∀ s', Cx σ prog w g L m own' s₀ s' → Q () s')
    (hk : env.scope.kind = .function := by with_unfolding_all rfl) (hl : env.kindOf x = some .cell := by with_unfolding_all rfl) : wpAny M A (storeName env x v) Q E s :=
  wpAny_storeName_cell hk hl hc (C.is u.mem) fun h' hv hs => h _ (C.upd (tk := s.toks) u (Nat.le_refl _) hs hv)
theorem Cx.perm (C : Cx σ prog w g L m own s₀ s) (h : own'.Perm own) : Cx σ prog w g L m own' s₀ s :=
  ⟨C.ns, C.keep, C.low, C.above, fun p hp => C.its p (h.mem_iff.mp hp), (h.map _).nodup_iff.mpr C.nd, C.uq, C.os, C.drawn, C.gens, C.toks⟩
theorem Cx.swap {p q : Addr × Sh} (C : Cx σ prog w g L m (p :: q :: own) s₀ s) : Cx σ prog w g L m (q :: p :: own) s₀ s := C.perm (.swap ..)
theorem Cx.rot {p q r : Addr × Sh} (C : Cx σ prog w g L m (p :: q :: r :: own) s₀ s) : Cx σ prog w g L m (q :: r :: p :: own) s₀ s := C.perm (((List.Perm.swap p r own).cons q).trans (.swap ..))
theorem Cx.hid {I : Addr} (C : Cx σ prog w g L m ((I, sh) :: own) s₀ s) (hm : (a, sh') ∈ own) : Sh.Is prog w (s.heap.hide I) a sh' := by
  have nd := C.nd
  rw [List.map_cons, List.nodup_cons] at nd
  have hne : a ≠ I := fun e => nd.1 (by rw [← e]; exact List.mem_map_of_mem (f := (·.1)) hm)
  exact (C.is (List.mem_cons_of_mem _ hm)).at fun o e => by rw [Heap.hide_ne _ hne]; exact e
end
section
open PySem PySem.W PyProof.Rows PySem.Spec PySem.Calls
variable {σ : Bool} {prog : Program} {w : World} {g h h' : Heap} {L a : Addr} {m m' : List (Str × Value)} {own own' : List (Addr × Sh)} {s₀ s s' : Shared} {sh sh' : Sh}
variable {A : Around} {E : Value → Shared → Prop} {M : Model} {env : Env} {x y : Str} {v : Value}
theorem str_of_kis {k : Str} (h : (PySem.strKind prog w).is k v = true) : ∃ t, v = .str k t := by
  cases v <;> simp [PySem.strKind, Value.isStrOf] at h
  subst h
  exact ⟨_, rfl⟩
noncomputable def kiSh (d : Addr) (n ep : Nat) (i : Nat) : Sh := .flds "dict_keyiterator" [.ref d, .int (i : Nat) 0, .int (n : Nat) 0, .int (ep : Nat) 0]
theorem Src.keys {I d : Addr} {T : Nat} {kvs : List (Str × Value)} {ep : Nat} (hh : A.handled = none) (hne : d ≠ I) :
    Src prog w A (fun h => h.DictAt (PySem.strKind prog w) d kvs ep) T I kvs.length (fun i _ v => ∃ k x t, kvs[i]? = some (k, x) ∧ v = .str k t) (kiSh d kvs.length ep) := by
  have W := Walks.dictKeys (prog := prog) (w := w) (knd := PySem.strKind prog w) (A := A) hh I d hne kvs ep
  refine Src.of (P := fun i v => ∃ k x t, kvs[i]? = some (k, x) ∧ v = .str k t) (St := fun i h => h.IsKeyIter I d i kvs.length ep ∧ h.DictAt (PySem.strKind prog w) d kvs ep) (fp := [I, d]) ?_ ?_ ?_
  · refine ⟨W.sub, W.frame, fun i s Q E hi st hQ => W.item i s Q E hi st fun v h' tk hP => hQ v h' tk ?_, W.done, W.self⟩
    obtain ⟨k, x, h1, h2⟩ := hP
    obtain ⟨t, rfl⟩ := str_of_kis h2
    exact ⟨k, x, t, h1, rfl⟩
  · rintro i h ⟨⟨o, ho, r1, r2⟩, _⟩; exact ⟨o, ho, r1, by simpa using r2⟩
  · rintro i h hG ⟨o, ho, r1, r2⟩; exact ⟨⟨o, ho, r1, by simpa using r2⟩, hG⟩
theorem itDict {d : Addr} {kvs : List (Str × Value)} {Q : Value → Shared → Prop} (C : Cx σ prog w g L m own s₀ s) (hl : Sh.Is prog w s.heap d (.dict kvs)) (hd : 203 ≤ d)
    (h : ∀ I s' ep, d ≠ I → s.heap.DictAt (PySem.strKind prog w) d kvs ep → s'.heap.DictAt (PySem.strKind prog w) d kvs ep → Cx σ prog w g L m ((I, kiSh d kvs.length ep 0) :: own) s₀ s' → Q (.ref I) s') : wpAny (model prog w) A (pyIter (.ref d)) Q E s := by
  obtain ⟨ep, hat⟩ := Heap.DictOf.dictAt hl
  have hlt : d < s.heap.objs.size := hat.lt_size
  exact wpAny_pyIter_dict (notMods hd) hat (h _ _ ep (Nat.ne_of_lt hlt) hat (hat.push _) (C.push (tk := s.toks) (Nat.le_refl _) ⟨_, Heap.get?_push_size _ rfl, rfl, rfl⟩))
noncomputable def vwSh (d : Addr) : Sh := .flds "dict_values" [.ref d]
theorem cValues {d : Addr} {kvs : List (Str × Value)} {Q : Value → Shared → Prop} (C : Cx σ prog w g L m own s₀ s) (hl : Sh.Is prog w s.heap d (.dict kvs)) (hd : 203 ≤ d)
    (h : ∀ r s', Cx σ prog w g L m ((r, vwSh d) :: own) s₀ s' → Q (.ref r) s') : wpAny (model prog w) A (call (.builtin "dict.values") [.ref d]) Q E s := by
  have hm := Heap.DictOf.mapOf hl
  exact call_meetsIn F.slot_dict_values hm.typeIs F.entry_dict_values (F.args_dict_values_1 _) (meets_dict_values (PySem.strKind prog w) d (notMods hd)) ⟨⟨_, hl⟩, h _ _ (C.push (tk := s.toks) (Nat.le_refl _) ⟨_, Heap.get?_push_size _ rfl, rfl, rfl⟩)⟩
theorem IsID.at {kvs : List (Str × Value)} {ps : ID} (hi : IsID kvs ps) : ∀ (i : Nat) (k : Str) (v : Value), kvs[i]? = some (k, v) → ∃ n t, v = .int n t ∧ ps[i]? = some (k, n) := by
  induction hi with
  | nil => intro i k v e; simp at e
  | cons k' n' t' _ ih =>
    intro i k v e
    cases i with
    | zero => simp at e; obtain ⟨rfl, rfl⟩ := e; exact ⟨n', t', rfl, by simp⟩
    | succ i => simpa using ih i k v (by simpa using e)
theorem cMaxVals {r d : Addr} {kvs : List (Str × Value)} {ps : ID} {Q : Value → Shared → Prop} (C : Cx σ prog w g L m own s₀ s) (hh : A.handled = none) (hr : Sh.Is prog w s.heap r (vwSh d)) (hl : Sh.Is prog w s.heap d (.dict kvs)) (hi : IsID kvs ps) (hne : ps ≠ [])
    (h : ∀ n t s', (∃ p ∈ ps, p.2 = n) → (∀ p ∈ ps, p.2 ≤ n) → Cx σ prog w g L m own s₀ s' → Q (.int n t) s') : wpAny (model prog w) A (call (.builtin "max") [.ref r]) Q E s := by
  obtain ⟨ep, hat⟩ := Heap.DictOf.dictAt hl
  have hlen := hi.length
  have hpos : 0 < kvs.length := by rw [hlen]; exact List.length_pos_iff.mpr hne
  have K := kdl_values (prog := prog) (w := w) (knd := PySem.strKind prog w) (r := r) (d := d) (kvs := kvs) (ep := ep)
  have hok : s.heap.IsValuesView r d ∧ s.heap.DictAt (PySem.strKind prog w) d kvs ep := ⟨by obtain ⟨o, ho, r1, r2⟩ := hr; exact ⟨o, ho, r1, by simpa using r2⟩, hat⟩
  obtain ⟨oI, St, hit, W, st⟩ := K.iter A.in1 s hh hok
  have hval : ∀ (i : Nat) (v : Value), (∃ k, kvs[i]? = some (k, v)) → ∃ t, v = .int ((ps.map (·.2)).getD i 0) t := by
    rintro i v ⟨k, e⟩
    obtain ⟨n, t, rfl, e2⟩ := hi.at i k v e
    exact ⟨t, by simp [e2]⟩
  refine wpAny_with_toks (Nat.le_refl _) (call_max_walk (hit _ _ ⟨_, _, _, _, _, _, _, rfl, W, st, fun b hb => ?_, hpos, CmpOf.ints_gt (fun i => (ps.map (·.2)).getD i 0) hval, fun v h' tk hP hk ht => ?_⟩))
  · show b < (s.heap.push oI).objs.size
    rw [Heap.size_push]
    rcases List.mem_cons.mp hb with rfl | hb
    · exact Nat.lt_succ_self _
    · rw [List.mem_singleton] at hb; subst hb; exact Nat.lt_succ_of_lt hat.lt_size
  · obtain ⟨t, rfl⟩ := hval _ _ hP
    obtain ⟨b1, b2⟩ := argBest_gt (fun i => (ps.map (·.2)).getD i 0) (kvs.length - 1)
    generalize argBest (fun i j => decide ((fun i => (ps.map (·.2)).getD i 0) i > (fun i => (ps.map (·.2)).getD i 0) j)) (kvs.length - 1) = best at b1 b2 ⊢
    have hb : best < ps.length := by lia
    refine h _ _ _ ⟨ps[best], List.getElem_mem hb, by simp [hb]⟩ (fun p hp => ?_) (C.grown ⟨fun b o _ e => hk b o (fun hm => ?_) (Heap.get?_push_of_some _ e), rfl, rfl, gens_refl, ht⟩)
    · obtain ⟨j, hj, rfl⟩ := List.mem_iff_getElem.mp hp
      have := b2 j (by lia)
      simpa [hj] using this
    · rw [List.mem_singleton] at hm; subst hm; exact absurd (Heap.lt_size e) (Nat.lt_irrefl _)

theorem cSortedD {d : Addr} {kvs : List (Str × Value)} {Q : Value → Shared → Prop} (C : Cx σ prog w g L m own s₀ s) (hh : A.handled = none) (hl : Sh.Is prog w s.heap d (.dict kvs)) (hd : 203 ≤ d) (hn : kvs.length < 64)
    (h : ∀ r s' (vs : List Value) (ss : List Str), StrsAre vs ss → ss.Perm (kvs.map (·.1)) → sortedS ss = true → Cx σ prog w g L m ((r, .list vs) :: own) s₀ s' → Q (.ref r) s') : wpAny (model prog w) A (call (.builtin "sorted") [.ref d]) Q E s := by
  obtain ⟨ep, hat⟩ := Heap.DictOf.dictAt hl
  refine wpAny_with_toks (Nat.le_refl _) (Calls.call_function_entry kind_sorted plain_sorted entry_sorted (args_sorted1 _) ?_)
  unfold Builtin.«sorted»
  refine wpAny_bind (m := checkCount "sorted" 1 1 _) (wpAny_pure ?_)
  refine wpAny_bind (kdu_collect (A := A.in1) (kdl_dict (knd := PySem.strKind prog w) (kvs := kvs) (ep := ep) (notMods hd)) hh hat (by rw [sizeLine_eq]; lia) fun h' tk acc hk hacc => ?_)
  have hlen : acc.toList.length = kvs.length := by rw [Array.length_toList]; exact hacc.1
  have hS : StrsAre acc.toList (kvs.map (·.1)) := by
    have : ∀ (l : List Value) (k : List (Str × Value)), l.length = k.length → (∀ (j : Nat) (v : Value), l[j]? = some v → ∃ kk x, k[j]? = some (kk, x) ∧ (PySem.strKind prog w).is kk v = true) → StrsAre l (k.map (·.1)) := by
      intro l
      induction l with
      | nil => intro k e _; cases k with
        | nil => exact .nil
        | cons => simp at e
      | cons u r ih =>
        intro k e hP
        cases k with
        | nil => simp at e
        | cons p k =>
          obtain ⟨kk, x, e1, e2⟩ := hP 0 u (by simp)
          obtain ⟨t, rfl⟩ := str_of_kis e2
          simp at e1
          subst e1
          exact .cons _ t (ih k (by simpa using e) fun j v hv => by simpa using hP (j + 1) v (by simpa using hv))
    exact this _ _ hlen fun j v e => hacc.2 j v (by rw [← Array.getElem?_toList]; exact e)
  refine wpAny_bind (wpAny_newList ?_ (by rw [hlen, sizeLine_eq]; lia))
  have hoL : (h'.push (seqObj "list" acc.toList.toArray 0)).get? h'.objs.size = some (seqObj "list" acc.toList.toArray 0) := Heap.get?_push_size _ rfl
  refine wpAny_bind (wpAny_holding (wpAny_call_entry slot_list_sort ⟨_, hoL, rfl⟩ entry_list_sort (list_sort_treeK strKind_oneLt hoL hS.keysOf (fun v₁ v₂ rest e => keyKind_strs (by rw [← e]; exact hS)) (by rw [hlen]; exact hn) fun st' hp hs => ⟨_, rfl, ?_⟩) (args_list_sort _)))
  obtain ⟨ss', h1, h2, h3⟩ := sorted_out_str hS hp hs
  refine wpAny_pure ⟨_, rfl, ?_⟩
  intro ht
  obtain ⟨e, he⟩ := sortedHeap_at (out := (arrOf st').map (·.2)) hoL
  have hold : ∀ b o, s.heap.get? b = some o → (sortedHeap (h'.push (seqObj "list" acc.toList.toArray 0)) h'.objs.size acc.toList ((arrOf st').map (·.2))).get? b = some o := fun b o q => by
    have h1 := hk b o q
    rw [sortedHeap_old (Nat.ne_of_lt (Heap.lt_size h1)) (by rw [Heap.size_push]; exact Nat.lt_succ_of_lt (Heap.lt_size h1))]
    exact Heap.get?_push_of_some _ h1
  generalize sortedHeap (h'.push (seqObj "list" acc.toList.toArray 0)) h'.objs.size acc.toList ((arrOf st').map (·.2)) = H at he hold ht ⊢
  have hD : s.heap.get? h'.objs.size = none := by
    cases q : s.heap.get? h'.objs.size with
    | none => rfl
    | some o => exact absurd (Heap.lt_size (hk _ _ q)) (Nat.lt_irrefl _)
  have h203 : 203 ≤ h'.objs.size := by
    obtain ⟨o, ho⟩ := C.low
    exact Heap.lt_size (hk 202 o (C.keep 202 o (off rfl) ho))
  refine h _ { s with heap := H, toks := tk } _ _ h1 h2 h3 (C.add (s' := { s with heap := H, toks := tk }) ⟨fun b o _ q => hold b o q, rfl, rfl, gens_refl, ht⟩ ⟨e, ?_⟩ hD h203)
  rw [Array.toArray_toList]
  exact he
end
section
open PySem PySem.W PyProof.Rows PySem.Spec PySem.Calls
variable {σ : Bool} {prog : Program} {w : World} {g h h' : Heap} {L a : Addr} {m m' : List (Str × Value)} {own own' : List (Addr × Sh)} {s₀ s s' : Shared} {sh sh' : Sh}
variable {A : Around} {E : Value → Shared → Prop} {M : Model} {env : Env} {x y : Str} {v : Value}
inductive DtP (prog : Program) (w : World) (s₂ : Shared) (I c D : Addr) (x : Str) (v : Value) (kvs : List (Str × Value)) (shI : Sh) (J : List (Str × Value) → Prop) (z' : Shared) : Prop
  | mk (h : J kvs) (own' : List (Addr × Sh)) (hs : [(D, Sh.dict kvs), (I, shI)].Sublist own') (hC : Cx true prog w (s₂.heap.hide I) c [(x, v)] own' s₂ z') : DtP prog w s₂ I c D x v kvs shI J z'
inductive DeP (prog : Program) (w : World) (s₂ : Shared) (I c D : Addr) (x : Str) (v : Value) (kvs : List (Str × Value)) (shI : Sh) (J : List (Str × Value) → Prop) (kv vv : Value) (z' : Shared) : Prop
  | mk (k : Str) (t : Tok) (hk : kv = .str k t) (h : J (stored kvs k vv)) (own' : List (Addr × Sh)) (hs : [(D, Sh.dict kvs), (I, shI)].Sublist own') (hC : Cx true prog w (s₂.heap.hide I) c [(x, v)] own' s₂ z') : DeP prog w s₂ I c D x v kvs shI J kv vv z'
inductive DcG (σ : Bool) (prog : Program) (w : World) (g : Heap) (L : Addr) (s₀ : Shared) (A : Around) (x : Str) (kx vx : Expr) (ifs : List Expr) (scope : Scope) (cl : List (Str × Addr)) (env : Env) (Q : Value → Shared → Prop) (it : Value) (s₂ : Shared) : Prop
  | mk (G : Heap → Prop) (T : Nat) (I : Addr) (n : Nat) (P : Nat → Nat → Value → Prop) (sh : Nat → Sh) (own : List (Addr × Sh)) (m : List (Str × Value)) (J : Nat → List (Str × Value) → Prop) (hit : it = .ref I) (hT : T ≤ s₂.toks) (hS : Src prog w A G T I n P sh) (hmo : ∀ i tk tk' v, tk ≤ tk' → P i tk v → P i tk' v) (hG : ∀ z : Heap, (∀ b o, b ≠ I → s₂.heap.get? b = some o → z.get? b = some o) → G z) (hC : Cx σ prog w g L m ((I, sh 0) :: own) s₀ s₂) (hJ0 : J 0 []) (hJl : ∀ i kvs, i ≤ n → J i kvs → kvs.length ≤ 1000) (ht : ∀ c i v z D kvs, i < n → P i z.toks v → J i kvs → Cx true prog w (s₂.heap.hide I) c [(x, v)] [(D, .dict kvs), (I, sh (i + 1))] s₂ z →
        Tests prog w A ifs (compEnvC scope cl c env) (fun ok z' => (ok = false → DtP prog w s₂ I c D x v kvs (sh (i + 1)) (J (i + 1)) z') ∧
          (ok = true → wpAny (model prog w) A (eval kx (compEnvC scope cl c env)) (fun kv z1 => wpAny (model prog w) A (eval vx (compEnvC scope cl c env)) (DeP prog w s₂ I c D x v kvs (sh (i + 1)) (J (i + 1)) kv) (fun _ _ => False) z1) (fun _ _ => False) z')) z) (hf : ∀ D kvs z, Cx σ prog w g L m ((D, .dict kvs) :: own) s₀ z → J n kvs → Q (.ref D) z) : DcG σ prog w g L s₀ A x kx vx ifs scope cl env Q it s₂
inductive DoJ (prog : Program) (w : World) (s₂ : Shared) (I D c : Addr) (n : Nat) (sh : Nat → Sh) (J : Nat → List (Str × Value) → Prop) (k : Nat) (z : Shared) : Prop
  | mk (i : Nat) (kvs : List (Str × Value)) (f : Str → Option Value) (h0 : k = n + 1 - i) (h1 : i ≤ n) (h2 : J i kvs) (h3 : Cx true prog w (s₂.heap.hide I) 0 [] [(D, .dict kvs), (I, sh i)] s₂ z) (h4 : z.heap.Ns c f) : DoJ prog w s₂ I D c n sh J k z
theorem dcomp {kx vx iter : Expr} {px : Pos} {ifs : List Expr} {scope : Scope} {cl : List (Str × Addr)} {pos : Pos} {Q : Value → Shared → Prop}
    (hclos : closureFor scope env = pure cl) (hcell : ∀ y ∈ scope.names, y.2 ≠ .cell) (hkind : scope.kind = .function)
    (hnames : ∀ y ∈ scope.names, y.2 = .local → scope.names.lookup y.1 = some .local) (hx : scope.names.lookup x = some .local)
    (h : wpAny (model prog w) A (eval iter env) (fun xv s₁ => wpAny (model prog w) A (pyIter xv) (DcG σ prog w g L s₀ A x kx vx ifs scope cl env Q) E s₁) E s)
    (hs : ∀ x, foldedSetIterable iter env x = pure x := by intro _; with_unfolding_all rfl) :
    wpAny (model prog w) A (eval (.DictComp kx vx [⟨.Name x px, iter, ifs, 0⟩] scope pos) env) Q E s := by
  rw [arm_eval_DictComp]
  refine wpAny_comprehension_free (use := none) rfl hs hclos hkind hnames (wpAny_mono h (fun xv s₁ h₁ => wpAny_mono h₁ (fun it s₂ h₂ => ?_) fun _ _ e => e) fun _ _ e => e)
  obtain ⟨G, T, I, n, P, sh, own, m, J, rfl, hT, S, hmo, hG, C, hJ0, hJl, ht, hf⟩ := h₂
  have C1 := C.inner (a := 0)
  refine wpAny_newObj_type (wpAny_newFunctionEnv hcell (by intro y hy; simp at hy) (fun h₁ hns hsb => ?_) hkind)
  have C2 := C1.push (sh := .dict []) (o := { cls := .type "dict", dict := none, data := .dict #[] }) (tk := s₂.toks) (Nat.le_refl _) (Heap.DictOf.new _)
  dsimp only at hns hsb ⊢
  generalize hD : s₂.heap.objs.size = D at C2 ⊢
  generalize hc : (s₂.heap.push { cls := .type "dict", dict := none, data := .dict #[] }).objs.size = c at hns hsb ⊢
  have hcs : c = D + 1 := by rw [← hc, Heap.size_push, hD]
  have hID : I < D := by rw [← hD]; exact (C.is List.mem_cons_self).lt
  have hcD : c ≠ D := by rw [hcs]; exact Nat.succ_ne_self D
  have hcI : c ≠ I := by rw [hcs]; exact Nat.ne_of_gt (Nat.lt_succ_of_lt hID)
  have hDI : D ≠ I := Nat.ne_of_gt hID
  have hap : ∀ {sh1 sh2 : Sh}, ∀ p ∈ [(D, sh1), (I, sh2)], p.1 ≠ c := by
    intro _ _ p hp
    rcases List.mem_cons.mp hp with rfl | hp
    · exact hcD.symm
    · rw [List.mem_singleton] at hp; subst hp; exact hcI.symm
  have hap1 : ∀ {sh1 : Sh}, ∀ p ∈ [(D, sh1)], p.1 ≠ c := by
    intro _ p hp
    rw [List.mem_singleton] at hp; subst hp; exact hcD.symm
  have hg : (s₂.heap.hide I).get? c = none := by
    cases q : (s₂.heap.hide I).get? c with
    | none => rfl
    | some o => have := Heap.lt_size q; rw [hide_size, hD, hcs] at this; exact absurd this (Nat.not_lt.mpr (Nat.le_succ _))
  have hc3 : 203 ≤ c := by have := C.top; lia
  have C3 : Cx true prog w (s₂.heap.hide I) 0 [] [(D, .dict []), (I, sh 0)] s₂ { s₂ with heap := h₁, toks := s₂.toks + ([] : List (Str × Value)).length } := by
    have C2' := C2.grown (s' := { s₂ with heap := (s₂.heap.push { cls := .type "dict", dict := none, data := .dict #[] }).push { cls := .type (if (some env).isSome then "dict" else "frame"), data := .dict #[] }, toks := s₂.toks }) (Gr.push (tk := s₂.toks) (Nat.le_refl _))
    exact C2'.poke hsb hg hap (Nat.le_refl _)
  have loop : codeAny (model prog w) A (.compLoop (.DictComp kx vx [⟨.Name x px, iter, ifs, 0⟩] scope pos) 0 (.ref I) (.ref D) (compEnvC scope cl c env)) (compPost (model prog w) A E none Q (.ref D) c)
      { s₂ with heap := h₁, toks := s₂.toks + ([] : List (Str × Value)).length } := by
    refine codeAny_compLoop_testsD (DoJ prog w s₂ I D c n sh J) ?_ (n + 1)
      ⟨0, [], _, rfl, Nat.zero_le _, hJ0, C3, hns⟩
    rintro k z ⟨i, kvs, f, rfl, hl, hJ, Cz, hnz⟩
    have keepI : ∀ b o, b ≠ I → s₂.heap.get? b = some o → z.heap.get? b = some o := fun b o hb q => Cz.keep b o rfl (by rw [Heap.hide_ne _ hb]; exact q)
    have hIo : (I, sh i) ∈ [(D, Sh.dict kvs), (I, sh i)] := List.mem_cons_of_mem _ List.mem_cons_self
    by_cases hlt : i < n
    · refine S.item _ z _ _ hlt (Nat.le_trans hT Cz.toks) (hG _ keepI) (Cz.is hIo) fun v h' tk hPv htk hS hk => ?_
      have Cy : Cx true prog w (s₂.heap.hide I) 0 [] [(D, .dict kvs), (I, sh (i + 1))] s₂ { z with heap := h', toks := tk } := Cz.next (.tail .head) htk hk hS
      have hny : h'.Ns c f := let ⟨o, es, ep, e, r⟩ := hnz; ⟨o, es, ep, hk _ _ hcI e, r⟩
      refine wpAny_assign_Name (wpAny_storeName_local (lookup_relabel_local hx) hny (fun h2 hn2 hs2 => ?_) (by simp [compEnvC, relabel, hkind]))
      have Cx2 : Cx true prog w (s₂.heap.hide I) 0 [] [(D, .dict kvs), (I, sh (i + 1))] s₂ { z with heap := h2, toks := tk + 1 } := Cy.poke hs2 hg hap (Nat.le_succ _)
      have Cf := Cx2.framed (x := x) (v := v) hn2 (by simp) hg hc3 hap
      refine wpAny_mono (ht c i v _ D kvs hlt (hmo _ _ _ _ (Nat.le_succ _) hPv) hJ Cf) (fun ok z3 q => ?_) fun _ _ e => e.elim
      cases ok with
      | false =>
        obtain ⟨hJ', own3, hsub, C3⟩ := q.1 rfl
        have C3 := C3.drop hsub
        simp only [Bool.false_eq_true, if_false]
        obtain ⟨f3, hn3, _⟩ := C3.ns.resolve_left (List.cons_ne_nil _ _)
        exact ⟨n + 1 - (i + 1), by lia, i + 1, kvs, f3, rfl, hlt, hJ', C3.unframed, hn3⟩
      | true =>
        simp only [if_true]
        refine wpAny_mono (q.2 rfl) (fun kv z4 q => wpAny_mono q (fun vv z5 q => ?_) fun _ _ e => e.elim) fun _ _ e => e.elim
        obtain ⟨kk, t, rfl, hJ', own4, hsub, C4⟩ := q
        have C4 := C4.drop hsub
        have hkl := hJl i kvs (Nat.le_of_lt hlt) hJ
        refine wpAny_dictSet_pairs (knd := PySem.strKind prog w) (k := kk) (hsz := by rw [sizeLine_eq]; lia) kis (C4.is List.mem_cons_self) fun h5 hl5 hs5 => ?_
        have C5 : Cx true prog w (s₂.heap.hide I) c [(x, v)] [(D, .dict (stored kvs kk vv)), (I, sh (i + 1))] s₂ { z5 with heap := h5, toks := z5.toks + 1 } := C4.upd .head (Nat.le_succ _) hs5 hl5
        obtain ⟨f5, hn5, _⟩ := C5.ns.resolve_left (List.cons_ne_nil _ _)
        exact ⟨n + 1 - (i + 1), by lia, i + 1, stored kvs kk vv, f5, rfl, hlt, hJ', C5.unframed, hn5⟩
    · have hin : i = n := by lia
      subst hin
      refine S.done z _ _ (hG _ keepI) (Cz.is hIo) fun h' tk htk hk => ?_
      have Cy : Cx true prog w (s₂.heap.hide I) 0 [] [(D, .dict kvs)] s₂ { z with heap := h', toks := tk } := by
        have C6 : Cx true prog w (s₂.heap.hide I) 0 [] [(I, sh i), (D, .dict kvs)] s₂ z := ⟨.inl rfl, Cz.keep, Cz.low, .inl rfl, fun p hp => Cz.its p (by simp at hp ⊢; exact hp.symm), by have := Cz.nd; simp at this ⊢; exact Ne.symm this, List.nodup_nil, Cz.os, Cz.drawn, Cz.gens, Cz.toks⟩
        exact C6.gone htk hk
      have hny : h'.Ns c f := let ⟨o, es, ep, e, r⟩ := hnz; ⟨o, es, ep, hk _ _ hcI e, r⟩
      refine ⟨f, hny, fun h'' hs'' => ?_⟩
      have Cz' := Cy.poke (tk := tk) hs'' hg hap1 (Nat.le_refl _)
      exact hf D kvs _ (C.outer_add Cz' hDI) hJ
  exact codeAny_compStart_dict loop (S.self 0 _ _ _ (hG _ fun b o _ e => by
    exact hsb.extBut b o (by intro e'; subst e'; have := Heap.lt_size e; rw [hD, hcs] at this; exact absurd this (Nat.not_lt.mpr (Nat.le_succ _))) (Heap.get?_push_of_some _ (Heap.get?_push_of_some _ e))) (C3.is (List.mem_cons_of_mem _ List.mem_cons_self)) loop)
end
section
open PySem PySem.W PyProof.Rows PySem.Spec PySem.Calls
noncomputable def signs (ps : List Nat) : Str := ⟨(ps.map (97 + ·)).toArray⟩
noncomputable def srt (f : Nat → Bool) : List Nat := [0, 1, 2, 3].filter f

theorem eq_filter : ∀ (l qs : List Nat), l.Pairwise (· < ·) → qs.Pairwise (· < ·) → (∀ q ∈ qs, q ∈ l) → qs = l.filter (fun x => decide (x ∈ qs))
  | [], qs, _, _, h => by
    cases qs with
    | nil => rfl
    | cons q r => exact absurd (h q List.mem_cons_self) (by simp)
  | a :: r, [], _, _, _ => by simp
  | a :: r, b :: t, hl, hq, h => by
    obtain ⟨hl1, hl2⟩ := List.pairwise_cons.mp hl
    obtain ⟨hq1, hq2⟩ := List.pairwise_cons.mp hq
    by_cases e : b = a
    · subst e
      have ht : ∀ q ∈ t, q ∈ r := fun q hm => by
        rcases List.mem_cons.mp (h q (List.mem_cons_of_mem _ hm)) with e | e
        · have := hq1 q hm; lia
        · exact e
      have ih := eq_filter r t hl2 hq2 ht
      have : r.filter (fun x => decide (x ∈ b :: t)) = r.filter (fun x => decide (x ∈ t)) := by
        apply List.filter_congr
        intro x hx
        have := hl1 x hx
        simp [Nat.ne_of_gt this]
      rw [List.filter_cons, if_pos (by simp), this, ← ih]
    · have hb : b ∈ r := by
        rcases List.mem_cons.mp (h b List.mem_cons_self) with e' | e'
        · exact absurd e' e
        · exact e'
      have hab := hl1 b hb
      have ha : ¬ a ∈ b :: t := fun hm => by
        rcases List.mem_cons.mp hm with e' | e'
        · lia
        · have := hq1 a e'; lia
      have hs : ∀ q ∈ b :: t, q ∈ r := fun q hm => by
        rcases List.mem_cons.mp (h q hm) with e' | e'
        · subst e'; exact absurd hm ha
        · exact e'
      have ih := eq_filter r (b :: t) hl2 hq hs
      rw [List.filter_cons, if_neg (by simpa using ha)]
      exact ih
theorem lt_sg {p x : Nat} : ltCps (sg x).cps.toList (sg p).cps.toList = decide (x < p) := by
  simp [sg, ltCps]
theorem rising : ∀ (qs : List Nat) (p : Nat), risingS (sg p) (qs.map sg) = true → (p :: qs).Pairwise (· ≤ ·)
  | [], p, _ => by simp
  | x :: r, p, h => by
    rw [List.map_cons, risingS, lt_sg] at h
    simp only [Bool.and_eq_true, Bool.not_eq_true', decide_eq_false_iff_not] at h
    have ih := rising r x h.2
    refine List.pairwise_cons.mpr ⟨fun y hy => ?_, ih⟩
    rcases List.mem_cons.mp hy with rfl | hy
    · lia
    · have := (List.pairwise_cons.mp ih).1 y hy; lia
theorem canonS {ss keys : List Str} (hp : ss.Perm keys) (hn : keys.Nodup) (hk : ∀ k ∈ keys, ∃ p, p < 4 ∧ k = sg p) (hs : sortedS ss = true) : ss = (srt fun p => decide (sg p ∈ keys)).map sg := by
  have hss : ∀ k ∈ ss, ∃ p, p < 4 ∧ k = sg p := fun k h => hk k (hp.mem_iff.mp h)
  obtain ⟨qs, rfl, hq⟩ : ∃ qs : List Nat, ss = qs.map sg ∧ ∀ q ∈ qs, q < 4 := by
    clear hs hp
    induction ss with
    | nil => exact ⟨[], rfl, by simp⟩
    | cons k r ih =>
      obtain ⟨p, hp, rfl⟩ := hss k List.mem_cons_self
      obtain ⟨qs, rfl, hq⟩ := ih fun k hk => hss k (List.mem_cons_of_mem _ hk)
      refine ⟨p :: qs, rfl, fun q hm => ?_⟩
      rcases List.mem_cons.mp hm with e | hm
      · rw [e]; exact hp
      · exact hq q hm
  have hnd : (qs.map sg).Nodup := hp.nodup_iff.mpr hn
  have hnd' : qs.Nodup := by
    refine List.Pairwise.imp ?_ (List.pairwise_map.mp hnd)
    intro a b h e
    exact h (by rw [e])
  have hle : qs.Pairwise (· ≤ ·) := by
    cases qs with
    | nil => exact .nil
    | cons p r => exact rising r p hs
  have hlt : qs.Pairwise (· < ·) := (hle.and hnd').imp fun h => by lia
  have := eq_filter [0, 1, 2, 3] qs (by decide) hlt (fun q hm => by have := hq q hm; simp; lia)
  have e : (fun p => decide (sg p ∈ keys)) = fun x => decide (x ∈ qs) := by
    funext p
    rw [decide_eq_decide, ← hp.mem_iff]
    simp only [List.mem_map]
    constructor
    · rintro ⟨q, hq, e⟩; rw [← sg_inj e]; exact hq
    · intro h; exact ⟨p, h, rfl⟩
  rw [srt, e, ← this]
theorem str_ext {x y : Str} (h : x.cps.toList = y.cps.toList) : x = y := by
  obtain ⟨⟨a⟩⟩ := x
  obtain ⟨⟨b⟩⟩ := y
  simp at h
  rw [h]
theorem join_flat (ss : List Str) : (Txt.join (Str.ofString "") ss).cps.toList = (ss.map (·.cps.toList)).flatten := by
  show (Builtin.Str.glued _ _).cps.toList = _
  rw [StrLaws.glued_eq_join]
  cases ss with
  | nil => rfl
  | cons x r =>
    induction r generalizing x with
    | nil => simp [Str.join]
    | cons y r ih =>
      show (x ++ Str.ofString "" ++ Str.join (Str.ofString "") (y :: r)).cps.toList = _
      rw [Str.cps_append, Str.cps_append, Array.toList_append, ih y, show (Str.ofString "").cps = #[] from rfl]
      simp
theorem join_sg (ps : List Nat) : Txt.join (Str.ofString "") (ps.map sg) = signs ps := by
  refine str_ext ?_
  rw [join_flat]
  induction ps with
  | nil => rfl
  | cons p r ih => simpa [signs, sg] using ih
theorem ID.isSome_mem (ps : ID) (k : Str) : (ps.get k).isSome = decide (k ∈ ps.map (·.1)) := by
  unfold ID.get
  rw [Option.isSome_map, Bool.eq_iff_iff, List.find?_isSome, decide_eq_true_eq, List.mem_map]
  constructor
  · rintro ⟨p, hp, e⟩; exact ⟨p, hp, by simpa using e⟩
  · rintro ⟨p, hp, e⟩; exact ⟨p, hp, by simpa using e⟩
section
variable {σ : Bool} {prog : Program} {w : World} {g h h' : Heap} {L a : Addr} {m m' : List (Str × Value)} {own own' : List (Addr × Sh)} {s₀ s s' : Shared} {sh sh' : Sh}
variable {A : Around} {E : Value → Shared → Prop} {M : Model} {env : Env} {x y : Str} {v : Value}
theorem cJoin {r : Addr} {t : Tok} {vs : List Value} {ss : List Str} {Q : Value → Shared → Prop} (C : Cx σ prog w g L m own s₀ s) (hl : Sh.Is prog w s.heap r (.list vs)) (hs : StrsAre vs ss) (hok : (ss.map (·.length)).sum + ss.length * x.length ≤ 16777216)
    (h : ∀ t s', Cx σ prog w g L m own s₀ s' → Q (.str (Txt.join x ss) t) s') : wpAny (model prog w) A (call (.builtin "str.join") [.str x t, .ref r]) Q E s :=
  wpAny_with_toks (Nat.le_refl _) (join_list (Sh.isL hl) hs hok fun t' _ ht => h t' _ (C.tokens ht))
end
theorem strs_snoc {vs : List Value} {ss : List Str} (h : StrsAre vs ss) (y : Str) (t : Tok) : StrsAre (vs ++ [.str y t]) (ss ++ [y]) := by
  induction h with
  | nil => exact .cons y t .nil
  | cons z u _ ih => exact .cons z u ih
theorem len_sgs (ps : List Nat) : ((ps.map sg).map (·.length)).sum = ps.length := by
  induction ps with
  | nil => rfl
  | cons p r ih =>
    have : (sg p).length = 1 := rfl
    simp only [List.map_cons, List.sum_cons, ih, this, List.length_cons]
    lia
theorem srt_length (f : Nat → Bool) : (srt f).length ≤ 4 := List.length_filter_le _ _
end
section
open PySem PySem.W PyProof.Rows PySem.Spec PySem.Calls
variable {σ : Bool} {prog : Program} {w : World} {g h h' : Heap} {L a : Addr} {m m' : List (Str × Value)} {own own' : List (Addr × Sh)} {s₀ s s' : Shared} {sh sh' : Sh}
variable {A : Around} {E : Value → Shared → Prop} {M : Model} {env : Env} {x y : Str} {v : Value}

noncomputable def maxv : ID → Int
  | [] => 0
  | [p] => p.2
  | p :: r => max p.2 (maxv r)
theorem maxv_le : ∀ (ps : ID), ∀ p ∈ ps, p.2 ≤ maxv ps
  | [], p, h => (nomatch h)
  | [p], x, h => by rw [List.mem_singleton] at h; subst h; exact Int.le_refl _
  | p :: y :: r, x, h => by
    rw [maxv]
    rcases List.mem_cons.mp h with rfl | h
    · lia
    · have := maxv_le (y :: r) x h; lia
    · simp
theorem maxv_mem : ∀ (ps : ID), ps ≠ [] → ∃ p ∈ ps, p.2 = maxv ps
  | [], h => absurd rfl h
  | [p], _ => ⟨p, List.mem_cons_self, rfl⟩
  | p :: y :: r, _ => by
    obtain ⟨x, hx, e⟩ := maxv_mem (y :: r) (List.cons_ne_nil _ _)
    rw [maxv]
    · by_cases h : p.2 ≤ maxv (y :: r)
      · exact ⟨x, List.mem_cons_of_mem _ hx, by lia⟩
      · exact ⟨p, List.mem_cons_self, by lia⟩
    · simp
theorem maxv_eq {ps : ID} {n : Int} (h1 : ∃ p ∈ ps, p.2 = n) (h2 : ∀ p ∈ ps, p.2 ≤ n) : n = maxv ps := by
  obtain ⟨p, hp, rfl⟩ := h1
  obtain ⟨x, hx, e⟩ := maxv_mem ps (by rintro rfl; cases hp)
  have a := maxv_le ps p hp
  have b := h2 x hx
  lia
structure HeldS where
  held : ID
  told : List Str
noncomputable def heldMid (places : Int) (p : Nat) (held : ID) : ID :=
  if (held.get (sg p)).isNone = true ∧ (held.length : Int) = places then held.filter (fun kv => decide (kv.2 ≠ maxv held)) else held
noncomputable def textOf (held : ID) : Str := signs (srt fun p => (held.get (sg p)).isSome)
noncomputable def heldStep (places : Int) (p : Nat) (hr : Int) (S : HeldS) : HeldS :=
  let H := (heldMid places p S.held).put (sg p) hr
  ⟨H, S.told ++ [textOf H]⟩
noncomputable def heldRun (q : Nat → Nat) (hf : Nat → Int) (places : Int) : Nat → HeldS
  | 0 => ⟨[], []⟩
  | i + 1 => heldStep places (q i) (hf i) (heldRun q hf places i)

theorem heldMid_length (places : Int) (p : Nat) (held : ID) : (heldMid places p held).length ≤ held.length := by
  unfold heldMid; split
  · exact List.length_filter_le _ _
  · exact Nat.le_refl _
theorem heldRun_len (q : Nat → Nat) (hf : Nat → Int) (places : Int) : ∀ i, (heldRun q hf places i).held.length ≤ i ∧ (heldRun q hf places i).told.length ≤ i
  | 0 => ⟨Nat.le_refl _, Nat.le_refl _⟩
  | i + 1 => by
    obtain ⟨h1, h2⟩ := heldRun_len q hf places i
    have h3 := heldMid_length places (q i) (heldRun q hf places i).held
    have h4 := ID.put_length (heldMid places (q i) (heldRun q hf places i).held) (sg (q i)) (hf i)
    rw [heldRun, heldStep]
    exact ⟨by dsimp only; lia, by simp; lia⟩

theorem ID.put_keys {ps : ID} {k : Str} {n : Int} {x : Str} (h : x ∈ (ps.put k n).map (·.1)) : x ∈ ps.map (·.1) ∨ x = k := by
  unfold ID.put at h
  split at h
  · left
    obtain ⟨p, hp, e⟩ := List.mem_map.mp h
    obtain ⟨q, hq, e2⟩ := List.mem_map.mp hp
    refine List.mem_map.mpr ⟨q, hq, ?_⟩
    rw [← e, ← e2]
    split <;> rfl
  · rw [List.map_append, List.mem_append] at h
    rcases h with h | h
    · exact .inl h
    · right; simpa using h
theorem heldRun_keys {q : Nat → Nat} (hq : ∀ i, q i < 4) (hf : Nat → Int) (places : Int) : ∀ i, ∀ k ∈ (heldRun q hf places i).held.map (·.1), ∃ p, p < 4 ∧ k = sg p
  | 0 => fun k h => (nomatch h)
  | i + 1 => fun k h => by
    rw [heldRun, heldStep] at h
    rcases ID.put_keys h with h | h
    · refine heldRun_keys hq hf places i k ?_
      unfold heldMid at h
      split at h
      · obtain ⟨p, hp, e⟩ := List.mem_map.mp h
        exact List.mem_map.mpr ⟨p, (List.mem_filter.mp hp).1, e⟩
      · exact h
    · exact ⟨_, hq i, h⟩

inductive HeldJ (asks : Str) (ta : Tok) (hl : Addr) (places : Int) (tp : Tok) (l c1 c2 : Addr) (S : HeldS) (m' : List (Str × Value)) (own' : List (Addr × Sh)) : Prop
  | mk (d : Addr) (kvs : List (Str × Value)) (cv : Option Value) (vsT : List Value) (hm : m' = ([("asks", .str asks ta), ("hours", .ref hl), ("places", .int places tp), ("told", .ref l)] : List (Str × Value))) (ho : own' = [(d, Sh.dict kvs), (l, Sh.list vsT), (c1, Sh.cell cv), (c2, Sh.cell (some (.ref d)))])
      (h1 : IsID kvs S.held) (h2 : StrsAre vsT S.told) : HeldJ asks ta hl places tp l c1 c2 S m' own'
inductive HeldQ {prog : Program} {w : World} {g : Heap} {L : Addr} {s₀ : Shared} (m : List (Str × Value)) (l : Addr) (vsT : List Value) (e it : Addr) (X Y : Sh) (c1 c2 : Addr) (H : ID) (fl : Flow) (z : Shared) : Prop
  | mk (hf : fl = .next) (d : Addr) (kvs : List (Str × Value)) (cv : Option Value) (h : IsID kvs H) (C : Cx true prog w g L m [(e, X), (it, Y), (d, Sh.dict kvs), (l, Sh.list vsT), (c1, Sh.cell cv), (c2, Sh.cell (some (.ref d)))] s₀ z) : HeldQ m l vsT e it X Y c1 c2 H fl z

set_option maxHeartbeats 0 in
theorem held_spec {asks : Str} {ta : Tok} {q : Nat → Nat} {hl : Addr} {vh : List Value} {hf : Nat → Int} {places : Int} {tp : Tok} {Q : Value → Shared → Prop} (P : Pg asks q) (B : Bs w s.heap) (hd : A.depth + 20 < recursionLimit) (hh : A.handled = none)
    (hhl : Sh.Is prog w s.heap hl (.list vh)) (hhv : IntL hf 9 vh) (hp : 1 ≤ places ∧ places ≤ 3)
    (hret : ∀ a vs s', Gr true s s' → Sh.Is prog w s'.heap a (.list vs) → StrsAre vs (heldRun q hf places 9).told → s.heap.get? a = none → 203 ≤ a → Q (.ref a) s') :
    wpAny (model prog w) A (call (.ref 192) [.str asks ta, .ref hl, .int places tp]) Q E s := by
  refine enterC (σ := true) (binds := [("asks", .str asks ta), ("hours", .ref hl), ("places", .int places tp)]) B (by lia) rfl rfl rfl (fun n => [("latest", n + 1 + 1), ("held", n + 1)]) ?_ [("asks", .str asks ta), ("hours", .ref hl), ("places", .int places tp)] (fun n => [(n + 1 + 1, .cell none), (n + 1, .cell none)]) ?_ ?_ ?_ ?_ ?_ rfl rfl rfl ?_
  · intro n; with_unfolding_all rfl
  · intro n x hx
    rcases List.mem_cons.mp hx with rfl | hx
    · exact .inl rfl
    · rcases List.mem_cons.mp hx with rfl | hx
      · exact .inl rfl
      · rw [List.mem_singleton] at hx; subst hx; exact .inl rfl
  · intro p hx
    rcases List.mem_cons.mp hx with rfl | hx
    · rfl
    · rcases List.mem_cons.mp hx with rfl | hx
      · rfl
      · rw [List.mem_singleton] at hx; subst hx; rfl
  · show ([Str.ofString "asks", Str.ofString "hours", Str.ofString "places"] : List Str).Nodup
    decide +kernel
  · intro n p hx
    rcases List.mem_cons.mp hx with rfl | hx
    · exact ⟨"latest", _, rfl, rfl⟩
    · rw [List.mem_singleton] at hx; subst hx; exact ⟨"held", _, rfl, rfl⟩
  · intro n
    simp
  generalize s.heap.objs.size = L
  generalize L + 1 + 1 = c1
  generalize L + 1 = c2
  intro z C
  try dsimp only at C ⊢
  repeat wtm_at "w"
  have C := C.swap
  with_reducible (refine enumAsks P (by wtm_at "hh") C (fun i => HeldJ asks ta hl places tp l c1 c2 (heldRun q hf places i)) ?_ ?_ ?_)
  · exact ⟨_, _, _, _, rfl, rfl, .nil, .nil⟩
  · rintro i t0 u m own z X Y e it hi ⟨d, kvs, cv, vsT, rfl, rfl, h1, h2⟩ C
    obtain ⟨k1, k2⟩ := heldRun_len q hf places i
    have k3 := heldRun_keys P.lt hf places (i + 1)
    wtm_at "cps"
    have hR : heldRun q hf places (i + 1) = ⟨(heldMid places (q i) (heldRun q hf places i).held).put (sg (q i)) (hf i), (heldRun q hf places i).told ++ [textOf ((heldMid places (q i) (heldRun q hf places i).held).put (sg (q i)) (hf i))]⟩ := rfl
    rw [heldRun, heldStep] at k3
    have hlen := h1.length
    have hlen2 := StrsAre.length h2
    generalize (heldRun q hf places i) = S at *
    wtm_at "w"
    wtm_at "w"
    refine wpAny_execs_cons (wpAny_mono (Q := HeldQ (prog := prog) (w := w) (g := s.heap) (L := L) (s₀ := s) [("asks", .str asks ta), ("hours", .ref hl), ("places", .int places tp), ("told", .ref l), ("hour", .int (i : Nat) t0), ("sign", .str (sg (q i)) u)] l vsT e it X Y c1 c2 (heldMid places (q i) S.held)) ?_ (fun fl z q => ?_) (fun _ _ e => e))
    · wtm_at "cps0"
      repeat wtm_at "w"
      refine ⟨fun hb => ?_, fun hb => ?_⟩
      · rw [h1.isSome] at hb
        repeat wtm_at "w"
        refine ⟨fun hc => ?_, fun hc => ?_⟩
        · have hc : (S.held.length : Int) = places := by rw [← hlen]; simpa using hc
          have hmid : heldMid places (q i) S.held = S.held.filter (fun kv => decide (kv.2 ≠ maxv S.held)) := by
            unfold heldMid; rw [if_pos ⟨by simpa using hb, hc⟩]
          repeat wtm_at "w"
          have hne : S.held ≠ [] := by intro e; rw [e] at hc; simp at hc; lia
          with_reducible refine cMaxVals C (by wtm_at "hh") (by wtm_at "is") (by wtm_at "is") h1 hne ?_
          intro n tn z hn1 hn2 C
          have hn := maxv_eq hn1 hn2
          subst hn
          clear hn1 hn2
          repeat wtm_at "w"
          with_reducible refine dcomp (σ := true) (g := s.heap) (L := L) (s₀ := s) (cl := [("latest", c1), ("held", c2)]) ?_ ?_ ?_ ?_ ?_ ?_
          · with_unfolding_all rfl
          · with_unfolding_all decide
          · with_unfolding_all rfl
          · with_unfolding_all decide
          · with_unfolding_all rfl
          repeat wtm_at "w"
          with_reducible refine itDict C (by wtm_at "is") (by wtm_at "fr") ?_
          intro I z ep hdI _ hat C
          have f1 := C.hid (a := d) (sh' := .dict kvs) (by wtm_at "mm")
          have f2 := C.hid (a := c1) (by wtm_at "mm")
          have f3 := C.hid (a := c2) (by wtm_at "mm")
          have hnd := hat.nodup
          have hnd2 : (S.held.map (·.1)).Nodup := by rw [← h1.keys]; exact hnd
          refine ⟨_, 0, I, kvs.length, _, _, _, _, (fun i kvs' => IsID kvs' ((S.held.take i).filter (fun kv => decide (kv.2 ≠ maxv S.held)))), rfl, Nat.zero_le _, Src.keys (by wtm_at "hh") hdI, fun _ _ _ _ _ q => q, fun z hz => hat.at' (hz _ · hdI), C, .nil, ?_, ?_, ?_⟩
          · intro i kvs' _ hJ
            rw [hJ.length]
            have := List.length_filter_le (fun kv => decide (kv.2 ≠ maxv S.held)) (S.held.take i)
            have := List.length_take_le i S.held
            lia
          · rintro c i v z D kvs' hi ⟨k, x, t, hx, rfl⟩ hJ C
            obtain ⟨n, tn, rfl, hx2⟩ := h1.at i k x hx
            have hv := valueAt_of_get hnd hx
            refine tests1 ?_
            repeat wtm_at "w"
            with_reducible refine subDict C (by wtm_at "is") hv ?_
            intro z C
            repeat wtm_at "w"
            have hts := ID.take_succ hx2 (fun kv => decide (kv.2 ≠ maxv S.held))
            refine ⟨fun hb => ⟨?_, _, List.Sublist.refl _, C⟩, fun hb => ?_⟩
            · have hb : n = maxv S.held := by first | exact of_decide_eq_true hb | simpa using hb
              rw [hts, if_neg (by simp [hb]), List.append_nil]
              exact hJ
            · have hb : n ≠ maxv S.held := by first | exact of_decide_eq_true hb | simpa using hb
              repeat wtm_at "w"
              with_reducible refine subDict C (by wtm_at "is") hv ?_
              intro z C
              refine ⟨k, t, rfl, ?_, _, List.Sublist.refl _, C⟩
              rw [hts, if_pos (by simp [hb]), ← ID.put_new (ID.new_of_nodup hnd2 hx2 _)]
              exact hJ.put _ _ _
          · intro D kvs' z C hJ
            repeat wtm_at "w"
            rw [List.take_of_length_le (by rw [h1.length]; exact Nat.le_refl _)] at hJ
            have C := C.drop (own' := [(D, Sh.dict kvs'), (e, X), (it, Y), (l, Sh.list vsT), (c1, Sh.cell (some (.int (maxv S.held) tn))), (c2, Sh.cell (some (.ref D)))]) (by wtm_at "ms")
            exact ⟨rfl, D, kvs', _, by rw [hmid]; exact hJ, C.rot⟩
        · have hc : ¬ (S.held.length : Int) = places := by rw [← hlen]; simpa using hc
          have hmid : heldMid places (q i) S.held = S.held := by
            unfold heldMid; rw [if_neg fun h => hc h.2]
          repeat wtm_at "w"
          exact ⟨rfl, d, kvs, cv, by rw [hmid]; exact h1, C⟩
      · rw [h1.isSome] at hb
        have hmid : heldMid places (q i) S.held = S.held := by
          unfold heldMid; rw [if_neg]; rintro ⟨h, _⟩; simp at hb h; rw [h] at hb; cases hb
        repeat wtm_at "w"
        exact ⟨rfl, d, kvs, cv, by rw [hmid]; exact h1, C⟩
    · obtain ⟨rfl, d, kvs, cv, h1, C⟩ := q
      dsimp only
      obtain ⟨th, hth⟩ := hhv.2 i hi
      have hlen3 := h1.length
      have hlen4 := heldMid_length places (q i) S.held
      repeat wtm_at "w"
      with_reducible refine subList (by wtm_at "is") (by lia) (by lia) (by rw [Int.toNat_natCast]; exact hth) ?_
      repeat wtm_at "w"
      have h1 := h1.put (sg (q i)) (hf i) th
      have hlen5 := h1.length
      have hlen6 := ID.put_length (heldMid places (q i) S.held) (sg (q i)) (hf i)
      have hd : Sh.Is prog w z.heap d (.dict _) := C.is (by wtm_at "mm")
      obtain ⟨_, hat⟩ := Heap.DictOf.dictAt hd
      have hnd := hat.nodup
      with_reducible refine cSortedD C (by wtm_at "hh") hd (by wtm_at "fr") (by lia) ?_
      intro r z vs ss hS hp hsort C
      have hcan := canonS hp hnd (by rw [h1.keys]; exact k3) hsort
      subst hcan
      rw [h1.keys] at hS
      with_reducible refine cJoin C (by wtm_at "is") hS ?_ ?_
      · rw [len_sgs]
        have := srt_length (fun p => decide (sg p ∈ ((heldMid places (q i) S.held).put (sg (q i)) (hf i)).map (·.1)))
        show _ + _ * 0 ≤ _
        lia
      intro tj z C
      rw [join_sg]
      repeat wtm_at "w"
      have e : signs (srt fun p => decide (sg p ∈ ((heldMid places (q i) S.held).put (sg (q i)) (hf i)).map (·.1))) = textOf ((heldMid places (q i) S.held).put (sg (q i)) (hf i)) := by
        unfold textOf; congr 2; funext p; rw [ID.isSome_mem]
      rw [e] at C
      rw [hR]
      exact ⟨_, _, ⟨_, _, _, _, rfl, rfl, h1, strs_snoc h2 _ _⟩, (C.drop (by wtm_at "ms")).forget (by wtm_at "ms")⟩
  · rintro m own z ⟨d, kvs, cv, vsT, rfl, rfl, h1, h2⟩ C
    repeat wtm_at "w"
    have hm : (l, Sh.list vsT) ∈ [(d, Sh.dict kvs), (l, Sh.list vsT), (c1, Sh.cell cv), (c2, Sh.cell (some (.ref d)))] := by wtm_at "mm"
    exact hret l vsT _ C.out (C.is hm) h2 (C.fresh hm).1 (C.fresh hm).2
end
section
open PySem PySem.W PyProof.Rows PySem.Spec PySem.Calls
variable {σ : Bool} {prog : Program} {w : World} {g h h' : Heap} {L a : Addr} {m m' : List (Str × Value)} {own own' : List (Addr × Sh)} {s₀ s s' : Shared} {sh sh' : Sh}
variable {A : Around} {E : Value → Shared → Prop} {M : Model} {env : Env} {x y : Str} {v : Value}
theorem Up.rest (u : Up a sh sh' own own') : own.map (·.1) = own'.map (·.1) := u.keys.symm
theorem Cx.re (C : Cx σ prog w g L m own s₀ s) (u : Up a sh sh' own own') (hs : sh'.Is prog w s.heap a) : Cx σ prog w g L m own' s₀ s :=
  C.upd (h' := s.heap) (tk := s.toks) u (Nat.le_refl _) ⟨rfl, fun _ _ => rfl⟩ hs
noncomputable def itm (d : Addr) (i n ep : Nat) (k v : Value) : Obj := { cls := .type "dict_itemiterator", dict := none, data := .fields #[.none, .bool false, .ref d, .int i 0, .int n 0, .int ep 0, k, v], slots := #[] }
noncomputable def ivSh (d : Addr) : Sh := .flds "dict_items" [.ref d]
theorem cItems {d : Addr} {kvs : List (Str × Value)} {Q : Value → Shared → Prop} (C : Cx σ prog w g L m own s₀ s) (hl : Sh.Is prog w s.heap d (.dict kvs)) (hd : 203 ≤ d)
    (h : ∀ r s', Cx σ prog w g L m ((r, ivSh d) :: own) s₀ s' → Q (.ref r) s') : wpAny (model prog w) A (call (.builtin "dict.items") [.ref d]) Q E s := by
  have hm := Heap.DictOf.mapOf hl
  exact call_meetsIn F.slot_dict_items hm.typeIs F.entry_dict_items (F.args_dict_items_1 _) (meets_dict_items (PySem.strKind prog w) d (notMods hd)) ⟨⟨_, hl⟩, h _ _ (C.push (tk := s.toks) (Nat.le_refl _) ⟨_, Heap.get?_push_size _ rfl, rfl, rfl⟩)⟩
theorem itItems {r d : Addr} {kvs : List (Str × Value)} {Q : Value → Shared → Prop} (C : Cx σ prog w g L m own s₀ s) (hr : Sh.Is prog w s.heap r (ivSh d)) (hl : Sh.Is prog w s.heap d (.dict kvs))
    (h : ∀ I s' ep o, d ≠ I → (∀ h : Heap, h.get? d = some o → h.DictAt (PySem.strKind prog w) d kvs ep) → s'.heap.get? d = some o → Cx σ prog w g L m ((I, .raw (itm d 0 kvs.length ep .none .none)) :: own) s₀ s' → Q (.ref I) s') : wpAny (model prog w) A (pyIter (.ref r)) Q E s := by
  obtain ⟨ep, hat⟩ := Heap.DictOf.dictAt hl
  obtain ⟨o, es, ho, hrest⟩ := id hat
  have hlt : d < s.heap.objs.size := hat.lt_size
  refine wpAny_pyIter_items (knd := PySem.strKind prog w) (d := d) (kvs := kvs) (ep := ep) (by obtain ⟨o, ho, r1, r2⟩ := hr; exact ⟨o, ho, r1, by simpa using r2⟩) hat ?_
  exact h _ _ ep o (Nat.ne_of_lt hlt) (fun h2 e => ⟨o, es, e, hrest⟩) (Heap.get?_push_of_some _ ho) (C.push (tk := s.toks) (Nat.le_refl _) (Heap.get?_push_size _ rfl))
inductive ItJ (σ : Bool) (prog : Program) (w : World) (g : Heap) (L : Addr) (s₀ : Shared) (I d : Addr) (kvs : List (Str × Value)) (ep : Nat) (J : Nat → List (Str × Value) → List (Addr × Sh) → Prop) (r : Nat) (s : Shared) : Prop
  | mk (i : Nat) (m : List (Str × Value)) (own : List (Addr × Sh)) (ok ov : Value) (hi : i + r = kvs.length) (hJ : J i m own) (C : Cx σ prog w g L m ((I, .raw (itm d i kvs.length ep ok ov)) :: own) s₀ s) : ItJ σ prog w g L s₀ I d kvs ep J r s
theorem loop_items {I d : Addr} {kvs : List (Str × Value)} {ep : Nat} {o : Obj} {elts : List Expr} {k : Nat} {pos : Pos} {body : List Stmt} {Q : Flow → Shared → Prop} (hh : A.handled = none)
    (hF : ∀ h : Heap, h.get? d = some o → h.DictAt (PySem.strKind prog w) d kvs ep) (J : Nat → List (Str × Value) → List (Addr × Sh) → Prop) (hJd : ∀ i m own, J i m own → (d, Sh.raw o) ∈ own)
    (C : Cx σ prog w g L m ((I, .raw (itm d 0 kvs.length ep .none .none)) :: own) s₀ s) (h0 : J 0 m own)
    (hn2 : (assignEach elts env).length = 2) (hstar : (assignEach elts env).findIdx? (·.1) = none)
    (turn : ∀ i kk y t m own z X, i < kvs.length → kvs[i]? = some (kk, y) → J i m own → Cx σ prog w g L m ((I, X) :: own) s₀ z →
      wpAny (model prog w) A (assignInOrder ((assignEach elts env).map (·.2)) [.str kk t, y]) (fun _ s₂ => wpAny (model prog w) A (execs body env) (fun fl s₃ => match fl with
        | .next | .cont => ∃ m' own', J (i + 1) m' own' ∧ Cx σ prog w g L m' ((I, X) :: own') s₀ s₃
        | .brk => Q .next s₃
        | .ret v => Q (.ret v) s₃) (fun _ _ => False) s₂) (fun _ _ => False) z)
    (done : ∀ m own z, J kvs.length m own → Cx σ prog w g L m own s₀ z → Q .next z) : Loop prog w A (.Tuple elts k pos) (.ref I) body env Q E s := by
  refine codeAny_forLoop_any (ItJ σ prog w g L s₀ I d kvs ep J) (fun r z ⟨i, m, own, ok, ov, hi, hJ, C⟩ => ?_) kvs.length ⟨0, m, own, .none, .none, by lia, h0, C⟩
  have hd : (d, Sh.raw o) ∈ own := hJd _ _ _ hJ
  have hat := hF _ (C.raw (List.mem_cons_of_mem _ hd))
  have hit : IsItemIter z.heap I d i kvs.length ep ok ov := C.raw (o := itm d i kvs.length ep ok ov) List.mem_cons_self
  obtain ⟨k1, k2, k3⟩ := C.its _ List.mem_cons_self
  have hIlt : I < z.heap.objs.size := Heap.lt_size hit
  by_cases hin : i < kvs.length
  · obtain ⟨⟨kk, y⟩, hx⟩ : ∃ p, kvs[i]? = some p := ⟨kvs[i], by simp [hin]⟩
    refine wpAny_pyNext_items_item hit hat hx fun key h1 hk hout hT hsz hkeep => ?_
    obtain ⟨t, rfl⟩ := str_of_kis hk
    refine wpAny_letOwnedTupleGo_items hout fun h2 hit2 hs2 => ?_
    have hTI : z.heap.objs.size ≠ I := Nat.ne_of_gt hIlt
    have hT2 : h2.IsTuple z.heap.objs.size #[.str kk t, y] := ⟨_, (hs2.2 _ hTI).trans hT, rfl, 0, rfl⟩
    refine wpAny_assign_Tuple hh (items := #[.str kk t, y]) hT2 (by rw [hn2]; rfl) hstar fun h3 hx3 => ?_
    have C3 : Cx σ prog w g L m ((I, .raw (itm d (i + 1) kvs.length ep (.str kk t) y)) :: own) s₀ { z with heap := h3, toks := z.toks } := by
      refine C.next Up.head (Nat.le_refl _) (fun b o hb q => have q2 := (hs2.2 b hb).trans (hkeep b o hb q); hx3 b o (Nat.ne_of_lt (Heap.lt_size q2)) q2) ?_
      exact hx3 I _ (Nat.ne_of_lt (Heap.lt_size hit2)) hit2
    refine wpAny_mono (turn i kk y t m own _ _ hin hx hJ C3) (fun _ s₂ q => wpAny_mono q (fun fl s₃ q => ?_) (fun _ _ e => e.elim)) (fun _ _ e => e.elim)
    cases fl with
    | next => obtain ⟨m', own', hJ', C'⟩ := q; exact ⟨r - 1, by lia, i + 1, m', own', _, _, by lia, hJ', C'⟩
    | cont => obtain ⟨m', own', hJ', C'⟩ := q; exact ⟨r - 1, by lia, i + 1, m', own', _, _, by lia, hJ', C'⟩
    | brk => exact q
    | ret v => exact q
  · have hin' : i = kvs.length := by lia
    subst hin'
    refine wpAny_pyNext_items_end hh hit hat (by simp) fun h1 he => ?_
    exact wpAny_execs_nil (done m own _ hJ (C.gone (tk := z.toks) (Nat.le_refl _) fun b o hb q => he b o hb q))
noncomputable def slSh (l u : Value) : Sh := .flds "slice" [l, u, .none]
theorem eSliceL {e : Expr} {p : Pos} {Q : Value → Shared → Prop} (_C : Cx σ prog w g L m own s₀ s) (h : wpAny M A (eval e env) (fun v s₁ => ∃ m own, Cx σ prog w g L m own s₀ s₁ ∧ ∀ i s', Cx σ prog w g L m ((i, slSh v .none) :: own) s₀ s' → Q (.ref i) s') E s) :
    wpAny M A (eval (.Slice (some e) none none p) env) Q E s :=
  wpAny_Slice (show wpAny M A (eval e env) _ E s from wpAny_mono h (fun v s₁ ⟨_, _, C, hq⟩ => wpAny_pure (wpAny_pure (hq _ _ (C.push (tk := s₁.toks) (Nat.le_refl _) ⟨_, Heap.get?_push_size _ rfl, rfl, rfl⟩)))) fun _ _ e => e)
theorem eSliceU {e : Expr} {p : Pos} {Q : Value → Shared → Prop} (_C : Cx σ prog w g L m own s₀ s) (h : wpAny M A (eval e env) (fun v s₁ => ∃ m own, Cx σ prog w g L m own s₀ s₁ ∧ ∀ i s', Cx σ prog w g L m ((i, slSh .none v) :: own) s₀ s' → Q (.ref i) s') E s) :
    wpAny M A (eval (.Slice none (some e) none p) env) Q E s :=
  wpAny_Slice (wpAny_pure (show wpAny M A (eval e env) _ E s from wpAny_mono h (fun v s₁ ⟨_, _, C, hq⟩ => wpAny_pure (hq _ _ (C.push (tk := s₁.toks) (Nat.le_refl _) ⟨_, Heap.get?_push_size _ rfl, rfl, rfl⟩))) fun _ _ e => e))
theorem subStr_L {value slice : Expr} {x : Str} {t : Tok} {i : Addr} {k : Int} {u : Tok} {Q : Value → Shared → Prop} (C : Cx σ prog w g L m own s₀ s) (hi : Sh.Is prog w s.heap i (slSh (.int k u) .none)) (hn : x.length ≤ 10000)
    (h : ∀ t s', Cx σ prog w g L m own s₀ s' → Q (.str (Txt.slice x (some k) none) t) s')
    (hs : subscripted slice false (.str x t) (.ref i) = operate [.ref i, .str x t] (getItem (.str x t) (.ref i)) := by with_unfolding_all rfl) (ht : ∀ r, letTemporaryGo value (.str x t) r = pure () := by intro _; with_unfolding_all rfl) :
    wpAny (model prog w) A (subscriptTail value slice (.str x t) (.ref i)) Q E s :=
  wpAny_with_toks (Nat.le_refl _) (tail_of_ItemOn ⟨"str", _, F.slot_str_getitem.lookup, typeIs_str _ _ _, wpAny_getItem_str_slice (l := some (k, u)) (u := none) (st := none) (by obtain ⟨o, ho, r1, r2⟩ := hi; exact ⟨o, ho, r1, r2.trans rfl⟩) rfl
    (post_val_or_str ⟨Nat.le_trans (Txt.slice_le x _ _) (by rw [sizeLine_eq]; lia), fun t' _ htk => h t' _ (C.tokens htk)⟩)⟩ hs ht)
theorem subStr_U {value slice : Expr} {x : Str} {t : Tok} {i : Addr} {k : Int} {u : Tok} {Q : Value → Shared → Prop} (C : Cx σ prog w g L m own s₀ s) (hi : Sh.Is prog w s.heap i (slSh .none (.int k u))) (hn : x.length ≤ 10000)
    (h : ∀ t s', Cx σ prog w g L m own s₀ s' → Q (.str (Txt.slice x none (some k)) t) s')
    (hs : subscripted slice false (.str x t) (.ref i) = operate [.ref i, .str x t] (getItem (.str x t) (.ref i)) := by with_unfolding_all rfl) (ht : ∀ r, letTemporaryGo value (.str x t) r = pure () := by intro _; with_unfolding_all rfl) :
    wpAny (model prog w) A (subscriptTail value slice (.str x t) (.ref i)) Q E s :=
  wpAny_with_toks (Nat.le_refl _) (tail_of_ItemOn ⟨"str", _, F.slot_str_getitem.lookup, typeIs_str _ _ _, wpAny_getItem_str_slice (l := none) (u := some (k, u)) (st := none) (by obtain ⟨o, ho, r1, r2⟩ := hi; exact ⟨o, ho, r1, r2.trans rfl⟩) rfl
    (post_val_or_str ⟨Nat.le_trans (Txt.slice_le x _ _) (by rw [sizeLine_eq]; lia), fun t' _ htk => h t' _ (C.tokens htk)⟩)⟩ hs ht)
theorem oAddS {x y : Str} {t u : Tok} {Q : Value → Shared → Prop} (C : Cx σ prog w g L m own s₀ s) (hn : x.length + y.length ≤ 10000) (h : ∀ t s', Cx σ prog w g L m own s₀ s' → Q (.str (x ++ y) t) s') : wpAny (model prog w) A (binaryOp .Add (.str x t) (.str y u)) Q E s := by
  refine P.add_str ?_
  by_cases h1 : (x.length == 0) = true
  · rw [if_pos h1]
    have e : x ++ y = y := by
      obtain ⟨⟨a⟩⟩ := x
      have : a = [] := by simpa [Str.length] using h1
      subst this
      exact str_ext (by rw [Str.cps_append]; simp)
    have := h u s C
    rw [e] at this
    exact this
  · rw [if_neg h1]
    by_cases h2 : (y.length == 0) = true
    · rw [if_pos h2]
      have e : x ++ y = x := by
        obtain ⟨⟨a⟩⟩ := y
        have : a = [] := by simpa [Str.length] using h2
        subst this
        exact str_ext (by rw [Str.cps_append]; simp)
      have := h t s C
      rw [e] at this
      exact this
    · rw [if_neg h2]
      exact ⟨by rw [Str.length_append, sizeLine_eq]; lia, h _ _ (C.tokens (Nat.le_succ _))⟩
theorem cCount {x y : Str} {t u : Tok} {Q : Value → Shared → Prop} (C : Cx σ prog w g L m own s₀ s) (h : ∀ t s', Cx σ prog w g L m own s₀ s' → Q (.int (Txt.count x y) t) s') : wpAny (model prog w) A (call (.builtin "str.count") [.str x t, .str y u]) Q E s :=
  SC.count (h _ _ (C.tokens (Nat.le_succ _)))
theorem cReplace {x y z : Str} {t u v : Tok} {Q : Value → Shared → Prop} (C : Cx σ prog w g L m own s₀ s) (hu : u ≠ 0) (hv : v ≠ 0) (huv : u ≠ v) (hyz : (y == z) = false) (hx : x.length ≤ 10000) (hz : z.length ≤ 14)
    (h : ∀ t s', Cx σ prog w g L m own s₀ s' → Q (.str (Txt.replace x y z) t) s') : wpAny (model prog w) A (call (.builtin "str.replace") [.str x t, .str y u, .str z v]) Q E s :=
  wpAny_with_toks (Nat.le_refl _) (SC.replaceW hu hv huv hyz (by lia) hz fun t' _ htk => h t' _ (C.tokens htk))
theorem cIndex {x y : Str} {t u : Tok} {i : Nat} {rest : List Nat} {Q : Value → Shared → Prop} (C : Cx σ prog w g L m own s₀ s) (ho : Builtin.Str.occurrences x y 0 x.length 1 = i :: rest) (h : ∀ t s', Cx σ prog w g L m own s₀ s' → Q (.int i t) s') : wpAny (model prog w) A (call (.builtin "str.index") [.str x t, .str y u]) Q E s :=
  SC.index ho (h _ _ (C.tokens (Nat.le_succ _)))
theorem cStrT {i : Str} {k : Nat} {pos : Pos} {Q : Value → Shared → Prop} (C : Cx σ prog w g L m own s₀ s) (h : ∀ s', Cx σ prog w g L m own s₀ s' → Q (.str i s.toks) s') : wpAny M A (eval (.Constant (.str i) k pos) env) Q E s :=
  Constant_str (h _ (C.tokens (Nat.le_succ _)))
theorem eList1 {e : Expr} {pos : Pos} {Q : Value → Shared → Prop} (_C : Cx σ prog w g L m own s₀ s) (h : wpAny M A (eval e env) (fun v s₁ => ∃ m own, Cx σ prog w g L m own s₀ s₁ ∧ ∀ a s', Cx σ prog w g L m ((a, .list [v]) :: own) s₀ s' → Q (.ref a) s') E s)
    (he : starEach [e] env = [(false, eval e env)] := by with_unfolding_all rfl) : wpAny M A (eval (.List [e] pos) env) Q E s :=
  eList (sm (wpAny_mono h (fun _ _ ⟨_, _, C, hq⟩ => spliced_none ⟨_, _, C, rfl, hq⟩) fun _ _ e => e) he)
theorem asg2 {a b : Str} {p1 p2 : Pos} {v1 v2 : Value} {Q : Unit → Shared → Prop} (h : wpAny M A (storeName env a v1) (fun _ s₁ => wpAny M A (storeName env b v2) Q E s₁) E s) :
    wpAny M A (assignInOrder ((assignEach [.Name a p1, .Name b p2] env).map (·.2)) [v1, v2]) Q E s :=
  assignInOrder_cons (wpAny_assign_Name (wpAny_mono h (fun _ _ h1 => assignInOrder_cons (wpAny_assign_Name (wpAny_mono h1 (fun _ _ h2 => assignInOrder_nil h2) fun _ _ e => e))) fun _ _ e => e))
end
section
open PySem PySem.W PyProof.Rows PySem.Spec PySem.Calls
noncomputable def kt (n : Nat) : Str := ⟨#[if n.testBit 0 then 97 else 46, if n.testBit 1 then 98 else 46, if n.testBit 2 then 99 else 46, if n.testBit 3 then 100 else 46]⟩
noncomputable def bits (n : Nat) : List Nat := [0, 1, 2, 3].filter fun i => n.testBit i
noncomputable def keptOf (places : Int) (n p : Nat) : List Nat :=
  if n.testBit p then [n] else if ((4 : Int) - (bits n).length) > 4 - places then [n] else (bits n).map fun i => n - 2 ^ i
theorem kt_in : ∀ n, n < 16 → ∀ p, p < 4 → (!(Builtin.Str.occurrences (kt n) (sg p) 0 (kt n).length 1).isEmpty) = n.testBit p := by decide +kernel
theorem kt_count : ∀ n, n < 16 → Txt.count (kt n) (Str.ofString ".") = 4 - (bits n).length := by decide +kernel
theorem kt_rep : ∀ n, n < 16 → (((kt n).cps.toList.filter fun c => decide (c ≠ 46)).map fun c => Txt.replace (kt n) ⟨#[c]⟩ (Str.ofString ".")) = ((bits n).map fun i => n - 2 ^ i).map kt := by decide +kernel
theorem kt_now : ∀ n, n < 16 → ∀ p, p < 4 → Txt.slice (kt n) none (some (p : Nat)) ++ sg p ++ Txt.slice (kt n) (some ((p : Nat) + 1)) none = kt (n ||| 2 ^ p) := by decide +kernel
theorem kt_slice : ∀ n, n < 16 → ∀ p, p < 4 → (Txt.slice (kt n) none (some (p : Nat))).length ≤ 4 ∧ (Txt.slice (kt n) (some ((p : Nat) + 1)) none).length ≤ 4 := by decide +kernel
theorem abcd_at : ∀ p, p < 4 → Builtin.Str.occurrences (Str.ofString "abcd") (sg p) 0 (Str.ofString "abcd").length 1 = [p] := by decide +kernel
theorem kt_inj : ∀ a, a < 16 → ∀ b, b < 16 → kt a = kt b → a = b := by decide +kernel
theorem kt_ascii : ∀ n, n < 16 → strIterType (kt n) = "str_ascii_iterator" := by decide +kernel
theorem kt_start : kt 0 = Str.ofString "...." := by decide +kernel
theorem or_lt : ∀ n, n < 16 → ∀ p, p < 4 → n ||| 2 ^ p < 16 := by decide +kernel
theorem kept_lt : ∀ n, n < 16 → ∀ i ∈ bits n, n - 2 ^ i < 16 := by decide +kernel
theorem kt_len (n : Nat) : (kt n).length = 4 := rfl
theorem kt_dot : ∀ n, n < 16 → ∀ c ∈ (kt n).cps.toList, (if c = 46 then true else ((⟨#[c]⟩ : Str) == Str.ofString ".") == false) = true := by decide +kernel
end
section
open PySem PySem.W PyProof.Rows PySem.Spec PySem.Calls
variable {σ : Bool} {prog : Program} {w : World} {g h h' : Heap} {L a : Addr} {m m' : List (Str × Value)} {own own' : List (Addr × Sh)} {s₀ s s' : Shared} {sh sh' : Sh}
variable {A : Around} {E : Value → Shared → Prop} {M : Model} {env : Env} {x y : Str} {v : Value}
theorem preSum_take (ns : List Int) : ∀ n, n ≤ ns.length → preSum (fun i => ns.getD i 0) n = (ns.take n).sum
  | 0, _ => by simp [preSum]
  | n + 1, h => by
    rw [preSum, preSum_take ns n (by lia), List.take_add_one, List.sum_append]
    simp [show n < ns.length from h]
theorem cSum {l : Addr} {vs : List Value} {ns : List Int} {Q : Value → Shared → Prop} (C : Cx σ prog w g L m own s₀ s) (hh : A.handled = none) (hl : Sh.Is prog w s.heap l (.list vs)) (hi : IntsAre vs ns)
    (h : ∀ t s', Cx σ prog w g L m own s₀ s' → Q (.int ns.sum t) s') : wpAny (model prog w) A (call (.builtin "sum") [.ref l]) Q E s := by
  have hlt := hl.lt
  have hne : l ≠ s.heap.objs.size := Nat.ne_of_lt hlt
  refine wpAny_with_toks (Nat.le_refl _) (call_sum_walkG (wpAny_pyIter_list (Sh.isL hl) ⟨_, [s.heap.objs.size, l], [s.heap.objs.size], vs.toArray.size, _, _, fun i => ns.getD i 0, rfl, Walks.list (A := A.in1) hh _ l hne vs.toArray,
    ⟨⟨_, Heap.get?_push_size _ rfl, rfl, rfl⟩, (Sh.isL hl).push _⟩, fun b hb => ?_, fun i v hv => ?_, fun h' tk t' hk ht => ?_⟩))
  · show b < (s.heap.push _).objs.size
    rw [Heap.size_push]
    rcases List.mem_cons.mp hb with rfl | hb
    · exact Nat.lt_succ_self _
    · rw [List.mem_singleton] at hb; subst hb; exact Nat.lt_succ_of_lt hlt
  · have hv : vs[i]? = some v := by simpa using hv
    obtain ⟨n, t, rfl, e⟩ := IntsAre.at hi i v hv
    exact ⟨t, by simp [e]⟩
  · have e : preSum (fun i => ns.getD i 0) vs.toArray.size = ns.sum := by
      rw [List.size_toArray, IntsAre.length hi, preSum_take ns _ (Nat.le_refl _), List.take_length]
    rw [e]
    exact h t' _ (C.grown ⟨fun b o _ q => hk b o (by rw [List.mem_singleton]; exact Nat.ne_of_lt (Heap.lt_size q)) (Heap.get?_push_of_some _ q), rfl, rfl, gens_refl, ht⟩)

noncomputable abbrev WS := List (Nat × Int)
noncomputable def WS.get (W : WS) (n : Nat) : Option Int := (W.find? fun x => x.1 = n).map (·.2)
noncomputable def WS.put (W : WS) (n : Nat) (k : Int) : WS := if W.any (fun x => x.1 = n) then W.map (fun x => if x.1 = n then (x.1, k) else x) else W ++ [(n, k)]
noncomputable def toID (W : WS) : ID := W.map fun x => (kt x.1, x.2)
noncomputable def WS.Ok (W : WS) : Prop := (∀ x ∈ W, x.1 < 16) ∧ (W.map (·.1)).Nodup
theorem toID_get {W : WS} (h : ∀ x ∈ W, x.1 < 16) {n : Nat} (hn : n < 16) : (toID W).get (kt n) = W.get n := by
  unfold toID ID.get WS.get
  induction W with
  | nil => rfl
  | cons x r ih =>
    have hx := h x List.mem_cons_self
    have ih := ih fun y hy => h y (List.mem_cons_of_mem _ hy)
    rw [List.map_cons, List.find?_cons, List.find?_cons]
    by_cases e : x.1 = n
    · simp [e]
    · have : ¬ kt x.1 = kt n := fun q => e (kt_inj _ hx _ hn q)
      simp only [this, e, decide_false]
      exact ih
theorem toID_any {W : WS} (h : ∀ x ∈ W, x.1 < 16) {n : Nat} (hn : n < 16) : ((toID W).any fun p => p.1 = kt n) = W.any fun x => x.1 = n := by
  unfold toID
  rw [List.any_map, Bool.eq_iff_iff, List.any_eq_true, List.any_eq_true]
  constructor
  · rintro ⟨x, hx, e⟩; exact ⟨x, hx, decide_eq_true (kt_inj _ (h x hx) _ hn (of_decide_eq_true e))⟩
  · rintro ⟨x, hx, e⟩; exact ⟨x, hx, decide_eq_true (congrArg kt (of_decide_eq_true e))⟩
theorem toID_put {W : WS} (h : ∀ x ∈ W, x.1 < 16) {n : Nat} (hn : n < 16) (k : Int) : (toID W).put (kt n) k = toID (W.put n k) := by
  unfold ID.put WS.put
  rw [toID_any h hn]
  by_cases q : (W.any fun x => x.1 = n) = true
  · rw [if_pos q, if_pos q]
    unfold toID
    rw [List.map_map, List.map_map]
    apply List.map_congr_left
    intro x hx
    by_cases e : x.1 = n
    · simp [e]
    · have : ¬ kt x.1 = kt n := fun q => e (kt_inj _ (h x hx) _ hn q)
      simp [e, this]
  · rw [if_neg q, if_neg q]
    unfold toID
    simp
theorem WS.put_ok {W : WS} (h : W.Ok) {n : Nat} (hn : n < 16) (k : Int) : (W.put n k).Ok := by
  unfold WS.put
  by_cases q : (W.any fun x => x.1 = n) = true
  · rw [if_pos q]
    have e : (W.map fun x => if x.1 = n then (x.1, k) else x).map (·.1) = W.map (·.1) := by
      rw [List.map_map]
      apply List.map_congr_left
      intro x _
      by_cases e : x.1 = n <;> simp [e]
    refine ⟨fun x hx => ?_, by rw [e]; exact h.2⟩
    obtain ⟨y, hy, rfl⟩ := List.mem_map.mp hx
    have := h.1 y hy
    by_cases e : y.1 = n <;> simp [e] <;> lia
  · rw [if_neg q]
    refine ⟨fun x hx => ?_, ?_⟩
    · rcases List.mem_append.mp hx with hx | hx
      · exact h.1 x hx
      · rw [List.mem_singleton] at hx; subst hx; exact hn
    · rw [List.map_append]
      refine List.nodup_append.mpr ⟨h.2, by simp, ?_⟩
      intro a ha b hb e
      obtain ⟨y, hy, rfl⟩ := List.mem_map.mp ha
      simp at hb
      exact q (List.any_eq_true.mpr ⟨y, hy, decide_eq_true (e.trans hb)⟩)
theorem nodup_len : ∀ (k : Nat) (l : List Nat), l.Nodup → (∀ x ∈ l, x < k) → l.length ≤ k
  | 0, l, _, h => by
    cases l with
    | nil => exact Nat.le_refl _
    | cons x r => exact absurd (h x List.mem_cons_self) (Nat.not_lt_zero _)
  | k + 1, l, hn, h => by
    have h1 := nodup_len k (l.erase k) (hn.erase k) fun x hx => by
      have := (hn.mem_erase_iff).mp hx
      have := h x this.2
      lia
    have h2 := List.length_erase (a := k) (l := l)
    split at h2 <;> lia
theorem WS.Ok.len {W : WS} (h : W.Ok) : W.length ≤ 16 := by
  have := nodup_len 16 (W.map (·.1)) h.2 fun x hx => by obtain ⟨y, hy, rfl⟩ := List.mem_map.mp hx; exact h.1 y hy
  simpa using this

noncomputable def bestPut (p : Nat) (k : Int) (F : WS) (l : Nat) : WS := F.put (l ||| 2 ^ p) (max k ((F.get (l ||| 2 ^ p)).getD 0))
noncomputable def bestTurn (places : Int) (p : Nat) (F : WS) (x : Nat × Int) : WS := (keptOf places x.1 p).foldl (bestPut p (if x.1.testBit p then x.2 + 1 else x.2)) F
structure BestS where
  W : WS
  told : List Int
noncomputable def bestStep (places : Int) (p : Nat) (S : BestS) : BestS :=
  let W := S.W.foldl (bestTurn places p) []
  ⟨W, S.told ++ [maxv (toID W) - S.told.sum]⟩
noncomputable def bestRun (q : Nat → Nat) (places : Int) : Nat → BestS
  | 0 => ⟨[(0, 0)], []⟩
  | i + 1 => bestStep places (q i) (bestRun q places i)
theorem keptOf_lt {places : Int} {n p : Nat} (hn : n < 16) : ∀ l ∈ keptOf places n p, l < 16 := by
  intro l hl
  unfold keptOf at hl
  split at hl
  · rw [List.mem_singleton] at hl; lia
  · split at hl
    · rw [List.mem_singleton] at hl; lia
    · obtain ⟨i, hi, rfl⟩ := List.mem_map.mp hl
      exact kept_lt n hn i hi
theorem foldl_ok {p : Nat} (hp : p < 4) (k : Int) : ∀ (ls : List Nat), (∀ l ∈ ls, l < 16) → ∀ F : WS, F.Ok → (ls.foldl (bestPut p k) F).Ok
  | [], _, _, hF => hF
  | l :: r, h, F, hF => foldl_ok hp k r (fun x hx => h x (List.mem_cons_of_mem _ hx)) _ (WS.put_ok hF (or_lt l (h l List.mem_cons_self) p hp) _)
theorem bestTurn_ok {places : Int} {p : Nat} (hp : p < 4) {F : WS} (hF : F.Ok) {x : Nat × Int} (hx : x.1 < 16) : (bestTurn places p F x).Ok := foldl_ok hp _ _ (keptOf_lt hx) F hF
theorem bestAll_ok {places : Int} {p : Nat} (hp : p < 4) : ∀ (W : WS), (∀ x ∈ W, x.1 < 16) → ∀ F : WS, F.Ok → (W.foldl (bestTurn places p) F).Ok
  | [], _, _, hF => hF
  | x :: r, h, F, hF => bestAll_ok hp r (fun y hy => h y (List.mem_cons_of_mem _ hy)) _ (bestTurn_ok hp hF (h x List.mem_cons_self))
theorem nil_ok : WS.Ok [] := ⟨by simp, by simp⟩
theorem bestRun_ok {q : Nat → Nat} (hq : ∀ i, q i < 4) (places : Int) : ∀ i, (bestRun q places i).W.Ok ∧ (bestRun q places i).told.length = i
  | 0 => ⟨⟨by simp [bestRun], by simp [bestRun]⟩, rfl⟩
  | i + 1 => by
    obtain ⟨h1, h2⟩ := bestRun_ok hq places i
    exact ⟨bestAll_ok (hq i) _ h1.1 _ nil_ok, by simp [bestRun, bestStep, h2]⟩
theorem WS.put_ne (W : WS) (n : Nat) (k : Int) : W.put n k ≠ [] := by
  unfold WS.put
  split
  · rename_i h
    obtain ⟨x, hx, _⟩ := List.any_eq_true.mp h
    intro e
    have : W = [] := by simpa using e
    rw [this] at hx; cases hx
  · simp
theorem foldl_put_ne (p : Nat) (k : Int) : ∀ (ls : List Nat) (F : WS), (ls ≠ [] ∨ F ≠ []) → ls.foldl (bestPut p k) F ≠ []
  | [], F, h => h.resolve_left (fun q => q rfl)
  | l :: r, F, _ => foldl_put_ne p k r _ (.inr (WS.put_ne F (l ||| 2 ^ p) _))
theorem keptOf_ne {places : Int} (hp : 1 ≤ places) (n p : Nat) : keptOf places n p ≠ [] := by
  unfold keptOf
  split
  · simp
  · split
    · simp
    · rename_i h
      intro e
      have e : bits n = [] := by simpa using e
      rw [e] at h
      simp at h
      lia
theorem bestAll_ne {places : Int} (hp : 1 ≤ places) (p : Nat) : ∀ (W F : WS), (W ≠ [] ∨ F ≠ []) → W.foldl (bestTurn places p) F ≠ []
  | [], F, h => h.resolve_left (fun q => q rfl)
  | x :: r, F, _ => bestAll_ne hp p r _ (.inr (foldl_put_ne p _ _ _ (.inl (keptOf_ne hp x.1 p))))
theorem bestRun_ne {q : Nat → Nat} {places : Int} (hp : 1 ≤ places) : ∀ i, (bestRun q places i).W ≠ []
  | 0 => by simp [bestRun]
  | i + 1 => bestAll_ne hp _ _ _ (.inl (bestRun_ne hp i))
end
section
open PySem PySem.W PyProof.Rows PySem.Spec PySem.Calls
variable {σ : Bool} {prog : Program} {w : World} {g h h' : Heap} {L a : Addr} {m m' : List (Str × Value)} {own own' : List (Addr × Sh)} {s₀ s s' : Shared} {sh sh' : Sh}
variable {A : Around} {E : Value → Shared → Prop} {M : Model} {env : Env} {x y : Str} {v : Value}

noncomputable def notDot : Value → Bool
  | .str y _ => y.cps.toList != (Str.ofString ".").cps.toList
  | _ => true
noncomputable def RepOf (x : Str) (v y : Value) : Prop := ∃ c u t, v = .str ⟨#[c]⟩ u ∧ y = .str (Txt.replace x ⟨#[c]⟩ (Str.ofString ".")) t
theorem paired_rep {x : Str} : ∀ (cs : List Nat) (vs ys : List Value), vs.length = cs.length → (∀ (j : Nat) (v : Value), vs[j]? = some v → ∃ c u, cs[j]? = some c ∧ v = .str ⟨#[c]⟩ u) → Paired (RepOf x) (vs.filter notDot) ys →
    StrsAre ys ((cs.filter fun c => decide (c ≠ 46)).map fun c => Txt.replace x ⟨#[c]⟩ (Str.ofString "."))
  | [], vs, ys, hl, _, hp => by
    have : vs = [] := List.eq_nil_of_length_eq_zero hl
    subst this
    cases hp
    exact .nil
  | c :: r, [], ys, hl, _, _ => by simp at hl
  | c :: r, v :: vs, ys, hl, h, hp => by
    obtain ⟨c', u, e, rfl⟩ := h 0 v rfl
    simp at e
    subst e
    have h' : ∀ (j : Nat) (v : Value), vs[j]? = some v → ∃ c u, r[j]? = some c ∧ v = .str ⟨#[c]⟩ u := fun j v e => by simpa using h (j + 1) v (by simpa using e)
    have hl' : vs.length = r.length := by simpa using hl
    have hdot : notDot (.str ⟨#[c]⟩ u) = decide (c ≠ 46) := by
      show (([c] : List Nat) != [46]) = _
      by_cases e : c = 46
      · subst e; rfl
      · have : ¬ ([c] : List Nat) = [46] := by simpa using e
        simp [e]
    rw [List.filter_cons, hdot] at hp
    by_cases e : c = 46
    · subst e
      rw [if_neg (by simp)] at hp
      simpa using paired_rep r vs ys hl' h' hp
    · rw [if_pos (by simpa using e)] at hp
      cases hp with
      | cons hF hr =>
        obtain ⟨c2, u2, t2, e1, rfl⟩ := hF
        cases e1
        simpa [e] using StrsAre.cons _ t2 (paired_rep r vs _ hl' h' hr)

theorem Cx.rebase (C : Cx σ prog w g L m own s₀ s) : Cx σ prog w g L m own s s := ⟨C.ns, C.keep, C.low, C.above, C.its, C.nd, C.uq, rfl, rfl, gens_refl, Nat.le_refl _⟩
theorem Cx.on {s₁ : Shared} (C₀ : Cx σ prog w g L m own s₀ s₁) (C : Cx σ prog w g L m' own' s₁ s) : Cx σ prog w g L m' own' s₀ s :=
  ⟨C.ns, C.keep, C.low, C.above, C.its, C.nd, C.uq, C.os.trans C₀.os, C.drawn.trans C₀.drawn, gens_trans C₀.gens C.gens, Nat.le_trans C₀.toks C.toks⟩
inductive BestJ (asks : Str) (ta : Tok) (places : Int) (tp : Tok) (l ch : Addr) (S : BestS) (m' : List (Str × Value)) (own' : List (Addr × Sh)) : Prop
  | mk (d : Addr) (kvs : List (Str × Value)) (cv : Option Value) (vsT : List Value) (hm : m' = ([("asks", .str asks ta), ("places", .int places tp), ("ways", .ref d), ("told", .ref l)] : List (Str × Value))) (ho : own' = [(d, Sh.dict kvs), (l, Sh.list vsT), (ch, Sh.cell cv)])
      (h1 : IsID kvs (toID S.W)) (h2 : IntsAre vsT S.told) : BestJ asks ta places tp l ch S m' own'
inductive BestJ2 (m : List (Str × Value)) (d I : Addr) (shI : Sh) (dW : Addr) (o : Obj) (l : Addr) (vsT : List Value) (ch : Addr) (W : WS) (m' : List (Str × Value)) (own' : List (Addr × Sh)) : Prop
  | mk (kvF : List (Str × Value)) (cv : Option Value) (hm : m' = m) (ho : own' = [(d, Sh.dict kvF), (I, shI), (dW, Sh.raw o), (l, Sh.list vsT), (ch, Sh.cell cv)]) (h : IsID kvF (toID W)) : BestJ2 m d I shI dW o l vsT ch W m' own'
inductive BestJ3 (m : List (Str × Value)) (kl : Addr) (vsK : List Value) (I2 : Addr) (X : Sh) (d : Addr) (o : List (Addr × Sh)) (W : WS) (m' : List (Str × Value)) (own' : List (Addr × Sh)) : Prop
  | mk (kvF : List (Str × Value)) (hm : m' = m) (ho : own' = (kl, Sh.list vsK) :: (I2, X) :: (d, Sh.dict kvF) :: o) (h : IsID kvF (toID W)) : BestJ3 m kl vsK I2 X d o W m' own'
inductive BestQ (prog : Program) (w : World) (g : Heap) (s : Shared) (L : Addr) (asks : Str) (ta : Tok) (places : Int) (tp : Tok) (dW l : Addr) (qi : Nat) (u t : Tok) (d : Addr) (k : Int) (ks : List Str) (o : List (Addr × Sh)) (fl : Flow) (z : Shared) : Prop
  | mk (hf : fl = .next) (kl : Addr) (vsK : List Value) (th : Tok) (h : StrsAre vsK ks) (C : Cx true prog w g L [("asks", .str asks ta), ("places", .int places tp), ("ways", .ref dW), ("told", .ref l), ("sign", .str (sg qi) u), ("page", .int (qi : Nat) t), ("further", .ref d), ("hits", .int k th), ("kept", .ref kl)]
      ((kl, Sh.list vsK) :: o) s z) : BestQ prog w g s L asks ta places tp dW l qi u t d k ks o fl z

set_option maxHeartbeats 0 in
theorem best_spec {asks : Str} {ta : Tok} {q : Nat → Nat} {places : Int} {tp : Tok} {Q : Value → Shared → Prop} (P : Pg asks q) (B : Bs w s.heap) (hd : A.depth + 20 < recursionLimit) (hh : A.handled = none) (hp : 1 ≤ places ∧ places ≤ 3)
    (hret : ∀ a vs s', Gr true s s' → Sh.Is prog w s'.heap a (.list vs) → IntsAre vs (bestRun q places 9).told → s.heap.get? a = none → 203 ≤ a → Q (.ref a) s') :
    wpAny (model prog w) A (call (.ref 180) [.str asks ta, .int places tp]) Q E s := by
  refine enterC (σ := true) (binds := [("asks", .str asks ta), ("places", .int places tp)]) B (by lia) rfl rfl rfl (fun n => [("held", n + 1)]) ?_ [("asks", .str asks ta), ("places", .int places tp)] (fun n => [(n + 1, .cell none)]) ?_ ?_ ?_ ?_ ?_ rfl rfl rfl ?_
  · intro n; with_unfolding_all rfl
  · intro n x hx
    rcases List.mem_cons.mp hx with rfl | hx
    · exact .inl rfl
    · rw [List.mem_singleton] at hx; subst hx; exact .inl rfl
  · intro p hx
    rcases List.mem_cons.mp hx with rfl | hx
    · rfl
    · rw [List.mem_singleton] at hx; subst hx; rfl
  · show ([Str.ofString "asks", Str.ofString "places"] : List Str).Nodup
    decide +kernel
  · intro n p hx
    rw [List.mem_singleton] at hx; subst hx; exact ⟨"held", _, rfl, rfl⟩
  · intro n
    simp
  generalize s.heap.objs.size = L
  generalize L + 1 = ch
  intro z C
  try dsimp only at C ⊢
  repeat wtm_at "w"
  with_reducible refine mkDict C ?_ ?_ ?_ ?_ ?_
  · rfl
  · rfl
  · exact List.cons_ne_nil _ _
  · exact Nat.le_of_ble_eq_true rfl
  intro d z C
  with_reducible refine pairTrees_cons_walk (cStr C fun t1 z C => cInt C fun u1 z C => pairTrees_nil_walk ?_)
  refine ⟨[(Str.ofString "....", .int 0 u1)], ⟨kis, rfl, trivial⟩, by simp, C, ?_⟩
  clear C
  intro z C
  repeat wtm_at "w"
  have C := C.swap
  with_reducible refine itStr C P.ascii ?_
  clear C
  intro I z C
  with_reducible (refine loop_src (Src.ascii (T := 0) (y := asks) (t := ta) (by wtm_at "hh")) (Nat.zero_le _) (fun i => BestJ asks ta places tp l ch (bestRun q places i)) (fun _ _ _ _ _ _ => trivial) C ?_ ?_ ?_)
  · exact ⟨_, _, _, _, rfl, rfl, .cons _ _ _ .nil, .nil⟩
  · rintro i v m own zb hi ⟨c, u, hc, rfl, hlt, _⟩ ⟨dW, kvs, cv, vsT, rfl, rfl, h1, h2⟩ C₀
    have htk : 1 ≤ zb.toks := Nat.lt_of_le_of_lt (Nat.zero_le _) hlt
    have C := C₀.rebase
    have hi9 : i < 9 := by rw [P.size] at hi; exact hi
    have hc' := P.at' i hi9
    rw [hc] at hc'
    cases hc'
    obtain ⟨hok, htl⟩ := bestRun_ok P.lt places i
    have hp4 := P.lt i
    have hSne := bestRun_ne (q := q) hp.1 i
    have hlT := IntsAre.length h2
    rw [show (⟨#[97 + q i]⟩ : Str) = sg (q i) from rfl]
    wtm_at "cps"
    have hR : bestRun q places (i + 1) = ⟨(bestRun q places i).W.foldl (bestTurn places (q i)) [], (bestRun q places i).told ++ [maxv (toID ((bestRun q places i).W.foldl (bestTurn places (q i)) [])) - (bestRun q places i).told.sum]⟩ := rfl
    generalize (bestRun q places i) = S at *
    with_reducible refine goName (wpAny_assign_Name ?_)
    repeat wtm_at "w"
    with_reducible refine cIndex C (abcd_at _ hp4) ?_
    clear C
    intro t z C
    repeat wtm_at "w"
    with_reducible refine itItems C (by wtm_at "is") (by wtm_at "is") ?_
    clear C
    intro I2 z ep o hne hF ho C
    have C := C.re (a := dW) (sh' := .raw o) (by wtm_at "mu") ho
    have C := C.drop (own' := [(I2, Sh.raw (itm dW 0 kvs.length ep .none .none)), (d, Sh.dict []), (I, siSh asks ta (i + 1)), (dW, Sh.raw o), (l, Sh.list vsT), (ch, Sh.cell cv)]) (by wtm_at "ms")
    with_reducible (refine loop_items (by wtm_at "hh") hF (fun j => BestJ2 [("asks", .str asks ta), ("places", .int places tp), ("ways", .ref dW), ("told", .ref l), ("sign", .str (sg (q i)) u), ("page", .int (q i : Nat) t), ("further", .ref d)] d I (siSh asks ta (i + 1)) dW o l vsT ch ((S.W.take j).foldl (bestTurn places (q i)) [])) ?_ C ?_ rfl rfl ?_ ?_)
    · rintro j m own ⟨kvF, cv, rfl, rfl, _⟩
      wtm_at "mm"
    · exact ⟨_, _, rfl, rfl, .nil⟩
    · rintro j kk y tk m own z X hj hx ⟨kvF, cv, rfl, rfl, h3⟩ C
      wtm_at "cps"
      obtain ⟨n, tn, rfl, hx2⟩ := h1.at j kk y hx
      obtain ⟨msk, hW, rfl⟩ : ∃ msk, S.W[j]? = some (msk, n) ∧ kk = kt msk := by
        unfold toID at hx2
        rw [List.getElem?_map] at hx2
        obtain ⟨a, ha, e⟩ := Option.map_eq_some_iff.mp hx2
        obtain ⟨a1, a2⟩ := a
        cases e
        exact ⟨a1, ha, rfl⟩
      have hmk : msk < 16 := hok.1 _ (List.mem_of_getElem? hW)
      with_reducible refine asg2 ?_
      wtm_at "w"
      wtm_at "w"
      refine wpAny_execs_cons (wpAny_mono (Q := BestQ prog w s.heap zb L asks ta places tp dW l (q i) u t d (if msk.testBit (q i) then n + 1 else n) ((keptOf places msk (q i)).map kt)
          [(I2, X), (d, Sh.dict kvF), (I, siSh asks ta (i + 1)), (dW, Sh.raw o), (l, Sh.list vsT), (ch, Sh.cell (some (.str (kt msk) tk)))]) ?_ (fun fl z q => ?_) (fun _ _ e => e))
      · wtm_at "cps0"
        repeat wtm_at "w"
        rw [kt_in _ hmk _ hp4]
        refine ⟨fun hb => ?_, fun hb => ?_⟩
        · repeat wtm_at "w"
          rw [keptOf, if_pos hb, if_pos hb]
          exact ⟨rfl, _, _, _, .cons _ _ .nil, C⟩
        · have hb' : ¬ (msk.testBit (q i) = true) := by rw [hb]; simp
          rw [keptOf, if_neg hb', if_neg hb'] at kpost
          repeat wtm_at "w"
          rw [kt_count _ hmk]
          refine ⟨fun hc => ?_, fun hc => ?_⟩
          · have hc : (4 : Int) - (bits msk).length > 4 - places := by first | exact of_decide_eq_true hc | simpa using hc
            repeat wtm_at "w"
            rw [if_pos hc]
            exact ⟨rfl, _, _, _, .cons _ _ .nil, C⟩
          · have hc : ¬ ((4 : Int) - (bits msk).length > 4 - places) := by first | exact of_decide_eq_false hc | simpa using hc
            repeat wtm_at "w"
            rw [if_neg hc] at kpost
            with_reducible refine lcompA (σ := true) (g := s.heap) (L := L) (s₀ := zb) (cl := [("held", ch)]) notDot (RepOf (kt msk)) ?_ ?_ ?_ ?_ ?_ ?_ ?_
            · with_unfolding_all rfl
            · with_unfolding_all rfl
            · with_unfolding_all decide
            · with_unfolding_all rfl
            · with_unfolding_all decide
            · with_unfolding_all rfl
            repeat wtm_at "w"
            with_reducible refine itStr C (kt_ascii _ hmk) ?_
            clear C
            intro I3 z C
            have f1 := C.hid (a := ch) (by wtm_at "mm")
            refine ⟨_, 1, I3, _, _, _, _, _, rfl, Nat.le_trans htk C.toks, Src.ascii (y := kt msk) (by wtm_at "hh"), ?_, by rw [show (kt msk).cps.size = 4 from rfl]; decide, fun _ _ => trivial, C, ?_, ?_, ?_⟩
            · rintro j tk tk' v hle ⟨c, u, h1, h2, h3, h4⟩; exact ⟨c, u, h1, h2, Nat.lt_of_lt_of_le h3 hle, h4⟩
            · rintro c j v z D ys ⟨cc, uc, hcc, rfl, hlt, h1t⟩ C
              refine tests1 ?_
              repeat wtm_at "w"
              exact ⟨rfl, _, List.Sublist.refl _, C⟩
            · rintro c j v z D ys ⟨cc, uc, hcc, rfl, hlt, h1t⟩ hpv C
              wtm_at "w"
              wtm_at "w"
              wtm_at "w"
              wtm_at "w"
              wtm_at "w"
              have hge := Nat.le_trans h1t (Nat.le_of_lt hlt)
              have hu0 : uc ≠ 0 := Nat.ne_of_gt h1t
              have hu1 : z.toks ≠ 0 := Nat.ne_of_gt hge
              with_reducible refine cStrT C ?_
              clear C
              intro z' C
              have hne : ((⟨#[cc]⟩ : Str) == Str.ofString ".") = false := by
                have : ([cc] != [46]) = true := hpv
                rw [beq_eq_false_iff_ne]
                intro e
                have := congrArg (fun x => x.cps.toList) e
                change [cc] = [46] at this
                rw [this] at hpv
                exact absurd (show (([46] : List Nat) != [46]) = true from hpv) (by decide)
              with_reducible refine cReplace C hu0 hu1 (Nat.ne_of_lt hlt) hne ?_ ?_ ?_
              · rw [show (kt msk).length = 4 from rfl]; decide
              · decide
              clear C
              intro t' z C
              exact ⟨⟨cc, uc, t', rfl, rfl⟩, _, List.Sublist.refl _, C⟩
            · intro D ys vs z c oc C hl hv hp
              have hK : StrsAre ys (((bits msk).map fun i => msk - 2 ^ i).map kt) := by
                rw [← kt_rep _ hmk]
                refine paired_rep _ vs ys (by rw [hl]; rfl) (fun j v e => ?_) hp
                obtain ⟨_, cc, uc, h1, h2, _, _⟩ := hv j v e
                exact ⟨cc, uc, by simpa using h1, h2⟩
              repeat wtm_at "w"
              refine ⟨_, _, C, fun z C => ?_⟩
              wtm_at "w-hk"
              exact ⟨rfl, _, _, _, hK, C⟩
      · obtain ⟨rfl, kl, vsK, th, hK, C⟩ := q
        dsimp only
        have hlK := StrsAre.length hK
        have hkept := keptOf_lt (places := places) (p := q i) hmk
        have hF0 := bestAll_ok (places := places) hp4 (S.W.take j) (fun x hx => hok.1 x (List.mem_of_mem_take hx)) [] nil_ok
        generalize hFF : (S.W.take j).foldl (bestTurn places (q i)) [] = F0 at h3 hF0
        generalize hkk : (if msk.testBit (q i) = true then n + 1 else n) = k at C
        repeat wtm_at "w"
        with_reducible refine itList C (by wtm_at "is") ?_
        clear C
        intro I4 z hne4 C
        with_reducible (refine loop_src (Src.list (T := 0) (vs := vsK) (by wtm_at "hh") hne4) (Nat.zero_le _) (fun e => BestJ3 [("asks", .str asks ta), ("places", .int places tp), ("ways", .ref dW), ("told", .ref l), ("sign", .str (sg (q i)) u), ("page", .int (q i : Nat) t), ("further", .ref d), ("hits", .int k th), ("kept", .ref kl)]
          kl vsK I2 X d [(I, siSh asks ta (i + 1)), (dW, Sh.raw o), (l, Sh.list vsT), (ch, Sh.cell (some (.str (kt msk) tk)))] (((keptOf places msk (q i)).take e).foldl (bestPut (q i) k) F0)) ?_ C ?_ ?_ ?_)
        · rintro e m own z ⟨kvF, rfl, rfl, _⟩ C
          exact Sh.isL (C.is (by wtm_at "mm"))
        · exact ⟨_, rfl, rfl, h3⟩
        · rintro e v m own z he hv ⟨kvF, rfl, rfl, h4⟩ C
          wtm_at "cps"
          obtain ⟨lm, hlm⟩ : ∃ lm, (keptOf places msk (q i))[e]? = some lm := ⟨_, List.getElem?_eq_getElem (by simpa [hlK] using he)⟩
          obtain ⟨tl, hv2⟩ := StrsAre.get hK e (kt lm) (by rw [List.getElem?_map, hlm]; rfl)
          rw [hv2] at hv
          cases hv
          have hl16 : lm < 16 := hkept _ (List.mem_of_getElem? hlm)
          have hF1 := foldl_ok hp4 k ((keptOf places msk (q i)).take e) (fun x hx => hkept x (List.mem_of_mem_take hx)) F0 hF0
          have hlen4 := h4.length
          rw [toID, List.length_map] at hlen4
          have hlen5 := hF1.len
          with_reducible refine goName (wpAny_assign_Name ?_)
          repeat wtm_at "w"
          have hs := kt_slice _ hl16 _ hp4
          have hsg : (sg (q i)).length = 1 := rfl
          have hnow := kt_now _ hl16 _ hp4
          have hm16 := or_lt _ hl16 _ hp4
          have hg : ∀ t, ∃ t', (valueAt kvF (kt (lm ||| 2 ^ q i))).getD (.int 0 t) = .int (((((keptOf places msk (q i)).take e).foldl (bestPut (q i) k) F0).get (lm ||| 2 ^ q i)).getD 0) t' := by
            intro t
            rw [← toID_get hF1.1 hm16]
            rcases h4.get (kt (lm ||| 2 ^ q i)) with ⟨n, t', e1, e2⟩ | ⟨e1, e2⟩
            · exact ⟨t', by rw [e1, e2]; rfl⟩
            · exact ⟨t, by rw [e1, e2]; rfl⟩
          with_reducible refine subStr_U C (by wtm_at "is") (by rw [kt_len]; decide) ?_
          clear C; intro t1 z C
          repeat wtm_at "w"
          with_reducible refine oAddS C (by lia) ?_
          clear C; intro t2 z C
          repeat wtm_at "w"
          with_reducible refine subStr_L C (by wtm_at "is") (by rw [kt_len]; decide) ?_
          clear C; intro t3 z C
          with_reducible refine oAddS C (by rw [Str.length_append]; lia) ?_
          clear C; intro t4 z C
          rw [hnow]
          repeat wtm_at "w"
          rw [(hg _).choose_spec]
          repeat wtm_at "w"
          refine ⟨_, _, ⟨_, rfl, rfl, ?_⟩, (C.drop (by wtm_at "ms")).forget (by wtm_at "ms")⟩
          rw [List.take_add_one, hlm, List.foldl_append]
          show IsID _ (toID (bestPut (q i) k _ lm))
          rw [bestPut, ← toID_put hF1.1 hm16]
          exact h4.put _ _ _
        · rintro m own z ⟨kvF, rfl, rfl, h4⟩ C
          wtm_at "w-hk"
          rw [List.take_of_length_le (by rw [hlK, List.length_map]; exact Nat.le_refl _)] at h4
          refine ⟨_, _, ⟨kvF, _, rfl, rfl, ?_⟩, (C.drop (by wtm_at "ms")).forget (by wtm_at "ms")⟩
          rw [List.take_add_one, hW, List.foldl_append, hFF]
          show IsID kvF (toID (bestTurn places (q i) F0 (msk, n)))
          rw [bestTurn]
          dsimp only
          rw [hkk]
          exact h4
    · rintro m own z ⟨kvF, cv, rfl, rfl, h3⟩ C
      rw [List.take_of_length_le (by rw [h1.length, toID, List.length_map]; exact Nat.le_refl _)] at h3
      have hne := bestAll_ne hp.1 (q i) S.W [] (.inl hSne)
      generalize S.W.foldl (bestTurn places (q i)) [] = W' at *
      have hne2 : toID W' ≠ [] := by intro e; exact hne (by simpa [toID] using e)
      repeat wtm_at "w"
      with_reducible refine cMaxVals C (by wtm_at "hh") (by wtm_at "is") (by wtm_at "is") h3 hne2 ?_
      intro n tn z hn1 hn2 C
      have hn := maxv_eq hn1 hn2
      subst hn
      clear hn1 hn2
      repeat wtm_at "w"
      with_reducible refine cSum C (by wtm_at "hh") (by wtm_at "is") h2 ?_
      clear C; intro t3 z C
      repeat wtm_at "w"
      have C := C.drop (own' := [(d, Sh.dict kvF), (I, siSh asks ta (i + 1)), (l, Sh.list (vsT ++ [.int (maxv (toID W') - S.told.sum) _])), (ch, Sh.cell cv)]) (by wtm_at "ms")
      rw [hR]
      have C := C₀.on C
      exact ⟨_, _, ⟨_, _, _, _, rfl, rfl, h3, ints_snoc h2 _ _⟩, C.swap.forget (by wtm_at "ms")⟩
  · rintro m own z ⟨d, kvs, cv, vsT, rfl, rfl, h1, h2⟩ C
    rw [P.size] at h1 h2
    repeat wtm_at "w"
    have hm : (l, Sh.list vsT) ∈ [(d, Sh.dict kvs), (l, Sh.list vsT), (ch, Sh.cell cv)] := by wtm_at "mm"
    exact hret l vsT _ C.out (C.is hm) h2 (C.fresh hm).1 (C.fresh hm).2
end
section
open PySem PySem.W PyProof.Rows PySem.Spec PySem.Calls
variable {σ : Bool} {prog : Program} {w : World} {g h h' : Heap} {L a : Addr} {m m' : List (Str × Value)} {own own' : List (Addr × Sh)} {s₀ s s' : Shared} {sh sh' : Sh}
variable {A : Around} {E : Value → Shared → Prop} {M : Model} {env : Env} {x y : Str} {v : Value}
theorem enumList {l : Addr} {vs : List Value} {p1 p2 pos : Pos} {k : Nat} {body : List Stmt} {Q : Flow → Shared → Prop} (hh : A.handled = none) (C : Cx true prog w g L m own s₀ s) (hl : Sh.Is prog w s.heap l (.list vs))
    (J : Nat → List (Str × Value) → List (Addr × Sh) → Prop) (hJl : ∀ i m own, J i m own → (l, Sh.list vs) ∈ own) (h0 : J 0 m own)
    (turn : ∀ i t0 v m own z X Y e it, vs[i]? = some v → J i m own → Cx true prog w g L m ((e, X) :: (it, Y) :: own) s₀ z →
      wpAny (model prog w) A (storeName env x (.int (i : Nat) t0)) (fun _ s₁ => wpAny (model prog w) A (storeName env y v) (fun _ s₂ => wpAny (model prog w) A (execs body env) (fun fl s₃ => match fl with
        | .next | .cont => ∃ m' own', J (i + 1) m' own' ∧ Cx true prog w g L m' ((e, X) :: (it, Y) :: own') s₀ s₃
        | .brk => Q .next s₃
        | .ret v => Q (.ret v) s₃) (fun _ _ => False) s₂) (fun _ _ => False) s₁) (fun _ _ => False) z)
    (done : ∀ m own z, J vs.length m own → Cx true prog w g L m own s₀ z → Q .next z) :
    wpAny (model prog w) A (call (.type "enumerate") [.ref l]) (fun v s₁ => wpAny (model prog w) A (pyIter v) (fun it s₂ => Loop prog w A (.Tuple [.Name x p1, .Name y p2] k pos) it body env Q E s₂) E s₁) E s := by
  refine call_enumerate_list (Sh.isL hl) fun h' he hi hz hk => ?_
  refine wpAny_pyIter_enum (he : IsEnum _ _ _ _ _) ?_
  have htop := C.top
  have hlt := hl.lt
  have C1 : Cx true prog w g L m ((s.heap.objs.size + 1, .raw (enO s.heap.objs.size 0 .none)) :: (s.heap.objs.size, .flds "list_iterator" [.ref l, .int 0 0]) :: own) s₀ { s with heap := h' } := by
    have C2 := C.add (a := s.heap.objs.size) (sh := .flds "list_iterator" [.ref l, .int 0 0]) (s' := { s with heap := h' }) (Gr.heap (Nat.le_refl _) hk) (by obtain ⟨o, ho, r1, r2⟩ := hi; exact ⟨o, ho, r1, by simpa using r2⟩) (get_size _) C.top
    have hne : s.heap.get? (s.heap.objs.size + 1) = none := by
      cases q : s.heap.get? (s.heap.objs.size + 1) with
      | none => rfl
      | some o => exact absurd (Heap.lt_size q) Nat.not_succ_lt_self
    have C3 := C.add (a := s.heap.objs.size + 1) (sh := .raw (enO s.heap.objs.size 0 .none)) (s' := { s with heap := h' }) (Gr.heap (Nat.le_refl _) hk) he hne (Nat.le_succ_of_le htop)
    refine ⟨C2.ns, C2.keep, C2.low, C2.above, fun p hp => ?_, ?_, C2.uq, C2.os, C2.drawn, C2.gens, C2.toks⟩
    · rcases List.mem_cons.mp hp with rfl | hp
      · exact C3.its _ List.mem_cons_self
      · exact C2.its p hp
    · have n2 := C2.nd
      have n3 := C3.nd
      rw [List.map_cons, List.map_cons, List.nodup_cons]
      rw [List.map_cons, List.nodup_cons] at n3
      refine ⟨fun hm => ?_, n2⟩
      rcases List.mem_cons.mp hm with e | hm
      · exact absurd e (Nat.succ_ne_self _)
      · exact n3.1 hm
  have hl1 : l ≠ s.heap.objs.size := Nat.ne_of_lt hlt
  have hl2 : s.heap.objs.size + 1 ≠ l := Nat.ne_of_gt (Nat.lt_succ_of_lt hlt)
  refine loop_enum (f := fun i => [.ref l, .int (i : Nat) 0]) (c := "list_iterator") hh (Draws.list (A := A.in1) hh s.heap.objs.size l hl1 vs.toArray) (Nat.succ_ne_self _) (by simp [hl2]) (by simp) J ?_ ?_ C1 h0 rfl rfl ?_ ?_
  · intro i h hS; obtain ⟨⟨o, ho, r1, r2⟩, _⟩ := hS; exact ⟨o, ho, r1, by simpa using r2⟩
  · intro i m own z old hJ C
    obtain ⟨o, ho, r1, r2⟩ := C.is (List.mem_cons_of_mem _ List.mem_cons_self)
    exact ⟨⟨o, ho, r1, by simpa using r2⟩, Sh.isL (C.is (List.mem_cons_of_mem _ (List.mem_cons_of_mem _ (hJl _ _ _ hJ))))⟩
  · rintro i t0 v m own old z hi hv hJ C
    exact assignInOrder_cons (wpAny_assign_Name (wpAny_mono (turn i t0 v m own z _ _ _ _ (by simpa using hv) hJ C) (fun _ s₁ h1 => assignInOrder_cons (wpAny_assign_Name (wpAny_mono h1 (fun _ s₂ h2 => assignInOrder_nil h2) fun _ _ e => e.elim))) fun _ _ e => e.elim))
  · intro m own z hJ C
    exact done m own z (by simpa using hJ) C
theorem subIs_U {value slice : Expr} {l i : Addr} {vs : Array Value} {k : Int} {u : Tok} {Q : Value → Shared → Prop} (C : Cx σ prog w g L m own s₀ s) (hl : s.heap.IsList l vs) (hi : Sh.Is prog w s.heap i (slSh .none (.int k u))) (hn : vs.size ≤ sizeLine)
    (h : ∀ r s', Cx σ prog w g L m ((r, .list (slicePick vs none (some k) none).toList) :: own) s₀ s' → Q (.ref r) s')
    (hs : subscripted slice false (.ref l) (.ref i) = operate [.ref i, .ref l] (getItem (.ref l) (.ref i)) := by with_unfolding_all rfl) (ht : ∀ r, letTemporaryGo value (.ref l) r = pure () := by intro _; with_unfolding_all rfl) :
    wpAny (model prog w) A (subscriptTail value slice (.ref l) (.ref i)) Q E s := by
  refine subscriptTail_ops (Heap.IsList.typeIs hl) list_getitem_lookup (wpAny_getItem_list_slice hl (vl := .none) (vu := .int k u) (vs := .none) ?_ .none (.int k u) .none (by simp) ?_ hn) hs ht
  · obtain ⟨o, ho, r1, r2⟩ := hi; exact ⟨o, ho, r1, by simpa using r2⟩
  · exact h _ _ (C.push (tk := s.toks) (Nat.le_refl _) ⟨0, Heap.get?_push_size _ rfl⟩)
theorem oldIs {l : Addr} {vs : Array Value} (C : Cx σ prog w g L m own s₀ s) (hl : g.IsList l vs) (ht : σ = true ∨ isTab l = false) : s.heap.IsList l vs :=
  hl.at fun o e => C.keep _ _ (by rcases ht with e | e
                                  · rw [e]; rfl
                                  · exact off e) e
theorem getList {l : Addr} {vs : List Value} {k : Int} {u : Tok} {v : Value} {Q : Value → Shared → Prop} (hl : Sh.Is prog w s.heap l (.list vs)) (h0 : 0 ≤ k) (hhi : k < 2 ^ 63) (hx : vs[k.toNat]? = some v) (h : Q v s) : wpAny (model prog w) A (getItem (.ref l) (.int k u)) Q E s :=
  wpAny_getItem_list (Sh.isL hl) h0 hhi (by simpa using hx) h
theorem ints_set {vs : List Value} {ns : List Int} (h : IntsAre vs ns) (k : Nat) (n : Int) (t : Tok) : IntsAre (vs.set k (.int n t)) (ns.set k n) := by
  induction h generalizing k with
  | nil => exact .nil
  | cons m u h ih =>
    cases k with
    | zero => exact .cons n t h
    | succ k => exact .cons m u (ih k)
end
section
open PySem PySem.W PyProof.Rows PySem.Spec PySem.Calls
variable {σ : Bool} {prog : Program} {w : World} {g h h' : Heap} {L a : Addr} {m m' : List (Str × Value)} {own own' : List (Addr × Sh)} {s₀ s s' : Shared} {sh sh' : Sh}
variable {A : Around} {E : Value → Shared → Prop} {M : Model} {env : Env} {x y : Str} {v : Value}
noncomputable def SignOf (v y : Value) : Prop := ∃ n t u, v = .int n t ∧ y = .str (sg (n % 4).toNat) u
theorem paired_sign {vs ys : List Value} {ns : List Int} (hi : IntsAre vs ns) (hp : Paired SignOf vs ys) : StrsAre ys ((ns.map fun n => (n % 4).toNat).map sg) := by
  induction hi generalizing ys with
  | nil => cases hp; exact .nil
  | cons n t h ih =>
    cases hp with
    | cons hF hr =>
      obtain ⟨n', t', u, e, rfl⟩ := hF
      cases e
      exact .cons _ u (ih hr)
theorem abcd_sign {n : Nat} (h : n < 4) : (Str.ofString "abcd").cps[n]? = some (97 + n) := by
  rcases lt4 h with rfl | rfl | rfl | rfl <;> rfl
theorem pg_of (ps : List Nat) (h : ps.length = 9) (h4 : ∀ p ∈ ps, p < 4) : Pg (signs ps) (fun i => ps.getD i 0) where
  size := by simp [signs, h]
  lt := fun i => by
    by_cases hi : i < ps.length
    · simp only [List.getD_eq_getElem?_getD, List.getElem?_eq_getElem hi, Option.getD_some]
      exact h4 _ (List.getElem_mem hi)
    · simp only [List.getD_eq_getElem?_getD, List.getElem?_eq_none (Nat.le_of_not_lt hi), Option.getD_none]
      decide
  at' := fun i hi => by
    have hi' : i < ps.length := by lia
    simp [signs, hi']

set_option maxHeartbeats 0 in
theorem asked_spec {sl : Addr} {vs : List Value} {ns : List Int} {Q : Value → Shared → Prop} (B : Bs w s.heap) (hd : A.depth + 20 < recursionLimit) (hh : A.handled = none)
    (hl : s.heap.IsList sl vs.toArray) (hi : IntsAre vs ns) (hlen : vs.length ≤ sizeLine)
    (hret : ∀ asks ta q s', Gr true s s' → Pg asks q → Q (.str asks ta) s') :
    wpAny (model prog w) A (call (.ref 161) [.ref sl]) Q E s := by
  refine enter (σ := true) (binds := [("script", .ref sl)]) B (by lia) rfl rfl (BindsTo.of_eq rfl) rfl (by simp) (by decide) rfl rfl rfl ?_
  intro L s1 C
  wtm_at "w"
  with_reducible refine eList (sm (cInt C fun a0 z C => sm (cInt C fun a1 z C => sm (cInt C fun a2 z C => sm (cInt C fun a3 z C => sm (cInt C fun a4 z C => sm (cInt C fun a5 z C => sm (cInt C fun a6 z C => sm (cInt C fun a7 z C => sm (cInt C fun a8 z C => spliced_none ⟨_, _, C, by with_unfolding_all rfl, fun rl z C => ?_⟩))))))))))
  repeat wtm_at "w"
  with_reducible refine subIs_U C (oldIs C hl (.inl rfl)) (by wtm_at "is") ?_ ?_
  · rw [List.size_toArray]; exact hlen
  clear C; intro r z C
  have hpi := IntsAre.pick hi none (some 63) none
  generalize hpv : (slicePick vs.toArray none (some 63) none).toList = pv at C hpi
  generalize pickNums ns none (some 63) none = pn at hpi
  have hr0 : IntsAre [.int 0 a0, .int 1 a1, .int 0 a2, .int 2 a3, .int 1 a4, .int 3 a5, .int 3 a6, .int 0 a7, .int 2 a8] [0, 1, 0, 2, 1, 3, 3, 0, 2] :=
    .cons _ _ (.cons _ _ (.cons _ _ (.cons _ _ (.cons _ _ (.cons _ _ (.cons _ _ (.cons _ _ (.cons _ _ .nil))))))))
  have C := C.drop (own' := [(r, Sh.list pv), (rl, Sh.list _)]) (by wtm_at "ms")
  with_reducible (refine enumList (by wtm_at "hh") C (by wtm_at "is") (fun i m' own' => ∃ vsR nsR, m' = ([("script", .ref sl), ("row", .ref rl)] : List (Str × Value)) ∧ own' = [(r, Sh.list pv), (rl, Sh.list vsR)] ∧ IntsAre vsR nsR ∧ nsR.length = 9) ?_ ?_ ?_ ?_)
  · rintro i m own ⟨vsR, nsR, rfl, rfl, _⟩; wtm_at "mm"
  · exact ⟨_, _, rfl, rfl, hr0, rfl⟩
  · rintro i t0 v m own z X Y e it hv ⟨vsR, nsR, rfl, rfl, h1, h2⟩ C
    obtain ⟨n, tn, rfl, _⟩ := IntsAre.at hpi i v hv
    have hl9 := IntsAre.length h1
    obtain ⟨tr, hr⟩ := IntsAre.get h1 (i % 9) _ (List.getElem?_eq_getElem (by lia))
    have e9 : ((i : Int) % 9).toNat = i % 9 := by lia
    repeat wtm_at "w"
    with_reducible refine getList (by wtm_at "is") (by lia) (by lia) (by rw [e9]; exact hr) ?_
    repeat wtm_at "w"
    with_reducible refine setList C (by wtm_at "mu") (by lia) (by lia) (by lia) ?_
    clear C; intro z C
    rw [e9] at C
    repeat wtm_at "w"
    exact ⟨_, _, ⟨_, _, rfl, rfl, ints_set h1 _ _ _, by rw [List.length_set]; exact h2⟩, C.forget (by wtm_at "ms")⟩
  · rintro m own z ⟨vsR, nsR, rfl, rfl, h1, h2⟩ C
    repeat wtm_at "w"
    with_reducible refine lcomp (σ := true) (g := s.heap) (L := L) (s₀ := s) (cl := []) (fun _ => true) SignOf ?_ ?_ ?_ ?_ ?_ ?_
    · with_unfolding_all rfl
    · with_unfolding_all decide
    · with_unfolding_all rfl
    · with_unfolding_all decide
    · with_unfolding_all rfl
    repeat wtm_at "w"
    with_reducible refine itList C (by wtm_at "is") ?_
    clear C; intro I z hne C
    have f1 := C.hid (a := rl) (sh' := .list vsR) (by wtm_at "mm")
    refine ⟨_, 0, I, _, _, _, _, _, rfl, Nat.zero_le _, Src.list (vs := vsR) (by wtm_at "hh") hne, fun _ _ _ _ _ q => q, by rw [IntsAre.length h1, h2]; decide, fun z hz => (Sh.isL (C.is (sh := .list vsR) (by wtm_at "mm"))).at fun o e => hz rl o hne e, C, ?_, ?_, ?_⟩
    · intro c i v z D ys hv C
      exact tests0 ⟨rfl, _, List.Sublist.refl _, C⟩
    · intro c i v z D ys hv _ C
      obtain ⟨n, tn, rfl, _⟩ := IntsAre.at h1 i v hv
      repeat wtm_at "w"
      with_reducible refine subStr C (by lia) (by lia) (abcd_sign (by lia)) ?_
      clear C; intro t z C
      exact ⟨⟨n, tn, t, rfl, rfl⟩, _, List.Sublist.refl _, C⟩
    · intro D ys vs' z C hl' hv hp
      have e : vs' = vsR := by
        refine List.ext_getElem? fun i => ?_
        by_cases hi : i < vs'.length
        · obtain ⟨_, hq⟩ := hv i _ (List.getElem?_eq_getElem hi)
          rw [List.getElem?_eq_getElem hi]; exact hq.symm
        · rw [List.getElem?_eq_none (Nat.le_of_not_lt hi), List.getElem?_eq_none (by lia)]
      subst e
      rw [List.filter_eq_self.mpr (by simp)] at hp
      have hS := paired_sign h1 hp
      have hlps : (nsR.map fun n => (n % 4).toNat).length = 9 := by rw [List.length_map]; exact h2
      have h4 : ∀ p ∈ nsR.map (fun n => (n % 4).toNat), p < 4 := by
        intro p hp
        obtain ⟨n, _, rfl⟩ := List.mem_map.mp hp
        lia
      generalize (nsR.map fun n => (n % 4).toNat) = ps at hS hlps h4
      with_reducible refine cJoin C (by wtm_at "is") hS ?_ ?_
      · rw [len_sgs, hlps]
        exact Nat.le_of_ble_eq_true rfl
      clear C; intro tj z C
      rw [join_sg]
      exact hret _ _ _ _ C.out (pg_of ps hlps h4)
end
section
open PySem PySem.W PyProof.Rows PySem.Spec PySem.Calls Builtin
set_option maxHeartbeats 4000000
variable {σ : Bool} {prog : Program} {w : World} {g h h' : Heap} {L a : Addr} {m m' : List (Str × Value)} {own own' : List (Addr × Sh)} {s₀ s s' : Shared} {sh sh' : Sh}
variable {A : Around} {E : Value → Shared → Prop} {M : Model} {env : Env} {x y : Str} {v : Value}

noncomputable def cdA : ClassData := { name := "_Accumulator", bases := [.type "list"], mro := [.ref 101, .type "list", .type "object"], ns := 100, qualname := "_Accumulator" }
noncomputable def slA : Array (Option Value) := #[some (.ref 22), none, some (.str "_Accumulator" 198), some (.str "_Accumulator" 206), some (.builtin "list.__new__"), some (.bool true)]
theorem kk_101 {P : Params} : (KK P).lookup 101 = some ⟨.type "type", none, .cls cdA, slA⟩ := rfl
theorem cls_A {P : Params} : clsIn (KK P) 101 = some cdA := by
  unfold clsIn; rw [kk_101]
theorem mro_A {P : Params} {b : Value} {r : Bool} (e : cdA.mro.contains b = r) : mroIn (KK P) 101 b = some r := by
  unfold mroIn; rw [cls_A]; subst e; rfl
theorem find_init {P : Params} : findIn (KK P) (.ref 101) "__init__" = some (some (.ref 38)) := by kernel_rfl
theorem find_ga {P : Params} : findIn (KK P) (.ref 101) "__getattribute__" = some (some (.builtin "list.__getattribute__")) := by kernel_rfl
theorem find_append {P : Params} : findIn (KK P) (.ref 101) "append" = some (some (.builtin "list.append")) := by kernel_rfl
theorem call_A {P : Params} : specialIn (KK P) (.ref 101) "__call__" = some (some (.builtin "type.__call__")) := by kernel_rfl
theorem typ_A {P : Params} : instIn (KK P) (.ref 101) (.type "type") = some true := by kernel_rfl

noncomputable abbrev accObj (dx : Addr) (xs : List Value) (n : Nat) : Obj := { cls := .ref 101, dict := some dx, data := .seq xs.toArray n }
theorem newl_kind : builtinKind "list.__new__" = some .builtinFn := by decide +kernel
theorem newl_split : splitId "list.__new__" = some ("list", "__new__") := by decide +kernel

theorem made_A (B : Bs w h) : Looks (model prog w) h (Bind.madeBy (.ref 101)) (some "list.__new__") := by
  intro A Q E s k q
  obtain ⟨hp, g, d, t, os⟩ := s
  have hC := k _ _ (B.k _ _ kk_101)
  unfold Bind.madeBy
  repeat lk
  exact q
theorem base_A (B : Bs w h) : Looks (model prog w) h (Bind.staticBase (.ref 101)) (.ref 101) := by
  intro A Q E s k q
  obtain ⟨hp, g, d, t, os⟩ := s
  have hC := k _ _ (B.k _ _ kk_101)
  have hm := (made_A (prog := prog) B).keeps k
  unfold Bind.staticBase
  repeat lk
  exact q
theorem sub_list_A (B : Bs w h) : Looks (model prog w) h (isSubtype (.ref 101) (.type "list")) true := looks_mroIn B.k (mro_A (by decide +kernel))
theorem sub_A_A (B : Bs w h) : Looks (model prog w) h (isSubtype (.ref 101) (.ref 101)) true := looks_mroIn B.k (mro_A (by decide +kernel))
theorem typ_A' (B : Bs w h) : Looks (model prog w) h (isInstance (.ref 101) (.type "type")) true := looks_instIn B.k typ_A
theorem isType_A (B : Bs w h) : Looks (model prog w) h (isType (.ref 101)) true := by
  intro A Q E s k q
  obtain ⟨hp, g, d, t, os⟩ := s
  exact ks_wpAny_isType_cls (k _ _ (B.k _ _ kk_101)) rfl q

theorem new_acc {R : Result → Shared → Prop} {g d t os} (B : Bs w h)
    (hq : R (.ok (.ret (.ref (h.objs.size + 1)))) ⟨(h.push emptyDict).push (accObj h.objs.size [] 0), g, d, t, os⟩) :
    codeAny (model prog w) A (.call (.builtin "list.__new__") ⟨[.ref 101, v], []⟩) R ⟨h, g, d, t, os⟩ := by
  have hC := B.k _ _ kk_101
  have hs := sub_list_A (prog := prog) B
  have hs' := sub_A_A (prog := prog) B
  have hm := made_A (prog := prog) B
  have hb := base_A (prog := prog) B
  have ht := typ_A' (prog := prog) B
  have hi := isType_A (prog := prog) B
  have hown := owner_list_new
  have hC2 : ((h.push { cls := .type "dict", data := .dict #[] }).push { cls := .ref 101, dict := some h.objs.size, data := .seq #[] }).get? 101 = some { cls := Value.type "type", data := Data.cls cdA, slots := slA } := Heap.get?_push_of_some _ (Heap.get?_push_of_some _ hC)
  refine codeAny_call_builtin_code (Code.quiet_builtin _ (by decide +kernel)) ?_
  unfold checkBuiltinCall
  rw [newl_kind, newl_split]
  repeat (first | rw [bne_self_eq_false] | lk)
  refine codeAny_builtin_stack F.entry_list_new rfl fun p st => ?_
  dsimp only
  rw [hown]
  repeat lk
  show R _ _
  rw [Heap.size_push]
  exact hq

theorem make_acc {R : Result → Shared → Prop} {g d t os} (B : Bs w h)
    (hq : codeAny (model prog w) (A.under (.builtin "type.__call__" ⟨[.ref 101, v], []⟩)) (.call (.ref 38) ⟨[.ref (h.objs.size + 1), v], []⟩) (InitBack (h.objs.size + 1) R) ⟨(h.push emptyDict).push (accObj h.objs.size [] 0), g, d, t, os⟩) :
    codeAny (model prog w) A (.call (.ref 101) ⟨[v], []⟩) R ⟨h, g, d, t, os⟩ := by
  have hC := B.k _ _ kk_101
  have hs' := sub_A_A (prog := prog) B
  have made := made_A (prog := prog) B
  have hb := base_A (prog := prog) B
  have typ := typ_A' (prog := prog) B
  have call : Looks (model prog w) h (specialOf (.ref 101) "__call__") (some (.builtin "type.__call__")) := looks_specialIn B.k call_A
  have init : Looks (model prog w) h (typeLookup (.ref 101) "__init__") (some (.ref 38)) := looks_findIn B.k find_init
  have hbi : ∀ self, Looks (model prog w) h (bindSpecial (.ref 38) self) (.ref 38, [self]) := fun self => bind_fn B.k self (by kernel_rfl)
  refine codeAny_of_tree ?_
  show wpAny _ _ (callAny (.ref 101) _) _ _ _
  refine nd_load hC ?_
  show wpAny _ _ (callAny.viaDunder (.ref 101) _) _ _ _
  unfold callAny.viaDunder
  refine wpAny_bind (call.at ?_)
  dsimp only
  rw [tc_bind]
  refine wpAny_bind (wpAny_pure (wpAny_bind (wpAny_pure ?_)))
  refine wpAny_pure (a := Fin.again (.call (.builtin "type.__call__") ⟨[.ref 101, v], []⟩)) (And.intro rfl ?_)
  refine codeAny_call_builtin_at (Code.quiet_builtin _ (by decide +kernel)) entry_typeCall (check_slot tc_kind tc_split typ (tc_args _ _ _) ?_)
  unfold Builtin.«type.__call__»
  have e4 : cdA.mro.isEmpty = false := rfl
  have hm : Looks (model prog w) h (mroOf (.ref 101)) cdA.mro := ((Looks.ld (part := none) hC).andThen .now).andThen .now
  repeat (first | with_reducible refine wpAny_call ?_ | lk)
  refine new_acc B ?_
  have k : ∀ b o, h.get? b = some o → ((h.push emptyDict).push (accObj h.objs.size [] 0)).get? b = some o := fun b o e => Heap.get?_push_of_some _ (Heap.get?_push_of_some _ e)
  have hx : ((h.push emptyDict).push (accObj h.objs.size [] 0)).get? (h.objs.size + 1) = some (accObj h.objs.size [] 0) := by heap_get
  have t1 : Looks (model prog w) ((h.push emptyDict).push (accObj h.objs.size [] 0)) (typeOf (.ref (h.objs.size + 1))) (.ref 101) := (Looks.ld hx).andThen .now
  have s1 := hs'.keeps k
  have i1 := init.keeps k
  have b1 := (hbi (.ref (h.objs.size + 1))).keeps k
  unfold isInstance callSpecial? specialOf
  repeat (first | with_reducible refine wpAny_call ?_ | lk)
  refine codeAny_mono hq fun r s' z => ?_
  rcases r with e | (v | _ | _ | _) <;> first | exact z | exact z.elim | skip
  obtain ⟨rfl, z⟩ := z
  exact wpAny_pure (wpAny_pure z)
end
section
open PySem PySem.W PyProof.Rows PySem.Spec PySem.Calls Builtin
variable {σ : Bool} {prog : Program} {w : World} {g h h' : Heap} {L a : Addr} {m m' : List (Str × Value)} {own own' : List (Addr × Sh)} {s₀ s s' : Shared} {sh sh' : Sh}
variable {A : Around} {E : Value → Shared → Prop} {M : Model} {env : Env} {x y : Str} {v : Value}

theorem kk_lt {P : Params} {b : Nat} {o : Obj} (h : (KK P).lookup b = some o) : b < 203 := by
  have hk : ((KK P).map (·.1)).all (fun n => decide (n < 203)) = true := by kernel_rfl
  have : ∀ {l : Frag}, l.lookup b = some o → b ∈ l.map (·.1) := by
    intro l
    induction l with
    | nil => intro e; cases e
    | cons p r ih =>
      intro e
      obtain ⟨k, v⟩ := p
      simp only [List.lookup] at e
      rw [List.map_cons]
      split at e
      · rename_i q; rw [beq_iff_eq.mp q]; exact List.mem_cons_self
      · exact List.mem_cons_of_mem _ (ih e)
  exact of_decide_eq_true (List.all_eq_true.mp hk b (this h))
theorem Bs.low2 (B : Bs w h) (k : ∀ b o, b < 203 → isTab b = false → h.get? b = some o → h'.get? b = some o) : Bs w h' := by
  have hs : ∀ {b f}, h.Ns b f → b < 203 → isTab b = false → h'.Ns b f := fun x h1 h2 => let ⟨o, es, ep, ho, r⟩ := x; ⟨o, es, ep, k _ _ h1 h2 ho, r⟩
  refine ⟨fun a o e => k a o (kk_lt e) ?_ (B.k a o e), ?_, ?_, ?_⟩
  · cases q : isTab a with
    | false => rfl
    | true => rw [kk_tab q] at e; cases e
  · obtain ⟨mg, x⟩ := B.gl; exact ⟨mg, hs x (by decide) rfl⟩
  · obtain ⟨mb, x, y⟩ := B.bl; exact ⟨mb, hs x (by decide) rfl, y⟩
  · obtain ⟨mc, x, y⟩ := B.lim; exact ⟨mc, hs x (by decide) rfl, y⟩

structure Tp (h : Heap) : Prop where
  t63 : ∃ ps, h.IsCode 67 63 ps ∧ h.TableAt 67 63 ps
  t70 : ∃ ps, h.IsCode 74 70 ps ∧ h.TableAt 74 70 ps
  t121 : h.IsCode 125 121 #[] ∧ h.TableAt 125 121 #[]
  t128 : h.IsCode 132 128 #[] ∧ h.TableAt 132 128 #[]
  st : ∃ ms, h.Ns cStatics ms ∧ ms "thirdparty.any" = none
theorem isCode_at {c P : Addr} {ps : Array Value} (x : h.IsCode c P ps) (k1 : ∀ o, h.get? c = some o → h'.get? c = some o) (k2 : ∀ o, h.get? P = some o → h'.get? P = some o) : h'.IsCode c P ps := by
  obtain ⟨o, vs, file, tf, flags, tg, inF, text, tt, op, ho, hd, h11, h2, h7, h9, h10, hop, r⟩ := x
  exact ⟨o, vs, file, tf, flags, tg, inF, text, tt, op, k1 _ ho, hd, h11, h2, h7, h9, h10, k2 _ hop, r⟩
theorem tableAt_at {c P : Addr} {ps : Array Value} (x : h.TableAt c P ps) (k1 : ∀ o, h.get? c = some o → h'.get? c = some o) (k2 : ∀ o, h.get? P = some o → h'.get? P = some o) : h'.TableAt c P ps := by
  obtain ⟨⟨oc, vc, hoc, r⟩, hop⟩ := x
  exact ⟨⟨oc, vc, k1 _ hoc, r⟩, k2 _ hop⟩
theorem Tp.at (T : Tp h) (k : ∀ b o, b < 203 → h.get? b = some o → h'.get? b = some o) : Tp h' := by
  obtain ⟨⟨p1, a1, b1⟩, ⟨p2, a2, b2⟩, ⟨a3, b3⟩, ⟨a4, b4⟩, ⟨ms, ⟨o, es, ep, ho, r⟩, e⟩⟩ := T
  refine ⟨⟨p1, isCode_at a1 ?_ ?_, tableAt_at b1 ?_ ?_⟩, ⟨p2, isCode_at a2 ?_ ?_, tableAt_at b2 ?_ ?_⟩, ⟨isCode_at a3 ?_ ?_, tableAt_at b3 ?_ ?_⟩, ⟨isCode_at a4 ?_ ?_, tableAt_at b4 ?_ ?_⟩, ⟨ms, ⟨o, es, ep, k _ _ (by decide) ho, r⟩, e⟩⟩ <;> exact fun o e => k _ o (by decide) e
theorem Cx.tp (C : Cx true prog w g L m own s₀ s) (T : Tp g) : Tp s.heap := T.at fun b o _ e => C.keep b o rfl e
theorem Cx.bs' (C : Cx true prog w g L m own s₀ s) (B : Bs w g) : Bs w s.heap := C.bs B

theorem Cx.jump (C : Cx true prog w g L m own s₀ s) (G : Gr false s s') (hs : own'.Sublist own) (h0 : m ≠ []) :
    ∃ g', Cx true prog w g' L m own' s' s' ∧ (∀ b o, isTab b = false → g.get? b = some o → g'.get? b = some o) ∧ (∀ b o, b < 203 → s'.heap.get? b = some o → g'.get? b = some o) ∧
      (∀ p ∈ own, p.1 ∉ own'.map (·.1) → p.2.Is prog w g' p.1) ∧ (∀ b o, b ≠ L → b ∉ own'.map (·.1) → s'.heap.get? b = some o → g'.get? b = some o) := by
  have hL := C.above.resolve_left h0
  have up : ∀ b o, b ≠ L → b ∉ own'.map (·.1) → s'.heap.get? b = some o → (hideAll s'.heap (L :: own'.map (·.1))).get? b = some o := fun b o h1 h2 e => hideAll_get _ e (by
    intro hm; rcases List.mem_cons.mp hm with q | q; exact h1 q; exact h2 q)
  have fresh : ∀ p ∈ own', g.get? p.1 = none ∧ 203 ≤ p.1 := fun p hp => (C.its p (hs.subset hp)).2.1
  have notIn : ∀ b o, g.get? b = some o → b ≠ L ∧ b ∉ own'.map (·.1) := fun b o e => ⟨(by rintro rfl; rw [hL.1] at e; cases e), fun hm => by
    obtain ⟨p, hp, q⟩ := List.mem_map.mp hm
    rw [← q, (fresh p hp).1] at e; cases e⟩
  have small : ∀ b, b < 203 → b ≠ L ∧ b ∉ own'.map (·.1) := fun b hb => ⟨(by rintro rfl; exact absurd hL.2 (Nat.not_le.mpr hb)), fun hm => by
    obtain ⟨p, hp, q⟩ := List.mem_map.mp hm
    have := (fresh p hp).2
    rw [q] at this; exact absurd this (Nat.not_le.mpr hb)⟩
  refine ⟨hideAll s'.heap (L :: own'.map (·.1)), ⟨?_, fun b o _ e => of_hideAll _ e, ?_, .inr ⟨hideAll_none _ List.mem_cons_self, hL.2⟩, fun p hp => ?_, (hs.map _).nodup C.nd, C.uq, rfl, rfl, rfl, Nat.le_refl _⟩, fun b o t e => ?_, fun b o hb e => ?_, fun p hp hn => ?_, up⟩
  · obtain ⟨f, ⟨o, es, ep, ho, r⟩, hm⟩ := C.ns.resolve_left h0
    exact .inr ⟨f, ⟨o, es, ep, G.keep _ _ (off (tab_ge hL.2)) ho, r⟩, hm⟩
  · obtain ⟨o, ho⟩ := C.low
    obtain ⟨h1, h2⟩ := small 202 (by decide)
    exact ⟨o, up _ _ h1 h2 (G.keep _ _ rfl (C.keep _ _ rfl ho))⟩
  · obtain ⟨h1, h2, h3⟩ := C.its p (hs.subset hp)
    exact ⟨h1.at fun o e => G.keep _ _ (off (tab_ge h2.2)) e, ⟨hideAll_none _ (List.mem_cons_of_mem _ (List.mem_map_of_mem hp)), h2.2⟩, .inr (h3.resolve_left h0)⟩
  · obtain ⟨h1, h2⟩ := notIn b o e
    exact up _ _ h1 h2 (G.keep _ _ (off t) (C.keep _ _ rfl e))
  · obtain ⟨h1, h2⟩ := small b hb
    exact up _ _ h1 h2 e
  · obtain ⟨h1, h2, h3⟩ := C.its p hp
    exact h1.at fun o e => up _ _ (h3.resolve_left h0) hn (G.keep _ _ (off (tab_ge h2.2)) e)

theorem enterAt {R : Result → Shared → Prop} {name qual : Str} {params : Arguments} {body : List Stmt} {scope : Scope} {cl : List (Str × Addr)} {dV kV doc pm cdv ct oc : Value} {an od : Option Addr} {osl : Array (Option Value)} {f : Addr} {args : List Value} {binds : List (Str × Value)}
    (B : Bs w s.heap) (hroom : A.depth < recursionLimit)
    (ho : (KK w.params).lookup f = some ⟨oc, od, .func (fnX name qual params body scope cl dV kV doc pm an cdv ct), osl⟩) (hcd : codeIn (KK w.params) cdv qual = true)
    (hbind : BindsTo s (fnX name qual params body scope cl dV kV doc pm an cdv ct) ⟨args, []⟩ binds)
    (hloc : (binds.all fun y => decide (scope.names.lookup y.1 = some .local)) = true) (hu : (binds.map (·.1)).Nodup)
    (hcell : ∀ x ∈ scope.names, x.2 ≠ .cell) (hco : scope.isCoroutine = false) (hgen : scope.isGenerator = false) (hk : scope.kind = .function)
    (hown : ∀ p ∈ own', p.2.Is prog w s.heap p.1 ∧ 203 ≤ p.1) (hnd : (own'.map (·.1)).Nodup)
    (h : ∀ L s', Cx true prog w (hideAll s.heap (own'.map (·.1))) L binds own' s s' →
      _root_.PySem.wpAt (model prog w) (A.deeper (envX qual scope L f cdv cl)) (.func body (envX qual scope L f cdv cl)) (execs body (envX qual scope L f cdv cl)) (fun fl s' => R (.ok (.ret (match fl with | .ret v => v | _ => .none))) s') (fun _ _ => False) s') :
    codeAny (model prog w) A (.call (.ref f) ⟨args, []⟩) R s := by
  have hl : ∀ y ∈ binds, scope.names.lookup y.1 = some .local := fun y hy => of_decide_eq_true (List.all_eq_true.mp hloc y hy)
  have small : ∀ b, b < 203 → b ∉ own'.map (·.1) := fun b hb hm => by
    obtain ⟨p, hp, q⟩ := List.mem_map.mp hm
    have := (hown p hp).2
    rw [q] at this; exact absurd this (Nat.not_le.mpr hb)
  refine ks_codeAny_call_defAt (fd := fnX name qual params body scope cl dV kV doc pm an cdv ct) (body := body) (binds := binds) hroom (B.k _ _ ho) rfl B.lim (codeRec_of B.k hcd) rfl hbind hcell hl (fun h₁ hns hk₁ => ?_) hco hgen hk
  have C : Cx true prog w (hideAll s.heap (own'.map (·.1))) s.heap.objs.size binds own' s { s with heap := h₁, toks := s.toks + binds.length } := by
    obtain ⟨o2, ho2⟩ := B.low
    refine ⟨.inr ⟨_, hns, fun y v hy => ?_⟩, fun b o _ e => hk₁ b o (of_hideAll _ e), ⟨o2, hideAll_get _ ho2 (small 202 (by decide))⟩, .inr ⟨?_, Heap.lt_size ho2⟩, fun p hp => ⟨(hown p hp).1.at fun o e => hk₁ _ o e, ⟨hideAll_none _ (List.mem_map_of_mem hp), (hown p hp).2⟩, .inr (Nat.ne_of_lt (hown p hp).1.lt)⟩, hnd, hu, rfl, rfl, rfl, Nat.le_add_right ..⟩
    · have hr : ((binds.reverse).map (·.1)).Nodup := by rw [List.map_reverse]; exact (List.reverse_perm _).nodup_iff.mpr hu
      have hy' := List.mem_reverse.mpr hy
      clear hy hns
      generalize binds.reverse = l at hr hy'
      induction l with
      | nil => cases hy'
      | cons p r ih =>
        rw [List.map_cons, List.nodup_cons] at hr
        rcases List.mem_cons.mp hy' with rfl | hm
        · simp [List.lookup]
        · have hne : (y == p.1) = false := by
            rw [beq_eq_false_iff_ne]
            intro e
            exact hr.1 (e ▸ List.mem_map_of_mem (f := (·.1)) hm)
          simp only [List.lookup, hne]
          exact ih hr.2 hm
    · cases q : (hideAll s.heap (own'.map (·.1))).get? s.heap.objs.size with
      | none => rfl
      | some o => exact absurd (Heap.lt_size (of_hideAll _ q)) (Nat.lt_irrefl _)
  exact ks_wpAt_mono (h _ _ C) (fun fl s' hl => hl) fun _ _ e => e.elim

theorem Cx.back {own₀ own₁ rest : List (Addr × Sh)} {L' : Addr} {s₁ : Shared} (C : Cx true prog w g L m (own₀ ++ rest) s₀ s) (D : Cx true prog w (hideAll s.heap (own₀.map (·.1))) L' m' own' s s₁) (hs : own₁.Sublist own') (hk : own₁.map (·.1) = own₀.map (·.1)) :
    Cx true prog w g L m (own₁ ++ rest) s₀ s₁ := by
  have up : ∀ b o, b ∉ own₀.map (·.1) → s.heap.get? b = some o → s₁.heap.get? b = some o := fun b o hb e => D.keep b o rfl (hideAll_get _ e hb)
  have nd := C.nd
  rw [List.map_append] at nd
  have nd2 := List.nodup_append.mp nd
  refine ⟨?_, fun b o t e => ?_, C.low, C.above, fun p hp => ?_, by rw [List.map_append, hk]; exact nd, C.uq, D.os.trans C.os, D.drawn.trans C.drawn, gens_trans C.gens D.gens, Nat.le_trans C.toks D.toks⟩
  · rcases C.ns with q | ⟨f, ⟨o, es, ep, ho, r⟩, hm⟩
    · exact .inl q
    · by_cases h0 : m = []
      · exact .inl h0
      · refine .inr ⟨f, ⟨o, es, ep, up _ _ (fun hm => ?_) ho, r⟩, hm⟩
        obtain ⟨p, hp, q⟩ := List.mem_map.mp hm
        exact ((C.its p (List.mem_append_left _ hp)).2.2.resolve_left h0) q
  · refine up _ _ (fun hm => ?_) (C.keep b o t e)
    obtain ⟨p, hp, q⟩ := List.mem_map.mp hm
    rw [← q, (C.its p (List.mem_append_left _ hp)).2.1.1] at e; cases e
  · rcases List.mem_append.mp hp with hp | hp
    · have h1 := (D.its p (hs.subset hp)).1
      have hm : p.1 ∈ own₀.map (·.1) := by rw [← hk]; exact List.mem_map_of_mem hp
      obtain ⟨q, hq, e⟩ := List.mem_map.mp hm
      obtain ⟨_, k2, k3⟩ := C.its q (List.mem_append_left _ hq)
      rw [e] at k2 k3
      exact ⟨h1, k2, k3⟩
    · obtain ⟨k1, k2, k3⟩ := C.its p (List.mem_append_right _ hp)
      refine ⟨k1.at fun o e => up _ _ (fun hm => ?_) e, k2, k3⟩
      exact nd2.2.2 _ hm _ (List.mem_map_of_mem hp) rfl
end
section
open PySem PySem.W PyProof.Rows PySem.Spec PySem.Calls Builtin
set_option maxHeartbeats 4000000
variable {σ : Bool} {prog : Program} {w : World} {g h h' : Heap} {L a : Addr} {m m' : List (Str × Value)} {own own' : List (Addr × Sh)} {s₀ s s' : Shared} {sh sh' : Sh}
variable {A : Around} {E : Value → Shared → Prop} {M : Model} {env : Env} {x y : Str} {v : Value}

structure Pr (prog : Program) : Prop where
  file : ((prog.main.file : Str) == ("/claim/cut.py" : Str)) = true
  sup : (prog.main.scope.names.lookup ("super" : Str)).isSome = false

noncomputable abbrev dEnt (w : World) (t : Tok) (v : Value) : DictEntry := { hash := PyData.keyHash w.params "_initial_size", key := .str "_initial_size" t, val := v }
noncomputable abbrev dObj (w : World) (t : Tok) (v : Value) (n : Nat) : Obj := { cls := .type "dict", data := .dict #[dEnt w t v] n }
theorem acc_inst {q dx : Addr} {xs : List Value} {n : Nat} {od : Obj} (h1 : h.get? q = some (accObj dx xs n)) (h2 : h.get? dx = some od) : InstAt h q (accObj dx xs n) 101 (some od) := ⟨h1, rfl, rfl, h2⟩
theorem find_setattr {P : Params} : findIn (KK P) (.ref 101) "__setattr__" = some (some (.builtin "object.__setattr__")) := by kernel_rfl
theorem find_is {P : Params} : findIn (KK P) (.ref 101) "_initial_size" = some none := by kernel_rfl

theorem refuse_A (self : Value) : refuseLoop self "__setattr__" cdA.mro = pure () := by
  show refuseLoop self "__setattr__" (.ref 101 :: [.type "list", .type "object"]) = _
  rw [refuseLoop_ref]
  kernel_rfl
theorem acc_set {q dx : Addr} {xs : List Value} {n : Nat} {Q : Unit → Shared → Prop} (B : Bs w s.heap) (h1 : s.heap.get? q = some (accObj dx xs n)) (h2 : s.heap.get? dx = some emptyDict)
    (hq : ∀ h' t n', h'.get? dx = some (dObj w t v n') → (∀ b o, b ≠ dx → s.heap.get? b = some o → h'.get? b = some o) → Q () { s with heap := h', toks := s.toks + 2 }) :
    wpAny (model prog w) A (setAttr (.ref q) "_initial_size" v) Q E s := by
  have I := acc_inst h1 h2
  refine set_plain B.k I find_setattr ?_
  have SF := PySem.F.store_object
  have sub : Looks (model prog w) s.heap (isInstance (.ref q) (.type "object")) true := I.type.andThen (looks_mroIn B.k (mro_A (by decide +kernel)))
  refine codeAny_call_builtin SF.slot.plain SF.entry (@check_slot (model prog w) _ _ { s with toks := s.toks + 1 } "object.__setattr__" "object" "__setattr__" (.ref q) [.str "_initial_size" s.toks, v] [] _ SF.kind SF.split sub (SF.args (.ref q) (.str "_initial_size" s.toks) v) ?_)
  have hC := B.k _ _ (@kk_101 w.params)
  have hm : Looks (model prog w) s.heap (mroOf (.ref 101)) cdA.mro := ((Looks.ld (part := none) hC).andThen .now).andThen .now
  have L1 := I.type (M := model prog w)
  have L2 := looks_findIn (M := model prog w) B.k (@find_is w.params)
  have L3 : Looks (model prog w) s.heap (ObjectAttr.storeTaker? none) none := .now
  rw [osa_eq, refuse_eq]
  refine wpAny_bind (wpAny_bind (L1.at (wpAny_bind (hm.at ?_))))
  rw [refuse_A]
  refine wpAny_pure (wpAny_bind (L1.at (wpAny_bind (L2.at (wpAny_bind (L3.at ?_))))))
  dsimp only
  refine wpAny_bind (wpAny_pure (wpAny_bind (wpAny_bind (wpAny_loadPart h1 (wpAny_bind ((looks_clsIn B.k (@cls_A w.params)).at ?_))))))
  refine wpAny_pure (a := some dx) (wpAny_bind (wpAny_pure (wpAny_bind ?_)))
  unfold nsSet
  refine wpAny_bind (wpAny_bind (wpAny_askSetting (wpAny_pure (wpAny_bind (wpAny_mkText (wpAny_bind (wpAny_loadPart h2 ?_)))))))
  have hput : Obj.putName (Str.ofString "_initial_size") (PyData.keyHash w.params "_initial_size") (.str "_initial_size" (s.toks + 1)) v emptyDict = dObj w (s.toks + 1) v 1 := by rfl
  have hget := Heap.get?_update_self (h := s.heap) (a := dx) (Obj.putName (Str.ofString "_initial_size") (PyData.keyHash w.params "_initial_size") (.str "_initial_size" (s.toks + 1)) v) h2 (by rw [hput]; rfl)
  have hsb := Heap.SameBut.update s.heap dx (Obj.putName (Str.ofString "_initial_size") (PyData.keyHash w.params "_initial_size") (.str "_initial_size" (s.toks + 1)) v)
  rw [hput] at hget
  show wpAny _ _ (updatePart dx _ _) _ _ _
  refine wpAny_updatePart h2 ?_
  refine wpAny_bind (wpAny_lookBehind hget (pastItsLine_dict (by size_fits)) ?_)
  exact wpAny_pure (hq _ _ _ hget fun b o hb e => (hsb.2 b hb).trans e)
end
section
open PySem PySem.W PyProof.Rows PySem.Spec PySem.Calls Builtin
set_option maxHeartbeats 4000000
variable {σ : Bool} {prog : Program} {w : World} {g h h' : Heap} {L a : Addr} {m m' : List (Str × Value)} {own own' : List (Addr × Sh)} {s₀ s s' : Shared} {sh sh' : Sh}
variable {A : Around} {E : Value → Shared → Prop} {M : Model} {env : Env} {x y : Str} {v : Value}

theorem kk_25 {P : Params} : ∃ oc od sl, (KK P).lookup 25 = some ⟨oc, od, .cell (some (.ref 101)), sl⟩ := ⟨_, _, _, rfl⟩
theorem ns_super {P : Params} : nsIn (KK P) mainGlobals "super" = some none := by kernel_rfl
theorem boot_super : bootBuiltins "super" = some (.type "super") := by kernel_rfl

theorem supBase {body : List Stmt} {qual : Str} {scope : Scope} {p0 p1 : Pos} {attr : Str} {whole : Sem Value} {fd : FuncData} {ar : Arg} {vs : Array Value} {tf : Tok} {oc ccl : Value} {od cdd : Option Addr} {osl ccs : Array (Option Value)} {f cda q dx : Addr} {xs : List Value} {n : Nat} {Q : Value → Shared → Prop}
    (PR : Pr prog) (B : Bs w g) (C : Cx true prog w g L m own s₀ s) (hx : s.heap.get? q = some (accObj dx xs n))
    (hf : (KK w.params).lookup f = some ⟨oc, od, .func fd, osl⟩) (hp : (fd.params.posonlyargs ++ fd.params.args).head? = some ar) (hv : (ar.arg, .ref q) ∈ m)
    (hcode : (KK w.params).lookup cda = some ⟨ccl, cdd, .fields vs, ccs⟩) (hvs : vs[2]? = some (.str "/claim/cut.py" tf))
    (hat : (attr == ("__class__" : Str)) = false) (hks : scope.names.lookup ("super" : Str) = some .globalImplicit) (hkc : scope.names.lookup ("__class__" : Str) = some .free) (hka : scope.names.lookup ar.arg = some .local) (hk : scope.kind = .function)
    (h : ∀ so s', Cx true prog w g L m ((so, .raw (ks_superObj 101 q 101)) :: own) s₀ s' → (∀ b o, s.heap.get? b = some o → s'.heap.get? b = some o) → Q (.ref so) s') :
    _root_.PySem.wpAt (model prog w) A (.func body (envX qual scope L f (.ref cda) [("__class__", 25)])) (attributeBase (.Call (.Name "super" p0) [] [] p1) attr (envX qual scope L f (.ref cda) [("__class__", 25)]) whole) Q E s := by
  have B' := C.bs B
  have X := B'.k
  have hC := X _ _ (@kk_101 w.params)
  obtain ⟨c1, c2, c3, hcell⟩ := @kk_25 w.params
  refine ks_wpAt_super_base (env := envX qual scope L f (.ref cda) [("__class__", 25)]) hks hkc hat rfl (X _ _ hf) rfl hp rfl (X _ _ hcode) rfl hvs PR.file PR.sup ?_
  obtain ⟨mg, G⟩ := B'.gl
  obtain ⟨mb, N, hb⟩ := B'.bl
  refine ks_loadName_global hk hks (loadGlobal_builtin (env := envX qual scope L f (.ref cda) [("__class__", 25)]) G (mg_none_of X G ns_super) N ((hb _ (by decide +kernel)).trans boot_super) ⟨rfl, ?_⟩)
  refine wpAny_loadName_free hk hkc rfl ⟨_, X _ _ hcell, rfl⟩ ?_
  refine ldL C hv ?_ rfl hk hka
  obtain ⟨hp, g', d, t, os⟩ := s
  refine ks_wpAny_isType_cls hC rfl ⟨rfl, ?_⟩
  refine ks_wpAny_call_super hC rfl hx rfl (fun c e => by cases e) (sub_A_A (prog := prog) B') fun h' e k => ?_
  have G2 : Gr true ⟨hp, g', d, t, os⟩ ⟨h', g', d, t, os⟩ := ⟨fun b o _ q => k b o q, rfl, rfl, rfl, Nat.le_refl _⟩
  exact h _ _ (C.add G2 e (get_size _) C.top) k

theorem statics (T : Tp h) : Looks M h (opaqueClassAbove (.ref 101)) none := by
  obtain ⟨ms, ⟨o, es, ep, ho, r⟩, e⟩ := T.st
  refine Looks.andThen (a := false) ?_ (by show Looks M h (if (!false) = true then pure none else _) none; rw [if_pos (show (!false) = true from rfl)]; exact .now)
  intro A Q E s k q
  refine wpAny_bind (wpAny_nsGet (m := ms) ⟨o, es, ep, k _ _ ho, r⟩ ?_)
  rw [e]
  exact wpAny_pure q
theorem own_len {P : Params} : ownIn (KK P) "__len__" (.type "list") = some (some (.builtin "list.__len__")) := by kernel_rfl
theorem own_init {P : Params} : ownIn (KK P) "__init__" (.type "list") = some (some (.builtin "list.__init__")) := by kernel_rfl
theorem ty_len {P : Params} : typeIn (KK P) (.builtin "list.__len__") = some (.type "wrapper_descriptor") := by kernel_rfl
theorem ty_init {P : Params} : typeIn (KK P) (.builtin "list.__init__") = some (.type "wrapper_descriptor") := by kernel_rfl
theorem find_wget {P : Params} : findIn (KK P) (.type "wrapper_descriptor") "__get__" = some (some (.builtin "wrapper_descriptor.__get__")) := by kernel_rfl
theorem mro_drop : (cdA.mro.dropWhile (· != .ref 101)).drop 1 = [.type "list", .type "object"] := by decide +kernel

theorem slot_wget : Slot "wrapper_descriptor" "__get__" "wrapper_descriptor.__get__" := .of (owner := "wrapper_descriptor") (n := "__get__") (by rw [typeLookup_type, builtinLookup_eq_fast]; kernel_rfl) (by decide +kernel) (by decide +kernel) (by decide +kernel)
  (by first | exact .inl (by decide +kernel) | exact .inr (by decide +kernel)) (by rw [isSubtype_type]; kernel_rfl)
theorem entry_wget : entryFor table "wrapper_descriptor.__get__" = some Builtin.«wrapper_descriptor.__get__» := entryFor_of_tree (by kernel_rfl)
theorem args_wget (a b c : Value) : argsOk "wrapper_descriptor.__get__" ⟨[a, b, c], []⟩ := by unfold argsOk; rw [PySem.W.Fast.signatureY_eq]; kernel_rfl
theorem sup_len {so q dx : Addr} {xs : List Value} {n : Nat} {pl : Sem Bool} {Q : Value × List Value → Shared → Prop} {g d t os} (B : Bs w h) (T : Tp h) (hso : h.get? so = some (ks_superObj 101 q 101)) (hx : h.get? q = some (accObj dx xs n)) (h101 : q ≠ 101) (hq : Q (.ref h.objs.size, []) ⟨h.push { cls := .type "method-wrapper", data := .fields #[.builtin "list.__len__", .ref q] }, g, d, t + 1, os⟩) :
    wpAny (model prog w) A (getMethod (.ref so) "__len__" pl) Q E ⟨h, g, d, t, os⟩ := by
  have hlk := F.ks_slot_super_ga.lookup
  have hcan := F.ks_canon_super_ga
  have hT : ∀ t', (⟨h, g, d, t', os⟩ : Shared).TypeIs (.ref so) "super" := fun _ => ⟨_, hso, rfl⟩
  unfold getMethod
  refine wpAny_bind (wpAny_specialOf (hT _) hlk ?_)
  show wpAny _ _ (if (Manifest.canonical "super.__getattribute__" != "object.__getattribute__") = true then _ else _) _ _ _
  rw [if_pos hcan]
  unfold getAttr getAttrBy
  refine wpAny_bind (wpAny_bind (wpAny_mkText (wpAny_holding (wpAny_bind (wpAny_typeOf (hT _) (wpAny_bind (wpAny_of_eq hlk ?_)))))))
  show wpAny _ _ (getAttrByItsOwn (.ref so) (.str _ t) (.type "super") (.builtin "super.__getattribute__") true false) _ _ _
  unfold getAttrByItsOwn hookBefore callGetattribute boundAndCalled
  refine wpAny_bind (wpAny_of_eq (show (if onTheHeap (.type "super") then typeLookup (.type "super") "__getattr__" else pure none) = pure none from rfl) ?_)
  refine wpAny_bind (wpAny_attempt (wpAny_holding ?_))
  show wpAny _ _ (bindSpecial (.builtin "super.__getattribute__") (.ref so) >>= _) _ _ _
  refine wpAny_bind (wpAny_of_eq (F.ks_slot_super_ga.bind _) ?_)
  refine wpAny_call_entry F.ks_slot_super_ga (hT _) F.ks_entry_super_ga ?_ (F.ks_gaArgs_super _ _)
  have hC := B.k _ _ (@kk_101 w.params)
  have hm : Looks (model prog w) h (mroOf (.ref 101)) cdA.mro := ((Looks.ld (part := none) hC).andThen .now).andThen .now
  have hno := statics (M := model prog w) T
  have hno2 : Looks (model prog w) h (notOfAnOpaqueClass "__len__" "" (.ref 101)) () := by
    intro A Q E s k q
    obtain ⟨hp, g, d, t, os⟩ := s
    exact ks_wpAny_notOpaque (hno.keeps k) q
  have f0 := looks_field (M := model prog w) hso 0 (v := .ref 101) rfl
  have f1 := looks_field (M := model prog w) hso 1 (v := .ref q) rfl
  have f2 := looks_field (M := model prog w) hso 2 (v := .ref 101) rfl
  have o1 := looks_ownIn (M := model prog w) B.k (@own_len w.params)
  have y1 := looks_typeIn (M := model prog w) B.k (@ty_len w.params)
  have g1 := looks_findIn (M := model prog w) B.k (@find_wget w.params)
  have hqi : Looks (model prog w) h (isInstance (.ref q) (.type "list")) true := ((Looks.ld hx).andThen .now).andThen (sub_list_A (prog := prog) B)
  have hne : (Value.ref q == Value.ref 101) = false := by simpa using h101
  have hTw : ∀ t', (⟨h, g, d, t', os⟩ : Shared).TypeIs (.builtin "list.__len__") "wrapper_descriptor" := fun t' => by first | exact wd_len | trivial
  unfold Builtin.«super.__getattribute__»
  repeat (first | with_reducible refine wpAny_call_entry slot_wget (hTw _) entry_wget ?_ (args_wget _ _ _) | with_reducible refine ⟨_, rfl, ?_⟩ | rw [hne] | lk)
  exact hq
theorem sup_init {so q dx : Addr} {xs : List Value} {n : Nat} {pl : Sem Bool} {Q : Value × List Value → Shared → Prop} {g d t os} (B : Bs w h) (T : Tp h) (hso : h.get? so = some (ks_superObj 101 q 101)) (hx : h.get? q = some (accObj dx xs n)) (h101 : q ≠ 101) (hq : Q (.ref h.objs.size, []) ⟨h.push { cls := .type "method-wrapper", data := .fields #[.builtin "list.__init__", .ref q] }, g, d, t + 1, os⟩) :
    wpAny (model prog w) A (getMethod (.ref so) "__init__" pl) Q E ⟨h, g, d, t, os⟩ := by
  have hlk := F.ks_slot_super_ga.lookup
  have hcan := F.ks_canon_super_ga
  have hT : ∀ t', (⟨h, g, d, t', os⟩ : Shared).TypeIs (.ref so) "super" := fun _ => ⟨_, hso, rfl⟩
  unfold getMethod
  refine wpAny_bind (wpAny_specialOf (hT _) hlk ?_)
  show wpAny _ _ (if (Manifest.canonical "super.__getattribute__" != "object.__getattribute__") = true then _ else _) _ _ _
  rw [if_pos hcan]
  unfold getAttr getAttrBy
  refine wpAny_bind (wpAny_bind (wpAny_mkText (wpAny_holding (wpAny_bind (wpAny_typeOf (hT _) (wpAny_bind (wpAny_of_eq hlk ?_)))))))
  show wpAny _ _ (getAttrByItsOwn (.ref so) (.str _ t) (.type "super") (.builtin "super.__getattribute__") true false) _ _ _
  unfold getAttrByItsOwn hookBefore callGetattribute boundAndCalled
  refine wpAny_bind (wpAny_of_eq (show (if onTheHeap (.type "super") then typeLookup (.type "super") "__getattr__" else pure none) = pure none from rfl) ?_)
  refine wpAny_bind (wpAny_attempt (wpAny_holding ?_))
  show wpAny _ _ (bindSpecial (.builtin "super.__getattribute__") (.ref so) >>= _) _ _ _
  refine wpAny_bind (wpAny_of_eq (F.ks_slot_super_ga.bind _) ?_)
  refine wpAny_call_entry F.ks_slot_super_ga (hT _) F.ks_entry_super_ga ?_ (F.ks_gaArgs_super _ _)
  have hC := B.k _ _ (@kk_101 w.params)
  have hm : Looks (model prog w) h (mroOf (.ref 101)) cdA.mro := ((Looks.ld (part := none) hC).andThen .now).andThen .now
  have hno := statics (M := model prog w) T
  have hno2 : Looks (model prog w) h (notOfAnOpaqueClass "__init__" "" (.ref 101)) () := by
    intro A Q E s k q
    obtain ⟨hp, g, d, t, os⟩ := s
    exact ks_wpAny_notOpaque (hno.keeps k) q
  have f0 := looks_field (M := model prog w) hso 0 (v := .ref 101) rfl
  have f1 := looks_field (M := model prog w) hso 1 (v := .ref q) rfl
  have f2 := looks_field (M := model prog w) hso 2 (v := .ref 101) rfl
  have o1 := looks_ownIn (M := model prog w) B.k (@own_init w.params)
  have y1 := looks_typeIn (M := model prog w) B.k (@ty_init w.params)
  have g1 := looks_findIn (M := model prog w) B.k (@find_wget w.params)
  have hqi : Looks (model prog w) h (isInstance (.ref q) (.type "list")) true := ((Looks.ld hx).andThen .now).andThen (sub_list_A (prog := prog) B)
  have hne : (Value.ref q == Value.ref 101) = false := by simpa using h101
  have hTw : ∀ t', (⟨h, g, d, t', os⟩ : Shared).TypeIs (.builtin "list.__init__") "wrapper_descriptor" := fun t' => by first | exact wd_len | trivial
  unfold Builtin.«super.__getattribute__»
  repeat (first | with_reducible refine wpAny_call_entry slot_wget (hTw _) entry_wget ?_ (args_wget _ _ _) | with_reducible refine ⟨_, rfl, ?_⟩ | rw [hne] | lk)
  exact hq

theorem updAcc {q dx : Addr} {xs ys : List Value} {n : Nat} {f : Array Value → Array Value} {Q : Unit → Shared → Prop} {g d t os} (hx : h.get? q = some (accObj dx xs n)) (hf : f xs.toArray = ys.toArray) (h1 : xs.length ≤ 1000) (h2 : ys.length ≤ 1000)
    (hq : ∀ h' n', h'.get? q = some (accObj dx ys n') → (∀ b o, b ≠ q → h.get? b = some o → h'.get? b = some o) → Q () ⟨h', g, d, t, os⟩) : wpAny M A (updateSeq q f) Q E ⟨h, g, d, t, os⟩ := by
  have e : ∃ n', Obj.mapSeq f (accObj dx xs n) = accObj dx ys n' := by
    simp only [Obj.mapSeq, hf]
    exact ⟨_, rfl⟩
  obtain ⟨n', e⟩ := e
  have hget := Heap.get?_update_self (h := h) (a := q) (Obj.mapSeq f) hx (by rw [e]; rfl)
  rw [e] at hget
  refine wpAny_updateSeq hx rfl (hq _ n' hget fun b o hb q => ((Heap.SameBut.update ..).2 b hb).trans q) (by rw [List.size_toArray, sizeLine_eq]; lia) (by rw [hf, List.size_toArray, sizeLine_eq]; lia)

noncomputable abbrev wrapObj (id : String) (q : Addr) : Obj := { cls := .type "method-wrapper", dict := none, data := .fields #[.builtin id, .ref q], slots := #[] }
theorem wrap_len {b q dx : Addr} {xs : List Value} {n : Nat} {Q : Value → Shared → Prop} (B : Bs w s.heap) (hb : s.heap.get? b = some (wrapObj "list.__len__" q)) (hx : s.heap.get? q = some (accObj dx xs n))
    (h : ∀ t, Q (.int xs.length t) { s with toks := s.toks + 1 }) : wpAny (model prog w) A (call (.ref b) []) Q E s := by
  have hqi : Looks (model prog w) s.heap (isInstance (.ref q) (.type "list")) true := ((Looks.ld hx).andThen .now).andThen (sub_list_A (prog := prog) B)
  obtain ⟨hp, g, d, t, os⟩ := s
  dsimp only at hx hb hqi
  refine wpAny_call (codeAny_of_tree ?_)
  show wpAny _ _ (callAny (.ref b) _) _ _ _
  repeat lk
  refine ⟨Code.quiet_builtin _ (by decide +kernel), codeAny_builtin F.entry_list_len ?_⟩
  show wpAny _ _ (Builtin.«list.__len__» ⟨[.ref q], []⟩) _ _ _
  unfold Builtin.«list.__len__»
  repeat lk
  exact h _
theorem wrap_init {b q dx : Addr} {n : Nat} {Q : Value → Shared → Prop} (B : Bs w s.heap) (hb : s.heap.get? b = some (wrapObj "list.__init__" q)) (hx : s.heap.get? q = some (accObj dx [] n))
    (h : ∀ h' n', h'.get? q = some (accObj dx [] n') → (∀ b o, b ≠ q → s.heap.get? b = some o → h'.get? b = some o) → Q .none { s with heap := h' }) : wpAny (model prog w) A (call (.ref b) []) Q E s := by
  have hqi : Looks (model prog w) s.heap (isInstance (.ref q) (.type "list")) true := ((Looks.ld hx).andThen .now).andThen (sub_list_A (prog := prog) B)
  obtain ⟨hp, g, d, t, os⟩ := s
  dsimp only at hx hb hqi
  refine wpAny_call (codeAny_of_tree ?_)
  show wpAny _ _ (callAny (.ref b) _) _ _ _
  repeat lk
  refine ⟨Code.quiet_builtin _ (by decide +kernel), codeAny_builtin F.entry_list_init ?_⟩
  show wpAny _ _ (Builtin.«list.__init__» ⟨[.ref q], []⟩) _ _ _
  unfold Builtin.«list.__init__»
  repeat (first | with_reducible refine updAcc hx (ys := []) rfl (by decide) (by decide) ?_; intro h' n' k1 k2 | lk)
  exact h _ _ k1 k2
end
section
open PySem PySem.W PyProof.Rows PySem.Spec PySem.Calls Builtin
set_option maxHeartbeats 400000
variable {σ : Bool} {prog : Program} {w : World} {g h h' : Heap} {L a : Addr} {m m' : List (Str × Value)} {own own' : List (Addr × Sh)} {s₀ s s' : Shared} {sh sh' : Sh}
variable {A : Around} {E : Value → Shared → Prop} {M : Model} {env : Env} {x y : Str} {v : Value}

theorem find_ga' {P : Params} : findIn (KK P) (.ref 101) "__getattr__" = some none := by kernel_rfl
theorem canon_ga : Manifest.canonical "list.__getattribute__" = "object.__getattribute__" := by rw [PySem.W.Fast.canonicalY_eq]; decide +kernel
theorem method_A {q dx : Addr} {xs : List Value} {n : Nat} {od : Obj} {name : Str} {f : Value} {T : String} {pl : Sem Bool} {Q : Value × List Value → Shared → Prop} (B : Bs w s.heap) (hx : s.heap.get? q = some (accObj dx xs n)) (hd : s.heap.get? dx = some od)
    (hf : findIn (KK w.params) (.ref 101) name = some (some f)) (ht : typeIn (KK w.params) f = some (.type T)) (hT : (Value.type T != Value.type "function" && Value.type T != Value.type "method_descriptor" && Value.type T != Value.type "wrapper_descriptor") = false) (hs : lookIn name od = some none) (h : Q (f, [.ref q]) s) :
    wpAny (model prog w) A (getMethod (.ref q) name pl) Q E s := by
  have hcan := canon_ga
  have X := B.k
  have I := acc_inst hx hd
  unfold getMethod specialOf
  refine wpAny_bind (wpAny_bind (I.type.here ((looks_findIn X find_ga).here ?_)))
  dsimp only
  rw [hcan, if_neg (by decide)]
  refine wpAny_bind (wpAny_bind (I.type.here ((looks_findIn X find_ga').here ?_)))
  refine wpAny_bind (wpAny_bind (I.type.here ((looks_findIn X hf).here (wpAny_bind ((looks_typeIn X ht).here ?_)))))
  rw [hT, if_neg (by decide)]
  refine wpAny_bind (wpAny_loadPart hx ?_)
  refine wpAny_bind (wpAny_bind (wpAny_loadPart hd ?_))
  rw [nsLook_of hs]
  refine wpAny_pure ?_
  exact wpAny_bind (wpAny_rule (wpAny_pure h))

theorem split_ga : splitId "list.__getattribute__" = some ("list", "__getattribute__") := by decide +kernel
theorem kind_ga : builtinKind "list.__getattribute__" = some .slot := by decide +kernel
theorem bind_ga (v : Value) : bindSpecial (.builtin "list.__getattribute__") v = pure (.builtin "list.__getattribute__", [v]) :=
  (Slot.of (T := "list") (name := "__getattribute__") (owner := "list") (n := "__getattribute__") (by rw [typeLookup_type, builtinLookup_eq_fast]; kernel_rfl) (by decide +kernel) (by decide +kernel) (by decide +kernel)
    (by first | exact .inl (by decide +kernel) | exact .inr (by decide +kernel)) (by rw [isSubtype_type]; kernel_rfl)).bind v
theorem args_ga (a b : Value) : argsOk "list.__getattribute__" ⟨[a, b], []⟩ := by unfold argsOk; rw [PySem.W.Fast.signatureY_eq]; kernel_rfl
theorem attr_A {q dx : Addr} {xs : List Value} {n n' : Nat} {t : Tok} {expr : Bool} {Q : Value → Shared → Prop} (B : Bs w s.heap) (hx : s.heap.get? q = some (accObj dx xs n)) (hd : s.heap.get? dx = some (dObj w t v n')) (hv : handedIn v = true)
    (h : Q v { s with toks := s.toks + 1 }) : wpAny (model prog w) A (getAttr (.ref q) "_initial_size" expr) Q E s := by
  have X := B.k
  have I := acc_inst hx hd
  have L0 := I.type (M := model prog w)
  have L1 := looks_findIn (M := model prog w) X (@find_ga w.params)
  have L2 := looks_findIn (M := model prog w) X (@find_ga' w.params)
  have hfo : findObj (KK w.params) 101 (some (dObj w t v n')) "_initial_size" = some (.value v) := by
    unfold findObj
    rw [cls_A, Option.bind_some, find_is, Option.bind_some]
    have : ownOf cdA (some (dObj w t v n')) "_initial_size" = some (some v) := by rfl
    simp [this]
  have L3 := looks_find (M := model prog w) X I hfo
  have hqi : Looks (model prog w) s.heap (isInstance (.ref q) (.type "list")) true := ((Looks.ld hx).andThen .now).andThen (sub_list_A (prog := prog) B)
  have hbi := bind_ga (.ref q)
  obtain ⟨hp, g, d, tk, os⟩ := s
  dsimp only at hx hd hqi L0 L1 L2 L3
  have hho : Looks (model prog w) hp (handedOut v) v := Looks.of_pure (handedOut_of hv)
  unfold getAttr getAttrBy
  refine wpAny_bind (wpAny_mkText (wpAny_holding (wpAny_bind (L0.at (wpAny_bind (L1.at ?_))))))
  show wpAny _ _ (getAttrByItsOwn (.ref q) (.str _ tk) (.ref 101) (.builtin "list.__getattribute__") true expr) _ _ _
  unfold getAttrByItsOwn hookBefore callGetattribute boundAndCalled
  refine wpAny_bind (m := if onTheHeap (.ref 101) then typeLookup (.ref 101) "__getattr__" else pure none) (L2.at ?_)
  refine wpAny_bind (wpAny_attempt (wpAny_holding ?_))
  rw [show (expr && onTheHeap (.builtin "list.__getattribute__")) = false by cases expr <;> rfl, if_neg (by decide), hbi]
  refine wpAny_bind (wpAny_pure ?_)
  show wpAny _ _ (call (.builtin "list.__getattribute__") [.ref q, .str "_initial_size" tk]) _ _ _
  refine wpAny_call (codeAny_call_builtin_code (Code.quiet_builtin _ (by decide +kernel)) ?_)
  refine @check_slot (model prog w) _ _ ⟨hp, g, d, tk + 1, os⟩ "list.__getattribute__" "list" "__getattribute__" (.ref q) [.str "_initial_size" tk] [] _ kind_ga split_ga hqi (args_ga _ _) ?_
  refine codeAny_builtin F.entry_list_ga ?_
  unfold Builtin.«object.__getattribute__»
  repeat lk
  exact h
end
section
open PySem PySem.W PyProof.Rows PySem.Spec PySem.Calls Builtin
set_option maxHeartbeats 1000000
variable {σ : Bool} {prog : Program} {w : World} {g h h' : Heap} {L a : Addr} {m m' : List (Str × Value)} {own own' : List (Addr × Sh)} {s₀ s s' : Shared} {sh sh' : Sh}
variable {A : Around} {E : Value → Shared → Prop} {M : Model} {env : Env} {x y : Str} {v : Value}

theorem find_len {P : Params} : findIn (KK P) (.ref 101) "__len__" = some (some (.ref 68)) := by kernel_rfl
theorem find_getitem {P : Params} : findIn (KK P) (.ref 101) "__getitem__" = some (some (.builtin "list.__getitem__")) := by kernel_rfl
theorem find_setitem {P : Params} : findIn (KK P) (.ref 101) "__setitem__" = some (some (.builtin "list.__setitem__")) := by kernel_rfl
theorem find_iter {P : Params} : findIn (KK P) (.ref 101) "__iter__" = some (some (.builtin "list.__iter__")) := by kernel_rfl
theorem kind_app : builtinKind "list.append" = some .method := by decide +kernel
theorem split_app : splitId "list.append" = some ("list", "append") := by decide +kernel
theorem ty_app {P : Params} : typeIn (KK P) (.builtin "list.append") = some (.type "method_descriptor") := by kernel_rfl

theorem append_A {q dx : Addr} {xs : List Value} {n : Nat} {Q : Value → Shared → Prop} (B : Bs w s.heap) (hx : s.heap.get? q = some (accObj dx xs n)) (hz : xs.length ≤ 900)
    (h : ∀ h' n', h'.get? q = some (accObj dx (xs ++ [v]) n') → (∀ b o, b ≠ q → s.heap.get? b = some o → h'.get? b = some o) → Q .none { s with heap := h' }) :
    wpAny (model prog w) A (call (.builtin "list.append") [.ref q, v]) Q E s := by
  have hqi : Looks (model prog w) s.heap (isInstance (.ref q) (.type "list")) true := ((Looks.ld hx).andThen .now).andThen (sub_list_A (prog := prog) B)
  obtain ⟨hp, g, d, tk, os⟩ := s
  dsimp only at hx hqi
  refine wpAny_call (codeAny_call_builtin_code (Code.quiet_builtin _ (by decide +kernel)) ?_)
  unfold checkBuiltinCall
  rw [kind_app, split_app]
  repeat lk
  refine codeAny_builtin F.entry_list_append ?_
  unfold Builtin.«list.append»
  repeat (first | with_reducible refine updAcc hx (ys := xs ++ [v]) (by simp) (by lia) (by simp; lia) ?_; intro h' n' k1 k2 | lk)
  exact h _ _ k1 k2

theorem noSeq_A {P : Params} : noSeq (KK P) 101 = true := by kernel_rfl
theorem seqKey_A {q dx : Addr} {xs : List Value} {n : Nat} {k : Value} {name : Str} (B : Bs w h) (hx : h.get? q = some (accObj dx xs n)) : Looks M h (sequenceKey (.ref q) k name) k := by
  intro A Q E s kk z
  unfold sequenceKey
  have L0 : Looks M h (typeOf (.ref q)) (.ref 101) := (Looks.ld hx).andThen .now
  refine wpAny_bind (L0 A _ E s kk ?_)
  refine wpAny_bind (anyM_none B.k noSeq_A A _ E s kk ?_)
  rw [if_pos (show (!false) = true from rfl)]
  exact wpAny_pure z
theorem kind_gi : builtinKind "list.__getitem__" = some .method := by decide +kernel
theorem split_gi : splitId "list.__getitem__" = some ("list", "__getitem__") := by decide +kernel
theorem getItem_A {q dx sl : Addr} {xs : List Value} {n : Nat} {k : Int} {u : Tok} {Q : Value → Shared → Prop} (B : Bs w s.heap) (hx : s.heap.get? q = some (accObj dx xs n)) (hs : Sh.Is prog w s.heap sl (slSh (.int k u) .none)) (hz : xs.length ≤ 900)
    (h : Q (.ref s.heap.objs.size) { s with heap := s.heap.push { cls := .type "list", data := .seq (slicePick xs.toArray (some k) none none) } }) :
    wpAny (model prog w) A (getItem (.ref q) (.ref sl)) Q E s := by
  obtain ⟨⟨oc, od, odt, osl⟩, hs, e1, e2⟩ := hs
  dsimp only at e1 e2
  have e2 : odt = .fields #[.int k u, .none, .none] := e2
  subst e1 e2
  have hqi : Looks (model prog w) s.heap (isInstance (.ref q) (.type "list")) true := ((Looks.ld hx).andThen .now).andThen (sub_list_A (prog := prog) B)
  have L0 : Looks (model prog w) s.heap (typeOf (.ref q)) (.ref 101) := (Looks.ld hx).andThen .now
  have L1 := looks_findIn (M := model prog w) B.k (@find_getitem w.params)
  have L2 : Looks (model prog w) s.heap (typeOf (.ref sl)) (.type "slice") := (Looks.ld hs).andThen .now
  have L3 : Looks (model prog w) s.heap (bindSpecial (.builtin "list.__getitem__") (.ref q)) (.builtin "list.__getitem__", [.ref q]) := .of_pure (slot_list_getitem.bind _)
  obtain ⟨hp, g, d, tk, os⟩ := s
  dsimp only at hx hqi hs L0 L1 L2 L3
  have L4 : ∀ k name, Looks (model prog w) hp (sequenceKey (.ref q) k name) k := fun k name => seqKey_A B hx
  have L4 := L4 (.ref sl) "__getitem__"
  unfold getItem
  repeat (first | with_reducible refine wpAny_call ?_ | lk)
  refine codeAny_call_builtin_code (Code.quiet_builtin _ (by decide +kernel)) ?_
  unfold checkBuiltinCall
  rw [kind_gi, split_gi]
  repeat lk
  refine codeAny_builtin F.entry_list_getitem ?_
  show wpAny _ _ (Builtin.«list.__getitem__» ⟨[.ref q, .ref sl], []⟩) _ _ _
  unfold Builtin.«list.__getitem__»
  have hTs : ∀ t, (⟨hp, g, d, t, os⟩ : Shared).TypeIs (.ref sl) "slice" := fun _ => ⟨_, hs, rfl⟩
  have hI : Looks (model prog w) hp (Builtin.List.listSubscript? (.ref sl)) none := by
    intro A Q E s kk z
    unfold Builtin.List.listSubscript?
    refine wpAny_bind (wpAny_specialOf ⟨_, kk _ _ hs, rfl⟩ slice_no_index ?_)
    simp only [Option.isNone_none, if_true]
    exact wpAny_pure z
  have hP : Looks (model prog w) hp (Builtin.List.listSliceParts (.ref sl)) (rawPart (some k), rawPart none, rawPart none) := by
    intro A Q E s kk z
    rw [listSliceParts_eq]
    have hds : (⟨Value.type "slice", od, Data.fields #[Value.int k u, Value.none, Value.none], osl⟩ : Obj).data = .fields #[.int k u, .none, .none] := rfl
    refine wpAny_bind (wpAny_field (kk _ _ hs) hds (x := .none) rfl (wpAny_bind (wpAny_listPart .none ?_)))
    rw [if_neg (by decide)]
    refine wpAny_bind (wpAny_field (kk _ _ hs) hds (x := .int k u) rfl (wpAny_bind (wpAny_listPart (.int k u) ?_)))
    exact wpAny_bind (wpAny_field (kk _ _ hs) hds (x := .none) rfl (wpAny_bind (wpAny_listPart .none (wpAny_pure z))))
  have hL : Looks (model prog w) hp (Builtin.List.listItems (.ref q)) xs.toArray := by
    intro A Q E s kk z
    unfold Builtin.List.listItems
    exact wpAny_bind (wpAny_seqItems (kk _ _ hx) rfl (wpAny_pure z))
  have hR : Looks (model prog w) hp (sliceIndices (rawPart (some k)) (rawPart none) (rawPart none) xs.toArray.size) (sliceBounds (some k) none none xs.toArray.size) := .of_pure (sliceIndices_raw (some k) none none xs.toArray.size (by simp))
  repeat lk
  have hsz : ¬ ((slicePick xs.toArray (some k) none none).size > sizeLine) := by
    have h1 := slicePick_size_le xs.toArray (some k) none none
    have h2 : xs.toArray.size = xs.length := List.size_toArray ..
    rw [sizeLine_eq]; lia
  unfold slicePick at hsz
  rw [if_neg hsz]
  repeat lk
  exact h
theorem kind_si : builtinKind "list.__setitem__" = some .slot := by decide +kernel
theorem split_si : splitId "list.__setitem__" = some ("list", "__setitem__") := by decide +kernel
theorem setItem_A {q dx sl l : Addr} {xs : List Value} {n nl : Nat} {k : Int} {u : Tok} {Q : Unit → Shared → Prop} (B : Bs w s.heap) (hx : s.heap.get? q = some (accObj dx xs n)) (hs : Sh.Is prog w s.heap sl (slSh (.int k u) .none)) (hz : xs.length ≤ 900)
    (hl : s.heap.get? l = some { cls := .type "list", data := .seq #[] nl }) (hlq : q ≠ l) (hk : 0 ≤ k)
    (h : ∀ h' n', h'.get? q = some (accObj dx (xs.take k.toNat) n') → (∀ b o, b ≠ q → s.heap.get? b = some o → h'.get? b = some o) → Q () { s with heap := h' }) :
    wpAny (model prog w) A (setItem (.ref q) (.ref sl) (.ref l)) Q E s := by
  obtain ⟨⟨oc, od, odt, osl⟩, hs, e1, e2⟩ := hs
  dsimp only at e1 e2
  have e2 : odt = .fields #[.int k u, .none, .none] := e2
  subst e1 e2
  have hqi : Looks (model prog w) s.heap (isInstance (.ref q) (.type "list")) true := ((Looks.ld hx).andThen .now).andThen (sub_list_A (prog := prog) B)
  have L0 : Looks (model prog w) s.heap (typeOf (.ref q)) (.ref 101) := (Looks.ld hx).andThen .now
  have L1 := looks_findIn (M := model prog w) B.k (@find_setitem w.params)
  have L2 : Looks (model prog w) s.heap (typeOf (.ref sl)) (.type "slice") := (Looks.ld hs).andThen .now
  have L3 : Looks (model prog w) s.heap (bindSpecial (.builtin "list.__setitem__") (.ref q)) (.builtin "list.__setitem__", [.ref q]) := .of_pure (slot_list_setitem.bind _)
  obtain ⟨hp, g, d, tk, os⟩ := s
  dsimp only at hx hqi hs hl L0 L1 L2 L3
  have L4 : Looks (model prog w) hp (sequenceKey (.ref q) (.ref sl) "__setitem__") (.ref sl) := seqKey_A B hx
  unfold setItem
  repeat (first | with_reducible refine wpAny_call ?_ | lk)
  refine codeAny_call_builtin_code (Code.quiet_builtin _ (by decide +kernel)) ?_
  refine @check_slot (model prog w) _ _ ⟨hp, g, d, tk, os⟩ "list.__setitem__" "list" "__setitem__" (.ref q) [.ref sl, .ref l] [] _ kind_si split_si hqi (args_list_setitem _ _ _) ?_
  refine codeAny_builtin F.entry_list_setitem ?_
  unfold Builtin.«list.__setitem__»
  have hTs : ∀ t, (⟨hp, g, d, t, os⟩ : Shared).TypeIs (.ref sl) "slice" := fun _ => ⟨_, hs, rfl⟩
  have hI : Looks (model prog w) hp (Builtin.List.listSubscript? (.ref sl)) none := by
    intro A Q E s kk z
    unfold Builtin.List.listSubscript?
    refine wpAny_bind (wpAny_specialOf ⟨_, kk _ _ hs, rfl⟩ slice_no_index ?_)
    simp only [Option.isNone_none, if_true]
    exact wpAny_pure z
  have hP : Looks (model prog w) hp (Builtin.List.listSliceParts (.ref sl)) (rawPart (some k), rawPart none, rawPart none) := by
    intro A Q E s kk z
    rw [listSliceParts_eq]
    have hds : (⟨Value.type "slice", od, Data.fields #[Value.int k u, Value.none, Value.none], osl⟩ : Obj).data = .fields #[.int k u, .none, .none] := rfl
    refine wpAny_bind (wpAny_field (kk _ _ hs) hds (x := .none) rfl (wpAny_bind (wpAny_listPart .none ?_)))
    rw [if_neg (by decide)]
    refine wpAny_bind (wpAny_field (kk _ _ hs) hds (x := .int k u) rfl (wpAny_bind (wpAny_listPart (.int k u) ?_)))
    exact wpAny_bind (wpAny_field (kk _ _ hs) hds (x := .none) rfl (wpAny_bind (wpAny_listPart .none (wpAny_pure z))))
  have hL : Looks (model prog w) hp (Builtin.List.listItems (.ref q)) xs.toArray := by
    intro A Q E s kk z
    unfold Builtin.List.listItems
    exact wpAny_bind (wpAny_seqItems (kk _ _ hx) rfl (wpAny_pure z))
  have hR : Looks (model prog w) hp (sliceIndices (rawPart (some k)) (rawPart none) (rawPart none) xs.toArray.size) (min k xs.length, (xs.length : Int), 1) := by
    have e : sliceBounds (some k) none none xs.toArray.size = (min k xs.length, (xs.length : Int), 1) := by
      unfold sliceBounds
      simp only [Option.getD_none, List.size_toArray, show (1 : Int) > 0 from by decide, if_true, if_neg (show ¬ k < 0 from by lia)]
      congr 1
      lia
    rw [← e]
    exact .of_pure (sliceIndices_raw (some k) none none xs.toArray.size (by simp))
  have hT : Builtin.List.listTooLong (xs.toArray.size + (#[] : Array Value).size) = false := by
    unfold Builtin.List.listTooLong
    simp [sizeLine_eq]
    lia
  have hf : (xs.toArray.extract 0 (min k xs.length).toNat ++ #[] ++ xs.toArray.extract (max (min k xs.length) xs.length).toNat xs.toArray.size) = (xs.take k.toNat).toArray := by
    apply Array.ext'
    simp
    rw [show (max (min k (xs.length : Int)) xs.length).toNat = xs.length from by lia]
    simp
    rw [show (min k (xs.length : Int)).toNat = min k.toNat xs.length from by lia]
    try lia
  have hA : ∀ e, Looks (model prog w) hp (Builtin.List.listAllItems (.ref l) e) #[] := by
    intro e A Q E s kk z
    unfold Builtin.List.listAllItems
    refine wpAny_bind (wpAny_typeOf (T := "list") ⟨_, kk _ _ hl, rfl⟩ ?_)
    rw [if_pos (by decide)]
    unfold Builtin.List.listItems
    exact wpAny_bind (wpAny_seqItems (kk _ _ hl) rfl (wpAny_pure z))
  have hA := hA "must assign iterable to extended slice"
  have hlt : (xs.take k.toNat).length ≤ 1000 := by simp; lia
  have hS : Builtin.List.listSameRef (.ref q) (.ref l) = false := by simp [Builtin.List.listSameRef, hlq]
  repeat lk
  rw [if_neg (show ¬ (Builtin.List.listSameRef (.ref q) (.ref l) = true) from by rw [hS]; decide)]
  repeat lk
  rw [if_neg (show ¬ (Builtin.List.listTooLong (xs.toArray.size + (#[] : Array Value).size) = true) from by rw [hT]; decide)]
  repeat (first | with_reducible refine updAcc hx hf (by lia) hlt ?_; intro h' n' k1 k2 | with_reducible refine wpAny_letGo ?_ | lk)
  exact h _ _ k1 k2
end
section
open PySem PySem.W PyProof.Rows PySem.Spec PySem.Calls Builtin
set_option maxHeartbeats 1000000
variable {σ : Bool} {prog : Program} {w : World} {g h h' : Heap} {L a : Addr} {m m' : List (Str × Value)} {own own' : List (Addr × Sh)} {s₀ s s' : Shared} {sh sh' : Sh}
variable {A : Around} {E : Value → Shared → Prop} {M : Model} {env : Env} {x y : Str} {v : Value}

theorem callW0 {b q : Addr} {id : String} {pos : Pos} {Q : Value → Shared → Prop} (hb : s.heap.get? b = some (wrapObj id q)) (h : wpAny M A (call (.ref b) []) Q E s) : wpAny M A (callWith pos (.ref b) [] (backTo pos (starEach [] env)) []) Q E s := by
  unfold callWith
  have tail : ∀ {t : Sem Value}, wpAny M A t Q E s → wpAny M A (t >>= fun r => holding [r] point >>= fun _ => pure r) Q E s :=
    fun ht => wpAny_bind (wpAny_mono ht (fun r s₂ hr => wpAny_bind (wpAny_holding (wpAny_point (wpAny_pure hr)))) fun _ _ x => x)
  refine wpAny_bind (wpAny_holding (PyProof.Rows.evalArgs_none (wpAny_bind (wpAny_standAt ?_))))
  obtain ⟨hp, g, d, t, os⟩ := s
  dsimp only at hb
  have hk : Looks M hp (keeperOf (.ref b)) .machine := by
    refine (Looks.ld (part := none) hb).andThen ?_
    dsimp only
    rw [if_pos (by decide), if_pos (by decide)]
    exact .now
  refine wpAny_bind (hk.at ?_)
  show wpAny M A (call (.ref b) [] >>= fun r => holding [r] point >>= fun _ => pure r) Q E _
  exact tail h
theorem count_A {q dx : Addr} {xs : List Value} {n : Nat} {Q : Value → Shared → Prop} (PR : Pr prog) (B : Bs w s.heap) (T : Tp s.heap) (hd : A.depth + 20 < recursionLimit) (hx : s.heap.get? q = some (accObj dx xs n)) (h203 : 203 ≤ q)
    (hret : ∀ t s', Gr true s s' → Q (.int xs.length t) s') : wpAny (model prog w) A (call (.ref 98) [.ref q]) Q E s := by
  refine wpAny_call ?_
  refine enterAt (own' := []) (binds := [("self", .ref q)]) B (by lia) rfl rfl (.of_eq rfl) rfl (by simp) (by with_unfolding_all decide) rfl rfl rfl (by simp) (by simp) ?_
  intro L z C
  simp only [List.map_nil] at C
  have hx2 : z.heap.get? q = some (accObj dx xs n) := C.keep _ _ rfl hx
  refine ks_wpAt_execs_cons (ks_wpAt_Return_some (ks_wpAt_MethodCall (supBase PR B C hx2 rfl rfl List.mem_cons_self rfl rfl (by decide +kernel) (by with_unfolding_all rfl) (by with_unfolding_all rfl) (by with_unfolding_all rfl) rfl ?_)))
  intro so z' C2 k
  have B2 := C2.bs B
  have T2 := C2.tp T
  have h1 : z'.heap.get? so = some (ks_superObj 101 q 101) := C2.raw List.mem_cons_self
  have h2 := k _ _ hx2
  obtain ⟨hp, g', d, t, os⟩ := z'
  refine sup_len B2 T2 h1 h2 (by rintro rfl; exact absurd h203 (by decide)) ?_
  have C3 : Cx true prog w s.heap L _ ((hp.objs.size, .raw (wrapObj "list.__len__" q)) :: _) s ⟨hp.push (wrapObj "list.__len__" q), g', d, t + 1, os⟩ := C2.push (tk := t + 1) (Nat.le_succ _) (Heap.get?_push_size _ rfl)
  refine callW0 (C3.raw List.mem_cons_self) (wrap_len (C3.bs B) (C3.raw List.mem_cons_self) (Heap.get?_push_of_some _ h2) fun t => ?_)
  exact hret _ _ (C3.tokens (Nat.le_succ _)).out

theorem Bs.hid (B : Bs w h) {as : List Addr} (k : ∀ a ∈ as, 203 ≤ a) : Bs w (hideAll h as) :=
  B.low2 fun b _ hb _ e => hideAll_get _ e fun hm => absurd (k b hm) (Nat.not_le.mpr hb)
theorem Tp.hid (T : Tp h) {as : List Addr} (k : ∀ a ∈ as, 203 ≤ a) : Tp (hideAll h as) :=
  T.at fun b _ hb e => hideAll_get _ e fun hm => absurd (k b hm) (Nat.not_le.mpr hb)
theorem bind_38 {P : Params} : ∃ oc od sl n, (KK P).lookup 30 = some ⟨oc, od, .seq #[.int 0 n] 0, sl⟩ := ⟨_, _, _, _, rfl⟩

theorem init_A {q dx : Addr} {n : Nat} {t : Tok} {k : Int} {R : Result → Shared → Prop} (PR : Pr prog) (B : Bs w s.heap) (T : Tp s.heap) (hd : A.depth + 20 < recursionLimit) (hx : s.heap.get? q = some (accObj dx [] n)) (hdx : s.heap.get? dx = some emptyDict) (h203 : 203 ≤ q) (h203' : 203 ≤ dx) (hne : q ≠ dx)
    (hret : ∀ t' n' n'' L m own s', Cx true prog w (hideAll s.heap [q, dx]) L m own s s' → [(q, Sh.raw (accObj dx [] n')), (dx, Sh.raw (dObj w t' (.int k t) n''))].Sublist own → R (.ok (.ret .none)) s') :
    codeAny (model prog w) A (.call (.ref 38) ⟨[.ref q, .int k t], []⟩) R s := by
  have hall : ∀ a ∈ [q, dx], 203 ≤ a := by intro a ha; simp at ha; rcases ha with rfl | rfl <;> assumption
  refine enterAt (own' := [(q, .raw (accObj dx [] n)), (dx, .raw emptyDict)]) (binds := [("self", .ref q), ("initial_size", .int k t)]) B (by lia) rfl rfl (binds_K B.k rfl rfl rfl rfl rfl) rfl (by show ([Str.ofString "self", Str.ofString "initial_size"] : List Str).Nodup; decide +kernel) (by with_unfolding_all decide) rfl rfl rfl ?_ (by simp [hne]) ?_
  · intro p hp
    rcases List.mem_cons.mp hp with rfl | hp
    · exact ⟨hx, h203⟩
    · rw [List.mem_singleton] at hp; subst hp; exact ⟨hdx, h203'⟩
  intro L z C
  simp only [List.map_cons, List.map_nil] at C
  have B' := B.hid hall
  have T' := T.hid hall
  refine ks_wpAt_execs_cons (_root_.PySem.wpAt_of_wpAny (plainObj_wpAny_Assign_Attribute ?_))
  refine ld C (by wtm_at "mm") (ld C (by wtm_at "mm") ?_)
  refine acc_set (C.bs B') (C.raw List.mem_cons_self) (C.raw (by wtm_at "mm")) fun h' t' n' k1 k2 => ?_
  have C := C.next (tk := z.toks + 2) (.tail .head) (by lia) k2 (sh' := .raw (dObj w t' (.int k t) n')) k1
  refine ks_wpAt_execs_cons (ks_wpAt_Expr_any (ks_wpAt_MethodCall (supBase PR B' C (C.raw List.mem_cons_self) rfl rfl List.mem_cons_self rfl rfl (by decide +kernel) (by with_unfolding_all rfl) (by with_unfolding_all rfl) (by with_unfolding_all rfl) rfl ?_)))
  intro so z' C2 _
  have B2 := C2.bs B'
  have T2 := C2.tp T'
  have h1 : z'.heap.get? so = some (ks_superObj 101 q 101) := C2.raw List.mem_cons_self
  have h2 : z'.heap.get? q = some (accObj dx [] n) := C2.raw (by wtm_at "mm")
  obtain ⟨hp, g', d, tk, os⟩ := z'
  refine sup_init B2 T2 h1 h2 (by rintro rfl; exact absurd h203 (by decide)) ?_
  have C3 := C2.push (tk := tk + 1) (o := wrapObj "list.__init__" q) (sh := .raw (wrapObj "list.__init__" q)) (Nat.le_succ _) (Heap.get?_push_size _ rfl)
  refine callW0 (C3.raw List.mem_cons_self) (wrap_init (C3.bs B') (C3.raw List.mem_cons_self) (Heap.get?_push_of_some _ h2) fun h'' n'' k1 k2 => ?_)
  have C4 := C3.next (h' := h'') (tk := tk + 1) (.tail (.tail .head)) (Nat.le_refl _) k2 (sh' := .raw (accObj dx [] n'')) k1
  dsimp only
  exact _root_.PySem.wpAt_of_wpAny (wpAny_execs_nil (hret _ _ _ _ _ _ _ C4 (by wtm_at "ms")))
end
section
open PySem PySem.W PyProof.Rows PySem.Spec PySem.Calls Builtin
set_option maxHeartbeats 1000000
variable {σ : Bool} {prog : Program} {w : World} {g h h' : Heap} {L a : Addr} {m m' : List (Str × Value)} {own own' : List (Addr × Sh)} {s₀ s s' : Shared} {sh sh' : Sh}
variable {A : Around} {E : Value → Shared → Prop} {M : Model} {env : Env} {x y : Str} {v : Value}

theorem make_A {t : Tok} {k : Int} {Q : Value → Shared → Prop} (PR : Pr prog) (B : Bs w g) (T : Tp g) (hd : A.depth + 25 < recursionLimit) (C : Cx true prog w g L m own s₀ s)
    (hret : ∀ q dx t' n' n'' s', Cx true prog w g L m ((q, .raw (accObj dx [] n')) :: (dx, .raw (dObj w t' (.int k t) n'')) :: own) s₀ s' → Q (.ref q) s') :
    wpAny (model prog w) A (call (.ref 101) [.int k t]) Q E s := by
  have B2 := C.bs B
  obtain ⟨h, g', d, tk, os⟩ := s
  refine wpAny_call (make_acc B2 ?_)
  have C1 := C.push (tk := tk) (o := emptyDict) (sh := .raw emptyDict) (Nat.le_refl _) (Heap.get?_push_size _ rfl)
  have C2 := C1.push (tk := tk) (o := accObj h.objs.size [] 0) (sh := .raw (accObj h.objs.size [] 0)) (Nat.le_refl _) (Heap.get?_push_size _ rfl)
  dsimp only at C2
  rw [Heap.size_push] at C2
  have n1 := C2.nd
  simp only [List.map_cons, List.nodup_cons] at n1
  refine init_A (s := ⟨(h.push emptyDict).push (accObj h.objs.size [] 0), g', d, tk, os⟩) PR (C2.bs B) (C2.tp T) (by rw [depth_under_make]; lia) (C2.raw List.mem_cons_self) (C2.raw (by wtm_at "mm")) (C2.fresh List.mem_cons_self).2 (C2.fresh (List.mem_cons_of_mem _ List.mem_cons_self)).2 (Nat.succ_ne_self _) ?_
  intro t' n' n'' L' m' own' s' D hs
  refine ⟨rfl, ?_⟩
  have := Cx.back (own₀ := [(h.objs.size + 1, .raw (accObj h.objs.size [] 0)), (h.objs.size, .raw emptyDict)]) (rest := own) C2 D hs rfl
  exact hret _ _ t' n' n'' _ this

theorem methA {o : Expr} {name : Str} {apos pos : Pos} {args : List Expr} {Q : Value → Shared → Prop}
    (h : wpAny (model prog w) A (eval o env) (fun ov s₁ => ∀ pl, wpAny (model prog w) A (getMethod ov name pl) (fun fx s₂ => wpAny (model prog w) A (callWith pos fx.1 fx.2 (backTo pos (starEach args env)) []) Q E s₂) E s₁) E s)
    (hbase : attributeBase o name env (eval o env) = eval o env := by with_unfolding_all rfl)
    (hfew : ((backTo pos (starEach args env)).all (fun x => !x.1) && (backToKw pos (keywordEach [] env)).all (fun x => x.1.isSome)
      && decide (args.length + ([] : List Keyword).length + (if ([] : List Keyword).isEmpty then 0 else 1) < 30)) = true := by with_unfolding_all rfl)
    (hline : (apos.endLine == pos.line) = true := by with_unfolding_all rfl) : wpAny (model prog w) A (eval (.Call (.Attribute o name apos) args [] pos) env) Q E s := by
  rw [arm_eval_Call, hbase]
  refine wpAny_bind (wpAny_mono h (fun ov s₁ h₁ => ?_) fun _ _ e => e)
  refine wpAny_bind (wpAny_standAt ?_)
  have hform : methodCallForm (args.length + ([] : List Keyword).length) (backTo pos (starEach args env)) (backToKw pos (keywordEach [] env)) = true := hfew
  have hpos : methodCallPos true o env apos pos = pure pos := by unfold methodCallPos; simp [hline]
  unfold methodCall
  rw [hform]
  refine wpAny_bind (wpAny_holding (wpAny_mono (h₁ _) (fun fx s₂ h₂ => ?_) fun _ _ e => e))
  exact wpAny_bind (wpAny_of_eq hpos h₂)
theorem eTup2 {e f : Expr} {k : Nat} {pos : Pos} {Q : Value → Shared → Prop}
    (h : wpAny M A (eval e env) (fun v s₁ => wpAny M A (eval f env) (fun v₂ s₂ => ∃ m own, Cx σ prog w g L m own s₀ s₂ ∧ ∀ a s', Cx σ prog w g L m ((a, .tup [v, v₂]) :: own) s₀ s' → Q (.ref a) s') E s₁) E s)
    (he : starEach [e, f] env = [(false, eval e env), (false, eval f env)] := by with_unfolding_all rfl) (he' : starEach [f] env = [(false, eval f env)] := by with_unfolding_all rfl) : wpAny M A (eval (.Tuple [e, f] k pos) env) Q E s := by
  rw [arm_eval_Tuple]
  refine wpAny_bind (wpAny_standAt (wpAny_bind ?_))
  refine sm (wpAny_mono h (fun v s₁ h₁ => sm (wpAny_mono h₁ (fun v₂ s₂ h₂ => spliced_none ?_) fun _ _ e => e) he') fun _ _ e => e) (he.trans (by rw [he']))
  obtain ⟨m, own, C, hq⟩ := h₂
  exact wpAny_newTuple (hq _ _ (C.push (tk := s₂.toks) (Nat.le_refl _) ⟨0, Heap.get?_push_size _ rfl⟩))

theorem Cx.backN {own₀ own₁ own₂ rest : List (Addr × Sh)} {L' : Addr} {s₁ : Shared} (C : Cx true prog w g L m (own₀ ++ rest) s₀ s) (D : Cx true prog w (hideAll s.heap (own₀.map (·.1))) L' m' own' s s₁) (hs : (own₁ ++ own₂).Sublist own') (hk : own₁.map (·.1) = own₀.map (·.1)) :
    Cx true prog w g L m (own₂ ++ (own₁ ++ rest)) s₀ s₁ := by
  have C1 := C.back D ((List.sublist_append_left ..).trans hs) hk
  have nd' := (hs.map (·.1)).nodup D.nd
  rw [List.map_append] at nd'
  have nd2 := List.nodup_append.mp nd'
  have new : ∀ p ∈ own₂, s.heap.get? p.1 = none := fun p hp => by
    have h1 := (D.its p (hs.subset (List.mem_append_right _ hp))).2.1.1
    cases q : s.heap.get? p.1 with
    | none => rfl
    | some o =>
      rw [hideAll_get _ q (fun hm => by rw [← hk] at hm; exact nd2.2.2 _ hm _ (List.mem_map_of_mem hp) rfl)] at h1
      cases h1
  refine ⟨C1.ns, C1.keep, C1.low, C1.above, fun p hp => ?_, ?_, C1.uq, C1.os, C1.drawn, C1.gens, C1.toks⟩
  · rcases List.mem_append.mp hp with hp | hp
    · have h1 := D.its p (hs.subset (List.mem_append_right _ hp))
      have h2 := new p hp
      refine ⟨h1.1, ⟨?_, h1.2.1.2⟩, ?_⟩
      · cases q : g.get? p.1 with
        | none => rfl
        | some o => rw [C.keep _ _ rfl q] at h2; cases h2
      · rcases C.ns with e | ⟨_, ⟨o, _, _, ho, _⟩, _⟩
        · exact .inl e
        · refine .inr fun e => ?_
          rw [e, ho] at h2; cases h2
    · exact C1.its p hp
  · rw [List.map_append]
    refine List.nodup_append.mpr ⟨nd2.2.1, C1.nd, fun a ha b hb e => ?_⟩
    subst e
    obtain ⟨p, hp, rfl⟩ := List.mem_map.mp ha
    have h2 := new p hp
    rw [List.map_append, hk, ← List.map_append] at hb
    obtain ⟨r, hr, e⟩ := List.mem_map.mp hb
    obtain ⟨o, ho⟩ := (C.its r hr).1.has
    rw [← e, ho] at h2; cases h2
theorem look_d {t : Tok} {n : Nat} {name : Str} (hn : (("_initial_size" : Str) == name) = false) : lookIn name (dObj w t v n) = some none := by
  unfold lookIn
  simp [Value.isStr, hn, DictEntry.refKey]
theorem push_A {q dx : Addr} {xs : List Value} {n n' : Nat} {tk : Tok} {v a b : Value} {Q : Value → Shared → Prop} (B : Bs w g) (hd : A.depth + 20 < recursionLimit) (C : Cx true prog w g L m ((q, .raw (accObj dx xs n)) :: (dx, .raw (dObj w tk v n')) :: own) s₀ s) (hz : xs.length ≤ 800)
    (hret : ∀ T n₁ s', Cx true prog w g L m ((q, .raw (accObj dx (xs ++ [Value.ref T]) n₁)) :: (T, .tup [a, b]) :: (dx, .raw (dObj w tk v n')) :: own) s₀ s' → Q .none s') :
    wpAny (model prog w) A (call (.ref 45) [.ref q, a, b]) Q E s := by
  have hq := C.is (a := q) List.mem_cons_self
  have hqf := C.fresh (a := q) List.mem_cons_self
  refine wpAny_call (enterAt (own' := [(q, .raw (accObj dx xs n))]) (binds := [("self", .ref q), ("fws", a), ("string", b)]) (C.bs B) (by lia) rfl rfl (.of_eq rfl) rfl (by show ([Str.ofString "self", Str.ofString "fws", Str.ofString "string"] : List Str).Nodup; decide +kernel) (by with_unfolding_all decide) rfl rfl rfl ?_ (by simp) ?_)
  · intro p hp; rw [List.mem_singleton] at hp; subst hp; exact ⟨hq, hqf.2⟩
  intro L' z D
  simp only [List.map_cons, List.map_nil] at D
  have B' := (C.bs B).hid (as := [q]) (by intro a ha; rw [List.mem_singleton] at ha; subst ha; exact hqf.2)
  refine _root_.PySem.wpAt_of_wpAny ?_
  have hdx : z.heap.get? dx = some (dObj w tk v n') := D.keep _ _ rfl (hideAll_get _ (C.raw (List.mem_cons_of_mem _ List.mem_cons_self)) (by
    have := C.nd; simp only [List.map_cons, List.nodup_cons] at this
    intro h; rw [List.mem_singleton] at h; subst h; exact this.1 List.mem_cons_self))
  wtm_at "w"
  refine methA (ld D (by wtm_at "mm") ?_)
  intro pl
  refine method_A (D.bs B') (D.raw List.mem_cons_self) hdx find_append ty_app (by decide) (look_d (by decide +kernel)) ?_
  refine m1 (eTup2 (ld D (by wtm_at "mm") (ld D (by wtm_at "mm") ⟨_, _, D, fun T z D => ?_⟩)))
  refine append_A (v := .ref T) (D.bs B') (D.raw (by wtm_at "mm")) (by lia) fun h' n₁ k1 k2 => ?_
  have D := D.next (tk := z.toks) (.tail .head) (Nat.le_refl _) k2 (sh' := .raw (accObj dx (xs ++ [Value.ref T]) n₁)) k1
  have := C.backN (own₀ := [(q, .raw (accObj dx xs n))]) (own₁ := [(q, .raw (accObj dx (xs ++ [Value.ref T]) n₁))]) (own₂ := [(T, .tup [a, b])]) (D.swap) (List.Sublist.refl _) rfl
  exact ⟨fun _ h => (nomatch h), wpAny_execs_nil (hret T n₁ _ this.swap)⟩

theorem subT_A {q dx : Addr} {xs : List Value} {n : Nat} {value slice : Expr} {i : Value} {Q : Value → Shared → Prop} (B : Bs w s.heap) (hx : s.heap.get? q = some (accObj dx xs n)) (h : wpAny (model prog w) A (getItem (.ref q) i) Q E s)
    (hs : subscripted slice false (.ref q) i = operate [i, .ref q] (getItem (.ref q) i) := by with_unfolding_all rfl) : wpAny (model prog w) A (subscriptTail value slice (.ref q) i) Q E s := by
  have L0 : Looks (model prog w) s.heap (typeOf (.ref q)) (.ref 101) := (Looks.ld hx).andThen .now
  unfold subscriptTail getitemInPython
  refine wpAny_bind (wpAny_bind (wpAny_bind (L0.here ((looks_findIn B.k find_getitem).here ?_))))
  dsimp only
  refine wpAny_pure ?_
  rw [hs]
  refine wpAny_bind (wpAny_operating (wpAny_mono h (fun r s₃ h₃ => ?_) fun _ _ x => x))
  exact wpAny_bind (wpAny_letTemporaryGo (wpAny_pure h₃))

noncomputable def fd53 (P : Params) : FuncData := match (KK P).lookup 53 with
  | some ⟨_, _, .func fd, _⟩ => fd
  | _ => default
theorem popC {q dx : Addr} {xs : List Value} {n n' : Nat} {tk : Tok} {v : Value} {k : Int} {u : Tok} {as : List Value} {Q : Value → Shared → Prop} (B : Bs w g) (hd : A.depth + 20 < recursionLimit) (C0 : Cx true prog w g L m ((q, .raw (accObj dx xs n)) :: (dx, .raw (dObj w tk v n')) :: own) s₀ s) (hz : xs.length ≤ 800) (hk : 0 ≤ k)
    (hbind : BindsTo s (fd53 w.params) ⟨as, []⟩ [("self", .ref q), ("i", .int k u)])
    (hret : ∀ l n₁ s', Cx true prog w g L m ((l, .list (slicePick xs.toArray (some k) none none).toList) :: (q, .raw (accObj dx (xs.take k.toNat) n₁)) :: (dx, .raw (dObj w tk v n')) :: own) s₀ s' → Q (.ref l) s') :
    wpAny (model prog w) A (call (.ref 53) as) Q E s := by
  have hq := C0.is (a := q) List.mem_cons_self
  have hqf := C0.fresh (a := q) List.mem_cons_self
  refine wpAny_call (enterAt (own' := [(q, .raw (accObj dx xs n))]) (binds := [("self", .ref q), ("i", .int k u)]) (C0.bs B) (by lia) rfl rfl hbind rfl (by show ([Str.ofString "self", Str.ofString "i"] : List Str).Nodup; decide +kernel) (by with_unfolding_all decide) rfl rfl rfl ?_ (by simp) ?_)
  · intro p hp; rw [List.mem_singleton] at hp; subst hp; exact ⟨hq, hqf.2⟩
  intro L' z C
  simp only [List.map_cons, List.map_nil] at C
  have B' := (C0.bs B).hid (as := [q]) (by intro a ha; rw [List.mem_singleton] at ha; subst ha; exact hqf.2)
  refine _root_.PySem.wpAt_of_wpAny ?_
  repeat wtm_at "w"
  refine subT_A (C.bs B') (C.raw (by wtm_at "mm")) (getItem_A (C.bs B') (C.raw (by wtm_at "mm")) (C.is List.mem_cons_self) (by lia) ?_)
  have C := C.push (tk := z.toks) (sh := .list (slicePick xs.toArray (some k) none none).toList) (o := { cls := .type "list", data := .seq (slicePick xs.toArray (some k) none none) }) (Nat.le_refl _) ⟨0, Heap.get?_push_size _ rfl⟩
  generalize z.heap.objs.size = r at C ⊢
  refine st C (by wtm_at "mp") fun z C => ?_
  repeat wtm_at "w"
  obtain ⟨nl, hl⟩ := C.is (sh := .list []) (by wtm_at "mm")
  have nd := C.nd
  simp only [List.map_cons, List.map_nil, List.nodup_cons, List.mem_cons, List.not_mem_nil, not_or, or_false] at nd
  refine setItem_A (C.bs B') (C.raw (by wtm_at "mm")) (C.is List.mem_cons_self) (by lia) hl (fun e => nd.2.1.2.2 e.symm) hk fun h' n₁ k1 k2 => ?_
  have C := C.next (tk := z.toks) (.tail (.tail (.tail (.tail .head)))) (Nat.le_refl _) k2 (sh' := .raw (accObj dx (xs.take k.toNat) n₁)) k1
  repeat wtm_at "w"
  have C := (C.drop (own' := [(r, .list (slicePick xs.toArray (some k) none none).toList), (q, .raw (accObj dx (xs.take k.toNat) n₁))]) (by wtm_at "ms")).swap
  have := C0.backN (own₀ := [(q, .raw (accObj dx xs n))]) (own₁ := [(q, .raw (accObj dx (xs.take k.toNat) n₁))]) (own₂ := [(r, .list (slicePick xs.toArray (some k) none none).toList)]) C (List.Sublist.refl _) rfl
  exact hret r n₁ _ this
theorem pop1_A {q dx : Addr} {xs : List Value} {n n' : Nat} {tk : Tok} {v : Value} {k : Int} {u : Tok} {Q : Value → Shared → Prop} (B : Bs w g) (hd : A.depth + 20 < recursionLimit) (C0 : Cx true prog w g L m ((q, .raw (accObj dx xs n)) :: (dx, .raw (dObj w tk v n')) :: own) s₀ s) (hz : xs.length ≤ 800) (hk : 0 ≤ k)
    (hret : ∀ l n₁ s', Cx true prog w g L m ((l, .list (slicePick xs.toArray (some k) none none).toList) :: (q, .raw (accObj dx (xs.take k.toNat) n₁)) :: (dx, .raw (dObj w tk v n')) :: own) s₀ s' → Q (.ref l) s') :
    wpAny (model prog w) A (call (.ref 53) [.ref q, .int k u]) Q E s :=
  popC B hd C0 hz hk (binds_K (C0.bs B).k rfl rfl rfl rfl rfl) hret
theorem pop0_A {q dx : Addr} {xs : List Value} {n n' : Nat} {tk : Tok} {v : Value} {Q : Value → Shared → Prop} (B : Bs w g) (hd : A.depth + 20 < recursionLimit) (C0 : Cx true prog w g L m ((q, .raw (accObj dx xs n)) :: (dx, .raw (dObj w tk v n')) :: own) s₀ s) (hz : xs.length ≤ 800)
    (hret : ∀ l n₁ s', Cx true prog w g L m ((l, .list (slicePick xs.toArray (some 0) none none).toList) :: (q, .raw (accObj dx [] n₁)) :: (dx, .raw (dObj w tk v n')) :: own) s₀ s' → Q (.ref l) s') :
    wpAny (model prog w) A (call (.ref 53) [.ref q]) Q E s :=
  popC B hd C0 hz (Int.le_refl 0) (binds_K (C0.bs B).k rfl rfl rfl rfl rfl) hret
end
section
open PySem PySem.W PyProof.Rows PySem.Spec PySem.Calls Builtin
set_option maxHeartbeats 1000000
variable {σ : Bool} {prog : Program} {w : World} {g h h' : Heap} {L a : Addr} {m m' : List (Str × Value)} {own own' : List (Addr × Sh)} {s₀ s s' : Shared} {sh sh' : Sh}
variable {A : Around} {E : Value → Shared → Prop} {M : Model} {env : Env} {x y : Str} {v : Value}

theorem ns_bi {P : Params} : nsIn (KK P) mainGlobals "__builtins__" = some (some (.ref 4)) := by kernel_rfl
structure Tq (h : Heap) : Prop extends Tp h where
  bi : ∃ sl, h.get? 4 = some ⟨.type "module", some builtinsNs, .plain, sl⟩
theorem Tq.at (T : Tq h) (k : ∀ b o, b < 203 → h.get? b = some o → h'.get? b = some o) : Tq h' := ⟨T.toTp.at k, let ⟨sl, e⟩ := T.bi; ⟨sl, k _ _ (by decide) e⟩⟩
theorem Cx.tq (C : Cx true prog w g L m own s₀ s) (T : Tq g) : Tq s.heap := T.at fun b o _ e => C.keep b o rfl e
theorem Tq.hid (T : Tq h) {as : List Addr} (k : ∀ a ∈ as, 203 ≤ a) : Tq (hideAll h as) :=
  T.at fun b _ hb e => hideAll_get _ e fun hm => absurd (k b hm) (Nat.not_le.mpr hb)
theorem builtins_A {Q : Addr → Shared → Prop} {bi : Addr} (B : Bs w s.heap) (T : Tq s.heap) (h : Q builtinsNs s) : wpAny M A (builtinsFor mainGlobals bi) Q E s := by
  obtain ⟨mg, G⟩ := B.gl
  obtain ⟨sl, e⟩ := T.bi
  exact wpAny_builtinsFor G (mg_of B.k G ns_bi) (by decide) e rfl rfl rfl h
theorem kind_it : builtinKind "list.__iter__" = some .slot := by decide +kernel
theorem split_it : splitId "list.__iter__" = some ("list", "__iter__") := by decide +kernel
theorem iter_A {q dx : Addr} {xs : List Value} {n : Nat} {Q : Value → Shared → Prop} (B : Bs w s.heap) (hx : s.heap.get? q = some (accObj dx xs n))
    (h : Q (.ref s.heap.objs.size) { s with heap := s.heap.push { cls := .type "list_iterator", data := .fields #[.ref q, .int 0 0] } }) : wpAny (model prog w) A (pyIter (.ref q)) Q E s := by
  have hqi : Looks (model prog w) s.heap (isInstance (.ref q) (.type "list")) true := ((Looks.ld hx).andThen .now).andThen (sub_list_A (prog := prog) B)
  have L0 : Looks (model prog w) s.heap (typeOf (.ref q)) (.ref 101) := (Looks.ld hx).andThen .now
  have L1 := looks_findIn (M := model prog w) B.k (@find_iter w.params)
  have L3 : Looks (model prog w) s.heap (bindSpecial (.builtin "list.__iter__") (.ref q)) (.builtin "list.__iter__", [.ref q]) := .of_pure (slot_list_iter.bind _)
  obtain ⟨hp, g, d, tk, os⟩ := s
  dsimp only at hx hqi L0 L1 L3
  have L6 : Looks (model prog w) hp (bindSpecialIfBound? (.ref q) "__iter__") (some (.builtin "list.__iter__", [.ref q])) := by
    intro A Q E s k z
    unfold bindSpecialIfBound?
    refine wpAny_bind (wpAny_bind (L0 A _ E s k (L1 A _ E s k ?_)))
    refine wpAny_bind (wpAny_askSetting (wpAny_ite ?_))
    split
    · exact wpAny_bind (L3 A _ E s k (wpAny_pure z))
    · exact wpAny_tryCatch (wpAny_bind (L3 A _ _ s k (wpAny_pure z)))
  unfold pyIter
  repeat (first | with_reducible refine wpAny_call ?_ | lk)
  refine codeAny_call_builtin_code (Code.quiet_builtin _ (by decide +kernel)) ?_
  refine @check_slot (model prog w) _ _ ⟨hp, g, d, tk, os⟩ "list.__iter__" "list" "__iter__" (.ref q) [] [] _ kind_it split_it hqi (args_list_iter _) ?_
  refine codeAny_builtin entry_list_iter ?_
  unfold Builtin.«list.__iter__»
  repeat lk
  refine nd_load (o := { cls := .type "list_iterator", data := .fields #[.ref q, .int 0 0] }) (Heap.get?_push_size _ rfl) ?_
  refine wpAny_pure (wpAny_pure ((Looks.of_pure slot_listiter_next.lookup).at ?_))
  repeat lk
  exact h

theorem nextA_item {it q dx : Addr} {i n : Nat} {xs : List Value} {x : Value} {Q : Option Value → Shared → Prop} (hit : s.heap.IsListIter it q i)
    (hol : s.heap.get? q = some (accObj dx xs n)) (hx : xs.toArray[i]? = some x)
    (hQ : ∀ h', h'.IsListIter it q (i + 1) → Heap.SameBut it s.heap h' → Q (some x) { s with heap := h' }) :
    wpAny (model prog w) A (pyNext (.ref it)) Q E s := by
  obtain ⟨o, ho, hc, hd⟩ := id hit
  unfold pyNext
  refine wpAny_bind (wpAny_attempt (wpAny_callSpecial?_slot (name := Str.ofString "__next__") hit.typeIs slot_listiter_next
    (wpAny_call_entry slot_listiter_next hit.typeIs entry_listiter_next ?_ (args_listiter_next _))))
  show wpAny _ _ (field (.ref it) 0 >>= _) _ _ s
  refine wpAny_bind (wpAny_field ho hd (x := .ref q) rfl ?_)
  show wpAny _ _ (if (Value.ref q == Value.none) = true then _ else _) _ _ s
  rw [if_neg (show ¬ ((Value.ref q == Value.none) = true) from Bool.false_ne_true)]
  show wpAny _ _ (field (.ref it) 1 >>= _) _ _ s
  refine wpAny_bind (wpAny_field ho hd (x := .int i 0) rfl ?_)
  show wpAny _ _ (seqItems? (.ref q) >>= _) _ _ s
  refine wpAny_bind (wpAny_seqItems hol rfl ?_)
  simp only [Int.toNat_natCast, hx]
  refine wpAny_bind (wpAny_setField ho hd (by simp) (wpAny_pure ⟨x, rfl, wpAny_pure (hQ _ ?_ (Heap.SameBut.update ..))⟩))
  exact ⟨_, Heap.get?_update_self _ ho (Obj.isFreed_of_fields (Obj.data_mapFields hd _)), (Obj.cls_mapFields ..).trans hc, by
    rw [Obj.data_mapFields hd]; simp [rawInt]⟩
theorem nextA_end {it q dx : Addr} {i n : Nat} {xs : List Value} {Q : Option Value → Shared → Prop} (hh : A.handled = none)
    (hit : s.heap.IsListIter it q i) (hol : s.heap.get? q = some (accObj dx xs n)) (hx : xs.toArray[i]? = none)
    (hQ : ∀ h', Heap.ExtBut it s.heap h' → Q none { s with heap := h' }) : wpAny (model prog w) A (pyNext (.ref it)) Q E s := by
  obtain ⟨o, ho, hc, hd⟩ := id hit
  unfold pyNext
  refine wpAny_bind (wpAny_attempt (wpAny_callSpecial?_slot (name := Str.ofString "__next__") hit.typeIs slot_listiter_next
    (wpAny_call_entry slot_listiter_next hit.typeIs entry_listiter_next ?_ (args_listiter_next _))))
  show wpAny _ _ (field (.ref it) 0 >>= _) _ _ s
  refine wpAny_bind (wpAny_field ho hd (x := .ref q) rfl ?_)
  show wpAny _ _ (if (Value.ref q == Value.none) = true then _ else _) _ _ s
  rw [if_neg (show ¬ ((Value.ref q == Value.none) = true) from Bool.false_ne_true)]
  show wpAny _ _ (field (.ref it) 1 >>= _) _ _ s
  refine wpAny_bind (wpAny_field ho hd (x := .int i 0) rfl ?_)
  show wpAny _ _ (seqItems? (.ref q) >>= _) _ _ s
  refine wpAny_bind (wpAny_seqItems hol rfl ?_)
  simp only [Int.toNat_natCast, hx]
  refine wpAny_bind (wpAny_rule (wpAny_bind (wpAny_setField ho hd (by simp) ?_)))
  show wpAny _ _ (newExc (.type "StopIteration") [] >>= _) _ _ _
  refine wpAny_bind ?_
  simp only [newExc, newTuple]
  refine wpAny_bind (wpAny_newObj_type ?_ (by size_fits))
  refine wpAny_bind (m := firstArgMember _ _) (wpAny_of_eq (a := Value.none) (by first | rfl | (simp only [firstArgMember]; rfl)) ?_)
  refine wpAny_newObj_type ?_ (by size_fits)
  simp only [raiseNew]
  refine wpAny_bind (wpAny_handled ?_)
  rw [show A.in1.handled = none from hh]
  refine wpAny_bind (wpAny_pure (wpAny_throw ?_))
  refine wpAny_bind (wpAny_isInstance (T := "StopIteration") (b := true) ⟨_, Heap.get?_push_size _ rfl, rfl⟩ isSubtype_stop ?_)
  exact wpAny_pure (hQ _ (((Heap.SameBut.update ..).extBut.push _).push _))
theorem WalksU_A (hh : A.handled = none) (I q dx : Addr) (n : Nat) (hne : q ≠ I) (xs : List Value) (Ts : Nat → Addr) (vals : Nat → Array Value)
    (hit : ∀ j, j < xs.length → xs.toArray[j]? = some (.ref (Ts j))) (hTI : ∀ j, j < xs.length → Ts j ≠ I) :
    WalksU prog w A I (I :: q :: (List.range xs.length).map Ts) [I] xs.length (fun j v => v = vals j)
      (fun j h => h.IsListIter I q j ∧ h.get? q = some (accObj dx xs n) ∧ ∀ k, k < xs.length → h.IsTuple (Ts k) (vals k))
      (fun j T h => (j < xs.length ∧ T = Ts j) ∧ h.IsListIter I q (j + 1) ∧ h.get? q = some (accObj dx xs n) ∧ ∀ k, k < xs.length → h.IsTuple (Ts k) (vals k)) where
  sub := fun b hb => by simp at hb; simp [hb]
  frame := fun _ _ _ st hk => ⟨st.1.at fun o e => hk I (by simp) o e, hk q (by simp) _ st.2.1,
    fun k hk' => (st.2.2 k hk').at fun o e => hk (Ts k) (List.mem_cons_of_mem _ (List.mem_cons_of_mem _ (List.mem_map.mpr ⟨k, List.mem_range.mpr hk', rfl⟩))) o e⟩
  item := fun i s Q E hi st hQ => by
    refine nextA_item st.1 st.2.1 (x := .ref (Ts i)) (hit i hi) fun h' hit' hs' => ?_
    have tup : ∀ k, k < xs.length → h'.IsTuple (Ts k) (vals k) := fun k hk' => (st.2.2 k hk').extBut hs'.extBut (hTI k hk')
    exact hQ (Ts i) (vals i) h' s.toks rfl (tup i hi) ⟨⟨hi, rfl⟩, hit', hs'.extBut _ _ hne st.2.1, tup⟩ fun b o hb e => hs'.extBut b o (fun h => hb (by simp [h])) e
  go := fun _ _ _ _ _ s Q _ hm hQ => wpAny_letOwnedTupleGo_listiter hm.2.1 (hQ s.heap hm.2 fun _ _ _ e => e)
  apart := fun j T _ hm hmem => by
    rcases List.mem_cons.mp hmem with e | e
    · exact hTI j hm.1.1 (hm.1.2 ▸ e)
    · cases e
  done := fun s Q E st hQ => nextA_end hh st.1 st.2.1 (by simp) fun h' he' => hQ h' s.toks fun b o hb e => he' b o (fun h => hb (by simp [h])) e
  self := fun _ _ _ _ st hQ => wpAny_pyIter_listiter st.1 hQ
end
section
open PySem PySem.W PyProof.Rows PySem.Spec PySem.Calls Builtin
set_option maxHeartbeats 1000000
variable {σ : Bool} {prog : Program} {w : World} {g h h' : Heap} {L a : Addr} {m m' : List (Str × Value)} {own own' : List (Addr × Sh)} {s₀ s s' : Shared} {sh sh' : Sh}
variable {A : Around} {E : Value → Shared → Prop} {M : Model} {env : Env} {x y : Str} {v : Value}

noncomputable def WalksS.late {I : Addr} {fp wr : List Addr} {G : Array GenState → Array GenState → Prop} {n : Nat} {P : Nat → Value → Prop} {St : Nat → Shared → Prop} (W : WalksS prog w A I fp wr G n P St) :
    WalksS prog w A I fp wr G (n + 1) (fun i v => match i with | 0 => False | i + 1 => P i v) (fun i s => match i with | 0 => False | i + 1 => St i s) where
  sub := W.sub
  grefl := W.grefl
  gtrans := W.gtrans
  frame := fun i s h' tk st ht hk => by cases i with | zero => exact st.elim | succ i => exact W.frame i s h' tk st ht hk
  item := fun i s Q E hi st hQ => by
    cases i with
    | zero => exact st.elim
    | succ i => exact W.item i s Q E (by lia) st fun v s' hP hS hm => hQ v s' hP hS hm
  done := fun s Q E st hQ => W.done s Q E st hQ
  self := fun i s Q E st hQ => by cases i with | zero => exact st.elim | succ i => exact W.self i s Q E st hQ
theorem preSum_late (val : Nat → Int) (s0 : Int) : ∀ n, preSum (fun i => match i with | 0 => s0 | i + 1 => val i) (n + 1) = s0 + preSum val n
  | 0 => by simp [preSum]
  | n + 1 => by
    show preSum _ (n + 1) + val n = s0 + (preSum val n + val n)
    rw [preSum_late val s0 n]; lia

theorem args_sum2 (a b : Value) : argsOk "sum" ⟨[a, b], []⟩ := by unfold argsOk; kernel_rfl
theorem call_sum2 {x : Value} {k : Int} {t : Tok} {Q : Value → Shared → Prop} (hk : k = 0 ∨ k = 1 ∨ k = 2)
    (h : wpAny (model prog w) A.in1 (pyIter x) (fun it s₂ => ∃ I fp wr G n P St val, it = .ref I ∧ WalksS prog w A.in1 I fp wr G n P St ∧ St 0 s₂ ∧ (∀ b ∈ fp, b < s₂.heap.objs.size) ∧
      (∀ i v, P i v → ∃ t, v = .int (val i) t) ∧ (∀ j, j < n → InLong (val j) ∧ InLong (k + preSum val (j + 1))) ∧
      ∀ s' t', Moved wr G s₂ s' → Q (.int (k + preSum val n) t') s') E s) :
    wpAny (model prog w) A (call (.builtin "sum") [x, .int k t]) Q E s := by
  refine call_function_tree F.kind_sum F.plain_sum F.entry_sum (args_sum2 _ _) ?_
  unfold Builtin.«sum»
  simp only [List.length_cons, List.length_nil]
  rw [if_neg (by decide)]
  refine wpAny_bind (wpAny_of_eq (show Builtin.Builtins.bindParams "sum" ["start"] 0 { pos := [.int k t] } = pure [some (.int k t)] from rfl) ?_)
  refine wpAny_bind (wpAny_mono h (fun it s₂ h₂ => ?_) fun _ _ e => e)
  obtain ⟨I, fp, wr, G, n, P, St, val, rfl, W, hst, hfp, hval, hfit, hQ⟩ := h₂
  have hk2 : InLong k := by rcases hk with rfl | rfl | rfl <;> exact ⟨by decide, by decide⟩
  dsimp only
  rw [if_pos (by rcases hk with rfl | rfl | rfl <;> decide)]
  refine wpAny_bind (wpAny_rule (wpAny_bind (wpAny_mkInt (wpAny_bind (wpAny_pure ?_)))))
  simp only [List.forIn_cons, List.forIn_nil]
  refine wpAny_bind (wpAny_bind (wpAny_bind (wpAny_isInstance (T := "int") (b := false) (typeIs_int _ _ _) PySem.sub_int_str ?_)))
  rw [if_neg Bool.false_ne_true]
  refine wpAny_pure (wpAny_bind (wpAny_bind (wpAny_isInstance (T := "int") (b := false) (typeIs_int _ _ _) PySem.sub_int_bytes ?_)))
  rw [if_neg Bool.false_ne_true]
  refine wpAny_pure (wpAny_bind (wpAny_bind (wpAny_isInstance (T := "int") (b := false) (typeIs_int _ _ _) PySem.sub_int_bytearray ?_)))
  rw [if_neg Bool.false_ne_true]
  refine wpAny_pure (wpAny_pure ?_)
  refine wpAny_bind (wpAny_newObj_type ?_)
  have hSf : s₂.heap.objs.size ∉ fp := fun hm => Nat.lt_irrefl _ (hfp _ hm)
  have W' := WalksS.late W
  refine wpAny_pure ⟨plainId_quiet F.plain_sum_loop _, codeAny_sum_loopS (R := _) W' (fun i => match i with | 0 => k | i + 1 => val i) (fun i v hP => ?_) (fun j hj => ?_) s₂.heap.objs.size hSf n 1 _ s₂.toks 0 (by lia) (by lia)
    (W.frame 0 s₂ _ _ hst (by first | exact Nat.le_refl _ | exact Nat.le_succ _ | lia) fun b _ o e => Heap.get?_push_of_some _ e) ?_ fun s' t' hm => ?_⟩
  · cases i with
    | zero => exact hP.elim
    | succ i => exact hval i v hP
  · rw [preSum_late]
    cases j with
    | zero => exact ⟨hk2, by simpa [preSum] using hk2⟩
    | succ j => exact ⟨(hfit j (by lia)).1, (hfit j (by lia)).2⟩
  · rw [show preSum (fun i => match i with | 0 => k | i + 1 => val i) 1 = k from by simp [preSum]]
    exact Heap.get?_push_size _ rfl
  · rw [preSum_late]
    exact hQ s' t' (hm.drop_new (by first | exact Nat.le_refl _ | exact Nat.le_succ _ | lia))
end
section
open PySem PySem.W PyProof.Rows PySem.Spec PySem.Calls Builtin
set_option maxHeartbeats 1000000
variable {σ : Bool} {prog : Program} {w : World} {g h h' : Heap} {L a : Addr} {m m' : List (Str × Value)} {own own' : List (Addr × Sh)} {s₀ s s' : Shared} {sh sh' : Sh}
variable {A : Around} {E : Value → Shared → Prop} {M : Model} {env : Env} {x y : Str} {v : Value}

theorem passing_all (n : Nat) : passing (fun _ => true) n 0 = List.range n := by simp [passing]
structure Tb (c P : Addr) : Prop where
  tab : ∀ h, Tq h → ∃ ps, h.IsCode c P ps ∧ h.TableAt c P ps
  grow : ∀ h h' ps, Tq h → Heap.ExtBut P h h' → h'.IsCode c P ps → h'.TableAt c P ps → Tq h'
  is : isTab P = true
theorem tb63 : Tb 67 63 where
  tab := fun h T => T.t63
  grow := fun h h' ps T x hc ht => by
    obtain ⟨⟨t1, t2, t3, t4, ⟨ms, ⟨o, es, ep, ho, r⟩, e⟩⟩, ⟨sl, e4⟩⟩ := T
    obtain ⟨p2, a2, b2⟩ := t2
    obtain ⟨a3, b3⟩ := t3
    obtain ⟨a4, b4⟩ := t4
    refine ⟨⟨⟨ps, hc, ht⟩, ⟨p2, isCode_at a2 ?_ ?_, tableAt_at b2 ?_ ?_⟩, ⟨isCode_at a3 ?_ ?_, tableAt_at b3 ?_ ?_⟩, ⟨isCode_at a4 ?_ ?_, tableAt_at b4 ?_ ?_⟩, ⟨ms, ⟨o, es, ep, x _ _ (by decide) ho, r⟩, e⟩⟩, ⟨sl, x _ _ (by decide) e4⟩⟩ <;> exact fun o e => x _ o (by decide) e
  is := rfl
theorem tb70 : Tb 74 70 where
  tab := fun h T => T.t70
  grow := fun h h' ps T x hc ht => by
    obtain ⟨⟨t1, t2, t3, t4, ⟨ms, ⟨o, es, ep, ho, r⟩, e⟩⟩, ⟨sl, e4⟩⟩ := T
    obtain ⟨p2, a2, b2⟩ := t1
    obtain ⟨a3, b3⟩ := t3
    obtain ⟨a4, b4⟩ := t4
    refine ⟨⟨⟨p2, isCode_at a2 ?_ ?_, tableAt_at b2 ?_ ?_⟩, ⟨ps, hc, ht⟩, ⟨isCode_at a3 ?_ ?_, tableAt_at b3 ?_ ?_⟩, ⟨isCode_at a4 ?_ ?_, tableAt_at b4 ?_ ?_⟩, ⟨ms, ⟨o, es, ep, x _ _ (by decide) ho, r⟩, e⟩⟩, ⟨sl, x _ _ (by decide) e4⟩⟩ <;> exact fun o e => x _ o (by decide) e
  is := rfl
theorem code_A {c P : Addr} {pos : Pos} {qn : Str} {scope : Scope} {Q : Value → Shared → Prop} (K : Tb c P) (T : Tq s.heap) (hc : env.code = .ref c)
    (h : ∀ c' h' tk, Heap.ExtBut P s.heap h' → Tq h' → s.heap.objs.size ≤ h'.objs.size → s.toks ≤ tk → Q c' { s with heap := h', toks := tk }) : wpAny M A (genexprCode env pos qn scope) Q E s := by
  obtain ⟨ps, h1, h2⟩ := K.tab _ T
  cases hf : codeAmong pos ps.toList with
  | none =>
    refine wpAny_with_toks (Nat.le_refl _) (wpAny_genexprCodeX hc h1 h2 hf fun c' h' tk hx hge hlt k1 _ k2 _ ht => ?_)
    exact h _ _ _ hx (K.grow _ _ _ T hx k1 k2) (Nat.le_trans hge (Nat.le_of_lt hlt)) ht
  | some c' => exact wpAny_genexprCode_hit hc h1 hf (h _ _ _ (fun _ _ _ e => e) T (Nat.le_refl _) (Nat.le_refl _))

theorem WalksS.imp {I : Addr} {fp wr : List Addr} {G : Array GenState → Array GenState → Prop} {n n' : Nat} {P P' : Nat → Value → Prop} {St : Nat → Shared → Prop} (W : WalksS prog w A I fp wr G n P St) (hn : n = n') (k : ∀ i v, P i v → P' i v) :
    WalksS prog w A I fp wr G n' P' St where
  sub := W.sub
  grefl := W.grefl
  gtrans := W.gtrans
  frame := W.frame
  item := fun i s Q E hi st hQ => W.item i s Q E (hn ▸ hi) st fun v s' hP hS hm => hQ v s' (k _ _ hP) hS hm
  done := fun s Q E st hQ => W.done s Q E (hn ▸ st) hQ
  self := W.self

theorem gen_A {elt : Expr} {pa pb pt pi pos : Pos} {kt : Nat} {scope : Scope} {c P q dx : Addr} {xs : List Value} {n : Nat} {Ts : Nat → Addr} {va vb : Nat → Value} {F : Nat → Value → Prop} {Q : Value → Shared → Prop}
    (K : Tb c P) (B : Bs w g) (T : Tq g) (hh : A.handled = none) (hroom : A.depth < recursionLimit) (C : Cx true prog w g L m own s₀ s) (hx : s.heap.get? q = some (accObj dx xs n)) (hq : 203 ≤ q)
    (hit : ∀ j, j < xs.length → xs.toArray[j]? = some (.ref (Ts j))) (htup : ∀ j, j < xs.length → s.heap.IsTuple (Ts j) #[va j, vb j]) (h203 : ∀ j, j < xs.length → 203 ≤ Ts j)
    (hself : wpAny (model prog w) A (eval (.Name "self" pi) env) (fun v s' => v = .ref q ∧ s' = s) E s)
    (hc : env.code = .ref c) (hgl : env.globals = mainGlobals)
    (hco : scope.isCoroutine = false) (hclos : closureFor scope env = pure []) (hcell : ∀ y ∈ scope.names, y.2 ≠ .cell) (h0 : scope.names.lookup (".0" : Str) = some NameKind.local)
    (hxa : scope.names.lookup ("fws" : Str) = some .local) (hxb : scope.names.lookup ("part" : Str) = some .local) (hkind : scope.kind = .function) (hs : ∀ x, genFold (.Name "self" pi) env x = pure x)
    (helt : ∀ (A' : Around) E' D c' j (s₂ : Shared) m₂, A'.handled = none → A'.depth ≤ A.depth + 1 → s₂.heap.Ns D m₂ → m₂ "fws" = some (va j) → m₂ "part" = some (vb j) → Bs w s₂.heap →
      wpAny (model prog w) A' (eval elt (genEnv scope [] D c' builtinsNs env)) (fun y s₃ => F j y ∧ Keeps s₂ s₃) E' s₂)
    (hQ : ∀ a s₅ fp wr gi St, Gr false s s₅ → Tq s₅.heap → WalksS prog w A.in4 a fp wr (GenOnlyQ gi) xs.length F St → St 0 s₅ → (∀ b ∈ fp, b < s₅.heap.objs.size) → (∀ b ∈ wr, s.heap.get? b = none ∧ 203 ≤ b) → s.heap.objs.size ≤ s₅.heap.objs.size → (∀ i s, St i s → s.TypeIs (.ref a) "generator") → a ∈ fp → Q (.ref a) s₅) :
    wpAny (model prog w) A (eval (.GeneratorExp elt [⟨.Tuple [.Name "fws" pa, .Name "part" pb] kt pt, .Name "self" pi, [], 0⟩] scope pos) env) Q E s := by
  refine wpAny_with_toks (Nat.le_refl _) (wpAny_GeneratorExp_walksQTD (Q := fun v s5 => s.toks ≤ s5.toks → Q v s5) hh hco hclos hcell h0 hxa hxb (by decide +kernel) hkind hroom (wpAny_mono hself (fun v s' hv => ?_) fun _ _ e _ => e) hs)
  obtain ⟨rfl, rfl⟩ := hv
  refine iter_A (C.bs B) hx ?_
  have C1 := C.push (tk := s'.toks) (o := { cls := .type "list_iterator", data := .fields #[.ref q, .int 0 0] }) (sh := liSh q 0) (Nat.le_refl _) ⟨_, Heap.get?_push_size _ rfl, rfl, rfl⟩
  have hlt : ∀ b o, s'.heap.get? b = some o → b < s'.heap.objs.size := fun b o e => Heap.lt_size e
  have hI := C.top
  refine ⟨(C1.bs B).lim, code_A K (C1.tq T) hc fun c' h' tk hx' T' hsz ht => ?_⟩
  have Pne : ∀ b, isTab b = false → b ≠ P := by rintro b hb rfl; rw [K.is] at hb; cases hb
  have P203 : ∀ b, 203 ≤ b → b ≠ P := fun b hb => Pne b (tab_ge hb)
  have B4 : Bs w h' := (C1.bs B).low2 fun b o _ hb e => hx' b o (Pne b hb) e
  have hqlt := hlt _ _ hx
  have hTlt : ∀ j, j < xs.length → Ts j < s'.heap.objs.size := fun j hj => let ⟨o, e, _⟩ := htup j hj; hlt _ _ e
  have hsz1 : s'.heap.objs.size + 1 ≤ h'.objs.size := by have := hsz; rw [Heap.size_push] at this; exact this
  have le1 : s'.heap.objs.size ≤ h'.objs.size := Nat.le_of_succ_le hsz1
  rw [hgl]
  refine builtins_A B4 T' ⟨s'.heap.objs.size, _, [s'.heap.objs.size], xs.length, _, _, _, fun _ => true, F, rfl, fun A' hA' => WalksU_A hA' s'.heap.objs.size q dx n (Nat.ne_of_lt hqlt) xs Ts (fun j => #[va j, vb j]) hit fun j hj => Nat.ne_of_lt (hTlt j hj), fun i vals e => ⟨_, _, e⟩, ?_, ?_, B4.lim, ?_, ?_, ?_⟩
  · refine ⟨⟨_, hx' _ _ (P203 _ hI) (Heap.get?_push_size _ rfl), rfl, rfl⟩, hx' _ _ (P203 _ hq) (Heap.get?_push_of_some _ hx), fun k hk => ?_⟩
    obtain ⟨o, e, r⟩ := htup k hk
    exact ⟨o, hx' _ _ (P203 _ (h203 k hk)) (Heap.get?_push_of_some _ e), r⟩
  · intro b hb
    show b < h'.objs.size
    rcases List.mem_cons.mp hb with rfl | hb
    · exact Nat.lt_of_succ_le hsz1
    · rcases List.mem_cons.mp hb with rfl | hb
      · exact Nat.lt_of_lt_of_le hqlt le1
      · obtain ⟨j, hj, rfl⟩ := List.mem_map.mp hb
        exact Nat.lt_of_lt_of_le (hTlt j (List.mem_range.mp hj)) le1
  · intro hm
    rw [List.mem_singleton] at hm
    rw [← hm] at hI
    exact absurd hI (by decide)
  · intro href hk
    refine ⟨fun A' E' i va' vb' s₂ m₂ hA hD hU hP hn ha hb hkeep => ?_, fun A' E' i va' vb' s₂ m₂ hA hD hU hP _ hn ha hb hkeep => ?_⟩
    · rw [List.forIn_nil]
      exact wpAny_pure ⟨rfl, s₂.heap, s₂.toks, rfl, fun _ _ e => e⟩
    · have e1 : va' = va i ∧ vb' = vb i := by simpa using hP
      rw [e1.1] at ha
      rw [e1.2] at hb
      refine helt A' E' _ c' i s₂ m₂ hA hD hn ha hb (B4.low2 fun b o hb' _ e => ?_)
      refine hkeep b (List.mem_range.mpr (Heap.lt_size e)) (fun hm => ?_) o (hk _ _ e)
      rw [List.mem_singleton] at hm
      rw [hm] at hb'
      exact absurd hI (Nat.not_le.mpr hb')
  · intro a h₅ tk5 gs hgb hag hsz5 hk5 W hat ht5
    refine hQ a _ _ _ _ _ ⟨fun b o t e => hk5 _ _ (hx' _ _ (Pne b (by simpa using t)) (Heap.get?_push_of_some _ e)), rfl, rfl, ?_, ht5⟩ (T'.at fun b o _ e => hk5 _ _ e) (WalksS.imp W (by rw [passing_all, List.length_range]) fun i v hP => ?_) hat ?_ ?_ ?_ (fun i s' st => st.1.typeIs) List.mem_cons_self
    · rw [if_neg (by decide)]
      exact fun hb => hb.push hgb
    · obtain ⟨j, hj, hF⟩ := hP
      rw [passing_all] at hj
      have : j = i := by
        rw [List.getElem?_eq_some_iff] at hj
        obtain ⟨h1, h2⟩ := hj
        simpa using h2.symm
      rw [← this]; exact hF
    · intro b hb
      show b < h₅.objs.size
      rw [hsz5]
      rcases List.mem_cons.mp hb with rfl | hb
      · exact Nat.lt_succ_self _
      · rcases List.mem_cons.mp hb with rfl | hb
        · exact Nat.lt_succ_of_lt hag
        · exact Nat.lt_succ_of_lt (Nat.lt_trans (List.mem_range.mp hb) hag)
    · intro b hb
      have key : ∀ b, s'.heap.objs.size ≤ b → s'.heap.get? b = none ∧ 203 ≤ b := fun b hb => ⟨by
        cases q : s'.heap.get? b with
        | none => rfl
        | some o => exact absurd (Heap.lt_size q) (Nat.not_lt.mpr hb), Nat.le_trans hI hb⟩
      rcases List.mem_cons.mp hb with rfl | hb
      · exact key _ le1
      · rw [List.mem_singleton] at hb
        exact key _ (Nat.le_of_eq hb.symm)
    · show s'.heap.objs.size ≤ h₅.objs.size
      rw [hsz5]
      exact Nat.le_succ_of_le (Nat.le_trans le1 (Nat.le_of_lt hag))
end
section
open PySem PySem.W PyProof.Rows PySem.Spec PySem.Calls Builtin
set_option maxHeartbeats 1000000
variable {σ : Bool} {prog : Program} {w : World} {g h h' : Heap} {L a : Addr} {m m' : List (Str × Value)} {own own' : List (Addr × Sh)} {s₀ s s' : Shared} {sh sh' : Sh}
variable {A : Around} {E : Value → Shared → Prop} {M : Model} {env : Env} {x y : Str} {v : Value}

noncomputable abbrev Pcs := List (Str × Str)
inductive PairsAt (h : Heap) : List Value → Pcs → Prop where
  | nil : PairsAt h [] []
  | cons {T : Addr} {p : Str × Str} {ta tb : Tok} {vs ps} : 203 ≤ T → h.IsTuple T #[.str p.1 ta, .str p.2 tb] → PairsAt h vs ps → PairsAt h (.ref T :: vs) (p :: ps)
theorem PairsAt.length {xs : List Value} {ps : Pcs} (H : PairsAt h xs ps) : xs.length = ps.length := by
  induction H with
  | nil => rfl
  | cons _ _ _ ih => rw [List.length_cons, List.length_cons, ih]
theorem PairsAt.at' {xs : List Value} {ps : Pcs} (H : PairsAt h xs ps) (k : ∀ b o, 203 ≤ b → h.get? b = some o → h'.get? b = some o) : PairsAt h' xs ps := by
  induction H with
  | nil => exact .nil
  | cons h1 h2 _ ih =>
    obtain ⟨o, ho, r⟩ := h2
    exact .cons h1 ⟨o, k _ _ h1 ho, r⟩ ih
theorem PairsAt.snoc {xs : List Value} {ps : Pcs} (H : PairsAt h xs ps) {T : Addr} {p : Str × Str} {ta tb : Tok} (h1 : 203 ≤ T) (h2 : h.IsTuple T #[.str p.1 ta, .str p.2 tb]) : PairsAt h (xs ++ [.ref T]) (ps ++ [p]) := by
  induction H with
  | nil => exact .cons h1 h2 .nil
  | cons k1 k2 _ ih => exact .cons k1 k2 ih
noncomputable def fstOf (ps : Pcs) (j : Nat) : Str := (ps.getD j (Str.empty, Str.empty)).1
noncomputable def sndOf (ps : Pcs) (j : Nat) : Str := (ps.getD j (Str.empty, Str.empty)).2
theorem PairsAt.fns {xs : List Value} {ps : Pcs} (H : PairsAt h xs ps) : ∃ (Ts : Nat → Addr) (ta tb : Nat → Tok), ∀ j, j < xs.length → xs.toArray[j]? = some (.ref (Ts j)) ∧ 203 ≤ Ts j ∧ h.IsTuple (Ts j) #[.str (fstOf ps j) (ta j), .str (sndOf ps j) (tb j)] := by
  induction H with
  | nil => exact ⟨fun _ => 0, fun _ => 0, fun _ => 0, fun j hj => by simp at hj⟩
  | @cons T p ta tb vs ps h1 h2 _ ih =>
    obtain ⟨Ts, fa, fb, ih⟩ := ih
    refine ⟨fun j => match j with | 0 => T | j + 1 => Ts j, fun j => match j with | 0 => ta | j + 1 => fa j, fun j => match j with | 0 => tb | j + 1 => fb j, fun j hj => ?_⟩
    cases j with
    | zero => exact ⟨by simp, h1, h2⟩
    | succ j =>
      obtain ⟨k1, k2, k3⟩ := ih j (by simpa using hj)
      exact ⟨by simpa using k1, k2, by simpa [fstOf, sndOf] using k3⟩
noncomputable def lenOf (ps : Pcs) (j : Nat) : Int := (fstOf ps j).length + (sndOf ps j).length

theorem elt_len {D : Addr} {c' : Value} {p1 p2 p3 p4 p5 p6 p7 : Pos} {scope : Scope} {mm : Str → Option Value} {x y : Str} {t u : Tok} (B : Bs w s.heap) (hs : scope.kind = .function) (hl : scope.names.lookup ("len" : Str) = some .globalImplicit) (hx : scope.names.lookup ("fws" : Str) = some .local) (hy : scope.names.lookup ("part" : Str) = some .local)
    (hgl : env.globals = mainGlobals) (hn : s.heap.Ns D mm) (h1 : mm "fws" = some (.str x t)) (h2 : mm "part" = some (.str y u)) (hlen : x.length + y.length ≤ 100000) :
    wpAny (model prog w) A (eval (.BinOp (.Call (.Name "len" p1) [.Name "fws" p2] [] p3) .Add (.Call (.Name "len" p4) [.Name "part" p5] [] p6) p7) (genEnv scope [] D c' builtinsNs env)) (fun r s₃ => (∃ t, r = .int (x.length + y.length : Int) t) ∧ Keeps s s₃) E s := by
  have C : Cx true prog w s.heap 0 [] [] s s := Cx.start B.low
  refine wpAny_BinOp (wpAny_Call_NameR (bl B C ni_len boot_len ?_ (by exact hgl) (by rfl) (by exact hs) (by exact hl)))
  refine f1 (ldB C hn rfl h1 ?_ (by exact hs) (by exact hx))
  refine PySem.P.len_str (by lia) ?_
  have C : Cx true prog w s.heap 0 [] [] s { s with toks := s.toks + 1 + 1 } := C.tokens (by show s.toks ≤ s.toks + 1 + 1; lia)
  refine wpAny_Call_NameR (bl B C ni_len boot_len ?_ (by exact hgl) (by rfl) (by exact hs) (by exact hl))
  refine f1 (ldB C hn rfl h2 ?_ (by exact hs) (by exact hy))
  refine PySem.P.len_str (by lia) ?_
  have C : Cx true prog w s.heap 0 [] [] s { s with toks := s.toks + 1 + 1 + 1 + 1 } := C.tokens (by show s.toks + 1 + 1 ≤ s.toks + 1 + 1 + 1 + 1; lia)
  refine oAdd C fun t z C => ⟨⟨t, rfl⟩, C.keeps⟩

theorem sum_bound (ps : Pcs) (hlen : ∀ j, (fstOf ps j).length + (sndOf ps j).length ≤ 1000) : ∀ n, 0 ≤ preSum (lenOf ps) n ∧ preSum (lenOf ps) n ≤ 1000 * n
  | 0 => ⟨Int.le_refl _, by simp [preSum]⟩
  | n + 1 => by
    have := sum_bound ps hlen n
    have h2 := hlen n
    rw [preSum]
    unfold lenOf at *
    lia
theorem len_A {q dx : Addr} {xs : List Value} {n n' : Nat} {tk t : Tok} {k : Int} {ps : Pcs} {Q : Value → Shared → Prop} (B : Bs w s.heap) (T : Tq s.heap) (hd : A.depth + 20 < recursionLimit) (hh : A.handled = none) (hx : s.heap.get? q = some (accObj dx xs n)) (hdx : s.heap.get? dx = some (dObj w tk (.int k t) n')) (hq : 203 ≤ q) (hq' : 203 ≤ dx)
    (H : PairsAt s.heap xs ps) (hk : k = 0 ∨ k = 1 ∨ k = 2) (hlen : ∀ j, (fstOf ps j).length + (sndOf ps j).length ≤ 1000) (hn : xs.length ≤ 1000)
    (hret : ∀ t s', Gr false s s' → Tq s'.heap → Q (.int (k + preSum (lenOf ps) xs.length) t) s') : wpAny (model prog w) A (call (.ref 68) [.ref q]) Q E s := by
  refine wpAny_call (enterAt (own' := []) (binds := [("self", .ref q)]) B (by lia) rfl rfl (.of_eq rfl) rfl (by simp) (by with_unfolding_all decide) rfl rfl rfl (by simp) (by simp) ?_)
  intro L z C
  simp only [List.map_nil] at C
  have C : Cx true prog w s.heap L [(Str.ofString "self", .ref q)] [] s z := C
  refine _root_.PySem.wpAt_of_wpAny ?_
  have T' := C.tq T
  have hx' : z.heap.get? q = some (accObj dx xs n) := C.keep _ _ rfl hx
  have hdx' : z.heap.get? dx = some (dObj w tk (.int k t) n') := C.keep _ _ rfl hdx
  obtain ⟨Ts, ta, tb, HT⟩ := (H.at' (h' := z.heap) fun b o _ e => C.keep b o rfl e).fns
  repeat wtm_at "w"
  refine gen_A (F := fun j y => ∃ t, y = .int (lenOf ps j) t) (va := fun j => .str (fstOf ps j) (ta j)) (vb := fun j => .str (sndOf ps j) (tb j)) (Ts := Ts) tb63 B T ?_ ?_ C hx' hq (fun j hj => (HT j hj).1) (fun j hj => (HT j hj).2.2) (fun j hj => (HT j hj).2.1) ?_ ?_ ?_ ?_ ?_ ?_ ?_ ?_ ?_ ?_ ?_ ?_ ?_
  · wtm_at "hh"
  · show A.depth + 1 < recursionLimit; lia
  · exact ld C (by wtm_at "mm") ⟨rfl, rfl⟩
  · rfl
  · rfl
  · rfl
  · with_unfolding_all rfl
  · with_unfolding_all decide
  · rfl
  · rfl
  · rfl
  · rfl
  · exact fun _ => rfl
  · intro A' E' D c' j s₂ m₂ _ _ hn2 h1 h2 B2
    refine wpAny_mono (elt_len B2 rfl rfl rfl rfl rfl hn2 h1 h2 (by have := hlen j; lia)) (fun r s₃ hr => ⟨hr.1, hr.2⟩) fun _ _ e => e
  · intro a s₅ fp wr gi St G5 T5 W hst hfp hwr hsz _ _
    obtain ⟨g', C5, _, _, _, _⟩ := C.jump G5 (List.Sublist.refl _) (by simp)
    have B5 := G5.bs (C.bs B)
    have hx5 := G5.keep _ _ (off (tab_ge hq)) hx'
    have hdx5 := G5.keep _ _ (off (tab_ge hq')) hdx'
    refine Attribute_name (ld C5 (by wtm_at "mm") (attr_A B5 hx5 hdx5 rfl ?_))
    have W1 := WalksS.of_in1 (WalksS.of_in1 (WalksS.of_in1 W))
    have hst1 := W.frame 0 s₅ s₅.heap (s₅.toks + 1) hst (Nat.le_succ _) fun _ _ _ e => e
    refine call_sum2 hk (W1.self 0 _ _ _ hst1 ⟨a, fp, wr, _, _, _, _, lenOf ps, rfl, W1, hst1, hfp, fun i v h => h, fun j hj => ?_, fun s' t' hm => ?_⟩)
    · have h1 := sum_bound ps hlen (j + 1)
      have h2 := hlen j
      have h3 : lenOf ps j = (fstOf ps j).length + (sndOf ps j).length := rfl
      have h4 : (((j + 1 : Nat) : Int)) ≤ 1000 := by lia
      unfold InLong
      lia
    · have out : ∀ b, b ∈ wr → ∀ o, z.heap.get? b = some o → False := fun b hb o e => by rw [(hwr b hb).1] at e; cases e
      refine hret t' s' ⟨fun b o tt e => ?_, ?_, ?_, ?_, ?_⟩ (T5.at fun b o hb e => hm.heap b o (fun hw => absurd (hwr b hw).2 (Nat.not_le.mpr hb)) e)
      · have e1 := C.keep b o rfl e
        exact hm.heap b o (fun hw => out b hw o e1) (G5.keep b o tt e1)
      · exact hm.os.trans (G5.os.trans C.os)
      · exact hm.drawn.trans (G5.drawn.trans C.drawn)
      · rw [if_neg (by decide)]
        intro hb
        have e1 : z.gens = s.gens := by simpa using C.gens
        have e2 : AllBare z.gens → AllBare s₅.gens := by simpa using G5.gens
        exact AllBare.movedS (s := { s₅ with toks := s₅.toks + 1 }) (e2 (by rw [e1]; exact hb)) hm
      · have h1 := hm.toks
        have h2 := G5.toks
        have h3 := C.toks
        have h4 : s₅.toks ≤ s₅.toks + 1 := Nat.le_succ _
        exact Nat.le_trans h3 (Nat.le_trans h2 (Nat.le_trans h4 h1))
end
section
open PySem PySem.W PyProof.Rows PySem.Spec PySem.Calls Builtin
set_option maxHeartbeats 1000000
variable {σ : Bool} {prog : Program} {w : World} {g h h' : Heap} {L a : Addr} {m m' : List (Str × Value)} {own own' : List (Addr × Sh)} {s₀ s s' : Shared} {sh sh' : Sh}
variable {A : Around} {E : Value → Shared → Prop} {M : Model} {env : Env} {x y : Str} {v : Value}

theorem lenB_A {q dx : Addr} {xs : List Value} {n n' : Nat} {tk t : Tok} {k : Int} {ps : Pcs} {Q : Value → Shared → Prop} (B : Bs w s.heap) (T : Tq s.heap) (hd : A.depth + 20 < recursionLimit) (hh : A.handled = none) (hx : s.heap.get? q = some (accObj dx xs n)) (hdx : s.heap.get? dx = some (dObj w tk (.int k t) n')) (hq : 203 ≤ q) (hq' : 203 ≤ dx)
    (H : PairsAt s.heap xs ps) (hk : k = 0 ∨ k = 1 ∨ k = 2) (hlen : ∀ j, (fstOf ps j).length + (sndOf ps j).length ≤ 1000) (hn : xs.length ≤ 1000)
    (hret : ∀ t s', Gr false s s' → Tq s'.heap → Q (.int (k + preSum (lenOf ps) xs.length) t) s') : wpAny (model prog w) A (call (.builtin "len") [.ref q]) Q E s := by
  have I := acc_inst hx hdx
  have hb := sum_bound ps hlen xs.length
  have hnn : (xs.length : Int) ≤ 1000 := by lia
  refine Calls.call_function_entry kind_len plain_len entry_len (args_len1 _) ?_
  unfold Builtin.«len»
  refine wpAny_bind (m := oneArg "len" _) (wpAny_pure ?_)
  refine wpAny_bind (m := callSpecial? (.ref q) (Str.ofString "__len__")) (special_fn B.k I find_len (by kernel_rfl) (len_A B T hd hh hx hdx hq hq' H hk hlen hn fun t s' G T' => ?_))
  dsimp only
  refine wpAny_bind (wpAny_holding (wpAny_pure ?_))
  refine wpAny_bind (wpAny_letGo ?_)
  show wpAny _ _ (if k + preSum (lenOf ps) xs.length < 0 then _ else _) _ _ _
  rw [if_neg (by lia)]
  show wpAny _ _ (if k + preSum (lenOf ps) xs.length ≥ 2 ^ 63 then _ else _) _ _ _
  rw [if_neg (by lia)]
  exact wpAny_bind (wpAny_mkInt (wpAny_pure ⟨_, rfl, hret _ _ (G.trans (.tok (Nat.le_succ _))) T'⟩))
end
section
open PySem PySem.W PyProof.Rows PySem.Spec PySem.Calls Builtin
set_option maxHeartbeats 1000000
variable {σ : Bool} {prog : Program} {w : World} {g h h' : Heap} {L a : Addr} {m m' : List (Str × Value)} {own own' : List (Addr × Sh)} {s₀ s s' : Shared} {sh sh' : Sh}
variable {A : Around} {E : Value → Shared → Prop} {M : Model} {env : Env} {x y : Str} {v : Value}

theorem gn_empty {P : Params} : ∃ t, nsIn (KK P) mainGlobals "EMPTYSTRING" = some (some (.str "" t)) := ⟨_, rfl⟩
theorem join_two (x y : Str) : Txt.join "" [x, y] = x ++ y := by
  refine str_ext ?_
  rw [join_flat, Str.cps_append]
  simp
theorem elt_str {D : Addr} {c' : Value} {p1 p2 p3 p4 p5 p6 : Pos} {kt : Nat} {scope : Scope} {mm : Str → Option Value} {x y : Str} {t u : Tok} (B : Bs w s.heap) (hs : scope.kind = .function) (hl : scope.names.lookup ("EMPTYSTRING" : Str) = some .globalImplicit) (hx : scope.names.lookup ("fws" : Str) = some .local) (hy : scope.names.lookup ("part" : Str) = some .local)
    (hgl : env.globals = mainGlobals) (hn : s.heap.Ns D mm) (h1 : mm "fws" = some (.str x t)) (h2 : mm "part" = some (.str y u)) (hlen : x.length + y.length ≤ 100000) (hpos : (p2.endLine == p6.line) = true) :
    wpAny (model prog w) A (eval (.Call (.Attribute (.Name "EMPTYSTRING" p1) "join" p2) [.Tuple [.Name "fws" p3, .Name "part" p4] kt p5] [] p6) (genEnv scope [] D c' builtinsNs env)) (fun r s₃ => (∃ t, r = .str (x ++ y) t) ∧ Keeps s s₃) E s := by
  have C : Cx true prog w s.heap 0 [] [] s s := Cx.start B.low
  obtain ⟨te, hte⟩ := @gn_empty w.params
  refine meth (gl B C hte ?_ (by exact hgl) (by exact hs) (by exact hl)) (by rfl) (by rfl) hpos
  refine onStr F.slot_str_join F.type_str_join ?_
  refine m1 (eTup2 (σ := true) (g := s.heap) (L := 0) (s₀ := s) (ldB C hn rfl h1 (ldB C hn rfl h2 ⟨_, _, C, fun T z C => ?_⟩ (by exact hs) (by exact hy)) (by exact hs) (by exact hx)))
  obtain ⟨n, ho⟩ := C.is (sh := .tup [.str x t, .str y u]) List.mem_cons_self
  refine wpAny_with_toks (Nat.le_refl _) (join_tupleW (ys := [x, y]) ⟨_, ho, rfl, n, rfl⟩ (.cons _ _ (.cons _ _ .nil)) (by decide) (by simp; lia) fun t' k hk => ?_)
  rw [join_two]
  exact ⟨⟨t', rfl⟩, (C.tokens hk).keeps⟩
noncomputable def txtOf (ps : Pcs) (j : Nat) : Str := fstOf ps j ++ sndOf ps j
noncomputable def pileText (ps : Pcs) (n : Nat) : Str := Txt.join "" ((List.range n).map (txtOf ps))
theorem txt_sum (ps : Pcs) (hlen : ∀ j, (fstOf ps j).length + (sndOf ps j).length ≤ 1000) : ∀ n, (((List.range n).map (txtOf ps)).map (·.length)).sum ≤ 1000 * n
  | 0 => by simp
  | n + 1 => by
    have h1 := txt_sum ps hlen n
    have h2 : (txtOf ps n).length ≤ 1000 := by unfold txtOf; rw [Str.length_append]; exact hlen n
    rw [List.range_succ, List.map_append, List.map_append, List.sum_append]
    simp only [List.map_cons, List.map_nil, List.sum_cons, List.sum_nil]
    lia
theorem str_A {q dx : Addr} {xs : List Value} {n : Nat} {ps : Pcs} {Q : Value → Shared → Prop} (B : Bs w s.heap) (T : Tq s.heap) (hd : A.depth + 20 < recursionLimit) (hh : A.handled = none) (hx : s.heap.get? q = some (accObj dx xs n)) (hq : 203 ≤ q)
    (H : PairsAt s.heap xs ps) (hlen : ∀ j, (fstOf ps j).length + (sndOf ps j).length ≤ 1000) (hn : xs.length ≤ 1000)
    (hret : ∀ t s', Gr false s s' → Tq s'.heap → Q (.str (pileText ps xs.length) t) s') : wpAny (model prog w) A (call (.ref 75) [.ref q]) Q E s := by
  refine wpAny_call (enterAt (own' := []) (binds := [("self", .ref q)]) B (by lia) rfl rfl (.of_eq rfl) rfl (by simp) (by with_unfolding_all decide) rfl rfl rfl (by simp) (by simp) ?_)
  intro L z C
  simp only [List.map_nil] at C
  have C : Cx true prog w s.heap L [(Str.ofString "self", .ref q)] [] s z := C
  refine _root_.PySem.wpAt_of_wpAny ?_
  have T' := C.tq T
  have hx' : z.heap.get? q = some (accObj dx xs n) := C.keep _ _ rfl hx
  obtain ⟨Ts, ta, tb, HT⟩ := (H.at' (h' := z.heap) fun b o _ e => C.keep b o rfl e).fns
  repeat wtm_at "w"
  obtain ⟨te, hte⟩ := @gn_empty w.params
  refine gl B C hte ?_
  refine onStr F.slot_str_join F.type_str_join ?_
  refine m1 ?_
  refine wpAny_with_toks (Nat.le_refl _) ?_
  refine gen_A (F := fun j y => ∃ t, y = .str (txtOf ps j) t) (va := fun j => .str (fstOf ps j) (ta j)) (vb := fun j => .str (sndOf ps j) (tb j)) (Ts := Ts) tb70 B T ?_ ?_ C hx' hq (fun j hj => (HT j hj).1) (fun j hj => (HT j hj).2.2) (fun j hj => (HT j hj).2.1) ?_ ?_ ?_ ?_ ?_ ?_ ?_ ?_ ?_ ?_ ?_ ?_ ?_
  · wtm_at "hh"
  · show A.depth + 1 < recursionLimit; lia
  · exact ld C (by wtm_at "mm") ⟨rfl, rfl⟩
  · rfl
  · rfl
  · rfl
  · with_unfolding_all rfl
  · with_unfolding_all decide
  · rfl
  · rfl
  · rfl
  · rfl
  · exact fun _ => rfl
  · intro A' E' D c' j s₂ m₂ _ _ hn2 h1 h2 B2
    refine wpAny_mono (elt_str B2 rfl rfl rfl rfl rfl hn2 h1 h2 (by have := hlen j; lia) rfl) (fun r s₃ hr => ⟨hr.1, hr.2⟩) fun _ _ e => e
  · intro a s₅ fp wr gi St G5 T5 W hst hfp hwr hsz hty ha ht5
    have W1 := WalksS.of_in1 (WalksS.of_in1 W)
    refine wpAny_with_toks (Nat.le_refl _) (SC.joinGen W1 hty hst hfp ha (fun i v hv => ⟨_, hv⟩) (fun s' l hm hl => ?_) (by rw [sizeLine_eq]; lia))
    have hll : l.length = xs.length := by have := hl.1; simpa [strValues] using this
    have e : l.map (·.1) = (List.range xs.length).map (txtOf ps) := by
      apply List.ext_getElem?
      intro j
      rw [List.getElem?_map, List.getElem?_map]
      cases hj : l[j]? with
      | none =>
        have : xs.length ≤ j := by rw [← hll]; exact List.getElem?_eq_none_iff.mp hj
        rw [List.getElem?_eq_none (by simpa using this)]
        rfl
      | some p =>
        have hlt : j < xs.length := by rw [← hll]; exact (List.getElem?_eq_some_iff.mp hj).1
        obtain ⟨t, ht⟩ := hl.2 j (.str p.1 p.2) (by simp [strValues, hj])
        rw [List.getElem?_range hlt]
        simp only [Option.map_some]
        injection ht with h1 h2
        rw [h1]
    rw [e]
    refine ⟨?_, fun t' k hk => ?_⟩
    · refine joinOk_of_weight ?_ (by decide)
      have := txt_sum ps hlen xs.length
      simp only [List.length_map, List.length_range]
      lia
    · have out : ∀ b, b ∈ wr → ∀ o, z.heap.get? b = some o → False := fun b hb o e => by rw [(hwr b hb).1] at e; cases e
      refine hret t' _ ⟨fun b o tt e => ?_, ?_, ?_, ?_, ?_⟩ (T5.at fun b o hb e => hm.heap b o (fun hw => absurd (hwr b hw).2 (Nat.not_le.mpr hb)) e)
      · have e1 := C.keep b o rfl e
        exact hm.heap b o (fun hw => out b hw o e1) (G5.keep b o tt e1)
      · exact hm.os.trans (G5.os.trans C.os)
      · exact hm.drawn.trans (G5.drawn.trans C.drawn)
      · rw [if_neg (by decide)]
        intro hb
        have e1 : z.gens = s.gens := by simpa using C.gens
        have e2 : AllBare z.gens → AllBare s₅.gens := by simpa using G5.gens
        exact AllBare.movedS (s := s₅) (s' := s') (e2 (by rw [e1]; exact hb)) hm
      · exact Nat.le_trans C.toks (Nat.le_trans ht5 hk)
theorem find_str {P : Params} : findIn (KK P) (.ref 101) "__str__" = some (some (.ref 75)) := by kernel_rfl
theorem strB_A {q dx : Addr} {xs : List Value} {n : Nat} {od : Obj} {ps : Pcs} {Q : Value → Shared → Prop} (B : Bs w s.heap) (T : Tq s.heap) (hd : A.depth + 20 < recursionLimit) (hu : A.in1.in1.units < cLine) (hh : A.handled = none) (hx : s.heap.get? q = some (accObj dx xs n)) (hdx : s.heap.get? dx = some od) (hq : 203 ≤ q)
    (H : PairsAt s.heap xs ps) (hlen : ∀ j, (fstOf ps j).length + (sndOf ps j).length ≤ 1000) (hn : xs.length ≤ 1000)
    (hret : ∀ t s', Gr false s s' → Tq s'.heap → Q (.str (pileText ps xs.length) t) s') : wpAny (model prog w) A (call (.type "str") [.ref q]) Q E s :=
  kso_call hu B.k (acc_inst hx hdx) find_str (by kernel_rfl) (str_A B T hd hh hx hq H hlen hn fun t s' G T' => hret t s' G T')
end
section
open PySem PySem.W PyProof.Rows PySem.Spec PySem.Calls Builtin
set_option maxHeartbeats 1000000
variable {prog : Program} {w : World} {h : Heap} {s : Shared} {A : Around} {E : Value → Shared → Prop} {M : Model}
theorem lt_pair (hu : A.units < cLine) {a b : Addr} {x1 x2 y1 y2 : Str} {t1 t2 u1 u2 : Tok} {na nb : Nat} {da db : Option Addr} {sla slb : Array (Option Value)} {Q : Value → Shared → Prop} (ha : s.heap.get? a = some { cls := .type "tuple", dict := da, data := .seq #[.str x1 t1, .str x2 t2] na, slots := sla }) (hb : s.heap.get? b = some { cls := .type "tuple", dict := db, data := .seq #[.str y1 u1, .str y2 u2] nb, slots := slb })
    (h : Q (.bool (if x1 = y1 then (if x2 = y2 then false else decide (x2.cps.toList < y2.cps.toList)) else decide (x1.cps.toList < y1.cps.toList))) s) :
    wpAny (model prog w) A (compareOp .Lt (.ref a) (.ref b)) Q E s := by
  have L1 : Looks (model prog w) s.heap (typeOf (.ref a)) (.type "tuple") := (Looks.ld ha).andThen .now
  have L2 : Looks (model prog w) s.heap (typeOf (.ref b)) (.type "tuple") := (Looks.ld hb).andThen .now
  have L3 : Looks (model prog w) s.heap (bindSpecial (.builtin "tuple.__lt__") (.ref a)) (.builtin "tuple.__lt__", [.ref a]) := .of_pure (PySem.F.slot_tuple_lt.bind _)
  have L4 : Looks (model prog w) s.heap (typeLookup (.type "tuple") "__lt__") (some (.builtin "tuple.__lt__")) := .of_pure PySem.F.slot_tuple_lt.lookup
  obtain ⟨hp, g, d, tk, os⟩ := s
  dsimp only at ha hb L1 L2 L3 L4
  have L6 : Looks (model prog w) hp (bindSpecialIfBound? (.ref a) "__lt__") (some (.builtin "tuple.__lt__", [.ref a])) := by
    intro A Q E s k z
    unfold bindSpecialIfBound?
    refine wpAny_bind (wpAny_bind (L1 A _ E s k (L4 A _ E s k ?_)))
    refine wpAny_bind (wpAny_askSetting (wpAny_ite ?_))
    split
    · exact wpAny_bind (L3 A _ E s k (wpAny_pure z))
    · exact wpAny_tryCatch (wpAny_bind (L3 A _ _ s k (wpAny_pure z)))
  unfold compareOp richCompare
  repeat (first | with_reducible refine wpAny_cRoom hu ?_ | with_reducible refine wpAny_call ?_ | lk)
  refine codeAny_call_builtin F.slot_tuple_lt.plain F.entry_tuple_lt (F.slot_tuple_lt.check _ _ _ _ _ _ _ _ ⟨_, ha, rfl⟩ (F.args_tuple_lt_2 _ _) ?_)
  have L7 : Looks (model prog w) hp (isInstance (.ref b) (.type "tuple")) true := L2.andThen (.of_pure (by rw [isSubtype_type]; kernel_rfl))
  unfold Builtin.«tuple.__lt__»
  repeat (first | (with_reducible show wpAny _ _ (eqBool _ _) _ _ _; refine wpAny_eqBool_str ?_) | lk)
  by_cases h1 : x1 = y1
  · rw [if_neg (by simp [h1])]
    rw [if_pos h1] at h
    repeat (first | (with_reducible show wpAny _ _ (eqBool _ _) _ _ _; refine wpAny_eqBool_str ?_) | lk)
    dsimp only
    by_cases h2 : x2 = y2
    · rw [if_neg (by simp [h2])]
      rw [if_pos h2] at h
      repeat lk
      exact h
    · rw [if_pos (by simp [h2])]
      rw [if_neg h2] at h
      repeat (first | ((with_reducible show wpAny _ _ (richCompare _ _ _) _ _ _); refine PySem.P.lt_str ?_) | lk)
      exact h
  · rw [if_pos (by simp [h1])]
    rw [if_neg h1] at h
    repeat (first | ((with_reducible show wpAny _ _ (richCompare _ _ _) _ _ _); refine PySem.P.lt_str ?_) | lk)
    exact h
end
section
open PySem PySem.W PyProof.Rows PySem.Spec PySem.Calls Builtin
set_option maxHeartbeats 1000000
variable {σ : Bool} {prog : Program} {w : World} {g h h' : Heap} {L a : Addr} {m m' : List (Str × Value)} {own own' : List (Addr × Sh)} {s₀ s s' : Shared} {sh sh' : Sh}
variable {A : Around} {E : Value → Shared → Prop} {M : Model} {env : Env} {x y : Str} {v : Value}

theorem lt_pair' (hu : A.units < cLine) {a b : Addr} {x1 x2 y1 y2 : Str} {t1 t2 u1 u2 : Tok} {Q : Value → Shared → Prop} (ha : s.heap.IsTuple a #[.str x1 t1, .str x2 t2]) (hb : s.heap.IsTuple b #[.str y1 u1, .str y2 u2])
    (h : Q (.bool (if x1 = y1 then (if x2 = y2 then false else decide (x2.cps.toList < y2.cps.toList)) else decide (x1.cps.toList < y1.cps.toList))) s) :
    wpAny (model prog w) A (compareOp .Lt (.ref a) (.ref b)) Q E s := by
  obtain ⟨⟨c1, d1, e1, l1⟩, ha, hc, n, hd⟩ := ha
  obtain ⟨⟨c2, d2, e2, l2⟩, hb, hc2, n', hd2⟩ := hb
  simp only at hc hd hc2 hd2
  subst hc hd hc2 hd2
  exact lt_pair hu ha hb h
theorem inL {l : Addr} {vs : List Value} {ys : List Str} {k : Str} {t : Tok} {Q : Value → Shared → Prop} (hl : Sh.Is prog w s.heap l (.list vs)) (hi : StrsAre vs ys) (h : Q (.bool (ys.any (· == k))) s) :
    wpAny (model prog w) A (compareOp .In (.str k t) (.ref l)) Q E s := in_list_strs (Sh.isL hl) hi h
theorem idxL {l : Addr} {vs : List Value} {ys : List Str} {k : Str} {t : Tok} {Q : Value → Shared → Prop} (C : Cx σ prog w g L m own s₀ s) (hl : Sh.Is prog w s.heap l (.list vs)) (hi : StrsAre vs ys) (j : Nat) (hj : ys[j]? = some k) (hn : ∀ i, i < j → ys[i]? ≠ some k) (hz : ys.length ≤ 1000)
    (h : ∀ t s', Cx σ prog w g L m own s₀ s' → Q (.int j t) s') : wpAny (model prog w) A (call (.builtin "list.index") [.ref l, .str k t]) Q E s := by
  obtain ⟨n, ho⟩ := hl
  have hlen := StrsAre.length hi
  have hjl : j < ys.length := (List.getElem?_eq_some_iff.mp hj).1
  have at' : ∀ i, (hi' : i < vs.length) → isStrOf k vs[i] = decide (ys[i]? = some k) := fun i hi' => by
    obtain ⟨z, t', e, e2⟩ := StrsAre.item hi i vs[i] (by simp [hi'])
    rw [e, e2]
    show (z == k) = _
    rw [Bool.eq_iff_iff]; simp
  refine call_meets PySem.F.slot_list_index ⟨_, ho, rfl⟩ PySem.F.entry_list_index (PySem.F.args_list_index_2 _ _)
    (PySem.SeqAt.list_indexAt l vs.toArray n none #[] (.str k t) (isStrOf k) j (by simp; lia) (by lia) ?_ ?_) ⟨ho, fun y hy => (eq_isStrOf k t hi y (by simpa using hy)).at _ _, h _ _ (C.tokens (Nat.le_succ _))⟩
  · show isStrOf k vs[j] = true
    rw [at' j (by lia), decide_eq_true_iff]; exact hj
  · intro i hi1 hi2
    show isStrOf k vs[i] = false
    rw [at' i (by simpa using hi1), decide_eq_false_iff_not]; exact hn i hi2
noncomputable def sp (n : Nat) : Str := ⟨(List.replicate n 32).toArray⟩
theorem foldl_sp (n : Nat) : (List.replicate n (Str.ofString " ").cps).foldl (· ++ ·) #[] = (List.replicate n 32).toArray := by
  have : ∀ (n : Nat) (acc : Array Nat), (List.replicate n (Str.ofString " ").cps).foldl (· ++ ·) acc = acc ++ (List.replicate n 32).toArray := by
    intro n
    induction n with
    | zero => intro acc; simp
    | succ n ih =>
      intro acc
      rw [List.replicate_succ, List.foldl_cons, ih, List.replicate_succ, Array.append_assoc]
      congr 1
      apply Array.ext'
      rw [Array.toList_append]
      rfl
  rw [this]; simp
theorem mulS {n : Nat} {t u : Tok} {Q : Value → Shared → Prop} (C : Cx σ prog w g L m own s₀ s) (hn : n ≤ 100) (h : ∀ t s', Cx σ prog w g L m own s₀ s' → Q (.str (sp n) t) s') :
    wpAny (model prog w) A (binaryOp .Mult (.str (Str.ofString " ") t) (.int n u)) Q E s := by
  refine PySem.P.mul_str (by simp; lia) (fun h1 _ => ?_) (fun h1 _ => ?_) ?_
  · have : ((Str.ofString " ").length : Int) = 1 := rfl
    rw [this]
    have h3 : (1 : Int) ≤ (2 ^ 63 - 1) / n := by
      apply Int.le_ediv_of_mul_le <;> lia
    lia
  · simp [Builtin.Str.tooLong, show (Str.ofString " ").length = 1 from rfl, sizeLine]; lia
  · by_cases h0 : (n : Int) < 1
    · rw [if_pos h0]
      have : n = 0 := by lia
      subst this
      exact ⟨by decide, h _ _ (C.tokens (Nat.le_succ _))⟩
    · rw [if_neg h0]
      by_cases h1 : ((n : Int) == 1 || (Str.ofString " ").length == 0) = true
      · rw [if_pos h1]
        have : n = 1 := by simp [show (Str.ofString " ").length = 1 from rfl] at h1; lia
        subst this
        exact h t _ C
      · rw [if_neg h1]
        rw [Int.toNat_natCast, foldl_sp]
        refine ⟨?_, h _ _ (C.tokens (Nat.le_succ _))⟩
        rw [sizeLine_eq]; simp [Str.length]; lia
theorem t3 {id : String} {e f k : Expr} {pos : Pos} {Q : Value → Shared → Prop} (h : wpAny M A (eval e env) (fun v s₁ => wpAny M A (eval f env) (fun v₂ s₂ => wpAny M A (eval k env) (fun v₃ s₃ => wpAny M A (call (.type id) [v, v₂, v₃]) Q E s₃) E s₂) E s₁) E s)
    (he : starEach [e, f, k] env = [(false, eval e env), (false, eval f env), (false, eval k env)] := by with_unfolding_all rfl) (he' : starEach [f, k] env = [(false, eval f env), (false, eval k env)] := by with_unfolding_all rfl) (he'' : starEach [k] env = [(false, eval k env)] := by with_unfolding_all rfl) : wpAny M A (callWith pos (.type id) [] (backTo pos (starEach [e, f, k] env)) []) Q E s :=
  PyProof.Rows.callWith_type1 (sm (wpAny_mono h (fun _ _ q => sm (wpAny_mono q (fun _ _ q => sm (wpAny_mono q (fun _ _ q => spliced_none q) fun _ _ e => e) he'') fun _ _ e => e) (he'.trans (by rw [he'']))) fun _ _ e => e) (he.trans (by rw [he']))) (he.trans (by rw [he'])) (by rw [he']; rfl)
noncomputable def rngO (a b c : Int) (t u v : Tok) : Obj := { cls := .type "range", data := .fields #[.int a t, .int b u, .int c v] }
theorem size_down (i : Int) : Builtin.Range.rangeSize i 0 (-1) = (i.toNat : Int) := by
  unfold Builtin.Range.rangeSize
  simp
  split <;> lia
theorem small_down {i : Int} (hi : -1000 ≤ i ∧ i ≤ 1000) : Builtin.Range.small i 0 (-1) = true := by
  unfold Builtin.Range.small
  rw [size_down]
  simp only [Builtin.Range.rangeFitsLong, Bool.and_eq_true, Bool.or_eq_true, decide_eq_true_eq, beq_iff_eq, gt_iff_lt, show ¬ ((0 : Int) < -1) by decide, if_false]
  lia
theorem cRange3 {i : Int} {t u v : Tok} {Q : Value → Shared → Prop} (C : Cx σ prog w g L m own s₀ s)
    (h : ∀ r s', Cx σ prog w g L m ((r, .raw (rngO i 0 (-1) t u v)) :: own) s₀ s' → Q (.ref r) s') (_hi : -1000 ≤ i ∧ i ≤ 1000) : wpAny (model prog w) A (call (.type "range") [.int i t, .int 0 u, .int (-1) v]) Q E s :=
  call_range_3 (by decide) (h _ _ (C.push (tk := s.toks) (sh := .raw (rngO i 0 (-1) t u v)) (Nat.le_refl _) (Heap.get?_push_size _ rfl))) (.inl (PyProof.noPylong_small (by lia)))
theorem itRange {r : Addr} {i : Int} {t u v : Tok} {Q : Value → Shared → Prop} (C : Cx σ prog w g L m own s₀ s) (hr : s.heap.get? r = some (rngO i 0 (-1) t u v)) (hi : -1000 ≤ i ∧ i ≤ 1000)
    (h : ∀ I s', Cx σ prog w g L m ((I, .raw (rit i (i.toNat : Int) (-1))) :: own) s₀ s' → Q (.ref I) s') : wpAny (model prog w) A (pyIter (.ref r)) Q E s := by
  refine wpAny_pyIter_range (a := i) (b := 0) (c := -1) (t := t) (u := u) (v := v) hr (small_down hi) ?_
  rw [size_down]
  exact h _ _ (C.push (tk := s.toks) (sh := .raw (rit i (i.toNat : Int) (-1))) (Nat.le_refl _) (Heap.get?_push_size _ rfl))
theorem cSplit {x : Str} {t : Tok} {Q : Value → Shared → Prop} (C : Cx σ prog w g L m own s₀ s) (hz : x.length ≤ 10000)
    (h : ∀ D vs s', Cx σ prog w g L m ((D, .list vs) :: own) s₀ s' → StrsAre vs (Txt.words x) → Q (.ref D) s') : wpAny (model prog w) A (call (.builtin "str.split") [.str x t]) Q E s := by
  have hn : (Builtin.Str.spaceWords x (x.length + 1)).length ≤ sizeLine := by
    have e1 := (StrLaws.sw_weight x).1
    have e2 := StrLaws.len_le_wsum (Builtin.Str.spaceWords x (x.length + 1))
    rw [sizeLine_eq]
    lia
  have sa : ∀ l : List (Str × Tok), StrsAre (strValues l) (l.map (·.1)) := fun l => by
    induction l with
    | nil => exact .nil
    | cons p r ih => exact .cons p.1 p.2 ih
  refine call_meets F.slot_str_split (typeIs_str _ _ _) F.entry_str_split (F.args_str_split_1 _) (meets_str_split_space x t (by rw [sizeLine_eq]; lia) hn) ?_
  cases hw : Builtin.Str.spaceWords x (x.length + 1) == [(0, x.length)]
  · simp only [Bool.false_eq_true, if_false]
    rw [strsFrom_eq]
    have e : (numbered s.toks (PySem.wordsOf x)).map (·.1) = Txt.words x := (numbered_texts s.toks (PySem.wordsOf x)).trans (if_neg (ne_true_of_eq_false hw)).symm
    refine h _ (strValues (numbered s.toks (PySem.wordsOf x))) _ (C.push (tk := s.toks + (Builtin.Str.spaceWords x (x.length + 1)).length) (Nat.le_add_right _ _) ⟨0, Heap.get?_push_size _ rfl⟩) ?_
    have h2 := sa (numbered s.toks (PySem.wordsOf x))
    rw [e] at h2
    exact h2
  · simp only [if_true]
    refine h _ (strValues [(x, t)]) _ (C.push (tk := s.toks) (Nat.le_refl _) ⟨0, Heap.get?_push_size _ rfl⟩) ?_
    have h2 := sa [(x, t)]
    have e : ([(x, t)] : List (Str × Tok)).map (·.1) = Txt.words x := (if_pos hw).symm
    rw [e] at h2
    exact h2
theorem subNeg {value slice : Expr} {l : Addr} {vs : List Value} {k : Int} {u : Tok} {v : Value} {Q : Value → Shared → Prop} (hl : Sh.Is prog w s.heap l (.list vs)) (h0 : k < 0) (hhi : -1000 ≤ k) (h1 : 0 ≤ k + vs.length) (hx : vs[(k + vs.length).toNat]? = some v) (h : Q v s)
    (hs : subscripted slice false (.ref l) (.int k u) = operate [.ref l, .int k u] (getItem (.ref l) (.int k u)) := by with_unfolding_all rfl) :
    wpAny (model prog w) A (subscriptTail value slice (.ref l) (.int k u)) Q E s :=
  tail_any (Heap.IsList.typeIs (Sh.isL hl)) slot_list_getitem.lookup (wpAny_getItem_list_neg (Sh.isL hl) h0 (by rw [List.size_toArray]; lia) (by lia) (by simpa using hx) h) hs
end
section
open PySem PySem.W PyProof.Rows PySem.Spec PySem.Calls Builtin
set_option maxHeartbeats 1000000
variable {σ : Bool} {prog : Program} {w : World} {g h h' : Heap} {L a : Addr} {m m' : List (Str × Value)} {own own' : List (Addr × Sh)} {s₀ s s' : Shared} {sh sh' : Sh}
variable {A : Around} {E : Value → Shared → Prop} {M : Model} {env : Env} {x y : Str} {v : Value}

inductive Pick {α : Type} (x : α) : List α → List α → Prop where
  | head {r} : Pick x (x :: r) r
  | tail {y r r'} : Pick x r r' → Pick x (y :: r) (y :: r')
theorem Pick.perm {α : Type} {x : α} {l r t : List α} (p : Pick x l r) (h : t.Perm r) : (x :: t).Perm l := by
  induction p generalizing t with
  | head => exact .cons _ h
  | @tail y r r' _ ih => exact ((h.cons x).trans (.swap ..)).trans ((ih (.refl _)).cons y)
structure Jx (w : World) (s : Shared) (g : Heap) (s₀ : Shared) : Prop where
  bs : Bs w g
  tq : Tq g
  base : ∀ b o, isTab b = false → s.heap.get? b = some o → g.get? b = some o
  os : s₀.os = s.os
  drawn : s₀.drawn = s.drawn
  gens : AllBare s.gens → AllBare s₀.gens
  toks : s.toks ≤ s₀.toks
theorem Jx.start (B : Bs w s.heap) (T : Tq s.heap) : Jx w s s.heap s := ⟨B, T, fun _ _ _ e => e, rfl, rfl, id, Nat.le_refl _⟩
theorem Jx.out {z : Shared} (J : Jx w s g s₀) (C : Cx true prog w g L m own s₀ z) : Gr false s z :=
  ⟨fun b o t e => C.keep b o rfl (J.base b o (by simpa using t) e), C.os.trans J.os, C.drawn.trans J.drawn, by
    rw [if_neg (by decide)]
    intro hb
    have e1 : z.gens = s₀.gens := by simpa using C.gens
    rw [e1]; exact J.gens hb, Nat.le_trans J.toks C.toks⟩
theorem Jx.jump {z z' : Shared} (J : Jx w s g s₀) (C : Cx true prog w g L m own s₀ z) (G : Gr false z z') (T : Tq z'.heap) (hs : own'.Sublist own) (h0 : m ≠ []) :
    ∃ g', Jx w s g' z' ∧ Cx true prog w g' L m own' z' z' ∧ (∀ b o, isTab b = false → g.get? b = some o → g'.get? b = some o) ∧
      (∀ p ∈ own, p.1 ∉ own'.map (·.1) → p.2.Is prog w g' p.1) ∧ (∀ b o, b ≠ L → b ∉ own'.map (·.1) → z'.heap.get? b = some o → g'.get? b = some o) := by
  obtain ⟨g', C', k1, k2, k3, k4⟩ := C.jump G hs h0
  refine ⟨g', ⟨J.bs.keeps (σ := false) fun b o t e => k1 b o (by simpa using t) e, T.at k2, fun b o t e => k1 b o t (J.base b o t e), ?_, ?_, ?_, ?_⟩, C', k1, k3, k4⟩
  · exact G.os.trans (C.os.trans J.os)
  · exact G.drawn.trans (C.drawn.trans J.drawn)
  · intro hb
    have e1 : z.gens = s₀.gens := by simpa using C.gens
    have e2 : AllBare z.gens → AllBare z'.gens := by simpa using G.gens
    exact e2 (by rw [e1]; exact J.gens hb)
  · exact Nat.le_trans J.toks (Nat.le_trans C.toks G.toks)
theorem enumAsksJ {asks : Str} {ta : Tok} {q : Nat → Nat} {p1 p2 pos : Pos} {k : Nat} {body : List Stmt} {Q : Flow → Shared → Prop} (P : Pg asks q) (hh : A.handled = none) (C : Cx true prog w g L m own s₀ s) (J : Nat → Heap → Shared → List (Str × Value) → List (Addr × Sh) → Prop) (h0 : J 0 g s₀ m own)
    (turn : ∀ i t0 u g s₀ m own z X Y e it, i < 9 → J i g s₀ m own → Cx true prog w g L m ((e, X) :: (it, Y) :: own) s₀ z →
      wpAny (model prog w) A (storeName env x (.int (i : Nat) t0)) (fun _ s₁ => wpAny (model prog w) A (storeName env y (.str (sg (q i)) u)) (fun _ s₂ => wpAny (model prog w) A (execs body env) (fun fl s₃ => match fl with
        | .next | .cont => ∃ g' s₀' m' own', J (i + 1) g' s₀' m' own' ∧ Cx true prog w g' L m' ((e, X) :: (it, Y) :: own') s₀' s₃
        | .brk => Q .next s₃
        | .ret v => Q (.ret v) s₃) (fun _ _ => False) s₂) (fun _ _ => False) s₁) (fun _ _ => False) z)
    (done : ∀ g s₀ m own z, J 9 g s₀ m own → Cx true prog w g L m own s₀ z → Q .next z) :
    wpAny (model prog w) A (call (.type "enumerate") [.str asks ta]) (fun v s₁ => wpAny (model prog w) A (pyIter v) (fun it s₂ => Loop prog w A (.Tuple [.Name x p1, .Name y p2] k pos) it body env Q E s₂) E s₁) E s := by
  refine call_enumerate_str fun h' he hi hz hk => ?_
  refine wpAny_pyIter_enum (he : IsEnum _ _ _ _ _) ?_
  rw [P.ascii] at hi
  have htop := C.top
  have C1 : Cx true prog w g L m ((s.heap.objs.size + 1, .raw (enO s.heap.objs.size 0 .none)) :: (s.heap.objs.size, .flds "str_ascii_iterator" [.str asks ta, .int 0 0]) :: own) s₀ { s with heap := h' } := by
    have C2 := C.add (a := s.heap.objs.size) (sh := .flds "str_ascii_iterator" [.str asks ta, .int 0 0]) (s' := { s with heap := h' }) (Gr.heap (Nat.le_refl _) hk) (by obtain ⟨o, ho, r1, r2⟩ := hi; exact ⟨o, ho, r1, r2⟩) (get_size _) C.top
    have hne : s.heap.get? (s.heap.objs.size + 1) = none := by
      cases q : s.heap.get? (s.heap.objs.size + 1) with
      | none => rfl
      | some o => exact absurd (Heap.lt_size q) Nat.not_succ_lt_self
    have ht2 : 203 ≤ s.heap.objs.size + 1 := Nat.le_succ_of_le htop
    have C3 := C.add (a := s.heap.objs.size + 1) (sh := .raw (enO s.heap.objs.size 0 .none)) (s' := { s with heap := h' }) (Gr.heap (Nat.le_refl _) hk) he hne ht2
    refine ⟨C2.ns, C2.keep, C2.low, C2.above, fun p hp => ?_, ?_, C2.uq, C2.os, C2.drawn, C2.gens, C2.toks⟩
    · rcases List.mem_cons.mp hp with rfl | hp
      · exact C3.its _ List.mem_cons_self
      · exact C2.its p hp
    · have n2 := C2.nd
      have n3 := C3.nd
      rw [List.map_cons, List.map_cons, List.nodup_cons]
      rw [List.map_cons, List.nodup_cons] at n3
      refine ⟨fun hm => ?_, n2⟩
      rcases List.mem_cons.mp hm with e | hm
      · exact absurd e (Nat.succ_ne_self _)
      · exact n3.1 hm
  refine loop_enumJ (f := fun i => [.str asks ta, .int (i : Nat) 0]) (c := "str_ascii_iterator") hh (Draws.strAscii (A := A.in1) hh s.heap.objs.size asks ta) (Nat.succ_ne_self _) (by simp) (by simp) J ?_ ?_ C1 h0 rfl rfl ?_ ?_
  · intro i h hS; obtain ⟨o, ho, r1, r2⟩ := hS; exact ⟨o, ho, r1, r2⟩
  · intro i g s₀ m own z old _ C; obtain ⟨o, ho, r1, r2⟩ := C.is (List.mem_cons_of_mem _ List.mem_cons_self); exact ⟨o, ho, r1, r2⟩
  · rintro i t0 v g s₀ m own old z hi ⟨c, u, hc, rfl⟩ hJ C
    have hi9 : i < 9 := by rw [P.size] at hi; exact hi
    have := P.at' i hi9
    rw [hc] at this
    cases this
    exact assignInOrder_cons (wpAny_assign_Name (wpAny_mono (turn i t0 u g s₀ m own z _ _ _ _ hi9 hJ C) (fun _ s₁ h1 => assignInOrder_cons (wpAny_assign_Name (wpAny_mono h1 (fun _ s₂ h2 => assignInOrder_nil h2) fun _ _ e => e.elim))) fun _ _ e => e.elim))
  · intro g s₀ m own z hJ C
    rw [P.size] at hJ
    exact done g s₀ m own z hJ C
inductive PrJ (prog : Program) (w : World) (L I al : Addr) (J : Nat → Heap → Shared → List (Str × Value) → List (Addr × Sh) → Prop) (n r : Nat) (s : Shared) : Prop
  | mk (i : Nat) (g : Heap) (s₀ : Shared) (m : List (Str × Value)) (own : List (Addr × Sh)) (hi : i + r = n) (hJ : J i g s₀ m own) (C : Cx true prog w g L m ((I, .flds "list_iterator" [.ref al, .int (i : Nat) 0]) :: own) s₀ s) : PrJ prog w L I al J n r s
theorem loop_pairs {I al : Addr} {vs : List Value} {ps : Pcs} {elts : List Expr} {k : Nat} {pos : Pos} {body : List Stmt} {Q : Flow → Shared → Prop} (hh : A.handled = none)
    (J : Nat → Heap → Shared → List (Str × Value) → List (Addr × Sh) → Prop) (hal : ∀ i g s₀ m own, J i g s₀ m own → (al, Sh.list vs) ∈ own) (hps : ∀ i g s₀ m own, J i g s₀ m own → PairsAt g vs ps)
    (C : Cx true prog w g L m ((I, .flds "list_iterator" [.ref al, .int 0 0]) :: own) s₀ s) (h0 : J 0 g s₀ m own)
    (hn2 : (assignEach elts env).length = 2) (hstar : (assignEach elts env).findIdx? (·.1) = none)
    (turn : ∀ i t u g s₀ m own z Y, i < vs.length → J i g s₀ m own → Cx true prog w g L m ((I, Y) :: own) s₀ z →
      wpAny (model prog w) A (assignInOrder ((assignEach elts env).map (·.2)) [.str (fstOf ps i) t, .str (sndOf ps i) u]) (fun _ s₂ => wpAny (model prog w) A (execs body env) (fun fl s₃ => match fl with
        | .next | .cont => ∃ g' s₀' m' own', J (i + 1) g' s₀' m' own' ∧ Cx true prog w g' L m' ((I, Y) :: own') s₀' s₃
        | .brk => Q .next s₃
        | .ret v => Q (.ret v) s₃) (fun _ _ => False) s₂) (fun _ _ => False) z)
    (done : ∀ g s₀ m own z, J vs.length g s₀ m own → Cx true prog w g L m own s₀ z → Q .next z) : Loop prog w A (.Tuple elts k pos) (.ref I) body env Q E s := by
  have hne : al ≠ I := by
    have nd := C.nd
    rw [List.map_cons, List.nodup_cons] at nd
    rintro rfl
    exact nd.1 (List.mem_map_of_mem (f := (·.1)) (hal _ _ _ _ _ h0))
  have W := Walks.list (A := A) (prog := prog) (w := w) (by with_unfolding_all exact hh) I al hne vs.toArray
  refine codeAny_forLoop_any (PrJ prog w L I al J vs.length) (fun r z ⟨i, g, s₀, m, own, hi, hJ, C⟩ => ?_) vs.length ⟨0, g, s₀, m, own, by lia, h0, C⟩
  have hiter : z.heap.IsListIter I al i := by
    obtain ⟨o, ho, r1, r2⟩ := C.is List.mem_cons_self
    exact ⟨o, ho, r1, by simpa using r2⟩
  have hlst : z.heap.IsList al vs.toArray := Sh.isL (C.is (List.mem_cons_of_mem _ (hal _ _ _ _ _ hJ)))
  by_cases hin : i < vs.length
  · obtain ⟨Ts, ta, tb, HT⟩ := (hps _ _ _ _ _ hJ).fns
    obtain ⟨e1, e2, e3⟩ := HT i hin
    refine wpAny_with_toks (Nat.le_refl _) (W.item i z _ _ (by simpa using hin) ⟨hiter, hlst⟩ fun v h' tk hP hS hk ht => ?_)
    have hv : v = .ref (Ts i) := by
      have : vs.toArray[i]? = some v := hP
      rw [e1] at this; exact (Option.some.inj this).symm
    subst hv
    have C2 : Cx true prog w g L m ((I, .flds "list_iterator" [.ref al, .int (i + 1 : Nat) 0]) :: own) s₀ { z with heap := h', toks := tk } :=
      C.next Up.head ht (fun b o hb e => hk b o (by simpa using hb) e) (by obtain ⟨o, ho, r1, r2⟩ := hS.1; exact ⟨o, ho, r1, by simpa using r2⟩)
    have hT2 : h'.IsTuple (Ts i) #[.str (fstOf ps i) (ta i), .str (sndOf ps i) (tb i)] := by
      obtain ⟨o, ho, r⟩ := e3
      exact ⟨o, C2.keep _ _ rfl ho, r⟩
    refine wpAny_letOwnedTupleGo_listiter hS.1 ?_
    refine wpAny_assign_Tuple hh (items := #[.str (fstOf ps i) (ta i), .str (sndOf ps i) (tb i)]) hT2 (by rw [hn2]; rfl) hstar fun h3 hx3 => ?_
    have C3 : Cx true prog w g L m ((I, .flds "list_iterator" [.ref al, .int (i + 1 : Nat) 0]) :: own) s₀ { z with heap := h3, toks := tk } :=
      C2.grown (s' := { z with heap := h3, toks := tk }) ⟨fun b o _ q => hx3 b o (Nat.ne_of_lt (Heap.lt_size q)) q, rfl, rfl, gens_refl, Nat.le_refl _⟩
    refine wpAny_mono (turn i _ _ g s₀ m own _ _ hin hJ C3) (fun _ s₂ q => wpAny_mono q (fun fl s₃ q => ?_) (fun _ _ e => e.elim)) (fun _ _ e => e.elim)
    cases fl with
    | next => obtain ⟨g', s₀', m', own', hJ', C'⟩ := q; exact ⟨r - 1, by lia, i + 1, g', s₀', m', own', by lia, hJ', C'⟩
    | cont => obtain ⟨g', s₀', m', own', hJ', C'⟩ := q; exact ⟨r - 1, by lia, i + 1, g', s₀', m', own', by lia, hJ', C'⟩
    | brk => exact q
    | ret v => exact q
  · have hin' : i = vs.length := by lia
    subst hin'
    refine wpAny_with_toks (Nat.le_refl _) (W.done z _ _ (by simpa using ⟨hiter, hlst⟩) fun h1 tk hkeep ht => ?_)
    refine wpAny_execs_nil (done g s₀ m own _ hJ (C.gone ht fun b o hb e => hkeep b o (by simpa using hb) e))
end
section
open PySem PySem.W PyProof.Rows PySem.Spec PySem.Calls Builtin
noncomputable abbrev Pile := List (Nat × Nat)
noncomputable def pcsOf (P : Pile) : Pcs := P.map fun x => (sp x.1, sg x.2)
noncomputable def ltP (a b : Nat × Nat) : Bool := if a.1 = b.1 then decide (a.2 < b.2) else decide (a.1 < b.1)
noncomputable def bubAt (l : Pile) (k : Nat) : Pile := if ltP (l.getD (k - 1) (0, 0)) (l.getD k (0, 0)) then (l.set (k - 1) (l.getD k (0, 0))).set k (l.getD (k - 1) (0, 0)) else l
noncomputable def bub : Nat → Pile → Pile
  | 0, l => l
  | k + 1, l => bub k (bubAt l (k + 1))
noncomputable def pileText' (P : Pile) : Str := pileText (pcsOf P) P.length
structure PileS where
  pile : Pile
  depths : List Int
  shown : List Str
  sizes : List Int
noncomputable def cutOf (p : Nat) (P : Pile) : Int × Pile × Pile :=
  match (P.map (·.2)).idxOf? p with
  | some j => ((P.length : Int) - j, P.take j, P.drop (j + 1))
  | none => (0, [], P)
noncomputable def pileStep (head : Int) (hr p : Nat) (S : PileS) : PileS :=
  let c := cutOf p S.pile
  let P := c.2.1 ++ bub (c.2.2.length - 1) c.2.2 ++ [(hr, p)]
  ⟨P, S.depths ++ [c.1], S.shown ++ [pileText' P], S.sizes ++ [head + preSum (lenOf (pcsOf P)) P.length]⟩
noncomputable def pileRun (q : Nat → Nat) (hf : Nat → Nat) (head : Int) : Nat → PileS
  | 0 => ⟨[], [], [], []⟩
  | i + 1 => pileStep head (hf i) (q i) (pileRun q hf head i)

theorem bubAt_length (l : Pile) (k : Nat) : (bubAt l k).length = l.length := by unfold bubAt; split <;> simp
theorem bub_length : ∀ (k : Nat) (l : Pile), (bub k l).length = l.length
  | 0, _ => rfl
  | k + 1, l => by rw [bub, bub_length k, bubAt_length]
theorem bubAt_mem {l : Pile} {k : Nat} (hk : k < l.length) {x : Nat × Nat} (h : x ∈ bubAt l k) : x ∈ l := by
  unfold bubAt at h
  have h1 : l.getD k (0, 0) ∈ l := by simp [List.getD_eq_getElem?_getD, List.getElem?_eq_getElem hk]
  have h2 : l.getD (k - 1) (0, 0) ∈ l := by simp [List.getD_eq_getElem?_getD, List.getElem?_eq_getElem (show k - 1 < l.length by lia)]
  split at h
  · rcases List.mem_or_eq_of_mem_set h with h | rfl
    · rcases List.mem_or_eq_of_mem_set h with h | rfl
      · exact h
      · exact h1
    · exact h2
  · exact h
theorem bub_mem : ∀ (k : Nat) {l : Pile}, k < l.length ∨ k = 0 → ∀ {x : Nat × Nat}, x ∈ bub k l → x ∈ l
  | 0, _, _, _, h => h
  | k + 1, l, hk, x, h => by
    have hk : k + 1 < l.length := by lia
    rw [bub] at h
    exact bubAt_mem hk (bub_mem k (by rw [bubAt_length]; lia) h)
theorem cutOf_length (p : Nat) (P : Pile) : (cutOf p P).2.1.length + (cutOf p P).2.2.length ≤ P.length := by
  unfold cutOf
  split
  · simp; lia
  · simp
theorem cutOf_mem (p : Nat) (P : Pile) : (∀ x ∈ (cutOf p P).2.1, x ∈ P) ∧ (∀ x ∈ (cutOf p P).2.2, x ∈ P) := by
  unfold cutOf
  split
  · exact ⟨fun x h => List.mem_of_mem_take h, fun x h => List.mem_of_mem_drop h⟩
  · exact ⟨fun x h => (nomatch h), fun x h => h⟩
structure PileOk (i : Nat) (S : PileS) : Prop where
  len : S.pile.length ≤ i
  hr : ∀ x ∈ S.pile, (1 ≤ x.1 ∧ x.1 ≤ 12) ∧ x.2 < 4
  d : S.depths.length = i
  s : S.shown.length = i
  z : S.sizes.length = i
theorem pileStep_ok {i : Nat} {S : PileS} (H : PileOk i S) (head : Int) {hr p : Nat} (h1 : 1 ≤ hr ∧ hr ≤ 12) (h2 : p < 4) : PileOk (i + 1) (pileStep head hr p S) := by
  have h3 := cutOf_length p S.pile
  have h4 := H.len
  have h5 := cutOf_mem p S.pile
  refine ⟨?_, fun x hx => ?_, ?_, ?_, ?_⟩
  · simp only [pileStep, List.length_append, bub_length, List.length_cons, List.length_nil]; lia
  · simp only [pileStep, List.mem_append, List.mem_singleton] at hx
    rcases hx with (hx | hx) | rfl
    · exact H.hr x (h5.1 x hx)
    · refine H.hr x (h5.2 x (bub_mem _ ?_ hx))
      lia
    · exact ⟨h1, h2⟩
  · simp [pileStep, H.d]
  · simp [pileStep, H.s]
  · simp [pileStep, H.z]
theorem pileRun_ok {q hf : Nat → Nat} (head : Int) (h1 : ∀ i, 1 ≤ hf i ∧ hf i ≤ 12) (h2 : ∀ i, q i < 4) : ∀ i, PileOk i (pileRun q hf head i)
  | 0 => ⟨Nat.le_refl _, fun _ h => (nomatch h), rfl, rfl, rfl⟩
  | i + 1 => pileStep_ok (pileRun_ok head h1 h2 i) head (h1 i) (h2 i)
theorem fst_pcs (P : Pile) (j : Nat) : (fstOf (pcsOf P) j).length + (sndOf (pcsOf P) j).length ≤ (P.getD j (0, 0)).1 + 1 := by
  unfold fstOf sndOf pcsOf
  rw [List.getD_eq_getElem?_getD, List.getD_eq_getElem?_getD, List.getElem?_map]
  cases P[j]? with
  | none => simp; decide
  | some x => simp [sp, sg, Str.length]
theorem pcs_bound {P : Pile} (h : ∀ x ∈ P, x.1 ≤ 12 ∧ x.2 < 4) (j : Nat) : (fstOf (pcsOf P) j).length + (sndOf (pcsOf P) j).length ≤ 13 := by
  have h1 := fst_pcs P j
  have h2 : (P.getD j (0, 0)).1 ≤ 12 := by
    rw [List.getD_eq_getElem?_getD]
    cases e : P[j]? with
    | none => simp
    | some x => exact (h x (List.mem_of_getElem? e)).1
  lia
theorem pcs_append (P : Pile) (x : Nat × Nat) : pcsOf (P ++ [x]) = pcsOf P ++ [(sp x.1, sg x.2)] := by simp [pcsOf]
theorem pileText_cps (P : Pile) : (pileText' P).cps.toList = (P.map fun x => List.replicate x.1 32 ++ [97 + x.2]).flatten := by
  unfold pileText' pileText
  rw [join_flat, List.map_map]
  congr 1
  apply List.ext_getElem?
  intro j
  rw [List.getElem?_map, List.getElem?_map]
  by_cases hj : j < P.length
  · rw [List.getElem?_range hj, List.getElem?_eq_getElem hj]
    simp only [Option.map_some, Option.some.injEq, Function.comp]
    unfold txtOf fstOf sndOf pcsOf
    rw [List.getD_eq_getElem?_getD, List.getElem?_map, List.getElem?_eq_getElem hj]
    simp [Str.cps_append, sp, sg]
  · rw [List.getElem?_eq_none (by simpa using hj), List.getElem?_eq_none (by simpa using hj)]
    rfl
theorem step_sp (ws : List Str) : ∀ n, (List.replicate n 32).foldl KWd.step (ws, Str.empty) = (ws, Str.empty)
  | 0 => rfl
  | n + 1 => by
    rw [List.replicate_succ, List.foldl_cons]
    have : KWd.step (ws, Str.empty) 32 = (ws, Str.empty) := rfl
    rw [this, step_sp ws n]
noncomputable def pend (r : Str) : List Str := if r.length = 0 then [] else [r]
theorem step_sp1 (ws : List Str) (r : Str) (hr : r = Str.empty ∨ r.length ≠ 0) : ∀ n, 1 ≤ n → (List.replicate n 32).foldl KWd.step (ws, r) = (ws ++ pend r, Str.empty)
  | 0, h => by lia
  | n + 1, _ => by
    rw [List.replicate_succ, List.foldl_cons]
    have : KWd.step (ws, r) 32 = (ws ++ pend r, Str.empty) := by
      have hs : Unicode.isSpace 32 = true := by decide +kernel
      unfold KWd.step pend
      rw [if_pos hs]
      rcases hr with rfl | hr
      · have h0 : Str.empty.length = 0 := rfl
        simp [h0]
      · simp only [if_neg hr]
    rw [this, step_sp]
theorem step_sg (ws : List Str) {p : Nat} (hp : p < 4) : KWd.step (ws, Str.empty) (97 + p) = (ws, sg p) := by
  have hs : ∀ p, p < 4 → Unicode.isSpace (97 + p) = false := by decide +kernel
  unfold KWd.step
  rw [if_neg (by rw [hs p hp]; decide)]
  rfl
theorem sg_len (p : Nat) : (sg p).length = 1 := rfl
theorem scan_pile : ∀ (P : Pile) (ws : List Str) (r : Str), (r = Str.empty ∨ r.length ≠ 0) → (∀ x ∈ P, 1 ≤ x.1 ∧ x.2 < 4) → KWd.fin (((P.map fun x => List.replicate x.1 32 ++ [97 + x.2]).flatten).foldl KWd.step (ws, r)) = ws ++ pend r ++ P.map (fun x => sg x.2)
  | [], ws, r, hr, _ => by
    simp only [List.map_nil, List.flatten_nil, List.foldl_nil, List.append_nil]
    unfold KWd.fin pend
    split <;> simp
  | x :: P, ws, r, hr, h => by
    obtain ⟨h1, h2⟩ := h x List.mem_cons_self
    rw [List.map_cons, List.flatten_cons, List.foldl_append, List.foldl_append, step_sp1 ws r hr x.1 h1, List.foldl_cons, List.foldl_nil, step_sg _ h2,
      scan_pile P _ _ (.inr (by rw [sg_len]; decide)) (fun y hy => h y (List.mem_cons_of_mem _ hy))]
    have : pend (sg x.2) = [sg x.2] := by unfold pend; rw [if_neg (by rw [sg_len]; decide)]
    rw [this]
    simp
theorem words_pile {P : Pile} (h : ∀ x ∈ P, 1 ≤ x.1 ∧ x.2 < 4) : Txt.words (pileText' P) = P.map (fun x => sg x.2) := by
  rw [KWd.words_scan]
  unfold KWd.scan
  rw [pileText_cps, scan_pile P [] _ (.inl rfl) h]
  rfl
theorem join_len (f : Nat → Str) (ps : Pcs) (hf : f = txtOf ps) : ∀ n, (((Txt.join "" ((List.range n).map f)).cps.toList.length : Nat) : Int) = preSum (lenOf ps) n
  | 0 => rfl
  | n + 1 => by
    have ih := join_len f ps hf n
    rw [join_flat] at ih ⊢
    rw [List.range_succ, List.map_append, List.map_append, List.flatten_append, preSum]
    simp only [List.length_append, List.map_cons, List.map_nil, List.flatten_cons, List.flatten_nil, List.append_nil] at ih ⊢
    subst hf
    have : ((txtOf ps n).cps.toList.length : Int) = lenOf ps n := by
      unfold txtOf lenOf
      rw [Str.cps_append]
      simp [Str.length]
    push_cast
    lia
theorem pileText_length (P : Pile) : ((pileText' P).length : Int) = preSum (lenOf (pcsOf P)) P.length := by
  have := join_len _ (pcsOf P) rfl P.length
  rw [← this]
  unfold pileText' pileText
  simp [Str.length]
end
section
open PySem PySem.W PyProof.Rows PySem.Spec PySem.Calls Builtin
set_option maxHeartbeats 1000000
variable {σ : Bool} {prog : Program} {w : World} {g h h' : Heap} {L a : Addr} {m m' : List (Str × Value)} {own own' : List (Addr × Sh)} {s₀ s s' : Shared} {sh sh' : Sh}
variable {A : Around} {E : Value → Shared → Prop} {M : Model} {env : Env} {x y : Str} {v : Value}

theorem find_pc {P : Params} : findIn (KK P) (.ref 101) "part_count" = some (some (.ref 98)) := by kernel_rfl
theorem find_push {P : Params} : findIn (KK P) (.ref 101) "push" = some (some (.ref 45)) := by kernel_rfl
theorem find_pop {P : Params} : findIn (KK P) (.ref 101) "pop_from" = some (some (.ref 53)) := by kernel_rfl
theorem ty_98 {P : Params} : typeIn (KK P) (.ref 98) = some (.type "function") := by kernel_rfl
theorem ty_45 {P : Params} : typeIn (KK P) (.ref 45) = some (.type "function") := by kernel_rfl
theorem ty_53 {P : Params} : typeIn (KK P) (.ref 53) = some (.type "function") := by kernel_rfl
theorem kp_98 {P : Params} : keepIn (KK P) (.ref 98) = true := by kernel_rfl!
theorem kp_45 {P : Params} : keepIn (KK P) (.ref 45) = true := by kernel_rfl!
theorem kp_53 {P : Params} : keepIn (KK P) (.ref 53) = true := by kernel_rfl!
theorem kp_101 {P : Params} : keepIn (KK P) (.ref 101) = true := by kernel_rfl!
theorem gn_acc {P : Params} : nsIn (KK P) mainGlobals "_Accumulator" = some (some (.ref 101)) := by kernel_rfl!
theorem k0 (B : Bs w s.heap) {f : Addr} {o : Value} {pos : Pos} {Q : Value → Shared → Prop} (hk : keepIn (KK w.params) (.ref f) = true)
    (h : wpAny (model prog w) A (call (.ref f) [o]) Q E s) : wpAny (model prog w) A (callWith pos (.ref f) [o] (backTo pos (starEach [] env)) []) Q E s :=
  callWith_K0 (K := KK w.params) B.k hk h
theorem k1 (B : Bs w g) {f : Addr} {o : Value} {e : Expr} {pos : Pos} {Q : Value → Shared → Prop} (hk : keepIn (KK w.params) (.ref f) = true)
    (h : wpAny (model prog w) A (eval e env) (fun v s₁ => Bs w s₁.heap ∧ wpAny (model prog w) A (call (.ref f) [o, v]) Q E s₁) E s)
    (he : starEach [e] env = [(false, eval e env)] := by with_unfolding_all rfl) : wpAny (model prog w) A (callWith pos (.ref f) [o] (backTo pos (starEach [e] env)) []) Q E s := by
  refine callWith_K (K := KK w.params) B.k hk (sm (wpAny_mono h (fun _ _ q => spliced_none ⟨q.1.k, q.2⟩) fun _ _ e => e) he) ?_ ?_
  · exact he
  · rfl
theorem k2 (B : Bs w g) {f : Addr} {o : Value} {e e2 : Expr} {pos : Pos} {Q : Value → Shared → Prop} (hk : keepIn (KK w.params) (.ref f) = true)
    (h : wpAny (model prog w) A (eval e env) (fun v s₁ => wpAny (model prog w) A (eval e2 env) (fun v₂ s₂ => Bs w s₂.heap ∧ wpAny (model prog w) A (call (.ref f) [o, v, v₂]) Q E s₂) E s₁) E s)
    (he : starEach [e, e2] env = [(false, eval e env), (false, eval e2 env)] := by with_unfolding_all rfl) (he' : starEach [e2] env = [(false, eval e2 env)] := by with_unfolding_all rfl) : wpAny (model prog w) A (callWith pos (.ref f) [o] (backTo pos (starEach [e, e2] env)) []) Q E s := by
  refine callWith_K (K := KK w.params) B.k hk (sm (wpAny_mono h (fun _ _ q => sm (wpAny_mono q (fun _ _ q => spliced_none ⟨q.1.k, q.2⟩) fun _ _ e => e) he') fun _ _ e => e) (he.trans (by rw [he']))) ?_ ?_
  · exact he.trans (by rw [he'])
  · rw [he']; rfl
theorem Cx.r22 {a b c d : Addr × Sh} (C : Cx σ prog w g L m (a :: b :: c :: d :: own) s₀ s) : Cx σ prog w g L m (c :: d :: a :: b :: own) s₀ s :=
  C.perm (by
    have : (c :: d :: a :: b :: own) = [c, d] ++ ([a, b] ++ own) := rfl
    rw [this, show (a :: b :: c :: d :: own) = [a, b] ++ ([c, d] ++ own) from rfl, ← List.append_assoc, ← List.append_assoc]
    exact List.Perm.append_right _ List.perm_append_comm)
theorem Cx.r21 {a b c : Addr × Sh} (C : Cx σ prog w g L m (a :: b :: c :: own) s₀ s) : Cx σ prog w g L m (c :: a :: b :: own) s₀ s := C.rot.rot
theorem subListT {value slice : Expr} {l i : Addr} {vs : List Value} {k : Int} {u : Tok} {Q : Value → Shared → Prop} (C : Cx σ prog w g L m own s₀ s) (hl : Sh.Is prog w s.heap l (.list vs)) (hi : Sh.Is prog w s.heap i (slSh (.int k u) .none)) (hn : vs.length ≤ 10000)
    (h : ∀ r s', Cx σ prog w g L m ((r, .list (slicePick vs.toArray (some k) none none).toList) :: own) s₀ s' → Q (.ref r) s')
    (hs : subscripted slice false (.ref l) (.ref i) = operate [.ref i, .ref l] (getItem (.ref l) (.ref i)) := by with_unfolding_all rfl) :
    wpAny (model prog w) A (subscriptTail value slice (.ref l) (.ref i)) Q E s := by
  refine tail_any (Heap.IsList.typeIs (Sh.isL hl)) list_getitem_lookup (wpAny_getItem_list_slice (Sh.isL hl) (vl := .int k u) (vu := .none) (vs := .none) ?_ (.int k u) .none .none (by simp) ?_ (by rw [sizeLine_eq, List.size_toArray]; lia)) hs
  · obtain ⟨o, ho, r1, r2⟩ := hi; exact ⟨o, ho, r1, by simpa using r2⟩
  · exact h _ _ (C.push (tk := s.toks) (Nat.le_refl _) ⟨0, Heap.get?_push_size _ rfl⟩)
theorem pick_from (xs : List Value) (k : Nat) : (slicePick xs.toArray (some (k : Int)) none none).toList = xs.drop k := by
  rw [kms_pick_eq]
  have h1 : kms_lo (some (k : Int)) xs.length = min k xs.length := by
    unfold kms_lo
    simp only [show ¬ ((k : Int) < 0) by lia, if_false]
    lia
  have h2 : kms_hi none xs.length = xs.length := rfl
  show (kms_pick xs (some (k : Int)) none) = _
  unfold kms_pick
  rw [h1, h2]
  by_cases hk : k ≤ xs.length
  · rw [Nat.min_eq_left hk]
    exact List.take_of_length_le (by simp)
  · rw [Nat.min_eq_right (by lia), List.drop_length, List.drop_eq_nil_of_le (by lia)]
    simp
theorem PairsAt.drop {xs : List Value} {ps : Pcs} (H : PairsAt h xs ps) : ∀ k, PairsAt h (xs.drop k) (ps.drop k) := by
  induction H with
  | nil => intro k; simpa using PairsAt.nil
  | cons h1 h2 hr ih =>
    intro k
    cases k with
    | zero => exact .cons h1 h2 hr
    | succ k => exact ih k
theorem PairsAt.take {xs : List Value} {ps : Pcs} (H : PairsAt h xs ps) : ∀ k, PairsAt h (xs.take k) (ps.take k) := by
  induction H with
  | nil => intro k; simpa using PairsAt.nil
  | cons h1 h2 hr ih =>
    intro k
    cases k with
    | zero => exact .nil
    | succ k => exact .cons h1 h2 (ih k)
theorem PairsAt.at {xs : List Value} {ps : Pcs} (H : PairsAt h xs ps) : ∀ (k : Nat) (p : Str × Str), ps[k]? = some p → ∃ T ta tb, xs[k]? = some (.ref T) ∧ 203 ≤ T ∧ h.IsTuple T #[.str p.1 ta, .str p.2 tb] := by
  induction H with
  | nil => intro k p e; simp at e
  | @cons T q ta tb vs ps h1 h2 hr ih =>
    intro k p e
    cases k with
    | zero => simp at e; subst e; exact ⟨T, ta, tb, rfl, h1, h2⟩
    | succ k => exact ih k p (by simpa using e)
theorem PairsAt.set {xs : List Value} {ps : Pcs} {T : Addr} {p : Str × Str} {ta tb : Tok} (H : PairsAt h xs ps) (h1 : 203 ≤ T) (h2 : h.IsTuple T #[.str p.1 ta, .str p.2 tb]) : ∀ k, PairsAt h (xs.set k (.ref T)) (ps.set k p) := by
  induction H with
  | nil => intro k; simpa using PairsAt.nil
  | cons k1 k2 hr ih =>
    intro k
    cases k with
    | zero => exact .cons h1 h2 hr
    | succ k => exact .cons k1 k2 (ih k)
theorem sp_eq {n n' : Nat} : (sp n = sp n') = (n = n') := propext ⟨fun e => by
  have := congrArg (fun x : Str => x.cps.size) e
  simpa [sp] using this, fun e => by rw [e]⟩
theorem sp_lt (n n' : Nat) : decide ((sp n).cps.toList < (sp n').cps.toList) = decide (n < n') := by
  have key : ∀ n n', (List.replicate n 32 < List.replicate n' 32) ↔ n < n' := by
    intro n
    induction n with
    | zero => intro n'; cases n' <;> simp [List.replicate_succ]
    | succ n ih =>
      intro n'
      cases n' with
      | zero => simp [List.replicate_succ]
      | succ n' => simp [List.replicate_succ, ih]
  simp only [sp, key]
theorem sg_lt (p p' : Nat) : decide ((sg p).cps.toList < (sg p').cps.toList) = decide (p < p') := by
  simp [sg, List.cons_lt_cons_iff]
theorem lt_bool (x y : Nat × Nat) : (if sp x.1 = sp y.1 then (if sg x.2 = sg y.2 then false else decide ((sg x.2).cps.toList < (sg y.2).cps.toList)) else decide ((sp x.1).cps.toList < (sp y.1).cps.toList)) = ltP x y := by
  simp only [sp_eq, sg_eq, sp_lt, sg_lt, ltP]
  split
  · split
    · rename_i e; rw [e]; simp
    · rfl
  · rfl
theorem asSub {o i : Expr} {pos : Pos} {v : Value} {Q : Unit → Shared → Prop} (h : wpAny M A (eval o env) (fun ov s₁ => wpAny M A (eval i env) (fun iv s₂ => wpAny M A (setItem ov iv v) Q E s₂) E s₁) E s) : wpAny M A (assign (.Subscript o i pos) env v) Q E s := by
  rw [arm_assign_Subscript]
  exact wpAny_bind (wpAny_holding (wpAny_mono h (fun ov s₁ h₁ => wpAny_bind (wpAny_holding (wpAny_mono h₁ (fun iv s₂ h₂ => wpAny_bind (wpAny_standAt (wpAny_bind (wpAny_holding (wpAny_mono h₂ (fun _ s₃ h₃ => wpAny_release h₃) fun _ _ e => e))))) fun _ _ e => e))) fun _ _ e => e))
end
section
open PySem PySem.W PyProof.Rows PySem.Spec PySem.Calls Builtin
set_option maxHeartbeats 1000000
variable {σ : Bool} {prog : Program} {w : World} {g h h' : Heap} {L a : Addr} {m m' : List (Str × Value)} {own own' : List (Addr × Sh)} {s₀ s s' : Shared} {sh sh' : Sh}
variable {A : Around} {E : Value → Shared → Prop} {M : Model} {env : Env} {x y : Str} {v : Value}

theorem pcs_drop (P : Pile) (k : Nat) : (pcsOf P).drop k = pcsOf (P.drop k) := by simp [pcsOf]
theorem pcs_take (P : Pile) (k : Nat) : (pcsOf P).take k = pcsOf (P.take k) := by simp [pcsOf]
theorem pcs_len (P : Pile) : (pcsOf P).length = P.length := by simp [pcsOf]
theorem pcs_more (low ab : Pile) {k : Nat} (hk : k < ab.length) : pcsOf (low ++ ab.take k) ++ [(fstOf (pcsOf ab) k, sndOf (pcsOf ab) k)] = pcsOf (low ++ ab.take (k + 1)) := by
  rw [List.take_add_one, List.getElem?_eq_getElem hk]
  have h1 : fstOf (pcsOf ab) k = sp ab[k].1 := by
    unfold fstOf pcsOf
    rw [List.getD_eq_getElem?_getD, List.getElem?_map, List.getElem?_eq_getElem hk]; rfl
  have h2 : sndOf (pcsOf ab) k = sg ab[k].2 := by
    unfold sndOf pcsOf
    rw [List.getD_eq_getElem?_getD, List.getElem?_map, List.getElem?_eq_getElem hk]; rfl
  rw [h1, h2]
  simp only [pcsOf, List.map_append, List.map_cons, List.map_nil, Option.toList_some, List.append_assoc]
noncomputable abbrev pileT (w : World) (dx : Addr) (t' : Tok) (head : Int) (th : Tok) (n' : Nat) (e : Addr) (X : Sh) (it : Addr) (Y : Sh) (l1 : Addr) (vD : List Value) (l2 : Addr) (vS : List Value) (l3 : Addr) (vZ : List Value) (gl : Addr) (vG : List Value) : List (Addr × Sh) :=
  [(dx, Sh.raw (dObj w t' (.int head th) n')), (e, X), (it, Y), (l1, Sh.list vD), (l2, Sh.list vS), (l3, Sh.list vZ), (gl, Sh.list vG)]
noncomputable abbrev pileM2 (asks : Str) (ta : Tok) (hl : Addr) (head : Int) (th : Tok) (pq l1 l2 l3 gl : Addr) (i : Nat) (t0 : Tok) (qi : Nat) (u : Tok) (al : Addr) : List (Str × Value) :=
  [("asks", .str asks ta), ("hours", .ref hl), ("head", .int head th), ("pile", .ref pq), ("depths", .ref l1), ("shown", .ref l2), ("sizes", .ref l3), ("signs", .ref gl), ("hour", .int (i : Nat) t0), ("sign", .str (sg qi) u), ("above", .ref al)]
inductive PileJ (prog : Program) (w : World) (s : Shared) (asks : Str) (ta : Tok) (hl : Addr) (head : Int) (th : Tok) (q dx dl sl zl : Addr) (S : PileS) (g : Heap) (s₀ : Shared) (m : List (Str × Value)) (own : List (Addr × Sh)) : Prop
  | mk (j : Jx w s g s₀) (gl : Addr) (xs : List Value) (n n' : Nat) (t' : Tok) (vD vS vZ vG : List Value)
    (hm : m = ([("asks", .str asks ta), ("hours", .ref hl), ("head", .int head th), ("pile", .ref q), ("depths", .ref dl), ("shown", .ref sl), ("sizes", .ref zl), ("signs", .ref gl)] : List (Str × Value)))
    (ho : own = [(q, Sh.raw (accObj dx xs n)), (dx, Sh.raw (dObj w t' (.int head th) n')), (dl, Sh.list vD), (sl, Sh.list vS), (zl, Sh.list vZ), (gl, Sh.list vG)])
    (h1 : PairsAt g xs (pcsOf S.pile)) (h2 : IntsAre vD S.depths) (h3 : StrsAre vS S.shown) (h4 : IntsAre vZ S.sizes) (h5 : StrsAre vG (S.pile.map fun x => sg x.2)) : PileJ prog w s asks ta hl head th q dx dl sl zl S g s₀ m own
inductive PileQ1 (prog : Program) (w : World) (g : Heap) (L : Addr) (s₀ : Shared) (M : Addr → List (Str × Value)) (pq dx : Addr) (T : List Value → List (Addr × Sh)) (D : List Int) (c : Int × Pile × Pile) (fl : Flow) (z : Shared) : Prop
  | mk (hf : fl = .next) (al : Addr) (vA xsL vD' : List Value) (n2 : Nat) (C : Cx true prog w g L (M al) ((al, Sh.list vA) :: (pq, Sh.raw (accObj dx xsL n2)) :: T vD') s₀ z)
      (hL : PairsAt g xsL (pcsOf c.2.1)) (hA : PairsAt g vA (pcsOf c.2.2)) (hD : IntsAre vD' (D ++ [c.1])) : PileQ1 prog w g L s₀ M pq dx T D c fl z
inductive PileQ2 (prog : Program) (w : World) (g : Heap) (L : Addr) (s₀ : Shared) (m : List (Str × Value)) (al pq : Addr) (o : Obj) (T : List (Addr × Sh)) (B : Pile) (fl : Flow) (z : Shared) : Prop
  | mk (hf : fl = .next) (vA : List Value) (C : Cx true prog w g L m ((al, Sh.list vA) :: (pq, Sh.raw o) :: T) s₀ z) (hA : PairsAt g vA (pcsOf B)) : PileQ2 prog w g L s₀ m al pq o T B fl z
inductive PileQ3 (prog : Program) (w : World) (s : Shared) (L : Addr) (m : List (Str × Value)) (al : Addr) (vA : List Value) (pq dx : Addr) (T : List (Addr × Sh)) (B : Pile) (fl : Flow) (z : Shared) : Prop
  | mk (hf : fl = .next) (g : Heap) (s₀ : Shared) (xs : List Value) (n : Nat) (J : Jx w s g s₀) (C : Cx true prog w g L m ((al, Sh.list vA) :: (pq, Sh.raw (accObj dx xs n)) :: T) s₀ z) (hx : PairsAt g xs (pcsOf B)) : PileQ3 prog w s L m al vA pq dx T B fl z
inductive PileB (prog : Program) (w : World) (g : Heap) (L : Addr) (s₀ : Shared) (m : List (Str × Value)) (I al pq : Addr) (o : Obj) (T : List (Addr × Sh)) (n0 : Nat) (ab : Pile) (k' k : Nat) (z : Shared) : Prop
  | mk (vA' : List Value) (l : Pile) (C : Cx true prog w g L m ((I, .raw (rit ((n0 : Int) - 1 + (k' : Nat) * (-1)) (((ab.length - 1 : Nat) : Int) - (k' : Nat)) (-1))) :: (al, Sh.list vA') :: (pq, Sh.raw o) :: T) s₀ z)
      (h1 : PairsAt g vA' (pcsOf l)) (h2 : l.length = ab.length) (h3 : bub (ab.length - 1 - k) l = bub (ab.length - 1) ab) : PileB prog w g L s₀ m I al pq o T n0 ab k' k z
inductive PileP (w : World) (s : Shared) (M : List (Str × Value)) (al : Addr) (vA : List Value) (ab : Pile) (pq dx : Addr) (T : List (Addr × Sh)) (low : Pile) (k : Nat) (g : Heap) (s₀ : Shared) (m : List (Str × Value)) (own : List (Addr × Sh)) : Prop
  | mk (J : Jx w s g s₀) (hm : m = M) (hA : PairsAt g vA (pcsOf ab)) (xs : List Value) (n : Nat) (ho : own = (al, Sh.list vA) :: (pq, Sh.raw (accObj dx xs n)) :: T) (hx : PairsAt g xs (pcsOf (low ++ ab.take k))) : PileP w s M al vA ab pq dx T low k g s₀ m own

set_option maxHeartbeats 0 in
theorem piled_spec {asks : Str} {ta : Tok} {q hf : Nat → Nat} {hl : Addr} {vh : List Value} {head : Int} {th : Tok} {Q : Value → Shared → Prop} (PR : Pr prog) (P : Pg asks q) (B : Bs w s.heap) (T : Tq s.heap) (hd : A.depth + 60 < recursionLimit) (hh : A.handled = none) (hu : A.units + 100 < cLine)
    (hhead : head = 0 ∨ head = 1 ∨ head = 2) (hhl : Sh.Is prog w s.heap hl (.list vh)) (hl3 : 203 ≤ hl) (hv : IntL (fun i => (hf i : Int)) 9 vh) (hf1 : ∀ i, 1 ≤ hf i ∧ hf i ≤ 12)
    (hret : ∀ a dl sl zl vD vS vZ s', Gr false s s' → Tq s'.heap → Sh.Is prog w s'.heap a (.tup [.ref dl, .ref sl, .ref zl]) → Sh.Is prog w s'.heap dl (.list vD) → Sh.Is prog w s'.heap sl (.list vS) → Sh.Is prog w s'.heap zl (.list vZ) →
      IntsAre vD (pileRun q hf head 9).depths → StrsAre vS (pileRun q hf head 9).shown → IntsAre vZ (pileRun q hf head 9).sizes → (∀ b ∈ [a, dl, sl, zl], s.heap.get? b = none ∧ 203 ≤ b) → Q (.ref a) s') :
    wpAny (model prog w) A (call (.ref 175) [.str asks ta, .ref hl, .int head th]) Q E s := by
  refine enter (σ := true) (binds := [("asks", .str asks ta), ("hours", .ref hl), ("head", .int head th)]) B (by lia) rfl rfl (BindsTo.of_eq rfl) rfl ?_ (by decide) rfl rfl rfl ?_
  · show ([Str.ofString "asks", Str.ofString "hours", Str.ofString "head"] : List Str).Nodup
    decide +kernel
  intro L z C
  repeat wtm_at "w"
  with_reducible refine wpAny_Call_NameR (gl (by assumption) (by assumption) gn_acc ?_)
  with_reducible refine g1 (by assumption) kp_101 ?_
  repeat wtm_at "w"
  refine ⟨C.bs B, ?_⟩
  with_reducible refine make_A PR B T.toTp (by wtm_at "dp") C ?_
  clear C
  intro pq dx t' n' n'' z C
  repeat wtm_at "w"
  rename_i l1 _ _ l2 _ _ l3 _ _ _
  have C := C.perm (own' := [(pq, Sh.raw (accObj dx [] n')), (dx, Sh.raw (dObj w t' (.int head th) n'')), (l1, Sh.list []), (l2, Sh.list []), (l3, Sh.list []), (l, Sh.list [])]) (by wtm_at "pm")
  refine enumAsksJ P (by wtm_at "hh") C (fun i g s₀ m own => PileJ prog w s asks ta hl head th pq dx l1 l2 l3 (pileRun q hf head i) g s₀ m own) ?_ ?_ ?_
  · exact ⟨.start B T, _, _, _, _, _, _, _, _, _, rfl, rfl, .nil, .nil, .nil, .nil, .nil⟩
  · clear C
    rintro i t0 u g s₀ m own z X Y e it hi ⟨J, gl, xs, n, n', t', vD, vS, vZ, vG, rfl, rfl, h1, h2, h3, h4, h5⟩ C
    wtm_at "cps"
    have OK := pileRun_ok head hf1 P.lt i
    have hR : pileRun q hf head (i + 1) = pileStep head (hf i) (q i) (pileRun q hf head i) := rfl
    generalize pileRun q hf head i = S at *
    have BJ := J.bs
    have hlen := OK.len
    have hxl := h1.length
    have hpl : (pcsOf S.pile).length = S.pile.length := by simp [pcsOf]
    have hdl := IntsAre.length h2
    have hdn := OK.d
    wtm_at "w"
    wtm_at "w"
    have C := C.perm (own' := [(pq, Sh.raw (accObj dx xs n)), (dx, Sh.raw (dObj w t' (.int head th) n')), (e, X), (it, Y), (l1, Sh.list vD), (l2, Sh.list vS), (l3, Sh.list vZ), (gl, Sh.list vG)]) (by wtm_at "pm")
    refine wpAny_execs_cons (wpAny_mono (Q := PileQ1 prog w g L s₀ (pileM2 asks ta hl head th pq l1 l2 l3 gl i t0 (q i) u) pq dx (fun vD' => pileT w dx t' head th n' e X it Y l1 vD' l2 vS l3 vZ gl vG) S.depths (cutOf (q i) S.pile)) ?_ (fun fl z qq => ?_) (fun _ _ e => e))
    · wtm_at "cps0"
      wtm_at "w"
      wtm_at "w"
      wtm_at "w"
      wtm_at "w"
      with_reducible refine inL (by wtm_at "is") h5 ?_
      wtm_at "w"
      refine ⟨fun hb => ?_, fun hb => ?_⟩
      · have hb : q i ∈ S.pile.map (·.2) := by simpa [sg_eq] using hb
        obtain ⟨j, hj⟩ : ∃ j, (S.pile.map (·.2)).idxOf? (q i) = some j := by
          cases hk : (S.pile.map (·.2)).idxOf? (q i) with
          | none => exact absurd hb (List.idxOf?_eq_none_iff.mp hk)
          | some j => exact ⟨j, rfl⟩
        obtain ⟨hj1, hj2, hj3⟩ := List.idxOf?_eq_some_iff.mp hj
        have hjl : j < S.pile.length := by simpa using hj1
        have hcut : cutOf (q i) S.pile = ((S.pile.length : Int) - j, S.pile.take j, S.pile.drop (j + 1)) := by unfold cutOf; rw [hj]
        rw [hcut] at kpost
        repeat wtm_at "w"
        with_reducible refine idxL C (by wtm_at "is") h5 j ?_ ?_ ?_ ?_
        · simp at hj2; simp [hjl, hj2]
        · intro k hk he
          have := hj3 k hk
          simp at this
          rw [List.getElem?_map, List.getElem?_eq_getElem (by lia)] at he
          simp [sg_eq] at he
          exact this he
        · simp; lia
        clear C
        intro t z C
        repeat wtm_at "w"
        intro pl
        refine method_A (C.bs BJ) (C.raw (by wtm_at "mm")) (C.raw (by wtm_at "mm")) find_pc ty_98 (by decide) (look_d (by decide +kernel)) ?_
        refine k0 (C.bs BJ) kp_98 ?_
        refine count_A PR (C.bs BJ) (C.tq J.tq).toTp (by wtm_at "dp") (C.raw (by wtm_at "mm")) (by wtm_at "fr") ?_
        intro t2 z2 G
        have C := C.grown G
        rw [hxl, hpl]
        repeat wtm_at "w"
        intro pl
        refine method_A (C.bs BJ) (C.raw (by wtm_at "mm")) (C.raw (by wtm_at "mm")) find_pop ty_53 (by decide) (look_d (by decide +kernel)) ?_
        refine k1 (C.bs BJ) kp_53 ?_
        repeat wtm_at "w"
        refine ⟨C.bs BJ, ?_⟩
        refine pop1_A BJ (by wtm_at "dp") C (by lia) (by lia) ?_
        clear C
        intro lp n1 z C
        rw [pick_from, Int.toNat_natCast] at C
        repeat wtm_at "w"
        with_reducible refine subListT C (by wtm_at "is") (by wtm_at "is") (by simp; lia) ?_
        clear C
        intro al z C
        rw [show (1 : Int) = ((1 : Nat) : Int) from rfl, pick_from, List.drop_drop] at C
        repeat wtm_at "w"
        refine ⟨rfl, al, _, _, _, _, Cx.forget (Cx.drop C (by wtm_at "ms")) (by wtm_at "ms"), ?_, ?_, ?_⟩
        · exact pcs_take _ _ ▸ h1.take j
        · exact pcs_drop _ _ ▸ h1.drop (j + 1)
        · exact ints_snoc h2 _ _
      · have hb : q i ∉ S.pile.map (·.2) := fun hm => by
          obtain ⟨x, hx, e⟩ := List.mem_map.mp hm
          simp [sg_eq] at hb
          exact hb x.1 x.2 hx e
        have hcut : cutOf (q i) S.pile = (0, [], S.pile) := by unfold cutOf; rw [List.idxOf?_eq_none_iff.mpr hb]
        rw [hcut] at kpost
        repeat wtm_at "w"
        intro pl
        refine method_A (C.bs BJ) (C.raw (by wtm_at "mm")) (C.raw (by wtm_at "mm")) find_pop ty_53 (by decide) (look_d (by decide +kernel)) ?_
        refine k0 (C.bs BJ) kp_53 ?_
        refine pop0_A BJ (by wtm_at "dp") C (by lia) ?_
        clear C
        intro lp n1 z C
        rw [show (0 : Int) = ((0 : Nat) : Int) from rfl, pick_from, List.drop_zero] at C
        repeat wtm_at "w"
        refine ⟨rfl, lp, _, _, _, _, C, .nil, h1, ?_⟩
        exact ints_snoc h2 _ _
    · obtain ⟨rfl, al, vA, xsL, vD', n2, C, hL, hA, hD⟩ := qq
      dsimp only
      have hcl := cutOf_length (q i) S.pile
      have hcm := cutOf_mem (q i) S.pile
      generalize hcut : cutOf (q i) S.pile = c at *
      obtain ⟨dp, low, ab⟩ := c
      dsimp only at hL hA hD hcl hcm
      have hAl : vA.length = ab.length := hA.length.trans (pcs_len _)
      have hLl : xsL.length = low.length := hL.length.trans (pcs_len _)
      refine wpAny_execs_cons (wpAny_mono (Q := PileQ2 prog w g L s₀ (pileM2 asks ta hl head th pq l1 l2 l3 gl i t0 (q i) u al) al pq (accObj dx xsL n2) (pileT w dx t' head th n' e X it Y l1 vD' l2 vS l3 vZ gl vG) (bub (ab.length - 1) ab)) ?_ (fun fl z qq => ?_) (fun _ _ e => e))
      · wtm_at "cps0"
        repeat wtm_at "w"
        refine cRange3 C ?_ (by lia)
        clear C
        intro r z C
        refine itRange C (C.raw (by wtm_at "mm")) (by lia) ?_
        clear C
        intro I z C
        rw [show ((vA.length : Int) - 1).toNat = ab.length - 1 by lia] at C
        refine for_walk (Walks.range ?hA I ((vA.length : Int) - 1) (-1) (ab.length - 1))
          (fun k => PileB prog w g L s₀ (pileM2 asks ta hl head th pq l1 l2 l3 gl i t0 (q i) u al) I al pq (accObj dx xsL n2) (pileT w dx t' head th n' e X it Y l1 vD' l2 vS l3 vZ gl vG) vA.length ab k k)
          (fun k => PileB prog w g L s₀ (pileM2 asks ta hl head th pq l1 l2 l3 gl i t0 (q i) u al) I al pq (accObj dx xsL n2) (pileT w dx t' head th n' e X it Y l1 vD' l2 vS l3 vZ gl vG) vA.length ab (k + 1) k) ?_ ?_ ?_ ?_ ?_
        case hA => with_unfolding_all exact hh
        · rintro k z ⟨_, _, C, _⟩
          exact C.raw (o := rit _ _ _) List.mem_cons_self
        · refine ⟨vA, ab, ?_, hA, rfl, rfl⟩
          simpa using C.swap.drop (List.sublist_cons_self _ _)
        · rintro k z h' tk hk ⟨vA', l, C, k1, k2, k3⟩ ht hS hkeep
          exact ⟨vA', l, C.next Up.head ht (fun b o hb e => hkeep b o (by simpa using hb) e) hS, k1, k2, k3⟩
        · rintro k y z hk ⟨t3, rfl⟩ ⟨vA', l, C, k1, k2, k3⟩
          wtm_at "cps"
          obtain ⟨p, hp⟩ : ∃ p, ab.length - 1 - k = p + 1 := ⟨ab.length - 1 - k - 1, by lia⟩
          rw [show ((vA.length : Int) - 1 + (k : Nat) * (-1)) = ((p + 1 : Nat) : Int) by lia]
          rw [hp, bub] at k3
          have hp' : ab.length - 1 - (k + 1) = p := by lia
          with_reducible refine goName (wpAny_assign_Name ?_)
          repeat wtm_at "w"
          have q1 : (pcsOf l)[p]? = some (sp (l.getD p (0, 0)).1, sg (l.getD p (0, 0)).2) := by
            unfold pcsOf
            rw [List.getElem?_map, List.getD_eq_getElem?_getD, List.getElem?_eq_getElem (by lia)]
            rfl
          have q2 : (pcsOf l)[p + 1]? = some (sp (l.getD (p + 1) (0, 0)).1, sg (l.getD (p + 1) (0, 0)).2) := by
            unfold pcsOf
            rw [List.getElem?_map, List.getD_eq_getElem?_getD, List.getElem?_eq_getElem (by lia)]
            rfl
          obtain ⟨Ta, a1, a2, e1, r1, u1⟩ := k1.at _ _ q1
          obtain ⟨Tb, b1, b2, e2, r2, u2⟩ := k1.at _ _ q2
          have hvl : vA'.length = ab.length := k1.length.trans ((pcs_len _).trans k2)
          have i1 : ((p + 1 : Nat) : Int) - 1 = (p : Nat) := by lia
          dsimp only at u1 u2
          rw [i1]
          with_reducible refine subList (v := .ref Ta) (by wtm_at "is") (by lia) (by lia) (by rw [Int.toNat_natCast]; exact e1) ?_
          repeat wtm_at "w"
          with_reducible refine subList (v := .ref Tb) (by wtm_at "is") (by lia) (by lia) (by rw [Int.toNat_natCast]; exact e2) ?_
          refine lt_pair' (by show A.units + 3 < cLine; lia) (ha := by obtain ⟨o, ho, r⟩ := u1; exact ⟨o, C.keep _ _ rfl ho, r⟩) (hb := by obtain ⟨o, ho, r⟩ := u2; exact ⟨o, C.keep _ _ rfl ho, r⟩) ?_
          rw [lt_bool]
          repeat wtm_at "w"
          refine ⟨fun hb => ?_, fun hb => ?_⟩
          · have hba : bubAt l (p + 1) = (l.set p (l.getD (p + 1) (0, 0))).set (p + 1) (l.getD p (0, 0)) := by
              unfold bubAt
              rw [show p + 1 - 1 = p from rfl, if_pos hb]
            refine xLast (Assign_Tuple ?_ ?_ ?_)
            · refine eTup2 (σ := true) (prog := prog) (w := w) (g := g) (L := L) (s₀ := s₀) ?_
              repeat wtm_at "w"
              with_reducible refine subList (v := .ref Tb) (by wtm_at "is") (by lia) (by lia) (by rw [Int.toNat_natCast]; exact e2) ?_
              repeat wtm_at "w"
              rw [i1]
              with_reducible refine subList (v := .ref Ta) (by wtm_at "is") (by lia) (by lia) (by rw [Int.toNat_natCast]; exact e1) ?_
              repeat wtm_at "w"
              rename_i TT _ _
              refine wpAny_assign_Tuple (by wtm_at "hh") (items := #[.ref Tb, .ref Ta]) (Sh.isT (C.is List.mem_cons_self)) (by with_unfolding_all rfl) (by with_unfolding_all rfl) fun h3 hx3 => ?_
              have C := C.grown (s' := { z with heap := h3 }) ⟨fun b o _ q => hx3 b o (Nat.ne_of_lt (Heap.lt_size q)) q, rfl, rfl, gens_refl, Nat.le_refl _⟩
              refine assignInOrder_cons (asSub ?_)
              repeat wtm_at "w"
              rw [i1]
              with_reducible refine setList C (by wtm_at "mu") (by lia) (by lia) (by rw [Int.toNat_natCast]; lia) ?_
              clear C
              intro z C
              rw [Int.toNat_natCast] at C
              refine assignInOrder_cons (asSub ?_)
              repeat wtm_at "w"
              with_reducible refine setList C (by wtm_at "mu") (by lia) (by lia) (by rw [Int.toNat_natCast, List.length_set]; lia) ?_
              clear C
              intro z C
              rw [Int.toNat_natCast] at C
              refine assignInOrder_nil ?_
              wtm_at "w-hk"
              refine ⟨_, bubAt l (p + 1), Cx.forget (Cx.drop C (by wtm_at "ms")) (by wtm_at "ms"), ?_, by rw [bubAt_length]; exact k2, by rw [hp']; exact k3⟩
              rw [hba]
              have := (k1.set (p := (sp (l.getD (p + 1) (0, 0)).1, sg (l.getD (p + 1) (0, 0)).2)) r2 u2 p).set (p := (sp (l.getD p (0, 0)).1, sg (l.getD p (0, 0)).2)) r1 u1 (p + 1)
              rw [show pcsOf ((l.set p (l.getD (p + 1) (0, 0))).set (p + 1) (l.getD p (0, 0))) = ((pcsOf l).set p (sp (l.getD (p + 1) (0, 0)).1, sg (l.getD (p + 1) (0, 0)).2)).set (p + 1) (sp (l.getD p (0, 0)).1, sg (l.getD p (0, 0)).2) by simp [pcsOf, List.map_set]]
              exact this
            · with_unfolding_all rfl
            · with_unfolding_all rfl
          · have hba : bubAt l (p + 1) = l := by
              unfold bubAt
              rw [show p + 1 - 1 = p from rfl, if_neg (by rw [hb]; decide)]
            rw [hba] at k3
            repeat wtm_at "w"
            exact ⟨vA', l, C.forget (by wtm_at "ms"), k1, k2, by rw [hp']; exact k3⟩
        · rintro z h' tk ⟨vA', l, C, k1, k2, k3⟩ ht hkeep
          have C := C.gone ht (fun b o hb e => hkeep b o (by simpa using hb) e)
          wtm_at "w-hk"
          refine ⟨rfl, vA', C, ?_⟩
          rw [← k3, Nat.sub_self]
          exact k1
      · obtain ⟨rfl, vA, C, hA⟩ := qq
        dsimp only
        have hbl := bub_length (ab.length - 1) ab
        have hbm : ∀ x ∈ bub (ab.length - 1) ab, x ∈ S.pile := fun x hx => hcm.2 x (bub_mem _ (by lia) hx)
        generalize hbub : bub (ab.length - 1) ab = ab' at *
        have hAl : vA.length = ab'.length := hA.length.trans (pcs_len _)
        refine wpAny_execs_cons (wpAny_mono (Q := PileQ3 prog w s L (pileM2 asks ta hl head th pq l1 l2 l3 gl i t0 (q i) u al) al vA pq dx (pileT w dx t' head th n' e X it Y l1 vD' l2 vS l3 vZ gl vG) (low ++ ab')) ?_ (fun fl z qq => ?_) (fun _ _ e => e))
        · wtm_at "cps0"
          repeat wtm_at "w"
          refine itList C (by wtm_at "is") ?_
          clear C
          intro I z _ C
          refine loop_pairs (vs := vA) (ps := pcsOf ab') (by wtm_at "hh") (PileP w s (pileM2 asks ta hl head th pq l1 l2 l3 gl i t0 (q i) u al) al vA ab' pq dx (pileT w dx t' head th n' e X it Y l1 vD' l2 vS l3 vZ gl vG) low) ?_ ?_ C ?_ (by with_unfolding_all rfl) (by with_unfolding_all rfl) ?_ ?_
          · rintro k g s₀ m own ⟨_, rfl, _, xs, n, rfl, _⟩
            wtm_at "mm"
          · rintro k g s₀ m own ⟨_, _, h, _⟩
            exact h
          · exact ⟨J, rfl, hA, _, _, rfl, by simpa using hL⟩
          · clear C
            rintro k t u2 g s₀ m own z Y2 hk ⟨J, rfl, hA, xs, n, rfl, hx⟩ C
            wtm_at "cps"
            have BJ := J.bs
            refine asg2 ?_
            repeat wtm_at "w"
            intro pl
            have C := C.perm (own' := [(pq, Sh.raw (accObj dx xs n)), (dx, Sh.raw (dObj w t' (.int head th) n')), (I, Y2), (al, Sh.list vA), (e, X), (it, Y), (l1, Sh.list vD'), (l2, Sh.list vS), (l3, Sh.list vZ), (gl, Sh.list vG)]) (by wtm_at "pm")
            refine method_A (C.bs BJ) (C.raw (by wtm_at "mm")) (C.raw (by wtm_at "mm")) find_push ty_45 (by decide) (look_d (by decide +kernel)) ?_
            refine k2 (C.bs BJ) kp_45 ?_
            repeat wtm_at "w"
            refine ⟨C.bs BJ, ?_⟩
            have hxn : xs.length ≤ 100 := by
              have := hx.length
              rw [pcs_len, List.length_append, List.length_take] at this
              lia
            refine push_A BJ (by wtm_at "dp") C (by lia) ?_
            clear C
            intro TT n1 z C
            obtain ⟨g', J', C', y1, y2, _⟩ := J.jump C Gr.refl (C.tq J.tq) (own' := [(pq, Sh.raw (accObj dx (xs ++ [.ref TT]) n1)), (dx, Sh.raw (dObj w t' (.int head th) n')), (I, Y2), (al, Sh.list vA), (e, X), (it, Y), (l1, Sh.list vD'), (l2, Sh.list vS), (l3, Sh.list vZ), (gl, Sh.list vG)]) (by wtm_at "ms") (List.cons_ne_nil _ _)
            have hnot : TT ∉ ([(pq, Sh.raw (accObj dx (xs ++ [.ref TT]) n1)), (dx, Sh.raw (dObj w t' (.int head th) n')), (I, Y2), (al, Sh.list vA), (e, X), (it, Y), (l1, Sh.list vD'), (l2, Sh.list vS), (l3, Sh.list vZ), (gl, Sh.list vG)] : List (Addr × Sh)).map (·.1) := by
              have nd := C.nd
              simp only [List.map_cons, List.map_nil, List.nodup_cons, List.mem_cons, List.not_mem_nil, not_or, or_false] at nd ⊢
              exact ⟨Ne.symm nd.1.1, nd.2.1⟩
            have hTT := y2 _ (List.mem_cons_of_mem _ List.mem_cons_self) hnot
            have h203 := (C.fresh (List.mem_cons_of_mem _ List.mem_cons_self)).2
            have up : ∀ b o, 203 ≤ b → g.get? b = some o → g'.get? b = some o := fun b o hb e => y1 b o (tab_ge hb) e
            refine ⟨none_ne, wpAny_execs_nil (kpost _ _ ⟨g', z, _, _, ⟨J', rfl, hA.at' up, xs ++ [.ref TT], n1, rfl, ?_⟩, Cx.perm (Cx.forget C' (by wtm_at "ms")) (by wtm_at "pm")⟩)⟩
            have := (hx.at' up).snoc (p := (fstOf (pcsOf ab') k, sndOf (pcsOf ab') k)) h203 (Sh.isT hTT)
            rw [pcs_more low ab' (by lia)] at this
            exact this
          · clear C
            rintro g s₀ m own z ⟨J, rfl, hA, xs, n, rfl, hx⟩ C
            rw [hAl, List.take_length] at hx
            exact kpost _ _ ⟨rfl, g, s₀, xs, n, J, C, hx⟩
        · obtain ⟨rfl, g, s₀, xs, n, J, C, hx⟩ := qq
          dsimp only
          have BJ := J.bs
          have hsl := StrsAre.length h3
          have hsn := OK.s
          have hzl := IntsAre.length h4
          have hzn := OK.z
          have hxl := hx.length
          rw [pcs_len, List.length_append] at hxl
          have hhg : Sh.Is prog w g hl (.list vh) := hhl.at fun o e => J.base hl o (tab_ge hl3) e
          have C := C.drop (List.sublist_cons_self _ _)
          wtm_at "w"
          wtm_at "w"
          repeat wtm_at "w"
          intro pl
          refine method_A (C.bs BJ) (C.raw (by wtm_at "mm")) (C.raw (by wtm_at "mm")) find_push ty_45 (by decide) (look_d (by decide +kernel)) ?_
          refine k2 (C.bs BJ) kp_45 ?_
          repeat wtm_at "w"
          obtain ⟨th', hvi⟩ := hv.2 i hi
          with_reducible refine subList (v := .int (hf i) th') (by wtm_at "is") (by lia) (by lia) (by rw [Int.toNat_natCast]; exact hvi) ?_
          refine mulS C (by have := (hf1 i).2; lia) ?_
          clear C
          intro tb z C
          repeat wtm_at "w"
          refine ⟨C.bs BJ, ?_⟩
          refine push_A BJ (by wtm_at "dp") C (by lia) ?_
          clear C
          intro TT n1 z C
          obtain ⟨g', J, C', y1, y2, _⟩ := J.jump C Gr.refl (C.tq J.tq) (own' := [(pq, Sh.raw (accObj dx (xs ++ [.ref TT]) n1)), (dx, Sh.raw (dObj w t' (.int head th) n')), (e, X), (it, Y), (l1, Sh.list vD'), (l2, Sh.list vS), (l3, Sh.list vZ), (gl, Sh.list vG)]) (by wtm_at "ms") (List.cons_ne_nil _ _)
          have hnot : TT ∉ ([(pq, Sh.raw (accObj dx (xs ++ [.ref TT]) n1)), (dx, Sh.raw (dObj w t' (.int head th) n')), (e, X), (it, Y), (l1, Sh.list vD'), (l2, Sh.list vS), (l3, Sh.list vZ), (gl, Sh.list vG)] : List (Addr × Sh)).map (·.1) := by
            have nd := C.nd
            simp only [List.map_cons, List.map_nil, List.nodup_cons, List.mem_cons, List.not_mem_nil, not_or, or_false] at nd ⊢
            exact ⟨Ne.symm nd.1.1, nd.2.1⟩
          have hTT := y2 _ (List.mem_cons_of_mem _ List.mem_cons_self) hnot
          have h203 := (C.fresh (List.mem_cons_of_mem _ List.mem_cons_self)).2
          have up : ∀ b o, 203 ≤ b → g.get? b = some o → g'.get? b = some o := fun b o hb e => y1 b o (tab_ge hb) e
          have hx2 : PairsAt g' (xs ++ [.ref TT]) (pcsOf (low ++ ab' ++ [(hf i, q i)])) := by
            rw [pcs_append]
            exact (hx.at' up).snoc (p := (sp (hf i), sg (q i))) h203 (Sh.isT hTT)
          clear hnot hTT y1 y2 up hhg BJ C hx
          have C := C'
          clear C'
          have BJ := J.bs
          generalize xs ++ [.ref TT] = xs2 at *
          have hPb : ∀ x ∈ low ++ ab' ++ [(hf i, q i)], (1 ≤ x.1 ∧ x.1 ≤ 12) ∧ x.2 < 4 := fun x hx => by
            rcases List.mem_append.mp hx with hx | hx
            · rcases List.mem_append.mp hx with hx | hx
              · exact OK.hr x (hcm.1 x hx)
              · exact OK.hr x (hbm x hx)
            · rw [List.mem_singleton] at hx; subst hx; exact ⟨hf1 i, P.lt i⟩
          generalize hPP : low ++ ab' ++ [(hf i, q i)] = PP at *
          have hPl : PP.length ≤ 10 := by rw [← hPP]; simp; lia
          have hx2l : xs2.length = PP.length := hx2.length.trans (pcs_len _)
          have hlen13 := pcs_bound (P := PP) fun x hx => ⟨(hPb x hx).1.2, (hPb x hx).2⟩
          have hup : ∀ {g h : Heap} {ps : Pcs}, PairsAt g xs2 ps → (∀ b o, g.get? b = some o → h.get? b = some o) → PairsAt h xs2 ps := fun a k => a.at' fun b o _ e => k b o e
          repeat wtm_at "w"
          refine lenB_A (C.bs BJ) (C.tq J.tq) (by wtm_at "dp") (by wtm_at "hh") (C.raw (by wtm_at "mm")) (C.raw (by wtm_at "mm")) (by wtm_at "fr") (by wtm_at "fr") (hup hx2 fun b o e => C.keep b o rfl e) hhead (fun j => Nat.le_trans (hlen13 j) (by decide)) (by lia) ?_
          intro tz z2 G T2
          obtain ⟨g2, J2, C', y1, _, _⟩ := J.jump C G T2 (List.Sublist.refl _) (List.cons_ne_nil _ _)
          have hx3 := hx2.at' fun b o hb e => y1 b o (tab_ge hb) e
          clear hx2 C BJ y1
          have C := C'
          clear C'
          have BJ := J2.bs
          rw [hx2l]
          repeat wtm_at "w"
          refine strB_A (C.bs BJ) (C.tq J2.tq) (by wtm_at "dp") (by show A.units + 3 + 1 + 1 < cLine; lia) (by wtm_at "hh") (C.raw (by wtm_at "mm")) (C.raw (by wtm_at "mm")) (by wtm_at "fr") (hup hx3 fun b o e => C.keep b o rfl e) (fun j => Nat.le_trans (hlen13 j) (by decide)) (by lia) ?_
          intro ts z3 G3 T3
          obtain ⟨g3, J3, C', y1, _, _⟩ := J2.jump C G3 T3 (List.Sublist.refl _) (List.cons_ne_nil _ _)
          have hx4 := hx3.at' fun b o hb e => y1 b o (tab_ge hb) e
          clear hx3 C BJ y1
          have C := C'
          clear C'
          have BJ := J3.bs
          rw [hx2l]
          repeat wtm_at "w"
          rw [show pileText (pcsOf PP) PP.length = pileText' PP from rfl] at C
          have hpt : (pileText' PP).length ≤ 10000 := by
            have h1 := (sum_bound (pcsOf PP) (fun j => Nat.le_trans (hlen13 j) (by decide)) PP.length).2
            have h2 := pileText_length PP
            lia
          with_reducible refine subNeg (k := -1) (v := .str (pileText' PP) ts) (by wtm_at "is") (by decide) (by decide) (by simp; lia) ?_ ?_
          · rw [show (-1 + ((vS ++ [Value.str (pileText' PP) ts]).length : Int)).toNat = vS.length by simp; lia]
            simp
          repeat wtm_at "w"
          refine cSplit C hpt ?_
          clear C
          intro D vs z C hvs
          rw [words_pile fun x hx => ⟨(hPb x hx).1.1, (hPb x hx).2⟩] at hvs
          repeat wtm_at "w"
          have hS : pileStep head (hf i) (q i) S = ⟨PP, S.depths ++ [dp], S.shown ++ [pileText' PP], S.sizes ++ [head + preSum (lenOf (pcsOf PP)) PP.length]⟩ := by
            simp only [pileStep, hcut, hbub, hPP]
          rw [hR, hS]
          refine ⟨g3, z3, _, _, ⟨J3, D, xs2, n1, n', t', vD', _, _, vs, rfl, rfl, hx4, hD, strs_snoc h3 _ ts, ints_snoc h4 _ tz, hvs⟩, ?_⟩
          exact Cx.perm (Cx.drop (Cx.forget C (by wtm_at "ms")) (own' := [(D, Sh.list vs), (pq, Sh.raw (accObj dx xs2 n1)), (dx, Sh.raw (dObj w t' (.int head th) n')), (e, X), (it, Y), (l1, Sh.list vD'), (l2, _), (l3, _)]) (by wtm_at "ms")) (by wtm_at "pm")
  · clear C
    rintro g s₀ m own z ⟨J, gl, xs, n, n', t', vD, vS, vZ, vG, rfl, rfl, h1, h2, h3, h4, h5⟩ C
    have BJ := J.bs
    repeat wtm_at "w"
    refine eTup (sm (ld C (by wtm_at "mm") (sm (ld C (by wtm_at "mm") (sm (ld C (by wtm_at "mm") (spliced_none ⟨_, _, C, by with_unfolding_all rfl, fun a z C => ?_⟩)))))))
    have ma := C.is (a := a) List.mem_cons_self
    have md := C.is (a := l1) (sh := .list vD) (by wtm_at "mm")
    have ms := C.is (a := l2) (sh := .list vS) (by wtm_at "mm")
    have mz := C.is (a := l3) (sh := .list vZ) (by wtm_at "mm")
    refine hret a l1 l2 l3 vD vS vZ z (J.out C) (C.tq J.tq) ma md ms mz h2 h3 h4 fun b hb => ?_
    have key : ∀ sh, (b, sh) ∈ [(a, Sh.tup [Value.ref l1, Value.ref l2, Value.ref l3]), (pq, Sh.raw (accObj dx xs n)), (dx, Sh.raw (dObj w t' (.int head th) n')), (l1, Sh.list vD), (l2, Sh.list vS), (l3, Sh.list vZ), (gl, Sh.list vG)] → s.heap.get? b = none ∧ 203 ≤ b := fun sh hm => by
      have h := C.fresh hm
      refine ⟨?_, h.2⟩
      cases qq : s.heap.get? b with
      | none => rfl
      | some o => have := J.base b o (tab_ge h.2) qq; rw [h.1] at this; cases this
    simp only [List.mem_cons, List.not_mem_nil, or_false] at hb
    rcases hb with rfl | rfl | rfl | rfl
    · exact key _ List.mem_cons_self
    · exact key (.list vD) (by wtm_at "mm")
    · exact key (.list vS) (by wtm_at "mm")
    · exact key (.list vZ) (by wtm_at "mm")
end
section
open PySem PySem.W PyProof.Rows PySem.Spec PySem.Calls Builtin
set_option maxHeartbeats 1000000
variable {σ : Bool} {prog : Program} {w : World} {g h h' : Heap} {L a : Addr} {m m' : List (Str × Value)} {own own' : List (Addr × Sh)} {s₀ s s' : Shared} {sh sh' : Sh}
variable {A : Around} {E : Value → Shared → Prop} {M : Model} {env : Env} {x y : Str} {v : Value}

theorem enterF {R : Result → Shared → Prop} {name qual : Str} {params : Arguments} {body : List Stmt} {scope : Scope} {cl : List (Str × Addr)} {dV kV doc pm cdv ct : Value} {an : Option Addr} {fo : Obj} {f : Addr} {args : List Value} {binds : List (Str × Value)}
    (B : Bs w s.heap) (hroom : A.depth < recursionLimit)
    (ho : s.heap.get? f = some fo) (hdata : fo.data = .func (fnX name qual params body scope cl dV kV doc pm an cdv ct)) (hcd : s.heap.CodeRec cdv qual)
    (hbind : BindsTo s (fnX name qual params body scope cl dV kV doc pm an cdv ct) ⟨args, []⟩ binds)
    (hloc : (binds.all fun y => decide (scope.names.lookup y.1 = some .local)) = true) (hu : (binds.map (·.1)).Nodup)
    (hcell : ∀ x ∈ scope.names, x.2 ≠ .cell) (hco : scope.isCoroutine = false) (hgen : scope.isGenerator = false) (hk : scope.kind = .function)
    (hown : ∀ p ∈ own', p.2.Is prog w s.heap p.1 ∧ 203 ≤ p.1) (hnd : (own'.map (·.1)).Nodup)
    (h : ∀ L s', Cx true prog w (hideAll s.heap (own'.map (·.1))) L binds own' s s' →
      _root_.PySem.wpAt (model prog w) (A.deeper (envX qual scope L f cdv cl)) (.func body (envX qual scope L f cdv cl)) (execs body (envX qual scope L f cdv cl)) (fun fl s' => R (.ok (.ret (match fl with | .ret v => v | _ => .none))) s') (fun _ _ => False) s') :
    codeAny (model prog w) A (.call (.ref f) ⟨args, []⟩) R s := by
  have hl : ∀ y ∈ binds, scope.names.lookup y.1 = some .local := fun y hy => of_decide_eq_true (List.all_eq_true.mp hloc y hy)
  have small : ∀ b, b < 203 → b ∉ own'.map (·.1) := fun b hb hm => by
    obtain ⟨p, hp, q⟩ := List.mem_map.mp hm
    have := (hown p hp).2
    rw [q] at this; exact absurd this (Nat.not_le.mpr hb)
  refine ks_codeAny_call_defAt (fd := fnX name qual params body scope cl dV kV doc pm an cdv ct) (body := body) (binds := binds) hroom ho hdata B.lim hcd rfl hbind hcell hl (fun h₁ hns hk₁ => ?_) hco hgen hk
  have C : Cx true prog w (hideAll s.heap (own'.map (·.1))) s.heap.objs.size binds own' s { s with heap := h₁, toks := s.toks + binds.length } := by
    obtain ⟨o2, ho2⟩ := B.low
    refine ⟨.inr ⟨_, hns, fun y v hy => ?_⟩, fun b o _ e => hk₁ b o (of_hideAll _ e), ⟨o2, hideAll_get _ ho2 (small 202 (by decide))⟩, .inr ⟨?_, Heap.lt_size ho2⟩, fun p hp => ⟨(hown p hp).1.at fun o e => hk₁ _ o e, ⟨hideAll_none _ (List.mem_map_of_mem hp), (hown p hp).2⟩, .inr (Nat.ne_of_lt (hown p hp).1.lt)⟩, hnd, hu, rfl, rfl, rfl, Nat.le_add_right ..⟩
    · have hr : ((binds.reverse).map (·.1)).Nodup := by rw [List.map_reverse]; exact (List.reverse_perm _).nodup_iff.mpr hu
      have hy' := List.mem_reverse.mpr hy
      clear hy hns
      generalize binds.reverse = l at hr hy'
      induction l with
      | nil => cases hy'
      | cons p r ih =>
        rw [List.map_cons, List.nodup_cons] at hr
        rcases List.mem_cons.mp hy' with rfl | hm
        · simp [List.lookup]
        · have hne : (y == p.1) = false := by
            rw [beq_eq_false_iff_ne]
            intro e
            exact hr.1 (e ▸ List.mem_map_of_mem (f := (·.1)) hm)
          simp only [List.lookup, hne]
          exact ih hr.2 hm
    · cases q : (hideAll s.heap (own'.map (·.1))).get? s.heap.objs.size with
      | none => rfl
      | some o => exact absurd (Heap.lt_size (of_hideAll _ q)) (Nat.lt_irrefl _)
  exact ks_wpAt_mono (h _ _ C) (fun fl s' hl => hl) fun _ _ e => e.elim


structure Jy (w : World) (s : Shared) (g : Heap) (s₀ : Shared) : Prop where
  bs : Bs w g
  bi : ∃ sl, g.get? 4 = some ⟨.type "module", some builtinsNs, .plain, sl⟩
  base : ∀ b o, isTab b = false → s.heap.get? b = some o → g.get? b = some o
  os : s₀.os = s.os
  drawn : s₀.drawn = s.drawn
  gens : AllBare s.gens → AllBare s₀.gens
  toks : s.toks ≤ s₀.toks
theorem Jy.start (B : Bs w s.heap) (T : ∃ sl, s.heap.get? 4 = some ⟨.type "module", some builtinsNs, .plain, sl⟩) : Jy w s s.heap s := ⟨B, T, fun _ _ _ e => e, rfl, rfl, id, Nat.le_refl _⟩
theorem Jy.out {z : Shared} (J : Jy w s g s₀) (C : Cx true prog w g L m own s₀ z) : Gr false s z :=
  ⟨fun b o t e => C.keep b o rfl (J.base b o (by simpa using t) e), C.os.trans J.os, C.drawn.trans J.drawn, by
    rw [if_neg (by decide)]
    intro hb
    have e1 : z.gens = s₀.gens := by simpa using C.gens
    rw [e1]; exact J.gens hb, Nat.le_trans J.toks C.toks⟩
theorem Jy.jump {z z' : Shared} (J : Jy w s g s₀) (C : Cx true prog w g L m own s₀ z) (G : Gr false z z') (hs : own'.Sublist own) (h0 : m ≠ []) :
    ∃ g', Jy w s g' z' ∧ Cx true prog w g' L m own' z' z' ∧ (∀ b o, isTab b = false → g.get? b = some o → g'.get? b = some o) ∧
      (∀ p ∈ own, p.1 ∉ own'.map (·.1) → p.2.Is prog w g' p.1) ∧ (∀ b o, b ≠ L → b ∉ own'.map (·.1) → z'.heap.get? b = some o → g'.get? b = some o) ∧ (∀ b o, b < 203 → z'.heap.get? b = some o → g'.get? b = some o) := by
  obtain ⟨g', C', k1, k2, k3, k4⟩ := C.jump G hs h0
  refine ⟨g', ⟨J.bs.keeps (σ := false) fun b o t e => k1 b o (by simpa using t) e, let ⟨sl, e⟩ := J.bi; ⟨sl, k1 _ _ rfl e⟩, fun b o t e => k1 b o t (J.base b o t e), ?_, ?_, ?_, ?_⟩, C', k1, k3, k4, k2⟩
  · exact G.os.trans (C.os.trans J.os)
  · exact G.drawn.trans (C.drawn.trans J.drawn)
  · intro hb
    have e1 : z.gens = s₀.gens := by simpa using C.gens
    have e2 : AllBare z.gens → AllBare z'.gens := by simpa using G.gens
    exact e2 (by rw [e1]; exact J.gens hb)
  · exact Nat.le_trans J.toks (Nat.le_trans C.toks G.toks)

theorem Cx.jump0 (C : Cx true prog w g L [] own s₀ s) (G : Gr false s s') (hs : own'.Sublist own) :
    ∃ g', Cx true prog w g' L [] own' s' s' ∧ (∀ b o, isTab b = false → g.get? b = some o → g'.get? b = some o) ∧ (∀ b o, b < 203 → s'.heap.get? b = some o → g'.get? b = some o) ∧ (∀ b o, b ∉ own'.map (·.1) → s'.heap.get? b = some o → g'.get? b = some o) := by
  have up : ∀ b o, b ∉ own'.map (·.1) → s'.heap.get? b = some o → (hideAll s'.heap (own'.map (·.1))).get? b = some o := fun b o h2 e => hideAll_get _ e h2
  have fresh : ∀ p ∈ own', g.get? p.1 = none ∧ 203 ≤ p.1 := fun p hp => (C.its p (hs.subset hp)).2.1
  have notIn : ∀ b o, g.get? b = some o → b ∉ own'.map (·.1) := fun b o e hm => by
    obtain ⟨p, hp, q⟩ := List.mem_map.mp hm
    rw [← q, (fresh p hp).1] at e; cases e
  have small : ∀ b, b < 203 → b ∉ own'.map (·.1) := fun b hb hm => by
    obtain ⟨p, hp, q⟩ := List.mem_map.mp hm
    have := (fresh p hp).2
    rw [q] at this; exact absurd this (Nat.not_le.mpr hb)
  refine ⟨hideAll s'.heap (own'.map (·.1)), ⟨.inl rfl, fun b o _ e => of_hideAll _ e, ?_, .inl rfl, fun p hp => ?_, (hs.map _).nodup C.nd, C.uq, rfl, rfl, rfl, Nat.le_refl _⟩, fun b o t e => ?_, fun b o hb e => ?_, up⟩
  · obtain ⟨o, ho⟩ := C.low
    exact ⟨o, up _ _ (small 202 (by decide)) (G.keep _ _ rfl (C.keep _ _ rfl ho))⟩
  · obtain ⟨h1, h2, h3⟩ := C.its p (hs.subset hp)
    exact ⟨h1.at fun o e => G.keep _ _ (off (tab_ge h2.2)) e, ⟨hideAll_none _ (List.mem_map_of_mem hp), h2.2⟩, .inl rfl⟩
  · exact up _ _ (notIn b o e) (G.keep _ _ (off t) (C.keep _ _ rfl e))
  · exact up _ _ (small b hb) e
theorem Jy.jumpA {z z' : Shared} (J : Jy w s g s₀) (C : Cx true prog w g L m own s₀ z) (G : Gr false z z') (hs : own'.Sublist own) :
    ∃ g', Jy w s g' z' ∧ Cx true prog w g' L m own' z' z' ∧ (∀ b o, isTab b = false → g.get? b = some o → g'.get? b = some o) ∧ (∀ b o, z.heap.get? b = none → z'.heap.get? b = some o → g'.get? b = some o) ∧ (∀ b o, b < 203 → z'.heap.get? b = some o → g'.get? b = some o) := by
  have hf : ∀ b, z.heap.get? b = none → b ∉ own'.map (·.1) := fun b hb hm => by
    obtain ⟨p, hp, q⟩ := List.mem_map.mp hm
    obtain ⟨o, ho⟩ := (C.its p (hs.subset hp)).1.has
    rw [q, hb] at ho; cases ho
  by_cases h0 : m = []
  · subst h0
    obtain ⟨g', C', k1, k2, k4⟩ := C.jump0 G hs
    refine ⟨g', ⟨J.bs.keeps (σ := false) fun b o t e => k1 b o (by simpa using t) e, let ⟨sl, e⟩ := J.bi; ⟨sl, k1 _ _ rfl e⟩, fun b o t e => k1 b o t (J.base b o t e), G.os.trans (C.os.trans J.os), G.drawn.trans (C.drawn.trans J.drawn), fun hb => ?_, Nat.le_trans J.toks (Nat.le_trans C.toks G.toks)⟩, C', k1, fun b o hb e => k4 b o (hf b hb) e, k2⟩
    have e1 : z.gens = s₀.gens := by simpa using C.gens
    have e2 : AllBare z.gens → AllBare z'.gens := by simpa using G.gens
    exact e2 (by rw [e1]; exact J.gens hb)
  · obtain ⟨g', J', C', y1, _, y3, y4⟩ := J.jump C G hs h0
    refine ⟨g', J', C', y1, fun b o hb e => y3 b o ?_ (hf b hb) e, y4⟩
    rintro rfl
    obtain ⟨f, ⟨o, _, _, ho, _⟩, _⟩ := C.ns.resolve_left h0
    rw [hb] at ho; cases ho
noncomputable def Tk (c P : Addr) (qual : Str) (pos : Pos) (h : Heap) : Option Addr → Prop
  | none => CodeHd h c P ∧ h.get? P = some (tabObj #[])
  | some c' => CodeHd h c P ∧ h.get? P = some (tabObj #[rawInt pos.line, rawInt pos.col, .ref c']) ∧ h.CodeRec (.ref c') qual ∧ 203 ≤ c'
theorem codeHd_at {c P : Addr} (x : CodeHd h c P) (k : ∀ o, h.get? c = some o → h'.get? c = some o) : CodeHd h' c P :=
  let ⟨o, vs, file, tf, flags, tg, inF, text, tt, e, r⟩ := x; ⟨o, vs, file, tf, flags, tg, inF, text, tt, k _ e, r⟩
theorem codeRec_at {c' : Addr} {qual : Str} (x : h.CodeRec (.ref c') qual) (k : ∀ o, h.get? c' = some o → h'.get? c' = some o) : h'.CodeRec (.ref c') qual := by
  obtain ⟨c, o, vs, t, e, ho, r⟩ := x
  cases e
  exact ⟨_, o, vs, t, rfl, k _ ho, r⟩
theorem Tk.at {c P : Addr} {qual : Str} {pos : Pos} {k : Option Addr} (T : Tk c P qual pos h k) (k1 : ∀ o, h.get? c = some o → h'.get? c = some o) (k2 : ∀ o, h.get? P = some o → h'.get? P = some o) (k3 : ∀ b o, 203 ≤ b → k = some b → h.get? b = some o → h'.get? b = some o) : Tk c P qual pos h' k := by
  cases k with
  | none => exact ⟨codeHd_at T.1 k1, k2 _ T.2⟩
  | some c' => exact ⟨codeHd_at T.1 k1, k2 _ T.2.1, codeRec_at T.2.2.1 fun o e => k3 _ o T.2.2.2 rfl e, T.2.2.2⟩
theorem ns_name {P : Params} : nsIn (KK P) mainGlobals "__builtins__" = some (some (.ref 4)) := ns_bi
theorem builtinsAt {mg : Str → Option Value} {P : Addr} (B : Bs w h) (G : h.Ns mainGlobals mg) (T : ∃ sl, h.get? 4 = some ⟨.type "module", some builtinsNs, .plain, sl⟩) (hP : P ≠ 4) : h.BuiltinsAt mg P := by
  obtain ⟨sl, e⟩ := T
  exact ⟨4, _, mg_of B.k G ns_bi, by decide, by decide, hP.symm, e, rfl, rfl, rfl⟩
theorem makeIn {name qual : Str} {params : Arguments} {body : List Stmt} {scope : Scope} {clos : List (Str × Addr)} {pos : Pos} {firstLine : Nat} {c P : Addr} {k : Option Addr} {z : Shared} {Q : Value → Shared → Prop}
    (J : Jy w s g s₀) (C : Cx true prog w g L m own s₀ z) (T : Tk c P qual pos g k) (hPt : isTab P = true) (hcl : closureFor scope env = pure clos) (hgl : env.globals = mainGlobals) (hcode : env.code = .ref c)
    (h : ∀ f fo c' g' s₀' z', Jy w s g' s₀' → Cx true prog w g' L m ((f, .raw fo) :: own) s₀' z' → (∃ doc pm ctv, fo.data = .func (fnX name qual params body scope clos .none .none doc pm none (.ref c') ctv)) → fo.cls = .type "function" → Tk c P qual pos g' (some c') →
      (k = some c' ∨ z.heap.get? c' = none) → (∀ b o, b ≠ P → g.get? b = some o → g'.get? b = some o) → Q (.ref f) z') :
    wpAny (model prog w) A (makeFunction name qual params (.stmts body) scope env [] [] [] pos firstLine) Q E z := by
  have B2 := C.bs J.bs
  obtain ⟨mg, G⟩ := B2.gl
  have hP3 : P < 203 := tab_lt hPt
  have hgP : mainGlobals ≠ P := by rintro rfl; exact absurd hPt (by decide)
  have hP4 : P ≠ 4 := by rintro rfl; exact absurd hPt (by decide)
  have hb := builtinsAt (P := P) B2 G (let ⟨sl, e⟩ := J.bi; ⟨sl, C.keep _ _ rfl e⟩) hP4
  have TZ : Tk c P qual pos z.heap k := T.at (fun o e => C.keep _ _ rfl e) (fun o e => C.keep _ _ rfl e) fun b o _ _ e => C.keep _ _ rfl e
  cases k with
  | none =>
    refine wpAny_with_toks (Nat.le_refl _) (makeFunction_K hcl hgl G hcode TZ.1 TZ.2 (by trivial) rfl hgP hb fun c' ctv doc h' tk hx hge hlt hrec htab ht => ?_)
    have G1 : Gr false z { z with heap := h', toks := tk } := ⟨fun b o t e => hx b o (by rintro rfl; rw [hPt] at t; exact absurd t (by decide)) e, rfl, rfl, gens_refl, ht⟩
    obtain ⟨g', J', C', y1, y3, y4⟩ := J.jumpA C G1 (List.Sublist.refl own)
    have C2 := C'.push (o := fnMade name qual params body scope clos doc ((mg "__name__").getD .none) c' ctv) (sh := .raw (fnMade name qual params body scope clos doc ((mg "__name__").getD .none) c' ctv)) (tk := tk) (Nat.le_refl _) (Heap.get?_push_size _ rfl)
    have hfr : z.heap.get? c' = none := by
      cases q : z.heap.get? c' with
      | none => rfl
      | some o => exact absurd (Heap.lt_size q) (Nat.not_lt.mpr hge)
    have h203 : 203 ≤ c' := Nat.le_trans C.top hge
    refine h _ _ c' g' _ _ J' C2 ⟨doc, _, ctv, rfl⟩ rfl ⟨codeHd_at T.1 fun o e => ?_, y4 _ _ hP3 htab, codeRec_at hrec fun o e => y3 _ _ hfr e, h203⟩ (.inr hfr) fun b o hbP e => ?_
    · by_cases hc : isTab c = true
      · refine y4 _ _ (tab_lt hc) (hx _ _ (by obtain ⟨_, _, _, _, _, _, _, _, _, _, _, _, _, _, _, _, _, _, hne⟩ := T.1; exact hne) (C.keep _ _ rfl e))
      · exact y1 _ _ (by simpa using hc) e
    · by_cases hc : isTab b = true
      · exact y4 _ _ (tab_lt hc) (hx _ _ hbP (C.keep _ _ rfl e))
      · exact y1 _ _ (by simpa using hc) e
  | some c' =>
    have hf : codeAmong pos (#[rawInt pos.line, rawInt pos.col, Value.ref c'] : Array Value).toList = some (.ref c') := by
      simp [codeAmong, rawInt]
    refine wpAny_with_toks (Nat.le_refl _) (makeFunction_hit hcl hgl G hcode TZ.1 TZ.2.1 ?_ hf hb fun ctv doc h' tk hk hsz ht => ?_)
    · show TriplesOk [_, _, _]
      simp [TriplesOk, rawInt]
    have C1 := C.grown (s' := { z with heap := h', toks := tk }) (.heap ht hk)
    have C2 := C1.push (o := { cls := .type "function", data := .func (fnX name qual params body scope clos .none .none doc ((mg "__name__").getD .none) none (.ref c') ctv) }) (sh := .raw { cls := .type "function", data := .func (fnX name qual params body scope clos .none .none doc ((mg "__name__").getD .none) none (.ref c') ctv) }) (tk := tk) (Nat.le_refl _) (Heap.get?_push_size _ rfl)
    exact h _ _ c' g _ _ J C2 ⟨doc, _, ctv, rfl⟩ rfl T (.inl rfl) fun _ _ _ e => e
theorem callWith_F {f : Addr} {fo : Obj} {e : Expr} {rest : List Expr} {pos : Pos} {Q : Value → Shared → Prop} (hfo : ∀ h : Heap, h.get? f = some fo → Looks M h (keeperOf (.ref f)) .frame)
    (h : wpAny M A (spliced (backTo pos (starEach (e :: rest) env))) (fun vs s₁ => s₁.heap.get? f = some fo ∧ wpAny M A (call (.ref f) ([] ++ vs)) Q E s₁) E s)
    (he : starEach (e :: rest) env = (false, eval e env) :: starEach rest env := by rfl) (hplain : (backTo pos (starEach rest env)).any (·.1) = false := by rfl) :
    wpAny M A (callWith pos (.ref f) [] (backTo pos (starEach (e :: rest) env)) []) Q E s := by
  rw [he] at h ⊢
  exact callWith_of (P := fun h => h.get? f = some fo) (by show ((false || (backTo pos (starEach rest env)).any (·.1)) || false) = false; rw [hplain]; rfl) (fun h q => ⟨.frame, .inl rfl, hfo h q⟩) (evalArgs_plain h)
theorem c2F {f : Addr} {fo : Obj} {e e2 : Expr} {pos : Pos} {Q : Value → Shared → Prop} (hfo : ∀ h : Heap, h.get? f = some fo → Looks M h (keeperOf (.ref f)) .frame)
    (h : wpAny M A (eval e env) (fun v s₁ => wpAny M A (eval e2 env) (fun v₂ s₂ => s₂.heap.get? f = some fo ∧ wpAny M A (call (.ref f) [v, v₂]) Q E s₂) E s₁) E s)
    (he : starEach [e, e2] env = [(false, eval e env), (false, eval e2 env)] := by with_unfolding_all rfl) (he' : starEach [e2] env = [(false, eval e2 env)] := by with_unfolding_all rfl) : wpAny M A (callWith pos (.ref f) [] (backTo pos (starEach [e, e2] env)) []) Q E s := by
  refine callWith_F hfo (sm (wpAny_mono h (fun _ _ q => sm (wpAny_mono q (fun _ _ q => spliced_none q) fun _ _ e => e) he') fun _ _ e => e) (he.trans (by rw [he']))) ?_ ?_
  · exact he.trans (by rw [he'])
  · rw [he']; rfl
theorem c3F {f : Addr} {fo : Obj} {e e2 e3 : Expr} {pos : Pos} {Q : Value → Shared → Prop} (hfo : ∀ h : Heap, h.get? f = some fo → Looks M h (keeperOf (.ref f)) .frame)
    (h : wpAny M A (eval e env) (fun v s₁ => wpAny M A (eval e2 env) (fun v₂ s₂ => wpAny M A (eval e3 env) (fun v₃ s₃ => s₃.heap.get? f = some fo ∧ wpAny M A (call (.ref f) [v, v₂, v₃]) Q E s₃) E s₂) E s₁) E s)
    (he : starEach [e, e2, e3] env = [(false, eval e env), (false, eval e2 env), (false, eval e3 env)] := by with_unfolding_all rfl) (he' : starEach [e2, e3] env = [(false, eval e2 env), (false, eval e3 env)] := by with_unfolding_all rfl) (he'' : starEach [e3] env = [(false, eval e3 env)] := by with_unfolding_all rfl) :
    wpAny M A (callWith pos (.ref f) [] (backTo pos (starEach [e, e2, e3] env)) []) Q E s := by
  refine callWith_F hfo (sm (wpAny_mono h (fun _ _ q => sm (wpAny_mono q (fun _ _ q => sm (wpAny_mono q (fun _ _ q => spliced_none q) fun _ _ e => e) he'') fun _ _ e => e) (he'.trans (by rw [he'']))) fun _ _ e => e) (he.trans (by rw [he']))) ?_ ?_
  · exact he.trans (by rw [he'])
  · rw [he']; rfl
theorem keeper_fn {f : Addr} {fo : Obj} {fd : FuncData} (hd : fo.data = .func fd) : ∀ h : Heap, h.get? f = some fo → Looks M h (keeperOf (.ref f)) .frame := fun h q => by
  obtain ⟨c, d, dt, sl⟩ := fo
  simp only at hd
  subst hd
  exact (Looks.ld (part := none) q).andThen .now
end
section
open PySem PySem.W PyProof.Rows PySem.Spec PySem.Calls Builtin
set_option maxHeartbeats 1000000
variable {σ : Bool} {prog : Program} {w : World} {g h h' : Heap} {L a : Addr} {m m' : List (Str × Value)} {own own' : List (Addr × Sh)} {s₀ s s' : Shared} {sh sh' : Sh}
variable {A : Around} {E : Value → Shared → Prop} {M : Model} {env : Env} {x y : Str} {v : Value} {t u : Tok}

theorem tName {x : Str} {pos : Pos} {whole : Sem Value} {Q : Bool → Shared → Prop} (h : wpAny M A whole (fun v s₁ => wpAny M A (truthy v) Q E s₁) E s) : wpAny M A (isTrue (.Name x pos) env whole) Q E s := wpAny_isTrue_value h rfl
theorem bits_le {a k : Nat} (h : a < 2 ^ k) : Builtin.Int.intBits (a : Int) ≤ k := intBits_le_iff.mpr (by simpa using h)
theorem pow_cast (b : Nat) : ((2 ^ b : Nat) : Int) = (2 : Int) ^ b := by simp
theorem oShr {a b : Nat} {Q : Value → Shared → Prop} (C : Cx σ prog w g L m own s₀ s) (h : ∀ t s', Cx σ prog w g L m own s₀ s' → Q (.int ((a / 2 ^ b : Nat) : Int) t) s') : wpAny (model prog w) A (binaryOp .RShift (.int (a : Int) t) (.int (b : Int) u)) Q E s := by
  by_cases hb : (b : Int) ≥ ((Builtin.Int.intBits (a : Int) : Nat) : Int)
  · refine AutoIntOps.rshift_1 (by lia) hb ?_
    have hlt : a < 2 ^ b := by
      have := intBits_le_iff (m := b) (x := (a : Int)) |>.mp (by lia)
      simpa using this
    have e : (if (a : Int) < 0 then (-1 : Int) else 0) = ((a / 2 ^ b : Nat) : Int) := by
      rw [if_neg (by lia), Nat.div_eq_of_lt hlt]; rfl
    rw [e]
    exact h _ _ (C.tokens (Nat.le_succ _))
  · refine AutoIntOps.rshift_2 (by lia) hb ?_
    have e : (a : Int).fdiv (2 ^ (b : Int).toNat) = ((a / 2 ^ b : Nat) : Int) := by
      rw [Int.toNat_natCast, Int.fdiv_eq_ediv_of_nonneg _ (by rw [← pow_cast]; exact Int.natCast_nonneg _), ← pow_cast]
      simp
    rw [e]
    exact h _ _ (C.tokens (Nat.le_succ _))
theorem oShl {a b : Nat} {Q : Value → Shared → Prop} (C : Cx σ prog w g L m own s₀ s) (ha : a < 2 ^ 1000) (hb : b ≤ 1000) (h : ∀ t s', Cx σ prog w g L m own s₀ s' → Q (.int ((a * 2 ^ b : Nat) : Int) t) s') : wpAny (model prog w) A (binaryOp .LShift (.int (a : Int) t) (.int (b : Int) u)) Q E s := by
  have h1 := bits_le ha
  refine lshift_int (by lia) (by lia) ?_
  have e : (a : Int) * 2 ^ (b : Int).toNat = ((a * 2 ^ b : Nat) : Int) := by rw [Int.toNat_natCast, ← pow_cast]; push_cast; rfl
  rw [e]
  exact h _ _ (C.tokens (Nat.le_succ _))
theorem and_high (a s : Nat) : a &&& (a / 2 ^ s * 2 ^ s) = a / 2 ^ s * 2 ^ s := by
  apply Nat.eq_of_testBit_eq
  intro i
  rw [Nat.testBit_and, ← Nat.shiftRight_eq_div_pow, ← Nat.shiftLeft_eq, Nat.testBit_shiftLeft, Nat.testBit_shiftRight]
  by_cases hi : i ≥ s
  · simp [hi]
  · simp [hi]
theorem xor_low (a s : Nat) : Builtin.bitXor (a : Int) ((a / 2 ^ s * 2 ^ s : Nat) : Int) = ((a % 2 ^ s : Nat) : Int) := by
  rw [bitXor_and]
  have h1 : Builtin.bitAnd (a : Int) ((a / 2 ^ s * 2 ^ s : Nat) : Int) = ((a / 2 ^ s * 2 ^ s : Nat) : Int) := by
    unfold Builtin.bitAnd
    rw [decide_eq_true (by lia : (0 : Int) ≤ (a : Int)), decide_eq_true (by lia : (0 : Int) ≤ ((a / 2 ^ s * 2 ^ s : Nat) : Int))]
    simp only [Int.toNat_natCast, and_high]
  rw [h1]
  have h2 := Nat.div_add_mod a (2 ^ s)
  have h3 : 2 ^ s * (a / 2 ^ s) = a / 2 ^ s * 2 ^ s := Nat.mul_comm _ _
  lia
theorem oXor {a s' : Nat} {Q : Value → Shared → Prop} (C : Cx σ prog w g L m own s₀ s) (h : ∀ t z, Cx σ prog w g L m own s₀ z → Q (.int ((a % 2 ^ s' : Nat) : Int) t) z) : wpAny (model prog w) A (binaryOp .BitXor (.int (a : Int) t) (.int ((a / 2 ^ s' * 2 ^ s' : Nat) : Int) u)) Q E s := by
  refine xor_int ?_
  rw [xor_low]
  exact h _ _ (C.tokens (Nat.le_succ _))
theorem oMul {i j : Int} {Q : Value → Shared → Prop} (C : Cx σ prog w g L m own s₀ s) (hi : i.natAbs < 2 ^ 64) (h : ∀ t z, Cx σ prog w g L m own s₀ z → Q (.int (i * j) t) z) : wpAny (model prog w) A (binaryOp .Mult (.int i t) (.int j u)) Q E s :=
  AutoIntOps.mul_0 (h _ _ (C.tokens (Nat.le_succ _))) (IntMulOk.of_left (intBits_le_iff.mpr hi))
theorem oPow2 {b : Nat} {Q : Value → Shared → Prop} (C : Cx σ prog w g L m own s₀ s) (hb : 1 ≤ b ∧ b ≤ 1000) (h : ∀ t z, Cx σ prog w g L m own s₀ z → Q (.int ((2 ^ b : Nat) : Int) t) z) : wpAny (model prog w) A (binaryOp .Pow (.int 2 t) (.int (b : Int) u)) Q E s := by
  refine AutoIntOps.pow_4 (by lia) (by simp; lia) (by decide) (by decide) ?_ ?_
  · simp only [Builtin.Int.intTooBig, show Builtin.Int.intBits 2 = 2 by decide +kernel, decide_eq_true_eq]
    have : (10000 : Int) ≤ (bitsLine : Int) := by decide +kernel
    lia
  · rw [Int.toNat_natCast, ← pow_cast]
    exact h _ _ (C.tokens (Nat.le_succ _))
theorem onInt {i : Int} {name : Str} {id : String} {pos : Pos} {args : List (Bool × Sem Value)} {Q : Value → Shared → Prop}
    (slot : Slot "int" name id) (hty : typeOf (.builtin id) = pure (.type "method_descriptor")) (h : wpAny (model prog w) A (callWith pos (.builtin id) [.int i t] args []) Q E s) : MethodOnS prog w A E name (.int i t) pos args Q s :=
  ⟨"int", id, F.plainAttrs_int, slot, hty, typeIs_int _ _ _, (fun _ e => nomatch e), h⟩
theorem cBits {i : Int} {Q : Value → Shared → Prop} (C : Cx σ prog w g L m own s₀ s) (h : ∀ t z, Cx σ prog w g L m own s₀ z → Q (.int (Builtin.Int.intBits i) t) z) : wpAny (model prog w) A (call (.builtin "int.bit_length") [.int i t]) Q E s :=
  call_int_bit_length (h _ _ (C.tokens (Nat.le_succ _)))
theorem cDivmod {i j : Int} {Q : Value → Shared → Prop} (C : Cx σ prog w g L m own s₀ s) (hj : 0 < j) (hl : j.natAbs.log2 < 9000) (h : ∀ r t1 t2 z, Cx σ prog w g L m ((r, .tup [.int (i / j) t1, .int (i % j) t2]) :: own) s₀ z → Q (.ref r) z) : wpAny (model prog w) A (call (.builtin "divmod") [.int i t, .int j u]) Q E s := by
  refine divmod_int (by lia) ?_ (.inl (PyProof.noPylong_of_log2 hl))
  rw [Int.fdiv_eq_ediv_of_nonneg _ (by lia), Int.fmod_eq_emod_of_nonneg _ (by lia)]
  exact h _ _ _ _ (C.push (tk := s.toks + 1 + 1) (Nat.le_add_right _ 2) ⟨0, Heap.get?_push_size _ rfl⟩)
theorem cReverse {l : Addr} {vs : List Value} {Q : Value → Shared → Prop} (C : Cx σ prog w g L m own s₀ s) (up : Up l (.list vs) (.list vs.reverse) own own') (hn : vs.length ≤ 1000)
    (h : ∀ s', Cx σ prog w g L m own' s₀ s' → Q .none s') : wpAny (model prog w) A (call (.builtin "list.reverse") [.ref l]) Q E s := by
  obtain ⟨n, ho⟩ := C.is up.mem
  refine call_meets PySem.F.slot_list_reverse ⟨_, ho, rfl⟩ PySem.F.entry_list_reverse (PySem.F.args_list_reverse_1 _) (PySem.AutoListH.list_reverse_list_0 l vs.toArray n (by rw [sizeLine_eq, List.size_toArray]; lia)) ⟨ho, ?_⟩
  refine h _ (C.upd (tk := s.toks) up (Nat.le_refl _) (Heap.SameBut.update ..) ⟨n, ?_⟩)
  have e := mapSeq_reverse vs.toArray n
  rw [Heap.get?_update_self _ ho (by rw [e]; rfl), e]
theorem cRevList {l : Addr} {vs : List Value} {Q : Value → Shared → Prop} (C : Cx σ prog w g L m own s₀ s) (hl : Sh.Is prog w s.heap l (.list vs))
    (h : ∀ I z, l ≠ I → Cx σ prog w g L m ((I, .flds "list_reverseiterator" [.ref l, .int ((vs.length : Int) - 1) 0]) :: own) s₀ z → Q (.ref I) z) : wpAny (model prog w) A (call (.type "reversed") [.ref l]) Q E s := by
  have hlt := hl.lt
  refine call_reversed_list (Sh.isL hl) ?_
  have e : ((vs.toArray.size : Nat) : Int) - 1 = (vs.length : Int) - 1 := by simp
  rw [e]
  exact h _ _ (Nat.ne_of_lt hlt) (C.push (tk := s.toks) (Nat.le_refl _) ⟨_, Heap.get?_push_size _ rfl, rfl, rfl⟩)
theorem tList {l : Addr} {vs : List Value} {Q : Bool → Shared → Prop} (C : Cx σ prog w g L m own s₀ s) (hl : Sh.Is prog w s.heap l (.list vs)) (hn : vs.length ≤ 1000) (h : ∀ z, Cx σ prog w g L m own s₀ z → Q (decide (0 < vs.length)) z) : wpAny (model prog w) A (truthy (.ref l)) Q E s := by
  refine wpAny_truthy_list (Sh.isL hl) (by rw [List.size_toArray]; lia) ?_
  have e : (!vs.toArray.isEmpty) = decide (0 < vs.length) := by cases vs <;> simp
  rw [e]
  exact h _ (C.tokens (Nat.le_add_right _ 2))
theorem oShr' {i j : Int} (a b : Nat) {Q : Value → Shared → Prop} (C : Cx σ prog w g L m own s₀ s) (hi : i = a) (hj : j = b) (h : ∀ t s', Cx σ prog w g L m own s₀ s' → Q (.int ((a / 2 ^ b : Nat) : Int) t) s') : wpAny (model prog w) A (binaryOp .RShift (.int i t) (.int j u)) Q E s := by
  subst hi hj; exact oShr C h
theorem oShl' {i j : Int} (a b : Nat) {Q : Value → Shared → Prop} (C : Cx σ prog w g L m own s₀ s) (hi : i = a) (hj : j = b) (ha : a < 2 ^ 1000) (hb : b ≤ 1000) (h : ∀ t s', Cx σ prog w g L m own s₀ s' → Q (.int ((a * 2 ^ b : Nat) : Int) t) s') : wpAny (model prog w) A (binaryOp .LShift (.int i t) (.int j u)) Q E s := by
  subst hi hj; exact oShl C ha hb h
theorem oXor' {i j : Int} (a s' : Nat) {Q : Value → Shared → Prop} (C : Cx σ prog w g L m own s₀ s) (hi : i = a) (hj : j = ((a / 2 ^ s' * 2 ^ s' : Nat) : Int)) (h : ∀ t z, Cx σ prog w g L m own s₀ z → Q (.int ((a % 2 ^ s' : Nat) : Int) t) z) : wpAny (model prog w) A (binaryOp .BitXor (.int i t) (.int j u)) Q E s := by
  subst hi hj; exact oXor C h
theorem aRet0 {pos : Pos} {Q : Flow → Shared → Prop} (h : Q (.ret .none) s) : wpAny M A (exec (.Return none pos) env) Q E s := by
  exact wpAny_Return_none h
noncomputable def digs (a wd k : Nat) : List Int := (List.range k).map fun i => ((a / 2 ^ (wd * i) % 2 ^ wd : Nat) : Int)
structure Laid (vs vs' : List Value) (lo k x wd : Nat) : Prop where
  len : vs'.length = vs.length
  out : ∀ i, i < lo ∨ lo + k ≤ i → vs'[i]? = vs[i]?
  at' : ∀ j, j < k → ∃ t, vs'[lo + j]? = some (.int ((x / 2 ^ (wd * j) % 2 ^ wd : Nat) : Int) t)
theorem low_digit (x wd : Nat) {j k : Nat} (h : j < k) : x % 2 ^ (k * wd) / 2 ^ (wd * j) % 2 ^ wd = x / 2 ^ (wd * j) % 2 ^ wd := by
  apply Nat.eq_of_testBit_eq
  intro i
  simp only [Nat.testBit_mod_two_pow, Nat.testBit_div_two_pow]
  by_cases hi : i < wd
  · have : i + wd * j < k * wd := by
      have : (j + 1) * wd ≤ k * wd := Nat.mul_le_mul_right _ h
      rw [Nat.add_mul, Nat.mul_comm j wd] at this
      lia
    simp [this]
  · simp [hi]
theorem high_digit (x wd k j : Nat) : x / 2 ^ (k * wd) / 2 ^ (wd * j) = x / 2 ^ (wd * (k + j)) := by
  rw [Nat.div_div_eq_div_mul, ← Nat.pow_add, Nat.mul_comm k wd, ← Nat.mul_add]
theorem Laid.both {vs vs' vs'' : List Value} {lo k j x wd : Nat} (h1 : Laid vs vs' lo k (x % 2 ^ (k * wd)) wd) (h2 : Laid vs' vs'' (lo + k) j (x / 2 ^ (k * wd)) wd) : Laid vs vs'' lo (k + j) x wd := by
  refine ⟨h2.len.trans h1.len, fun i hi => ?_, fun i hi => ?_⟩
  · rw [h2.out i (by lia), h1.out i (by lia)]
  · by_cases hk : i < k
    · obtain ⟨t, e⟩ := h1.at' i hk
      rw [low_digit x wd hk] at e
      exact ⟨t, by rw [h2.out _ (by lia)]; exact e⟩
    · obtain ⟨t, e⟩ := h2.at' (i - k) (by lia)
      rw [high_digit, show k + (i - k) = i by lia, show lo + k + (i - k) = lo + i by lia] at e
      exact ⟨t, e⟩
theorem Laid.one (vs : List Value) {lo x wd : Nat} {t : Tok} (h : lo < vs.length) (hx : x < 2 ^ wd) : Laid vs (vs.set lo (.int (x : Int) t)) lo 1 x wd := by
  refine ⟨by simp, fun i hi => by rw [List.getElem?_set_ne (by lia)], fun j hj => ⟨t, ?_⟩⟩
  have : j = 0 := by lia
  subst this
  rw [Nat.mul_zero, Nat.pow_zero, Nat.div_one, Nat.mod_eq_of_lt hx]
  simp [h]
theorem ints_of : ∀ (vs : List Value) (ns : List Int), vs.length = ns.length → (∀ (j : Nat) (n : Int), ns[j]? = some n → ∃ t, vs[j]? = some (.int n t)) → IntsAre vs ns
  | [], [], _, _ => .nil
  | v :: vs, n :: ns, hl, h => by
    obtain ⟨t, e⟩ := h 0 n rfl
    simp at e
    subst e
    exact .cons n t (ints_of vs ns (by simpa using hl) fun j n e => h (j + 1) n e)
theorem Laid.ints {vs vs' : List Value} {k x wd : Nat} (h : Laid vs vs' 0 k x wd) (hk : vs.length = k) : IntsAre vs' (digs x wd k) := by
  refine ints_of _ _ (by simp [digs, h.len, hk]) fun j n e => ?_
  have hj : j < k := by
    have := (List.getElem?_eq_some_iff.mp e).1
    simpa [digs] using this
  obtain ⟨t, e2⟩ := h.at' j hj
  simp [digs, hj] at e
  subst e
  exact ⟨t, by simpa using e2⟩
noncomputable def valD (f : Nat → Nat) (w lo : Nat) : Nat → Nat
  | 0 => 0
  | k + 1 => valD f w lo k + f (lo + k) * 2 ^ (w * k)
theorem valD_split (f : Nat → Nat) (w lo k : Nat) : ∀ j, valD f w lo (k + j) = valD f w (lo + k) j * 2 ^ (k * w) + valD f w lo k
  | 0 => by simp [valD]
  | j + 1 => by
    rw [← Nat.add_assoc, valD, valD, valD_split f w lo k j, Nat.add_mul, Nat.mul_assoc, ← Nat.pow_add, show w * j + k * w = w * (k + j) by rw [Nat.mul_comm k w, ← Nat.mul_add, Nat.add_comm], Nat.add_assoc lo k j]
    lia
theorem valD_lt (f : Nat → Nat) {w : Nat} (hw : w ≤ 70) (lo : Nat) : ∀ k, (∀ j, j < k → f (lo + j) < 2 ^ 70) → valD f w lo k < 2 ^ (71 * k)
  | 0, _ => by simp [valD]
  | k + 1, h => by
    have h1 := valD_lt f hw lo k fun j hj => h j (by lia)
    have h2 := h k (Nat.lt_succ_self k)
    have h3 : (2 : Nat) ^ (w * k) ≤ 2 ^ (71 * k) := Nat.pow_le_pow_right (by decide) (Nat.mul_le_mul_right _ (by lia))
    have h4 : f (lo + k) * 2 ^ (w * k) ≤ (2 ^ 70 - 1) * 2 ^ (71 * k) := Nat.mul_le_mul (by lia) h3
    rw [valD, show 71 * (k + 1) = 71 + 71 * k by lia, Nat.pow_add]
    have h5 : (2 : Nat) ^ 71 * 2 ^ (71 * k) = (2 ^ 71 - 2 ^ 70) * 2 ^ (71 * k) + (2 ^ 70 - 1) * 2 ^ (71 * k) + 2 ^ (71 * k) := by
      rw [← Nat.add_mul, ← Nat.succ_mul]
    have h6 : 0 < (2 ^ 71 - 2 ^ 70) * 2 ^ (71 * k) := Nat.mul_pos (by decide) (Nat.two_pow_pos _)
    lia
end
section
open PySem PySem.W PyProof.Rows PySem.Spec PySem.Calls Builtin
set_option maxHeartbeats 1000000
variable {σ : Bool} {prog : Program} {w : World} {g h h' : Heap} {L a : Addr} {m m' : List (Str × Value)} {own own' : List (Addr × Sh)} {s₀ s s' : Shared} {sh sh' : Sh}
variable {A : Around} {E : Value → Shared → Prop} {M : Model} {env : Env} {x y : Str} {v : Value}

noncomputable abbrev TkD := Tk 132 128 "_digits2int.<locals>.inner" ⟨85, 4, 90, 55⟩
set_option maxHeartbeats 0 in
set_option exponentiation.threshold 2000 in
theorem d2i_spec {dl : Addr} {vs : List Value} {f : Nat → Nat} {n wd : Nat} {tn : Tok} {kd : Option Addr} {Q : Value → Shared → Prop} (B : Bs w s.heap) (BI : ∃ sl, s.heap.get? 4 = some ⟨.type "module", some builtinsNs, .plain, sl⟩) (TD : TkD s.heap kd) (hd : A.depth + 60 < recursionLimit) (hh : A.handled = none)
    (hl : Sh.Is prog w s.heap dl (.list vs)) (hl3 : 203 ≤ dl) (hv : IntL (fun i => (f i : Int)) n vs) (hf : ∀ i, f i < 2 ^ 70) (hw : 1 ≤ wd ∧ wd ≤ 70) (hn : n ≤ 10)
    (hret : ∀ t s' c', Gr false s s' → TkD s'.heap (some c') → (kd = some c' ∨ s.heap.get? c' = none) → (∀ b o, b ≠ 128 → s.heap.get? b = some o → s'.heap.get? b = some o) → Q (.int (valD f wd 0 n : Nat) t) s') :
    wpAny (model prog w) A (call (.ref 133) [.ref dl, .int (wd : Int) tn]) Q E s := by
  refine enterC (σ := true) (binds := [("digits", .ref dl), ("n", .int (wd : Int) tn)]) B (by lia) rfl rfl rfl (fun n => [("inner", n + 3), ("n", n + 2), ("digits", n + 1)]) ?_ [] (fun n => [(n + 1, .cell (some (.ref dl))), (n + 2, .cell (some (.int (wd : Int) tn))), (n + 3, .cell none)]) ?_ ?_ ?_ ?_ ?_ rfl rfl rfl ?_
  · intro n; with_unfolding_all rfl
  · intro n x hx
    rcases List.mem_cons.mp hx with rfl | hx
    · exact .inr ⟨rfl, rfl⟩
    · rw [List.mem_singleton] at hx; subst hx; exact .inr ⟨rfl, rfl⟩
  · intro p hx
    cases hx
  · exact List.nodup_nil
  · intro n p hx
    rcases List.mem_cons.mp hx with rfl | hx
    · exact ⟨"digits", _, rfl, rfl⟩
    · rcases List.mem_cons.mp hx with rfl | hx
      · exact ⟨"n", _, rfl, rfl⟩
      · rw [List.mem_singleton] at hx; subst hx; exact ⟨"inner", _, rfl, rfl⟩
  · intro n
    simp
  generalize s.heap.objs.size = L
  generalize hcd : L + 1 = cd
  generalize hcn : L + 2 = cn
  generalize hci : L + 3 = ci
  intro z C
  try dsimp only at C ⊢
  have J : Jy w s s.heap s := .start B BI
  refine wpAny_execs_cons (nestDef_K rfl rfl rfl ?_)
  have hk0 : ∀ c', z.heap.get? c' = none → s.heap.get? c' = none := fun c' e => by
    cases q : s.heap.get? c' with
    | none => rfl
    | some o => rw [C.keep _ _ rfl q] at e; cases e
  refine makeIn J C TD rfl (by with_unfolding_all rfl) rfl rfl ?_
  clear J C
  intro fn fo c' g' s1 z J C hfd hcls T' hk hkeep
  obtain ⟨doc, pm, ctv, hfd⟩ := hfd
  have BJ := J.bs
  have hl' : Sh.Is prog w g' dl (.list vs) := hl.at fun o e => J.base _ o (tab_ge hl3) e
  wtm_at "w"
  let Ok : Heap → Prop := fun h => Bs w h ∧ h.get? fn = some fo ∧ h.CodeRec (.ref c') "_digits2int.<locals>.inner" ∧ Sh.Is prog w h cd (.cell (some (.ref dl))) ∧ Sh.Is prog w h cn (.cell (some (.int (wd : Int) tn))) ∧ Sh.Is prog w h ci (.cell (some (.ref fn))) ∧ Sh.Is prog w h dl (.list vs)
  have okKeep : ∀ {h h' : Heap}, Ok h → (∀ b o, h.get? b = some o → h'.get? b = some o) → Ok h' := fun ⟨o1, o2, o3, o4, o5, o6, o7⟩ k =>
    ⟨o1.keeps (σ := true) fun b o _ e => k b o e, k _ _ o2, codeRec_at o3 fun o e => k _ _ e, o4.at fun o e => k _ _ e, o5.at fun o e => k _ _ e, o6.at fun o e => k _ _ e, o7.at fun o e => k _ _ e⟩
  have inner : ∀ (k : Nat), 1 ≤ k → ∀ (lo : Nat) (tl tr : Tok) (A : Around) (s : Shared) (Q : Value → Shared → Prop) (E : Value → Shared → Prop), A.depth + 3 * k + 10 < recursionLimit → A.handled = none → Ok s.heap → lo + k ≤ n →
      (∀ t s', Gr true s s' → Q (.int (valD f wd lo k : Nat) t) s') → wpAny (model prog w) A (call (.ref fn) [.int (lo : Int) tl, .int ((lo + k : Nat) : Int) tr]) Q E s := by
    clear hret hd hh TD hl hk T' C BJ J hkeep hl' 
    intro k
    induction k using Nat.strongRecOn with
    | ind k ih =>
      intro hk1 lo tl tr A s Q E hd hh O hn2 hret
      have BO := O.1
      refine wpAny_call (enterF (own' := []) (binds := [("L", .int (lo : Int) tl), ("R", .int ((lo + k : Nat) : Int) tr)]) BO (by lia) O.2.1 hfd O.2.2.1 (.of_eq rfl) rfl (by show ([Str.ofString "L", Str.ofString "R"] : List Str).Nodup; decide +kernel) (by with_unfolding_all decide) rfl rfl rfl (by simp) (by simp) ?_)
      intro L' z C
      simp only [List.map_nil] at C
      have C : Cx true prog w s.heap L' [(Str.ofString "L", .int (lo : Int) tl), (Str.ofString "R", .int ((lo + k : Nat) : Int) tr)] [] s z := C
      refine _root_.PySem.wpAt_of_wpAny ?_
      obtain ⟨o1, o2, o3, o4, o5, o6, o7⟩ := O
      repeat wtm_at "w"
      refine ⟨fun hb => ?_, fun hb => ?_⟩
      · have hk : k = 1 := by simp at hb; lia
        subst hk
        obtain ⟨th, hvi⟩ := hv.2 lo (by lia)
        repeat wtm_at "w"
        with_reducible refine subList (v := .int (f lo) th) (by wtm_at "is") (by lia) (by lia) (by rw [Int.toNat_natCast]; exact hvi) ?_
        have := hret th z C.out
        rw [show valD f wd lo 1 = f lo by simp [valD]] at this
        exact this
      · have hk : 2 ≤ k := by simp at hb; lia
        have hK : ∀ h', (∀ b o, s.heap.get? b = some o → h'.get? b = some o) → Ok h' := fun h' kk => okKeep ⟨o1, o2, o3, o4, o5, o6, o7⟩ kk
        repeat wtm_at "w"
        refine oShr' (lo + (lo + k)) 1 C (by push_cast; lia) rfl ?_
        clear C
        intro t z C
        rw [show (lo + (lo + k)) / 2 ^ 1 = lo + k / 2 by lia]
        repeat wtm_at "w"
        rw [show (((lo + k / 2 : Nat) : Int) - (lo : Int)) = ((k / 2 : Nat) : Int) by lia, ← Int.natCast_mul] at C
        repeat wtm_at "w"
        with_reducible refine wpAny_Call_NameR (ldF (by with_unfolding_all rfl) (by wtm_at "is") ?_)
        refine c2F (keeper_fn hfd) ?_
        repeat wtm_at "w"
        refine ⟨C.keep _ _ rfl o2, ?_⟩
        rw [show lo + k = (lo + k / 2) + (k - k / 2) by lia]
        refine ih (k - k / 2) (by lia) (by lia) (lo + k / 2) _ _ _ _ _ _ (by simp only [deeper_depth]; lia) (by wtm_at "hh") (hK _ fun b o e => C.keep b o rfl e) (by lia) ?_
        intro t1 z1 G
        have C := C.grown G
        repeat wtm_at "w"
        refine oShl' (valD f wd (lo + k / 2) (k - k / 2)) (k / 2 * wd) C rfl rfl (Nat.lt_of_lt_of_le (valD_lt f hw.2 _ _ fun j _ => hf _) (Nat.pow_le_pow_right (by decide) (by lia))) ?_ ?_
        · have : k / 2 * wd ≤ 5 * 70 := Nat.mul_le_mul (by lia) hw.2
          lia
        clear C G
        intro t2 z C
        repeat wtm_at "w"
        with_reducible refine wpAny_Call_NameR (ldF (by with_unfolding_all rfl) (by wtm_at "is") ?_)
        refine c2F (keeper_fn hfd) ?_
        repeat wtm_at "w"
        refine ⟨C.keep _ _ rfl o2, ?_⟩
        refine ih (k / 2) (by lia) (by lia) lo _ _ _ _ _ _ (by simp only [deeper_depth]; lia) (by wtm_at "hh") (hK _ fun b o e => C.keep b o rfl e) (by lia) ?_
        intro t3 z3 G
        have C := C.grown G
        repeat wtm_at "w"
        have e := valD_split f wd lo (k / 2) (k - k / 2)
        rw [show k / 2 + (k - k / 2) = k by lia] at e
        have := hret t z C.out
        rw [e] at this
        push_cast at this ⊢
        exact this
  have hvl : vs.length = n := hv.1
  repeat wtm_at "w"
  have OZ : ∀ {z}, Cx true prog w g' L [] [(fn, Sh.raw fo), (cd, Sh.cell (some (.ref dl))), (cn, Sh.cell (some (.int (wd : Int) tn))), (ci, Sh.cell (some (.ref fn)))] s1 z → Ok z.heap := fun {z} C =>
    ⟨C.bs BJ, C.raw (by wtm_at "mm"), codeRec_at T'.2.2.1 fun o e => C.keep _ _ rfl e, C.is (by wtm_at "mm"), C.is (by wtm_at "mm"), C.is (by wtm_at "mm"), C.old hl' (.inl rfl)⟩
  have out : ∀ {z : Shared} {t}, Cx true prog w g' L [] [(fn, Sh.raw fo), (cd, Sh.cell (some (.ref dl))), (cn, Sh.cell (some (.int (wd : Int) tn))), (ci, Sh.cell (some (.ref fn)))] s1 z → Q (.int (valD f wd 0 n : Nat) t) z   := fun {z t} C => by
    refine hret t z c' (J.out C) (T'.at (fun o e => C.keep _ _ rfl e) (fun o e => C.keep _ _ rfl e) fun b o _ _ e => C.keep _ _ rfl e) (hk.imp id (hk0 c')) fun b o hb e => C.keep _ _ rfl (hkeep b o hb e)
  refine ⟨fun hb => ?_, fun hb => ?_⟩
  · have hb : 0 < vs.length := by first | exact of_decide_eq_true hb | simpa using hb
    with_reducible refine wpAny_Call_NameR (ldC (by with_unfolding_all rfl) (by wtm_at "is") ?_)
    refine c2F (keeper_fn hfd) ?_
    repeat wtm_at "w"
    refine ⟨C.raw (by wtm_at "mm"), ?_⟩
    rw [hvl, show (0 : Int) = ((0 : Nat) : Int) from rfl, show ((n : Nat) : Int) = ((0 + n : Nat) : Int) by rw [Nat.zero_add]]
    refine inner n (by lia) 0 _ _ _ _ _ _ (by simp only [deeper_depth]; lia) (by wtm_at "hh") (OZ C) (by lia) ?_
    intro t3 z3 G
    exact out (C.grown G)
  · have hb : vs.length = 0 := by simp at hb; simp [hb]
    repeat wtm_at "w"
    have h0 : valD f wd 0 n = 0 := by rw [show n = 0 by lia]; rfl
    rw [h0] at out
    exact out C
end
section
open PySem PySem.W PyProof.Rows PySem.Spec PySem.Calls Builtin
set_option maxHeartbeats 1000000
variable {σ : Bool} {prog : Program} {w : World} {g h h' : Heap} {L a : Addr} {m m' : List (Str × Value)} {own own' : List (Addr × Sh)} {s₀ s s' : Shared} {sh sh' : Sh}
variable {A : Around} {E : Value → Shared → Prop} {M : Model} {env : Env} {x y : Str} {v : Value}

noncomputable abbrev TkI := Tk 125 121 "_int2digits.<locals>.inner" ⟨70, 4, 79, 28⟩
set_option maxHeartbeats 0 in
set_option exponentiation.threshold 2000 in
theorem i2d_spec {nu wd : Nat} {ta tn : Tok} {ki : Option Addr} {Q : Value → Shared → Prop} (B : Bs w s.heap) (BI : ∃ sl, s.heap.get? 4 = some ⟨.type "module", some builtinsNs, .plain, sl⟩) (TI : TkI s.heap ki) (hd : A.depth + 60 < recursionLimit) (hh : A.handled = none)
    (ha : nu < 2 ^ 700) (hw : 1 ≤ wd ∧ wd ≤ 70) (hk10 : (Builtin.Int.intBits (nu : Int) + wd - 1) / wd ≤ 10)
    (hret : ∀ r vs s' c', Gr false s s' → TkI s'.heap (some c') → (ki = some c' ∨ s.heap.get? c' = none) → (∀ b o, b ≠ 121 → s.heap.get? b = some o → s'.heap.get? b = some o) →
      Sh.Is prog w s'.heap r (.list vs) → IntsAre vs (digs nu wd ((Builtin.Int.intBits (nu : Int) + wd - 1) / wd)) → s.heap.get? r = none → 203 ≤ r → Q (.ref r) s') :
    wpAny (model prog w) A (call (.ref 126) [.int (nu : Int) ta, .int (wd : Int) tn]) Q E s := by
  have hbits : Builtin.Int.intBits (nu : Int) ≤ 700 := bits_le ha
  refine enterC (σ := true) (binds := [("a", .int (nu : Int) ta), ("n", .int (wd : Int) tn)]) B (by lia) rfl rfl rfl (fun n => [("inner", n + 3), ("a_digits", n + 2), ("n", n + 1)]) ?_ [("a", .int (nu : Int) ta)] (fun n => [(n + 1, .cell (some (.int (wd : Int) tn))), (n + 2, .cell none), (n + 3, .cell none)]) ?_ ?_ ?_ ?_ ?_ rfl rfl rfl ?_
  · intro n; with_unfolding_all rfl
  · intro n x hx
    rcases List.mem_cons.mp hx with rfl | hx
    · exact .inl rfl
    · rw [List.mem_singleton] at hx; subst hx; exact .inr ⟨rfl, rfl⟩
  · intro p hx
    rw [List.mem_singleton] at hx; subst hx; rfl
  · simp
  · intro n p hx
    rcases List.mem_cons.mp hx with rfl | hx
    · exact ⟨"n", _, rfl, rfl⟩
    · rcases List.mem_cons.mp hx with rfl | hx
      · exact ⟨"a_digits", _, rfl, rfl⟩
      · rw [List.mem_singleton] at hx; subst hx; exact ⟨"inner", _, rfl, rfl⟩
  · intro n
    simp
  generalize s.heap.objs.size = L
  generalize hcn : L + 1 = cn
  generalize hca : L + 2 = ca
  generalize hci : L + 3 = ci
  intro z C
  try dsimp only at C ⊢
  have J : Jy w s s.heap s := .start B BI
  repeat wtm_at "w"
  have eK : ((Builtin.Int.intBits (nu : Int) : Int) + (wd : Int) - 1) / (wd : Int) = (((Builtin.Int.intBits (nu : Int) + wd - 1) / wd : Nat) : Int) := by
    rw [show (Builtin.Int.intBits (nu : Int) : Int) + (wd : Int) - 1 = ((Builtin.Int.intBits (nu : Int) + wd - 1 : Nat) : Int) by lia]
    rfl
  rw [eK]
  have hxk : nu < 2 ^ (wd * ((Builtin.Int.intBits (nu : Int) + wd - 1) / wd)) := by
    refine Nat.lt_of_lt_of_le (by have := intBits_le_iff (m := Builtin.Int.intBits (nu : Int)) (x := (nu : Int)) |>.mp (Nat.le_refl _); simpa using this) (Nat.pow_le_pow_right (by decide) ?_)
    have h1 := Nat.div_add_mod (Builtin.Int.intBits (nu : Int) + wd - 1) wd
    have h2 := Nat.mod_lt (Builtin.Int.intBits (nu : Int) + wd - 1) (show 0 < wd by lia)
    lia
  have hk0' : nu ≠ 0 → 1 ≤ (Builtin.Int.intBits (nu : Int) + wd - 1) / wd := fun h => by
    have : 1 ≤ Builtin.Int.intBits (nu : Int) := by
      unfold Builtin.Int.intBits
      have : ((nu : Int) == 0) = false := by simpa using h
      rw [this]
      simp
    rw [Nat.le_div_iff_mul_le (by lia)]
    lia
  have hk00 : nu = 0 → (Builtin.Int.intBits (nu : Int) + wd - 1) / wd = 0 := fun h => by
    subst h
    have : Builtin.Int.intBits ((0 : Nat) : Int) = 0 := by decide +kernel
    rw [this]
    exact Nat.div_eq_of_lt (by lia)
  generalize hkk : (Builtin.Int.intBits (nu : Int) + wd - 1) / wd = kk at *
  with_reducible refine mulList C (by wtm_at "mm") (by lia) (by lia) ?_
  clear C
  intro al z C
  rw [Int.toNat_natCast] at C
  have C := C.perm (own' := [(al, .list (List.replicate kk (.int 0 _))), (cn, .cell (some (.int (wd : Int) tn))), (ca, .cell none), (ci, .cell none), (a, .list [.int 0 _])]) (by wtm_at "pm")
  wtm_at "w"
  refine wpAny_execs_cons (nestDef_K rfl rfl rfl ?_)
  have hk0 : ∀ c', z.heap.get? c' = none → s.heap.get? c' = none := fun c' e => by
    cases q : s.heap.get? c' with
    | none => rfl
    | some o => rw [C.keep _ _ rfl q] at e; cases e
  refine makeIn J C TI rfl (by with_unfolding_all rfl) rfl rfl ?_
  clear J C
  intro fn fo c' g' s1 z J C hfd hcls T' hk hkeep
  obtain ⟨doc, pm, ctv, hfd⟩ := hfd
  have BJ := J.bs
  wtm_at "w"
  let Ok : Heap → Prop := fun h => Bs w h ∧ h.get? fn = some fo ∧ h.CodeRec (.ref c') "_int2digits.<locals>.inner" ∧ Sh.Is prog w h cn (.cell (some (.int (wd : Int) tn))) ∧ Sh.Is prog w h ca (.cell (some (.ref al))) ∧ Sh.Is prog w h ci (.cell (some (.ref fn)))
  have okKeep : ∀ {h h' : Heap}, Ok h → (∀ b o, h.get? b = some o → h'.get? b = some o) → Ok h' := fun ⟨o1, o2, o3, o4, o5, o6⟩ k =>
    ⟨o1.keeps (σ := true) fun b o _ e => k b o e, k _ _ o2, codeRec_at o3 fun o e => k _ _ e, o4.at fun o e => k _ _ e, o5.at fun o e => k _ _ e, o6.at fun o e => k _ _ e⟩
  have al3 : 203 ≤ al := C.fr ⟨_, by wtm_at "mm"⟩
  have inner : ∀ (k : Nat), 1 ≤ k → k ≤ 10 → ∀ (lo x : Nat) (tx tl tr : Tok) (vs : List Value) (A : Around) (s : Shared) (Q : Value → Shared → Prop) (E : Value → Shared → Prop), A.depth + 3 * k + 10 < recursionLimit → A.handled = none → Ok (hideAll s.heap [al]) → Sh.Is prog w s.heap al (.list vs) → lo + k ≤ vs.length → vs.length ≤ 100 → x < 2 ^ (wd * k) →
      (∀ vs' L' m' own' s', Cx true prog w (hideAll s.heap [al]) L' m' own' s s' → [(al, Sh.list vs')].Sublist own' → Laid vs vs' lo k x wd → Q .none s') → wpAny (model prog w) A (call (.ref fn) [.int (x : Int) tx, .int (lo : Int) tl, .int ((lo + k : Nat) : Int) tr]) Q E s := by
    clear hret hd hh TI hk T' C BJ J hkeep
    intro k
    induction k using Nat.strongRecOn with
    | ind k ih =>
      intro hk1 hk10 lo x tx tl tr vs A s Q E hd hh O hal hlo hvl hx hret
      have O' : Ok s.heap := okKeep O fun b o e => of_hideAll _ e
      refine wpAny_call (enterF (own' := [(al, .list vs)]) (binds := [("x", .int (x : Int) tx), ("L", .int (lo : Int) tl), ("R", .int ((lo + k : Nat) : Int) tr)]) O'.1 (by lia) O'.2.1 hfd O'.2.2.1 (.of_eq rfl) rfl (by show ([Str.ofString "x", Str.ofString "L", Str.ofString "R"] : List Str).Nodup; decide +kernel) (by with_unfolding_all decide) rfl rfl rfl ?_ (by simp) ?_)
      · intro p hp; rw [List.mem_singleton] at hp; subst hp; exact ⟨hal, al3⟩
      intro L' z C
      simp only [List.map_cons, List.map_nil] at C
      have C : Cx true prog w (hideAll s.heap [al]) L' [(Str.ofString "x", .int (x : Int) tx), (Str.ofString "L", .int (lo : Int) tl), (Str.ofString "R", .int ((lo + k : Nat) : Int) tr)] [(al, .list vs)] s z := C
      refine _root_.PySem.wpAt_of_wpAny ?_
      obtain ⟨o1, o2, o3, o4, o5, o6⟩ := O
      repeat wtm_at "w"
      refine ⟨fun hb => ?_, fun hb => ?_⟩
      · have hk : k = 1 := by simp at hb; lia
        subst hk
        repeat wtm_at "w"
        with_reducible refine setList C (by wtm_at "mu") (by lia) (by lia) (by rw [Int.toNat_natCast]; lia) ?_
        clear C
        intro z C
        rw [Int.toNat_natCast] at C
        repeat wtm_at "w"
        exact hret _ _ _ _ _ C (List.Sublist.refl _) (Laid.one vs (by lia) (by simpa using hx))
      · have hk : 2 ≤ k := by simp at hb; lia
        repeat wtm_at "w"
        refine oShr' (lo + (lo + k)) 1 C (by push_cast; lia) rfl ?_
        clear C
        intro t z C
        rw [show (lo + (lo + k)) / 2 ^ 1 = lo + k / 2 by lia]
        repeat wtm_at "w"
        rw [show (((lo + k / 2 : Nat) : Int) - (lo : Int)) = ((k / 2 : Nat) : Int) by lia, ← Int.natCast_mul] at C ⊢
        refine oShr' x (k / 2 * wd) C rfl rfl ?_
        clear C
        intro t2 z C
        repeat wtm_at "w"
        have hs5 : k / 2 * wd ≤ 5 * 70 := Nat.mul_le_mul (by lia) hw.2
        have hx1 : x < 2 ^ 1000 := Nat.lt_of_lt_of_le hx (Nat.pow_le_pow_right (by decide) (Nat.le_trans (Nat.mul_le_mul hw.2 hk10) (by decide)))
        refine oShl' (x / 2 ^ (k / 2 * wd)) (k / 2 * wd) C rfl rfl (Nat.lt_of_le_of_lt (Nat.div_le_self _ _) hx1) (by lia) ?_
        clear C
        intro t3 z C
        repeat wtm_at "w"
        refine oXor' x (k / 2 * wd) C rfl rfl ?_
        clear C
        intro t4 z C
        repeat wtm_at "w"
        have keepH : ∀ {z : Shared} {M own}, Cx true prog w (hideAll s.heap [al]) L' M own s z → ∀ b o, (hideAll s.heap [al]).get? b = some o → (hideAll z.heap [al]).get? b = some o := fun C b o e => by
          refine hideAll_get _ (C.keep _ _ rfl e) fun hm => ?_
          rw [List.mem_singleton] at hm; subst hm
          rw [hideAll_none _ List.mem_cons_self] at e; cases e
        with_reducible refine wpAny_Call_NameR (ldF (by with_unfolding_all rfl) (by wtm_at "is") ?_)
        refine c3F (keeper_fn hfd) ?_
        repeat wtm_at "w"
        refine ⟨C.keep _ _ rfl o2, ?_⟩
        refine ih (k / 2) (by lia) (by lia) (by lia) lo _ _ _ _ vs _ _ _ _ (by simp only [deeper_depth]; lia) (by wtm_at "hh") (okKeep ⟨o1, o2, o3, o4, o5, o6⟩ (keepH C)) (C.is List.mem_cons_self) (by lia) hvl (by rw [Nat.mul_comm wd]; exact Nat.mod_lt _ (Nat.two_pow_pos _)) ?_
        intro vs1 L1 m1 own1 z1 D hsub hl1
        have C := Cx.back (own₀ := [(al, .list vs)]) (rest := []) C D hsub rfl
        have hv1 := hl1.len
        repeat wtm_at "w"
        with_reducible refine wpAny_Call_NameR (ldF (by with_unfolding_all rfl) (by wtm_at "is") ?_)
        refine c3F (keeper_fn hfd) ?_
        repeat wtm_at "w"
        refine ⟨C.keep _ _ rfl o2, ?_⟩
        rw [show lo + k = (lo + k / 2) + (k - k / 2) by lia]
        have hup : x / 2 ^ (k / 2 * wd) < 2 ^ (wd * (k - k / 2)) := by
          rw [Nat.div_lt_iff_lt_mul (Nat.two_pow_pos _), ← Nat.pow_add, Nat.mul_comm wd, ← Nat.add_mul, show k - k / 2 + k / 2 = k by lia, Nat.mul_comm]
          exact hx
        refine ih (k - k / 2) (by lia) (by lia) (by lia) (lo + k / 2) _ _ _ _ vs1 _ _ _ _ (by simp only [deeper_depth]; lia) (by wtm_at "hh") (okKeep ⟨o1, o2, o3, o4, o5, o6⟩ (keepH C)) (C.is List.mem_cons_self) (by lia) (by lia) hup ?_
        intro vs2 L2 m2 own2 z2 D2 hsub2 hl2
        have C := Cx.back (own₀ := [(al, .list vs1)]) (rest := []) C D2 hsub2 rfl
        repeat wtm_at "w"
        have := hl1.both hl2
        rw [show k / 2 + (k - k / 2) = k by lia] at this
        exact hret vs2 _ _ _ _ C (List.Sublist.refl _) this
  rename_i tz _ _ _ _
  have C := C.perm (own' := [(al, .list (List.replicate kk (.int 0 _))), (fn, .raw fo), (cn, .cell (some (.int (wd : Int) tn))), (ca, .cell (some (.ref al))), (ci, .cell (some (.ref fn))), (a, .list [.int 0 _])]) (by wtm_at "pm")
  have out : ∀ {z : Shared} {vs rest}, Cx true prog w g' L [("a", .int (nu : Int) ta)] ((al, .list vs) :: rest) s1 z → IntsAre vs (digs nu wd kk) → Q (.ref al) z := fun {z vs rest} C hi => by
    have hal := C.fresh List.mem_cons_self
    refine hret al vs z c' (J.out C) (T'.at (fun o e => C.keep _ _ rfl e) (fun o e => C.keep _ _ rfl e) fun b o _ _ e => C.keep _ _ rfl e) (hk.imp id (hk0 c')) (fun b o hb e => C.keep _ _ rfl (hkeep b o hb e)) (C.is List.mem_cons_self) hi ?_ al3
    cases q : s.heap.get? al with
    | none => rfl
    | some o => have := J.base _ o (tab_ge al3) q; rw [hal.1] at this; cases this
  repeat wtm_at "w"
  refine ⟨fun hb => ?_, fun hb => ?_⟩
  · have hb : nu ≠ 0 := by first | exact of_decide_eq_true hb | simpa using hb
    repeat wtm_at "w"
    with_reducible refine wpAny_Call_NameR (ldC (by with_unfolding_all rfl) (by wtm_at "is") ?_)
    refine c3F (keeper_fn hfd) ?_
    repeat wtm_at "w"
    refine ⟨C.raw (by wtm_at "mm"), ?_⟩
    have nd := C.nd
    simp only [List.map_cons, List.map_nil, List.nodup_cons, List.mem_cons, List.not_mem_nil, not_or, or_false] at nd
    have hg : g'.get? al = none := (C.fresh List.mem_cons_self).1
    have up : ∀ b o, b ≠ al → z.heap.get? b = some o → (hideAll z.heap [al]).get? b = some o := fun b o hb e => hideAll_get _ e (by rw [List.mem_singleton]; exact hb)
    have upg : ∀ b o, g'.get? b = some o → (hideAll z.heap [al]).get? b = some o := fun b o e => up b o (by rintro rfl; rw [hg] at e; cases e) (C.keep _ _ rfl e)
    have OZ : Ok (hideAll z.heap [al]) := ⟨BJ.keeps (σ := true) fun b o _ e => upg b o e, up _ _ (Ne.symm nd.1.1) (C.raw (by wtm_at "mm")), codeRec_at T'.2.2.1 fun o e => upg _ _ e,
      (C.is (a := cn) (by wtm_at "mm")).at fun o e => up _ _ (Ne.symm nd.1.2.1) e, (C.is (a := ca) (by wtm_at "mm")).at fun o e => up _ _ (Ne.symm nd.1.2.2.1) e, (C.is (a := ci) (by wtm_at "mm")).at fun o e => up _ _ (Ne.symm nd.1.2.2.2.1) e⟩
    rw [List.length_replicate, show (0 : Int) = ((0 : Nat) : Int) from rfl, show ((kk : Nat) : Int) = ((0 + kk : Nat) : Int) by rw [Nat.zero_add]]
    refine inner kk (hk0' hb) hk10 0 nu _ _ _ _ _ _ _ _ (by simp only [deeper_depth]; lia) (by wtm_at "hh") OZ (C.is List.mem_cons_self) (by simp) (by simp; lia) hxk ?_
    intro vs' L' m' own' s' D hsub hl'
    have C := Cx.back (own₀ := [(al, .list (List.replicate kk (.int 0 _)))]) C D hsub rfl
    simp only [List.cons_append, List.nil_append] at C
    repeat wtm_at "w"
    exact out C (hl'.ints (by simp))
  · have hb : nu = 0 := by first | exact of_decide_eq_true hb | simpa using hb
    have hk0 := hk00 hb
    subst hk0
    repeat wtm_at "w"
    exact out C .nil
end
section
open PySem PySem.W PyProof.Rows PySem.Spec PySem.Calls Builtin
set_option maxHeartbeats 1000000
variable {σ : Bool} {prog : Program} {w : World} {g h h' : Heap} {L a : Addr} {m m' : List (Str × Value)} {own own' : List (Addr × Sh)} {s₀ s s' : Shared} {sh sh' : Sh}
variable {A : Around} {E : Value → Shared → Prop} {M : Model} {env : Env} {x y : Str} {v : Value} {kd ki kd' ki' kd'' ki'' : Option Addr}

structure Ts (h : Heap) (kd ki : Option Addr) : Prop where
  d : TkD h kd
  i : TkI h ki
  bi : ∃ sl, h.get? 4 = some ⟨.type "module", some builtinsNs, .plain, sl⟩
  tb : ∀ b, b = 63 ∨ b = 70 → ∃ ps, h.get? b = some (tabObj ps)
noncomputable def Tabs (h : Heap) : Prop := ∀ b, isTab b = true → ∃ ps, h.get? b = some (tabObj ps)
theorem Ts.tabs (T : Ts h kd ki) : Tabs h := fun b hb => by
  have : b = 63 ∨ b = 70 ∨ b = 121 ∨ b = 128 := by simpa [isTab, or_assoc] using hb
  rcases this with e | e | rfl | rfl
  · exact T.tb b (.inl e)
  · exact T.tb b (.inr e)
  · have := T.i
    cases ki with
    | none => exact ⟨_, this.2⟩
    | some c => exact ⟨_, this.2.1⟩
  · have := T.d
    cases kd with
    | none => exact ⟨_, this.2⟩
    | some c => exact ⟨_, this.2.1⟩
structure Tn (s : Shared) (kd ki kd' ki' : Option Addr) : Prop where
  d : kd' = kd ∨ ∃ c, kd' = some c ∧ s.heap.get? c = none
  i : ki' = ki ∨ ∃ c, ki' = some c ∧ s.heap.get? c = none
theorem Tn.refl : Tn s kd ki kd ki := ⟨.inl rfl, .inl rfl⟩
theorem Ts.keeps (T : Ts h kd ki) (k : ∀ b o, h.get? b = some o → h'.get? b = some o) : Ts h' kd ki :=
  ⟨T.d.at (fun o e => k _ _ e) (fun o e => k _ _ e) fun b o _ _ e => k _ _ e, T.i.at (fun o e => k _ _ e) (fun o e => k _ _ e) fun b o _ _ e => k _ _ e, (let ⟨sl, e⟩ := T.bi; ⟨sl, k _ _ e⟩), fun b hb => let ⟨ps, e⟩ := T.tb b hb; ⟨ps, k _ _ e⟩⟩
theorem Cx.ts (C : Cx true prog w g L m own s₀ s) (T : Ts g kd ki) : Ts s.heap kd ki := T.keeps fun b o e => C.keep _ _ rfl e
theorem Tk.ge {c P : Addr} {q : Str} {pos : Pos} {c' : Addr} (T : Tk c P q pos h (some c')) : 203 ≤ c' := T.2.2.2
theorem Tn.trans {z : Shared} (J : Jy w s g s₀) (C : Cx true prog w g L m own s₀ z) {g' : Heap} (T' : Ts g' kd'' ki'') (N : Tn s kd ki kd' ki') (N' : Tn z kd' ki' kd'' ki'') : Tn s kd ki kd'' ki'' := by
  have key : ∀ c, 203 ≤ c → z.heap.get? c = none → s.heap.get? c = none := fun c hc e => by
    cases q : s.heap.get? c with
    | none => rfl
    | some o => rw [C.keep _ _ rfl (J.base _ _ (tab_ge hc) q)] at e; cases e
  refine ⟨?_, ?_⟩
  · rcases N'.d with e | ⟨c, e, hc⟩
    · rw [e]; exact N.d
    · refine .inr ⟨c, e, key c ?_ hc⟩
      have := T'.d; rw [e] at this; exact this.ge
  · rcases N'.i with e | ⟨c, e, hc⟩
    · rw [e]; exact N.i
    · refine .inr ⟨c, e, key c ?_ hc⟩
      have := T'.i; rw [e] at this; exact this.ge
theorem tk_jump {c P : Addr} {q : Str} {pos : Pos} {k k' : Option Addr} {h1 h2 : Heap} (hc : c < 203) (hP : P < 203) (T : Tk c P q pos g k) (T' : Tk c P q pos h1 k') (N : k' = k ∨ ∃ c, k' = some c ∧ h.get? c = none)
    (y1 : ∀ b o, isTab b = false → g.get? b = some o → h2.get? b = some o) (y3 : ∀ b o, h.get? b = none → h1.get? b = some o → h2.get? b = some o) (y4 : ∀ b o, b < 203 → h1.get? b = some o → h2.get? b = some o) : Tk c P q pos h2 k' := by
  cases k' with
  | none => exact ⟨codeHd_at T'.1 fun o e => y4 _ _ hc e, y4 _ _ hP T'.2⟩
  | some c' =>
    refine ⟨codeHd_at T'.1 fun o e => y4 _ _ hc e, y4 _ _ hP T'.2.1, ?_, T'.2.2.2⟩
    rcases N with e | ⟨c2, e, hn⟩
    · subst e
      exact codeRec_at T.2.2.1 fun o e => y1 _ _ (tab_ge T.2.2.2) e
    · cases e
      exact codeRec_at T'.2.2.1 fun o e => y3 _ _ hn e
theorem Jy.jumpT {z z' : Shared} (J : Jy w s g s₀) (C : Cx true prog w g L m own s₀ z) (G : Gr false z z') (hs : own'.Sublist own) (T : Ts g kd ki) (T' : Ts z'.heap kd' ki') (N : Tn z kd ki kd' ki') :
    ∃ g', Jy w s g' z' ∧ Cx true prog w g' L m own' z' z' ∧ Ts g' kd' ki' ∧ (∀ b o, isTab b = false → g.get? b = some o → g'.get? b = some o) ∧ (∀ b o, z.heap.get? b = none → z'.heap.get? b = some o → g'.get? b = some o) := by
  obtain ⟨g', J', C', y1, y3, y4⟩ := J.jumpA C G hs
  exact ⟨g', J', C', ⟨tk_jump (by decide) (by decide) T.d T'.d N.d y1 y3 y4, tk_jump (by decide) (by decide) T.i T'.i N.i y1 y3 y4, J'.bi, fun b hb => let ⟨ps, e⟩ := T'.tb b hb; ⟨ps, y4 _ _ (by rcases hb with rfl | rfl <;> decide) e⟩⟩, y1, y3⟩
theorem d2iT {dl : Addr} {vs : List Value} {f : Nat → Nat} {n wd : Nat} {tn : Tok} {Q : Value → Shared → Prop} (B : Bs w s.heap) (T : Ts s.heap kd ki) (hd : A.depth + 60 < recursionLimit) (hh : A.handled = none)
    (hl : Sh.Is prog w s.heap dl (.list vs)) (hl3 : 203 ≤ dl) (hv : IntL (fun i => (f i : Int)) n vs) (hf : ∀ i, f i < 2 ^ 70) (hw : 1 ≤ wd ∧ wd ≤ 70) (hn : n ≤ 10)
    (hret : ∀ t s' kd' ki', Gr false s s' → Ts s'.heap kd' ki' → Tn s kd ki kd' ki' → Q (.int (valD f wd 0 n : Nat) t) s') :
    wpAny (model prog w) A (call (.ref 133) [.ref dl, .int (wd : Int) tn]) Q E s := by
  refine d2i_spec B T.bi T.d hd hh hl hl3 hv hf hw hn fun t s' c' G T' hk hkeep => ?_
  have up : ∀ b o, b ≠ 128 → s.heap.get? b = some o → s'.heap.get? b = some o := hkeep
  refine hret t s' (some c') ki G ⟨T', T.i.at (fun o e => up _ _ (by decide) e) (fun o e => up _ _ (by decide) e) fun b o hb _ e => up _ _ (by rintro rfl; exact absurd hb (by decide)) e, (let ⟨sl, e⟩ := T.bi; ⟨sl, up _ _ (by decide) e⟩), fun b hb => let ⟨ps, e⟩ := T.tb b hb; ⟨ps, up _ _ (by rcases hb with rfl | rfl <;> decide) e⟩⟩ ⟨hk.elim (fun e => .inl e.symm) fun e => .inr ⟨c', rfl, e⟩, .inl rfl⟩
theorem i2dT {nu wd : Nat} {ta tn : Tok} {Q : Value → Shared → Prop} (B : Bs w s.heap) (T : Ts s.heap kd ki) (hd : A.depth + 60 < recursionLimit) (hh : A.handled = none)
    (ha : nu < 2 ^ 700) (hw : 1 ≤ wd ∧ wd ≤ 70) (hk10 : (Builtin.Int.intBits (nu : Int) + wd - 1) / wd ≤ 10)
    (hret : ∀ r vs s' kd' ki', Gr false s s' → Ts s'.heap kd' ki' → Tn s kd ki kd' ki' →
      Sh.Is prog w s'.heap r (.list vs) → IntsAre vs (digs nu wd ((Builtin.Int.intBits (nu : Int) + wd - 1) / wd)) → s.heap.get? r = none → 203 ≤ r → Q (.ref r) s') :
    wpAny (model prog w) A (call (.ref 126) [.int (nu : Int) ta, .int (wd : Int) tn]) Q E s := by
  refine i2d_spec B T.bi T.i hd hh ha hw hk10 fun r vs s' c' G T' hk hkeep h1 h2 h3 h4 => ?_
  have up : ∀ b o, b ≠ 121 → s.heap.get? b = some o → s'.heap.get? b = some o := hkeep
  exact hret r vs s' kd (some c') G ⟨T.d.at (fun o e => up _ _ (by decide) e) (fun o e => up _ _ (by decide) e) fun b o hb _ e => up _ _ (by rintro rfl; exact absurd hb (by decide)) e, T', (let ⟨sl, e⟩ := T.bi; ⟨sl, up _ _ (by decide) e⟩), fun b hb => let ⟨ps, e⟩ := T.tb b hb; ⟨ps, up _ _ (by rcases hb with rfl | rfl <;> decide) e⟩⟩ ⟨.inl rfl, hk.elim (fun e => .inl e.symm) fun e => .inr ⟨c', rfl, e⟩⟩ h1 h2 h3 h4

theorem gn_lim {P : Params} : ∃ t, nsIn (KK P) mainGlobals "_DIV_LIMIT" = some (some (.int 4000 t)) := ⟨_, rfl⟩
theorem ni_divmod {P : Params} : nsIn (KK P) mainGlobals "divmod" = some none := by kernel_rfl!
set_option maxHeartbeats 0 in
set_option exponentiation.threshold 2000 in
theorem div_spec {p q n : Nat} {t1 t2 t3 : Tok} {Q : Value → Shared → Prop} (B : Bs w s.heap) (hd : A.depth + 20 < recursionLimit) (hp : p < 2 ^ 700) (hq : 0 < q) (hq2 : q < 2 ^ 100)
    (hret : ∀ r u1 u2 s', Gr true s s' → Sh.Is prog w s'.heap r (.tup [.int ((p / q : Nat) : Int) u1, .int ((p % q : Nat) : Int) u2]) → s.heap.get? r = none → 203 ≤ r → Q (.ref r) s') :
    wpAny (model prog w) A (call (.ref 112) [.int (p : Int) t1, .int (q : Int) t2, .int (n : Int) t3]) Q E s := by
  have hbits : Builtin.Int.intBits (p : Int) ≤ 700 := bits_le hp
  refine enter (σ := true) (binds := [("a", .int (p : Int) t1), ("b", .int (q : Int) t2), ("n", .int (n : Int) t3)]) B (by lia) rfl rfl (BindsTo.of_eq rfl) rfl ?_ (by decide) rfl rfl rfl ?_
  · show ([Str.ofString "a", Str.ofString "b", Str.ofString "n"] : List Str).Nodup
    decide +kernel
  intro L z C
  repeat wtm_at "w"
  obtain ⟨tl, hlim⟩ := @gn_lim w.params
  refine gl B C hlim ?_
  repeat wtm_at "w"
  refine wpAny_Call_NameR (bl B C ni_divmod boot_divmod ?_)
  repeat wtm_at "w"
  refine cDivmod C (by lia) ?_ ?_
  · rw [Int.natAbs_natCast]
    exact Nat.lt_of_lt_of_le ((Nat.log2_lt (by lia)).mpr hq2) (by decide)
  intro r u1 u2 z C
  have hm := C.fresh List.mem_cons_self
  exact hret r u1 u2 z C.out (C.is List.mem_cons_self) hm.1 hm.2
end
section
open PySem PySem.W PyProof.Rows PySem.Spec PySem.Calls Builtin
set_option maxHeartbeats 1000000
variable {σ : Bool} {prog : Program} {w : World} {g h h' : Heap} {L a : Addr} {m m' : List (Str × Value)} {own own' : List (Addr × Sh)} {s₀ s s' : Shared} {sh sh' : Sh}
variable {A : Around} {E : Value → Shared → Prop} {M : Model} {env : Env} {x y : Str} {v : Value} {kd ki kd' ki' kd'' ki'' : Option Addr}

noncomputable def numT (n : Nat) (qs : List Nat) : Nat := qs.foldl (fun acc q => acc * 2 ^ n + q) 0
theorem numT_snoc (n : Nat) (qs : List Nat) (q : Nat) : numT n (qs ++ [q]) = numT n qs * 2 ^ n + q := by simp [numT]
theorem valD_shift (f : Nat → Nat) (w lo : Nat) : ∀ k, valD f w (lo + 1) k = valD (fun i => f (i + 1)) w lo k
  | 0 => rfl
  | k + 1 => by rw [valD, valD, valD_shift f w lo k, show lo + 1 + k = lo + k + 1 by lia]
theorem valD_congr {f f' : Nat → Nat} (w lo : Nat) : ∀ k, (∀ i, i < lo + k → f i = f' i) → valD f w lo k = valD f' w lo k
  | 0, _ => rfl
  | k + 1, h => by rw [valD, valD, valD_congr w lo k fun i hi => h i (by lia), h (lo + k) (by lia)]
theorem valD_rev (n : Nat) (qs : List Nat) : valD (fun i => qs.reverse.getD i 0) n 0 qs.length = numT n qs := by
  have key : ∀ l : List Nat, valD (fun i => l.getD i 0) n 0 l.length = numT n l.reverse := by
    intro l
    induction l with
    | nil => rfl
    | cons q l ih =>
      rw [List.reverse_cons, numT_snoc, ← ih, List.length_cons, Nat.add_comm l.length 1, valD_split, valD_shift]
      simp [valD]
  have := key qs.reverse
  rw [List.length_reverse, List.reverse_reverse] at this
  exact this
noncomputable def upX (nu n kk i : Nat) : Nat := nu / 2 ^ (n * (kk - i))
theorem upX_zero {nu n kk : Nat} (h : nu < 2 ^ (n * kk)) : upX nu n kk 0 = 0 := Nat.div_eq_of_lt (by simpa using h)
theorem upX_last (nu n kk : Nat) : upX nu n kk kk = nu := by simp [upX]
theorem upX_succ (nu n : Nat) {kk i : Nat} (hi : i < kk) : upX nu n kk (i + 1) = upX nu n kk i * 2 ^ n + nu / 2 ^ (n * (kk - 1 - i)) % 2 ^ n := by
  have e : kk - (i + 1) = kk - 1 - i := by lia
  have e2 : kk - i = (kk - 1 - i) + 1 := by lia
  unfold upX
  rw [e, e2, Nat.mul_add, Nat.mul_one, Nat.pow_add, ← Nat.div_div_eq_div_mul]
  have := Nat.div_add_mod (nu / 2 ^ (n * (kk - 1 - i))) (2 ^ n)
  rw [Nat.mul_comm] at this
  exact this.symm
theorem step_div {X n d b : Nat} (hb : 0 < b) : (X * 2 ^ n + d) / b = X / b * 2 ^ n + (X % b * 2 ^ n + d) / b ∧ (X * 2 ^ n + d) % b = (X % b * 2 ^ n + d) % b := by
  have h := Nat.div_add_mod X b
  have e : X * 2 ^ n + d = b * (X / b * 2 ^ n) + (X % b * 2 ^ n + d) := by
    conv => lhs; rw [← h]
    rw [Nat.add_mul, Nat.mul_assoc, Nat.add_assoc]
  rw [e]
  exact ⟨Nat.mul_add_div hb _ _, Nat.mul_add_mod _ _ _⟩
theorem step_lt {X n d b : Nat} (hb : 0 < b) (hd : d < 2 ^ n) : (X % b * 2 ^ n + d) / b < 2 ^ n := by
  rw [Nat.div_lt_iff_lt_mul hb]
  have h1 : X % b + 1 ≤ b := Nat.mod_lt _ hb
  have h2 := Nat.mul_le_mul_right (2 ^ n) h1
  rw [Nat.add_mul, Nat.one_mul, Nat.mul_comm b] at h2
  lia
theorem gn_112 {P : Params} : nsIn (KK P) mainGlobals "_div2n1n" = some (some (.ref 112)) := by kernel_rfl!
theorem gn_126 {P : Params} : nsIn (KK P) mainGlobals "_int2digits" = some (some (.ref 126)) := by kernel_rfl!
theorem gn_133 {P : Params} : nsIn (KK P) mainGlobals "_digits2int" = some (some (.ref 133)) := by kernel_rfl!
theorem gn_140 {P : Params} : nsIn (KK P) mainGlobals "_divmod_pos" = some (some (.ref 140)) := by kernel_rfl!
theorem gn_147 {P : Params} : nsIn (KK P) mainGlobals "int_divmod" = some (some (.ref 147)) := by kernel_rfl!
theorem kp_112 {P : Params} : keepIn (KK P) (.ref 112) = true := by kernel_rfl!
theorem kp_126 {P : Params} : keepIn (KK P) (.ref 126) = true := by kernel_rfl!
theorem kp_133 {P : Params} : keepIn (KK P) (.ref 133) = true := by kernel_rfl!
theorem kp_140 {P : Params} : keepIn (KK P) (.ref 140) = true := by kernel_rfl!
theorem kp_147 {P : Params} : keepIn (KK P) (.ref 147) = true := by kernel_rfl!

set_option maxHeartbeats 0 in
inductive PosJ (prog : Program) (w : World) (g1 : Heap) (L : Addr) (z1 : Shared) (nu : Nat) (ta : Tok) (b : Nat) (tb : Tok) (n : Nat) (tn : Tok) (rd l I : Addr) (kk nv : Nat) (i' i : Nat) (z : Shared) : Prop
  | mk (qs : List Nat) (vsQ : List Value) (tr : Tok) (C : Cx true prog w g1 L [("a", .int (nu : Int) ta), ("b", .int (b : Int) tb), ("n", .int (n : Int) tn), ("a_digits", .ref rd), ("r", .int ((upX nu n kk i % b : Nat) : Int) tr), ("q_digits", .ref l)]
      [(I, .flds "list_reverseiterator" [.ref rd, .int ((nv : Int) - 1 - (i' : Int)) 0]), (l, .list vsQ)] z1 z) (h1 : IntsAre vsQ (qs.map Int.ofNat)) (h2 : qs.length = i) (h3 : i ≤ kk) (h4 : ∀ q ∈ qs, q < 2 ^ 70) (h5 : numT n qs = upX nu n kk i / b) : PosJ prog w g1 L z1 nu ta b tb n tn rd l I kk nv i' i z
set_option exponentiation.threshold 2000 in
theorem pos_spec {nu b n : Nat} {ta tb : Tok} {Q : Value → Shared → Prop} (B : Bs w s.heap) (T : Ts s.heap kd ki) (hd : A.depth + 80 < recursionLimit) (hh : A.handled = none)
    (hp : nu < 2 ^ 300) (hb : 0 < b) (hn : Builtin.Int.intBits (b : Int) = n) (hn1 : 1 ≤ n ∧ n ≤ 70) (hk10 : (Builtin.Int.intBits (nu : Int) + n - 1) / n ≤ 10)
    (hret : ∀ r u1 u2 s' kd' ki', Gr false s s' → Ts s'.heap kd' ki' → Tn s kd ki kd' ki' → Sh.Is prog w s'.heap r (.tup [.int ((nu / b : Nat) : Int) u1, .int ((nu % b : Nat) : Int) u2]) → s.heap.get? r = none → 203 ≤ r → Q (.ref r) s') :
    wpAny (model prog w) A (call (.ref 140) [.int (nu : Int) ta, .int (b : Int) tb]) Q E s := by
  have hb2 : b < 2 ^ 70 := by
    have := intBits_le_iff (m := n) (x := (b : Int)) |>.mp (by lia)
    rw [Int.natAbs_natCast] at this
    exact Nat.lt_of_lt_of_le this (Nat.pow_le_pow_right (by decide) hn1.2)
  refine enter (σ := true) (binds := [("a", .int (nu : Int) ta), ("b", .int (b : Int) tb)]) B (by lia) rfl rfl (BindsTo.of_eq rfl) rfl ?_ (by decide) rfl rfl rfl ?_
  · show ([Str.ofString "a", Str.ofString "b"] : List Str).Nodup
    decide +kernel
  intro L z C
  have J : Jy w s s.heap s := .start B T.bi
  repeat wtm_at "w"
  rename Tok => tn
  rw [hn] at C
  with_reducible refine wpAny_Call_NameR (gl (by assumption) (by assumption) gn_126 ?_)
  with_reducible refine g2 (by assumption) kp_126 ?_
  repeat wtm_at "w"
  refine ⟨C.bs B, ?_⟩
  refine i2dT (C.bs B) (C.ts T) (by wtm_at "dp") (by wtm_at "hh") (Nat.lt_of_lt_of_le hp (by decide)) hn1 hk10 ?_
  intro rd vd z1 kd1 ki1 G T1 N1 hrd hvd hrd0 hrd3
  obtain ⟨g1, J1, C1, TG, y1, y3⟩ := J.jumpT C G (List.Sublist.refl _) T T1 N1
  have hrd' : Sh.Is prog w g1 rd (.list vd) := hrd.at fun o e => y3 _ _ hrd0 e
  have N : Tn s kd ki kd1 ki1 := Tn.trans J C T1 .refl N1
  clear y1 y3 hrd G T1 C J
  have C := C1
  clear C1
  have BJ := J1.bs
  generalize hkk : (Builtin.Int.intBits (nu : Int) + n - 1) / n = kk at *
  have hxk : nu < 2 ^ (n * kk) := by
    refine Nat.lt_of_lt_of_le (by have := intBits_le_iff (m := Builtin.Int.intBits (nu : Int)) (x := (nu : Int)) |>.mp (Nat.le_refl _); simpa using this) (Nat.pow_le_pow_right (by decide) ?_)
    have h1 := Nat.div_add_mod (Builtin.Int.intBits (nu : Int) + n - 1) n
    have h2 := Nat.mod_lt (Builtin.Int.intBits (nu : Int) + n - 1) (show 0 < n by lia)
    rw [hkk] at h1
    lia
  have hvl : vd.length = kk := (IntsAre.length hvd).trans (by simp [digs])
  repeat wtm_at "w"
  refine cRevList C (by wtm_at "is") ?_
  clear C
  intro I z hne C
  have hIs : z.heap.IsRevIter I rd ((vd.length : Int) - 1) := by
    obtain ⟨o, ho, r1, r2⟩ := C.is List.mem_cons_self
    exact ⟨o, ho, r1, by simpa [rawInt] using r2⟩
  refine wpAny_pyIter_revIter hIs ?_
  refine for_walk (Walks.listRev ?hA I rd hne vd.toArray)
    (fun i => PosJ prog w g1 L z1 nu ta b tb n tn rd l I kk vd.length i i) (fun i => PosJ prog w g1 L z1 nu ta b tb n tn rd l I kk vd.length (i + 1) i) ?_ ?_ ?_ ?_ ?_
  case hA => with_unfolding_all exact hh
  · rintro i z ⟨qs, vsQ, tr, C, k1, k2, k3, k4, k5⟩
    refine ⟨by rw [List.size_toArray]; lia, ?_, Sh.isL (C.old hrd' (.inl rfl))⟩
    obtain ⟨o, ho, r1, r2⟩ := C.is List.mem_cons_self
    exact ⟨o, ho, r1, by simpa [rawInt] using r2⟩
  · refine ⟨[], [], t, ?_, .nil, rfl, Nat.zero_le _, fun _ h => (nomatch h), ?_⟩
    · rw [upX_zero hxk, Nat.zero_mod]
      simpa using C
    · rw [upX_zero hxk, Nat.zero_div]; rfl
  · rintro i z h' tk hi ⟨qs, vsQ, tr, C, k1, k2, k3, k4, k5⟩ ht hS hkeep
    refine ⟨qs, vsQ, tr, C.next Up.head ht (fun b o hb e => hkeep b o (by simpa using hb) e) ?_, k1, k2, k3, k4, k5⟩
    obtain ⟨o, ho, r1, r2⟩ := hS.2.1
    exact ⟨o, ho, r1, by simpa [rawInt] using r2⟩
  · clear C
    rintro i v z hi hP ⟨qs, vsQ, tr, C, k1, k2, k3, k4, k5⟩
    wtm_at "cps"
    have hi' : i < kk := by rw [List.size_toArray] at hi; lia
    have hv : ∃ td, v = .int ((nu / 2 ^ (n * (kk - 1 - i)) % 2 ^ n : Nat) : Int) td := by
      have hP2 : vd[kk - 1 - i]? = some v := by rw [← hvl]; simpa using hP
      obtain ⟨m', td, rfl, e⟩ := IntsAre.at hvd _ _ hP2
      refine ⟨td, ?_⟩
      have : (digs nu n kk)[kk - 1 - i]? = some ((nu / 2 ^ (n * (kk - 1 - i)) % 2 ^ n : Nat) : Int) := by
        simp [digs, show kk - 1 - i < kk by lia]
      rw [this] at e
      rw [Option.some.inj e]
    obtain ⟨td, rfl⟩ := hv
    with_reducible refine goName (wpAny_assign_Name ?_)
    repeat wtm_at "w"
    refine Assign_Tuple ?_ (by with_unfolding_all rfl) (by with_unfolding_all rfl)
    with_reducible refine wpAny_Call_NameR (gl (by assumption) (by assumption) gn_112 ?_)
    with_reducible refine g3 (by assumption) kp_112 ?_
    repeat wtm_at "w"
    have hX : upX nu n kk i % b < 2 ^ 70 := Nat.lt_of_lt_of_le (Nat.mod_lt _ hb) (Nat.le_of_lt hb2)
    have h2n : (2 : Nat) ^ n ≤ 2 ^ 70 := Nat.pow_le_pow_right (by decide) hn1.2
    have hdl : nu / 2 ^ (n * (kk - 1 - i)) % 2 ^ n < 2 ^ n := Nat.mod_lt _ (Nat.two_pow_pos _)
    have hXX := Nat.mul_le_mul (Nat.le_of_lt hX) h2n
    have hPl : upX nu n kk i % b * 2 ^ n + nu / 2 ^ (n * (kk - 1 - i)) % 2 ^ n < 2 ^ 141 := by
      have e1 : (2 : Nat) ^ 141 = 2 ^ 70 * 2 ^ 70 + 2 ^ 70 * 2 ^ 70 := by decide
      have e2 : (2 : Nat) ^ 70 ≤ 2 ^ 70 * 2 ^ 70 := by decide
      rw [e1]
      exact Nat.add_lt_add_of_le_of_lt hXX (Nat.lt_of_lt_of_le hdl (Nat.le_trans h2n e2))
    refine oShl' (upX nu n kk i % b) n C rfl rfl (Nat.lt_of_lt_of_le hX (Nat.pow_le_pow_right (by decide) (by decide))) (by lia) ?_
    clear C
    intro t4 z C
    repeat wtm_at "w"
    refine ⟨C.bs BJ, ?_⟩
    rw [← Int.natCast_add]
    refine div_spec (C.bs BJ) (by wtm_at "dp") (Nat.lt_of_lt_of_le hPl (Nat.pow_le_pow_right (by decide) (by decide))) hb (Nat.lt_of_lt_of_le hb2 (Nat.pow_le_pow_right (by decide) (by decide))) ?_
    intro r' u1 u2 z' G hr' hr0 hr3
    have C := C.add G hr' hr0 hr3
    refine wpAny_assign_Tuple (by wtm_at "hh") (Sh.isT (C.is List.mem_cons_self)) (by with_unfolding_all rfl) (by with_unfolding_all rfl) fun h3 hx3 => ?_
    have C := C.grown (s' := { z' with heap := h3 }) ⟨fun b o _ q => hx3 b o (Nat.ne_of_lt (Heap.lt_size q)) q, rfl, rfl, gens_refl, Nat.le_refl _⟩
    refine asg2 ?_
    have hql := IntsAre.length k1
    rw [List.length_map] at hql
    repeat wtm_at "w"
    obtain ⟨s1, s2⟩ := step_div (X := upX nu n kk i) (n := n) (d := nu / 2 ^ (n * (kk - 1 - i)) % 2 ^ n) hb
    have s3 := step_lt (X := upX nu n kk i) hb hdl
    rw [← upX_succ nu n hi'] at s1 s2
    rw [← s2] at C
    refine ⟨qs ++ [(upX nu n kk i % b * 2 ^ n + nu / 2 ^ (n * (kk - 1 - i)) % 2 ^ n) / b], _, u2, Cx.forget (Cx.drop C (by wtm_at "ms")) (by wtm_at "ms"), ?_, by simp [k2], hi', ?_, ?_⟩
    · rw [List.map_append]
      exact ints_snoc k1 _ u1
    · intro q hq
      rcases List.mem_append.mp hq with hq | hq
      · exact k4 q hq
      · rw [List.mem_singleton] at hq; subst hq; lia
    · rw [numT_snoc, k5, s1]
  · clear C
    rintro z h' tk ⟨qs, vsQ, tr, C, k1, k2, k3, k4, k5⟩ ht hkeep
    have C := C.gone ht (fun b o hb e => hkeep b o (by simpa using hb) e)
    have hql := IntsAre.length k1
    rw [List.length_map] at hql
    rw [List.size_toArray, hvl] at k2 C k5
    rw [upX_last] at C k5
    repeat wtm_at "w"
    refine cReverse C (by wtm_at "mu") (by lia) ?_
    clear C
    intro z C
    repeat wtm_at "w"
    with_reducible refine wpAny_Call_NameR (gl (by assumption) (by assumption) gn_133 ?_)
    with_reducible refine g2 (by assumption) kp_133 ?_
    repeat wtm_at "w"
    refine ⟨C.bs BJ, ?_⟩
    have hL : IntL (fun i => ((qs.reverse.getD i 0 : Nat) : Int)) kk vsQ.reverse := by
      have h1 := IntsAre.toL (IntsAre.reverse k1)
      rw [← List.map_reverse] at h1
      have e : (fun i => (qs.reverse.map Int.ofNat).getD i 0) = fun i => ((qs.reverse.getD i 0 : Nat) : Int) := by
        funext i
        rw [List.getD_eq_getElem?_getD, List.getD_eq_getElem?_getD, List.getElem?_map]
        cases qs.reverse[i]? <;> rfl
      rw [e] at h1
      rw [List.length_map, List.length_reverse, k2] at h1
      exact h1
    have hq70 : ∀ i, qs.reverse.getD i 0 < 2 ^ 70 := fun i => by
      rw [List.getD_eq_getElem?_getD]
      cases e : qs.reverse[i]? with
      | none => simp
      | some q => exact k4 q (List.mem_reverse.mp (List.mem_of_getElem? e))
    refine d2iT (f := fun i => qs.reverse.getD i 0) (n := kk) (C.bs BJ) (C.ts TG) (by wtm_at "dp") (by wtm_at "hh") (C.is (by wtm_at "mm")) (by wtm_at "fr") hL hq70 hn1 hk10 ?_
    intro t6 z6 kd2 ki2 G T2 N2
    obtain ⟨g2, J2, C2, TG2, y1, y3⟩ := J1.jumpT C G (List.Sublist.refl _) TG T2 N2
    have N3 : Tn s kd ki kd2 ki2 := Tn.trans J1 C T2 N N2
    have hval : valD (fun i => qs.reverse.getD i 0) n 0 kk = nu / b := by rw [← k2, valD_rev, k5]
    rw [hval]
    clear y1 y3 G C BJ
    have C := C2
    clear C2
    have BJ := J2.bs
    repeat wtm_at "w"
    refine eTup2 (σ := true) (prog := prog) (w := w) (g := g2) (L := L) (s₀ := z6) ?_
    repeat wtm_at "w"
    rename_i rT _ _
    have hm := C.fresh List.mem_cons_self
    refine hret _ t6 tr _ kd2 ki2 (J2.out C) (C.ts TG2) N3 (C.is List.mem_cons_self) ?_ hm.2
    cases q : s.heap.get? _ with
    | none => rfl
    | some o => have := J2.base _ o (tab_ge hm.2) q; rw [hm.1] at this; cases this
end
section
open PySem PySem.W PyProof.Rows PySem.Spec PySem.Calls Builtin
set_option maxHeartbeats 1000000
variable {σ : Bool} {prog : Program} {w : World} {g h h' : Heap} {L a : Addr} {m m' : List (Str × Value)} {own own' : List (Addr × Sh)} {s₀ s s' : Shared} {sh sh' : Sh}
variable {A : Around} {E : Value → Shared → Prop} {M : Model} {env : Env} {x y : Str} {v : Value} {kd ki kd' ki' kd'' ki'' : Option Addr}

theorem eTup2E {e f : Expr} {k : Nat} {pos : Pos} {Q : Value → Shared → Prop}
    (h : wpAny M A (eval e env) (fun v s₁ => wpAny M A (eval f env) (fun v₂ s₂ => ∃ g s₀ m own, Cx true prog w g L m own s₀ s₂ ∧ ∀ a s', Cx true prog w g L m ((a, .tup [v, v₂]) :: own) s₀ s' → Q (.ref a) s') E s₁) E s)
    (he : starEach [e, f] env = [(false, eval e env), (false, eval f env)] := by with_unfolding_all rfl) (he' : starEach [f] env = [(false, eval f env)] := by with_unfolding_all rfl) : wpAny M A (eval (.Tuple [e, f] k pos) env) Q E s := by
  rw [arm_eval_Tuple]
  refine wpAny_bind (wpAny_standAt (wpAny_bind ?_))
  refine sm (wpAny_mono h (fun v s₁ h₁ => sm (wpAny_mono h₁ (fun v₂ s₂ h₂ => spliced_none ?_) fun _ _ e => e) he') fun _ _ e => e) (he.trans (by rw [he']))
  obtain ⟨g, s₀, m, own, C, hq⟩ := h₂
  exact wpAny_newTuple (hq _ _ (C.push (tk := s₂.toks) (Nat.le_refl _) ⟨0, Heap.get?_push_size _ rfl⟩))
theorem Gr.weak (G : Gr true s s') : Gr false s s' := ⟨fun b o _ e => G.keep b o rfl e, G.os, G.drawn, by
  rw [if_neg (by decide)]
  have e : s'.gens = s.gens := by simpa using G.gens
  rw [e]; exact id, G.toks⟩
theorem notThere (C : Cx true prog w s.heap L m own s₀ s') {r : Addr} (h : s'.heap.get? r = none) : s.heap.get? r = none := by
  cases q : s.heap.get? r with
  | none => rfl
  | some o => rw [C.keep _ _ rfl q] at h; cases h
theorem notThere' {z : Shared} (J : Jy w s g s₀) (C : Cx true prog w g L m own s₀ z) {r : Addr} (h : z.heap.get? r = none) (h3 : 203 ≤ r) : s.heap.get? r = none := by
  cases q : s.heap.get? r with
  | none => rfl
  | some o => rw [C.keep _ _ rfl (J.base _ _ (tab_ge h3) q)] at h; cases h
set_option maxHeartbeats 0 in
set_option exponentiation.threshold 2000 in
theorem idm_spec {nu b n : Nat} {ta tb : Tok} {Q : Value → Shared → Prop} (B : Bs w s.heap) (T : Ts s.heap kd ki) (hd : A.depth + 85 < recursionLimit) (hh : A.handled = none)
    (hp : nu < 2 ^ 300) (hb : 0 < b) (hn : Builtin.Int.intBits (b : Int) = n) (hn1 : 1 ≤ n ∧ n ≤ 70) (hk10 : (Builtin.Int.intBits (nu : Int) + n - 1) / n ≤ 10)
    (hret : ∀ r u1 u2 s' kd' ki', Gr false s s' → Ts s'.heap kd' ki' → Tn s kd ki kd' ki' → Sh.Is prog w s'.heap r (.tup [.int ((nu / b : Nat) : Int) u1, .int ((nu % b : Nat) : Int) u2]) → s.heap.get? r = none → 203 ≤ r → Q (.ref r) s') :
    wpAny (model prog w) A (call (.ref 147) [.int (nu : Int) ta, .int (b : Int) tb]) Q E s := by
  refine enter (σ := true) (binds := [("a", .int (nu : Int) ta), ("b", .int (b : Int) tb)]) B (by lia) rfl rfl (BindsTo.of_eq rfl) rfl ?_ (by decide) rfl rfl rfl ?_
  · show ([Str.ofString "a", Str.ofString "b"] : List Str).Nodup
    decide +kernel
  intro L z C
  have J : Jy w s s.heap s := .start B T.bi
  repeat wtm_at "w"
  with_reducible refine wpAny_Call_NameR (gl (by assumption) (by assumption) gn_140 ?_)
  with_reducible refine g2 (by assumption) kp_140 ?_
  repeat wtm_at "w"
  refine ⟨C.bs B, ?_⟩
  refine pos_spec (C.bs B) (C.ts T) (by simp only [deeper_depth]; lia) (by wtm_at "hh") hp hb hn hn1 hk10 ?_
  intro r u1 u2 z' kd' ki' G T' N h1 h2 h3
  exact hret r u1 u2 z' kd' ki' (C.out.weak.trans G) T' (Tn.trans J C T' .refl N) h1 (notThere C h2) h3
theorem valD_lt' (f : Nat → Nat) (w lo : Nat) : ∀ k, (∀ j, j < k → f (lo + j) < 2 ^ w) → valD f w lo k < 2 ^ (w * k)
  | 0, _ => by simp [valD]
  | k + 1, h => by
    have h1 := valD_lt' f w lo k fun j hj => h j (by lia)
    have h2 := h k (Nat.lt_succ_self k)
    have h4 : (f (lo + k) + 1) * 2 ^ (w * k) ≤ 2 ^ w * 2 ^ (w * k) := Nat.mul_le_mul_right _ h2
    rw [valD, Nat.mul_add, Nat.mul_one, Nat.add_comm (w * k) w, Nat.pow_add]
    rw [Nat.add_mul, Nat.one_mul] at h4
    lia
theorem intBits_mask {w : Nat} (hw : 1 ≤ w) : Builtin.Int.intBits ((2 ^ w - 1 : Nat) : Int) = w := by
  have hp := Nat.two_pow_pos w
  have h1 : Builtin.Int.intBits ((2 ^ w - 1 : Nat) : Int) ≤ w := bits_le (by lia)
  by_cases h : Builtin.Int.intBits ((2 ^ w - 1 : Nat) : Int) ≤ w - 1
  · have h2 := intBits_le_iff.mp h
    rw [Int.natAbs_natCast] at h2
    have h3 : (2 : Nat) ^ w = 2 * 2 ^ (w - 1) := by
      conv => lhs; rw [show w = (w - 1) + 1 by lia, Nat.pow_succ, Nat.mul_comm]
    have := Nat.two_pow_pos (w - 1)
    lia
  · lia
noncomputable def cntD (ds : List Int) (i : Nat) : Nat := [ds.count 4, ds.count 3, ds.count 2, ds.count 1].getD i 0
noncomputable def numD (ds : List Int) (wd : Nat) : Nat := valD (cntD ds) wd 0 4
theorem cntD_le (ds : List Int) (i : Nat) : cntD ds i ≤ ds.length := by
  unfold cntD
  rcases i with _ | _ | _ | _ | i <;> simp <;> exact List.count_le_length
noncomputable def CntOf (ds : List Int) (v y : Value) : Prop := ∃ k t u, v = .int k t ∧ y = .int (ds.count k : Nat) u

set_option maxHeartbeats 0 in
set_option exponentiation.threshold 2000 in
theorem summed_spec {dl : Addr} {vs : List Value} {ds : List Int} {wd : Nat} {tw : Tok} {Q : Value → Shared → Prop} (B : Bs w s.heap) (T : Ts s.heap kd ki) (hd : A.depth + 95 < recursionLimit) (hh : A.handled = none)
    (hl : Sh.Is prog w s.heap dl (.list vs)) (hl3 : 203 ≤ dl) (hi : IntsAre vs ds) (h9 : ds.length ≤ 9) (hw : 4 ≤ wd ∧ wd ≤ 63)
    (hret : ∀ r rl vr t s', Gr false s s' → Tabs s'.heap → Sh.Is prog w s'.heap r (.tup [.ref rl, .int ((numD ds wd % (2 ^ wd - 1) : Nat) : Int) t]) → Sh.Is prog w s'.heap rl (.list vr) →
      IntsAre vr (digs (numD ds wd / (2 ^ wd - 1)) wd ((Builtin.Int.intBits ((numD ds wd / (2 ^ wd - 1) : Nat) : Int) + wd - 1) / wd)) → s.heap.get? r = none ∧ 203 ≤ r → s.heap.get? rl = none ∧ 203 ≤ rl → Q (.ref r) s') :
    wpAny (model prog w) A (call (.ref 197) [.ref dl, .int (wd : Int) tw]) Q E s := by
  have hnum : numD ds wd < 2 ^ (wd * 4) := valD_lt' _ _ _ _ fun j _ => Nat.lt_of_le_of_lt (Nat.le_trans (cntD_le ds _) h9) (Nat.lt_of_lt_of_le (by decide : 9 < 2 ^ 4) (Nat.pow_le_pow_right (by decide) hw.1))
  have hnb : Builtin.Int.intBits (numD ds wd : Int) ≤ wd * 4 := bits_le hnum
  have hpw : 2 ^ 4 ≤ 2 ^ wd := Nat.pow_le_pow_right (by decide) hw.1
  have hqb : Builtin.Int.intBits ((numD ds wd / (2 ^ wd - 1) : Nat) : Int) ≤ wd * 4 := bits_le (Nat.lt_of_le_of_lt (Nat.div_le_self _ _) hnum)
  have hdv : ∀ B, B ≤ wd * 4 → (B + wd - 1) / wd ≤ 10 := fun B hB => by
    refine Nat.le_trans (m := 5) ?_ (by decide)
    rw [Nat.div_le_iff_le_mul_add_pred (by lia)]
    lia
  refine enterC (σ := true) (binds := [("depths", .ref dl), ("width", .int (wd : Int) tw)]) B (by lia) rfl rfl rfl (fun n => [("depths", n + 1)]) ?_ [("width", .int (wd : Int) tw)] (fun n => [(n + 1, .cell (some (.ref dl)))]) ?_ ?_ ?_ ?_ ?_ rfl rfl rfl ?_
  · intro n; with_unfolding_all rfl
  · intro n x hx
    rcases List.mem_cons.mp hx with rfl | hx
    · exact .inr ⟨rfl, rfl⟩
    · rw [List.mem_singleton] at hx; subst hx; exact .inl rfl
  · intro p hx
    rw [List.mem_singleton] at hx; subst hx; rfl
  · simp
  · intro n p hx
    rw [List.mem_singleton] at hx; subst hx; exact ⟨"depths", _, rfl, rfl⟩
  · intro n
    simp
  generalize s.heap.objs.size = L
  generalize hcd : L + 1 = cd
  intro z C
  try dsimp only at C ⊢
  have J : Jy w s s.heap s := .start B T.bi
  repeat wtm_at "w"
  with_reducible refine wpAny_Call_NameR (gl (by assumption) (by assumption) gn_133 ?_)
  with_reducible refine g2 (by assumption) kp_133 ?_
  repeat wtm_at "w"
  with_reducible refine lcomp (σ := true) (g := s.heap) (L := L) (s₀ := s) (cl := [("depths", cd)]) (fun _ => true) (CntOf ds) ?_ ?_ ?_ ?_ ?_ ?_
  · with_unfolding_all rfl
  · with_unfolding_all decide
  · with_unfolding_all rfl
  · with_unfolding_all decide
  · with_unfolding_all rfl
  refine eList (sm (cInt C fun t4 z C => sm (cInt C fun t3 z C => sm (cInt C fun t2 z C => sm (cInt C fun t1 z C => spliced_none ⟨_, _, C, by with_unfolding_all rfl, fun rl z C => ?_⟩)))))
  with_reducible refine itList C (by wtm_at "is") ?_
  clear C; intro I z hne C
  have f1 := C.hid (a := cd) (by wtm_at "mm")
  have f2 : Sh.Is prog w (z.heap.hide I) dl (.list vs) := (C.old hl (.inl rfl)).at fun o e => by
    rw [Heap.hide_ne]
    · exact e
    · rintro rfl
      have := (C.fresh List.mem_cons_self).1
      obtain ⟨o2, ho2⟩ := hl.has
      rw [this] at ho2; cases ho2
  refine ⟨_, 0, I, _, _, _, _, _, rfl, Nat.zero_le _, Src.list (vs := [.int 4 t4, .int 3 t3, .int 2 t2, .int 1 t1]) (by wtm_at "hh") hne, fun _ _ _ _ _ q => q, by simp, fun z' hz => (Sh.isL (C.is (sh := .list [.int 4 t4, .int 3 t3, .int 2 t2, .int 1 t1]) (by wtm_at "mm"))).at fun o e => hz rl o hne e, C, ?_, ?_, ?_⟩
  · intro c i v z D ys hv C
    exact tests0 ⟨rfl, _, List.Sublist.refl _, C⟩
  · intro c i v z D ys hv _ C
    obtain ⟨k, tk, rfl⟩ : ∃ k tk, v = .int k tk := by
      have : v ∈ ([.int 4 t4, .int 3 t3, .int 2 t2, .int 1 t1] : List Value) := List.mem_of_getElem? hv
      simp only [List.mem_cons, List.not_mem_nil, or_false] at this
      rcases this with rfl | rfl | rfl | rfl <;> exact ⟨_, _, rfl⟩
    repeat wtm_at "w"
    refine count_list_ints (Sh.isL (by wtm_at "is")) hi ?_
    exact ⟨⟨k, _, _, rfl, rfl⟩, _, List.Sublist.refl _, C.tokens (Nat.le_succ _)⟩
  · intro D ys vs' z C hl' hv hp
    have e : vs' = [.int 4 t4, .int 3 t3, .int 2 t2, .int 1 t1] := by
      refine List.ext_getElem? fun i => ?_
      by_cases hi : i < vs'.length
      · obtain ⟨_, hq⟩ := hv i _ (List.getElem?_eq_getElem hi)
        rw [List.getElem?_eq_getElem hi]; exact hq.symm
      · rw [List.getElem?_eq_none (Nat.le_of_not_lt hi), List.getElem?_eq_none (by lia)]
    subst e
    rw [List.filter_eq_self.mpr (by simp)] at hp
    have hys : IntsAre ys [((ds.count 4 : Nat) : Int), ((ds.count 3 : Nat) : Int), ((ds.count 2 : Nat) : Int), ((ds.count 1 : Nat) : Int)] := by
      cases hp with
      | cons h4 hp =>
        cases hp with
        | cons h3 hp =>
          cases hp with
          | cons h2 hp =>
            cases hp with
            | cons h1 hp =>
              cases hp
              obtain ⟨_, _, u4, e, rfl⟩ := h4; cases e
              obtain ⟨_, _, u3, e, rfl⟩ := h3; cases e
              obtain ⟨_, _, u2, e, rfl⟩ := h2; cases e
              obtain ⟨_, _, u1, e, rfl⟩ := h1; cases e
              exact .cons _ _ (.cons _ _ (.cons _ _ (.cons _ _ .nil)))
    have hIL : IntL (fun i => (cntD ds i : Int)) 4 ys := by
      have h1 := IntsAre.toL hys
      have e : (fun i => ([((ds.count 4 : Nat) : Int), ((ds.count 3 : Nat) : Int), ((ds.count 2 : Nat) : Int), ((ds.count 1 : Nat) : Int)] : List Int).getD i 0) = fun i => (cntD ds i : Int) := by
        funext i
        unfold cntD
        rcases i with _ | _ | _ | _ | i <;> rfl
      rw [e] at h1
      exact h1
    clear hp hv hl' hys
    repeat wtm_at "w"
    refine ⟨C.bs B, ?_⟩
    refine d2iT (f := cntD ds) (n := 4) (C.bs B) (C.ts T) (by simp only [deeper_depth]; lia) (by wtm_at "hh") (C.is (by wtm_at "mm")) (by wtm_at "fr") hIL (fun i => Nat.lt_of_le_of_lt (Nat.le_trans (cntD_le ds i) h9) (by decide)) (by lia) (by decide) ?_
    intro t5 z5 kd1 ki1 G T1 N1
    obtain ⟨g1, J1, C1, TG1, y1, y3⟩ := J.jumpT C G (List.Sublist.refl _) T T1 N1
    have N2 : Tn s kd ki kd1 ki1 := Tn.trans J C T1 .refl N1
    clear y1 y3 G C
    have C := C1
    clear C1
    have BJ := J1.bs
    rw [show valD (cntD ds) wd 0 4 = numD ds wd from rfl]
    repeat wtm_at "w"
    refine Assign_Tuple ?_ (by with_unfolding_all rfl) (by with_unfolding_all rfl)
    with_reducible refine wpAny_Call_NameR (gl (by assumption) (by assumption) gn_147 ?_)
    with_reducible refine g2 (by assumption) kp_147 ?_
    repeat wtm_at "w"
    refine oPow2 C (by lia) ?_
    clear C
    intro t6 z C
    repeat wtm_at "w"
    refine ⟨C.bs BJ, ?_⟩
    rw [show ((2 ^ wd : Nat) : Int) - 1 = ((2 ^ wd - 1 : Nat) : Int) by lia]
    refine idm_spec (C.bs BJ) (C.ts TG1) (by simp only [deeper_depth]; lia) (by wtm_at "hh") (Nat.lt_of_lt_of_le hnum (Nat.pow_le_pow_right (by decide) (by lia))) (by lia) (intBits_mask (by lia)) (by lia) (hdv _ hnb) ?_
    intro r2 v1 v2 z7 kd2 ki2 G T2 N3 hr2 hr20 hr23
    obtain ⟨gb, J2, C2, TG2, y1, y3⟩ := J1.jumpT C G (List.Sublist.refl _) TG1 T2 N3
    have N4 : Tn s kd ki kd2 ki2 := Tn.trans J1 C T2 N2 N3
    clear y1 y3 G C BJ
    have C := C2
    clear C2
    have BJ := J2.bs
    refine wpAny_assign_Tuple (by wtm_at "hh") (Sh.isT hr2) (by with_unfolding_all rfl) (by with_unfolding_all rfl) fun h3 hx3 => ?_
    have C := C.grown (s' := { z7 with heap := h3 }) ⟨fun b o _ q => hx3 b o (Nat.ne_of_lt (Heap.lt_size q)) q, rfl, rfl, gens_refl, Nat.le_refl _⟩
    refine asg2 ?_
    repeat wtm_at "w"
    refine eTup2E (prog := prog) (w := w) (L := L) ?_
    with_reducible refine wpAny_Call_NameR (gl (by assumption) (by assumption) gn_126 ?_)
    with_reducible refine g2 (by assumption) kp_126 ?_
    repeat wtm_at "w"
    refine ⟨C.bs BJ, ?_⟩
    refine i2dT (C.bs BJ) (C.ts TG2) (by simp only [deeper_depth]; lia) (by wtm_at "hh") (Nat.lt_of_le_of_lt (Nat.div_le_self _ _) (Nat.lt_of_lt_of_le hnum (Nat.pow_le_pow_right (by decide) (by lia)))) (by lia) (hdv _ hqb) ?_
    intro r3 v3 z8 kd3 ki3 G T3 N5 hr3 hv3 hr30 hr33
    obtain ⟨gc, J3, C3, TG3, y1, y3⟩ := J2.jumpT C G (List.Sublist.refl _) TG2 T3 N5
    have hs3 := notThere' J2 C hr30 hr33
    have hr3' : Sh.Is prog w gc r3 (.list v3) := hr3.at fun o e => y3 _ _ hr30 e
    clear y1 y3 G C BJ
    have C := C3
    clear C3
    have BJ := J3.bs
    repeat wtm_at "w"
    refine ⟨gc, z8, _, _, C, ?_⟩
    clear C
    intro r4 z C
    have hm := C.fresh List.mem_cons_self
    refine hret r4 r3 v3 v2 z (J3.out C) (C.ts TG3).tabs (C.is List.mem_cons_self) (C.old hr3' (.inl rfl)) hv3 ⟨?_, hm.2⟩ ⟨hs3, hr33⟩
    cases q : s.heap.get? r4 with
    | none => rfl
    | some o => have := J3.base _ o (tab_ge hm.2) q; rw [hm.1] at this; cases this
end
section
open PySem PySem.W PyProof.Rows PySem.Spec PySem.Calls Builtin
set_option maxHeartbeats 1000000
variable {σ : Bool} {prog : Program} {w : World} {g h h' : Heap} {L a : Addr} {m m' : List (Str × Value)} {own own' : List (Addr × Sh)} {s₀ s s' : Shared} {sh sh' : Sh}
variable {A : Around} {E : Value → Shared → Prop} {M : Model} {env : Env} {x y : Str} {v : Value}
theorem lri_len : typeLookup (.type "list_reverseiterator") "__len__" = pure none := by rw [typeLookup_type, builtinLookup_eq_fast]; kernel_rfl
theorem lri_hint : typeLookup (.type "list_reverseiterator") "__length_hint__" = pure (some (.builtin "list_reverseiterator.__length_hint__")) := by rw [typeLookup_type, builtinLookup_eq_fast]; kernel_rfl
theorem lri_hintsub : isSubtype (.type "list_reverseiterator") (.type "list_reverseiterator") = pure true := by rw [isSubtype_type]; kernel_rfl
theorem hint_rev {r : Addr} {Q : Bool → Shared → Prop} (hT : s.TypeIs (.ref r) "list_reverseiterator") (hq : Q false s) : wpAny (model prog w) A (Builtin.List.listLengthHint (.ref r)) Q E s := by
  unfold Builtin.List.listLengthHint
  refine wpAny_bind ?_
  unfold specialOf
  refine wpAny_bind (wpAny_typeOf hT (wpAny_of_eq lri_len ?_))
  dsimp only
  refine wpAny_ite_split (fun hab => absurd hab (by decide +kernel)) (fun _ => ?_)
  refine wpAny_ite_split (fun hab => absurd hab (by decide)) (fun _ => ?_)
  refine wpAny_bind (wpAny_bind (wpAny_typeOf hT (wpAny_of_eq lri_hint ?_)))
  dsimp only
  generalize hid : ("list_reverseiterator.__length_hint__" : String) = id0
  rw [show splitId id0 = some ("list_reverseiterator", "__length_hint__") from by subst hid; decide +kernel]
  subst hid
  dsimp only
  refine wpAny_bind (wpAny_isInstance (T := "list_reverseiterator") (b := true) hT lri_hintsub ?_)
  refine wpAny_ite_split (fun hab => absurd hab (by decide)) (fun _ => ?_)
  refine wpAny_ite_split (fun _ => ?_) (fun hab => absurd (by decide +kernel) hab)
  refine wpAny_ite_split (fun hab => absurd hab (by decide +kernel)) (fun _ => ?_)
  exact wpAny_pure hq
theorem extend_rev {R : Result → Shared → Prop} {S I l : Addr} {items : Array Value} {res : Value} {c₀ : Nat} (hh : A.handled = none) (hne : l ≠ I) (hit : s.heap.IsRevIter I l ((items.size : Int) - 1)) (hl : s.heap.IsList l items) (hSI : S ≠ I) (hSl : S ≠ l)
    (hS : s.heap.get? S = some { cls := .type "list", data := .seq #[] c₀ }) (hn : items.size ≤ sizeLine)
    (hR : ∀ h' tk acc' c', (∀ b o, b ≠ S → b ≠ I → s.heap.get? b = some o → h'.get? b = some o) → s.toks ≤ tk → h'.get? S = some { cls := .type "list", dict := none, data := .seq acc' c', slots := #[] } → ItemsOf (fun i v => items[items.size - 1 - i]? = some v) acc' items.size → R (.ok (.ret res)) { s with heap := h', toks := tk }) :
    wpAny (model prog w) A.in1 (Builtin.List.listExtendWith (.ref S) (.ref I) res)
      (fun fin s' => match fin with | .done f => R (.ok f) s' | .again c' => c'.quiet = true ∧ codeAny (model prog w) A c' R s') (fun e s' => R (.error e) s') s := by
  have hSf : S ∉ [I, l] := by simp only [List.mem_cons, List.not_mem_nil, or_false, not_or]; exact ⟨hSI, hSl⟩
  have W := Walks.listRev (prog := prog) (w := w) (A := A.in1) hh I l hne items
  have st : ∀ {h : Heap}, h.IsRevIter I l ((items.size : Int) - 1) → h.IsList l items → (0 ≤ items.size ∧ h.IsRevIter I l ((items.size : Int) - 1 - ((0 : Nat) : Int)) ∧ h.IsList l items) := fun h1 h2 => ⟨Nat.zero_le _, by simpa using h1, h2⟩
  unfold Builtin.List.listExtendWith
  refine wpAny_bind (wpAny_typeOf (T := "list_reverseiterator") hit.typeIs ?_)
  have h1 : Builtin.List.listSameRef (.ref S) (.ref I) = false := by simp [Builtin.List.listSameRef, hSI]
  simp only [h1, show (Value.type "list_reverseiterator" == Value.type "list") = false by decide, show (Value.type "list_reverseiterator" == Value.type "tuple") = false by decide, Bool.or_false, Bool.false_eq_true, if_false]
  refine wpAny_bind (wpAny_pyIter_revIter hit ?_)
  refine wpAny_bind (wpAny_holding (hint_rev hit.typeIs ?_))
  refine wpAny_ite_split (fun hab => absurd hab (by decide +kernel)) (fun _ => ?_)
  refine wpAny_pure ⟨plainId_quiet PySem.F.plain_extend_loop _, ?_⟩
  refine codeAny_extend_loopS W.toS hn S hSf res items.size 0 _ #[] c₀ rfl (Nat.zero_le _) (st hit hl) hS (ItemsOf.nil _) fun s' acc' c' hm hS' hacc => ?_
  have htk := hm.toks
  rw [Moved.eq_with hm]
  refine hR s'.heap s'.toks acc' c' (fun b o h1 h2 e => hm.heap b o (fun hmem => ?_) e) htk hS' hacc
  rcases List.mem_cons.mp hmem with e' | hmem
  · exact h1 e'
  · exact h2 (List.mem_singleton.mp hmem)
theorem init_rev {R : Result → Shared → Prop} {S I l : Addr} {items : Array Value} (hh : A.handled = none) (hne : l ≠ I) (hit : s.heap.IsRevIter I l ((items.size : Int) - 1)) (hl : s.heap.IsList l items) (hSI : S ≠ I) (hSl : S ≠ l)
    (hS : s.heap.get? S = some { cls := .type "list", data := .seq #[] }) (hn : items.size ≤ sizeLine)
    (hR : ∀ h' tk acc' c', (∀ b o, b ≠ S → b ≠ I → s.heap.get? b = some o → h'.get? b = some o) → s.toks ≤ tk → h'.get? S = some { cls := .type "list", dict := none, data := .seq acc' c', slots := #[] } → ItemsOf (fun i v => items[items.size - 1 - i]? = some v) acc' items.size → R (.ok (.ret .none)) { s with heap := h', toks := tk }) :
    wpAny (model prog w) A.in1 (Builtin.«list.__init__» ⟨[.ref S, .ref I], []⟩)
      (fun fin s' => match fin with | .done f => R (.ok f) s' | .again c' => c'.quiet = true ∧ codeAny (model prog w) A c' R s') (fun e s' => R (.error e) s') s := by
  show wpAny _ _ (do let old ← Builtin.List.listItems (.ref S); Builtin.List.listUpdate (.ref S) (fun _ => #[]); letGo old.toList.reverse; Builtin.List.listExtendWith (.ref S) (.ref I) .none) _ _ s
  refine wpAny_bind ?_
  unfold Builtin.List.listItems
  refine wpAny_bind (wpAny_seqItems hS rfl (wpAny_pure ?_))
  show wpAny _ _ (updateSeq S (fun _ => #[]) >>= fun _ => letGo (#[] : Array Value).toList.reverse >>= fun _ => Builtin.List.listExtendWith (.ref S) (.ref I) .none) _ _ s
  refine wpAny_bind (wpAny_updateSeq hS rfl ?_)
  have hS₂ := Heap.get?_update_self (Obj.mapSeq (fun _ => (#[] : Array Value))) hS rfl
  have oth : ∀ b o, b ≠ S → s.heap.get? b = some o → (s.heap.update S (Obj.mapSeq (fun _ => (#[] : Array Value)))).get? b = some o :=
    fun b o hb e => (Heap.get?_update_other _ _ (Ne.symm hb)).trans e
  refine wpAny_bind (wpAny_letGo ?_)
  refine extend_rev (s := { s with heap := s.heap.update S (Obj.mapSeq (fun _ => (#[] : Array Value))) }) hh hne (hit.at fun o e => oth _ _ hSI.symm e) (hl.at fun o e => oth _ _ hSl.symm e) hSI hSl hS₂ hn fun h' tk acc' c' hk ht hS' hacc => ?_
  exact hR h' tk acc' c' (fun b o h1 h2 e => hk b o h1 h2 (oth b o h1 e)) ht hS' hacc
theorem Cx.two {a b : Addr} {sh sh' sh2 : Sh} {h' : Heap} {tk : Nat} (C : Cx σ prog w g L m ((a, sh) :: (b, sh2) :: own) s₀ s) (ht : s.toks ≤ tk) (hs : ∀ c o, c ≠ a → c ≠ b → s.heap.get? c = some o → h'.get? c = some o) (hn : sh'.Is prog w h' a) :
    Cx σ prog w g L m ((a, sh') :: own) s₀ { s with heap := h', toks := tk } := by
  obtain ⟨k1, k2, k3⟩ := C.its _ List.mem_cons_self
  obtain ⟨j1, j2, j3⟩ := C.its _ (List.mem_cons_of_mem _ List.mem_cons_self)
  have nd := C.nd
  rw [List.map_cons, List.map_cons, List.nodup_cons, List.nodup_cons] at nd
  refine ⟨?_, fun c o t e => hs c o ?_ ?_ (C.keep c o t e), C.low, C.above, fun p hp => ?_, ?_, C.uq, C.os, C.drawn, C.gens, Nat.le_trans C.toks ht⟩
  · rcases C.ns with q | ⟨f, ⟨o, es, ep, ho, r⟩, hm⟩
    · exact .inl q
    · rcases k3 with q | k3
      · exact .inl q
      · rcases j3 with q | j3
        · exact .inl q
        · exact .inr ⟨f, ⟨o, es, ep, hs _ _ (Ne.symm k3) (Ne.symm j3) ho, r⟩, hm⟩
  · rintro rfl; rw [show g.get? c = none from k2.1] at e; cases e
  · rintro rfl; rw [show g.get? c = none from j2.1] at e; cases e
  · rcases List.mem_cons.mp hp with rfl | hp
    · exact ⟨hn, k2, k3⟩
    · obtain ⟨l1, l2, l3⟩ := C.its p (List.mem_cons_of_mem _ (List.mem_cons_of_mem _ hp))
      refine ⟨l1.at fun o q => hs _ _ ?_ ?_ q, l2, l3⟩
      · intro q; exact nd.1 (List.mem_cons_of_mem _ (q ▸ List.mem_map_of_mem (f := (·.1)) hp))
      · intro q; exact nd.2.1 (q ▸ List.mem_map_of_mem (f := (·.1)) hp)
  · rw [List.map_cons, List.nodup_cons]
    exact ⟨fun hm => nd.1 (List.mem_cons_of_mem _ hm), nd.2.2⟩
theorem cListRev {l I : Addr} {vs : List Value} {Q : Value → Shared → Prop} (hh : A.handled = none) (C : Cx σ prog w g L m ((I, .flds "list_reverseiterator" [.ref l, .int ((vs.length : Int) - 1) 0]) :: own) s₀ s) (hne : l ≠ I) (hl : Sh.Is prog w s.heap l (.list vs)) (hn : vs.length ≤ 1000)
    (h : ∀ r z, Cx σ prog w g L m ((r, .list vs.reverse) :: own) s₀ z → Q (.ref r) z) : wpAny (model prog w) A (call (.type "list") [.ref I]) Q E s := by
  have hit : s.heap.IsRevIter I l ((vs.toArray.size : Int) - 1) := by
    obtain ⟨o, ho, r1, r2⟩ := C.is List.mem_cons_self
    exact ⟨o, ho, r1, by simpa [rawInt] using r2⟩
  have hIlt := hit.typeIs
  have hll := hl.lt
  have hIl : I < s.heap.objs.size := let ⟨o, ho, _⟩ := hit; Heap.lt_size ho
  refine wpAny_with_toks (Nat.le_refl _) ?_
  refine callType_codes (Q₁ := fun obj s₁ => obj = .ref s.heap.objs.size ∧ s₁ = { s with heap := s.heap.push { cls := .type "list", data := .seq #[] } }) PySem.F.called_list (PySem.F.typeCall_list_1 _) PySem.F.entry_list_init
    (code_list_new _ ⟨rfl, rfl⟩) fun obj s₁ h₁ => ?_
  obtain ⟨rfl, rfl⟩ := h₁
  have hS : (s.heap.push { cls := .type "list", data := .seq #[] }).get? s.heap.objs.size = some { cls := .type "list", data := .seq #[] } := Heap.get?_push_size _ rfl
  refine ⟨⟨_, hS, rfl⟩, PySem.F.args_list_init_2 _ _, init_rev (A := A.in1) (s := { s with heap := s.heap.push { cls := .type "list", data := .seq #[] } }) hh hne (hit.at fun o e => Heap.get?_push_of_some _ e) ((Sh.isL hl).at fun o e => Heap.get?_push_of_some _ e) (Nat.ne_of_gt hIl) (Nat.ne_of_gt hll) hS (by rw [sizeLine_eq, List.size_toArray]; lia) (fun h' tk acc' c' hk ht hS' hacc => ?_)⟩
  refine ⟨rfl, ?_⟩
  intro htk
  have C1 := C.push (sh := .list []) (o := { cls := .type "list", data := .seq #[] }) (tk := s.toks) (Nat.le_refl _) ⟨0, Heap.get?_push_size _ rfl⟩
  have e : acc' = vs.reverse.toArray := by
    apply Array.ext'
    refine List.ext_getElem? fun i => ?_
    have hsz : acc'.size = vs.length := by have := hacc.1; simpa using this
    by_cases hi : i < vs.length
    · have h1 : acc'[i]? = some (acc'[i]'(by lia)) := Array.getElem?_eq_getElem (by lia)
      have h2 := hacc.2 i _ h1
      rw [Array.getElem?_toList, h1]
      simp only [List.size_toArray, List.getElem?_toArray] at h2
      rw [← h2]
      simp only
      rw [List.getElem?_reverse hi]
    · rw [Array.getElem?_toList, Array.getElem?_eq_none (by lia), List.getElem?_eq_none (by simp; lia)]
  subst e
  exact h _ _ (C1.two ht hk ⟨c', hS'⟩)
theorem cSortedS {l : Addr} {vs : List Value} {ss : List Str} {Q : Value → Shared → Prop} (C : Cx σ prog w g L m own s₀ s) (hl : Sh.Is prog w s.heap l (.list vs)) (hS : StrsAre vs ss) (hn : vs.length < 64)
    (h : ∀ r s' (vs' : List Value) (ss' : List Str), StrsAre vs' ss' → ss'.Perm ss → sortedS ss' = true → Cx σ prog w g L m ((r, .list vs') :: own) s₀ s' → Q (.ref r) s') : wpAny (model prog w) A (call (.builtin "sorted") [.ref l]) Q E s := by
  refine sorted_strs (Sh.isL hl) hS hn fun out ss' a1 a2 a3 => ?_
  obtain ⟨e, he⟩ := sortedAll_at s.heap vs out
  have hnone : s.heap.get? (s.heap.objs.size + 1) = none := by
    cases q : s.heap.get? (s.heap.objs.size + 1) with
    | none => rfl
    | some o => exact absurd (Heap.lt_size q) Nat.not_succ_lt_self
  refine h _ _ out.toList ss' a1 a2 a3 (C.add (s' := { s with heap := sortedAll s.heap vs out }) (Gr.heap (tk := s.toks) (Nat.le_refl _) fun b o => sortedAll_old) ?_ hnone (Nat.le_succ_of_le C.top))
  exact ⟨e, by simpa [seqObj] using he⟩
theorem neInts {l b : Addr} {vs vs' : List Value} {ns : List Int} {Q : Value → Shared → Prop} (hu : A.units < cLine) (hl : Sh.Is prog w s.heap l (.list vs)) (hb : Sh.Is prog w s.heap b (.list vs')) (h1 : IntsAre vs ns) (h2 : IntsAre vs' ns) (h : Q (.bool false) s) :
    wpAny (model prog w) A (compareOp .NotEq (.ref l) (.ref b)) Q E s := by
  have e1 := IntsAre.length h1
  have e2 := IntsAre.length h2
  show wpAny _ _ (richCompare .NotEq (.ref l) (.ref b)) _ _ _
  refine SeqAt.RcNeAt.lists (e := fun _ => true) (Sh.isL hl) (Sh.isL hb) (by simp; lia) hu (fun j j1 j2 => ?_) prog w E Q ?_
  · obtain ⟨n, t, e, q⟩ := IntsAre.at h1 j vs[j] (by simp at j1; simp [j1])
    obtain ⟨t', q'⟩ := IntsAre.get h2 j n q
    have : vs'[j]'(by simpa using j2) = .int n t' := by
      have := List.getElem?_eq_some_iff.mp q'
      exact this.2
    show SeqAt.EqAt A.in1 s vs[j] (vs'[j]'(by simpa using j2)) true
    rw [e, this]
    have := (MeetsSeq.EqGives.int n n t t').at A.in1 s
    simpa using this
  · have : (!(List.range vs.toArray.size).all fun _ => true) = false := by rw [List.all_eq_true.mpr fun _ _ => rfl]; rfl
    rw [this]; exact h
theorem neStrs {l b : Addr} {vs vs' : List Value} {ns : List Str} {Q : Value → Shared → Prop} (hu : A.units < cLine) (hl : Sh.Is prog w s.heap l (.list vs)) (hb : Sh.Is prog w s.heap b (.list vs')) (h1 : StrsAre vs ns) (h2 : StrsAre vs' ns) (h : Q (.bool false) s) :
    wpAny (model prog w) A (compareOp .NotEq (.ref l) (.ref b)) Q E s := by
  have e1 := StrsAre.length h1
  have e2 := StrsAre.length h2
  show wpAny _ _ (richCompare .NotEq (.ref l) (.ref b)) _ _ _
  refine SeqAt.RcNeAt.lists (e := fun _ => true) (Sh.isL hl) (Sh.isL hb) (by simp; lia) hu (fun j j1 j2 => ?_) prog w E Q ?_
  · obtain ⟨n, t, e, q⟩ := StrsAre.item h1 j vs[j] (by simp at j1; simp [j1])
    obtain ⟨t', q'⟩ := StrsAre.get h2 j n q
    have : vs'[j]'(by simpa using j2) = .str n t' := by
      have := List.getElem?_eq_some_iff.mp q'
      exact this.2
    show SeqAt.EqAt A.in1 s vs[j] (vs'[j]'(by simpa using j2)) true
    rw [e, this]
    have := (eqGives_str n n t t').at A.in1 s
    simpa using this
  · have : (!(List.range vs.toArray.size).all fun _ => true) = false := by rw [List.all_eq_true.mpr fun _ _ => rfl]; rfl
    rw [this]; exact h
theorem neNil {l b : Addr} {vs : List Value} {Q : Value → Shared → Prop} (hu : A.units < cLine) (hl : Sh.Is prog w s.heap l (.list vs)) (hb : Sh.Is prog w s.heap b (.list [])) (h : Q (.bool (decide (vs ≠ []))) s) :
    wpAny (model prog w) A (compareOp .NotEq (.ref l) (.ref b)) Q E s := by
  show wpAny _ _ (richCompare .NotEq (.ref l) (.ref b)) _ _ _
  cases vs with
  | nil =>
    refine SeqAt.RcNeAt.lists (e := fun _ => true) (Sh.isL hl) (Sh.isL hb) rfl hu (fun j j1 j2 => by simp at j1) prog w E Q ?_
    simpa using h
  | cons v r => exact SeqAt.RcNeAt.lists_lengths (Sh.isL hl) (Sh.isL hb) (by simp) hu prog w E Q (by simpa using h)
theorem eqPair {p q l b : Addr} {vs vs' : List Value} {ns : List Int} {n : Int} {t u : Tok} {Q : Value → Shared → Prop} (hu : A.units + 10 < cLine) (hp : Sh.Is prog w s.heap p (.tup [.ref l, .int n t])) (hq : Sh.Is prog w s.heap q (.tup [.ref b, .int n u]))
    (hne : l ≠ b) (hl : Sh.Is prog w s.heap l (.list vs)) (hb : Sh.Is prog w s.heap b (.list vs')) (h1 : IntsAre vs ns) (h2 : IntsAre vs' ns) (h : Q (.bool true) s) :
    wpAny (model prog w) A (compareOp .Eq (.ref p) (.ref q)) Q E s := by
  have e1 := IntsAre.length h1
  have e2 := IntsAre.length h2
  refine SeqAt.eq_tupleAt (e := fun _ => true) (Sh.isT hp) (Sh.isT hq) (by lia) (fun j j1 j2 => ?_) h
  have hj : j = 0 ∨ j = 1 := by simp at j1; lia
  rcases hj with rfl | rfl
  · show SeqAt.EqAt A.in1 s (.ref l) (.ref b) true
    refine SeqAt.EqAt.of_refs hne ?_
    have := SeqAt.RcAt.lists (A := A.in1) (e := fun _ => true) (Sh.isL hl) (Sh.isL hb) (by simp; lia) (by show A.units + 1 < cLine; lia) (fun j j1 j2 => by
      obtain ⟨n, t, e, q⟩ := IntsAre.at h1 j vs[j] (by simp at j1; simp [j1])
      obtain ⟨t', q'⟩ := IntsAre.get h2 j n q
      have : vs'[j]'(by simpa using j2) = .int n t' := by
        have := List.getElem?_eq_some_iff.mp q'
        exact this.2
      show SeqAt.EqAt A.in1.in1 s vs[j] (vs'[j]'(by simpa using j2)) true
      rw [e, this]
      have := (MeetsSeq.EqGives.int n n t t').at A.in1.in1 s
      simpa using this)
    have e3 : ((List.range vs.toArray.size).all fun _ => true) = true := List.all_eq_true.mpr fun _ _ => rfl
    rw [e3] at this
    exact this
  · show SeqAt.EqAt A.in1 s (.int n t) (.int n u) true
    have := (MeetsSeq.EqGives.int n n t u).at A.in1 s
    simpa using this
theorem tCmp2 {l r1 r2 : Expr} {op1 op2 : CmpOp} {pos : Pos} {whole : Sem Value} {Q : Bool → Shared → Prop}
    (h : wpAny M A (eval l env) (fun a s₁ => wpAny M A (eval r1 env) (fun b s₂ => wpAny M A (compareOp op1 a b) (fun c s₃ => wpAny M A (truthy c) (fun t s₄ =>
      (t = true → wpAny M A (eval r2 env) (fun d s₅ => wpAny M A (compareOp op2 b d) (fun c2 s₆ => wpAny M A (truthy c2) Q E s₆) E s₅) E s₄) ∧ (t = false → Q false s₄)) E s₃) E s₂) E s₁) E s)
    (he : markedEach [op1, op2] [r1, r2] (evalEach [r1, r2] env) = [eval r1 env, eval r2 env] := by with_unfolding_all rfl) :
    wpAny M A (isTrue (.Compare l [op1, op2] [r1, r2] pos) env whole) Q E s := by
  rw [arm_isTrue_Compare, he]
  refine wpAny_bind (wpAny_mono h (fun a s₁ h₁ => ?_) fun _ _ e => e)
  unfold testChain
  refine wpAny_bind (wpAny_holding (wpAny_mono h₁ (fun b s₂ h₂ => ?_) fun _ _ e => e))
  refine wpAny_bind (wpAny_standAt (wpAny_bind (wpAny_holding (wpAny_mono h₂ (fun c s₃ h₃ => ?_) fun _ _ e => e))))
  refine wpAny_bind (wpAny_release (wpAny_bind (wpAny_holding (wpAny_mono h₃ (fun t s₄ h₄ => ?_) fun _ _ e => e))))
  cases t with
  | false => exact wpAny_pure (h₄.2 rfl)
  | true =>
    rw [if_pos rfl]
    unfold testChain
    refine wpAny_bind (wpAny_holding (wpAny_mono (h₄.1 rfl) (fun d s₅ h₅ => ?_) fun _ _ e => e))
    refine wpAny_bind (wpAny_standAt (wpAny_bind (wpAny_operating (wpAny_mono h₅ (fun c2 s₆ h₆ => wpAny_holding h₆) fun _ _ e => e))))
end
section
open PySem PySem.W PyProof.Rows PySem.Spec PySem.Calls Builtin
set_option maxHeartbeats 1000000
variable {σ : Bool} {prog : Program} {w : World} {g h h' : Heap} {L a : Addr} {m m' : List (Str × Value)} {own own' : List (Addr × Sh)} {s₀ s s' : Shared} {sh sh' : Sh}
variable {A : Around} {E : Value → Shared → Prop} {M : Model} {env : Env} {x y : Str} {v : Value}

theorem gn_161 {P : Params} : nsIn (KK P) mainGlobals "_law_asked" = some (some (.ref 161)) := by kernel_rfl!
theorem gn_168 {P : Params} : nsIn (KK P) mainGlobals "_law_hours" = some (some (.ref 168)) := by kernel_rfl!
theorem gn_175 {P : Params} : nsIn (KK P) mainGlobals "_law_piled" = some (some (.ref 175)) := by kernel_rfl!
theorem gn_180 {P : Params} : nsIn (KK P) mainGlobals "_law_best" = some (some (.ref 180)) := by kernel_rfl!
theorem gn_187 {P : Params} : nsIn (KK P) mainGlobals "_law_rows" = some (some (.ref 187)) := by kernel_rfl!
theorem gn_192 {P : Params} : nsIn (KK P) mainGlobals "_law_held" = some (some (.ref 192)) := by kernel_rfl!
theorem gn_197 {P : Params} : nsIn (KK P) mainGlobals "_law_summed" = some (some (.ref 197)) := by kernel_rfl!
theorem kp_161 {P : Params} : keepIn (KK P) (.ref 161) = true := by kernel_rfl!
theorem kp_168 {P : Params} : keepIn (KK P) (.ref 168) = true := by kernel_rfl!
theorem kp_175 {P : Params} : keepIn (KK P) (.ref 175) = true := by kernel_rfl!
theorem kp_180 {P : Params} : keepIn (KK P) (.ref 180) = true := by kernel_rfl!
theorem kp_187 {P : Params} : keepIn (KK P) (.ref 187) = true := by kernel_rfl!
theorem kp_192 {P : Params} : keepIn (KK P) (.ref 192) = true := by kernel_rfl!
theorem kp_197 {P : Params} : keepIn (KK P) (.ref 197) = true := by kernel_rfl!

noncomputable def upText (p : Nat) (line : Str) : Str := signs (srt fun pg => decide (sg pg ∈ (Txt.words line).drop ((Txt.words line).length - p)))
noncomputable def stripZ : List Int → List Int
  | [] => []
  | a :: r => match stripZ r with
    | [] => if a = 0 then [] else [a]
    | b :: t => a :: b :: t
theorem stripZ_zero : ∀ ns : List Int, stripZ (ns ++ [0]) = stripZ ns
  | [] => rfl
  | a :: r => by rw [List.cons_append, stripZ, stripZ, stripZ_zero r]
theorem stripZ_self : ∀ (ns : List Int) (n : Int), n ≠ 0 → stripZ (ns ++ [n]) = ns ++ [n]
  | [], n, h => by simp [stripZ, h]
  | a :: r, n, h => by
    rw [List.cons_append, stripZ, stripZ_self r n h]
    cases r <;> rfl
theorem ints_last {vs : List Value} {ns : List Int} (h : IntsAre vs ns) (h0 : vs ≠ []) : ∃ vs' ns' n t, vs = vs' ++ [.int n t] ∧ ns = ns' ++ [n] ∧ IntsAre vs' ns' := by
  induction h with
  | nil => exact absurd rfl h0
  | cons n t h ih =>
    rename_i vs ns
    by_cases h1 : vs = []
    · subst h1; cases h; exact ⟨[], [], n, t, rfl, rfl, .nil⟩
    · obtain ⟨vs', ns', n', t', rfl, rfl, h'⟩ := ih h1
      exact ⟨.int n t :: vs', n :: ns', n', t', rfl, rfl, .cons n t h'⟩
noncomputable def isIn (q : Nat → Nat) (p : Nat) : Bool := (List.range 9).any fun i => q i == p
noncomputable def ModOf (v y : Value) : Prop := ∃ n t u, v = .int n t ∧ y = .int (n % 1000000) u
theorem paired_mod {vs ys : List Value} {ns : List Int} (hi : IntsAre vs ns) (hp : Paired ModOf vs ys) : IntsAre ys (ns.map (· % 1000000)) := by
  induction hi generalizing ys with
  | nil => cases hp; exact .nil
  | cons n t h ih =>
    cases hp with
    | cons hF hr =>
      obtain ⟨n', t', u, e, rfl⟩ := hF
      cases e
      exact .cons _ u (ih hr)
noncomputable def LenOf (head : Int) (v y : Value) : Prop := ∃ x t u, v = .str x t ∧ y = .int (head + x.length) u
theorem paired_len {head : Int} {vs ys : List Value} {ss : List Str} (hi : StrsAre vs ss) (hp : Paired (LenOf head) vs ys) : IntsAre ys (ss.map fun x => head + x.length) := by
  induction hi generalizing ys with
  | nil => cases hp; exact .nil
  | cons n t h ih =>
    cases hp with
    | cons hF hr =>
      obtain ⟨n', t', u, e, rfl⟩ := hF
      cases e
      exact .cons _ u (ih hr)
noncomputable def UpOf (p : Nat) (v y : Value) : Prop := ∃ x t u, v = .str x t ∧ y = .str (upText p x) u
theorem paired_up {p : Nat} {vs ys : List Value} {ss : List Str} (hi : StrsAre vs ss) (hp : Paired (UpOf p) vs ys) : StrsAre ys (ss.map (upText p)) := by
  induction hi generalizing ys with
  | nil => cases hp; exact .nil
  | cons n t h ih =>
    cases hp with
    | cons hF hr =>
      obtain ⟨n', t', u, e, rfl⟩ := hF
      cases e
      exact .cons _ u (ih hr)
noncomputable def HitOf (p : Nat) (v y : Value) : Prop := ∃ d t u, v = .int d t ∧ y = .int (if 0 < d ∧ d ≤ (p : Int) then 1 else 0) u
theorem paired_hit {p : Nat} {vs ys : List Value} {ds : List Int} (hi : IntsAre vs ds) (hp : Paired (HitOf p) vs ys) : IntsAre ys (ds.map fun d : Int => if 0 < d ∧ d ≤ (p : Int) then (1 : Int) else 0) := by
  induction hi generalizing ys with
  | nil => cases hp; exact .nil
  | cons n t h ih =>
    cases hp with
    | cons hF hr =>
      obtain ⟨n', t', u, e, rfl⟩ := hF
      cases e
      exact .cons _ u (ih hr)
theorem pick_neg (xs : List Value) (p : Nat) (hp : 1 ≤ p) : (slicePick xs.toArray (some (-(p : Int))) none none).toList = xs.drop (xs.length - p) := by
  have h1 : kms_lo (some (-(p : Int))) xs.length = xs.length - p := by
    unfold kms_lo
    simp only [show (-(p : Int)) < 0 by lia, if_true]
    congr 1
    lia
  have h2 : kms_hi none xs.length = xs.length := rfl
  rw [kms_pick_eq]
  show (kms_pick xs (some (-(p : Int))) none) = _
  unfold kms_pick
  rw [h1, h2]
  exact List.take_of_length_le (by simp)
theorem Bs.hide (B : Bs w h) {I : Addr} (h3 : 203 ≤ I) : Bs w (h.hide I) := B.low2 fun b _ hb _ e => by
  rw [Heap.hide_ne _ (by rintro rfl; exact absurd hb (Nat.not_lt.mpr h3))]; exact e
theorem sum_mod : ∀ ns : List Int, 0 ≤ (ns.map (· % 1000000)).sum ∧ (ns.map (· % 1000000)).sum ≤ (ns.length : Int) * 1000000
  | [] => by simp
  | n :: r => by
    have := sum_mod r
    have h1 : 0 ≤ n % 1000000 := Int.emod_nonneg _ (by decide)
    have h2 : n % 1000000 < 1000000 := Int.emod_lt_of_pos _ (by decide)
    rw [List.map_cons, List.sum_cons, List.length_cons]
    push_cast
    lia
theorem ts_of (T : Tq h) : Ts h none none := ⟨⟨CodeHd.of T.t128.1 T.t128.2, T.t128.2.2⟩, ⟨CodeHd.of T.t121.1 T.t121.2, T.t121.2.2⟩, T.bi, fun b hb => by
  rcases hb with rfl | rfl
  · obtain ⟨ps, _, h⟩ := T.t63; exact ⟨ps, h.2⟩
  · obtain ⟨ps, _, h⟩ := T.t70; exact ⟨ps, h.2⟩⟩
noncomputable def pIn (asks : Str) : Value → Bool
  | .str y _ => !(Builtin.Str.occurrences asks y 0 asks.length 1).isEmpty
  | _ => true
theorem pIn_sg {asks : Str} {q : Nat → Nat} (P : Pg asks q) (p : Nat) (u : Tok) : pIn asks (.str ⟨#[97 + p]⟩ u) = isIn q p := by
  show (!(Builtin.Str.occurrences asks ⟨#[97 + p]⟩ 0 asks.length 1).isEmpty) = _
  rw [StrLaws.found_one]
  unfold isIn
  have hs : asks.cps.size = 9 := P.size
  rw [Bool.eq_iff_iff, decide_eq_true_iff, List.any_eq_true]
  constructor
  · intro hm
    obtain ⟨i, hi, e⟩ := List.getElem_of_mem hm
    have hi9 : i < 9 := by simpa [hs] using hi
    have e2 := P.at' i hi9
    have e3 : asks.cps[i]? = some (97 + p) := by
      have : asks.cps.toList[i]? = some (97 + p) := by rw [List.getElem?_eq_getElem hi, e]
      simpa using this
    rw [e3] at e2
    exact ⟨i, List.mem_range.mpr hi9, by simp at e2; simp; lia⟩
  · rintro ⟨i, hi, e⟩
    have hi9 := List.mem_range.mp hi
    have e2 := P.at' i hi9
    have e : q i = p := by simpa using e
    rw [e] at e2
    have : asks.cps.toList[i]? = some (97 + p) := by simpa using e2
    exact List.mem_of_getElem? this
theorem cnt_in {asks : Str} {q : Nat → Nat} (P : Pg asks q) {vs : List Value} (hl : vs.length = 4) (hv : ∀ (j : Nat) (v : Value), vs[j]? = some v → ∃ c u, (Str.ofString "abcd").cps[j]? = some c ∧ v = .str ⟨#[c]⟩ u) :
    (vs.filter (pIn asks)).length = ([0, 1, 2, 3].filter (isIn q)).length := by
  have hj : ∀ j, j < 4 → ∃ u, vs[j]? = some (.str ⟨#[97 + j]⟩ u) := fun j h => by
    obtain ⟨c, u, e1, e2⟩ := hv j _ (List.getElem?_eq_getElem (by lia))
    rw [abcd_sign h] at e1; cases e1
    exact ⟨u, by rw [List.getElem?_eq_getElem (by lia), e2]⟩
  obtain ⟨u0, e0⟩ := hj 0 (by decide)
  obtain ⟨u1, e1⟩ := hj 1 (by decide)
  obtain ⟨u2, e2⟩ := hj 2 (by decide)
  obtain ⟨u3, e3⟩ := hj 3 (by decide)
  have hvs : vs = [.str ⟨#[97 + 0]⟩ u0, .str ⟨#[97 + 1]⟩ u1, .str ⟨#[97 + 2]⟩ u2, .str ⟨#[97 + 3]⟩ u3] := List.ext_getElem? fun j => by
    rcases Nat.lt_or_ge j 4 with h | h
    · rcases lt4 h with rfl | rfl | rfl | rfl
      · exact e0
      · exact e1
      · exact e2
      · exact e3
    · rw [List.getElem?_eq_none (by lia), List.getElem?_eq_none (show 4 ≤ j from h)]
  rw [hvs]
  have h0 := pIn_sg P 0 u0
  have h1 := pIn_sg P 1 u1
  have h2 := pIn_sg P 2 u2
  have h3 := pIn_sg P 3 u3
  rw [List.filter_cons, List.filter_cons, List.filter_cons, List.filter_cons, List.filter_nil, h0, h1, h2, h3, List.filter_cons, List.filter_cons, List.filter_cons, List.filter_cons, List.filter_nil]
  cases isIn q 0 <;> cases isIn q 1 <;> cases isIn q 2 <;> cases isIn q 3 <;> rfl
theorem paired_length {F : Value → Value → Prop} : ∀ {vs ys : List Value}, Paired F vs ys → ys.length = vs.length
  | _, _, .nil => rfl
  | _, _, .cons _ r => by rw [List.length_cons, List.length_cons, paired_length r]
theorem intL_congr {f g : Nat → Int} {n : Nat} {vs : List Value} (h : IntL f n vs) (e : ∀ i, i < n → f i = g i) : IntL g n vs := ⟨h.1, fun i hi => by rw [← e i hi]; exact h.2 i hi⟩
theorem same_list {vs vs' : List Value} {P : Nat → Nat → Value → Prop} (hP : ∀ j tk v, P j tk v → vs'[j]? = some v) (hl : vs.length = vs'.length) (hv : ∀ (j : Nat) (v : Value), vs[j]? = some v → ∃ tk, P j tk v) : vs = vs' := by
  refine List.ext_getElem? fun i => ?_
  by_cases hi : i < vs.length
  · obtain ⟨_, hq⟩ := hv i _ (List.getElem?_eq_getElem hi)
    rw [List.getElem?_eq_getElem hi]; exact (hP _ _ _ hq).symm
  · rw [List.getElem?_eq_none (Nat.le_of_not_lt hi), List.getElem?_eq_none (by lia)]
theorem strs_drop {vs : List Value} {ss : List Str} (h : StrsAre vs ss) (n : Nat) : StrsAre (vs.drop n) (ss.drop n) := by
  induction h generalizing n with
  | nil => simpa using StrsAre.nil
  | cons x t h ih =>
    cases n with
    | zero => exact .cons x t h
    | succ n => simpa using ih n
theorem nodup4 {ks : List Str} (h1 : ks.Nodup) (h2 : ∀ k ∈ ks, ∃ p, p < 4 ∧ k = sg p) : ks.length ≤ 4 := by
  obtain ⟨qs, rfl, hq⟩ : ∃ qs : List Nat, ks = qs.map sg ∧ ∀ q ∈ qs, q < 4 := by
    clear h1
    induction ks with
    | nil => exact ⟨[], rfl, by simp⟩
    | cons k r ih =>
      obtain ⟨p, hp, rfl⟩ := h2 k List.mem_cons_self
      obtain ⟨qs, rfl, hq⟩ := ih fun k hk => h2 k (List.mem_cons_of_mem _ hk)
      refine ⟨p :: qs, rfl, fun q hm => ?_⟩
      rcases List.mem_cons.mp hm with e | hm
      · rw [e]; exact hp
      · exact hq q hm
  have hn : qs.Nodup := (List.pairwise_map.mp h1).imp fun h e => h (congrArg sg e)
  rw [List.length_map]
  have := List.Nodup.length_le_of_subset hn (l₂ := [0, 1, 2, 3]) fun q hm => by have := hq q hm; simp; lia
  simpa using this
structure PureLaw (q hf : Nat → Nat) (head : Int) : Prop where
  hours : ∀ i, i < 9 → hoursOf q i = (hf i : Int)
  bd : ∀ i, 1 ≤ hf i ∧ hf i ≤ 12
  len : (pileRun q hf head 9).depths.length = 9
  best : ∀ p : Nat, 1 ≤ p → p ≤ 3 → (bestRun q p 9).told = (pileRun q hf head 9).depths.map fun d : Int => if 0 < d ∧ d ≤ (p : Int) then (1 : Int) else 0
  rows : ∀ p : Nat, 1 ≤ p → p ≤ 3 → (rowRun q p 9).told = (bestRun q p 9).told
  held : ∀ p : Nat, 1 ≤ p → p ≤ 3 → (heldRun q (hoursOf q) p 9).told = (pileRun q hf head 9).shown.map (upText p)
  good : ∀ line ∈ (pileRun q hf head 9).shown, (Txt.words line).Nodup ∧ (∀ k ∈ Txt.words line, ∃ p, p < 4 ∧ k = sg p) ∧ line.length ≤ 1000
  sizes : (pileRun q hf head 9).sizes = (pileRun q hf head 9).shown.map fun line => head + line.length
  again : ∀ wd, 4 ≤ wd → wd ≤ 63 → ((numD (pileRun q hf head 9).depths wd % (2 ^ wd - 1) : Nat) : Int) = 9 - (([0, 1, 2, 3].filter (isIn q)).length : Int)
  due : ∀ wd, 4 ≤ wd → wd ≤ 63 → digs (numD (pileRun q hf head 9).depths wd / (2 ^ wd - 1)) wd ((Builtin.Int.intBits ((numD (pileRun q hf head 9).depths wd / (2 ^ wd - 1) : Nat) : Int) + wd - 1) / wd) =
    stripZ [(bestRun q 3 9).told.sum, (bestRun q 2 9).told.sum, (bestRun q 1 9).told.sum]

inductive LawJ (sl hl2 : Addr) (total : Int) (tt : Tok) (dl shl zl l lp : Addr) (a0 a1 a2 : Tok) (vh : List Value) (ca ch cp : Addr) (asks : Str) (ta : Tok) (head : Int) (t : Tok) (q : Nat → Nat) (i : Nat) (m' : List (Str × Value)) (own' : List (Addr × Sh)) : Prop
  | mk (cv : Option Value) (vsF : List Value) (hm : m' = ([("script", .ref sl), ("hours", .ref hl2), ("total", .int total tt), ("depths", .ref dl), ("shown", .ref shl), ("sizes", .ref zl), ("found", .ref l)] : List (Str × Value)))
      (ho : own' = [(lp, Sh.list [.int 1 a0, .int 2 a1, .int 3 a2]), (l, Sh.list vsF), (hl2, Sh.list vh), (ca, Sh.cell (some (.str asks ta))), (ch, Sh.cell (some (.int head t))), (cp, Sh.cell cv)])
      (hF : IntsAre vsF ((List.range i).map fun j => (bestRun q ((j + 1 : Nat) : Int) 9).told.sum)) : LawJ sl hl2 total tt dl shl zl l lp a0 a1 a2 vh ca ch cp asks ta head t q i m' own'
noncomputable abbrev lawM (sl hl2 : Addr) (total : Int) (tt : Tok) (dl shl zl l du : Addr) : List (Str × Value) := [("script", .ref sl), ("hours", .ref hl2), ("total", .int total tt), ("depths", .ref dl), ("shown", .ref shl), ("sizes", .ref zl), ("found", .ref l), ("due", .ref du)]
noncomputable abbrev lawO (du : Addr) (vsD : List Value) (ca cp : Addr) (asks : Str) (ta : Tok) (cv : Option Value) : List (Addr × Sh) := [(du, Sh.list vsD), (ca, Sh.cell (some (.str asks ta))), (cp, Sh.cell cv)]
inductive LawQ (prog : Program) (w : World) (g : Heap) (L : Addr) (z3 : Shared) (sl hl2 : Addr) (total : Int) (tt : Tok) (dl shl zl l du ca cp : Addr) (asks : Str) (ta : Tok) (cv : Option Value) (bs : List Int) (fl : Flow) (z : Shared) : Prop
  | mk (hf : fl = .next) (vsD : List Value) (h : IntsAre vsD bs) (C : Cx true prog w g L (lawM sl hl2 total tt dl shl zl l du) (lawO du vsD ca cp asks ta cv) z3 z) : LawQ prog w g L z3 sl hl2 total tt dl shl zl l du ca cp asks ta cv bs fl z
inductive LawW (prog : Program) (w : World) (g : Heap) (L : Addr) (z3 : Shared) (sl hl2 : Addr) (total : Int) (tt : Tok) (dl shl zl l du ca cp : Addr) (asks : Str) (ta : Tok) (cv : Option Value) (bs : List Int) (k : Nat) (z : Shared) : Prop
  | mk (vsD : List Value) (nsD : List Int) (C : Cx true prog w g L (lawM sl hl2 total tt dl shl zl l du) (lawO du vsD ca cp asks ta cv) z3 z) (h1 : IntsAre vsD nsD) (h2 : vsD.length ≤ k) (h3 : k ≤ 3) (h4 : stripZ nsD = stripZ bs) : LawW prog w g L z3 sl hl2 total tt dl shl zl l du ca cp asks ta cv bs k z

set_option maxHeartbeats 0 in
theorem law_spec {sl : Addr} {vs : List Value} {ns : List Int} {Q : Value → Shared → Prop} (PR : Pr prog) (B : Bs w s.heap) (T : Tq s.heap) (hd : A.depth + 130 < recursionLimit) (hh : A.handled = none) (hu : A.units + 200 < cLine)
    (hl : s.heap.IsList sl vs.toArray) (hi : IntsAre vs ns) (hlen : vs.length ≤ sizeLine) (PL : ∀ q, (∀ i, q i < 4) → ∃ hf, ∀ head, PureLaw q hf head)
    (hret : ∀ s', Gr false s s' → Tabs s'.heap → Q (.bool true) s') :
    wpAny (model prog w) A (call (.ref 202) [.ref sl]) Q E s := by
  refine enterC (σ := true) (binds := [("script", .ref sl)]) B (by lia) rfl rfl rfl (fun n => [("places", n + 3), ("head", n + 2), ("asks", n + 1)]) ?_ [("script", .ref sl)] (fun n => [(n + 1, .cell none), (n + 2, .cell none), (n + 3, .cell none)]) ?_ ?_ ?_ ?_ ?_ rfl rfl rfl ?_
  · intro n; with_unfolding_all rfl
  · intro n x hx
    rw [List.mem_singleton] at hx; subst hx; exact .inl rfl
  · intro p hx
    rw [List.mem_singleton] at hx; subst hx; rfl
  · simp
  · intro n p hx
    rcases List.mem_cons.mp hx with rfl | hx
    · exact ⟨"asks", _, rfl, rfl⟩
    · rcases List.mem_cons.mp hx with rfl | hx
      · exact ⟨"head", _, rfl, rfl⟩
      · rw [List.mem_singleton] at hx; subst hx; exact ⟨"places", _, rfl, rfl⟩
  · intro n
    simp
  generalize s.heap.objs.size = L
  generalize hca : L + 1 = ca
  generalize hch : L + 2 = ch
  generalize hcp : L + 3 = cp
  intro z C
  try dsimp only at C ⊢
  have J : Jy w s s.heap s := .start B T.bi
  repeat wtm_at "w"
  with_reducible refine wpAny_Call_NameR (gl (by assumption) (by assumption) gn_161 ?_)
  with_reducible refine g1 (by assumption) kp_161 ?_
  repeat wtm_at "w"
  refine ⟨C.bs B, ?_⟩
  refine asked_spec (C.bs B) (by simp only [deeper_depth]; lia) (by wtm_at "hh") (oldIs C hl (.inl rfl)) hi hlen ?_
  intro asks ta q z1 G P
  have C := C.grown G
  obtain ⟨hf, PU⟩ := PL q P.lt
  repeat wtm_at "w"
  with_reducible refine wpAny_Call_NameR (gl (by assumption) (by assumption) gn_168 ?_)
  with_reducible refine g1 (by assumption) kp_168 ?_
  repeat wtm_at "w"
  refine ⟨C.bs B, ?_⟩
  refine hours_spec P (C.bs B) (by simp only [deeper_depth]; lia) (by wtm_at "hh") ?_
  intro hl2 vh z2 G h1 h2 h3 h4
  have C := C.add G h1 h3 h4
  repeat wtm_at "w"
  with_reducible refine lcomp (σ := true) (g := s.heap) (L := L) (s₀ := s) (cl := []) (fun _ => true) ModOf ?_ ?_ ?_ ?_ ?_ ?_
  · with_unfolding_all rfl
  · with_unfolding_all decide
  · with_unfolding_all rfl
  · with_unfolding_all decide
  · with_unfolding_all rfl
  repeat wtm_at "w"
  with_reducible refine subIs_U C (oldIs C hl (.inl rfl)) (by wtm_at "is") ?_ ?_
  · rw [List.size_toArray]; exact hlen
  clear C; intro r z C
  have hpi := IntsAre.pick hi none (some 63) none
  have hp63 : (slicePick vs.toArray none (some 63) none).toList.length ≤ 63 := by
    rw [kms_pick_eq]
    show (kms_pick vs none (some 63)).length ≤ 63
    simp only [kms_pick, List.length_take]
    have : kms_hi (some 63) vs.length ≤ 63 := by simp [kms_hi]; lia
    lia
  generalize hpv : (slicePick vs.toArray none (some 63) none).toList = pv at C hpi hp63
  generalize pickNums ns none (some 63) none = pn at hpi
  with_reducible refine itList C (by wtm_at "is") ?_
  clear C; intro I z hne C
  refine ⟨_, 0, I, _, _, _, _, _, rfl, Nat.zero_le _, Src.list (vs := pv) (by wtm_at "hh") hne, fun _ _ _ _ _ q => q, by lia, fun z hz => (Sh.isL (C.is (sh := .list pv) (by wtm_at "mm"))).at fun o e => hz r o hne e, C, ?_, ?_, ?_⟩
  · intro c i v z D ys hv C
    exact tests0 ⟨rfl, _, List.Sublist.refl _, C⟩
  · intro c i v z D ys hv _ C
    obtain ⟨n, tn, rfl, _⟩ := IntsAre.at hpi i v hv
    repeat wtm_at "w"
    exact ⟨⟨n, _, _, rfl, rfl⟩, _, List.Sublist.refl _, C⟩
  · clear C
    intro D ys vs' z C hl' hv hp
    have e := (same_list (fun _ _ _ q => q) hl' hv).symm
    subst e
    rw [List.filter_eq_self.mpr (by simp)] at hp
    have hys := paired_mod hpi hp
    refine cSum C (by wtm_at "hh") (by wtm_at "is") hys ?_
    clear C
    intro tt z C
    generalize hto : (pn.map (· % 1000000)).sum = total at C ⊢
    have htot : 0 ≤ total ∧ total ≤ 63 * 1000000 := by
      have h1 := sum_mod pn
      have h2 := IntsAre.length hpi
      lia
    repeat wtm_at "w"
    have C := C.drop (own' := [(hl2, Sh.list vh), (ca, Sh.cell (some (.str asks ta))), (ch, Sh.cell (some (.int (total % 3) _))), (cp, Sh.cell none)]) (by wtm_at "ms")
    have hhead : total % 3 = 0 ∨ total % 3 = 1 ∨ total % 3 = 2 := by lia
    generalize hhd : total % 3 = head at C hhead
    have PU := PU head
    refine Assign_Tuple ?_ (by with_unfolding_all rfl) (by with_unfolding_all rfl)
    with_reducible refine wpAny_Call_NameR (gl (by assumption) (by assumption) gn_175 ?_)
    with_reducible refine g3 (by assumption) kp_175 ?_
    repeat wtm_at "w"
    refine ⟨C.bs B, ?_⟩
    refine piled_spec (hf := hf) PR P (C.bs B) (C.tq T) (by simp only [deeper_depth]; lia) (by wtm_at "hh") (by show A.units + 3 + 100 < cLine; lia) hhead (C.is (by wtm_at "mm")) h4 (intL_congr h2 PU.hours) PU.bd ?_
    intro pt dl shl zl vD vS vZ z3 G3 T3 k1 k2 k3 k4 hD hS hZ hfr
    obtain ⟨g1', J1, C1, y1, y3, y4⟩ := J.jumpA C G3 (List.Sublist.refl _)
    have T1 : Tq g1' := T3.at y4
    have kd : Sh.Is prog w g1' dl (.list vD) := k2.at fun o e => y3 _ _ (hfr dl (by simp)).1 e
    have ks : Sh.Is prog w g1' shl (.list vS) := k3.at fun o e => y3 _ _ (hfr shl (by simp)).1 e
    have kz : Sh.Is prog w g1' zl (.list vZ) := k4.at fun o e => y3 _ _ (hfr zl (by simp)).1 e
    have dl3 := (hfr dl (by simp)).2
    clear y1 y3 y4 G3 T3 C
    have C := C1
    clear C1
    have BJ := J1.bs
    refine wpAny_assign_Tuple (by wtm_at "hh") (Sh.isT k1) (by with_unfolding_all rfl) (by with_unfolding_all rfl) fun h3 hx3 => ?_
    have C := C.grown (s' := { z3 with heap := h3 }) ⟨fun b o _ q => hx3 b o (Nat.ne_of_lt (Heap.lt_size q)) q, rfl, rfl, gens_refl, Nat.le_refl _⟩
    refine assignInOrder_cons (wpAny_assign_Name ?_)
    repeat wtm_at "w"
    refine asg2 ?_
    repeat wtm_at "w"
    with_reducible refine lcomp (σ := true) (g := g1') (L := L) (s₀ := z3) (cl := [("head", ch)]) (fun _ => true) (LenOf head) ?_ ?_ ?_ ?_ ?_ ?_
    · with_unfolding_all rfl
    · with_unfolding_all decide
    · with_unfolding_all rfl
    · with_unfolding_all decide
    · with_unfolding_all rfl
    repeat wtm_at "w"
    with_reducible refine itList C (by wtm_at "is") ?_
    clear C; intro I z hne C
    have hf1 := C.hid (a := ch) (by wtm_at "mm")
    have hf2 := (C.bs BJ).hide (C.fresh List.mem_cons_self).2
    have hgood : ∀ i v, vS[i]? = some v → ∃ x t, v = Value.str x t ∧ x ∈ (pileRun q hf head 9).shown := fun i v e => by
      obtain ⟨x, t, e1, e2⟩ := StrsAre.item hS i v e
      exact ⟨x, t, e1, List.mem_of_getElem? e2⟩
    have hSl : vS.length ≤ 1000 := by
      have h1 := StrsAre.length hS
      have h2 := (pileRun_ok head PU.bd P.lt 9).s
      lia
    refine ⟨_, 0, I, _, _, _, _, _, rfl, Nat.zero_le _, Src.list (vs := vS) (by wtm_at "hh") hne, fun _ _ _ _ _ q => q, hSl, fun z hz => (Sh.isL (C.old ks (.inl rfl))).at fun o e => hz shl o hne e, C, ?_, ?_, ?_⟩
    · intro c i v z D ys hv C
      exact tests0 ⟨rfl, _, List.Sublist.refl _, C⟩
    · intro c i v z D ys hv _ C
      obtain ⟨x, tx, rfl, hm⟩ := hgood i v hv
      have hx := (PU.good x hm).2.2
      repeat wtm_at "w"
      refine PySem.P.len_str (x := x) (by lia) ?_
      have C := C.tokens (tk := z.toks + 1 + 1) (by lia)
      repeat wtm_at "w"
      exact ⟨⟨x, _, _, rfl, rfl⟩, _, List.Sublist.refl _, C⟩
    · clear C hf1 hf2
      intro D ys vs' z C hl' hv hp
      have e := (same_list (fun _ _ _ q => q) hl' hv).symm
      subst e
      rw [List.filter_eq_self.mpr (by simp)] at hp
      have hys := paired_len hS hp
      rw [← PU.sizes] at hys
      refine neInts (by show A.units + 3 < cLine; lia) (C.old kz (.inl rfl)) (by wtm_at "is") hZ hys ?_
      repeat wtm_at "w"
      with_reducible refine eList (sm (cInt C fun a0 z C => sm (cInt C fun a1 z C => sm (cInt C fun a2 z C => spliced_none ⟨_, _, C, by with_unfolding_all rfl, fun lp z C => ?_⟩))))
      with_reducible refine itList C (by wtm_at "is") ?_
      clear C; intro I2 z hne2 C
      have C := C.drop (own' := [(I2, liSh lp 0), (lp, Sh.list [.int 1 a0, .int 2 a1, .int 3 a2]), (l, Sh.list []), (hl2, Sh.list vh), (ca, Sh.cell (some (.str asks ta))), (ch, Sh.cell (some (.int head t))), (cp, Sh.cell none)]) (by wtm_at "ms")
      with_reducible (refine loop_src (Src.list (T := 0) (vs := [.int 1 a0, .int 2 a1, .int 3 a2]) (by wtm_at "hh") hne2) (Nat.zero_le _) (fun i => LawJ sl hl2 total tt dl shl zl l lp a0 a1 a2 vh ca ch cp asks ta head t q i) ?_ C ?_ ?_ ?_)
      · rintro i m own z ⟨cv, vsF, rfl, rfl, _⟩ C
        exact Sh.isL (C.is (by wtm_at "mm"))
      · exact ⟨_, _, rfl, rfl, .nil⟩
      · clear C
        rintro i v m own z hi3 hv ⟨cv, vsF, rfl, rfl, hF⟩ C
        wtm_at "cps"
        obtain ⟨ap, rfl⟩ : ∃ ap, v = .int ((i + 1 : Nat) : Int) ap := by
          have : i = 0 ∨ i = 1 ∨ i = 2 := by simp at hi3; lia
          rcases this with rfl | rfl | rfl <;> (cases hv; exact ⟨_, rfl⟩)
        have hp3 : (1 : Int) ≤ ((i + 1 : Nat) : Int) ∧ ((i + 1 : Nat) : Int) ≤ 3 := by simp at hi3; lia
        have hp3n : 1 ≤ i + 1 ∧ i + 1 ≤ 3 := by simp at hi3; lia
        have eP1 := PU.best _ hp3n.1 hp3n.2
        have eP2 := PU.rows _ hp3n.1 hp3n.2
        have eP3 := PU.held _ hp3n.1 hp3n.2
        generalize hpp : i + 1 = p at eP1 eP2 eP3 hp3 hp3n C
        with_reducible refine goName (wpAny_assign_Name ?_)
        repeat wtm_at "w"
        with_reducible refine wpAny_Call_NameR (gl (by assumption) (by assumption) gn_180 ?_)
        with_reducible refine g2 (by assumption) kp_180 ?_
        repeat wtm_at "w"
        refine ⟨C.bs BJ, ?_⟩
        refine best_spec P (C.bs BJ) (by simp only [deeper_depth]; lia) (by wtm_at "hh") hp3 ?_
        intro bsl vb z4 G b1 b2 b3 b4
        have C := C.add G b1 b3 b4
        rw [eP1] at b2
        repeat wtm_at "w"
        with_reducible refine lcomp (σ := true) (g := g1') (L := L) (s₀ := z3) (cl := [("places", cp)]) (fun _ => true) (HitOf p) ?_ ?_ ?_ ?_ ?_ ?_
        · with_unfolding_all rfl
        · with_unfolding_all decide
        · with_unfolding_all rfl
        · with_unfolding_all decide
        · with_unfolding_all rfl
        repeat wtm_at "w"
        with_reducible refine itList C (by wtm_at "is") ?_
        clear C; intro I3 z hne3 C
        have hc1 := C.hid (a := cp) (by wtm_at "mm")
        have hc2 := (C.bs BJ).hide (C.fresh List.mem_cons_self).2
        have hDl : vD.length ≤ 1000 := by have h1 := IntsAre.length hD; have h2 := PU.len; lia
        refine ⟨_, 0, I3, _, _, _, _, _, rfl, Nat.zero_le _, Src.list (vs := vD) (by wtm_at "hh") hne3, fun _ _ _ _ _ q => q, hDl, fun z hz => (Sh.isL (C.old kd (.inl rfl))).at fun o e => hz dl o hne3 e, C, ?_, ?_, ?_⟩
        · intro c i v z D ys hv C
          exact tests0 ⟨rfl, _, List.Sublist.refl _, C⟩
        · intro c i v z D ys hv _ C
          obtain ⟨d, td, rfl, _⟩ := IntsAre.at hD i v hv
          with_reducible refine eIf (tCmp2 ?_)
          repeat wtm_at "w"
          refine ⟨fun hb => ?_, fun hb => ?_⟩
          · have hb : 0 < d := by first | exact of_decide_eq_true hb | simpa using hb
            repeat wtm_at "w"
            refine ⟨fun hc => ?_, fun hc => ?_⟩
            · have hc : d ≤ (p : Int) := by first | exact of_decide_eq_true hc | simpa using hc
              repeat wtm_at "w"
              exact ⟨⟨d, _, _, rfl, by rw [if_pos ⟨hb, hc⟩]⟩, _, List.Sublist.refl _, C⟩
            · have hc : ¬ d ≤ (p : Int) := by first | exact of_decide_eq_false hc | simpa using hc
              repeat wtm_at "w"
              exact ⟨⟨d, _, _, rfl, by rw [if_neg fun q => hc q.2]⟩, _, List.Sublist.refl _, C⟩
          · have hb : ¬ 0 < d := by first | exact of_decide_eq_false hb | simpa using hb
            repeat wtm_at "w"
            exact ⟨⟨d, _, _, rfl, by rw [if_neg fun q => hb q.1]⟩, _, List.Sublist.refl _, C⟩
        · clear C hc1 hc2
          intro D2 ys2 vs' z C hl' hv hpr
          have e := (same_list (fun _ _ _ q => q) hl' hv).symm
          subst e
          rw [List.filter_eq_self.mpr (by simp)] at hpr
          have hys2 := paired_hit hD hpr
          refine neInts (by show A.units + 3 < cLine; lia) (C.is (by wtm_at "mm")) (by wtm_at "is") b2 hys2 ?_
          repeat wtm_at "w"
          with_reducible refine wpAny_Call_NameR (gl BJ (by assumption) gn_187 ?_)
          with_reducible refine g2 BJ kp_187 ?_
          repeat wtm_at "w"
          refine ⟨C.bs BJ, ?_⟩
          refine rows_spec P (C.bs BJ) (by simp only [deeper_depth]; lia) (by wtm_at "hh") hp3 ?_
          intro rl vr z5 G r1 r2 r3 r4
          have C := C.add G r1 r3 r4
          rw [eP2, eP1] at r2
          refine neInts (by show A.units + 3 < cLine; lia) (C.is (by wtm_at "mm")) (C.is (by wtm_at "mm")) b2 r2 ?_
          repeat wtm_at "w"
          with_reducible refine lcompA (σ := true) (g := g1') (L := L) (s₀ := z3) (cl := [("places", cp)]) (fun _ => true) (UpOf p) ?_ ?_ ?_ ?_ ?_ ?_ ?_
          · with_unfolding_all rfl
          · with_unfolding_all rfl
          · with_unfolding_all decide
          · with_unfolding_all rfl
          · with_unfolding_all decide
          · with_unfolding_all rfl
          repeat wtm_at "w"
          with_reducible refine itList C (by wtm_at "is") ?_
          clear C; intro I4 z hne4 C
          have hc1 := C.hid (a := cp) (by wtm_at "mm")
          have hc2 := (C.bs BJ).hide (C.fresh List.mem_cons_self).2
          refine ⟨_, 0, I4, _, _, _, _, _, rfl, Nat.zero_le _, Src.list (vs := vS) (by wtm_at "hh") hne4, fun _ _ _ _ _ q => q, hSl, fun z hz => (Sh.isL (C.old ks (.inl rfl))).at fun o e => hz shl o hne4 e, C, ?_, ?_, ?_⟩
          · intro c i v z D ys hv C
            exact tests0 ⟨rfl, _, List.Sublist.refl _, C⟩
          · intro c i v z D ys hv _ C
            obtain ⟨x, tx, rfl, hm⟩ := hgood i v hv
            obtain ⟨hx1, hx2, hx⟩ := PU.good x hm
            repeat wtm_at "w"
            refine cSplit C (by lia) ?_
            clear C; intro W vW z C hW
            repeat wtm_at "w"
            have hWl : vW.length ≤ 1000 := by
              have h1 := StrsAre.length hW
              have h2 := nodup4 hx1 hx2
              lia
            refine subListT C (by wtm_at "is") (by wtm_at "is") (by lia) ?_
            clear C; intro r3 z C
            rw [pick_neg _ _ hp3n.1] at C
            have hW2 := strs_drop hW (vW.length - p)
            have hW3 : (vW.drop (vW.length - p)).length < 64 := by rw [List.length_drop]; lia
            repeat wtm_at "w"
            refine cSortedS C (by wtm_at "is") hW2 hW3 ?_
            clear C; intro r4 z vT sT hT1 hT2 hT3 C
            rw [StrsAre.length hW] at hT2
            have hcan := canonS hT2 (List.Sublist.nodup (List.drop_sublist _ _) hx1) (fun k hk => hx2 k (List.mem_of_mem_drop hk)) hT3
            repeat wtm_at "w"
            refine cJoin C (by wtm_at "is") hT1 ?_ ?_
            · rw [hcan]
              have := srt_length fun p_1 => decide (sg p_1 ∈ List.drop ((Txt.words x).length - p) (Txt.words x))
              have e : (((srt fun p_1 => decide (sg p_1 ∈ List.drop ((Txt.words x).length - p) (Txt.words x))).map sg).map (·.length)).sum = (srt fun p_1 => decide (sg p_1 ∈ List.drop ((Txt.words x).length - p) (Txt.words x))).length := by
                generalize (srt fun p_1 => decide (sg p_1 ∈ List.drop ((Txt.words x).length - p) (Txt.words x))) = qs
                induction qs with
                | nil => rfl
                | cons a r ih => rw [List.map_cons, List.map_cons, List.sum_cons, ih, List.length_cons]; show 1 + _ = _; lia
              rw [e, show (Str.ofString "").length = 0 from rfl]
              lia
            clear C; intro tu z C
            refine ⟨⟨x, _, _, rfl, by rw [hcan, join_sg]; rfl⟩, _, ?_, C⟩
            wtm_at "ms"
          · clear C hc1 hc2
            intro D3 ys3 vs' z c3 oc C hl' hv hpr
            have e := (same_list (fun _ _ _ q => q) hl' hv).symm
            subst e
            rw [List.filter_eq_self.mpr (by simp)] at hpr
            have hys3 := paired_up hS hpr
            repeat wtm_at "w"
            refine ⟨_, _, C, fun z C => ?_⟩
            repeat wtm_at "w"
            with_reducible refine wpAny_Call_NameR (gl BJ (by assumption) gn_192 ?_)
            with_reducible refine g3 BJ kp_192 ?_
            repeat wtm_at "w"
            refine ⟨C.bs BJ, ?_⟩
            refine held_spec P (C.bs BJ) (by simp only [deeper_depth]; lia) (by wtm_at "hh") (C.is (by wtm_at "mm")) h2 hp3 ?_
            intro el ve z6 G e1 e2 e3 e4
            have C := C.add G e1 e3 e4
            rw [eP3] at e2
            refine neStrs (by show A.units + 3 < cLine; lia) (C.is (by wtm_at "mm")) (C.is (by wtm_at "mm")) hys3 e2 ?_
            repeat wtm_at "w"
            refine cSum C (by wtm_at "hh") (by wtm_at "is") b2 ?_
            clear C; intro tb z C
            have hlF := IntsAre.length hF
            rw [List.length_map, List.length_range] at hlF
            repeat wtm_at "w"
            have C := C.forget (m' := ([("script", .ref sl), ("hours", .ref hl2), ("total", .int total tt), ("depths", .ref dl), ("shown", .ref shl), ("sizes", .ref zl), ("found", .ref l)] : List (Str × Value))) (by wtm_at "ms")
            have C := C.drop (own' := [(I2, liSh lp p), (lp, Sh.list [Value.int 1 a0, Value.int 2 a1, Value.int 3 a2]), (l, Sh.list _), (hl2, Sh.list vh), (ca, Sh.cell (some (Value.str asks ta))), (ch, Sh.cell (some (Value.int head t))), (cp, Sh.cell _)]) (by wtm_at "ms")
            subst hpp
            refine ⟨_, _, ⟨_, _, rfl, rfl, ?_⟩, C⟩
            rw [List.range_succ, List.map_append, List.map_singleton, eP1]
            exact ints_snoc hF _ tb
      · clear C
        rintro m own z ⟨cv, vsF, rfl, rfl, hF⟩ C
        have hF : IntsAre vsF [(bestRun q 1 9).told.sum, (bestRun q 2 9).told.sum, (bestRun q 3 9).told.sum] := hF
        have hlF := IntsAre.length hF
        repeat wtm_at "w"
        refine cRevList C (by wtm_at "is") ?_
        clear C; intro I5 z hne5 C
        repeat wtm_at "w"
        refine cListRev (by wtm_at "hh") C hne5 (by wtm_at "is") (by simp at hlF; lia) ?_
        clear C; intro du z C
        repeat wtm_at "w"
        have hD0 : IntsAre vsF.reverse [(bestRun q 3 9).told.sum, (bestRun q 2 9).told.sum, (bestRun q 1 9).told.sum] := IntsAre.reverse hF
        generalize hb3 : [(bestRun q 3 9).told.sum, (bestRun q 2 9).told.sum, (bestRun q 1 9).told.sum] = bs at hD0
        have hlD := IntsAre.length hD0
        have hbs : bs.length = 3 := by rw [← hb3]; rfl
        refine wpAny_mono (Q := LawQ prog w g1' L z3 sl hl2 total tt dl shl zl l du ca cp asks ta cv (stripZ bs)) ?_ (fun fl z q => ?_) (fun _ _ e => e)
        rotate_left
        · clear C
          obtain ⟨rfl, vsD, hsD, C⟩ := q
          dsimp only
          repeat wtm_at "w"
          with_reducible refine lcomp (σ := true) (g := g1') (L := L) (s₀ := z3) (cl := [("asks", ca)]) (pIn asks) (fun _ _ => True) ?_ ?_ ?_ ?_ ?_ ?_
          · with_unfolding_all rfl
          · with_unfolding_all decide
          · with_unfolding_all rfl
          · with_unfolding_all decide
          · with_unfolding_all rfl
          repeat wtm_at "w"
          rename_i t9 _ _ tabc _
          with_reducible refine itStr C (by decide +kernel) ?_
          clear C; intro I6 z C
          have hc1 := C.hid (a := ca) (by wtm_at "mm")
          refine ⟨_, 0, I6, _, _, _, _, _, rfl, Nat.zero_le _, Src.ascii (y := Str.ofString "abcd") (by wtm_at "hh"), ?_, by rw [show (Str.ofString "abcd").cps.size = 4 from rfl]; decide, fun _ _ => trivial, C, ?_, ?_, ?_⟩
          · rintro j tk tk' v hle ⟨c, u, h1, h2, h3, h4⟩; exact ⟨c, u, h1, h2, Nat.lt_of_lt_of_le h3 hle, h4⟩
          · rintro c j v z D ys ⟨cc, uc, hcc, rfl, hlt, h1t⟩ C
            refine tests1 ?_
            repeat wtm_at "w"
            exact ⟨rfl, _, List.Sublist.refl _, C⟩
          · rintro c j v z D ys ⟨cc, uc, hcc, rfl, hlt, h1t⟩ hpv C
            repeat wtm_at "w"
            exact ⟨trivial, _, List.Sublist.refl _, C⟩
          · clear C hc1
            intro D4 ys4 vs' z C hl' hv hpr
            have hcnt := cnt_in P hl' fun j v e => by
              obtain ⟨_, c, u, e1, e2, _⟩ := hv j v e
              exact ⟨c, u, e1, e2⟩
            rw [← paired_length hpr] at hcnt
            have hle4 : ys4.length ≤ 4 := by rw [hcnt]; exact List.length_filter_le _ _
            repeat wtm_at "w"
            have C := C.drop (own' := [(du, Sh.list vsD)]) (by wtm_at "ms")
            have hag : IntsAre [.int (9 - (ys4.length : Int)) tabc] [9 - (([0, 1, 2, 3].filter (isIn q)).length : Int)] := by rw [hcnt]; exact .cons _ _ .nil
            rw [hcnt] at C
            with_reducible refine wpAny_Call_NameR (gl BJ (by assumption) gn_197 ?_)
            with_reducible refine g2 BJ kp_197 ?_
            repeat wtm_at "w"
            refine ⟨C.bs BJ, ?_⟩
            obtain ⟨wd, hwd, hw1, hw2⟩ : ∃ wd : Nat, 4 + total / 3 % 60 = (wd : Int) ∧ 4 ≤ wd ∧ wd ≤ 63 := ⟨(4 + total / 3 % 60).toNat, by lia, by lia, by lia⟩
            rw [hwd]
            refine summed_spec (C.bs BJ) (ts_of (C.tq T1)) (by simp only [deeper_depth]; lia) (by wtm_at "hh") (C.old kd (.inl rfl)) dl3 hD (by rw [PU.len]; decide) ⟨hw1, hw2⟩ ?_
            intro r rl vr tr z7 G7 TB s1 s2 s3 s4 s5
            rw [PU.again wd hw1 hw2] at s1
            rw [PU.due wd hw1 hw2, hb3] at s3
            have hdu : rl ≠ du := fun e => by
              obtain ⟨o, ho⟩ := (C.is (a := du) (by wtm_at "mm")).has
              rw [← e, s5.1] at ho; cases ho
            obtain ⟨g2', J2, C2, y1, y3, y4⟩ := J1.jumpA C G7 (List.Sublist.refl _)
            have s1 := Sh.Is.at s1 fun o e => y3 _ _ s4.1 e
            have s2 := Sh.Is.at s2 fun o e => y3 _ _ s5.1 e
            have TB : Tabs g2' := fun b hb => let ⟨ps, e⟩ := TB b hb; ⟨ps, y4 _ _ (tab_lt hb) e⟩
            clear C
            have C := C2
            clear C2
            repeat wtm_at "w"
            with_reducible refine eTup2E (prog := prog) (w := w) (L := L) ?_
            repeat wtm_at "w"
            refine ⟨_, _, _, _, C, ?_⟩
            clear C; intro pr z C
            have s1 := C.old s1 (.inl rfl)
            have s2 := C.old s2 (.inl rfl)
            refine eqPair (by show A.units + 3 + 10 < cLine; lia) s1 (C.is (by wtm_at "mm")) hdu s2 (C.is (by wtm_at "mm")) s3 hsD ?_
            exact hret _ (J2.out C) fun b hb => let ⟨ps, e⟩ := TB b hb; ⟨ps, C.keep _ _ rfl e⟩
        with_reducible refine sWhile (LawW prog w g1' L z3 sl hl2 total tt dl shl zl l du ca cp asks ta cv bs) ?_ 3 ?_
        · clear C
          rintro k z ⟨vsD, nsD, C, hv1, hv2, hv3, hv4⟩
          with_reducible refine tAnd ?_
          repeat wtm_at "w"
          refine neNil (by show A.units + 3 < cLine; lia) (C.is (by wtm_at "mm")) (C.is (by wtm_at "mm")) ?_
          repeat wtm_at "w"
          refine ⟨fun hb => ?_, fun hb => ?_⟩
          · have hb : vsD ≠ [] := by first | exact of_decide_eq_true hb | simpa using hb
            obtain ⟨vs', ns', n, tn, rfl, rfl, hv'⟩ := ints_last hv1 hb
            have hlv : vs'.length ≤ 2 := by simp at hv2; lia
            with_reducible refine tAnd1 ?_
            repeat wtm_at "w"
            refine subNeg (v := .int n tn) (C.is (by wtm_at "mm")) (by decide) (by decide) (by simp; lia) ?_ ?_
            · have e : (-1 + ((vs' ++ [Value.int n tn]).length : Int)).toNat = vs'.length := by simp; lia
              rw [e]; simp
            repeat wtm_at "w"
            refine ⟨fun hb => ?_, fun hb => ?_⟩
            · have hb : n = 0 := by first | exact of_decide_eq_true hb | simpa using hb
              subst hb
              repeat wtm_at "w"
              refine cPop C (by wtm_at "mu") (by lia) ?_
              clear C; intro z C
              repeat wtm_at "w"
              refine ⟨vs'.length, by simp at hv2; lia, vs', ns', C.drop (by wtm_at "ms"), hv', Nat.le_refl _, by lia, ?_⟩
              rw [← hv4, stripZ_zero]
            · have hb : n ≠ 0 := by first | exact of_decide_eq_true hb | simpa using hb
              rw [stripZ_self _ _ hb] at hv4
              rw [hv4] at hv1
              exact ⟨rfl, _, hv1, C.drop (by wtm_at "ms")⟩
          · have hb : vsD = [] := by first | exact of_decide_eq_true hb | simpa using hb
            subst hb
            cases hv1
            have hv1 : IntsAre [] (stripZ bs) := by rw [← hv4]; exact .nil
            exact ⟨fun h => absurd h (by decide), fun _ => ⟨rfl, _, hv1, C.drop (by wtm_at "ms")⟩⟩
        · exact ⟨_, _, C.drop (by wtm_at "ms"), hD0, by lia, Nat.le_refl _, rfl⟩
end
section
open PySem PySem.W PyProof.Rows PySem.Spec PySem.Calls Builtin
noncomputable def gC (p cx cy : Nat) : Nat := if cy = 5 then p else if cx = 5 ∨ cx ≤ 1 then cy else if cx ≤ cy then cy - 1 else cy
theorem gC_zero (p cx : Nat) : gC p cx 0 = 0 := by unfold gC; grind
noncomputable def crun (q : Nat → Nat) (p : Nat) : Nat → Nat → Nat
  | 0 => fun _ => 0
  | i + 1 => fun y => if y = q i then 5 else gC p (crun q p i (q i)) (crun q p i y)
theorem crun_succ (q : Nat → Nat) (p i y : Nat) : crun q p (i + 1) y = if y = q i then 5 else gC p (crun q p i (q i)) (crun q p i y) := rfl
noncomputable def cB (o : Option Int) (ends : List Int) (h : Int) : Nat := match o with
  | none => 0
  | some l => if l + 1 = h then 5 else 1 + ends.countP fun e => decide (e ≤ l + 1)
theorem ID.get_put (ps : ID) (k k' : Str) (n : Int) : (ps.put k n).get k' = if k' = k then some n else ps.get k' := by
  unfold ID.put ID.get
  split
  · rename_i h
    induction ps with
    | nil => simp at h
    | cons a r ih =>
      rw [List.map_cons, List.find?_cons, List.find?_cons]
      by_cases hk : a.1 = k
      · rw [if_pos hk]
        by_cases hk' : k' = k
        · subst hk'; simp [hk]
        · have e : ¬ a.1 = k' := fun e => hk' (e ▸ hk)
          simp only [e, decide_false, if_neg hk']
          by_cases hr : r.any (fun p => decide (p.1 = k)) = true
          · have := ih hr
            rw [if_neg hk'] at this
            exact this
          · have : r.map (fun p => if p.1 = k then (p.1, n) else p) = r := by
              refine (List.map_congr_left fun y hy => ?_).trans (List.map_id r)
              rw [if_neg fun e => hr (List.any_eq_true.mpr ⟨y, hy, by simpa using e⟩)]
              rfl
            rw [this]
      · rw [if_neg hk]
        by_cases hk' : a.1 = k'
        · have : ¬ k' = k := fun e => hk (hk'.trans e)
          simp [hk', this]
        · simp only [hk', decide_false]
          refine ih ?_
          simpa [hk] using h
  · rename_i h
    rw [List.find?_append]
    by_cases hk' : k' = k
    · subst hk'
      rw [if_pos rfl]
      have : ps.find? (fun p => decide (p.1 = k')) = none := by
        rw [List.find?_eq_none]
        intro y hy e
        exact h (List.any_eq_true.mpr ⟨y, hy, e⟩)
      rw [this]; simp
    · rw [if_neg hk']
      cases ps.find? (fun p => decide (p.1 = k')) with
      | some a => simp
      | none => simp [Ne.symm hk']

structure RowsOk (p i : Nat) (S : RowS) : Prop where
  ends : (p = 1 ∧ S.ends = []) ∨ (p = 2 ∧ ∃ a, S.ends = [a] ∧ a ≤ i) ∨ (p = 3 ∧ ∃ a b, S.ends = [a, b] ∧ a ≤ b ∧ b ≤ i)
  last : ∀ y l, S.last.get (sg y) = some l → 0 ≤ l ∧ l < i
theorem bis1 (a x : Int) : bisOf [a] x = if a ≤ x then 1 else 0 := by
  simp only [bisOf, List.length_cons, List.length_nil, bis]
  simp
  by_cases h : a ≤ x
  · rw [if_neg (by lia), if_pos h]
  · rw [if_pos (by lia), if_neg h]
theorem bis2 (a b x : Int) (_hab : a ≤ b) : bisOf [a, b] x = if b ≤ x then 2 else if a ≤ x then 1 else 0 := by
  simp only [bisOf, List.length_cons, List.length_nil, bis]
  simp
  by_cases h : b ≤ x
  · rw [if_neg (by lia), if_pos h]
  · by_cases h2 : a ≤ x
    · rw [if_pos (by lia), if_neg (by lia), if_neg h, if_pos h2]
    · rw [if_pos (by lia), if_pos (by lia), if_neg h, if_neg h2]
theorem cB_same {p i : Nat} {E : List Int} (hl : E.length + 1 = p) (ha : ∀ e ∈ E, e ≤ (i : Int)) (hp : p ≤ 3) {cx : Nat} (hc : cx = 5 ∨ cx ≤ 1) {l : Int} (h : l < i) : cB (some l) E ((i + 1 : Nat) : Int) = gC p cx (cB (some l) E i) := by
  have h5 : ¬ l + 1 = ((i + 1 : Nat) : Int) := by lia
  show (if l + 1 = ((i + 1 : Nat) : Int) then 5 else 1 + E.countP fun e => decide (e ≤ l + 1)) = gC p cx (if l + 1 = (i : Int) then 5 else 1 + E.countP fun e => decide (e ≤ l + 1))
  rw [if_neg h5]
  by_cases hf : l + 1 = (i : Int)
  · rw [if_pos hf, gC, if_pos rfl, List.countP_eq_length.mpr fun e he => decide_eq_true (hf ▸ ha e he), ← hl, Nat.add_comm]
  · have hn := List.countP_le_length (p := fun e : Int => decide (e ≤ l + 1)) (l := E)
    rw [if_neg hf, gC, if_neg fun e => by lia, if_pos hc]
noncomputable def le1 (a x : Int) : Nat := if a ≤ x then 1 else 0
theorem le1_pos {a x : Int} (h : a ≤ x) : le1 a x = 1 := if_pos h
theorem le1_neg {a x : Int} (h : ¬ a ≤ x) : le1 a x = 0 := if_neg h
theorem cB_one (l a h : Int) : cB (some l) [a] h = if l + 1 = h then 5 else 1 + le1 a (l + 1) := by
  show (if l + 1 = h then 5 else 1 + List.countP (fun e => decide (e ≤ l + 1)) [a]) = _
  rw [List.countP_cons, List.countP_nil, Nat.zero_add]
  simp only [decide_eq_true_eq, le1]
theorem cB_two (l a b h : Int) : cB (some l) [a, b] h = if l + 1 = h then 5 else 1 + (le1 b (l + 1) + le1 a (l + 1)) := by
  show (if l + 1 = h then 5 else 1 + List.countP (fun e => decide (e ≤ l + 1)) [a, b]) = _
  rw [List.countP_cons, List.countP_cons, List.countP_nil, Nat.zero_add]
  simp only [decide_eq_true_eq, le1]
theorem hit2 {i : Nat} {a l : Int} (h : l < i) : cB (some l) [(i : Int)] ((i + 1 : Nat) : Int) = gC 2 2 (cB (some l) [a] i) := by
  rw [cB_one, cB_one, if_neg (show ¬ l + 1 = ((i + 1 : Nat) : Int) by lia)]
  by_cases hf : l + 1 = (i : Int)
  · rw [if_pos hf, le1_pos (Int.le_of_eq hf.symm)]; rfl
  · rw [if_neg hf, le1_neg (a := (i : Int)) (by lia)]
    by_cases ha : a ≤ l + 1
    · rw [le1_pos ha]; rfl
    · rw [le1_neg ha]; rfl
theorem hit3 {i : Nat} {a c l : Int} (h : l < i) (hac : a ≤ c) (hai : a ≤ i) : cB (some l) [a, (i : Int)] ((i + 1 : Nat) : Int) = gC 3 3 (cB (some l) [a, c] i) := by
  rw [cB_two, cB_two, if_neg (show ¬ l + 1 = ((i + 1 : Nat) : Int) by lia)]
  by_cases hf : l + 1 = (i : Int)
  · rw [if_pos hf, le1_pos (Int.le_of_eq hf.symm), le1_pos (show a ≤ l + 1 from hf ▸ hai)]; rfl
  · rw [if_neg hf, le1_neg (a := (i : Int)) (by lia)]
    by_cases hc : c ≤ l + 1
    · rw [le1_pos hc, le1_pos (Int.le_trans hac hc)]; rfl
    · rw [le1_neg hc]
      by_cases ha : a ≤ l + 1
      · rw [le1_pos ha]; rfl
      · rw [le1_neg ha]; rfl
theorem hit3' {i : Nat} {a c l : Int} (h : l < i) (hac : a ≤ c) (hci : c ≤ i) : cB (some l) [c, (i : Int)] ((i + 1 : Nat) : Int) = gC 3 2 (cB (some l) [a, c] i) := by
  rw [cB_two, cB_two, if_neg (show ¬ l + 1 = ((i + 1 : Nat) : Int) by lia)]
  by_cases hf : l + 1 = (i : Int)
  · rw [if_pos hf, le1_pos (Int.le_of_eq hf.symm), le1_pos (show c ≤ l + 1 from hf ▸ hci)]; rfl
  · rw [if_neg hf, le1_neg (a := (i : Int)) (by lia)]
    by_cases hc : c ≤ l + 1
    · rw [le1_pos hc, le1_pos (Int.le_trans hac hc)]; rfl
    · rw [le1_neg hc]
      by_cases ha : a ≤ l + 1
      · rw [le1_pos ha]; rfl
      · rw [le1_neg ha]; rfl
theorem RowsOk.ends_ok {p i : Nat} {S : RowS} (h : RowsOk p i S) : S.ends.length + 1 = p ∧ (∀ e ∈ S.ends, e ≤ (i : Int)) ∧ p ≤ 3 := by
  rcases h.ends with ⟨rfl, e⟩ | ⟨rfl, a, e, ha⟩ | ⟨rfl, a, b, e, hab, hb⟩ <;> rw [e]
  · exact ⟨rfl, fun _ h => absurd h List.not_mem_nil, by decide⟩
  · exact ⟨rfl, fun x h => by rw [List.mem_singleton] at h; exact h ▸ ha, by decide⟩
  · refine ⟨rfl, fun x h => ?_, by decide⟩
    rcases List.mem_cons.mp h with rfl | h
    · exact Int.le_trans hab hb
    · rw [List.mem_singleton] at h; exact h ▸ hb
theorem RowsOk.more {p i : Nat} {S : RowS} (h : RowsOk p i S) (last : ID) (told : List Int) (hl : ∀ y l, last.get (sg y) = some l → 0 ≤ l ∧ l < ((i + 1 : Nat) : Int)) : RowsOk p (i + 1) ⟨S.ends, last, told⟩ := by
  refine ⟨?_, hl⟩
  have up : ∀ {a : Int}, a ≤ (i : Int) → a ≤ ((i + 1 : Nat) : Int) := fun h => by lia
  rcases h.ends with ⟨hp, e⟩ | ⟨hp, a, e, ha⟩ | ⟨hp, a, b, e, hab, hb⟩
  · exact .inl ⟨hp, e⟩
  · exact .inr (.inl ⟨hp, a, e, up ha⟩)
  · exact .inr (.inr ⟨hp, a, b, e, hab, up hb⟩)
theorem rows_c {q : Nat → Nat} {p : Nat} (hp : 1 ≤ p ∧ p ≤ 3) : ∀ i, RowsOk p i (rowRun q p i) ∧ (∀ y, cB ((rowRun q p i).last.get (sg y)) (rowRun q p i).ends i = crun q p i y) ∧
    (rowRun q p i).told = (List.range i).map fun j => if 2 ≤ crun q p j (q j) then (1 : Int) else 0
  | 0 => by
    refine ⟨⟨?_, fun y l h => by cases h⟩, fun y => rfl, rfl⟩
    have : p = 1 ∨ p = 2 ∨ p = 3 := by lia
    rcases this with rfl | rfl | rfl
    · exact .inl ⟨rfl, rfl⟩
    · exact .inr (.inl ⟨rfl, 0, rfl, Int.le_refl _⟩)
    · exact .inr (.inr ⟨rfl, 0, 0, rfl, Int.le_refl _, Int.le_refl _⟩)
  | i + 1 => by
    obtain ⟨OK, h3, h4⟩ := rows_c (q := q) hp i
    rw [rowRun]
    generalize rowRun q p i = S at OK h3 h4 ⊢
    obtain ⟨k1, k2, k3⟩ := OK.ends_ok
    have h2 := OK.last
    have hx := h3 (q i)
    rw [List.range_succ, List.map_append, List.map_singleton, ← h4, ← hx]
    have hlast : ∀ y l, (S.last.put (sg (q i)) (i : Int)).get (sg y) = some l → 0 ≤ l ∧ l < ((i + 1 : Nat) : Int) := by
      intro y l h
      rw [ID.get_put] at h
      split at h
      · cases h; lia
      · have := h2 y l h; lia
    have hnew : ∀ (ends' : List Int), (∀ y l, S.last.get (sg y) = some l → cB (some l) ends' ((i + 1 : Nat) : Int) = gC p (cB (S.last.get (sg (q i))) S.ends i) (cB (some l) S.ends i)) →
        ∀ y, cB ((S.last.put (sg (q i)) (i : Int)).get (sg y)) ends' ((i + 1 : Nat) : Int) = crun q p (i + 1) y := by
      intro ends' h y
      rw [ID.get_put, crun_succ]
      by_cases hy : y = q i
      · rw [hy, if_pos rfl, if_pos rfl]; exact if_pos rfl
      · rw [if_neg fun e => hy (sg_inj e), if_neg hy, ← hx, ← h3 y]
        cases e : S.last.get (sg y) with
        | none => exact (gC_zero _ _).symm
        | some l => exact h y l e
    have same : (cB (S.last.get (sg (q i))) S.ends i = 5 ∨ cB (S.last.get (sg (q i))) S.ends i ≤ 1) → ∀ y, cB ((S.last.put (sg (q i)) (i : Int)).get (sg y)) S.ends ((i + 1 : Nat) : Int) = crun q p (i + 1) y :=
      fun hc => hnew _ fun y l hl => cB_same k1 k2 k3 hc (h2 y l hl).2
    unfold rowStep
    cases e : S.last.get (sg (q i)) with
    | none =>
      rw [e] at same
      rw [Option.getD_none, if_pos (by decide)]
      exact ⟨OK.more _ _ hlast, same (.inr (Nat.zero_le _)), rfl⟩
    | some b =>
      obtain ⟨b1, b2⟩ := h2 _ _ e
      rw [e] at same hnew
      rw [Option.getD_some, if_neg (Int.not_lt.mpr b1)]
      by_cases hf : b + 1 = (i : Int)
      · have c5 : cB (some b) S.ends i = 5 := if_pos hf
        rw [c5] at same ⊢
        rw [if_pos hf]
        exact ⟨OK.more _ _ hlast, same (.inl rfl), rfl⟩
      · rw [if_neg hf]
        have cE : cB (some b) S.ends i = 1 + S.ends.countP fun e => decide (e ≤ b + 1) := if_neg hf
        rcases OK.ends with ⟨hp, he⟩ | ⟨hp, a, he, ha⟩ | ⟨hp, a, c, he, hac, hc⟩
        · have hb : bisOf S.ends (b + 1) = 0 := by rw [he]; rfl
          have c1 : cB (some b) S.ends i = 1 := by rw [cE, he]; rfl
          rw [c1] at same ⊢
          rw [hb, if_neg (by decide)]
          exact ⟨OK.more _ _ hlast, same (.inr (Nat.le_refl _)), rfl⟩
        · by_cases ha1 : a ≤ b + 1
          · have hb : bisOf S.ends (b + 1) = 1 := by rw [he, bis1, if_pos ha1]
            have c1 : cB (some b) S.ends i = 2 := by rw [he, cB_one, if_neg hf, le1_pos ha1]
            rw [c1] at hnew ⊢
            rw [hb, if_pos (by decide), he]
            exact ⟨⟨.inr (.inl ⟨hp, i, rfl, by lia⟩), hlast⟩, hnew _ fun y l hl => by rw [he, hp]; exact hit2 (h2 y l hl).2, rfl⟩
          · have hb : bisOf S.ends (b + 1) = 0 := by rw [he, bis1, if_neg ha1]
            have c1 : cB (some b) S.ends i = 1 := by rw [he, cB_one, if_neg hf, le1_neg ha1]
            rw [c1] at same ⊢
            rw [hb, if_neg (by decide)]
            exact ⟨OK.more _ _ hlast, same (.inr (Nat.le_refl _)), rfl⟩
        · by_cases hc1 : c ≤ b + 1
          · have hb : bisOf S.ends (b + 1) = 2 := by rw [he, bis2 _ _ _ hac, if_pos hc1]
            have c1 : cB (some b) S.ends i = 3 := by rw [he, cB_two, if_neg hf, le1_pos hc1, le1_pos (Int.le_trans hac hc1)]
            rw [c1] at hnew ⊢
            rw [hb, if_pos (by decide), he]
            exact ⟨⟨.inr (.inr ⟨hp, a, i, rfl, Int.le_trans hac hc, by lia⟩), hlast⟩, hnew _ fun y l hl => by rw [he, hp]; exact hit3 (h2 y l hl).2 hac (Int.le_trans hac hc), rfl⟩
          · by_cases ha1 : a ≤ b + 1
            · have hb : bisOf S.ends (b + 1) = 1 := by rw [he, bis2 _ _ _ hac, if_neg hc1, if_pos ha1]
              have c1 : cB (some b) S.ends i = 2 := by rw [he, cB_two, if_neg hf, le1_neg hc1, le1_pos ha1]
              rw [c1] at hnew ⊢
              rw [hb, if_pos (by decide), he]
              exact ⟨⟨.inr (.inr ⟨hp, c, i, rfl, hc, by lia⟩), hlast⟩, hnew _ fun y l hl => by rw [he, hp]; exact hit3' (h2 y l hl).2 hac hc, rfl⟩
            · have hb : bisOf S.ends (b + 1) = 0 := by rw [he, bis2 _ _ _ hac, if_neg hc1, if_neg ha1]
              have c1 : cB (some b) S.ends i = 1 := by rw [he, cB_two, if_neg hf, le1_neg hc1, le1_neg ha1]
              rw [c1] at same ⊢
              rw [hb, if_neg (by decide)]
              exact ⟨OK.more _ _ hlast, same (.inr (Nat.le_refl _)), rfl⟩
end
section
open PySem PySem.W PyProof.Rows PySem.Spec PySem.Calls Builtin
noncomputable def lput (t k : Nat) : List Nat → List Nat
  | [] => [t + 16 * k]
  | z :: r => bif Nat.beq (z % 16) t then (t + 16 * min k (z / 16)) :: r else z :: lput t k r
noncomputable def keptN (P n x : Nat) : List Nat := bif n.testBit x then [n] else bif Nat.blt (bits n).length P then [n] else (bits n).map fun i => n - 2 ^ i
noncomputable def lputs (x k : Nat) (ls F : List Nat) : List Nat := ls.foldl (fun F l => lput (l ||| 2 ^ x) k F) F
noncomputable def lturn (P x : Nat) (F : List Nat) (z : Nat) : List Nat := lputs x (bif (z % 16).testBit x then z / 16 else z / 16 + 1) (keptN P (z % 16) x) F
noncomputable def lstep (P x : Nat) (N : List Nat) : List Nat := N.foldl (lturn P x) []
noncomputable def lmin : List Nat → Nat
  | [] => 0
  | [z] => z / 16
  | z :: r => min (z / 16) (lmin r)
noncomputable def lrun (q : Nat → Nat) (P : Nat) : Nat → List Nat
  | 0 => [0]
  | i + 1 => (lstep P (q i) (lrun q P i)).map fun z => z - 16 * lmin (lstep P (q i) (lrun q P i))
noncomputable def ofM (M : Int) (N : List Nat) : WS := N.map fun z => (z % 16, M - (z / 16 : Nat))

noncomputable def wmax (t : Nat) (k : Int) : WS → WS
  | [] => [(t, max k 0)]
  | x :: r => if x.1 = t then (t, max k x.2) :: r else x :: wmax t k r
theorem wmax_eq (t : Nat) (k : Int) : ∀ W : WS, (W.map (·.1)).Nodup → W.put t (max k ((W.get t).getD 0)) = wmax t k W
  | [], _ => rfl
  | x :: r, h => by
    rw [List.map_cons, List.nodup_cons] at h
    have ih := wmax_eq t k r h.2
    rw [wmax]
    unfold WS.put WS.get at *
    rw [List.any_cons, List.find?_cons, List.map_cons]
    by_cases e : x.1 = t
    · have hr : r.map (fun y => if y.1 = t then (y.1, max k (x.2)) else y) = r := by
        refine (List.map_congr_left fun y hy => ?_).trans (List.map_id r)
        rw [if_neg fun e2 => h.1 (List.mem_map.mpr ⟨y, hy, e2.trans e.symm⟩)]
        rfl
      simp only [e, decide_true, Bool.true_or, if_true, Option.map_some, Option.getD_some]
      rw [hr]
    · simp only [e, decide_false, Bool.false_or, if_false]
      rw [← ih]
      split <;> simp
theorem lput_eq {M : Int} {t k : Nat} (hk : (k : Int) ≤ M) (ht : t < 16) : ∀ N : List Nat, ofM M (lput t k N) = wmax t (M - k) (ofM M N)
  | [] => by
    show [((t + 16 * k) % 16, M - ((t + 16 * k) / 16 : Nat))] = [(t, max (M - k) 0)]
    rw [show (t + 16 * k) % 16 = t by lia, show (t + 16 * k) / 16 = k by lia, show max (M - (k : Int)) 0 = M - k by lia]
  | z :: r => by
    have ih := lput_eq hk ht r
    show ofM M (bif Nat.beq (z % 16) t then (t + 16 * min k (z / 16)) :: r else z :: lput t k r) = if z % 16 = t then (t, max (M - k) (M - (z / 16 : Nat))) :: ofM M r else (z % 16, M - (z / 16 : Nat)) :: wmax t (M - k) (ofM M r)
    by_cases e : z % 16 = t
    · rw [if_pos e, show Nat.beq (z % 16) t = true from Nat.beq_eq.mpr e]
      show ((t + 16 * min k (z / 16)) % 16, M - ((t + 16 * min k (z / 16)) / 16 : Nat)) :: ofM M r = _
      rw [show (t + 16 * min k (z / 16)) % 16 = t by lia, show (t + 16 * min k (z / 16)) / 16 = min k (z / 16) by lia, show M - ((min k (z / 16) : Nat) : Int) = max (M - k) (M - (z / 16 : Nat)) by lia]
    · rw [if_neg e, show Nat.beq (z % 16) t = false from Bool.eq_false_iff.mpr fun q => e (Nat.beq_eq.mp q), ← ih]
      rfl
theorem bestPut_eq {p l : Nat} {k : Int} {F : WS} (h : F.Ok) : bestPut p k F l = wmax (l ||| 2 ^ p) k F := wmax_eq _ _ F h.2
theorem kept_eq (P n x : Nat) : keptOf P n x = keptN P n x := by
  unfold keptOf keptN
  cases n.testBit x with
  | true => rfl
  | false =>
    rw [if_neg (by decide), cond_false]
    by_cases h : (bits n).length < P
    · rw [if_pos (by lia), show Nat.blt (bits n).length P = true from Nat.ble_eq.mpr h]; rfl
    · rw [if_neg (by lia), show Nat.blt (bits n).length P = false from Bool.eq_false_iff.mpr fun q => h (Nat.ble_eq.mp q)]; rfl
theorem lputs_eq {M : Int} {p k : Nat} (hp : p < 4) (hk : (k : Int) ≤ M) : ∀ (ls : List Nat), (∀ l ∈ ls, l < 16) → ∀ (N : List Nat), (ofM M N).Ok → ofM M (lputs p k ls N) = ls.foldl (bestPut p (M - k)) (ofM M N)
  | [], _, _, _ => rfl
  | l :: r, h, N, hN => by
    have ht := or_lt l (h l List.mem_cons_self) p hp
    have e : ofM M (lput (l ||| 2 ^ p) k N) = bestPut p (M - k) (ofM M N) l := by rw [lput_eq hk ht, bestPut_eq hN]
    rw [List.foldl_cons, ← e]
    exact lputs_eq hp hk r (fun x hx => h x (List.mem_cons_of_mem _ hx)) _ (e ▸ WS.put_ok hN ht _)
theorem lturn_eq {M : Int} {P p : Nat} (hp : p < 4) {N : List Nat} (hN : (ofM (M + 1) N).Ok) (z : Nat) (hz : ((z / 16 : Nat) : Int) ≤ M) : ofM (M + 1) (lturn P p N z) = bestTurn P p (ofM (M + 1) N) (z % 16, M - (z / 16 : Nat)) := by
  unfold lturn bestTurn
  have hk := keptOf_lt (places := P) (n := z % 16) (p := p) (by lia)
  rw [kept_eq] at hk ⊢
  rw [lputs_eq hp (by cases (z % 16).testBit p <;> simp <;> lia) _ hk _ hN]
  congr 2
  cases (z % 16).testBit p <;> simp <;> lia
theorem lturns_eq {M : Int} {P p : Nat} (hp : p < 4) : ∀ (Ns N : List Nat), (∀ z ∈ Ns, ((z / 16 : Nat) : Int) ≤ M) → (ofM (M + 1) N).Ok → ofM (M + 1) (Ns.foldl (lturn P p) N) = (ofM M Ns).foldl (bestTurn P p) (ofM (M + 1) N)
  | [], _, _, _ => rfl
  | z :: r, N, h, hN => by
    have e := lturn_eq hp hN z (P := P) (h z List.mem_cons_self)
    rw [List.foldl_cons, lturns_eq hp r _ (fun y hy => h y (List.mem_cons_of_mem _ hy)) (e ▸ bestTurn_ok hp hN (show z % 16 < 16 by lia)), e]
    rfl
theorem lmin_le : ∀ N : List Nat, ∀ z ∈ N, lmin N ≤ z / 16
  | [], z, h => nomatch h
  | [y], z, h => by rw [List.mem_singleton] at h; subst h; exact Nat.le_refl _
  | y :: x :: r, z, h => by
    show min (y / 16) (lmin (x :: r)) ≤ z / 16
    rcases List.mem_cons.mp h with rfl | h
    · lia
    · have := lmin_le (x :: r) z h; lia
theorem ofM_max {M : Int} : ∀ N : List Nat, N ≠ [] → maxv (toID (ofM M N)) = M - lmin N
  | [], h => absurd rfl h
  | [x], _ => rfl
  | x :: y :: r, _ => by
    have ih := ofM_max (M := M) (y :: r) (by simp)
    show max (M - (x / 16 : Nat)) (maxv (toID (ofM M (y :: r)))) = M - (min (x / 16) (lmin (y :: r)) : Nat)
    rw [ih]; lia
theorem ofM_norm (M : Int) (N : List Nat) : ofM (M - lmin N) (N.map fun z => z - 16 * lmin N) = ofM M N := by
  unfold ofM
  rw [List.map_map]
  refine List.map_congr_left fun z hz => ?_
  have := lmin_le N z hz
  simp only [Function.comp, Prod.mk.injEq]
  lia
theorem put_val {W : WS} (h : ∀ x ∈ W, 0 ≤ x.2) {n : Nat} {k : Int} (hk : 0 ≤ k) : ∀ x ∈ W.put n k, 0 ≤ x.2 := by
  intro x hx
  unfold WS.put at hx
  split at hx
  · obtain ⟨y, hy, rfl⟩ := List.mem_map.mp hx
    split
    · exact hk
    · exact h y hy
  · rcases List.mem_append.mp hx with hx | hx
    · exact h x hx
    · rw [List.mem_singleton] at hx; subst hx; exact hk
theorem puts_val {p : Nat} {k : Int} (hk : 0 ≤ k) : ∀ (ls : List Nat) (F : WS), (∀ x ∈ F, 0 ≤ x.2) → ∀ x ∈ ls.foldl (bestPut p k) F, 0 ≤ x.2
  | [], _, h => h
  | l :: r, F, h => puts_val hk r _ (put_val h (by lia))
theorem turns_val {places : Int} {p : Nat} : ∀ (W F : WS), (∀ x ∈ W, 0 ≤ x.2) → (∀ x ∈ F, 0 ≤ x.2) → ∀ x ∈ W.foldl (bestTurn places p) F, 0 ≤ x.2
  | [], _, _, h => h
  | y :: r, F, hW, h => turns_val r _ (fun x hx => hW x (List.mem_cons_of_mem _ hx)) (puts_val (by have := hW y List.mem_cons_self; split <;> lia) _ _ h)
theorem best_val {q : Nat → Nat} {places : Int} : ∀ i, ∀ x ∈ (bestRun q places i).W, 0 ≤ x.2
  | 0 => by simp [bestRun]
  | i + 1 => turns_val _ _ (best_val i) (by simp)
theorem best_less {q : Nat → Nat} (hq : ∀ i, q i < 4) {P : Nat} (hp : 1 ≤ P) : ∀ i, (bestRun q P i).W = ofM (bestRun q P i).told.sum (lrun q P i) ∧
    (bestRun q P i).told = (List.range i).map fun j => (1 : Int) - lmin (lstep P (q j) (lrun q P j))
  | 0 => ⟨rfl, rfl⟩
  | i + 1 => by
    obtain ⟨h1, h2⟩ := best_less hq hp i
    have hv := best_val (q := q) (places := P) i
    have hne := bestRun_ne (q := q) (places := P) (by lia) (i + 1)
    rw [bestRun, bestStep] at hne ⊢
    generalize bestRun q P i = S at h1 h2 hv hne ⊢
    obtain ⟨W, told⟩ := S
    dsimp only at h1 h2 hv hne ⊢
    have hle : ∀ z ∈ lrun q P i, ((z / 16 : Nat) : Int) ≤ told.sum := by
      intro z hz
      have := hv (z % 16, told.sum - (z / 16 : Nat)) (by rw [h1]; exact List.mem_map.mpr ⟨z, hz, rfl⟩)
      dsimp only at this
      lia
    have hs : ofM (told.sum + 1) (lstep P (q i) (lrun q P i)) = _ := lturns_eq (P := P) (hq i) (lrun q P i) [] hle ⟨by simp [ofM], by simp [ofM]⟩
    rw [← h1, show ofM (told.sum + 1) [] = [] from rfl] at hs
    rw [← hs] at hne ⊢
    have hne2 : lstep P (q i) (lrun q P i) ≠ [] := by
      intro e; rw [e] at hne; exact hne rfl
    rw [ofM_max (M := told.sum + 1) _ hne2]
    have e : told.sum + 1 - (lmin (lstep P (q i) (lrun q P i)) : Int) - told.sum = 1 - (lmin (lstep P (q i) (lrun q P i)) : Int) := by lia
    rw [e]
    constructor
    · rw [List.sum_append, List.sum_singleton, lrun, ← ofM_norm (told.sum + 1)]
      congr 1
      lia
    · rw [List.range_succ, List.map_append, ← h2]; rfl
end
section
open PySem PySem.W PyProof.Rows PySem.Spec PySem.Calls Builtin
noncomputable abbrev TS := List Nat × List Nat
noncomputable def runB (step : Nat → TS → TS) (s : TS) (x : Nat → Nat) : Nat → TS
  | 0 => s
  | i + 1 => step (x i) (runB step s x i)
noncomputable def dv (b : Nat) : Nat → Nat → List Nat
  | 0, _ => []
  | f + 1, c => bif Nat.beq c 0 then [] else Nat.sub (Nat.mod c b) 1 :: dv b f (Nat.div c b)
noncomputable def deco (c : Nat) : TS := (dv 128 5 (Nat.div c 4096), dv 8 5 (Nat.mod c 4096))
noncomputable def cv (b : Nat) : List Nat → Nat
  | [] => 0
  | z :: r => Nat.add (Nat.mul (cv b r) b) (Nat.succ z)
noncomputable def code (s : TS) : Nat := Nat.add (Nat.mul (cv 128 s.1) 4096) (cv 8 s.2)
noncomputable def beqL : List Nat → List Nat → Bool
  | [], [] => true
  | a :: r, b :: t => Nat.beq a b && beqL r t
  | _, _ => false
theorem beqL_eq : ∀ a b, beqL a b = true → a = b
  | [], [], _ => rfl
  | a :: r, b :: t, h => by
    rw [beqL, Bool.and_eq_true] at h
    rw [Nat.beq_eq.mp h.1, beqL_eq r t h.2]
  | [], _ :: _, h => nomatch h
  | _ :: _, [], h => nomatch h
noncomputable def digB : Nat → Nat → List Nat
  | 0, _ => []
  | f + 1, b => bif Nat.ble b 1 then [] else Nat.mod b 281474976710656 :: digB f (Nat.div b 281474976710656)
noncomputable def inB (bt : List Nat) (c d : Nat) : Bool := (digB 15 (bt.getD (Nat.mod c 61) 0)).any fun w => Nat.beq (Nat.div w 16) c && Nat.ble (Nat.mod w 16) d
noncomputable def nextB (bt : List Nat) (d : Nat) (s : TS) (c : Nat) : Bool := inB bt c d && (beqL s.1 (deco c).1 && beqL s.2 (deco c).2)
noncomputable def oneB (bt : List Nat) (step : Nat → TS → TS) (ok : Nat → TS → Bool) (w x : Nat) : Bool := ok x (deco (Nat.div w 16)) && (Nat.ble 8 (Nat.mod w 16) || nextB bt (Nat.succ (Nat.mod w 16)) (step x (deco (Nat.div w 16))) (code (step x (deco (Nat.div w 16)))))
noncomputable def allB (bt : List Nat) (c : Nat) (step : Nat → TS → TS) (ok : Nat → TS → Bool) : Bool := inB bt c 0 && bt.all fun b => (digB 15 b).all fun w => oneB bt step ok w 0 && (oneB bt step ok w 1 && (oneB bt step ok w 2 && oneB bt step ok w 3))
theorem all_cut {α : Type} {f : α → Bool} (n : Nat) {l : List α} (a : (l.take n).all f = true) (b : (l.drop n).all f = true) : l.all f = true := by
  rw [← List.take_append_drop n l, List.all_append, a, b]; rfl
theorem digB_zero (n : Nat) : digB n 0 = [] := by cases n <;> rfl
theorem inB_ex {bt : List Nat} {c d : Nat} (h : inB bt c d = true) : ∃ b ∈ bt, ∃ w ∈ digB 15 b, Nat.div w 16 = c ∧ Nat.mod w 16 ≤ d := by
  unfold inB at h
  rw [List.any_eq_true] at h
  obtain ⟨w, hw, h⟩ := h
  rw [Bool.and_eq_true] at h
  rw [List.getD_eq_getElem?_getD] at hw
  cases e : bt[Nat.mod c 61]? with
  | none => rw [e, Option.getD_none, digB_zero] at hw; nomatch hw
  | some b => rw [e, Option.getD_some] at hw; exact ⟨b, List.mem_of_getElem? e, w, hw, Nat.beq_eq.mp h.1, Nat.ble_eq.mp h.2⟩
theorem run_all {bt : List Nat} {c : Nat} {step : Nat → TS → TS} {ok : Nat → TS → Bool} (H : allB bt c step ok = true) {x : Nat → Nat} (hx : ∀ i, x i < 4) : ∀ i, i ≤ 8 → ok (x i) (runB step (deco c) x i) = true := by
  unfold allB at H
  rw [Bool.and_eq_true] at H
  obtain ⟨H0, H1⟩ := H
  have H1 : ∀ b ∈ bt, ∀ w ∈ digB 15 b, ∀ x, x < 4 → oneB bt step ok w x = true := by
    intro b hb w hw x hx
    have := List.all_eq_true.mp (List.all_eq_true.mp H1 b hb) w hw
    simp only [Bool.and_eq_true] at this
    obtain ⟨a, b, c, d⟩ := this
    rcases lt4 hx with rfl | rfl | rfl | rfl <;> assumption
  have J : ∀ i, i ≤ 8 → ∃ b ∈ bt, ∃ w ∈ digB 15 b, deco (Nat.div w 16) = runB step (deco c) x i ∧ Nat.mod w 16 ≤ i := by
    intro i
    induction i with
    | zero =>
      intro _
      obtain ⟨b, hb, w, hw, e, h⟩ := inB_ex H0
      exact ⟨b, hb, w, hw, by rw [e]; rfl, h⟩
    | succ i ih =>
      intro hi
      obtain ⟨b, hb, w, hw, e, hd⟩ := ih (by lia)
      have := H1 b hb w hw _ (hx i)
      unfold oneB at this
      rw [Bool.and_eq_true, Bool.or_eq_true, e] at this
      have hn := this.2.resolve_left fun h => by have := Nat.ble_eq.mp h; lia
      unfold nextB at hn
      rw [Bool.and_eq_true, Bool.and_eq_true] at hn
      obtain ⟨b', hb', w', hw', e', hd'⟩ := inB_ex hn.1
      refine ⟨b', hb', w', hw', ?_, by lia⟩
      rw [e']
      exact (Prod.ext (beqL_eq _ _ hn.2.1) (beqL_eq _ _ hn.2.2)).symm
  intro i hi
  obtain ⟨b, hb, w, hw, e, _⟩ := J i hi
  have := H1 b hb w hw _ (hx i)
  unfold oneB at this
  rw [Bool.and_eq_true, e] at this
  exact this.1
noncomputable def brStep (P x : Nat) (s : TS) : TS :=
  ((lstep P x s.1).map fun z => z - 16 * lmin (lstep P x s.1), [0, 1, 2, 3].map fun y => bif Nat.beq y x then 5 else gC P (s.2.getD x 0) (s.2.getD y 0))
noncomputable def brTold (P x : Nat) (s : TS) : Bool := Nat.beq (lmin (lstep P x s.1)) (bif Nat.ble 2 (s.2.getD x 0) then 0 else 1)
noncomputable abbrev brRun (q : Nat → Nat) (P : Nat) : Nat → TS := runB (brStep P) (deco 4681) q
theorem brRun_eq {q : Nat → Nat} (hq : ∀ i, q i < 4) {P : Nat} : ∀ i, (brRun q P i).1 = lrun q P i ∧ ∀ y, y < 4 → (brRun q P i).2.getD y 0 = crun q P i y
  | 0 => ⟨rfl, fun y hy => by rcases lt4 hy with rfl | rfl | rfl | rfl <;> rfl⟩
  | i + 1 => by
    obtain ⟨h1, h2⟩ := brRun_eq hq (P := P) i
    constructor
    · show ((lstep P (q i) (brRun q P i).1).map fun z => z - 16 * lmin (lstep P (q i) (brRun q P i).1)) = _
      rw [h1]; rfl
    · intro y hy
      have e : (brRun q P (i + 1)).2.getD y 0 = bif Nat.beq y (q i) then 5 else gC P ((brRun q P i).2.getD (q i) 0) ((brRun q P i).2.getD y 0) := by
        rcases lt4 hy with rfl | rfl | rfl | rfl <;> rfl
      rw [e, h2 y hy, h2 _ (hq i), crun_succ]
      by_cases hyx : y = q i
      · rw [if_pos hyx, Nat.beq_eq.mpr hyx]; rfl
      · rw [if_neg hyx, show Nat.beq y (q i) = false from Bool.eq_false_iff.mpr fun h => hyx (Nat.beq_eq.mp h)]; rfl
noncomputable def bt1 : List Nat := [1, 79228162694485446831982651618, 281474977350947, 1, 281474977351955, 79228162574725725540946921764, 22300745209673430373866943706652591775897875, 281474977061156, 281474976926483, 79228162554140053119212669732, 1, 1, 1, 1, 1, 1, 1, 1, 1, 1, 1, 1, 281474976859362, 1, 1, 281474976860387, 1, 1, 1, 1, 281474976859491, 1, 1, 281474976860516, 1, 281474977052817, 281474977052834, 1, 1, 1, 1, 1, 281474976917265, 79228162572424386131360299282, 281474977052963, 79228162535345687449265449746, 281474976918307, 1, 1, 1, 1, 1, 1, 1, 281474977350801, 281474977350818, 1, 281474977351826, 281474977351843, 79228162553815230996088707218, 281474977061027]
noncomputable def bt2 : List Nat := [1766847438914657218786222695317444188084369200587798357987164193446284584, 6277964948386611034687043712393834595858152427802912979240, 11090686082885056105574635809735136021338517091105966812019930440966124699885361109895576097592839658481713114734030739282751875880, 22300753899797560163912343854533158745495959, 6277101751124628860886975011932765583994180356691546752485, 281551249820472, 11090685405594199898217899090217317126634489228022734322983378530721879291931744166727552867957174478402488677250705188532147542328, 878695700117605510788858576838172160030998752460643457956957055464054338456561890766969156565230315912455433225771526477839917629480964045587468910932209068392, 878694101974834764607202344165185093573405904555351165332884966892282872500846135139817687448489668789011568559396186612133921421182508156158338094605684885816, 69620261224759640229007099272932338417112022114742989200376059280103850539837438625906163728163645213881103142250802395287490328188335620465471610581492849485347741803432969200350717953512, 39402040358399605276842982241758002439200573630190260376463595871281142758791144761613317560215713945254710869871912, 11091653868829078324785546081535025169576040242875824568682290049131246356831993188632997332354954355222643971054178496649186072888, 247330432528027421504001870606264397222449762353521309162063196548688057030731597565211028920753117644013130295608500622804781975603159495729368699548617353997397570320423224, 139984075791962929790719296718177519246443973629300007945707542431763507648011731063733150815225597736, 139984063445168595717223489812781573747930475824228226533880681231665373156070339452012801045920831800, 22300760516966573048734225540513678280576808, 3121748939297372636813429038107206650615833733779994488997700080144652675965254734384993805716630302529547532960250092382501001301551593986837784, 247355146667262472920523048566477216694686273790466248797336124353375563404720837726821198663405157210966532857887034483485470008239525974601129116743957413545134982576130360, 139987810351129423162640823486453671938618941574259900611556095905686856096047836639207957010564602040, 139984072274407117136926588641876781211498972678589462360209790461426864358162466950179497028117776696, 39402018047106064760419326723730052526355406012043920148559464279968741175171654954788772833057489571977203813108024, 6277102873056587879690328891314482683015939652289731328296, 497324038324575449015682365267698227787723111829435979776251359536662474322920097926936, 497323237241621773948232961078110214155271883644690321943853344864215561191300449262008, 11091105606346998859531494614856089459308910515667989866645339602045911938057672364950485250058233207789589525594190988294750956344, 497323815164524125680647959589606924454272242618801220853164079307456775396676668840344, 39402067324409200042161329906981946884093926052841032994598807527480505152570064847811622990292793746045846223022888, 39402006304388531426257982968749650377980123376984890679664903156231854579178175766609178054519770640381843650300088, 3121749490699647585526697022707016292529917402712195505218657030993010849925938672729221496242850966440213235188124486990996371553797927732988728, 878694259097686961326200127940438548478840903332845513016820091597709386117250197957336577268427876733211129209558486726921785982877657262232169839824883895096, 497323533552818388264658603102169996066796219030929853955518686258071725301118884596536, 1766894460013469246017017751398636046995623246715181812027271516818069928, 497323236890089882074053943786624779334986783490576875207834580709646298086681181255959, 497323237969619303743842711504600773850846242994831034603692266262501680059302720424376, 11090680210350200951891533184427968427603302826158608799741888641416590417287002982940251936494874045993195831220489907048586891064, 39402006244291560507798219003978645333444391866643047206039248857038208101625326314586475738347598713541031950535079, 11092287854595198886974688941397110858461809133442742481743234432196822293924164898196827673134054575946418474888769193401314339304, 139984155303961683805566048227831951458484918008761523386239975878503154779100888710898229922616756536, 139984138402292243912434319784592588653653429509706358390270652478823854317854760165151451401693056360, 3121752466357355086801755903442892868759408069605500204505474099154188689481969288709545903553035136928256888291326427700372325427585633635485496, 3121748554804456476297060668445327565369493397437464684879634448349041988680357408246752831715301918677203553014400464155564324759926214738210152, 11091526979210386106310263794195947557178678434051238514635254437273033025369322022268345648674342667377383410834325958834994694632, 11090678784624068540465542165471182313637103531129071505512893265088868455609194869304481426066249285047897536201844808885813999896, 11090680166438674544843001108449488805094094360182687929566371907517741827398423099754139545305797586643625435874073695269178461544, 139989432693941565054988504953817617765156720462767417107027455915646960832494215923894249552941378328, 497323236542116419919239022965667411811151349989288767348722378099083326737170054139240, 3121748554837994690568546206005821126132858092467030578992547832426898333627107812975577651383991585059667463674176774759948019080264838023892456, 11090685413888164594507247668951190039415110098827496925519765839452677251125417576802101861508098360929820302473923933954712107304, 139984167721231693718454439007986048417914712942869763122182314805975048509199292173853739804032395624, 497391860639146205103509292676618465375733100711647398182454807427219660992515811232056, 11091532226624571959917422843637052598202972209806013393911448713308612303509967867879388796205094363701180165344116585124284058008, 139995824474355848881399849146832929809443764754243741544689182474505349616921679971607618353130883496, 11090850016910132131894155520741662982919044004635389817876055465815453855411729251387875649636145400931165188882977430879725254952, 11090678787207618684151004776368508219084907364698830313443510568143343398045959763199732366112099455052645877799791073545983711656, 1766847068796639619983546380158064508762161784819139452949874500162116008, 1766887878834865088985887700987614491457289276915577958281678098623253992, 1766847444605634578983594617362650372041700183558638806945312199626344936, 139984046724882389277411839888931169171464443723638566523257679561678379119515476843227513537767827816, 11090680117147040606298574053741523881484205172900488161111284814100939868467050328760407668899495014528152297440027975556981938616, 497323236658051623768968032324936774212393438348973332934766131982162643247318384231847, 1767137416444165616093776002215889638838058330850072924058408566318058856]
noncomputable def bt3 : List Nat := [6277298604494327775677272859900885734942268992813510120248, 22300745263563871918932154227901527919398694, 79230722321901318528027232744, 281474977466130, 1766847070770474261254690982603202656161654560792285816741112625285222712, 79228162712909672955060867383, 22301457075284380730228872268337960685851079, 79228162783522174441349871944, 22300745274321154929467067972426865656633784, 6278065365673943929721742598415276568191813831358451510088, 139988377270535467431521846018506724866719622951449362924318966626120256534919915710843119106427670344, 6277101758505684905879513303221960888116902257962554198838, 79230685130959704361509286712, 6277298556462402944974205555829241580421577310266016559464, 497323237860445823609292398459283336003765212397657020067477183620857527880336271104456, 22300745263581619041266353717556591043989816, 139984046621653999741771421322760206870993679099446393790918140316203082720522582306513306935895182792, 6277682056000661685847142008860169231989310726043920748984, 22304751568575656046650520054866388618039735, 497323238241687249067347855091593899577026642921875537808717861877238704996815169572168, 497323237627812137978178664341191082986857079936803241729938773615011819272109370019304, 1766847068143940305182723988206367175387541585534410982503061290813987256, 6277391720431624096255472408039721493287303372076692229960, 497368947253867220419002710701631801561907082736446017377863439333796154537171267604008, 497323237358913916342494546568191330973954498687969684855074312867500077400839083159912, 79237295862597929039964310886, 497323237243431025396171709952971291576697044811221797234001661247915693732063584680488, 497323237362449377400733266193758958066354243080975857481626234584160792126323904467368, 22300745241250686067083903217308602647629383, 22301775432375314441266491525721421830410662, 6277391720434456287484892189183652340556136477737515666760, 79245158599009446245296919016, 6277295563469755930987487327714768629970281245685421411128, 6277295939143114177148764442678787910473846945985717062200, 1766901728276297702645436564726254093821974708784421734327432614316592680, 497323237014332800687023852165624724097766482430424020609913926875686918169147181264488, 79230609870265718442771270088, 6277101747371012034551805217708629833269565216739976763960, 139984046836370323122278345973656879952024028515391346912036045568371772399500083907549058099905024424, 22300745264849348858210367030009165429832247, 79228162590817087069773269480, 6277101756492195224766348900256911037651942886253285771751, 22300745214899874577727811254049758923168168, 6277101744434762113934873297334896718222068322931676443112, 1, 22300745204464495601204347112080981812476100, 281474977547828, 6277101744479720415555923215463980228592640516714834848360, 6277101758148850683331582075498757400523099117786879643240, 6277101757039187902985357117731980779742334557226965891640, 22300745275456969862466569323899999879139128, 22302816215968075938199697934306017397396279, 22300745262932661160298621259277465449033318, 22302794948889160028216360956617155278762806, 22300745249248135234229539277267364374939108, 22301433819422743925007578173475315747027527, 281524472629816, 6277101755257224555790357410500442611652645181327795976520, 22301433819503794340132859923345492866461512, 79228162553815231046657952200, 79245153875886358637987122792]
set_option maxHeartbeats 0 in
theorem ba1 : allB bt1 4681 (brStep 1) (brTold 1) = true := by decide +kernel
set_option maxHeartbeats 0 in
theorem ba2 : allB bt2 4681 (brStep 2) (brTold 2) = true :=
  look_both (by decide +kernel) (all_cut 20 (by decide +kernel) (all_cut 20 (by decide +kernel) (by decide +kernel)))
set_option maxHeartbeats 0 in
theorem ba3 : allB bt3 4681 (brStep 3) (brTold 3) = true :=
  look_both (by decide +kernel) (all_cut 30 (by decide +kernel) (by decide +kernel))
theorem br_told {bt : List Nat} {P : Nat} (hP : 1 ≤ P ∧ P ≤ 3) (H : allB bt 4681 (brStep P) (brTold P) = true) {q : Nat → Nat} (hq : ∀ i, q i < 4) : (rowRun q P 9).told = (bestRun q P 9).told := by
  rw [(rows_c hP 9).2.2, (best_less hq hP.1 9).2]
  refine List.map_congr_left fun j hj => ?_
  rw [List.mem_range] at hj
  have h := run_all H hq j (by lia)
  change Nat.beq (lmin (lstep P (q j) (brRun q P j).1)) (bif Nat.ble 2 ((brRun q P j).2.getD (q j) 0) then 0 else 1) = true at h
  obtain ⟨h1, h2⟩ := brRun_eq hq (P := P) j
  have h := Nat.beq_eq.mp h
  rw [h1, h2 _ (hq j)] at h
  rw [h]
  by_cases h3 : 2 ≤ crun q P j (q j)
  · rw [if_pos h3, show Nat.ble 2 (crun q P j (q j)) = true from Nat.ble_eq.mpr h3]; rfl
  · rw [if_neg h3, show Nat.ble 2 (crun q P j (q j)) = false from Bool.eq_false_iff.mpr fun h => h3 (Nat.ble_eq.mp h)]; rfl
theorem rows_best {q : Nat → Nat} (hq : ∀ i, q i < 4) (P : Nat) (h1 : 1 ≤ P) (h3 : P ≤ 3) : (rowRun q P 9).told = (bestRun q P 9).told := by
  have : P = 1 ∨ P = 2 ∨ P = 3 := by lia
  rcases this with rfl | rfl | rfl
  · exact br_told (by lia) ba1 hq
  · exact br_told (by lia) ba2 hq
  · exact br_told (by lia) ba3 hq
end
section
open PySem PySem.W PyProof.Rows PySem.Spec PySem.Calls Builtin
noncomputable def nx (q : Nat → Nat) (k p : Nat) : Nat := match k with
  | 0 => 9 + p
  | k + 1 => if p = q (8 - k) then 8 - k else nx q k p
theorem nx_succ (q : Nat → Nat) (k p : Nat) : nx q (k + 1) p = if p = q (8 - k) then 8 - k else nx q k p := rfl
theorem nx_hst {q : Nat → Nat} : ∀ k p, (hst q k).2 p = (nx q k p : Int)
  | 0, p => by show (9 + (p : Int)) = ((9 + p : Nat) : Int); lia
  | k + 1, p => by
    show (if p = q (8 - k) then ((8 - k : Nat) : Int) else (hst q k).2 p) = _
    rw [nx_succ, nx_hst k p]
    split <;> rfl
theorem hst_one {q : Nat → Nat} {i : Nat} (hi : i < 9) : ∀ K, K ≤ 9 → 9 - i ≤ K → (hst q K).1 i = (nx q (8 - i) (q i) : Int)
  | 0, h, h' => by lia
  | k + 1, h, h' => by
    show (if i = 8 - k then (hst q k).2 (q (8 - k)) else (hst q k).1 i) = _
    by_cases e : i = 8 - k
    · rw [if_pos e, nx_hst, ← e, show 8 - i = k by lia]
    · rw [if_neg e, hst_one hi k (by lia) (by lia)]
theorem nx_bd {q : Nat → Nat} : ∀ k p, k ≤ 9 → p < 4 → 9 - k ≤ nx q k p ∧ nx q k p ≤ 12
  | 0, p, _, hp => by show 9 - 0 ≤ 9 + p ∧ 9 + p ≤ 12; lia
  | k + 1, p, hk, hp => by
    have := nx_bd (q := q) k p (by lia) hp
    rw [nx_succ]
    split <;> lia
noncomputable def hfOf (q : Nat → Nat) (i : Nat) : Nat := if i < 9 then nx q (8 - i) (q i) else 1
theorem hf_hours {q : Nat → Nat} {i : Nat} (hi : i < 9) : hoursOf q i = (hfOf q i : Int) := by
  rw [hoursOf, hst_one hi 9 (Nat.le_refl _) (by lia), hfOf, if_pos hi]
theorem hf_bd {q : Nat → Nat} (hq : ∀ i, q i < 4) (i : Nat) : 1 ≤ hfOf q i ∧ hfOf q i ≤ 12 := by
  unfold hfOf
  split
  · have := nx_bd (q := q) (8 - i) (q i) (by lia) (hq i); lia
  · lia

noncomputable def rho (r j : Nat) : Nat := bif Nat.beq j 0 then r else bif Nat.ble j r then Nat.pred j else j
structure Ord4 (f : Nat → Nat) (o : Nat → Nat) : Prop where
  lt : ∀ j, j < 4 → o j < 4
  up : ∀ j j', j < j' → j' < 4 → f (o j) < f (o j')
theorem Ord4.inj {f o : Nat → Nat} (h : Ord4 f o) {j j' : Nat} (hj : j < 4) (hj' : j' < 4) (e : o j = o j') : j = j' := by
  rcases Nat.lt_trichotomy j j' with hl | hl | hl
  · have := h.up j j' hl hj'; rw [e] at this; lia
  · exact hl
  · have := h.up j' j hl hj; rw [e] at this; lia
theorem four4F : ∀ a b c d x : Fin 4, a ≠ b → a ≠ c → a ≠ d → b ≠ c → b ≠ d → c ≠ d → a = x ∨ b = x ∨ c = x ∨ d = x := by decide +kernel
theorem four4 (a : Nat) (ha : a < 4) (b : Nat) (hb : b < 4) (c : Nat) (hc : c < 4) (d : Nat) (hd : d < 4) (x : Nat) (hx : x < 4) (n1 : a ≠ b) (n2 : a ≠ c) (n3 : a ≠ d) (n4 : b ≠ c) (n5 : b ≠ d) (n6 : c ≠ d) : a = x ∨ b = x ∨ c = x ∨ d = x :=
  (four4F ⟨a, ha⟩ ⟨b, hb⟩ ⟨c, hc⟩ ⟨d, hd⟩ ⟨x, hx⟩ (fun e => n1 (congrArg Fin.val e)) (fun e => n2 (congrArg Fin.val e)) (fun e => n3 (congrArg Fin.val e)) (fun e => n4 (congrArg Fin.val e)) (fun e => n5 (congrArg Fin.val e)) (fun e => n6 (congrArg Fin.val e))).imp (congrArg Fin.val) (Or.imp (congrArg Fin.val) (Or.imp (congrArg Fin.val) (congrArg Fin.val)))
theorem Ord4.onto {f o : Nat → Nat} (h0 : Ord4 f o) {x : Nat} (hx : x < 4) : ∃ j, j < 4 ∧ o j = x := by
  have a0 := h0.lt 0 (by decide)
  have a1 := h0.lt 1 (by decide)
  have a2 := h0.lt 2 (by decide)
  have a3 := h0.lt 3 (by decide)
  have ne : ∀ j, j < 4 → ∀ k, k < 4 → j ≠ k → o j ≠ o k := fun j hj k hk h e => h (h0.inj hj hk e)
  have : o 0 = x ∨ o 1 = x ∨ o 2 = x ∨ o 3 = x := four4 _ a0 _ a1 _ a2 _ a3 _ hx (ne 0 (by decide) 1 (by decide) (by decide)) (ne 0 (by decide) 2 (by decide) (by decide)) (ne 0 (by decide) 3 (by decide) (by decide)) (ne 1 (by decide) 2 (by decide) (by decide)) (ne 1 (by decide) 3 (by decide) (by decide)) (ne 2 (by decide) 3 (by decide) (by decide))
  rcases this with e | e | e | e
  · exact ⟨0, by decide, e⟩
  · exact ⟨1, by decide, e⟩
  · exact ⟨2, by decide, e⟩
  · exact ⟨3, by decide, e⟩
noncomputable def place (o : Nat → Nat) (x : Nat) : Nat := bif Nat.beq (o 0) x then 0 else bif Nat.beq (o 1) x then 1 else bif Nat.beq (o 2) x then 2 else 3
theorem place_eq {f o : Nat → Nat} (h : Ord4 f o) {x : Nat} (hx : x < 4) : place o x < 4 ∧ o (place o x) = x := by
  obtain ⟨j, hj, rfl⟩ := h.onto hx
  have e : place o (o j) = j := by
    unfold place
    have hn : ∀ k, k < 4 → Nat.beq (o k) (o j) = decide (k = j) := by
      intro k hk
      by_cases e : k = j
      · subst e; simp
      · rw [decide_eq_false e]; exact Bool.eq_false_iff.mpr fun q => e (h.inj hk hj (Nat.beq_eq.mp q))
    rw [hn 0 (by decide), hn 1 (by decide), hn 2 (by decide)]
    rcases lt4 hj with rfl | rfl | rfl | rfl <;> rfl
  rw [e]; exact ⟨hj, rfl⟩
noncomputable def ordK (q : Nat → Nat) : Nat → Nat → Nat
  | 0 => fun j => j
  | k + 1 => fun j => ordK q k (rho (place (ordK q k) (q (8 - k))) j)
theorem rho_lt : ∀ r, r < 4 → ∀ j, j < 4 → rho r j < 4 := by decide
theorem rho_up : ∀ r, r < 4 → ∀ j, j < 4 → ∀ j', j' < 4 → 1 ≤ j → j < j' → rho r j < rho r j' := by decide
theorem rho_ne : ∀ r, r < 4 → ∀ j, j < 4 → 1 ≤ j → rho r j ≠ r := by decide
theorem ord_ok {q : Nat → Nat} (hq : ∀ i, q i < 4) : ∀ k, k ≤ 9 → Ord4 (nx q k) (ordK q k)
  | 0, _ => ⟨fun j h => h, fun j j' h _ => by show 9 + j < 9 + j'; lia⟩
  | k + 1, hk => by
    have O := ord_ok hq k (by lia)
    obtain ⟨h1, h2⟩ := place_eq O (hq (8 - k))
    have h0 : ordK q (k + 1) 0 = q (8 - k) := h2
    refine ⟨fun j hj => O.lt _ (rho_lt _ h1 j hj), fun j j' h h' => ?_⟩
    have hne : ∀ j, 1 ≤ j → j < 4 → ordK q (k + 1) j ≠ q (8 - k) := by
      intro j a b e
      rw [← h2] at e
      exact rho_ne _ h1 j b a (O.inj (rho_lt _ h1 j b) h1 e)
    rw [nx_succ q k (ordK q (k + 1) j'), if_neg (hne j' (by lia) h'), nx_succ]
    by_cases e : j = 0
    · subst e
      rw [h0, if_pos rfl]
      have := (nx_bd (q := q) k (ordK q (k + 1) j') (by lia) (O.lt _ (rho_lt _ h1 j' h'))).1
      lia
    · rw [if_neg (hne j (by lia) (by lia))]
      exact O.up _ _ (rho_up _ h1 j (by lia) j' h' (by lia) h) (rho_lt _ h1 j' h')
noncomputable def oAt (q : Nat → Nat) (i : Nat) : Nat → Nat := ordK q (9 - i)
noncomputable def nAt (q : Nat → Nat) (i : Nat) : Nat → Nat := nx q (9 - i)
noncomputable def rAt (q : Nat → Nat) (i : Nat) : Nat := if i < 9 then place (oAt q (i + 1)) (q i) else 0
structure Hour (q : Nat → Nat) (i : Nat) : Prop where
  ord : Ord4 (nAt q i) (oAt q i)
  ord' : Ord4 (nAt q (i + 1)) (oAt q (i + 1))
  r : rAt q i < 4
  zero : oAt q i 0 = q i
  o' : ∀ j, oAt q (i + 1) (rho (rAt q i) j) = oAt q i j
  n' : ∀ j, 1 ≤ j → j < 4 → nAt q (i + 1) (oAt q i j) = nAt q i (oAt q i j)
  hf : nAt q (i + 1) (q i) = hfOf q i
theorem hour {q : Nat → Nat} (hq : ∀ i, q i < 4) {i : Nat} (hi : i < 9) : Hour q i := by
  obtain ⟨k, hk⟩ : ∃ k, 9 - i = k + 1 := ⟨8 - i, by lia⟩
  have hk' : 9 - (i + 1) = k := by lia
  have hik : 8 - k = i := by lia
  have O := ord_ok hq (k + 1) (by lia)
  have O' := ord_ok hq k (by lia)
  obtain ⟨h1, h2⟩ := place_eq O' (hq i)
  have er : rAt q i = place (ordK q k) (q i) := by unfold rAt oAt; rw [if_pos hi, hk']
  have eo : ∀ j, ordK q (k + 1) j = ordK q k (rho (place (ordK q k) (q i)) j) := by intro j; show ordK q k (rho (place (ordK q k) (q (8 - k))) j) = _; rw [hik]
  have z : ordK q (k + 1) 0 = q i := by rw [eo]; exact h2
  refine ⟨by unfold nAt oAt; rw [hk]; exact O, by unfold nAt oAt; rw [hk']; exact O', er ▸ h1, by unfold oAt; rw [hk]; exact z, fun j => ?_, fun j a b => ?_, ?_⟩
  · unfold oAt; rw [hk, hk', er, eo]
  · unfold nAt oAt
    rw [hk, hk', nx_succ, if_neg]
    intro e
    rw [hik, ← z] at e
    exact absurd (O.inj b (by decide) e) (by lia)
  · unfold nAt hfOf
    rw [hk', if_pos hi, show 8 - i = k by lia]
end
section
open PySem PySem.W PyProof.Rows PySem.Spec PySem.Calls Builtin
noncomputable def rcut (pp : List Nat) : Nat × List Nat × List Nat := match pp.idxOf? 0 with
  | some j => (pp.length - j, pp.take j, pp.drop (j + 1))
  | none => (0, [], pp)
noncomputable def rbubAt (l : List Nat) (k : Nat) : List Nat := if l.getD (k - 1) 0 < l.getD k 0 then (l.set (k - 1) (l.getD k 0)).set k (l.getD (k - 1) 0) else l
noncomputable def rbub : Nat → List Nat → List Nat
  | 0, l => l
  | k + 1, l => rbub k (rbubAt l (k + 1))
noncomputable def rmid (pp : List Nat) : List Nat := (rcut pp).2.1 ++ rbub ((rcut pp).2.2.length - 1) (rcut pp).2.2
noncomputable def rstep (r : Nat) (pp : List Nat) : List Nat := (rmid pp ++ [0]).map (rho r)
noncomputable def ppRun (x : Nat → Nat) : Nat → List Nat
  | 0 => []
  | i + 1 => rstep (x i) (ppRun x i)
theorem rbubAt_len (l : List Nat) (k : Nat) : (rbubAt l k).length = l.length := by unfold rbubAt; split <;> simp
theorem rbubAt_mem {l : List Nat} {k x : Nat} (hk : k < l.length) (h : x ∈ rbubAt l k) : x ∈ l := by
  unfold rbubAt at h
  have h1 : l.getD k 0 ∈ l := by simp [List.getD_eq_getElem?_getD, List.getElem?_eq_getElem hk]
  have h2 : l.getD (k - 1) 0 ∈ l := by simp [List.getD_eq_getElem?_getD, List.getElem?_eq_getElem (show k - 1 < l.length by lia)]
  split at h
  · rcases List.mem_or_eq_of_mem_set h with h | rfl
    · rcases List.mem_or_eq_of_mem_set h with h | rfl
      · exact h
      · exact h1
    · exact h2
  · exact h
theorem getD_mapf {f : Nat → Nat × Nat} {l : List Nat} {k : Nat} (hk : k < l.length) : (l.map f).getD k (0, 0) = f (l.getD k 0) := by
  simp [List.getD_eq_getElem?_getD, List.getElem?_eq_getElem hk]
theorem getD_in {l : List Nat} {k : Nat} (hk : k < l.length) : l.getD k 0 ∈ l := by simp [List.getD_eq_getElem?_getD, List.getElem?_eq_getElem hk]
theorem bubAt_map {f : Nat → Nat × Nat} (hf : ∀ a b, a < 4 → b < 4 → ltP (f a) (f b) = decide (a < b)) {l : List Nat} (hl : ∀ a ∈ l, a < 4) {k : Nat} (hk : k < l.length) : bubAt (l.map f) k = (rbubAt l k).map f := by
  have hk' : k - 1 < l.length := by lia
  unfold bubAt rbubAt
  rw [getD_mapf hk, getD_mapf hk', hf _ _ (hl _ (getD_in hk')) (hl _ (getD_in hk))]
  by_cases h : l.getD (k - 1) 0 < l.getD k 0
  · rw [if_pos (decide_eq_true h), if_pos h, List.map_set, List.map_set]
  · rw [if_neg (by simpa using h), if_neg h]
theorem bub_map {f : Nat → Nat × Nat} (hf : ∀ a b, a < 4 → b < 4 → ltP (f a) (f b) = decide (a < b)) : ∀ (k : Nat) (l : List Nat), (∀ a ∈ l, a < 4) → k < l.length ∨ k = 0 → bub k (l.map f) = (rbub k l).map f
  | 0, _, _, _ => rfl
  | k + 1, l, hl, hk => by
    have hk : k + 1 < l.length := by lia
    rw [bub, rbub, bubAt_map hf hl hk, bub_map hf k _ (fun a h => hl a (rbubAt_mem hk h)) (by rw [rbubAt_len]; lia)]
theorem rbub_mem : ∀ (k : Nat) {l : List Nat}, k < l.length ∨ k = 0 → ∀ {x : Nat}, x ∈ rbub k l → x ∈ l
  | 0, _, _, _, h => h
  | k + 1, l, hk, x, h => by
    have hk : k + 1 < l.length := by lia
    rw [rbub] at h
    exact rbubAt_mem hk (rbub_mem k (by rw [rbubAt_len]; lia) h)
theorem idx_map {f : Nat → Nat × Nat} {x : Nat} : ∀ {pp : List Nat}, (∀ a ∈ pp, (f a).2 = x ↔ a = 0) → ((pp.map f).map (·.2)).idxOf? x = pp.idxOf? 0
  | [], _ => rfl
  | a :: r, h => by
    have ih := idx_map (f := f) (x := x) (pp := r) fun b hb => h b (List.mem_cons_of_mem _ hb)
    rw [List.map_cons, List.map_cons, List.idxOf?_cons, List.idxOf?_cons, ih]
    have ha := h a List.mem_cons_self
    by_cases e : a = 0
    · rw [if_pos (by simpa using ha.mpr e), if_pos (by simpa using e)]
    · rw [if_neg (by simpa using fun q => e (ha.mp q)), if_neg (by simpa using e)]
theorem cut_map {f : Nat → Nat × Nat} {x : Nat} {pp : List Nat} (h : ∀ a ∈ pp, (f a).2 = x ↔ a = 0) : cutOf x (pp.map f) = (((rcut pp).1 : Int), (rcut pp).2.1.map f, (rcut pp).2.2.map f) := by
  unfold cutOf rcut
  rw [idx_map h]
  cases e : pp.idxOf? 0 with
  | none => rfl
  | some j =>
    have hj : j < pp.length := by
      rw [List.idxOf?, List.findIdx?_eq_some_iff_getElem] at e
      exact e.1
    simp only [List.length_map, List.map_take, List.map_drop, Prod.mk.injEq, and_true]
    lia
noncomputable def okP (pp : List Nat) : Bool := pp.all (fun a => Nat.blt a 4) && ((rmid pp).all (fun a => Nat.ble 1 a) && ((rcut pp).2.1.all (fun a => Nat.blt a 4) && (rcut pp).2.2.all (fun a => Nat.blt a 4)))
noncomputable def fAt (q : Nat → Nat) (i j : Nat) : Nat × Nat := (nAt q i (oAt q i j), oAt q i j)
theorem fAt_lt {q : Nat → Nat} {i : Nat} (H : Ord4 (nAt q i) (oAt q i)) : ∀ a b, a < 4 → b < 4 → ltP (fAt q i a) (fAt q i b) = decide (a < b) := by
  intro a b ha hb
  unfold ltP fAt
  dsimp only
  rcases Nat.lt_trichotomy a b with h | h | h
  · have := H.up a b h hb
    rw [if_neg (by lia), decide_eq_true this, decide_eq_true h]
  · subst h; rw [if_pos rfl]; simp
  · have := H.up b a h ha
    rw [if_neg (by lia)]
    simp; lia
theorem pile_ranks {q : Nat → Nat} (hq : ∀ i, q i < 4) (head : Int) (OK : ∀ i, i ≤ 8 → okP (ppRun (rAt q) i) = true) : ∀ i, i ≤ 9 →
    (pileRun q (hfOf q) head i).pile = (ppRun (rAt q) i).map (fAt q i) ∧
    (pileRun q (hfOf q) head i).depths = (List.range i).map (fun j => ((rcut (ppRun (rAt q) j)).1 : Int)) ∧
    (pileRun q (hfOf q) head i).shown = (List.range i).map (fun j => pileText' ((ppRun (rAt q) (j + 1)).map (fAt q (j + 1)))) ∧
    (pileRun q (hfOf q) head i).sizes = (pileRun q (hfOf q) head i).shown.map (fun line => head + line.length)
  | 0, _ => ⟨rfl, rfl, rfl, rfl⟩
  | i + 1, hi => by
    obtain ⟨h1, h2, h3, h4⟩ := pile_ranks hq head OK i (by lia)
    have H := hour hq (i := i) (by lia)
    have ok := OK i (by lia)
    unfold okP at ok
    simp only [Bool.and_eq_true, List.all_eq_true] at ok
    obtain ⟨k1, k2, k3, k4⟩ := ok
    have k1 : ∀ a ∈ ppRun (rAt q) i, a < 4 := fun a h => Nat.ble_eq.mp (k1 a h)
    have k2 : ∀ a ∈ rmid (ppRun (rAt q) i), 1 ≤ a := fun a h => Nat.ble_eq.mp (k2 a h)
    have k3 : ∀ a ∈ (rcut (ppRun (rAt q) i)).2.1, a < 4 := fun a h => Nat.ble_eq.mp (k3 a h)
    have k4 : ∀ a ∈ (rcut (ppRun (rAt q) i)).2.2, a < 4 := fun a h => Nat.ble_eq.mp (k4 a h)
    have kc : ∀ a ∈ ppRun (rAt q) i, (fAt q i a).2 = q i ↔ a = 0 := by
      intro a ha
      show oAt q i a = q i ↔ a = 0
      rw [← H.zero]
      exact ⟨fun e => H.ord.inj (k1 a ha) (by decide) e, fun e => e ▸ rfl⟩
    have kd : (rcut (ppRun (rAt q) i)).2.2.length - 1 < (rcut (ppRun (rAt q) i)).2.2.length ∨ (rcut (ppRun (rAt q) i)).2.2.length - 1 = 0 := by lia
    have km : ∀ a ∈ rmid (ppRun (rAt q) i), fAt q (i + 1) (rho (rAt q i) a) = fAt q i a := by
      intro a ha
      have hlt : a < 4 := by
        rcases List.mem_append.mp ha with h | h
        · exact k3 a h
        · exact k4 a (rbub_mem _ kd h)
      unfold fAt
      rw [H.o', H.n' a (k2 a ha) hlt]
    have kp : (pileStep head (hfOf q i) (q i) (pileRun q (hfOf q) head i)).pile = (ppRun (rAt q) (i + 1)).map (fAt q (i + 1)) := by
      unfold pileStep
      dsimp only
      rw [h1, cut_map kc]
      dsimp only
      rw [List.length_map, bub_map (fAt_lt H.ord) _ _ k4 kd, ← List.map_append]
      show (rmid (ppRun (rAt q) i)).map (fAt q i) ++ _ = (rstep (rAt q i) (ppRun (rAt q) i)).map (fAt q (i + 1))
      unfold rstep
      rw [List.map_map, List.map_append]
      congr 1
      · exact List.map_congr_left fun a ha => (km a ha).symm
      · simp only [List.map_cons, List.map_nil, Function.comp, List.cons.injEq, and_true]
        unfold fAt
        rw [H.o', H.zero, H.hf]
    refine ⟨kp, ?_, ?_, ?_⟩
    · rw [pileRun, List.range_succ, List.map_append, ← h2]
      unfold pileStep
      dsimp only
      rw [h1, cut_map kc]
      rfl
    · rw [pileRun, List.range_succ, List.map_append, ← h3, List.map_singleton, ← kp]
      rfl
    · show _ ++ [_] = (_ ++ [_]).map _
      rw [List.map_append, ← h4, List.map_singleton, pileText_length]
end
section
open PySem PySem.W PyProof.Rows PySem.Spec PySem.Calls Builtin
noncomputable def sig (r k : Nat) : Nat := bif Nat.blt k r then Nat.succ k else bif Nat.beq k r then 0 else k
theorem sig_rho : ∀ r, r < 4 → ∀ j, j < 4 → sig r (rho r j) = j := by decide
theorem rho_sig : ∀ r, r < 4 → ∀ j, j < 4 → rho r (sig r j) = j ∧ sig r j < 4 := by decide
noncomputable def crD (P : Nat) (c : List Nat) (j : Nat) : Nat := bif Nat.beq j 0 then 5 else gC P (c.getD 0 0) (c.getD j 0)
noncomputable def rpStep (P r : Nat) (s : TS) : TS := (rstep r s.1, [crD P s.2 (sig r 0), crD P s.2 (sig r 1), crD P s.2 (sig r 2), crD P s.2 (sig r 3)])
noncomputable def has (l : List Nat) (j : Nat) : Bool := l.any fun a => Nat.beq a j
theorem has_iff {l : List Nat} {j : Nat} : has l j = true ↔ j ∈ l := by
  unfold has
  rw [List.any_eq_true]
  exact ⟨fun ⟨a, h, e⟩ => Nat.beq_eq.mp e ▸ h, fun h => ⟨j, h, Nat.beq_eq.mpr rfl⟩⟩
noncomputable def ndB : List Nat → Bool
  | [] => true
  | a :: r => !has r a && ndB r
theorem ndB_iff : ∀ {l : List Nat}, ndB l = true → l.Nodup
  | [], _ => List.nodup_nil
  | a :: r, h => by
    rw [ndB, Bool.and_eq_true] at h
    refine List.nodup_cons.mpr ⟨fun m => ?_, ndB_iff h.2⟩
    have h1 := h.1
    rw [has_iff.mpr m] at h1
    cases h1
noncomputable def okQ (r : Nat) (pp : List Nat) : Bool := ndB (rstep r pp) && ((rstep r pp).all (fun a => Nat.blt a 4) && (([0, 1, 2, 3].all fun j => has (rstep r pp) (rho r j) == (Nat.beq j 0 || has pp j)) &&
  Nat.beq (rstep r pp).length (bif Nat.beq (rcut pp).1 0 then Nat.succ pp.length else pp.length)))
noncomputable def rpOk (P : Nat) (r : Nat) (s : TS) : Bool := okP s.1 && okQ r s.1 && decide ((2 ≤ s.2.getD 0 0) ↔ (0 < (rcut s.1).1 ∧ (rcut s.1).1 ≤ P))
theorem runB_pp {step : Nat → TS → TS} (h : ∀ r s, (step r s).1 = rstep r s.1) {s : TS} (h0 : s.1 = []) (x : Nat → Nat) : ∀ i, (runB step s x i).1 = ppRun x i
  | 0 => h0
  | i + 1 => by show (step (x i) (runB step s x i)).1 = _; rw [h, runB_pp h h0 x i]; rfl
theorem rp_c {q : Nat → Nat} (hq : ∀ i, q i < 4) (P : Nat) : ∀ i, i ≤ 9 → ∀ j, j < 4 → (runB (rpStep P) (deco 585) (rAt q) i).2.getD j 0 = crun q P i (oAt q i j)
  | 0, _, j, hj => by rcases lt4 hj with rfl | rfl | rfl | rfl <;> rfl
  | i + 1, hi, j, hj => by
    have ih := rp_c hq P i (by lia)
    have H := hour hq (i := i) (by lia)
    obtain ⟨h1, h2⟩ := rho_sig _ H.r j hj
    have e : (runB (rpStep P) (deco 585) (rAt q) (i + 1)).2.getD j 0 = crD P (runB (rpStep P) (deco 585) (rAt q) i).2 (sig (rAt q i) j) := by
      rcases lt4 hj with rfl | rfl | rfl | rfl <;> rfl
    have eo : oAt q (i + 1) j = oAt q i (sig (rAt q i) j) := by rw [← H.o', h1]
    rw [e, crun_succ, eo]
    unfold crD
    rw [ih 0 (by decide), ih _ h2, H.zero]
    by_cases hz : sig (rAt q i) j = 0
    · rw [hz, H.zero, if_pos rfl]; rfl
    · rw [if_neg fun e => hz (H.ord.inj h2 (by decide) (e.trans H.zero.symm)), show Nat.beq (sig (rAt q i) j) 0 = false from Bool.eq_false_iff.mpr fun h => hz (Nat.beq_eq.mp h)]
      rfl
noncomputable def pt1 : List Nat := [79228167315538952760278141732, 281754158189349, 1, 281474985306338, 281753109482278, 79344826297250908035071723815, 281478206470435, 281476075759972, 22301086159894543368050334091474339539081510, 79228162602215416608067770663, 1, 79228167257897381405498001701, 79229373871064825111771334931, 1, 1, 1, 79228171991612934786361010979, 281474976921745, 79228776482657292335427180838, 281616735947111, 1, 79228474232345817176820861221, 1, 281476067436899, 1, 22300832944633633073701107383473383101585701, 1, 1, 1, 281475002161298, 79383214385567398967023586087, 281474993695506, 281475010446610, 79228162553972856983054992610, 281477149641491, 281616727624037, 79228162516898943375589492882, 1, 1, 1, 1766847223249203392781044308593219387872833870876250054945858477751388454, 79228471908307983444908034212, 1, 1, 281614596917606, 79228774082279223205086579494, 79228769417270303989516454180, 1, 1, 1, 281474976785633, 281478214793508, 281753084513061, 22300831620526866447161325801224086652803236, 281615670593894, 1, 281475002022162, 281479297026324, 1, 281477157832484, 79228164915034782842518522212]
noncomputable def pt2 : List Nat := [22300917356578117524587357143606570627909092, 281750953806645, 1, 281475002022290, 22301001098137070243189463491341405261166901, 1, 281474985307362, 1766847118318157775176786827921683003440809529604890911190588660929089319, 282027970645287, 6277101742354883112635621948394806670333037167366679714103, 22300916027190397763138401629716908641373669, 281478215006611, 22300746533745891284018462229401411044732726, 79229373871069610596536441253, 1, 79229071610863445168280005094, 79229373871357559086493300900, 6277101740094122767051087769274624471735458830588775181108, 79306442904063410214235500006, 282026888645029, 22300916020862285967703443340154446888988006, 1, 79228776447785920558111378853, 281479288704403, 22300746550618320656999315452395850083519781, 79305843163236359132330289957, 281889474697639, 1, 79305843163524307895001042277, 1, 1, 6277126059397584064623293173612113818246013851020877285687, 281478231652628, 22300745209707577828279131668513275947088167, 6277102114184328812268355574127402983344269683908784868662, 1, 281474976720016, 79228774140209025350440876453, 1, 281475010514066, 281475010446738, 6277102298388484152300785353391837609552330797860285217206, 79228776484963135480997793206, 281616735955303, 79229378556826331681913064676, 281476084163940, 281750962129719, 79228769417275089064120535349, 22300917339704499612809725943226906754271655, 22300832945282670257784751558008150480288037, 22300745204470913237417244371416154739145126, 282026905292198, 79267759638892882725901126119, 281475002169490, 281754174843687, 79383212042871152526489833253, 1, 79228164956503928212428049767, 282025823292852, 79229073953595720406873106789, 281479297027348]
noncomputable def pt3 : List Nat := [281614588613094, 282025823293893, 79267759639217142310298176054, 79228774142803098324588206484, 79344531117104740288511973799, 6277173764722824829674177342870655029198267138907161513798, 282025823292997, 79229073953636252937745617718, 22300918016648934932073409833266840290447926, 497323236961864510251414076515969375954604603494291772347908058535807622152667307085159, 22300832286023228385543004707109022877313862, 79228169638891957051367647044, 1, 1766847170565137019130721024504448012149467583232278188345556298153236791, 1, 79228164915106840298052095204, 22300747216236297825440071244102087682983396, 79228162573680608956723219652, 22300747866169634116957124540239259109707366, 22301001762779035600545645682021785258807719, 6277101929063523642019556156123038538477469708600922443559, 6277149817598886330200191776467397195626142263280673135029, 79306442904356144464867383863, 6277149817621387782274321299358571979772578366430627656038, 22300916020944683256413656839327007713300245, 281479280248373, 22301086159917361079151978439087425354764773, 281477149659923, 22301001098786265884500097434243041706823991, 79229071654606908485286522693, 281616727640551, 6277197896063407064374062249698188542520779548452083495734, 79228469549250722780837868357, 22300745209707577751809871148559045750917942, 497325178540241454929373776111446956744479368102587062550707856138313568874974731662118, 22300916027840702521657629728751585767640390, 22300745199272198898320844935621422063259446, 1766847171406871244244158251181111588965191578941349851365168521698005302, 1, 79267462113411640770657800679, 1, 281478231595188, 1766847223249404259965301393726450989054981841629356464838719364734881254, 281478215014931, 79344526431667774087370018150, 6277126059446088207122434537239186017314704103097273340342, 79306442906661987474081086005, 281477157848884, 6277102487729303937957935893651004252463273332808056341989, 1, 22300745204470913198731628272624922765003575, 1, 281477149438772, 79305843165834936117323075381, 282026905293222, 79305843166118944367775420198, 22300831621845223147865655399007654187878854, 79344526427056088341673056566, 281889474705958, 22344387761066621932113239038374075882033975, 1]
set_option maxHeartbeats 0 in
theorem pa1 : allB pt1 585 (rpStep 1) (rpOk 1) = true := by decide +kernel
set_option maxHeartbeats 0 in
theorem pa2 : allB pt2 585 (rpStep 2) (rpOk 2) = true := by decide +kernel
set_option maxHeartbeats 0 in
theorem pa3 : allB pt3 585 (rpStep 3) (rpOk 3) = true := by decide +kernel
theorem pp_oks {q : Nat → Nat} (hq : ∀ i, q i < 4) : ∀ i, i ≤ 8 → okP (ppRun (rAt q) i) = true ∧ okQ (rAt q i) (ppRun (rAt q) i) = true := by
  intro i hi
  have hr : ∀ i, rAt q i < 4 := fun i => by
    by_cases h : i < 9
    · exact (hour hq h).r
    · unfold rAt; rw [if_neg h]; decide
  have := run_all pa1 hr i hi
  unfold rpOk at this
  rw [Bool.and_eq_true, Bool.and_eq_true, runB_pp (fun _ _ => rfl) rfl] at this
  exact this.1
theorem pp_ok {q : Nat → Nat} (hq : ∀ i, q i < 4) (i : Nat) (hi : i ≤ 8) : okP (ppRun (rAt q) i) = true := (pp_oks hq i hi).1
theorem depth_rows {pt : List Nat} {P : Nat} (hP : 1 ≤ P ∧ P ≤ 3) (H : allB pt 585 (rpStep P) (rpOk P) = true) {q : Nat → Nat} (hq : ∀ i, q i < 4) (head : Int) :
    (rowRun q P 9).told = (pileRun q (hfOf q) head 9).depths.map fun d : Int => if 0 < d ∧ d ≤ (P : Int) then (1 : Int) else 0 := by
  rw [(rows_c hP 9).2.2, (pile_ranks hq head (pp_ok hq) 9 (by lia)).2.1, List.map_map]
  refine List.map_congr_left fun j hj => ?_
  rw [List.mem_range] at hj
  have hr : ∀ i, rAt q i < 4 := fun i => by
    by_cases h : i < 9
    · exact (hour hq h).r
    · unfold rAt; rw [if_neg h]; decide
  have := run_all H hr j (by lia)
  unfold rpOk at this
  rw [Bool.and_eq_true, runB_pp (fun _ _ => rfl) rfl, rp_c hq P j (by lia) 0 (by decide), (hour hq hj).zero, decide_eq_true_eq] at this
  simp only [Function.comp]
  by_cases h : 2 ≤ crun q P j (q j)
  · have := this.2.mp h
    rw [if_pos h, if_pos (by lia)]
  · rw [if_neg h, if_neg fun e => h (this.2.mpr (by lia))]
theorem depth_best {q : Nat → Nat} (hq : ∀ i, q i < 4) (head : Int) (P : Nat) (h1 : 1 ≤ P) (h3 : P ≤ 3) :
    (bestRun q P 9).told = (pileRun q (hfOf q) head 9).depths.map fun d : Int => if 0 < d ∧ d ≤ (P : Int) then (1 : Int) else 0 := by
  rw [← rows_best hq P h1 h3]
  have : P = 1 ∨ P = 2 ∨ P = 3 := by lia
  rcases this with rfl | rfl | rfl
  · exact depth_rows (by lia) pa1 hq head
  · exact depth_rows (by lia) pa2 hq head
  · exact depth_rows (by lia) pa3 hq head
end
section
open PySem PySem.W PyProof.Rows PySem.Spec PySem.Calls Builtin
noncomputable def rmax : List Nat → Nat
  | [] => 0
  | a :: r => max a (rmax r)
noncomputable def hmid (P : Nat) (hl : List Nat) : List Nat := bif has hl 0 then hl else bif Nat.beq hl.length P then hl.filter (fun a => !Nat.beq a (rmax hl)) else hl
noncomputable def hput (hl : List Nat) : List Nat := bif has hl 0 then hl else hl ++ [0]
noncomputable def hpStep (P r : Nat) (s : TS) : TS := (rstep r s.1, (hput (hmid P s.2)).map (rho r))
noncomputable def hpOk (P r : Nat) (s : TS) : Bool := s.2.all (fun a => Nat.blt a 4) && ((hpStep P r s).1.all (fun a => Nat.blt a 4) && [0, 1, 2, 3].all fun j =>
  has (hpStep P r s).2 j == has ((hpStep P r s).1.drop ((hpStep P r s).1.length - P)) j)
theorem rmax_le : ∀ (l : List Nat), ∀ a ∈ l, a ≤ rmax l
  | [], a, h => nomatch h
  | b :: r, a, h => by
    rw [rmax]
    rcases List.mem_cons.mp h with rfl | h
    · lia
    · have := rmax_le r a h; lia
theorem rmax_mem : ∀ (l : List Nat), l ≠ [] → rmax l ∈ l
  | [], h => absurd rfl h
  | [a], _ => by simp [rmax]
  | a :: b :: r, _ => by
    have ih := rmax_mem (b :: r) (by simp)
    rw [rmax]
    by_cases h : rmax (b :: r) ≤ a
    · rw [Nat.max_eq_left h]; exact List.mem_cons_self
    · rw [Nat.max_eq_right (by lia)]; exact List.mem_cons_of_mem _ ih
noncomputable def gAt (q : Nat → Nat) (i j : Nat) : Str × Int := (sg (oAt q i j), (nAt q i (oAt q i j) : Int))
theorem get_ranks {q : Nat → Nat} {i : Nat} (H : Ord4 (nAt q i) (oAt q i)) {j : Nat} (hj : j < 4) : ∀ {hl : List Nat}, (∀ a ∈ hl, a < 4) → (ID.get (hl.map (gAt q i)) (sg (oAt q i j))).isSome = has hl j
  | [], _ => rfl
  | a :: r, h => by
    have ih := get_ranks H hj (hl := r) fun b hb => h b (List.mem_cons_of_mem _ hb)
    have ha := h a List.mem_cons_self
    unfold ID.get has at *
    rw [List.map_cons, List.find?_cons, List.any_cons]
    by_cases e : a = j
    · subst e; simp [gAt]
    · have e1 : decide ((gAt q i a).1 = sg (oAt q i j)) = false := decide_eq_false fun x => e (H.inj ha hj (sg_inj x))
      rw [e1, show Nat.beq a j = false from Bool.eq_false_iff.mpr fun x => e (Nat.beq_eq.mp x), Bool.false_or]
      exact ih
theorem mid_ranks {q : Nat → Nat} {i : Nat} (H : Hour q i) {P : Nat} (hP : 1 ≤ P) {hl : List Nat} (h : ∀ a ∈ hl, a < 4) : heldMid P (q i) (hl.map (gAt q i)) = (hmid P hl).map (gAt q i) := by
  unfold heldMid hmid
  rw [← H.zero, ← Option.not_isSome, get_ranks H.ord (by decide) h, List.length_map]
  cases e : has hl 0 with
  | true => rw [if_neg (by simp)]; rfl
  | false =>
    rw [cond_false]
    by_cases hlen : hl.length = P
    · rw [if_pos ⟨rfl, by lia⟩, Nat.beq_eq.mpr hlen, cond_true]
      have hne : hl ≠ [] := by rintro rfl; simp at hlen; lia
      have hm := rmax_mem hl hne
      have up : ∀ a b, a ≤ b → b < 4 → nAt q i (oAt q i a) ≤ nAt q i (oAt q i b) := by
        intro a b hab hb
        rcases Nat.lt_or_eq_of_le hab with hab | rfl
        · exact Nat.le_of_lt (H.ord.up a b hab hb)
        · exact Nat.le_refl _
      have e2 : (gAt q i (rmax hl)).2 = maxv (hl.map (gAt q i)) := by
        refine maxv_eq ⟨_, List.mem_map.mpr ⟨_, hm, rfl⟩, rfl⟩ fun p hp => ?_
        obtain ⟨a, ha, rfl⟩ := List.mem_map.mp hp
        exact Int.ofNat_le.mpr (up a _ (rmax_le hl a ha) (h _ hm))
      rw [← e2, List.filter_map]
      congr 1
      refine List.filter_congr fun a ha => ?_
      simp only [Function.comp]
      by_cases e3 : a = rmax hl
      · rw [e3, Nat.beq_eq.mpr rfl]; simp
      · rw [show Nat.beq a (rmax hl) = false from Bool.eq_false_iff.mpr fun x => e3 (Nat.beq_eq.mp x)]
        have := H.ord.up a (rmax hl) (by have := rmax_le hl a ha; lia) (h _ hm)
        refine decide_eq_true fun x => ?_
        have : nAt q i (oAt q i a) = nAt q i (oAt q i (rmax hl)) := Int.ofNat.inj x
        lia
    · rw [if_neg fun x => hlen (by lia), show Nat.beq hl.length P = false from Bool.eq_false_iff.mpr fun x => hlen (Nat.beq_eq.mp x)]; rfl
theorem hmid_mem {P : Nat} {hl : List Nat} {a : Nat} (h : a ∈ hmid P hl) : a ∈ hl := by
  unfold hmid at h
  cases e : has hl 0 with
  | true => rw [e] at h; exact h
  | false =>
    rw [e, cond_false] at h
    cases e2 : Nat.beq hl.length P with
    | true => rw [e2, cond_true] at h; exact (List.mem_filter.mp h).1
    | false => rw [e2] at h; exact h
theorem put_ranks {q : Nat → Nat} {i : Nat} (H : Hour q i) {hl : List Nat} (h : ∀ a ∈ hl, a < 4) : ID.put (hl.map (gAt q i)) (sg (q i)) (hfOf q i) = ((hput hl).map (rho (rAt q i))).map (gAt q (i + 1)) := by
  have hz : gAt q (i + 1) (rho (rAt q i) 0) = (sg (q i), (hfOf q i : Int)) := by unfold gAt; rw [H.o', H.zero, H.hf]
  have hn : ∀ a ∈ hl, a ≠ 0 → gAt q (i + 1) (rho (rAt q i) a) = gAt q i a := by
    intro a ha e
    unfold gAt
    rw [H.o', H.n' a (by lia) (h a ha)]
  have hk : ∀ a ∈ hl, ((gAt q i a).1 = sg (q i)) ↔ a = 0 := by
    intro a ha
    rw [← H.zero]
    exact ⟨fun e => H.ord.inj (h a ha) (by decide) (sg_inj e), fun e => e ▸ rfl⟩
  have ha : (hl.map (gAt q i)).any (fun p => decide (p.1 = sg (q i))) = has hl 0 := by
    unfold has
    rw [List.any_map, Bool.eq_iff_iff, List.any_eq_true, List.any_eq_true]
    exact ⟨fun ⟨a, m, e⟩ => ⟨a, m, Nat.beq_eq.mpr ((hk a m).mp (of_decide_eq_true e))⟩, fun ⟨a, m, e⟩ => ⟨a, m, decide_eq_true ((hk a m).mpr (Nat.beq_eq.mp e))⟩⟩
  unfold ID.put hput
  rw [ha]
  cases e : has hl 0 with
  | true =>
    rw [if_pos rfl, cond_true, List.map_map, List.map_map]
    refine List.map_congr_left fun a m => ?_
    simp only [Function.comp]
    by_cases e2 : a = 0
    · rw [if_pos ((hk a m).mpr e2), e2, hz, show (gAt q i 0).1 = sg (q i) from congrArg sg H.zero]
    · rw [if_neg fun x => e2 ((hk a m).mp x), hn a m e2]
  | false =>
    rw [if_neg (by simp), cond_false, List.map_append, List.map_append, List.map_map]
    congr 1
    · refine List.map_congr_left fun a m => ?_
      refine (hn a m fun e2 => ?_).symm
      rw [has_iff.mpr (e2 ▸ m)] at e; cases e
    · rw [List.map_cons, List.map_cons, hz]; rfl
theorem hpOk_bd {P r : Nat} {s : TS} (h : hpOk P r s = true) : (∀ a ∈ s.2, a < 4) ∧ (∀ a ∈ (hpStep P r s).1, a < 4) ∧ ∀ j, j < 4 → has (hpStep P r s).2 j = has ((hpStep P r s).1.drop ((hpStep P r s).1.length - P)) j := by
  unfold hpOk at h
  rw [Bool.and_eq_true, Bool.and_eq_true] at h
  obtain ⟨h1, h2, h3⟩ := h
  refine ⟨fun a m => Nat.ble_eq.mp (List.all_eq_true.mp h1 a m), fun a m => Nat.ble_eq.mp (List.all_eq_true.mp h2 a m), fun j hj => ?_⟩
  have := List.all_eq_true.mp h3 j (by simp; lia)
  exact eq_of_beq this
noncomputable def ht1 : List Nat := [79228162514264337593569247282, 1, 1, 281475010461762, 79383212028355769450375610406, 79345430716858604521257041943, 1, 281479296909380, 281477132845091, 1, 22300745203724266879742380850713727124766740, 79267759631016087116117704741, 281474985230354, 1, 281479288520772, 281474993684514, 281479296974916, 281476075749396, 281475002138674, 281476084203540, 22300745208917831465648985509923977464905780, 1766847118668771569756248061613041041714507529379555156891163261787111461, 1, 1, 22300746548530500196403796688509241768607815, 1, 1, 1, 79229071643613621521070751780, 1, 1766847066012820325559428898334114790143358875202850246187401066624253974, 1, 281479288651843, 281476067426323, 1, 281476075880467, 1, 1, 1, 79229373856626284704290766884, 22300745219304960561890053340248929751662614, 281478231556148, 281476067491859, 1, 1, 1, 22300747862184140667925479634880113787797557, 1, 1, 79344531106043899737916178502, 22301003079150519075322738896231128090345527, 1, 281475001942066, 1, 1, 22300747867376437487774681039964189942153268, 1, 1, 281474993553442, 79344833319052059322573979718, 281477132779555]
noncomputable def ht2 : List Nat := [281474976710656, 6277101928316738587557021602127362977422799133686888661301, 1, 79383814111743958987172872599, 1, 79228167255123444961357398469, 1, 22301086161130502702963554827456130156921160, 281889449705893, 1, 497323236525608767793011125467114448884312756036581620785869217189124681927432603828790, 281477149622579, 6277102110998711962320112260459420132723978392169668083879, 281475001942418, 497323295812064849856456909467445936446248341124358259284675549775807245250983652032968, 1, 22300747202781533582477959963248244765622472, 79229073949560777024829784598, 79229071606756443645647520164, 281750962110742, 281474976841761, 139984050623228160305620518310486268846660280962351415767722267825339790982640303153781635031672881719, 1, 79228169634825206587852062995, 281475010396706, 1, 1, 79228172014464480769558577333, 1766847118259008651701736025038195575389557403881295113670580290002682406, 1, 6277101739772278412684842991236163044963700151046987973062, 79228164930837913799669907908, 22300746543359753320694531504225646710816966, 282025823240724, 281475010462258, 22322610355238341561777413778020160111903141, 281478206587060, 22301001760327399455761095375893908255015447, 79229373838215850904715854389, 6277102113924948844950634426556431270606187763590039273798, 79228162588069609766188614084, 22300745883929178731970084531999302393856310, 6277102115384287309910890426348083361379684508211316261268, 281475002139074, 79229074004900445749461975589, 22300745878753440559400774980181858449424693, 79383511898699770605496107287, 79229373856662594978425471541, 22301086825728100443461569200856170986799559, 281476067426580, 22300747213186409709453498412909360337518774, 79228469541918580837632377364, 281477149426084, 22300918003405789112091170157122251672191525, 281475010330819, 79267459760784676090202358328, 281474993750563, 22300918013772715025389406378748005090197703, 281476067492116, 79229373838310145018692895124, 79228169616311190544464413221]
noncomputable def ht3 : List Nat := [1766847064778384329607621304672992311136896117426515586183969533004417591, 497323251695280617299583874917191190601500005995149805524941038128673025902306572505270, 139986186610965306975216913670554906271615310463284957918961795039407787260093029074880222830933380648, 79228469542251847348562168998, 1766853964388251902555898634730596923596228811006045026725843956679312695, 497323266168641572244269870078637683955090697374480897653417188839523396981239557850663, 6277173764113724576066707650433594894608458877650740579527, 22300918014095886623216088733362003814518967, 1766867390476037883213232792680595952694421230915153139717206126991904950, 79228469543103590629170611655, 139984046418713793276270403993299129242866106132770477921557317598728301731455770379180546402931707158, 22301086161444880051522665477889625747096999, 22300746532972624302726670023557650285990294, 1766847223160721369760453166047194362805460130926836193572952680421262903, 6277102485148840109715029242753055659816563837295248216484, 139984593030583437421622171809834042610346926691016922404394691857649989903987498502136501922011614535, 497323281106075509821854529561209128601124786292207246774757519915769355727845734876727, 497325163656095624805337154824405554752429928477802411921815345167463768868476281753912, 79383212028968821952864129336, 6277149817358751905901758989581617399846398432839767100966, 497323236641429126603478018421699108225701701558963508240054554108811462836016801581255, 6277101925385506337747486814336199150730640909008979954119, 6277173946775761117287430737023418815027299919859265177142, 139984058967054834118254952006858587874311845233366089231668930798775599689355650031424934323517787334, 39402010911904064978265182394115147640094124543444090520719404769658175116649330493379653765549009202903966191522216, 1769462233110843224859505514608611135666824854586395655959495654160535976, 139985652615033375291757864953650372201469367180536745849060553762842006996469723518161228227481243958, 139984063171513500937582965855403014263735557920895713479501397684506307790688617780374660056264872120, 139984050623284357829393341574848177743094268714580052085221590815706100158607478976959331386571950647, 139985652614086969172840396165146399463158423281657747872252330448586822824132220078249933258375630375, 22300745214111395897715021628712597040729639, 6277101926847364786917149928637144370806163512918785918263, 1766847171326725209358573726839294312355330077066037673749585122247643559, 497328942881442072711577968588367467480395726552046938932174563411175452324314973603271, 22300747872608031515520991755684979092490422, 139984592965215271226008088565630260951370613687693387912274898971466299107534945578821790893640648135, 6277173761142574014213610626725889573958143207589221042742, 1766860755801769487028100972696374182458176928373504619053311160811064870, 497325193072235229698562398162209535209929656287288929448336170718184252029859417624103, 39402008572517698695573272879368393222075734477592434962843933084360942833355121043473236877276288230866703825962534, 1766847066424296898613647426957703648523418430937594147502210864583411255, 11090679117347887335293011406207949685244252576352491524136230907377679592629954924904663921688384929929575188945229462922032451992, 497323266516298768619350496901711691711570301469672825042622806140926736215147622303287, 497323281337912347426750630292255574369838603438414458233453161112000269014617609667910, 6277197706403262951604481953425002393693822072131221065238, 1766847118671188253900239675047793983019330687415576018220934605870073253, 1766867339060542375557147667920390877317079111526763110196979756123164183, 1766867391717491684987668523419899642541224644939122732288294777522424006, 39402608616511141683065735786652420392788453959572535676084401855435104877743226875269272657357485660237562873383318, 11090721752955768109142466258646253077464805795296605721751521041580252768719791676677325031847196843974039068766184525520850455880, 79228169671759508609058345381, 6277126059230618385322552009726640855243145304746456322359, 22300917339013630035685335168314067046827335, 79229378561262940541859991862, 22300747862194361061899582790886214529518023, 497330840020841388287769123889231612955396523921459103556353197792519752783718028215718, 39402008581709611116932909087817583018197540215834294479892638540317801273998993598390551649393351947758533922064839, 1766860703146929277722339495563753322240215251473113279567551944800273958, 497330840136463860213605746285913370354086497238887544581780035982885107445409995887015, 497330854958077439021006302395313361011158210980421678048730831291550807786420114229783, 1766847223159321582203069972787309934707876859346131132780220745880046790]
set_option maxHeartbeats 0 in
theorem ha1 : allB ht1 0 (hpStep 1) (hpOk 1) = true := by decide +kernel
set_option maxHeartbeats 0 in
theorem ha2 : allB ht2 0 (hpStep 2) (hpOk 2) = true := by decide +kernel
set_option maxHeartbeats 0 in
theorem ha3 : allB ht3 0 (hpStep 3) (hpOk 3) = true :=
  look_both (by decide +kernel) (all_cut 30 (by decide +kernel) (by decide +kernel))
theorem rAt_lt {q : Nat → Nat} (hq : ∀ i, q i < 4) (i : Nat) : rAt q i < 4 := by
  by_cases h : i < 9
  · exact (hour hq h).r
  · unfold rAt; rw [if_neg h]; decide
theorem held_ranks {ht : List Nat} {P : Nat} (hP : 1 ≤ P) (K : allB ht 0 (hpStep P) (hpOk P) = true) {q : Nat → Nat} (hq : ∀ i, q i < 4) : ∀ i, i ≤ 9 →
    (heldRun q (hoursOf q) P i).held = (runB (hpStep P) (deco 0) (rAt q) i).2.map (gAt q i) ∧
    (heldRun q (hoursOf q) P i).told = (List.range i).map fun j => upText P (pileText' ((ppRun (rAt q) (j + 1)).map (fAt q (j + 1))))
  | 0, _ => ⟨rfl, rfl⟩
  | i + 1, hi => by
    obtain ⟨h1, h2⟩ := held_ranks hP K hq i (by lia)
    have H := hour hq (i := i) (by lia)
    obtain ⟨k1, k2, k3⟩ := hpOk_bd (run_all K (rAt_lt hq) i (by lia))
    have e0 : (runB (hpStep P) (deco 0) (rAt q) (i + 1)) = hpStep P (rAt q i) (runB (hpStep P) (deco 0) (rAt q) i) := rfl
    have ep : (runB (hpStep P) (deco 0) (rAt q) (i + 1)).1 = ppRun (rAt q) (i + 1) := runB_pp (fun _ _ => rfl) rfl _ _
    rw [← e0] at k2 k3
    rw [ep] at k2 k3
    have eh : (heldStep P (q i) (hoursOf q i) (heldRun q (hoursOf q) P i)).held = (runB (hpStep P) (deco 0) (rAt q) (i + 1)).2.map (gAt q (i + 1)) := by
      show ID.put (heldMid P (q i) (heldRun q (hoursOf q) P i).held) (sg (q i)) (hoursOf q i) = _
      rw [h1, mid_ranks H hP k1, hf_hours (by lia), put_ranks H fun a m => k1 a (hmid_mem m)]
      rfl
    have kh : ∀ a ∈ (runB (hpStep P) (deco 0) (rAt q) (i + 1)).2, a < 4 := by
      intro a m
      obtain ⟨b, hb, rfl⟩ := List.mem_map.mp m
      refine rho_lt _ H.r b ?_
      unfold hput at hb
      cases e : has (hmid P (runB (hpStep P) (deco 0) (rAt q) i).2) 0 with
      | true => rw [e] at hb; exact k1 b (hmid_mem hb)
      | false =>
        rw [e, cond_false] at hb
        rcases List.mem_append.mp hb with hb | hb
        · exact k1 b (hmid_mem hb)
        · rw [List.mem_singleton] at hb; lia
    refine ⟨eh, ?_⟩
    rw [List.range_succ, List.map_append, ← h2, List.map_singleton]
    show _ ++ [textOf (heldStep P (q i) (hoursOf q i) (heldRun q (hoursOf q) P i)).held] = _
    congr 2
    rw [eh]
    have hw : Txt.words (pileText' ((ppRun (rAt q) (i + 1)).map (fAt q (i + 1)))) = ((ppRun (rAt q) (i + 1)).map (fAt q (i + 1))).map (fun x => sg x.2) := by
      refine words_pile fun x m => ?_
      obtain ⟨a, ha, rfl⟩ := List.mem_map.mp m
      refine ⟨?_, H.ord'.lt a (k2 a ha)⟩
      have := (nx_bd (q := q) (9 - (i + 1)) _ (by lia) (H.ord'.lt a (k2 a ha))).1
      show 1 ≤ nx q (9 - (i + 1)) (oAt q (i + 1) a)
      lia
    unfold textOf upText srt
    rw [hw]
    congr 1
    refine List.filter_congr fun pg hpg => ?_
    have hpg : pg < 4 := by simp at hpg; lia
    obtain ⟨j, hj, rfl⟩ := H.ord'.onto hpg
    rw [get_ranks H.ord' hj kh, k3 j hj, List.length_map, List.length_map, ← List.map_drop, ← List.map_drop, List.map_map, Bool.eq_iff_iff, has_iff, decide_eq_true_eq]
    constructor
    · intro m; exact List.mem_map.mpr ⟨j, m, rfl⟩
    · intro m
      obtain ⟨a, ha, e⟩ := List.mem_map.mp m
      exact H.ord'.inj (k2 a (List.mem_of_mem_drop ha)) hj (sg_inj e) ▸ ha
theorem held_pile {q : Nat → Nat} (hq : ∀ i, q i < 4) (head : Int) (P : Nat) (h1 : 1 ≤ P) (h3 : P ≤ 3) : (heldRun q (hoursOf q) P 9).told = (pileRun q (hfOf q) head 9).shown.map (upText P) := by
  rw [(pile_ranks hq head (pp_ok hq) 9 (by lia)).2.2.1, List.map_map]
  have : P = 1 ∨ P = 2 ∨ P = 3 := by lia
  rcases this with rfl | rfl | rfl
  · exact (held_ranks (by lia) ha1 hq 9 (by lia)).2
  · exact (held_ranks (by lia) ha2 hq 9 (by lia)).2
  · exact (held_ranks (by lia) ha3 hq 9 (by lia)).2
end
section
open PySem PySem.W PyProof.Rows PySem.Spec PySem.Calls Builtin
theorem okQ_all {r : Nat} {pp : List Nat} (h : okQ r pp = true) : (rstep r pp).Nodup ∧ (∀ a ∈ rstep r pp, a < 4) ∧ (∀ j, j < 4 → (rho r j ∈ rstep r pp ↔ j = 0 ∨ j ∈ pp)) ∧ (rstep r pp).length = if (rcut pp).1 = 0 then pp.length + 1 else pp.length := by
  unfold okQ at h
  rw [Bool.and_eq_true, Bool.and_eq_true, Bool.and_eq_true] at h
  obtain ⟨h1, h2, h3, h4⟩ := h
  refine ⟨ndB_iff h1, fun a m => Nat.ble_eq.mp (List.all_eq_true.mp h2 a m), fun j hj => ?_, ?_⟩
  · have := eq_of_beq (List.all_eq_true.mp h3 j (by simp; lia))
    rw [← has_iff, this, Bool.or_eq_true, has_iff]
    exact or_congr ⟨fun h => Nat.beq_eq.mp h, fun h => Nat.beq_eq.mpr h⟩ Iff.rfl
  · rw [Nat.beq_eq.mp h4]
    by_cases e : (rcut pp).1 = 0
    · rw [if_pos e, e]; rfl
    · rw [if_neg e, show Nat.beq (rcut pp).1 0 = false from Bool.eq_false_iff.mpr fun x => e (Nat.beq_eq.mp x)]; rfl
theorem pp_zeros {q : Nat → Nat} (hq : ∀ i, q i < 4) : ∀ i, i ≤ 9 → (ppRun (rAt q) i).length = ((List.range i).map (fun j => ((rcut (ppRun (rAt q) j)).1 : Int))).count 0
  | 0, _ => rfl
  | i + 1, hi => by
    have ih := pp_zeros hq i (by lia)
    have := (okQ_all (pp_oks hq i (by lia)).2).2.2.2
    show (rstep (rAt q i) (ppRun (rAt q) i)).length = _
    rw [this, List.range_succ, List.map_append, List.count_append, ← ih, List.map_singleton, List.count_singleton]
    by_cases e : (rcut (ppRun (rAt q) i)).1 = 0
    · rw [if_pos e, e]; rfl
    · rw [if_neg e, if_neg fun x => e (by have := beq_iff_eq.mp x; lia)]
      rfl
theorem pp_asked {q : Nat → Nat} (hq : ∀ i, q i < 4) : ∀ i, i ≤ 9 → ∀ j, j < 4 → (j ∈ ppRun (rAt q) i ↔ ∃ k, k < i ∧ q k = oAt q i j)
  | 0, _, j, _ => by
    constructor
    · intro h; cases h
    · rintro ⟨k, hk, _⟩; lia
  | i + 1, hi, j, hj => by
    have H := hour hq (i := i) (by lia)
    have ih := pp_asked hq i (by lia)
    obtain ⟨r1, r2⟩ := rho_sig _ H.r j hj
    have := (okQ_all (pp_oks hq i (by lia)).2).2.2.1 (sig (rAt q i) j) r2
    rw [r1] at this
    have eo : oAt q (i + 1) j = oAt q i (sig (rAt q i) j) := by rw [← H.o', r1]
    show j ∈ rstep (rAt q i) (ppRun (rAt q) i) ↔ _
    rw [this, ih _ r2, eo]
    constructor
    · rintro (e | ⟨k, hk, e⟩)
      · rw [e]; exact ⟨i, by lia, H.zero.symm⟩
      · exact ⟨k, by lia, e⟩
    · rintro ⟨k, hk, e⟩
      by_cases h : k = i
      · subst h
        exact .inl (H.ord.inj r2 (by decide) (e.symm.trans H.zero.symm))
      · exact .inr ⟨k, by lia, e⟩
theorem pp_nd {q : Nat → Nat} (hq : ∀ i, q i < 4) {i : Nat} (hi : i ≤ 9) : (ppRun (rAt q) i).Nodup ∧ ∀ a ∈ ppRun (rAt q) i, a < 4 := by
  cases i with
  | zero => exact ⟨List.nodup_nil, fun _ h => nomatch h⟩
  | succ i => exact ⟨(okQ_all (pp_oks hq i (by lia)).2).1, (okQ_all (pp_oks hq i (by lia)).2).2.1⟩
theorem map_nd {f : Nat → Nat} : ∀ {l : List Nat}, l.Nodup → (∀ a ∈ l, ∀ b ∈ l, f a = f b → a = b) → (l.map f).Nodup
  | [], _, _ => List.nodup_nil
  | a :: r, h, k => by
    rw [List.nodup_cons] at h
    rw [List.map_cons, List.nodup_cons]
    refine ⟨fun m => ?_, map_nd h.2 fun x hx y hy => k x (List.mem_cons_of_mem _ hx) y (List.mem_cons_of_mem _ hy)⟩
    obtain ⟨b, hb, e⟩ := List.mem_map.mp m
    exact h.1 (k b (List.mem_cons_of_mem _ hb) a List.mem_cons_self e ▸ hb)
theorem asked_zeros {q : Nat → Nat} (hq : ∀ i, q i < 4) (head : Int) : (([0, 1, 2, 3].filter (isIn q)).length) = (pileRun q (hfOf q) head 9).depths.count 0 := by
  rw [(pile_ranks hq head (pp_ok hq) 9 (by lia)).2.1, ← pp_zeros hq 9 (by lia)]
  obtain ⟨n1, n2⟩ := pp_nd hq (i := 9) (by lia)
  have O := ord_ok hq 0 (by lia)
  have hi : ∀ y, y ∈ [0, 1, 2, 3].filter (isIn q) ↔ y ∈ ppRun (rAt q) 9 := by
    intro y
    rw [List.mem_filter, isIn, List.any_eq_true]
    constructor
    · rintro ⟨h, k, hk, e⟩
      have hy : y < 4 := by simp at h; lia
      exact (pp_asked hq 9 (by lia) y hy).mpr ⟨k, List.mem_range.mp hk, eq_of_beq e⟩
    · intro h
      have hy := n2 y h
      obtain ⟨k, hk, e⟩ := (pp_asked hq 9 (by lia) y hy).mp h
      exact ⟨by simp; lia, k, List.mem_range.mpr hk, beq_iff_eq.mpr e⟩
  refine Nat.le_antisymm ?_ ?_
  · exact List.Nodup.length_le_of_subset (List.Pairwise.filter _ (by decide : [0, 1, 2, 3].Nodup)) fun y h => (hi y).mp h
  · exact List.Nodup.length_le_of_subset n1 fun y h => (hi y).mpr h
theorem pre_le {ps : Pcs} (h : ∀ j, lenOf ps j ≤ 13) : ∀ n, preSum (lenOf ps) n ≤ 13 * (n : Int)
  | 0 => by simp [preSum]
  | n + 1 => by
    have := pre_le h n
    have := h n
    rw [preSum]; lia
theorem shown_good {q : Nat → Nat} (hq : ∀ i, q i < 4) (head : Int) : ∀ line ∈ (pileRun q (hfOf q) head 9).shown, (Txt.words line).Nodup ∧ (∀ k ∈ Txt.words line, ∃ p, p < 4 ∧ k = sg p) ∧ line.length ≤ 1000 := by
  rw [(pile_ranks hq head (pp_ok hq) 9 (by lia)).2.2.1]
  intro line hl
  obtain ⟨i, hi, rfl⟩ := List.mem_map.mp hl
  rw [List.mem_range] at hi
  have H := hour hq hi
  obtain ⟨n1, n2⟩ := pp_nd hq (i := i + 1) (by lia)
  have hb : ∀ x ∈ (ppRun (rAt q) (i + 1)).map (fAt q (i + 1)), 1 ≤ x.1 ∧ x.1 ≤ 12 ∧ x.2 < 4 := by
    intro x m
    obtain ⟨a, ha, rfl⟩ := List.mem_map.mp m
    have hlt := H.ord'.lt a (n2 a ha)
    have := nx_bd (q := q) (9 - (i + 1)) _ (by lia) hlt
    refine ⟨?_, ?_, hlt⟩
    · show 1 ≤ nx q (9 - (i + 1)) (oAt q (i + 1) a); lia
    · exact this.2
  have hw := words_pile (P := (ppRun (rAt q) (i + 1)).map (fAt q (i + 1))) fun x m => ⟨(hb x m).1, (hb x m).2.2⟩
  rw [hw, List.map_map]
  refine ⟨?_, ?_, ?_⟩
  · have e : ((fun x : Nat × Nat => sg x.2) ∘ fAt q (i + 1)) = sg ∘ oAt q (i + 1) := rfl
    rw [e, ← List.map_map]
    have := map_nd (f := oAt q (i + 1)) n1 fun a ha b hb e => H.ord'.inj (n2 a ha) (n2 b hb) e
    exact (List.pairwise_map).mpr (this.imp fun h e => h (sg_inj e))
  · intro k m
    obtain ⟨a, ha, rfl⟩ := List.mem_map.mp m
    exact ⟨_, H.ord'.lt a (n2 a ha), rfl⟩
  · have h1 := pileText_length ((ppRun (rAt q) (i + 1)).map (fAt q (i + 1)))
    have h2 := pre_le (ps := pcsOf ((ppRun (rAt q) (i + 1)).map (fAt q (i + 1)))) (fun j => by
      have := pcs_bound (P := (ppRun (rAt q) (i + 1)).map (fAt q (i + 1))) (fun x m => (hb x m).2) j
      unfold lenOf; lia) ((ppRun (rAt q) (i + 1)).map (fAt q (i + 1))).length
    have h3 : (ppRun (rAt q) (i + 1)).length ≤ 4 := by
      have := List.Nodup.length_le_of_subset n1 (l₂ := [0, 1, 2, 3]) fun a m => by have := n2 a m; simp; lia
      simpa using this
    rw [List.length_map] at h1 h2
    lia
end
section
open PySem PySem.W PyProof.Rows PySem.Spec PySem.Calls Builtin
theorem depth_bd {q : Nat → Nat} (hq : ∀ i, q i < 4) (head : Int) : ∀ d ∈ (pileRun q (hfOf q) head 9).depths, d = 0 ∨ d = 1 ∨ d = 2 ∨ d = 3 ∨ d = 4 := by
  rw [(pile_ranks hq head (pp_ok hq) 9 (by lia)).2.1]
  intro d hd
  obtain ⟨i, hi, rfl⟩ := List.mem_map.mp hd
  rw [List.mem_range] at hi
  obtain ⟨n1, n2⟩ := pp_nd hq (i := i) (by lia)
  have h3 : (ppRun (rAt q) i).length ≤ 4 := by
    have := List.Nodup.length_le_of_subset n1 (l₂ := [0, 1, 2, 3]) fun a m => by have := n2 a m; simp; lia
    simpa using this
  have h4 : (rcut (ppRun (rAt q) i)).1 ≤ (ppRun (rAt q) i).length := by
    unfold rcut
    split
    · show _ - _ ≤ _; lia
    · show 0 ≤ _; lia
  lia
noncomputable def ind (d k : Int) : Nat := if d == k then 1 else 0
theorem ind_all : ∀ d, (d = 0 ∨ d = 1 ∨ d = 2 ∨ d = 3 ∨ d = 4) → ind d 0 + (ind d 1 + ind d 2 + ind d 3) + ind d 4 = 1 ∧
    ∀ p : Int, p = 1 ∨ p = 2 ∨ p = 3 → (if 0 < d ∧ d ≤ p then (1 : Int) else 0) = ((ind d 1 + (if p = 1 then 0 else ind d 2) + (if p = 3 then ind d 3 else 0) : Nat) : Int) := by
  intro d h
  constructor
  · rcases h with rfl | rfl | rfl | rfl | rfl <;> rfl
  · intro p hp
    rcases h with rfl | rfl | rfl | rfl | rfl <;> rcases hp with rfl | rfl | rfl <;> rfl
theorem count_all : ∀ ds : List Int, (∀ d ∈ ds, d = 0 ∨ d = 1 ∨ d = 2 ∨ d = 3 ∨ d = 4) →
    ds.count 0 + (ds.count 1 + ds.count 2 + ds.count 3) + ds.count 4 = ds.length ∧
    ∀ p : Int, p = 1 ∨ p = 2 ∨ p = 3 → (ds.map fun d : Int => if 0 < d ∧ d ≤ p then (1 : Int) else 0).sum = ((ds.count 1 + (if p = 1 then 0 else ds.count 2) + (if p = 3 then ds.count 3 else 0) : Nat) : Int)
  | [], _ => ⟨rfl, fun p hp => by rcases hp with rfl | rfl | rfl <;> rfl⟩
  | d :: r, h => by
    obtain ⟨h1, h2⟩ := count_all r fun x hx => h x (List.mem_cons_of_mem _ hx)
    obtain ⟨i1, i2⟩ := ind_all d (h d List.mem_cons_self)
    have e : ∀ k, (d :: r).count k = r.count k + ind d k := fun k => List.count_cons
    constructor
    · rw [e, e, e, e, e, List.length_cons]; lia
    · intro p hp
      rw [List.map_cons, List.sum_cons, h2 p hp, i2 p hp, e, e, e]
      clear i2 h2 i1 h1
      split <;> split <;> lia
theorem poly (b c1 c2 c3 c4 : Nat) : c4 + c3 * (b + 1) + c2 * ((b + 1) * (b + 1)) + c1 * ((b + 1) * (b + 1) * (b + 1)) = (c1 + c2 + c3 + c4) + b * ((c1 + c2 + c3) + (c1 + c2) * (b + 1) + c1 * ((b + 1) * (b + 1))) := by grind
theorem num_eq (ds : List Int) {wd b : Nat} (hb : 2 ^ wd = b + 1) : numD ds wd = (ds.count 1 + ds.count 2 + ds.count 3 + ds.count 4) + b * ((ds.count 1 + ds.count 2 + ds.count 3) + (ds.count 1 + ds.count 2) * (b + 1) + ds.count 1 * ((b + 1) * (b + 1))) := by
  rw [← poly]
  have e2 : 2 ^ (wd * 2) = (b + 1) * (b + 1) := by rw [Nat.pow_mul, hb, Nat.pow_two]
  have e3 : 2 ^ (wd * 3) = (b + 1) * (b + 1) * (b + 1) := by rw [Nat.pow_mul, hb, Nat.pow_succ, Nat.pow_two]
  show 0 + ds.count 4 * 2 ^ (wd * 0) + ds.count 3 * 2 ^ (wd * 1) + ds.count 2 * 2 ^ (wd * 2) + ds.count 1 * 2 ^ (wd * 3) = _
  rw [e2, e3, Nat.mul_zero, Nat.mul_one wd, hb, Nat.pow_zero]
  lia
theorem k_of {a wd K : Nat} (hw : 1 ≤ wd) (h1 : a < 2 ^ (wd * K)) (h2 : K = 0 ∨ 2 ^ (wd * (K - 1)) ≤ a) : (Builtin.Int.intBits (a : Int) + wd - 1) / wd = K := by
  have n1 : Builtin.Int.intBits (a : Int) ≤ wd * K := bits_le h1
  rcases h2 with rfl | h2
  · rw [Nat.mul_zero] at n1
    exact Nat.div_eq_of_lt (by lia)
  · cases K with
    | zero => rw [Nat.mul_zero] at n1; exact Nat.div_eq_of_lt (by lia)
    | succ K =>
      have n2 : ¬ Builtin.Int.intBits (a : Int) ≤ wd * K := fun h => by
        have := intBits_le_iff.mp h
        rw [Int.natAbs_natCast] at this
        rw [Nat.add_sub_cancel] at h2
        lia
      rw [Nat.mul_succ] at n1
      refine Nat.div_eq_of_lt_le ?_ ?_
      · rw [Nat.mul_comm, Nat.mul_succ]; lia
      · rw [Nat.mul_comm, Nat.mul_succ, Nat.mul_succ]; lia
theorem digs_three {f1 f2 f3 wd : Nat} (hw : 1 ≤ wd) (h1 : f1 < 2 ^ wd) (h2 : f2 < 2 ^ wd) (h3 : f3 < 2 ^ wd) :
    digs (f3 + f2 * 2 ^ wd + f1 * (2 ^ wd * 2 ^ wd)) wd ((Builtin.Int.intBits ((f3 + f2 * 2 ^ wd + f1 * (2 ^ wd * 2 ^ wd) : Nat) : Int) + wd - 1) / wd) = stripZ [(f3 : Int), (f2 : Int), (f1 : Int)] := by
  have e2 : 2 ^ (wd * 2) = 2 ^ wd * 2 ^ wd := by rw [Nat.pow_mul, Nat.pow_two]
  have e3 : 2 ^ (wd * 3) = 2 ^ wd * 2 ^ wd * 2 ^ wd := by rw [Nat.pow_mul, Nat.pow_succ, Nat.pow_two]
  have hp : 0 < 2 ^ wd := Nat.two_pow_pos _
  generalize hB : 2 ^ wd = B at *
  have hpp : 0 < B * B := Nat.mul_pos hp hp
  have m1 : ∀ x, x < B → x * B + B ≤ B * B := fun x h => by rw [← Nat.succ_mul]; exact Nat.mul_le_mul_right _ h
  have m2 : ∀ x, x < B → x * (B * B) + B * B ≤ B * B * B := fun x h => by rw [← Nat.succ_mul, Nat.mul_comm (B * B) B]; exact Nat.mul_le_mul_right _ h
  have d0 : (f3 + f2 * B + f1 * (B * B)) / B = f2 + f1 * B := by
    rw [← Nat.mul_assoc, Nat.add_assoc, ← Nat.add_mul, Nat.add_mul_div_right _ _ hp, Nat.div_eq_of_lt h3]; lia
  have d1 : (f2 + f1 * B) / B = f1 := by rw [Nat.add_mul_div_right _ _ hp, Nat.div_eq_of_lt h2]; lia
  have r0 : (f3 + f2 * B + f1 * (B * B)) % B = f3 := by
    rw [← Nat.mul_assoc, Nat.add_assoc, ← Nat.add_mul, Nat.add_mul_mod_self_right, Nat.mod_eq_of_lt h3]
  have r1 : (f2 + f1 * B) % B = f2 := by rw [Nat.add_mul_mod_self_right, Nat.mod_eq_of_lt h2]
  have g0 : ∀ a, a = f3 + f2 * B + f1 * (B * B) → ∀ k, k ≤ 3 → digs a wd k = ([(f3 : Int), (f2 : Int), (f1 : Int)]).take k := by
    intro a ha k hk
    have z0 : a / 2 ^ (wd * 0) % 2 ^ wd = f3 := by rw [Nat.mul_zero, Nat.pow_zero, Nat.div_one, hB, ha, r0]
    have z1 : a / 2 ^ (wd * 1) % 2 ^ wd = f2 := by rw [Nat.mul_one, hB, ha, d0, r1]
    have z2 : a / 2 ^ (wd * 2) % 2 ^ wd = f1 := by rw [e2, ← Nat.div_div_eq_div_mul, ha, d0, d1, hB, Nat.mod_eq_of_lt h1]
    have : k = 0 ∨ k = 1 ∨ k = 2 ∨ k = 3 := by lia
    unfold digs
    rcases this with rfl | rfl | rfl | rfl
    · rfl
    · simp only [List.range_succ, List.range_zero, List.nil_append, List.map_cons, List.map_nil, z0]; rfl
    · simp only [List.range_succ, List.range_zero, List.nil_append, List.map_cons, List.map_nil, List.cons_append, z0, z1]; rfl
    · simp only [List.range_succ, List.range_zero, List.nil_append, List.map_cons, List.map_nil, List.cons_append, z0, z1, z2]; rfl
  have kk : ∀ K, K ≤ 3 → f3 + f2 * B + f1 * (B * B) < 2 ^ (wd * K) → (K = 0 ∨ 2 ^ (wd * (K - 1)) ≤ f3 + f2 * B + f1 * (B * B)) →
      digs (f3 + f2 * B + f1 * (B * B)) wd ((Builtin.Int.intBits ((f3 + f2 * B + f1 * (B * B) : Nat) : Int) + wd - 1) / wd) = ([(f3 : Int), (f2 : Int), (f1 : Int)]).take K := by
    intro K hK a b
    rw [k_of hw a b, g0 _ rfl K hK]
  have e1 : 2 ^ (wd * 1) = B := by rw [Nat.mul_one, hB]
  have e0 : 2 ^ (wd * 0) = 1 := by rw [Nat.mul_zero, Nat.pow_zero]
  by_cases z1 : f1 = 0
  · subst z1
    have q1 : 0 * (B * B) = 0 := Nat.zero_mul _
    by_cases z2 : f2 = 0
    · subst z2
      have q2 : 0 * B = 0 := Nat.zero_mul _
      by_cases z3 : f3 = 0
      · subst z3
        rw [kk 0 (by decide) (by rw [e0]; lia) (.inl rfl)]; rfl
      · rw [kk 1 (by decide) (by rw [e1]; lia) (.inr (by rw [e0]; lia))]
        simp [stripZ, z3]
    · have := m1 f2 h2
      have h4 : B ≤ f2 * B := Nat.le_mul_of_pos_left _ (by lia)
      rw [kk 2 (by decide) (by rw [e2]; lia) (.inr (by rw [e1]; lia))]
      simp [stripZ, z2]
  · have := m1 f2 h2
    have := m2 f1 h1
    have h4 : B * B ≤ f1 * (B * B) := Nat.le_mul_of_pos_left _ (by lia)
    rw [kk 3 (by decide) (by rw [e3]; lia) (.inr (by rw [e2]; lia))]
    simp [stripZ, z1]
theorem pure_law (q : Nat → Nat) (hq : ∀ i, q i < 4) : ∃ hf, ∀ head, PureLaw q hf head := by
  refine ⟨hfOf q, fun head => ?_⟩
  have hlen := (pileRun_ok head (hf_bd hq) hq 9).d
  obtain ⟨ca, cs⟩ := count_all _ (depth_bd hq head)
  have hB : ∀ wd, 4 ≤ wd → ∃ b, 2 ^ wd = b + 1 ∧ 15 ≤ b := fun wd h => ⟨2 ^ wd - 1, by have := Nat.two_pow_pos wd; lia, by
    have : 2 ^ 4 ≤ 2 ^ wd := Nat.pow_le_pow_right (by decide) h
    lia⟩
  refine ⟨fun i hi => hf_hours hi, hf_bd hq, hlen, fun p h1 h3 => depth_best hq head p h1 h3, rows_best hq, held_pile hq head, shown_good hq head, (pile_ranks hq head (pp_ok hq) 9 (by lia)).2.2.2, fun wd h1 _ => ?_, fun wd h1 _ => ?_⟩
  · obtain ⟨b, hb, hb2⟩ := hB wd h1
    rw [num_eq _ hb, hb, Nat.add_sub_cancel, Nat.add_mul_mod_self_left, Nat.mod_eq_of_lt (by lia), asked_zeros hq head]
    lia
  · obtain ⟨b, hb, hb2⟩ := hB wd h1
    rw [num_eq _ hb, hb, Nat.add_sub_cancel, Nat.add_mul_div_left _ _ (by lia), Nat.div_eq_of_lt (by lia), Nat.zero_add, ← hb, digs_three (by lia) (by lia) (by lia) (by lia)]
    have b3 : (bestRun q 3 9).told.sum = _ := (congrArg List.sum (depth_best hq head 3 (by lia) (by lia))).trans (cs 3 (by lia))
    have b2 : (bestRun q 2 9).told.sum = _ := (congrArg List.sum (depth_best hq head 2 (by lia) (by lia))).trans (cs 2 (by lia))
    have b1 : (bestRun q 1 9).told.sum = _ := (congrArg List.sum (depth_best hq head 1 (by lia) (by lia))).trans (cs 1 (by lia))
    rw [b3, b2, b1]
    rfl
end
section
open PySem PySem.W PyProof.Rows
noncomputable def vw : Program := { PySem.Challenge.pw_rs0127_01 with main := { PySem.Challenge.pw_rs0127_01.main with body := [0, 2, 3, 5, 6, 7, 8, 9, 10, 11, 15, 16, 17, 18, 19, 20, 21, 22].filterMap fun i => PySem.Challenge.pw_rs0127_01.main.body[i]? } }
noncomputable def kAs : List Addr := [2, 3, 15, 17, 18, 20, 21, 22, 25, 30, 31, 32, 34, 35, 37, 38, 39, 41, 42, 44, 45, 46, 47, 49, 50, 52, 53, 54, 55, 57, 58, 60, 61, 62, 64, 65, 67, 68, 69, 71, 72, 74, 75, 76, 77, 79, 80, 82, 83, 84, 86, 87, 89, 90, 91, 92, 94, 95, 97, 98, 99, 100, 101, 102, 103, 106, 108, 109, 111, 112, 113, 115, 116, 118, 119, 120, 122, 123, 125, 126, 127, 129, 130, 132, 133, 134, 136, 137, 139, 140, 141, 143, 144, 146, 147, 148, 149, 150, 152, 153, 155, 156, 157, 160, 161, 162, 164, 165, 167, 168, 169, 171, 172, 174, 175, 176, 179, 180, 181, 183, 184, 186, 187, 188, 191, 192, 193, 196, 197, 198, 201, 202]
noncomputable def kHk : Hook := kmHook K0 kAs (fun _ => by kernel_rfl) [63, 70, 121, 128]
set_option maxHeartbeats 0
theorem sd_open : PySem.W.Fast.tw12908688711261696721 (PySem.W.Fast.tw2368527892694137696 PySem.Challenge.rw_rs0127_01).prog = true := by
  unfold PySem.W.Fast.tw12908688711261696721
  repeat' with_reducible refine look_both ?_ ?_
  all_goals decide +kernel
theorem sd_part : PySem.W.Fast.tw2436336058641802641 (PySem.W.Fast.tw2368527892694137696 PySem.Challenge.rw_rs0127_01) = true := by
  unfold PySem.W.Fast.tw2436336058641802641
  repeat' with_reducible refine look_both ?_ ?_
  · exact sd_open
  all_goals decide +kernel
theorem sd_row : PySem.W.Fast.tw17960256430627541270 (PySem.W.Fast.tw2368527892694137696 PySem.Challenge.rw_rs0127_01) = true := by
  unfold PySem.W.Fast.tw17960256430627541270
  repeat' with_reducible refine look_both ?_ ?_
  · exact sd_part
  all_goals decide +kernel
theorem hd_said : PySem.Challenge.rw_rs0127_01.wellSaid = true := by
  rw [PySem.W.Fast.te9446332074065402090]; unfold PySem.W.Fast.tw9446332074065402090
  repeat' with_reducible refine look_both ?_ ?_
  · exact sd_row
  all_goals decide +kernel
theorem top_quick : @topFrom = fun tb p w N s₀ => match s₀.heap.isNs mainGlobals && s₀.gens.size == 0 with
  | true => (PySem.W.Fast.tw14082659384304107361 tb p w s₀.heap.objs.size (s₀.heap.nsMap mainGlobals "__annotations__") N s₀ (topStub p)).bind fun s₁ => match staticsOk (importedModules p.main.body) s₀.heap s₁.heap && namesBound p s₁.heap && gensDone s₁ && laidKept s₀.heap s₁.heap with
      | true => some s₁
      | false => none
  | false => none := by
  funext tb p w N s₀
  unfold topFrom
  rw [PySem.W.Fast.te14082659384304107361]
  rfl
theorem hd_left : LeftO PySem.Challenge.rw_rs0127_01.row.prog vw [Str.ofString "_Accumulator", Str.ofString "bisect_right"] (fun s => xlAt vw [] s && recOk (RowW.records PySem.Challenge.rw_rs0127_01.row.toRowW) s) (Hook.obs kHk) (Hook.val kHk) 2286 := by
  intro w; unfold openEnds; rw [top_quick, PySem.W.Fast.te14364793385576792824]; kernel_rfl
end
section
open PySem PySem.W PyProof.Rows PySem.Spec PySem.Calls
variable {w : World} {h : Heap}
theorem kk_law {P : Params} : nsIn (KK P) mainGlobals "law" = some (some (.ref 202)) := by kernel_rfl!
theorem cd_63 {P : Params} : codeHdIn (KK P) 67 63 = true := by kernel_rfl!
theorem cd_70 {P : Params} : codeHdIn (KK P) 74 70 = true := by kernel_rfl!
theorem cd_121 {P : Params} : codeHdIn (KK P) 125 121 = true := by kernel_rfl!
theorem cd_128 {P : Params} : codeHdIn (KK P) 132 128 = true := by kernel_rfl!
theorem kk_statics {P : Params} : ∃ n, (KK P).lookup cStatics = some ⟨.none, none, .dict #[] n, #[]⟩ := ⟨_, rfl⟩
theorem tq_of (X : (KK w.params).In h) (ht : ∀ P ∈ ([63, 70, 121, 128] : List Addr), h.get? P = some (tabObj #[])) (hb : ∃ sl, h.get? 4 = some ⟨.type "module", some builtinsNs, .plain, sl⟩) : Tq h := by
  have one : ∀ c P, codeHdIn (KK w.params) c P = true → P ∈ ([63, 70, 121, 128] : List Addr) → h.IsCode c P #[] ∧ h.TableAt c P #[] := fun c P e m =>
    ⟨(codeHd_of_K X e).code (ht P m) trivial, (codeHd_of_K X e).tab (ht P m)⟩
  obtain ⟨n, hs⟩ := kk_statics (P := w.params)
  exact ⟨⟨⟨_, one _ _ cd_63 (by decide)⟩, ⟨_, one _ _ cd_70 (by decide)⟩, one _ _ cd_121 (by decide), one _ _ cd_128 (by decide),
    ⟨fun _ => none, ⟨_, #[], n, X _ _ hs, rfl, by intro e he; simp at he, fun _ => rfl⟩, rfl⟩⟩, hb⟩
theorem pr_law : Pr PySem.Challenge.rw_rs0127_01.row.prog := ⟨by decide +kernel, by decide +kernel⟩
theorem old_law (X : (KK w.params).In h) (ht : ∀ P ∈ ([63, 70, 121, 128] : List Addr), h.get? P = some (tabObj #[])) {s s' : Shared} (e : s.heap = h) (G : Gr false s s') (TB : Tabs s'.heap) : OldK s.heap s'.heap := by
  subst e
  have ist : ∀ b, isTab b = true → isCodeTable s.heap b ∧ s.heap.get? b = some (tabObj #[]) := by
    intro b hb
    have : b = 63 ∨ b = 70 ∨ b = 121 ∨ b = 128 := by simpa [isTab, or_assoc] using hb
    have one : ∀ c P, codeHdIn (KK w.params) c P = true → P ∈ ([63, 70, 121, 128] : List Addr) → isCodeTable s.heap P ∧ s.heap.get? P = some (tabObj #[]) := fun c P e m =>
      ⟨⟨c, ((codeHd_of_K X e).tab (ht P m)).1⟩, ht P m⟩
    rcases this with rfl | rfl | rfl | rfl
    · exact one _ _ cd_63 (by decide)
    · exact one _ _ cd_70 (by decide)
    · exact one _ _ cd_121 (by decide)
    · exact one _ _ cd_128 (by decide)
  refine ⟨fun b o hb => ?_, fun b o hb => ?_⟩
  · cases hq : isTab b with
    | false => exact .inl (G.keep b o (off hq) hb)
    | true =>
      obtain ⟨h1, h2⟩ := ist b hq
      rw [h2] at hb; cases hb
      obtain ⟨ps, h3⟩ := TB b hq
      exact .inr (.inl ⟨h1, rfl, #[], ps, rfl, by rw [h3, Array.empty_append]⟩)
  · cases hq : isTab b with
    | false => exact ⟨o, G.keep b o (off hq) hb⟩
    | true => obtain ⟨ps, h3⟩ := TB b hq; exact ⟨_, h3⟩

set_option maxHeartbeats 0 in
theorem fin : PySem.Challenge.rw_rs0127_01.Holds := by
  w_on
  refine holds_law hd_said fun said => ?_
  refine holds_open (q := vw) (loose := [Str.ofString "_Accumulator", Str.ofString "bisect_right"]) (Xt := fun s => xlAt vw [] s && recOk (RowW.records PySem.Challenge.rw_rs0127_01.row.toRowW) s) (XP := XL vw []) (Yf := Hook.obs kHk) (Ya := Hook.val kHk) (YP := Hook.says kHk) (N := 2286) hd_left (Hook.of kHk) (Hook.keeps kHk)
    (fun s e => xl_of s (Bool.and_eq_true_iff.mp e).1) XL.keeps (by rfl) (by rfl) (by rfl) (fun s e => recFacts_of (Bool.and_eq_true_iff.mp e).2) rfl (by first | assumption | decide +kernel) (by decide +kernel) ⟨rfl, rfl, rfl, rfl, rfl, by decide +kernel⟩ ?hw ?hc
  case hw => w_witness2
  intro w s₀ s₁ mg mb G Y fa o pm cd doc dV kV ho hd hcd hD hmg hg args vals as hpre hlay hrd hwl hlo
  have X : (KK w.params).In s₁.heap := Y.1
  have hT : ∀ P ∈ ([63, 70, 121, 128] : List Addr), s₁.heap.get? P = some (tabObj #[]) := Y.2
  have T := G.T
  have B : Bs w s₁.heap := ⟨X, ⟨mg, T.g⟩, ⟨mb, T.b, T.builtins⟩, T.nolimit⟩
  have h4 : ∃ sl, s₁.heap.get? 4 = some ⟨.type "module", some builtinsNs, .plain, sl⟩ := by
    obtain ⟨bm, ob, e1, _, e2, e3, e4, e5⟩ := T.bmain
    have := e1.symm.trans (mg_of X T.g ns_bi)
    cases this
    obtain ⟨c1, c2, c3, c4⟩ := ob
    dsimp only at e3 e4 e5
    subst e3 e4 e5
    exact ⟨_, e2⟩
  have hfa : fa = 202 := by
    have h1 : mg "law" = some (.ref fa) := hmg
    have := h1.symm.trans (mg_of X T.g kk_law)
    cases this; rfl
  subst hfa
  clear hmg hD hcd hd ho T G Y
  wrow_args hpre hlay hrd hwl hlo
  rename_i ns _ _ _ _ _ _ _ sl vs _ hL _ _ _ hI _ hc1 hc2
  refine law_spec pr_law B (tq_of X hT h4) (by decide) rfl (by decide) hL hI ?_ pure_law fun s' Gs TB => ?_
  · have := IntsAre.length hI
    rw [sizeLine_eq]; lia
  · have hb : AllBare s₁.gens → AllBare s'.gens := by simpa using Gs.gens
    have hpost : PySem.Challenge.rw_rs0127_01.row.claim.post [ofPy (PyData.list (List.map PyData.int ns))] (WData.bool true) [ofPy (PyData.list (List.map PyData.int ns))] = true := by
      first | kernel_rfl | decide +kernel | (simp [RowW.claim, OpenLaw.row]; done)
    exact ⟨.inl ⟨.bool true, .bool true, [], rfl, fun _ => rfl, .bool true, hpost, fun _ => ⟨List.nodup_nil, fun a h => nomatch h⟩⟩, old_law X hT rfl Gs TB, Gs.os, hb (.of_eq hg)⟩
end
end Mine
open PySem PySem.W PyProof.Rows
set_option maxHeartbeats 4000000 in
theorem PySem.Challenge.cw_rs0127_01_holds : PySem.Challenge.rw_rs0127_01.Holds := by
  exact Mine.fin
